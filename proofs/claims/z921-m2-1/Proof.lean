import JvmDerived
import JvmDerived.Pilot.@@N@@Statement
import JvmDerived.Pilot.@@N@@Code
set_option linter.unusedVariables false
set_option linter.unusedSimpArgs false
@@BLOCK:NumsL.lean.txt@@
namespace Jvm.RoadKit
open Sem ClassFile Op Lib Jvm.Stand Jvm.Free Jvm.LawKit
section New
variable {p : Program} {l : Launch} {e : Env} {R : Room} {s : State} {m : MethodId} {args : Array Value} {below : List Frame} {meth : Method} {c : Code} {T T' : State} {locs : List Loc} {cells slots : Nat}
theorem retI (X : Stand p l e R s m args below meth c T locs cells slots) (hx : p.tables.exec = Jvm.exec) {pc : Nat} {Ls : Array Slot} {z : Int32} {rest : List Value} (hret : meth.sig.returnType = some .int) (hd : decode c.code pc = .ok (.ireturn, 1)) {fs : List Frame}
    (hl : ∀ (f : JFrame) (acts : List Action), f.method = m → f.locked = none → f.entered = [] → (doReturn e (T.setTop f) acts (some (.int z))).1 = T.setFrames fs) : Steps p.tables e below (T.setTop (mkF m pc Ls (.int z :: rest))) (T.setFrames fs) :=
  retOut X hx hret rfl (Or.inl ⟨rfl, Or.inl rfl, _, rfl⟩) hd hl
theorem retL (X : Stand p l e R s m args below meth c T locs cells slots) (hx : p.tables.exec = Jvm.exec) {pc : Nat} {Ls : Array Slot} {z : Int64} {rest : List Value} (hret : meth.sig.returnType = some .long) (hd : decode c.code pc = .ok (.lreturn, 1)) {fs : List Frame}
    (hl : ∀ (f : JFrame) (acts : List Action), f.method = m → f.locked = none → f.entered = [] → (doReturn e (T.setTop f) acts (some (.long z))).1 = T.setFrames fs) : Steps p.tables e below (T.setTop (mkF m pc Ls (.long z :: rest))) (T.setFrames fs) :=
  retOut X hx hret rfl (Or.inr (Or.inl ⟨rfl, rfl, _, rfl⟩)) hd hl
theorem retA (X : Stand p l e R s m args below meth c T locs cells slots) (hx : p.tables.exec = Jvm.exec) {pc : Nat} {Ls : Array Slot} {w : Value} {t : FieldType} {rest : List Value} (hret : meth.sig.returnType = some t) (ht : t.isReference = true) (hw : w.isRef = true) (hd : decode c.code pc = .ok (.areturn, 1)) {fs : List Frame}
    (hl : ∀ (f : JFrame) (acts : List Action), f.method = m → f.locked = none → f.entered = [] → (doReturn e (T.setTop f) acts (some w)).1 = T.setFrames fs) : Steps p.tables e below (T.setTop (mkF m pc Ls (w :: rest))) (T.setFrames fs) :=
  retOut X hx hret (by rcases ref_cases hw with rfl | ⟨a, rfl⟩ <;> cases t <;> first | rfl | cases ht) (Or.inr (Or.inr (Or.inr (Or.inr ⟨rfl, ht, hw⟩)))) hd hl
theorem mvMN {Z : State} {a0 args : Array Value} {own host : String} {y : MethodName} {index : Nat} (hZ : Z.Warmed39 s.vm) (w : (Cond.methodLinkNest own index y host).before a0 Z = true) : (Cond.methodLinkNest own index y host).before args s = true := (Cond.methodLinkNest_wide hZ w :)
/-! the walk by continuations -/
variable {W : State → Prop} {g g' : JFrame}
def Goes (p : Program) (e : Env) (below : List Frame) (W : State → Prop) (T : State) (g : JFrame) : Prop := ∃ t, Steps p.tables e below (T.setTop g) t ∧ W t
def EndW (s : State) (below : List Frame) (Q : Option Value → Heap → List Loc → Prop) (k n : Nat) (t : State) : Prop := t.status = .running ∧ ∃ o, Ended t below o ∧ ∃ v L, o = .returned v ∧ Q v t.heap L ∧ FrameEnd s o t L k n
theorem Goes.on (k : Goes p e below W T' g') (h : ∀ t, Steps p.tables e below (T'.setTop g') t → Steps p.tables e below (T.setTop g) t) : Goes p e below W T g := by
  obtain ⟨t, h1, h2⟩ := k; exact ⟨t, h t h1, h2⟩
theorem Goes.done {Q : Option Value → Heap → List Loc → Prop} {k n : Nat} (h : Goes p e below (EndW s below Q k n) T g) :
    ∃ s₂ o, Steps p.tables e below (T.setTop g) s₂ ∧ s₂.status = .running ∧ Ended s₂ below o ∧ ∃ v L, o = .returned v ∧ Q v s₂.heap L ∧ FrameEnd s o s₂ L k n := by
  obtain ⟨t, h1, h2, o, h3, h4⟩ := h; exact ⟨t, o, h1, h2, h3, h4⟩
theorem Goes.retn {Q : Option Value → Heap → List Loc → Prop} {k n : Nat} (X : Stand p l e R s m args below meth c T locs cells slots) {v : Option Value}
    (st : ∀ fs, (∀ (f : JFrame) (acts : List Action), f.method = m → f.locked = none → f.entered = [] → (doReturn e (T.setTop f) acts v).1 = T.setFrames fs) → Steps p.tables e below (T.setTop g) (T.setFrames fs))
    (hv : meth.sig.returnType = none → v = none) (hlocks : meth.locks = false) (hk : cells ≤ k) (hn : slots ≤ n) (hQ : Q v T.heap locs) : Goes p e below (EndW s below Q k n) T g := by
  obtain ⟨fs, hr, hrun, hended, hW, hsame⟩ := X.leave hv hlocks
  exact ⟨_, st fs hr, hrun, _, hended, _, _, rfl, hQ, ⟨_, rfl⟩, hW, hsame.mono hk hn⟩
theorem cmp_eq (x y : Int32) : if_icmp.holds .eq x y = decide (x = y) := by by_cases h : x = y <;> simp [h, (teq · |>.1), (feq · |>.1)]
theorem cmp_ne (x y : Int32) : if_icmp.holds .ne x y = !decide (x = y) := by by_cases h : x = y <;> simp [h, (teq · |>.2), (feq · |>.2)]
theorem cmp_lt (x y : Int32) : if_icmp.holds .lt x y = decide (x < y) := by simp [if_icmp.holds]
theorem cmp_ge (x y : Int32) : if_icmp.holds .ge x y = !decide (x < y) := by by_cases h : x < y <;> simp [h, (tlt · |>.2.1), (flt · |>.2.1)]
theorem cmp_gt (x y : Int32) : if_icmp.holds .gt x y = decide (y < x) := by by_cases h : y < x <;> simp [h, (tlt · |>.2.2.1), (flt · |>.2.2.1)]
theorem cmp_le (x y : Int32) : if_icmp.holds .le x y = !decide (y < x) := by by_cases h : y < x <;> simp [h, (tlt · |>.2.2.2), (flt · |>.2.2.2)]
theorem ifc_eq (x y : Int32) (h : y = 0 := by rfl) : ifCond.holds .eq x = decide (x = y) := by subst h; rw [if0, cmp_eq]
theorem ifc_ne (x y : Int32) (h : y = 0 := by rfl) : ifCond.holds .ne x = !decide (x = y) := by subst h; rw [if0, cmp_ne]
theorem ifc_lt (x y : Int32) (h : y = 0 := by rfl) : ifCond.holds .lt x = decide (x < y) := by subst h; rw [if0, cmp_lt]
theorem ifc_ge (x y : Int32) (h : y = 0 := by rfl) : ifCond.holds .ge x = !decide (x < y) := by subst h; rw [if0, cmp_ge]
theorem ifc_gt (x y : Int32) (h : y = 0 := by rfl) : ifCond.holds .gt x = decide (y < x) := by subst h; rw [if0, cmp_gt]
theorem ifc_le (x y : Int32) (h : y = 0 := by rfl) : ifCond.holds .le x = !decide (y < x) := by subst h; rw [if0, cmp_le]
theorem Goes.icmpP (X : Stand p l e R s m args below meth c T locs cells slots) (hx : p.tables.exec = Jvm.exec) (hg : g.method = m) {cd : ClassFile.Cond} {o : Int} {x y : Int32} {rest : List Value} {pc0 pc' : Nat} (hpc : g.pc = pc0) (hd : decode c.code g.pc = .ok (.if_icmp cd o, 3)) (hs : g.stack = .int y :: .int x :: rest) (ho : 0 ≤ (pc0 : Int) + o) (hp : ((pc0 : Int) + o).toNat = pc') {P : Prop} [Decidable P] (hP : if_icmp.holds cd x y = decide P)
    (yes : P → Goes p e below W T { g with pc := pc', stack := rest }) (no : ¬ P → Goes p e below W T { g with pc := g.pc + 3, stack := rest }) : Goes p e below W T g := by
  by_cases h : P
  · exact (yes h).on fun t k => XS.icmpYes X.here hx hg hpc hd hs (by rw [hP]; exact decide_eq_true h) ho hp k
  · exact (no h).on fun t k => XS.icmpNo X.here hx hg hd hs (by rw [hP]; exact decide_eq_false h) k
theorem Goes.icmpN (X : Stand p l e R s m args below meth c T locs cells slots) (hx : p.tables.exec = Jvm.exec) (hg : g.method = m) {cd : ClassFile.Cond} {o : Int} {x y : Int32} {rest : List Value} {pc0 pc' : Nat} (hpc : g.pc = pc0) (hd : decode c.code g.pc = .ok (.if_icmp cd o, 3)) (hs : g.stack = .int y :: .int x :: rest) (ho : 0 ≤ (pc0 : Int) + o) (hp : ((pc0 : Int) + o).toNat = pc') {P : Prop} [Decidable P] (hP : if_icmp.holds cd x y = !decide P)
    (yes : ¬ P → Goes p e below W T { g with pc := pc', stack := rest }) (no : P → Goes p e below W T { g with pc := g.pc + 3, stack := rest }) : Goes p e below W T g := by
  by_cases h : P
  · exact (no h).on fun t k => XS.icmpNo X.here hx hg hd hs (by rw [hP, decide_eq_true h]; rfl) k
  · exact (yes h).on fun t k => XS.icmpYes X.here hx hg hpc hd hs (by rw [hP, decide_eq_false h]; rfl) ho hp k
theorem Goes.ifP (X : Stand p l e R s m args below meth c T locs cells slots) (hx : p.tables.exec = Jvm.exec) (hg : g.method = m) {cd : ClassFile.Cond} {o : Int} {x : Int32} {rest : List Value} {pc0 pc' : Nat} (hpc : g.pc = pc0) (hd : decode c.code g.pc = .ok (.ifCond cd o, 3)) (hs : g.stack = .int x :: rest) (ho : 0 ≤ (pc0 : Int) + o) (hp : ((pc0 : Int) + o).toNat = pc') {P : Prop} [Decidable P] (hP : ifCond.holds cd x = decide P)
    (yes : P → Goes p e below W T { g with pc := pc', stack := rest }) (no : ¬ P → Goes p e below W T { g with pc := g.pc + 3, stack := rest }) : Goes p e below W T g := by
  by_cases h : P
  · exact (yes h).on fun t k => XS.ifYes X.here hx hg hpc hd hs (by rw [hP]; exact decide_eq_true h) ho hp k
  · exact (no h).on fun t k => XS.ifNo X.here hx hg hd hs (by rw [hP]; exact decide_eq_false h) k
theorem Goes.ifN (X : Stand p l e R s m args below meth c T locs cells slots) (hx : p.tables.exec = Jvm.exec) (hg : g.method = m) {cd : ClassFile.Cond} {o : Int} {x : Int32} {rest : List Value} {pc0 pc' : Nat} (hpc : g.pc = pc0) (hd : decode c.code g.pc = .ok (.ifCond cd o, 3)) (hs : g.stack = .int x :: rest) (ho : 0 ≤ (pc0 : Int) + o) (hp : ((pc0 : Int) + o).toNat = pc') {P : Prop} [Decidable P] (hP : ifCond.holds cd x = !decide P)
    (yes : ¬ P → Goes p e below W T { g with pc := pc', stack := rest }) (no : P → Goes p e below W T { g with pc := g.pc + 3, stack := rest }) : Goes p e below W T g := by
  by_cases h : P
  · exact (no h).on fun t k => XS.ifNo X.here hx hg hd hs (by rw [hP, decide_eq_true h]; rfl) k
  · exact (yes h).on fun t k => XS.ifYes X.here hx hg hpc hd hs (by rw [hP, decide_eq_false h]; rfl) ho hp k
theorem Goes.acmpR (X : Stand p l e R s m args below meth c T locs cells slots) (hx : p.tables.exec = Jvm.exec) (hg : g.method = m) {cd : ACond} {o : Int} {a b : Addr} {rest : List Value} {pc0 pcE pcN : Nat} (hpc : g.pc = pc0) (hd : decode c.code g.pc = .ok (.if_acmp cd o, 3)) (hs : g.stack = .ref b :: .ref a :: rest) (ho : 0 ≤ (pc0 : Int) + o)
    (hE : pcE = if acV cd true = true then ((pc0 : Int) + o).toNat else pc0 + 3) (hN : pcN = if acV cd false = true then ((pc0 : Int) + o).toNat else pc0 + 3)
    (eq : a = b → Goes p e below W T { g with pc := pcE, stack := rest }) (ne : ¬ a = b → Goes p e below W T { g with pc := pcN, stack := rest }) : Goes p e below W T g := by
  by_cases h : a = b
  · exact (eq h).on fun t k => Jvm.RoadKit.acmp X hx hg rfl rfl hpc hd hs (decide_eq_true (congrArg Value.ref h)) ho hE k
  · exact (ne h).on fun t k => Jvm.RoadKit.acmp X hx hg rfl rfl hpc hd hs (decide_eq_false fun q => h (Value.ref.inj q)) ho hN k
/-! the same where String constants may be loaded cold -/
def EndWW (s : State) (below : List Frame) (Q : Option Value → Heap → List Loc → Prop) (k n : Nat) (t : State) : Prop := t.status = .running ∧ ∃ o, Ended t below o ∧ ∃ v L, o = .returned v ∧ Q v t.heap L ∧ ReturnedEndW s o t L k n
theorem Goes.doneW {Q : Option Value → Heap → List Loc → Prop} {k n : Nat} (h : Goes p e below (EndWW s below Q k n) T g) :
    ∃ s₂ o, Steps p.tables e below (T.setTop g) s₂ ∧ s₂.status = .running ∧ Ended s₂ below o ∧ ∃ v L, o = .returned v ∧ Q v s₂.heap L ∧ ReturnedEndW s o s₂ L k n := by
  obtain ⟨t, h1, h2, o, h3, h4⟩ := h; exact ⟨t, o, h1, h2, h3, h4⟩
theorem Goes.retnW {Q : Option Value → Heap → List Loc → Prop} {k n n1 : Nat} {vm₁ : Vm} (X : Stand p l e R (s.setVm vm₁) m args below meth c T locs cells slots) (hS : s.Since vm₁ n1) (hle : n1 ≤ T.heap.size) {v : Option Value}
    (st : ∀ fs, (∀ (f : JFrame) (acts : List Action), f.method = m → f.locked = none → f.entered = [] → (doReturn e (T.setTop f) acts v).1 = T.setFrames fs) → Steps p.tables e below (T.setTop g) (T.setFrames fs))
    (hv : meth.sig.returnType = none → v = none) (hlocks : meth.locks = false) (hk : cells ≤ k) (hn : slots ≤ n) (hQ : Q v T.heap locs) : Goes p e below (EndWW s below Q k n) T g := by
  obtain ⟨fs, hr, hrun, hended, hW⟩ := X.leaveW hS hle hv hlocks
  exact ⟨_, st fs hr, hrun, _, hended, _, _, rfl, hQ, hW.1, hW.2.1, hW.2.2.1, hW.2.2.2.mono hk hn⟩
/-! the same in a callee whose start may have interned: the invariant of the constants held goes with it -/
def EndWH (Z : State) (EL : List (String × Nat)) (s : State) (below : List Frame) (Q : Option Value → Heap → List Loc → Prop) (k n : Nat) (t : State) : Prop := t.status = .running ∧ ∃ o, Ended t below o ∧ ∃ v L, o = .returned v ∧ Q v t.heap L ∧ CHr Z EL s.vm s.heap t.vm t.heap ∧ ReturnedEndW s o t L k n
theorem Goes.doneH {Z : State} {EL : List (String × Nat)} {Q : Option Value → Heap → List Loc → Prop} {k n : Nat} (h : Goes p e below (EndWH Z EL s below Q k n) T g) :
    ∃ s₂ o, Steps p.tables e below (T.setTop g) s₂ ∧ s₂.status = .running ∧ Ended s₂ below o ∧ ∃ v L, o = .returned v ∧ Q v s₂.heap L ∧ CHr Z EL s.vm s.heap s₂.vm s₂.heap ∧ ReturnedEndW s o s₂ L k n := by
  obtain ⟨t, h1, h2, o, h3, h4⟩ := h; exact ⟨t, o, h1, h2, h3, h4⟩
theorem Goes.retnH {Z : State} {a0 : Array Value} {EL : List (String × Nat)} {h0 h : Heap} {Q : Option Value → Heap → List Loc → Prop} {k n n1 : Nat} {vm₁ : Vm} (X : Stand p l e R (s.setVm vm₁) m args below meth c T locs cells slots) (hS : s.Since vm₁ n1) (eT : T.heap = h) (hle : n1 ≤ h.size) (hZ : Z.Warmed39 vm₁) (hEL : EW Z a0 EL) (hh : s.heap = h0) (C : CHr Z EL s.vm h0 vm₁ h) {v : Option Value}
    (st : ∀ fs, (∀ (f : JFrame) (acts : List Action), f.method = m → f.locked = none → f.entered = [] → (doReturn e (T.setTop f) acts v).1 = T.setFrames fs) → Steps p.tables e below (T.setTop g) (T.setFrames fs))
    (hv : meth.sig.returnType = none → v = none) (hlocks : meth.locks = false) (hk : cells ≤ k) (hn : slots ≤ n) (hQ : Q v T.heap locs) : Goes p e below (EndWH Z EL s below Q k n) T g := by
  subst eT
  obtain ⟨fs, hr, hrun, hended, hW⟩ := X.leaveW hS hle hv hlocks
  exact ⟨_, st fs hr, hrun, _, hended, _, _, rfl, hQ, by rw [hh]; have q := C.trans (CHv.at X hZ hEL C.1); exact q, hW.1, hW.2.1, hW.2.2.1, hW.2.2.2.mono hk hn⟩
/-- a contract that keeps the invariant, as a way back; xs: what must be no constant's -/
theorem backSH {Z : State} {a0 : Array Value} {EL : List (String × Nat)} {h : Heap} {vm0 : Vm} {y : MethodName} {bytes : ByteArray} {maxL : Nat} {ret : Option FieldType} {rm : Room} {len W : Nat} {as' : Array Value} {xs : List Addr} {Q : Option Value → Heap → List Loc → Prop}
    (hM : MetFree l y (head1 [Cond.code y bytes maxL ret] rm) (fun a U => a = as' ∧ Z.Warmed39 U.vm ∧ U.heap = h ∧ CHv Z EL U.vm h ∧ ∀ y ∈ xs, Safe Z EL U.vm h y) (fun _ _ _ _ _ => True) (fun _ U o U' => ∃ v L, o = .returned v ∧ Q v U'.heap L ∧ CHr Z EL U.vm U.heap U'.vm U'.heap ∧ ReturnedEndW U o U' L rm.cells rm.slots))
    (hZ : Z.Warmed39 vm0) (wc : (Cond.code y bytes maxL ret).before a0 Z = true) (wz : (Cond.initialized y.cls).before a0 Z = true) (hf : rm.frames + 1 ≤ R.frames) (hl : W + (maxL + 11) + rm.locals ≤ R.locals) (hEL : EW Z a0 EL) (H : CHv Z EL vm0 h) (hs : ∀ y ∈ xs, y < h.size ∧ Safe Z EL vm0 h y) :
    BackS l R p e below (s.setVm vm0) args y len W (fun A a => a = as' ∧ A.U.heap = h ∧ A.cells + rm.cells ≤ R.cells ∧ A.slots + rm.slots ≤ R.slots)
      (fun A _ v B => ∃ L, Q v B.U.heap L ∧ B.locs = A.locs ++ L ∧ B.cells = A.cells + rm.cells ∧ B.slots = A.slots + rm.slots ∧ CHr Z EL vm0 h B.U.vm B.U.heap) :=
  BackS.of_freeW (bytes := bytes) (maxL := maxL) (ret := ret) (E := fun _ first o t L k n => k = rm.cells ∧ n = rm.slots ∧ (∃ v, o = .returned v ∧ Q v t.heap L) ∧ CHr Z EL first.vm first.heap t.vm t.heap) hM hf hl
    (fun m meth c A a Y hp => have hU : Z.Warmed39 A.U.vm := wtrans (s := s.setVm vm0) hZ Y.warmed
      ⟨by show (Cond.and _ .tt).before a A.U = true; rw [Cond.before_and, mv hU wc]; rfl, mv hU wc, mv hU wz, hp.2.2.1, hp.2.2.2⟩)
    (fun m meth c A a g mk Y hp => ⟨hp.1, wtrans (s := s.setVm vm0) hZ Y.warmed, hp.2.1, (CHv.at Y hZ hEL H).1, fun y hy => (CHv.at Y hZ hEL H).safe (hs y hy).1 (hs y hy).2⟩) (fun _ _ _ _ _ _ _ _ _ => trivial)
    (fun _ _ _ _ ⟨v, L, h1, h2, h3, h4⟩ => ⟨L, _, _, h4, rfl, rfl, ⟨v, h1, h2⟩, h3⟩)
    (fun m meth c A a g mk v t L k n Y hp _ _ ⟨e1, e2, ⟨v', e3, e4⟩, e5⟩ => by
      cases e3; subst e1 e2
      refine ⟨L, e4, rfl, rfl, rfl, (CHv.at Y hZ hEL H).trans ?_⟩
      rw [← hp.2.1]; exact e5)
theorem own_sfC {P : Addr → Prop} {x : Addr} {xs : List Addr} (h : P x) (k : ∀ y ∈ xs, P y) : ∀ y ∈ x :: xs, P y := fun y hy => by
  rcases List.mem_cons.mp hy with rfl | hy
  · exact h
  · exact k y hy
end New
end Jvm.RoadKit
namespace Jvm.Pilot.@@N@@
open Jvm Jvm.ClassFile Sem Op Lib Jvm.Free Jvm.Stand Jvm.LawKit Jvm.RoadKit Bundle Jvm.Pilot.@@N@@.Jvm.D
theorem d1_0 : decode method_2_code 0 = .ok (.iload_n 0, 1) := by decide +kernel
theorem d1_1 : decode method_2_code 1 = .ok (.bipush 16, 2) := by decide +kernel
theorem d1_3 : decode method_2_code 3 = .ok (.iushr, 1) := by decide +kernel
theorem d1_4 : decode method_2_code 4 = .ok (.bipush 7, 2) := by decide +kernel
theorem d1_6 : decode method_2_code 6 = .ok (.iand, 1) := by decide +kernel
theorem d1_7 : decode method_2_code 7 = .ok (.istore_n 1, 1) := by decide +kernel
theorem d1_8 : decode method_2_code 8 = .ok (.iload_n 1, 1) := by decide +kernel
theorem d1_9 : decode method_2_code 9 = .ok (.ifCond .ne 6, 3) := by decide +kernel
theorem d1_12 : decode method_2_code 12 = .ok (.bipush 47, 2) := by decide +kernel
theorem d1_14 : decode method_2_code 14 = .ok (.ireturn, 1) := by decide +kernel
theorem d1_15 : decode method_2_code 15 = .ok (.iload_n 1, 1) := by decide +kernel
theorem d1_16 : decode method_2_code 16 = .ok (.iconst 1, 1) := by decide +kernel
theorem d1_17 : decode method_2_code 17 = .ok (.if_icmp .ne 6, 3) := by decide +kernel
theorem d1_20 : decode method_2_code 20 = .ok (.bipush 58, 2) := by decide +kernel
theorem d1_22 : decode method_2_code 22 = .ok (.ireturn, 1) := by decide +kernel
theorem d1_23 : decode method_2_code 23 = .ok (.iload_n 1, 1) := by decide +kernel
theorem d1_24 : decode method_2_code 24 = .ok (.iconst 2, 1) := by decide +kernel
theorem d1_25 : decode method_2_code 25 = .ok (.if_icmp .ne 6, 3) := by decide +kernel
theorem d1_28 : decode method_2_code 28 = .ok (.bipush 105, 2) := by decide +kernel
theorem d1_30 : decode method_2_code 30 = .ok (.ireturn, 1) := by decide +kernel
theorem d1_31 : decode method_2_code 31 = .ok (.iload_n 1, 1) := by decide +kernel
theorem d1_32 : decode method_2_code 32 = .ok (.iconst 3, 1) := by decide +kernel
theorem d1_33 : decode method_2_code 33 = .ok (.if_icmp .ne 6, 3) := by decide +kernel
theorem d1_36 : decode method_2_code 36 = .ok (.bipush 100, 2) := by decide +kernel
theorem d1_38 : decode method_2_code 38 = .ok (.ireturn, 1) := by decide +kernel
theorem d1_39 : decode method_2_code 39 = .ok (.iload_n 0, 1) := by decide +kernel
theorem d1_40 : decode method_2_code 40 = .ok (.i2c, 1) := by decide +kernel
theorem d1_41 : decode method_2_code 41 = .ok (.ireturn, 1) := by decide +kernel
theorem d2_0 : decode jdk_42_method_3_code 0 = .ok (.aload_n 0, 1) := by decide +kernel
theorem d2_1 : decode jdk_42_method_3_code 1 = .ok (.aload_n 1, 1) := by decide +kernel
theorem d2_2 : decode jdk_42_method_3_code 2 = .ok (.iconst 0, 1) := by decide +kernel
theorem d2_3 : decode jdk_42_method_3_code 3 = .ok (.aload_n 1, 1) := by decide +kernel
theorem d2_4 : decode jdk_42_method_3_code 4 = .ok (.arraylength, 1) := by decide +kernel
theorem d2_5 : decode jdk_42_method_3_code 5 = .ok (.aconst_null, 1) := by decide +kernel
theorem d2_6 : decode jdk_42_method_3_code 6 = .ok (.invokespecial 27, 3) := by decide +kernel
theorem d2_9 : decode jdk_42_method_3_code 9 = .ok (.return_, 1) := by decide +kernel
theorem d3_0 : decode jdk_42_method_149_code 0 = .ok (.aload_n 0, 1) := by decide +kernel
theorem d3_1 : decode jdk_42_method_149_code 1 = .ok (.invokespecial 1, 3) := by decide +kernel
theorem d3_4 : decode jdk_42_method_149_code 4 = .ok (.iload_n 3, 1) := by decide +kernel
theorem d3_5 : decode jdk_42_method_149_code 5 = .ok (.ifCond .ne 22, 3) := by decide +kernel
theorem d3_8 : decode jdk_42_method_149_code 8 = .ok (.aload_n 0, 1) := by decide +kernel
theorem d3_9 : decode jdk_42_method_149_code 9 = .ok (.ldc 7, 2) := by decide +kernel
theorem d3_11 : decode jdk_42_method_149_code 11 = .ok (.getfield 9, 3) := by decide +kernel
theorem d3_14 : decode jdk_42_method_149_code 14 = .ok (.putfield 9, 3) := by decide +kernel
theorem d3_17 : decode jdk_42_method_149_code 17 = .ok (.aload_n 0, 1) := by decide +kernel
theorem d3_18 : decode jdk_42_method_149_code 18 = .ok (.ldc 7, 2) := by decide +kernel
theorem d3_20 : decode jdk_42_method_149_code 20 = .ok (.getfield 15, 3) := by decide +kernel
theorem d3_23 : decode jdk_42_method_149_code 23 = .ok (.putfield 15, 3) := by decide +kernel
theorem d3_26 : decode jdk_42_method_149_code 26 = .ok (.return_, 1) := by decide +kernel
theorem d3_27 : decode jdk_42_method_149_code 27 = .ok (.getstatic 38, 3) := by decide +kernel
theorem d3_30 : decode jdk_42_method_149_code 30 = .ok (.ifCond .eq 28, 3) := by decide +kernel
theorem d3_33 : decode jdk_42_method_149_code 33 = .ok (.aload_n 1, 1) := by decide +kernel
theorem d3_34 : decode jdk_42_method_149_code 34 = .ok (.iload_n 2, 1) := by decide +kernel
theorem d3_35 : decode jdk_42_method_149_code 35 = .ok (.iload_n 3, 1) := by decide +kernel
theorem d3_36 : decode jdk_42_method_149_code 36 = .ok (.invokestatic 177, 3) := by decide +kernel
theorem d3_39 : decode jdk_42_method_149_code 39 = .ok (.astore 5, 2) := by decide +kernel
theorem d3_41 : decode jdk_42_method_149_code 41 = .ok (.aload_n 0, 1) := by decide +kernel
theorem d3_42 : decode jdk_42_method_149_code 42 = .ok (.aload 5, 2) := by decide +kernel
theorem d3_44 : decode jdk_42_method_149_code 44 = .ok (.iload_n 3, 1) := by decide +kernel
theorem d3_45 : decode jdk_42_method_149_code 45 = .ok (.invokestatic 47, 3) := by decide +kernel
theorem d3_48 : decode jdk_42_method_149_code 48 = .ok (.putfield 15, 3) := by decide +kernel
theorem d3_51 : decode jdk_42_method_149_code 51 = .ok (.aload_n 0, 1) := by decide +kernel
theorem d3_52 : decode jdk_42_method_149_code 52 = .ok (.aload 5, 2) := by decide +kernel
theorem d3_54 : decode jdk_42_method_149_code 54 = .ok (.putfield 9, 3) := by decide +kernel
theorem d3_57 : decode jdk_42_method_149_code 57 = .ok (.return_, 1) := by decide +kernel
theorem d5_0 : decode prog_21_method_2_code 0 = .ok (.aload_n 0, 1) := by decide +kernel
theorem d5_1 : decode prog_21_method_2_code 1 = .ok (.ifnull 32, 3) := by decide +kernel
theorem d5_4 : decode prog_21_method_2_code 4 = .ok (.aload_n 0, 1) := by decide +kernel
theorem d5_5 : decode prog_21_method_2_code 5 = .ok (.invokevirtual 16, 3) := by decide +kernel
theorem d5_8 : decode prog_21_method_2_code 8 = .ok (.ifCond .ne 25, 3) := by decide +kernel
theorem d5_11 : decode prog_21_method_2_code 11 = .ok (.aload_n 0, 1) := by decide +kernel
theorem d5_12 : decode prog_21_method_2_code 12 = .ok (.bipush 47, 2) := by decide +kernel
theorem d5_14 : decode prog_21_method_2_code 14 = .ok (.invokevirtual 22, 3) := by decide +kernel
theorem d5_17 : decode prog_21_method_2_code 17 = .ok (.ifCond .ge 16, 3) := by decide +kernel
theorem d5_20 : decode prog_21_method_2_code 20 = .ok (.aload_n 0, 1) := by decide +kernel
theorem d5_21 : decode prog_21_method_2_code 21 = .ok (.ldc 26, 2) := by decide +kernel
theorem d5_23 : decode prog_21_method_2_code 23 = .ok (.invokevirtual 28, 3) := by decide +kernel
theorem d5_26 : decode prog_21_method_2_code 26 = .ok (.ifCond .ne 7, 3) := by decide +kernel
theorem d5_29 : decode prog_21_method_2_code 29 = .ok (.iconst 1, 1) := by decide +kernel
theorem d5_30 : decode prog_21_method_2_code 30 = .ok (.goto 4, 3) := by decide +kernel
theorem d5_33 : decode prog_21_method_2_code 33 = .ok (.iconst 0, 1) := by decide +kernel
theorem d5_34 : decode prog_21_method_2_code 34 = .ok (.ireturn, 1) := by decide +kernel
theorem d6_0 : decode jdk_42_method_55_code 0 = .ok (.aload_n 0, 1) := by decide +kernel
theorem d6_1 : decode jdk_42_method_55_code 1 = .ok (.getfield 9, 3) := by decide +kernel
theorem d6_4 : decode jdk_42_method_55_code 4 = .ok (.arraylength, 1) := by decide +kernel
theorem d6_5 : decode jdk_42_method_55_code 5 = .ok (.ifCond .ne 7, 3) := by decide +kernel
theorem d6_8 : decode jdk_42_method_55_code 8 = .ok (.iconst 1, 1) := by decide +kernel
theorem d6_9 : decode jdk_42_method_55_code 9 = .ok (.goto 4, 3) := by decide +kernel
theorem d6_12 : decode jdk_42_method_55_code 12 = .ok (.iconst 0, 1) := by decide +kernel
theorem d6_13 : decode jdk_42_method_55_code 13 = .ok (.ireturn, 1) := by decide +kernel
theorem d7_0 : decode jdk_52_method_16_code 0 = .ok (.iload_n 2, 1) := by decide +kernel
theorem d7_1 : decode jdk_52_method_16_code 1 = .ok (.newarray .byte, 2) := by decide +kernel
theorem d7_3 : decode jdk_52_method_16_code 3 = .ok (.astore_n 3, 1) := by decide +kernel
theorem d7_4 : decode jdk_52_method_16_code 4 = .ok (.aload_n 0, 1) := by decide +kernel
theorem d7_5 : decode jdk_52_method_16_code 5 = .ok (.iload_n 1, 1) := by decide +kernel
theorem d7_6 : decode jdk_52_method_16_code 6 = .ok (.aload_n 3, 1) := by decide +kernel
theorem d7_7 : decode jdk_52_method_16_code 7 = .ok (.iconst 0, 1) := by decide +kernel
theorem d7_8 : decode jdk_52_method_16_code 8 = .ok (.iload_n 2, 1) := by decide +kernel
theorem d7_9 : decode jdk_52_method_16_code 9 = .ok (.invokestatic 115, 3) := by decide +kernel
theorem d7_12 : decode jdk_52_method_16_code 12 = .ok (.istore 4, 2) := by decide +kernel
theorem d7_14 : decode jdk_52_method_16_code 14 = .ok (.iload 4, 2) := by decide +kernel
theorem d7_16 : decode jdk_52_method_16_code 16 = .ok (.iload_n 2, 1) := by decide +kernel
theorem d7_17 : decode jdk_52_method_16_code 17 = .ok (.if_icmp .eq 40, 3) := by decide +kernel
theorem d7_20 : decode jdk_52_method_16_code 20 = .ok (.aload_n 0, 1) := by decide +kernel
theorem d7_21 : decode jdk_52_method_16_code 21 = .ok (.iload_n 1, 1) := by decide +kernel
theorem d7_22 : decode jdk_52_method_16_code 22 = .ok (.iload_n 2, 1) := by decide +kernel
theorem d7_23 : decode jdk_52_method_16_code 23 = .ok (.invokestatic 119, 3) := by decide +kernel
theorem d7_26 : decode jdk_52_method_16_code 26 = .ok (.astore 5, 2) := by decide +kernel
theorem d7_28 : decode jdk_52_method_16_code 28 = .ok (.aload 5, 2) := by decide +kernel
theorem d7_30 : decode jdk_52_method_16_code 30 = .ok (.iload 4, 2) := by decide +kernel
theorem d7_32 : decode jdk_52_method_16_code 32 = .ok (.invokestatic 71, 3) := by decide +kernel
theorem d7_35 : decode jdk_52_method_16_code 35 = .ok (.sipush 255, 3) := by decide +kernel
theorem d7_38 : decode jdk_52_method_16_code 38 = .ok (.if_icmp .gt 16, 3) := by decide +kernel
theorem d7_54 : decode jdk_52_method_16_code 54 = .ok (.aload 5, 2) := by decide +kernel
theorem d7_56 : decode jdk_52_method_16_code 56 = .ok (.areturn, 1) := by decide +kernel
theorem d7_57 : decode jdk_52_method_16_code 57 = .ok (.aload_n 3, 1) := by decide +kernel
theorem d7_58 : decode jdk_52_method_16_code 58 = .ok (.areturn, 1) := by decide +kernel
theorem d8_0 : decode jdk_52_method_21_code 0 = .ok (.iconst 0, 1) := by decide +kernel
theorem d8_1 : decode jdk_52_method_21_code 1 = .ok (.istore 5, 2) := by decide +kernel
theorem d8_3 : decode jdk_52_method_21_code 3 = .ok (.iload 5, 2) := by decide +kernel
theorem d8_5 : decode jdk_52_method_21_code 5 = .ok (.iload 4, 2) := by decide +kernel
theorem d8_7 : decode jdk_52_method_21_code 7 = .ok (.if_icmp .ge 37, 3) := by decide +kernel
theorem d8_10 : decode jdk_52_method_21_code 10 = .ok (.aload_n 0, 1) := by decide +kernel
theorem d8_11 : decode jdk_52_method_21_code 11 = .ok (.iload_n 1, 1) := by decide +kernel
theorem d8_12 : decode jdk_52_method_21_code 12 = .ok (.caload, 1) := by decide +kernel
theorem d8_13 : decode jdk_52_method_21_code 13 = .ok (.istore 6, 2) := by decide +kernel
theorem d8_15 : decode jdk_52_method_21_code 15 = .ok (.iload 6, 2) := by decide +kernel
theorem d8_17 : decode jdk_52_method_21_code 17 = .ok (.sipush 255, 3) := by decide +kernel
theorem d8_20 : decode jdk_52_method_21_code 20 = .ok (.if_icmp .le 6, 3) := by decide +kernel
theorem d8_23 : decode jdk_52_method_21_code 23 = .ok (.iload 5, 2) := by decide +kernel
theorem d8_25 : decode jdk_52_method_21_code 25 = .ok (.ireturn, 1) := by decide +kernel
theorem d8_26 : decode jdk_52_method_21_code 26 = .ok (.aload_n 2, 1) := by decide +kernel
theorem d8_27 : decode jdk_52_method_21_code 27 = .ok (.iload_n 3, 1) := by decide +kernel
theorem d8_28 : decode jdk_52_method_21_code 28 = .ok (.iload 6, 2) := by decide +kernel
theorem d8_30 : decode jdk_52_method_21_code 30 = .ok (.i2b, 1) := by decide +kernel
theorem d8_31 : decode jdk_52_method_21_code 31 = .ok (.bastore, 1) := by decide +kernel
theorem d8_32 : decode jdk_52_method_21_code 32 = .ok (.iinc 1 1, 3) := by decide +kernel
theorem d8_35 : decode jdk_52_method_21_code 35 = .ok (.iinc 3 1, 3) := by decide +kernel
theorem d8_38 : decode jdk_52_method_21_code 38 = .ok (.iinc 5 1, 3) := by decide +kernel
theorem d8_41 : decode jdk_52_method_21_code 41 = .ok (.goto (-38), 3) := by decide +kernel
theorem d8_44 : decode jdk_52_method_21_code 44 = .ok (.iload 4, 2) := by decide +kernel
theorem d8_46 : decode jdk_52_method_21_code 46 = .ok (.ireturn, 1) := by decide +kernel
theorem d9_0 : decode jdk_52_method_15_code 0 = .ok (.iload_n 1, 1) := by decide +kernel
theorem d9_1 : decode jdk_52_method_15_code 1 = .ok (.aload_n 0, 1) := by decide +kernel
theorem d9_2 : decode jdk_52_method_15_code 2 = .ok (.arraylength, 1) := by decide +kernel
theorem d9_3 : decode jdk_52_method_15_code 3 = .ok (.isub, 1) := by decide +kernel
theorem d9_4 : decode jdk_52_method_15_code 4 = .ok (.bipush 31, 2) := by decide +kernel
theorem d9_6 : decode jdk_52_method_15_code 6 = .ok (.iushr, 1) := by decide +kernel
theorem d9_7 : decode jdk_52_method_15_code 7 = .ok (.i2b, 1) := by decide +kernel
theorem d9_8 : decode jdk_52_method_15_code 8 = .ok (.ireturn, 1) := by decide +kernel
theorem d10_0 : decode jdk_42_method_79_code 0 = .ok (.aload_n 0, 1) := by decide +kernel
theorem d10_1 : decode jdk_42_method_79_code 1 = .ok (.iload_n 1, 1) := by decide +kernel
theorem d10_2 : decode jdk_42_method_79_code 2 = .ok (.iconst 0, 1) := by decide +kernel
theorem d10_3 : decode jdk_42_method_79_code 3 = .ok (.invokevirtual 633, 3) := by decide +kernel
theorem d10_6 : decode jdk_42_method_79_code 6 = .ok (.ireturn, 1) := by decide +kernel
theorem d11_0 : decode jdk_42_method_80_code 0 = .ok (.aload_n 0, 1) := by decide +kernel
theorem d11_1 : decode jdk_42_method_80_code 1 = .ok (.invokevirtual 492, 3) := by decide +kernel
theorem d11_4 : decode jdk_42_method_80_code 4 = .ok (.ifCond .eq 19, 3) := by decide +kernel
theorem d11_7 : decode jdk_42_method_80_code 7 = .ok (.aload_n 0, 1) := by decide +kernel
theorem d11_8 : decode jdk_42_method_80_code 8 = .ok (.getfield 9, 3) := by decide +kernel
theorem d11_11 : decode jdk_42_method_80_code 11 = .ok (.iload_n 1, 1) := by decide +kernel
theorem d11_12 : decode jdk_42_method_80_code 12 = .ok (.iload_n 2, 1) := by decide +kernel
theorem d11_13 : decode jdk_42_method_80_code 13 = .ok (.aload_n 0, 1) := by decide +kernel
theorem d11_14 : decode jdk_42_method_80_code 14 = .ok (.invokevirtual 505, 3) := by decide +kernel
theorem d11_17 : decode jdk_42_method_80_code 17 = .ok (.invokestatic 637, 3) := by decide +kernel
theorem d11_20 : decode jdk_42_method_80_code 20 = .ok (.goto 16, 3) := by decide +kernel
theorem d11_23 : decode jdk_42_method_80_code 23 = .ok (.aload_n 0, 1) := by decide +kernel
theorem d11_24 : decode jdk_42_method_80_code 24 = .ok (.getfield 9, 3) := by decide +kernel
theorem d11_27 : decode jdk_42_method_80_code 27 = .ok (.iload_n 1, 1) := by decide +kernel
theorem d11_28 : decode jdk_42_method_80_code 28 = .ok (.iload_n 2, 1) := by decide +kernel
theorem d11_29 : decode jdk_42_method_80_code 29 = .ok (.aload_n 0, 1) := by decide +kernel
theorem d11_30 : decode jdk_42_method_80_code 30 = .ok (.invokevirtual 505, 3) := by decide +kernel
theorem d11_33 : decode jdk_42_method_80_code 33 = .ok (.invokestatic 640, 3) := by decide +kernel
theorem d11_36 : decode jdk_42_method_80_code 36 = .ok (.ireturn, 1) := by decide +kernel
theorem d12_0 : decode jdk_42_method_154_code 0 = .ok (.getstatic 38, 3) := by decide +kernel
theorem d12_3 : decode jdk_42_method_154_code 3 = .ok (.ifCond .eq 14, 3) := by decide +kernel
theorem d12_6 : decode jdk_42_method_154_code 6 = .ok (.aload_n 0, 1) := by decide +kernel
theorem d12_7 : decode jdk_42_method_154_code 7 = .ok (.getfield 15, 3) := by decide +kernel
theorem d12_10 : decode jdk_42_method_154_code 10 = .ok (.ifCond .ne 7, 3) := by decide +kernel
theorem d12_13 : decode jdk_42_method_154_code 13 = .ok (.iconst 1, 1) := by decide +kernel
theorem d12_14 : decode jdk_42_method_154_code 14 = .ok (.goto 4, 3) := by decide +kernel
theorem d12_17 : decode jdk_42_method_154_code 17 = .ok (.iconst 0, 1) := by decide +kernel
theorem d12_18 : decode jdk_42_method_154_code 18 = .ok (.ireturn, 1) := by decide +kernel
theorem d13_0 : decode jdk_42_method_54_code 0 = .ok (.aload_n 0, 1) := by decide +kernel
theorem d13_1 : decode jdk_42_method_54_code 1 = .ok (.getfield 9, 3) := by decide +kernel
theorem d13_4 : decode jdk_42_method_54_code 4 = .ok (.arraylength, 1) := by decide +kernel
theorem d13_5 : decode jdk_42_method_54_code 5 = .ok (.aload_n 0, 1) := by decide +kernel
theorem d13_6 : decode jdk_42_method_54_code 6 = .ok (.invokevirtual 335, 3) := by decide +kernel
theorem d13_9 : decode jdk_42_method_54_code 9 = .ok (.ishr, 1) := by decide +kernel
theorem d13_10 : decode jdk_42_method_54_code 10 = .ok (.ireturn, 1) := by decide +kernel
theorem d14_0 : decode jdk_42_method_152_code 0 = .ok (.getstatic 38, 3) := by decide +kernel
theorem d14_3 : decode jdk_42_method_152_code 3 = .ok (.ifCond .eq 10, 3) := by decide +kernel
theorem d14_6 : decode jdk_42_method_152_code 6 = .ok (.aload_n 0, 1) := by decide +kernel
theorem d14_7 : decode jdk_42_method_152_code 7 = .ok (.getfield 15, 3) := by decide +kernel
theorem d14_10 : decode jdk_42_method_152_code 10 = .ok (.goto 4, 3) := by decide +kernel
theorem d14_14 : decode jdk_42_method_152_code 14 = .ok (.ireturn, 1) := by decide +kernel
theorem d15_0 : decode jdk_43_method_22_code 0 = .ok (.iload_n 1, 1) := by decide +kernel
theorem d15_1 : decode jdk_43_method_22_code 1 = .ok (.invokestatic 88, 3) := by decide +kernel
theorem d15_4 : decode jdk_43_method_22_code 4 = .ok (.ifCond .ne 5, 3) := by decide +kernel
theorem d15_9 : decode jdk_43_method_22_code 9 = .ok (.iload_n 2, 1) := by decide +kernel
theorem d15_10 : decode jdk_43_method_22_code 10 = .ok (.iconst 0, 1) := by decide +kernel
theorem d15_11 : decode jdk_43_method_22_code 11 = .ok (.invokestatic 92, 3) := by decide +kernel
theorem d15_14 : decode jdk_43_method_22_code 14 = .ok (.istore_n 2, 1) := by decide +kernel
theorem d15_15 : decode jdk_43_method_22_code 15 = .ok (.iload_n 3, 1) := by decide +kernel
theorem d15_16 : decode jdk_43_method_22_code 16 = .ok (.aload_n 0, 1) := by decide +kernel
theorem d15_17 : decode jdk_43_method_22_code 17 = .ok (.arraylength, 1) := by decide +kernel
theorem d15_18 : decode jdk_43_method_22_code 18 = .ok (.invokestatic 38, 3) := by decide +kernel
theorem d15_21 : decode jdk_43_method_22_code 21 = .ok (.istore_n 3, 1) := by decide +kernel
theorem d15_22 : decode jdk_43_method_22_code 22 = .ok (.iload_n 2, 1) := by decide +kernel
theorem d15_23 : decode jdk_43_method_22_code 23 = .ok (.iload_n 3, 1) := by decide +kernel
theorem d15_24 : decode jdk_43_method_22_code 24 = .ok (.if_icmp .lt 5, 3) := by decide +kernel
theorem d15_29 : decode jdk_43_method_22_code 29 = .ok (.aload_n 0, 1) := by decide +kernel
theorem d15_30 : decode jdk_43_method_22_code 30 = .ok (.iload_n 1, 1) := by decide +kernel
theorem d15_31 : decode jdk_43_method_22_code 31 = .ok (.iload_n 2, 1) := by decide +kernel
theorem d15_32 : decode jdk_43_method_22_code 32 = .ok (.iload_n 3, 1) := by decide +kernel
theorem d15_33 : decode jdk_43_method_22_code 33 = .ok (.invokestatic 95, 3) := by decide +kernel
theorem d15_36 : decode jdk_43_method_22_code 36 = .ok (.ireturn, 1) := by decide +kernel
theorem d16_0 : decode jdk_43_method_4_code 0 = .ok (.iload_n 0, 1) := by decide +kernel
theorem d16_1 : decode jdk_43_method_4_code 1 = .ok (.ifCond .lt 14, 3) := by decide +kernel
theorem d16_4 : decode jdk_43_method_4_code 4 = .ok (.iload_n 0, 1) := by decide +kernel
theorem d16_5 : decode jdk_43_method_4_code 5 = .ok (.sipush 255, 3) := by decide +kernel
theorem d16_8 : decode jdk_43_method_4_code 8 = .ok (.if_icmp .gt 7, 3) := by decide +kernel
theorem d16_11 : decode jdk_43_method_4_code 11 = .ok (.iconst 1, 1) := by decide +kernel
theorem d16_12 : decode jdk_43_method_4_code 12 = .ok (.goto 4, 3) := by decide +kernel
theorem d16_16 : decode jdk_43_method_4_code 16 = .ok (.ireturn, 1) := by decide +kernel
theorem d17_0 : decode jdk_29_method_65_code 0 = .ok (.iload_n 0, 1) := by decide +kernel
theorem d17_1 : decode jdk_29_method_65_code 1 = .ok (.iload_n 1, 1) := by decide +kernel
theorem d17_2 : decode jdk_29_method_65_code 2 = .ok (.if_icmp .lt 7, 3) := by decide +kernel
theorem d17_5 : decode jdk_29_method_65_code 5 = .ok (.iload_n 0, 1) := by decide +kernel
theorem d17_6 : decode jdk_29_method_65_code 6 = .ok (.goto 4, 3) := by decide +kernel
theorem d17_10 : decode jdk_29_method_65_code 10 = .ok (.ireturn, 1) := by decide +kernel
theorem d18_0 : decode jdk_29_method_69_code 0 = .ok (.iload_n 0, 1) := by decide +kernel
theorem d18_1 : decode jdk_29_method_69_code 1 = .ok (.iload_n 1, 1) := by decide +kernel
theorem d18_2 : decode jdk_29_method_69_code 2 = .ok (.if_icmp .gt 7, 3) := by decide +kernel
theorem d18_5 : decode jdk_29_method_69_code 5 = .ok (.iload_n 0, 1) := by decide +kernel
theorem d18_6 : decode jdk_29_method_69_code 6 = .ok (.goto 4, 3) := by decide +kernel
theorem d18_9 : decode jdk_29_method_69_code 9 = .ok (.iload_n 1, 1) := by decide +kernel
theorem d18_10 : decode jdk_29_method_69_code 10 = .ok (.ireturn, 1) := by decide +kernel
theorem d19_0 : decode jdk_43_method_23_code 0 = .ok (.iload_n 1, 1) := by decide +kernel
theorem d19_1 : decode jdk_43_method_23_code 1 = .ok (.i2b, 1) := by decide +kernel
theorem d19_2 : decode jdk_43_method_23_code 2 = .ok (.istore 4, 2) := by decide +kernel
theorem d19_4 : decode jdk_43_method_23_code 4 = .ok (.iload_n 2, 1) := by decide +kernel
theorem d19_5 : decode jdk_43_method_23_code 5 = .ok (.istore 5, 2) := by decide +kernel
theorem d19_7 : decode jdk_43_method_23_code 7 = .ok (.iload 5, 2) := by decide +kernel
theorem d19_9 : decode jdk_43_method_23_code 9 = .ok (.iload_n 3, 1) := by decide +kernel
theorem d19_10 : decode jdk_43_method_23_code 10 = .ok (.if_icmp .ge 21, 3) := by decide +kernel
theorem d19_13 : decode jdk_43_method_23_code 13 = .ok (.aload_n 0, 1) := by decide +kernel
theorem d19_14 : decode jdk_43_method_23_code 14 = .ok (.iload 5, 2) := by decide +kernel
theorem d19_16 : decode jdk_43_method_23_code 16 = .ok (.baload, 1) := by decide +kernel
theorem d19_17 : decode jdk_43_method_23_code 17 = .ok (.iload 4, 2) := by decide +kernel
theorem d19_19 : decode jdk_43_method_23_code 19 = .ok (.if_icmp .ne 6, 3) := by decide +kernel
theorem d19_22 : decode jdk_43_method_23_code 22 = .ok (.iload 5, 2) := by decide +kernel
theorem d19_24 : decode jdk_43_method_23_code 24 = .ok (.ireturn, 1) := by decide +kernel
theorem d19_25 : decode jdk_43_method_23_code 25 = .ok (.iinc 5 1, 3) := by decide +kernel
theorem d19_28 : decode jdk_43_method_23_code 28 = .ok (.goto (-21), 3) := by decide +kernel
theorem d19_31 : decode jdk_43_method_23_code 31 = .ok (.iconst (-1), 1) := by decide +kernel
theorem d19_32 : decode jdk_43_method_23_code 32 = .ok (.ireturn, 1) := by decide +kernel
theorem d20_0 : decode jdk_52_method_14_code 0 = .ok (.iload_n 2, 1) := by decide +kernel
theorem d20_1 : decode jdk_52_method_14_code 1 = .ok (.invokestatic 107, 3) := by decide +kernel
theorem d20_4 : decode jdk_52_method_14_code 4 = .ok (.astore_n 3, 1) := by decide +kernel
theorem d20_5 : decode jdk_52_method_14_code 5 = .ok (.iconst 0, 1) := by decide +kernel
theorem d20_6 : decode jdk_52_method_14_code 6 = .ok (.istore 4, 2) := by decide +kernel
theorem d20_8 : decode jdk_52_method_14_code 8 = .ok (.iload 4, 2) := by decide +kernel
theorem d20_10 : decode jdk_52_method_14_code 10 = .ok (.iload_n 2, 1) := by decide +kernel
theorem d20_11 : decode jdk_52_method_14_code 11 = .ok (.if_icmp .ge 21, 3) := by decide +kernel
theorem d20_14 : decode jdk_52_method_14_code 14 = .ok (.aload_n 3, 1) := by decide +kernel
theorem d20_15 : decode jdk_52_method_14_code 15 = .ok (.iload 4, 2) := by decide +kernel
theorem d20_17 : decode jdk_52_method_14_code 17 = .ok (.aload_n 0, 1) := by decide +kernel
theorem d20_18 : decode jdk_52_method_14_code 18 = .ok (.iload_n 1, 1) := by decide +kernel
theorem d20_19 : decode jdk_52_method_14_code 19 = .ok (.caload, 1) := by decide +kernel
theorem d20_20 : decode jdk_52_method_14_code 20 = .ok (.invokestatic 111, 3) := by decide +kernel
theorem d20_23 : decode jdk_52_method_14_code 23 = .ok (.iinc 1 1, 3) := by decide +kernel
theorem d20_26 : decode jdk_52_method_14_code 26 = .ok (.iinc 4 1, 3) := by decide +kernel
theorem d20_29 : decode jdk_52_method_14_code 29 = .ok (.goto (-21), 3) := by decide +kernel
theorem d20_32 : decode jdk_52_method_14_code 32 = .ok (.aload_n 3, 1) := by decide +kernel
theorem d20_33 : decode jdk_52_method_14_code 33 = .ok (.areturn, 1) := by decide +kernel
theorem d21_0 : decode jdk_52_method_2_code 0 = .ok (.iload_n 0, 1) := by decide +kernel
theorem d21_1 : decode jdk_52_method_2_code 1 = .ok (.invokestatic 11, 3) := by decide +kernel
theorem d21_4 : decode jdk_52_method_2_code 4 = .ok (.newarray .byte, 2) := by decide +kernel
theorem d21_6 : decode jdk_52_method_2_code 6 = .ok (.areturn, 1) := by decide +kernel
theorem d22_0 : decode jdk_52_method_3_code 0 = .ok (.iload_n 0, 1) := by decide +kernel
theorem d22_1 : decode jdk_52_method_3_code 1 = .ok (.ifCond .ge 11, 3) := by decide +kernel
theorem d22_12 : decode jdk_52_method_3_code 12 = .ok (.iload_n 0, 1) := by decide +kernel
theorem d22_13 : decode jdk_52_method_3_code 13 = .ok (.ldc 20, 2) := by decide +kernel
theorem d22_15 : decode jdk_52_method_3_code 15 = .ok (.if_icmp .lt 40, 3) := by decide +kernel
theorem d22_55 : decode jdk_52_method_3_code 55 = .ok (.iload_n 0, 1) := by decide +kernel
theorem d22_56 : decode jdk_52_method_3_code 56 = .ok (.iconst 1, 1) := by decide +kernel
theorem d22_57 : decode jdk_52_method_3_code 57 = .ok (.ishl, 1) := by decide +kernel
theorem d22_58 : decode jdk_52_method_3_code 58 = .ok (.ireturn, 1) := by decide +kernel
theorem d23_0 : decode jdk_52_method_4_code 0 = .ok (.getstatic 44, 3) := by decide +kernel
theorem d23_3 : decode jdk_52_method_4_code 3 = .ok (.ifCond .ne 25, 3) := by decide +kernel
theorem d23_28 : decode jdk_52_method_4_code 28 = .ok (.iload_n 1, 1) := by decide +kernel
theorem d23_29 : decode jdk_52_method_4_code 29 = .ok (.iconst 1, 1) := by decide +kernel
theorem d23_30 : decode jdk_52_method_4_code 30 = .ok (.ishl, 1) := by decide +kernel
theorem d23_31 : decode jdk_52_method_4_code 31 = .ok (.istore_n 1, 1) := by decide +kernel
theorem d23_32 : decode jdk_52_method_4_code 32 = .ok (.aload_n 0, 1) := by decide +kernel
theorem d23_33 : decode jdk_52_method_4_code 33 = .ok (.iload_n 1, 1) := by decide +kernel
theorem d23_34 : decode jdk_52_method_4_code 34 = .ok (.iinc 1 1, 3) := by decide +kernel
theorem d23_37 : decode jdk_52_method_4_code 37 = .ok (.iload_n 2, 1) := by decide +kernel
theorem d23_38 : decode jdk_52_method_4_code 38 = .ok (.getstatic 59, 3) := by decide +kernel
theorem d23_41 : decode jdk_52_method_4_code 41 = .ok (.ishr, 1) := by decide +kernel
theorem d23_42 : decode jdk_52_method_4_code 42 = .ok (.i2b, 1) := by decide +kernel
theorem d23_43 : decode jdk_52_method_4_code 43 = .ok (.bastore, 1) := by decide +kernel
theorem d23_44 : decode jdk_52_method_4_code 44 = .ok (.aload_n 0, 1) := by decide +kernel
theorem d23_45 : decode jdk_52_method_4_code 45 = .ok (.iload_n 1, 1) := by decide +kernel
theorem d23_46 : decode jdk_52_method_4_code 46 = .ok (.iload_n 2, 1) := by decide +kernel
theorem d23_47 : decode jdk_52_method_4_code 47 = .ok (.getstatic 63, 3) := by decide +kernel
theorem d23_50 : decode jdk_52_method_4_code 50 = .ok (.ishr, 1) := by decide +kernel
theorem d23_51 : decode jdk_52_method_4_code 51 = .ok (.i2b, 1) := by decide +kernel
theorem d23_52 : decode jdk_52_method_4_code 52 = .ok (.bastore, 1) := by decide +kernel
theorem d23_53 : decode jdk_52_method_4_code 53 = .ok (.return_, 1) := by decide +kernel
theorem d24_0 : decode jdk_52_method_5_code 0 = .ok (.getstatic 44, 3) := by decide +kernel
theorem d24_3 : decode jdk_52_method_5_code 3 = .ok (.ifCond .ne 25, 3) := by decide +kernel
theorem d24_28 : decode jdk_52_method_5_code 28 = .ok (.iload_n 1, 1) := by decide +kernel
theorem d24_29 : decode jdk_52_method_5_code 29 = .ok (.iconst 1, 1) := by decide +kernel
theorem d24_30 : decode jdk_52_method_5_code 30 = .ok (.ishl, 1) := by decide +kernel
theorem d24_31 : decode jdk_52_method_5_code 31 = .ok (.istore_n 1, 1) := by decide +kernel
theorem d24_32 : decode jdk_52_method_5_code 32 = .ok (.aload_n 0, 1) := by decide +kernel
theorem d24_33 : decode jdk_52_method_5_code 33 = .ok (.iload_n 1, 1) := by decide +kernel
theorem d24_34 : decode jdk_52_method_5_code 34 = .ok (.iinc 1 1, 3) := by decide +kernel
theorem d24_37 : decode jdk_52_method_5_code 37 = .ok (.baload, 1) := by decide +kernel
theorem d24_38 : decode jdk_52_method_5_code 38 = .ok (.sipush 255, 3) := by decide +kernel
theorem d24_41 : decode jdk_52_method_5_code 41 = .ok (.iand, 1) := by decide +kernel
theorem d24_42 : decode jdk_52_method_5_code 42 = .ok (.getstatic 59, 3) := by decide +kernel
theorem d24_45 : decode jdk_52_method_5_code 45 = .ok (.ishl, 1) := by decide +kernel
theorem d24_46 : decode jdk_52_method_5_code 46 = .ok (.aload_n 0, 1) := by decide +kernel
theorem d24_47 : decode jdk_52_method_5_code 47 = .ok (.iload_n 1, 1) := by decide +kernel
theorem d24_48 : decode jdk_52_method_5_code 48 = .ok (.baload, 1) := by decide +kernel
theorem d24_49 : decode jdk_52_method_5_code 49 = .ok (.sipush 255, 3) := by decide +kernel
theorem d24_52 : decode jdk_52_method_5_code 52 = .ok (.iand, 1) := by decide +kernel
theorem d24_53 : decode jdk_52_method_5_code 53 = .ok (.getstatic 63, 3) := by decide +kernel
theorem d24_56 : decode jdk_52_method_5_code 56 = .ok (.ishl, 1) := by decide +kernel
theorem d24_57 : decode jdk_52_method_5_code 57 = .ok (.ior, 1) := by decide +kernel
theorem d24_58 : decode jdk_52_method_5_code 58 = .ok (.i2c, 1) := by decide +kernel
theorem d24_59 : decode jdk_52_method_5_code 59 = .ok (.ireturn, 1) := by decide +kernel
theorem d25_0 : decode jdk_52_method_40_code 0 = .ok (.iload_n 2, 1) := by decide +kernel
theorem d25_1 : decode jdk_52_method_40_code 1 = .ok (.iconst 0, 1) := by decide +kernel
theorem d25_2 : decode jdk_52_method_40_code 2 = .ok (.invokestatic 224, 3) := by decide +kernel
theorem d25_5 : decode jdk_52_method_40_code 5 = .ok (.istore_n 2, 1) := by decide +kernel
theorem d25_6 : decode jdk_52_method_40_code 6 = .ok (.iload_n 3, 1) := by decide +kernel
theorem d25_7 : decode jdk_52_method_40_code 7 = .ok (.aload_n 0, 1) := by decide +kernel
theorem d25_8 : decode jdk_52_method_40_code 8 = .ok (.arraylength, 1) := by decide +kernel
theorem d25_9 : decode jdk_52_method_40_code 9 = .ok (.iconst 1, 1) := by decide +kernel
theorem d25_10 : decode jdk_52_method_40_code 10 = .ok (.ishr, 1) := by decide +kernel
theorem d25_11 : decode jdk_52_method_40_code 11 = .ok (.invokestatic 183, 3) := by decide +kernel
theorem d25_14 : decode jdk_52_method_40_code 14 = .ok (.istore_n 3, 1) := by decide +kernel
theorem d25_15 : decode jdk_52_method_40_code 15 = .ok (.iload_n 2, 1) := by decide +kernel
theorem d25_16 : decode jdk_52_method_40_code 16 = .ok (.iload_n 3, 1) := by decide +kernel
theorem d25_17 : decode jdk_52_method_40_code 17 = .ok (.if_icmp .lt 5, 3) := by decide +kernel
theorem d25_22 : decode jdk_52_method_40_code 22 = .ok (.iload_n 1, 1) := by decide +kernel
theorem d25_23 : decode jdk_52_method_40_code 23 = .ok (.ldc 227, 2) := by decide +kernel
theorem d25_25 : decode jdk_52_method_40_code 25 = .ok (.if_icmp .ge 11, 3) := by decide +kernel
theorem d25_28 : decode jdk_52_method_40_code 28 = .ok (.aload_n 0, 1) := by decide +kernel
theorem d25_29 : decode jdk_52_method_40_code 29 = .ok (.iload_n 1, 1) := by decide +kernel
theorem d25_30 : decode jdk_52_method_40_code 30 = .ok (.iload_n 2, 1) := by decide +kernel
theorem d25_31 : decode jdk_52_method_40_code 31 = .ok (.iload_n 3, 1) := by decide +kernel
theorem d25_32 : decode jdk_52_method_40_code 32 = .ok (.invokestatic 228, 3) := by decide +kernel
theorem d25_35 : decode jdk_52_method_40_code 35 = .ok (.ireturn, 1) := by decide +kernel
theorem d26_0 : decode jdk_52_method_47_code 0 = .ok (.iload_n 2, 1) := by decide +kernel
theorem d26_1 : decode jdk_52_method_47_code 1 = .ok (.iload_n 3, 1) := by decide +kernel
theorem d26_2 : decode jdk_52_method_47_code 2 = .ok (.aload_n 0, 1) := by decide +kernel
theorem d26_3 : decode jdk_52_method_47_code 3 = .ok (.invokestatic 96, 3) := by decide +kernel
theorem d26_6 : decode jdk_52_method_47_code 6 = .ok (.aload_n 0, 1) := by decide +kernel
theorem d26_7 : decode jdk_52_method_47_code 7 = .ok (.iload_n 1, 1) := by decide +kernel
theorem d26_8 : decode jdk_52_method_47_code 8 = .ok (.iload_n 2, 1) := by decide +kernel
theorem d26_9 : decode jdk_52_method_47_code 9 = .ok (.iload_n 3, 1) := by decide +kernel
theorem d26_10 : decode jdk_52_method_47_code 10 = .ok (.invokestatic 244, 3) := by decide +kernel
theorem d26_13 : decode jdk_52_method_47_code 13 = .ok (.ireturn, 1) := by decide +kernel
theorem d27_0 : decode jdk_52_method_93_code 0 = .ok (.iload_n 0, 1) := by decide +kernel
theorem d27_1 : decode jdk_52_method_93_code 1 = .ok (.iload_n 1, 1) := by decide +kernel
theorem d27_2 : decode jdk_52_method_93_code 2 = .ok (.aload_n 2, 1) := by decide +kernel
theorem d27_3 : decode jdk_52_method_93_code 3 = .ok (.invokestatic 48, 3) := by decide +kernel
theorem d27_6 : decode jdk_52_method_93_code 6 = .ok (.invokestatic 241, 3) := by decide +kernel
theorem d27_9 : decode jdk_52_method_93_code 9 = .ok (.return_, 1) := by decide +kernel
theorem d28_0 : decode jdk_52_method_6_code 0 = .ok (.aload_n 0, 1) := by decide +kernel
theorem d28_1 : decode jdk_52_method_6_code 1 = .ok (.arraylength, 1) := by decide +kernel
theorem d28_2 : decode jdk_52_method_6_code 2 = .ok (.iconst 1, 1) := by decide +kernel
theorem d28_3 : decode jdk_52_method_6_code 3 = .ok (.ishr, 1) := by decide +kernel
theorem d28_4 : decode jdk_52_method_6_code 4 = .ok (.ireturn, 1) := by decide +kernel
theorem d29_0 : decode jdk_42_method_158_code 0 = .ok (.iload_n 0, 1) := by decide +kernel
theorem d29_1 : decode jdk_42_method_158_code 1 = .ok (.iload_n 1, 1) := by decide +kernel
theorem d29_2 : decode jdk_42_method_158_code 2 = .ok (.iload_n 2, 1) := by decide +kernel
theorem d29_3 : decode jdk_42_method_158_code 3 = .ok (.getstatic 1053, 3) := by decide +kernel
theorem d29_6 : decode jdk_42_method_158_code 6 = .ok (.invokestatic 1062, 3) := by decide +kernel
theorem d29_9 : decode jdk_42_method_158_code 9 = .ok (.pop, 1) := by decide +kernel
theorem d29_10 : decode jdk_42_method_158_code 10 = .ok (.return_, 1) := by decide +kernel
theorem d30_0 : decode jdk_41_method_12_code 0 = .ok (.iload_n 0, 1) := by decide +kernel
theorem d30_1 : decode jdk_41_method_12_code 1 = .ok (.ifCond .lt 13, 3) := by decide +kernel
theorem d30_4 : decode jdk_41_method_12_code 4 = .ok (.iload_n 0, 1) := by decide +kernel
theorem d30_5 : decode jdk_41_method_12_code 5 = .ok (.iload_n 1, 1) := by decide +kernel
theorem d30_6 : decode jdk_41_method_12_code 6 = .ok (.if_icmp .gt 8, 3) := by decide +kernel
theorem d30_9 : decode jdk_41_method_12_code 9 = .ok (.iload_n 1, 1) := by decide +kernel
theorem d30_10 : decode jdk_41_method_12_code 10 = .ok (.iload_n 2, 1) := by decide +kernel
theorem d30_11 : decode jdk_41_method_12_code 11 = .ok (.if_icmp .le 11, 3) := by decide +kernel
theorem d30_22 : decode jdk_41_method_12_code 22 = .ok (.iload_n 0, 1) := by decide +kernel
theorem d30_23 : decode jdk_41_method_12_code 23 = .ok (.ireturn, 1) := by decide +kernel
theorem d31_0 : decode jdk_52_method_48_code 0 = .ok (.iload_n 2, 1) := by decide +kernel
theorem d31_1 : decode jdk_52_method_48_code 1 = .ok (.istore 4, 2) := by decide +kernel
theorem d31_3 : decode jdk_52_method_48_code 3 = .ok (.iload 4, 2) := by decide +kernel
theorem d31_5 : decode jdk_52_method_48_code 5 = .ok (.iload_n 3, 1) := by decide +kernel
theorem d31_6 : decode jdk_52_method_48_code 6 = .ok (.if_icmp .ge 22, 3) := by decide +kernel
theorem d31_9 : decode jdk_52_method_48_code 9 = .ok (.aload_n 0, 1) := by decide +kernel
theorem d31_10 : decode jdk_52_method_48_code 10 = .ok (.iload 4, 2) := by decide +kernel
theorem d31_12 : decode jdk_52_method_48_code 12 = .ok (.invokestatic 71, 3) := by decide +kernel
theorem d31_15 : decode jdk_52_method_48_code 15 = .ok (.iload_n 1, 1) := by decide +kernel
theorem d31_16 : decode jdk_52_method_48_code 16 = .ok (.if_icmp .ne 6, 3) := by decide +kernel
theorem d31_19 : decode jdk_52_method_48_code 19 = .ok (.iload 4, 2) := by decide +kernel
theorem d31_21 : decode jdk_52_method_48_code 21 = .ok (.ireturn, 1) := by decide +kernel
theorem d31_22 : decode jdk_52_method_48_code 22 = .ok (.iinc 4 1, 3) := by decide +kernel
theorem d31_25 : decode jdk_52_method_48_code 25 = .ok (.goto (-22), 3) := by decide +kernel
theorem d31_28 : decode jdk_52_method_48_code 28 = .ok (.iconst (-1), 1) := by decide +kernel
theorem d31_29 : decode jdk_52_method_48_code 29 = .ok (.ireturn, 1) := by decide +kernel
theorem d32_0 : decode jdk_42_method_66_code 0 = .ok (.aload_n 0, 1) := by decide +kernel
theorem d32_1 : decode jdk_42_method_66_code 1 = .ok (.aload_n 1, 1) := by decide +kernel
theorem d32_2 : decode jdk_42_method_66_code 2 = .ok (.if_acmp .ne 5, 3) := by decide +kernel
theorem d32_5 : decode jdk_42_method_66_code 5 = .ok (.iconst 1, 1) := by decide +kernel
theorem d32_6 : decode jdk_42_method_66_code 6 = .ok (.ireturn, 1) := by decide +kernel
theorem d32_7 : decode jdk_42_method_66_code 7 = .ok (.aload_n 1, 1) := by decide +kernel
theorem d32_8 : decode jdk_42_method_66_code 8 = .ok (.instanceof 10, 3) := by decide +kernel
theorem d32_11 : decode jdk_42_method_66_code 11 = .ok (.ifCond .eq 43, 3) := by decide +kernel
theorem d32_14 : decode jdk_42_method_66_code 14 = .ok (.aload_n 1, 1) := by decide +kernel
theorem d32_15 : decode jdk_42_method_66_code 15 = .ok (.checkcast 10, 3) := by decide +kernel
theorem d32_18 : decode jdk_42_method_66_code 18 = .ok (.astore_n 2, 1) := by decide +kernel
theorem d32_19 : decode jdk_42_method_66_code 19 = .ok (.getstatic 38, 3) := by decide +kernel
theorem d32_22 : decode jdk_42_method_66_code 22 = .ok (.ifCond .eq 14, 3) := by decide +kernel
theorem d32_25 : decode jdk_42_method_66_code 25 = .ok (.aload_n 0, 1) := by decide +kernel
theorem d32_26 : decode jdk_42_method_66_code 26 = .ok (.getfield 15, 3) := by decide +kernel
theorem d32_29 : decode jdk_42_method_66_code 29 = .ok (.aload_n 2, 1) := by decide +kernel
theorem d32_30 : decode jdk_42_method_66_code 30 = .ok (.getfield 15, 3) := by decide +kernel
theorem d32_33 : decode jdk_42_method_66_code 33 = .ok (.if_icmp .ne 21, 3) := by decide +kernel
theorem d32_36 : decode jdk_42_method_66_code 36 = .ok (.aload_n 0, 1) := by decide +kernel
theorem d32_37 : decode jdk_42_method_66_code 37 = .ok (.getfield 9, 3) := by decide +kernel
theorem d32_40 : decode jdk_42_method_66_code 40 = .ok (.aload_n 2, 1) := by decide +kernel
theorem d32_41 : decode jdk_42_method_66_code 41 = .ok (.getfield 9, 3) := by decide +kernel
theorem d32_44 : decode jdk_42_method_66_code 44 = .ok (.invokestatic 541, 3) := by decide +kernel
theorem d32_47 : decode jdk_42_method_66_code 47 = .ok (.ifCond .eq 7, 3) := by decide +kernel
theorem d32_50 : decode jdk_42_method_66_code 50 = .ok (.iconst 1, 1) := by decide +kernel
theorem d32_51 : decode jdk_42_method_66_code 51 = .ok (.goto 4, 3) := by decide +kernel
theorem d32_54 : decode jdk_42_method_66_code 54 = .ok (.iconst 0, 1) := by decide +kernel
theorem d32_55 : decode jdk_42_method_66_code 55 = .ok (.ireturn, 1) := by decide +kernel
theorem d33_0 : decode jdk_43_method_13_code 0 = .ok (.aload_n 0, 1) := by decide +kernel
theorem d33_1 : decode jdk_43_method_13_code 1 = .ok (.arraylength, 1) := by decide +kernel
theorem d33_2 : decode jdk_43_method_13_code 2 = .ok (.aload_n 1, 1) := by decide +kernel
theorem d33_3 : decode jdk_43_method_13_code 3 = .ok (.arraylength, 1) := by decide +kernel
theorem d33_4 : decode jdk_43_method_13_code 4 = .ok (.if_icmp .ne 30, 3) := by decide +kernel
theorem d33_7 : decode jdk_43_method_13_code 7 = .ok (.iconst 0, 1) := by decide +kernel
theorem d33_8 : decode jdk_43_method_13_code 8 = .ok (.istore_n 2, 1) := by decide +kernel
theorem d33_9 : decode jdk_43_method_13_code 9 = .ok (.iload_n 2, 1) := by decide +kernel
theorem d33_10 : decode jdk_43_method_13_code 10 = .ok (.aload_n 0, 1) := by decide +kernel
theorem d33_11 : decode jdk_43_method_13_code 11 = .ok (.arraylength, 1) := by decide +kernel
theorem d33_12 : decode jdk_43_method_13_code 12 = .ok (.if_icmp .ge 20, 3) := by decide +kernel
theorem d33_15 : decode jdk_43_method_13_code 15 = .ok (.aload_n 0, 1) := by decide +kernel
theorem d33_16 : decode jdk_43_method_13_code 16 = .ok (.iload_n 2, 1) := by decide +kernel
theorem d33_17 : decode jdk_43_method_13_code 17 = .ok (.baload, 1) := by decide +kernel
theorem d33_18 : decode jdk_43_method_13_code 18 = .ok (.aload_n 1, 1) := by decide +kernel
theorem d33_19 : decode jdk_43_method_13_code 19 = .ok (.iload_n 2, 1) := by decide +kernel
theorem d33_20 : decode jdk_43_method_13_code 20 = .ok (.baload, 1) := by decide +kernel
theorem d33_21 : decode jdk_43_method_13_code 21 = .ok (.if_icmp .eq 5, 3) := by decide +kernel
theorem d33_24 : decode jdk_43_method_13_code 24 = .ok (.iconst 0, 1) := by decide +kernel
theorem d33_25 : decode jdk_43_method_13_code 25 = .ok (.ireturn, 1) := by decide +kernel
theorem d33_26 : decode jdk_43_method_13_code 26 = .ok (.iinc 2 1, 3) := by decide +kernel
theorem d33_29 : decode jdk_43_method_13_code 29 = .ok (.goto (-20), 3) := by decide +kernel
theorem d33_32 : decode jdk_43_method_13_code 32 = .ok (.iconst 1, 1) := by decide +kernel
theorem d33_33 : decode jdk_43_method_13_code 33 = .ok (.ireturn, 1) := by decide +kernel
theorem d33_34 : decode jdk_43_method_13_code 34 = .ok (.iconst 0, 1) := by decide +kernel
theorem d33_35 : decode jdk_43_method_13_code 35 = .ok (.ireturn, 1) := by decide +kernel
theorem pn_0 : plainName "java/lang/StringUTF16" = true := by first | (simp [plainName, overriddenIn]; done) | decide +kernel
theorem pd_0 : parseMethodDescriptor "(I)I" = some ⟨[.int], some .int⟩ := by decide +kernel
theorem pd_1 : parseMethodDescriptor "(I)[B" = some ⟨[.int], some (.array .byte)⟩ := by decide +kernel
theorem pd_2 : parseMethodDescriptor "([BII)V" = some ⟨[(.array .byte), .int, .int], none⟩ := by decide +kernel
theorem pd_3 : parseMethodDescriptor "([CI[BII)I" = some ⟨[(.array .char), .int, (.array .byte), .int, .int], some .int⟩ := by decide +kernel
theorem pd_4 : parseMethodDescriptor "([CII)[B" = some ⟨[(.array .char), .int, .int], some (.array .byte)⟩ := by decide +kernel
theorem pd_5 : parseMethodDescriptor "([BI)C" = some ⟨[(.array .byte), .int], some .char⟩ := by decide +kernel
theorem pn_1 : plainName "java/lang/String" = true := by first | (simp [plainName, overriddenIn]; done) | decide +kernel
theorem pd_6 : parseMethodDescriptor "([BI)B" = some ⟨[(.array .byte), .int], some .byte⟩ := by decide +kernel
theorem pd_7 : parseMethodDescriptor "([CIILjava/lang/Void;)V" = some ⟨[(.array .char), .int, .int, (.object "java/lang/Void")], none⟩ := by decide +kernel
theorem pn_2 : plainName "com/example/regraft/regraft/core/NodeIsValidNamePinLaw" = true := by first | (simp [plainName, overriddenIn]; done) | decide +kernel
theorem pd_8 : parseMethodDescriptor "()B" = some ⟨[], some .byte⟩ := by decide +kernel
theorem pn_3 : plainName "java/lang/StringLatin1" = true := by first | (simp [plainName, overriddenIn]; done) | decide +kernel
theorem pd_9 : parseMethodDescriptor "(I)Z" = some ⟨[.int], some .boolean⟩ := by decide +kernel
theorem pd_10 : parseMethodDescriptor "(II)I" = some ⟨[.int, .int], some .int⟩ := by decide +kernel
theorem pd_11 : parseMethodDescriptor "([BIII)I" = some ⟨[(.array .byte), .int, .int, .int], some .int⟩ := by decide +kernel
theorem pn_4 : plainName "jdk/internal/util/Preconditions" = true := by first | (simp [plainName, overriddenIn]; done) | decide +kernel
theorem pd_12 : parseMethodDescriptor "(IIILjava/util/function/BiFunction;)I" = some ⟨[.int, .int, .int, (.object "java/util/function/BiFunction")], some .int⟩ := by decide +kernel
theorem pd_13 : parseMethodDescriptor "([B)I" = some ⟨[(.array .byte)], some .int⟩ := by decide +kernel
theorem pd_14 : parseMethodDescriptor "(III)V" = some ⟨[.int, .int, .int], none⟩ := by decide +kernel
theorem pd_15 : parseMethodDescriptor "(II[B)V" = some ⟨[.int, .int, (.array .byte)], none⟩ := by decide +kernel
theorem pd_16 : parseMethodDescriptor "()Z" = some ⟨[], some .boolean⟩ := by decide +kernel
theorem pd_17 : parseMethodDescriptor "()I" = some ⟨[], some .int⟩ := by decide +kernel
theorem pd_18 : parseMethodDescriptor "([B[B)Z" = some ⟨[(.array .byte), (.array .byte)], some .boolean⟩ := by decide +kernel
theorem pn_5 : plainName "com/example/regraft/regraft/core/Node" = true := by first | (simp [plainName, overriddenIn]; done) | decide +kernel
theorem pd_19 : parseMethodDescriptor "(Ljava/lang/Object;)Z" = some ⟨[(.object "java/lang/Object")], some .boolean⟩ := by decide +kernel
theorem pd_20 : parseMethodDescriptor "(I)C" = some ⟨[.int], some .char⟩ := by decide +kernel
theorem pd_21 : parseMethodDescriptor "([C)V" = some ⟨[(.array .char)], none⟩ := by decide +kernel
theorem pd_22 : parseMethodDescriptor "(Ljava/lang/String;)Z" = some ⟨[(.object "java/lang/String")], some .boolean⟩ := by decide +kernel
theorem own_nat {n : Nat} (h : n < 2147483648) : (Int32.ofNat n).toInt = n := Int32.toInt_ofNat_small h
theorem own_clamp {n : Nat} (h : n < 2147483648) : (Int32.ofNat n).toNatClampNeg = n := by simp only [Int32.toNatClampNeg, own_nat h]; rfl
theorem own_nlt {i n : Nat} (hi : i < 2147483648) (hn : n < 2147483648) : Int32.ofNat i < Int32.ofNat n ↔ i < n := by rw [Int32.lt_iff_toInt_lt, own_nat hi, own_nat hn]; omega
theorem own_ninj {i n : Nat} (hi : i < 2147483648) (hn : n < 2147483648) : Int32.ofNat i = Int32.ofNat n ↔ i = n := by rw [← Int32.toInt_inj, own_nat hi, own_nat hn]; omega
theorem own_succ {i : Nat} : Int32.ofNat i + (1 : Int32) = Int32.ofNat (i + 1) := by rw [Int32.ofNat_add]; rfl
theorem own_nn {n : Nat} (h : n < 2147483648) : ¬ Int32.ofNat n < 0 := by rw [Int32.lt_iff_toInt_lt, own_nat h]; show ¬ (n : Int) < 0; omega
def own_lo (c : Int32) : Int32 := c.toInt8.toInt32
def own_hi (c : Int32) : Int32 := own_lo (c >>> ((8 : Int32) &&& 31))
def own_pair (u v : Int32) : Int32 := (((u &&& 255) <<< ((0 : Int32) &&& 31)) ||| ((v &&& 255) <<< ((8 : Int32) &&& 31))).toUInt32.toUInt16.toUInt32.toInt32
theorem own_255 : ∀ i : Nat, i < 32 → (255 : Int32).toBitVec.getLsbD i = decide (i < 8) := by decide
theorem own_and_lo (x : Int32) : own_lo x &&& 255 = x &&& 255 := by
  apply Int32.toBitVec_inj.mp
  simp only [own_lo, Int32.toBitVec_and, Int8.toBitVec_toInt32, Int32.toBitVec_toInt8]
  apply BitVec.eq_of_getLsbD_eq
  intro i hi
  simp only [BitVec.getLsbD_and, own_255 i hi]
  by_cases h : i < 8
  · simp only [h, decide_true, Bool.and_true, BitVec.getLsbD_signExtend, BitVec.getLsbD_setWidth, if_true, hi, Bool.true_and]
  · simp [h]
theorem own_pair_eq {c : Int32} (h0 : ¬ c < 0) (h1 : ¬ 65535 < c) : own_pair (own_lo (c >>> ((0 : Int32) &&& 31))) (own_hi c) = c := by
  have hb : c.toBitVec.toNat < 2 ^ 16 := by
    rw [Int32.lt_iff_toInt_lt] at h0 h1
    have z0 : (0 : Int32).toInt = 0 := rfl
    have z1 : (65535 : Int32).toInt = 65535 := rfl
    have q : c.toInt = c.toBitVec.toInt := rfl
    rw [z0, q, BitVec.toInt_eq_toNat_cond] at h0
    rw [z1, q, BitVec.toInt_eq_toNat_cond] at h1
    split at h0 <;> split at h1 <;> omega
  have e0 : c >>> ((0 : Int32) &&& 31) = c := by
    apply Int32.toBitVec_inj.mp
    simp
  unfold own_pair own_hi
  rw [own_and_lo, own_and_lo, e0]
  apply Int32.toBitVec_inj.mp
  apply BitVec.eq_of_getLsbD_eq
  intro i hi
  have big : 16 ≤ i → c.toBitVec.getLsbD i = false := fun q => by
    rw [← BitVec.testBit_toNat]
    exact Nat.testBit_lt_two_pow (Nat.lt_of_lt_of_le hb (Nat.pow_le_pow_right (by decide) q))
  have s0 : ∀ y : Int32, y <<< ((0 : Int32) &&& 31) = y := fun y => by apply Int32.toBitVec_inj.mp; simp
  have s8 : ∀ y : Int32, (y <<< ((8 : Int32) &&& 31)).toBitVec = y.toBitVec <<< 8 := fun y => by simp
  have r8 : ∀ y : Int32, (y >>> ((8 : Int32) &&& 31)).toBitVec = y.toBitVec.sshiftRight 8 := fun y => by simp
  have t16 : ∀ y : Int32, y.toUInt32.toUInt16.toUInt32.toInt32.toBitVec = (y.toBitVec.setWidth 16).setWidth 32 := fun y => rfl
  rw [s0, t16]
  simp only [Int32.toBitVec_or, Int32.toBitVec_and, s8, r8, BitVec.getLsbD_setWidth, BitVec.getLsbD_or, BitVec.getLsbD_and, BitVec.getLsbD_shiftLeft, BitVec.getLsbD_sshiftRight, hi]
  have q1 : (255#32).getLsbD i = decide (i < 8) := own_255 i hi
  have q2 : (255#32).getLsbD (i - 8) = decide (i - 8 < 8) := own_255 (i - 8) (by omega)
  by_cases h8 : i < 8
  · simp [h8, q1, show i < 16 by omega]
  · by_cases h16 : i < 16
    · simp [h8, h16, q1, q2, show i - 8 < 8 by omega, show 8 + (i - 8) = i by omega, show ¬ 32 ≤ i - 8 by omega, hi]
      intro a _; exact a
    · simp [h16, big (by omega)]
theorem own_shr0 (c : Int32) : c >>> ((0 : Int32) &&& 31) = c := by apply Int32.toBitVec_inj.mp; simp
theorem own_lolo (c : Int32) : own_lo (own_lo c) = own_lo c := by simp only [own_lo, Int8.toInt8_toInt32]
def own_fit : List Int32 → Nat
  | [] => 0
  | c :: cs => if 255 < c then 0 else own_fit cs + 1
def own_u16 : List Int32 → List Int32
  | [] => []
  | c :: cs => own_lo c :: own_hi c :: own_u16 cs
theorem own_fit_le (cs : List Int32) : own_fit cs ≤ cs.length := by
  induction cs with
  | nil => exact Nat.le_refl _
  | cons c cs ih => unfold own_fit; split <;> simp <;> omega
theorem own_fit_all (cs : List Int32) (h : own_fit cs = cs.length) : ∀ c ∈ cs, ¬ (255 : Int32) < c := by
  induction cs with
  | nil => intro c hc; cases hc
  | cons d cs ih =>
    unfold own_fit at h
    split at h
    · simp at h
    · rename_i hd
      intro c hc
      rcases List.mem_cons.mp hc with rfl | hc
      · exact hd
      · exact ih (by simpa using h) c hc
theorem own_fit_at (cs : List Int32) (h : own_fit cs < cs.length) : (255 : Int32) < cs.getD (own_fit cs) 0 := by
  induction cs with
  | nil => exact absurd h (Nat.lt_irrefl _)
  | cons d cs ih =>
    unfold own_fit at h ⊢
    split
    · rename_i hd; simpa using hd
    · rename_i hd
      rw [if_neg hd] at h
      have := ih (by simpa using h)
      simpa using this
theorem own_u16_len (cs : List Int32) : (own_u16 cs).length = 2 * cs.length := by
  induction cs with
  | nil => rfl
  | cons c cs ih => simp only [own_u16, List.length_cons, ih]; omega
theorem own_u16_app (cs ds : List Int32) : own_u16 (cs ++ ds) = own_u16 cs ++ own_u16 ds := by
  induction cs with
  | nil => rfl
  | cons c cs ih => simp only [List.cons_append, own_u16, ih]
theorem own_u16_get (cs : List Int32) : ∀ i, i < cs.length → (own_u16 cs).getD (2 * i) 0 = own_lo (cs.getD i 0) ∧ (own_u16 cs).getD (2 * i + 1) 0 = own_hi (cs.getD i 0) := by
  induction cs with
  | nil => intro i h; exact absurd h (Nat.not_lt_zero i)
  | cons c cs ih =>
    intro i h
    cases i with
    | zero => exact ⟨rfl, rfl⟩
    | succ i =>
      have e1 : 2 * (i + 1) = 2 * i + 1 + 1 := by omega
      have := ih i (by simpa using h)
      simp only [own_u16, e1, List.getD_cons_succ]
      exact this
theorem own_take_succ (cs : List Int32) (i : Nat) (h : i < cs.length) : cs.take (i + 1) = cs.take i ++ [cs.getD i 0] := by
  rw [List.take_add_one, List.getElem?_eq_getElem h, List.getD_eq_getElem?_getD, List.getElem?_eq_getElem h]; rfl
theorem own_drop_succ (cs : List Int32) (i : Nat) (h : i < cs.length) : cs.drop i = cs.getD i 0 :: cs.drop (i + 1) := by
  rw [List.getD_eq_getElem?_getD, List.getElem?_eq_getElem h]; exact List.drop_eq_getElem_cons h
theorem own_bget (bs : List Int32) (j : Nat) : (bs.map Value.int).getD j (.int 0) = .int (bs.getD j 0) := by
  simp only [List.getD_eq_getElem?_getD, List.getElem?_map]
  cases bs[j]? <;> rfl
/-- a byte stored behind the ones that stand -/
theorem own_pushB {Z : State} {h h' : Heap} {a : Addr} {k : ClassId} {z v : Int32} {xs : List Int32} {j : Nat} (A : Arv Z h a k .byte z (xs.map Value.int) (.int 0)) (hj : j = xs.length) (W : Wr h h' a j (.int (own_lo v))) : Arv Z h' a k .byte z ((xs ++ [own_lo v]).map Value.int) (.int 0) := by
  have P : Arv Z h a k .byte z (xs.map Value.int ++ [.int 0]) (.int 0) := A.pad (pad_rep _ _ 1)
  obtain ⟨c', A', r1, r2, r3, r4, r5⟩ := P
  by_cases hn : xs.length < 2147483648
  · have e := Arv.set A' r1 r2 r3 r4 r5 (v := .int (own_lo v)) (fits_nar_byte _) (j := Int32.ofNat xs.length) (by rw [own_clamp hn, ← hj]; exact W) xs.length (own_clamp hn) (by simp)
    have e2 : (xs.map Value.int ++ [Value.int 0]).set xs.length (.int (own_lo v)) = (xs ++ [own_lo v]).map Value.int := by
      rw [List.map_append, List.set_append_right _ _ (by simp)]; simp
    rw [e2] at e; exact e
  · exfalso
    obtain ⟨c, hc, -, hlt, -⟩ := W
    have q : c' = c := by have := A'.1.symm.trans hc; simpa using this
    subst q
    have : z.toNatClampNeg < 2147483648 := by have := z.toInt_lt; have e : z.toNatClampNeg = z.toInt.toNat := rfl; omega
    omega
theorem own_one (v : Int32) : One (.val (.int v)) := Or.inr ⟨_, rfl, rfl⟩
theorem own_os6c {a d : Addr} {b e f g v : Int32} {s6 : Slot} (h : One s6) : storeLocals #[.val (.ref a), .val (.int b), .val (.ref d), .val (.int e), .val (.int f), .val (.int g), s6] 6 (.int v) = some #[.val (.ref a), .val (.int b), .val (.ref d), .val (.int e), .val (.int f), .val (.int g), .val (.int v)] := by
  rcases h with rfl | ⟨w, rfl, hw⟩
  · rfl
  · cases w <;> first | rfl | (simp [Value.category] at hw)
theorem own_dbl_all : ∀ n : Fin 17, Int32.ofNat n.val <<< ((1 : Int32) &&& 31) = Int32.ofNat (2 * n.val) := by decide +kernel
theorem own_dbl {n : Nat} (h : n ≤ 16) : Int32.ofNat n <<< ((1 : Int32) &&& 31) = Int32.ofNat (2 * n) := own_dbl_all ⟨n, by omega⟩
theorem own_hlf_all : ∀ n : Fin 17, Int32.ofNat (2 * n.val) >>> ((1 : Int32) &&& 31) = Int32.ofNat n.val := by decide +kernel
theorem own_hlf {n : Nat} (h : n ≤ 16) : Int32.ofNat (2 * n) >>> ((1 : Int32) &&& 31) = Int32.ofNat n := own_hlf_all ⟨n, by omega⟩
def own_cdr (n z : Int32) : Int32 := nar .byte ((((n - z).toUInt32 >>> ((31 : Int32) &&& 31).toUInt32).toInt32).toInt8.toInt32)
theorem own_cdr0 (n : Int32) : own_cdr n n = 0 := by unfold own_cdr; rw [Int32.sub_self]; rfl
theorem own_cdr1_all : ∀ n : Fin 17, 0 < n.val → own_cdr (Int32.ofNat n.val) (Int32.ofNat (2 * n.val)) = 1 := by decide +kernel
theorem own_cdr1 {n : Nat} (h0 : 0 < n) (h : n ≤ 16) : own_cdr (Int32.ofNat n) (Int32.ofNat (2 * n)) = 1 := own_cdr1_all ⟨n, by omega⟩ h0
theorem own_narc {c : Int32} (h : ¬ c < 0 ∧ ¬ (65535 : Int32) < c) : nar .char c = c := by
  have q := own_pair_eq h.1 h.2
  show c.toUInt32.toUInt16.toUInt32.toInt32 = c
  rw [← q]; unfold own_pair
  have t16 : ∀ y : Int32, y.toUInt32.toUInt16.toUInt32.toInt32.toBitVec = (y.toBitVec.setWidth 16).setWidth 32 := fun y => rfl
  apply Int32.toBitVec_inj.mp
  rw [t16, t16]
  apply BitVec.eq_of_getLsbD_eq
  intro i hi
  simp only [BitVec.getLsbD_setWidth]
  by_cases h16 : i < 16 <;> simp [h16, hi]
theorem own_mem (cs : List Int32) (i : Nat) (h : i < cs.length) : cs.getD i 0 ∈ cs := by
  rw [List.getD_eq_getElem?_getD, List.getElem?_eq_getElem h]; exact List.getElem_mem h
theorem own_u16_ch (cs : List Int32) (i : Nat) (h : i < cs.length) (hp : ¬ cs.getD i 0 < 0 ∧ ¬ (65535 : Int32) < cs.getD i 0) : nar .char (own_pair ((own_u16 cs).getD (2 * i) 0) ((own_u16 cs).getD (2 * i + 1) 0)) = cs.getD i 0 := by
  obtain ⟨e1, e2⟩ := own_u16_get cs i h
  have q := own_pair_eq hp.1 hp.2
  rw [own_shr0] at q
  rw [e1, e2, q, own_narc hp]
theorem own_logetD (cs : List Int32) (i : Nat) (h : i < cs.length) : (cs.map own_lo).getD i 0 = own_lo (cs.getD i 0) := by
  rw [List.getD_eq_getElem?_getD, List.getD_eq_getElem?_getD, List.getElem?_map, List.getElem?_eq_getElem h]; rfl
theorem own_and255 {c : Int32} (h0 : ¬ c < 0) (h1 : ¬ (255 : Int32) < c) : c &&& 255 = c := by
  have hb : c.toBitVec.toNat < 2 ^ 8 := by
    rw [Int32.lt_iff_toInt_lt] at h0 h1
    have z0 : (0 : Int32).toInt = 0 := rfl
    have z1 : (255 : Int32).toInt = 255 := rfl
    have q : c.toInt = c.toBitVec.toInt := rfl
    rw [z0, q, BitVec.toInt_eq_toNat_cond] at h0
    rw [z1, q, BitVec.toInt_eq_toNat_cond] at h1
    split at h0 <;> split at h1 <;> omega
  apply Int32.toBitVec_inj.mp
  apply BitVec.eq_of_getLsbD_eq
  intro i hi
  have q1 : (255#32).getLsbD i = decide (i < 8) := own_255 i hi
  rw [Int32.toBitVec_and, BitVec.getLsbD_and]
  show (c.toBitVec.getLsbD i && (255#32).getLsbD i) = _
  rw [q1]
  by_cases h8 : i < 8
  · simp [h8]
  · have : c.toBitVec.getLsbD i = false := by
      rw [← BitVec.testBit_toNat]
      exact Nat.testBit_lt_two_pow (Nat.lt_of_lt_of_le hb (Nat.pow_le_pow_right (by decide) (by omega)))
    simp [this]
theorem own_l1 {c : Int32} (h : ¬ c < 0 ∧ ¬ (65535 : Int32) < c) (h1 : ¬ (255 : Int32) < c) : nar .char ((own_lo c &&& (255 : Int32)).toUInt32.toUInt16.toUInt32.toInt32) = c := by
  have e : own_lo c &&& (255 : Int32) = c := by rw [own_and_lo, own_and255 h.1 h1]
  rw [e]
  have q := own_narc h
  rw [show c.toUInt32.toUInt16.toUInt32.toInt32 = nar .char c from rfl, q, q]
theorem own_ncb (y : Int32) : ¬ nar .char y < 0 ∧ ¬ (65535 : Int32) < nar .char y := by
  have t16 : (nar .char y).toBitVec = (y.toBitVec.setWidth 16).setWidth 32 := rfl
  have hb : (nar .char y).toBitVec.toNat < 65536 := by
    rw [t16, BitVec.toNat_setWidth, BitVec.toNat_setWidth]
    exact Nat.lt_of_le_of_lt (Nat.mod_le _ _) (Nat.mod_lt _ (by decide))
  have q : (nar .char y).toInt = (nar .char y).toBitVec.toInt := rfl
  rw [BitVec.toInt_eq_toNat_cond] at q
  have z0 : (0 : Int32).toInt = 0 := rfl
  have z1 : (65535 : Int32).toInt = 65535 := rfl
  rw [Int32.lt_iff_toInt_lt, Int32.lt_iff_toInt_lt, z0, z1, q]
  split <;> omega
theorem own_from (a : Int32) : ∃ f : Nat, f ≤ 5 ∧ (a &&& (2147483647 : Int32)) % (6 : Int32) = Int32.ofNat f := by
  have e1 : (a &&& (2147483647 : Int32)).toInt = a.toInt % 2 ^ 31 := Jvm.Kit.i32_mask a _ (k := 31) (by decide) (by decide)
  have h0 : (0 : Int) ≤ (a &&& (2147483647 : Int32)).toInt := by rw [e1]; omega
  have e2 := Jvm.Kit.i32_rem_nonneg (x := a &&& (2147483647 : Int32)) (y := (6 : Int32)) h0
  have e3 : (6 : Int32).toInt = 6 := rfl
  rw [e3] at e2
  exact ⟨((a &&& (2147483647 : Int32)) % (6 : Int32)).toInt.toNat, by omega, by rw [← Int32.toInt_inj, own_nat (by omega)]; omega⟩
theorem own_bext {bs ds : List Int32} (hl : bs.length = ds.length) (h : ∀ j, j < bs.length → bs.getD j 0 = ds.getD j 0) : bs = ds := by
  apply List.ext_getElem hl
  intro j h1 h2
  have q := h j h1
  simp only [List.getD_eq_getElem?_getD, List.getElem?_eq_getElem h1, List.getElem?_eq_getElem h2, Option.getD_some] at q
  exact q
/-- a Latin-1 String: its class, coder, value array, and the bytes in it -/
def Lat (Z : State) (h : Heap) (x : Addr) (t : Addr) (kb : ClassId) (bs : List Int32) : Prop := Exa Z h x "java/lang/String" ∧ Fld Z h x "java/lang/String" "coder" "B" (.int (0 : Int32)) ∧ Fld Z h x "java/lang/String" "value" "[B" (.ref t) ∧ Arv Z h t kb .byte (Int32.ofNat bs.length) (bs.map Value.int) (.int 0) ∧ bs.length ≤ 4000
theorem own_arveq {Z : State} {h : Heap} {t : Addr} {kb kb' : ClassId} {bs ds : List Int32} (K : Arv Z h t kb .byte (Int32.ofNat bs.length) (bs.map Value.int) (.int 0)) (K' : Arv Z h t kb' .byte (Int32.ofNat ds.length) (ds.map Value.int) (.int 0)) (l1 : bs.length ≤ 4000) (l2 : ds.length ≤ 4000) : bs = ds := by
  obtain ⟨c1, A1, -, S1, -, H1, -⟩ := K
  obtain ⟨c2, A2, -, S2, -, H2, -⟩ := K'
  cases A1.1.symm.trans A2.1
  rw [own_clamp (by omega)] at S1 S2
  refine own_bext (S1.symm.trans S2) fun j hj => ?_
  have q := (H1 j (by omega)).symm.trans (H2 j (by omega))
  rw [own_bget, own_bget] at q
  simpa using q
theorem Lat.same {Z : State} {h : Heap} {x t t' : Addr} {kb kb' : ClassId} {bs ds : List Int32} (A : Lat Z h x t kb bs) (B : Lat Z h x t' kb' ds) : bs = ds := by
  by_cases q : t = t'
  · subst q; exact own_arveq A.2.2.2.1 B.2.2.2.1 A.2.2.2.2 B.2.2.2.2
  · exact absurd rfl (A.2.2.1.ne B.2.2.1 (fun e => q (Value.ref.inj e)))
theorem Lat.ext {Z : State} {h h' : Heap} {x t : Addr} {kb : ClassId} {bs : List Int32} (A : Lat Z h x t kb bs) (E : Ext h h') : Lat Z h' x t kb bs := ⟨A.1.ext E, A.2.1.ext E, A.2.2.1.ext E, A.2.2.2.1.ext E, A.2.2.2.2⟩
theorem Lat.keep {Z : State} {h h' : Heap} {x t : Addr} {kb : ClassId} {bs : List Int32} {ws : List Addr} (A : Lat Z h x t kb bs) (K : Keep h h' ws) (q1 : x ∉ ws) (q2 : t ∉ ws) : Lat Z h' x t kb bs := ⟨A.1.keep K, A.2.1.keep K q1, A.2.2.1.keep K q1, A.2.2.2.1.keep K q2, A.2.2.2.2⟩
def own_idx (cs : List Int32) (ch : Int32) : Nat → Nat → Int32
  | 0, _ => -1
  | k + 1, i => if cs.getD i 0 = ch then Int32.ofNat i else own_idx cs ch k (i + 1)
def own_ivn (cs : List Int32) : Int32 := if own_idx cs 47 cs.length 0 < 0 then (if cs = [58, 105, 100] then 0 else 1) else 0
theorem own_ivn1 (c0 : Int32) : own_ivn [c0] = if c0 = 47 then 0 else 1 := by
  by_cases h0 : c0 = 47
  · simp [own_ivn, own_idx, h0]
  · simp [own_ivn, own_idx, h0]
theorem own_ivn2 (c0 c1 : Int32) : own_ivn [c0, c1] = if c0 = 47 then 0 else if c1 = 47 then 0 else 1 := by
  by_cases h0 : c0 = 47
  · simp [own_ivn, own_idx, h0]
  · by_cases h1 : c1 = 47 <;> simp [own_ivn, own_idx, h0, h1]
theorem own_ivn3 (c0 c1 c2 : Int32) : own_ivn [c0, c1, c2] = if c0 = 47 then 0 else if c1 = 47 then 0 else if c2 = 47 then 0 else if c0 = 58 then (if c1 = 105 then (if c2 = 100 then 0 else 1) else 1) else 1 := by
  by_cases h0 : c0 = 47
  · simp [own_ivn, own_idx, h0]
  · by_cases h1 : c1 = 47
    · simp [own_ivn, own_idx, h0, h1]
    · by_cases h2 : c2 = 47
      · simp [own_ivn, own_idx, h0, h1, h2]
      · by_cases k0 : c0 = 58
        · by_cases k1 : c1 = 105
          · by_cases k2 : c2 = 100 <;> simp [own_ivn, own_idx, h0, h1, h2, k0, k1, k2]
          · simp [own_ivn, own_idx, h0, h1, h2, k0, k1]
        · simp [own_ivn, own_idx, h0, h1, h2, k0]
theorem own_ivn4 (c0 c1 c2 c3 : Int32) : own_ivn [c0, c1, c2, c3] = if c0 = 47 then 0 else if c1 = 47 then 0 else if c2 = 47 then 0 else if c3 = 47 then 0 else 1 := by
  by_cases h0 : c0 = 47
  · simp [own_ivn, own_idx, h0]
  · by_cases h1 : c1 = 47
    · simp [own_ivn, own_idx, h0, h1]
    · by_cases h2 : c2 = 47
      · simp [own_ivn, own_idx, h0, h1, h2]
      · by_cases h3 : c3 = 47 <;> simp [own_ivn, own_idx, h0, h1, h2, h3]
theorem own_lo47 {c : Int32} (h : ¬ c < 0 ∧ ¬ (65535 : Int32) < c) (h1 : ¬ (255 : Int32) < c) : (own_lo c = (47 : Int32)) = (c = 47) := by
  have e : own_lo c &&& (255 : Int32) = c := by rw [own_and_lo, own_and255 h.1 h1]
  refine propext ⟨fun q => ?_, fun q => ?_⟩
  · rw [q] at e; exact e.symm
  · rw [q]; decide
theorem own_maplo (cs : List Int32) (hp : ∀ c ∈ cs, ¬ c < 0 ∧ ¬ (65535 : Int32) < c) (hf : ∀ c ∈ cs, ¬ (255 : Int32) < c) : (cs.map own_lo).map (fun c => c &&& (255 : Int32)) = cs := by
  induction cs with
  | nil => rfl
  | cons c cs ih =>
    simp only [List.map_cons]
    rw [ih (fun d hd => hp d (List.mem_cons_of_mem _ hd)) (fun d hd => hf d (List.mem_cons_of_mem _ hd)), own_and_lo, own_and255 (hp c (List.mem_cons_self ..)).1 (hf c (List.mem_cons_self ..))]
theorem own_idl {cs : List Int32} (hp : ∀ c ∈ cs, ¬ c < 0 ∧ ¬ (65535 : Int32) < c) (hf : own_fit cs = cs.length) : (cs.map own_lo = [58, 105, 100]) = (cs = [58, 105, 100]) := by
  refine propext ⟨fun q => ?_, fun q => ?_⟩
  · have e := own_maplo cs hp (own_fit_all cs hf)
    rw [q] at e; rw [← e]; decide
  · rw [q]; decide
theorem own_notid {cs : List Int32} (hf : own_fit cs < cs.length) : ¬ cs = [58, 105, 100] := fun q => by
  rw [q] at hf; exact absurd hf (by decide)
theorem own_EW {Z : State} {a0 : Array Value} (hw : ∀ d ∈ tables_1, d.before a0 Z = true) : EW Z a0 consts_1 := EW.cons (hw _ (List.mem_of_getElem? (i := 134) rfl)) (by decide) (EW.cons (hw _ (List.mem_of_getElem? (i := 19) rfl)) (by decide) EW.nil)
theorem own_wS {Z : State} {a0 : Array Value} (hw : ∀ d ∈ tables_1, d.before a0 Z = true) : ∀ d ∈ Bundle.stringAtoms, d.before a0 Z = true := fun d hd => hw d ((by decide +kernel : ∀ d ∈ Bundle.stringAtoms, d ∈ tables_1) d hd)
def QC5 (Z : State) (a d : Addr) (ka kd : ClassId) (cs : List Int32) (h0 : Heap) (n0 : Nat) (v : Option Value) (h : Heap) (L : List Loc) : Prop := v = some (.int (Int32.ofNat (own_fit cs))) ∧ Fr n0 L ∧ Keep h0 h [d] ∧ Arv Z h d kd .byte (Int32.ofNat cs.length) (((cs.take (own_fit cs)).map own_lo).map Value.int) (.int 0)
set_option maxRecDepth 65536 in
set_option maxHeartbeats 40000000 in
theorem rmC5 (l : Launch) (Z : State) (a0 : Array Value) (hw : ∀ d ∈ tables_1, d.before a0 Z = true) (ws : List Jvm.Cond) (a d : Addr) (ka kd : ClassId) (cs : List Int32) (h0 : Heap) (n0 : Nat) (Z0 : n0 ≤ h0.size) (K : Arv Z h0 a ka .char (Int32.ofNat cs.length) (cs.map Value.int) (.int 0)) (D : Arv Z h0 d kd .byte (Int32.ofNat cs.length) (([] : List Int32).map Value.int) (.int 0)) (hne : a ≠ d) (gd : n0 ≤ d) (hp : ∀ c ∈ cs, ¬ c < 0 ∧ ¬ (65535 : Int32) < c) (hl : cs.length ≤ 16) :
    MetFree l (⟨"java/lang/StringUTF16", "compress", "([CI[BII)I"⟩ : MethodName) (head1 (Jvm.Cond.code (⟨"java/lang/StringUTF16", "compress", "([CI[BII)I"⟩ : MethodName) jdk_52_method_21_code 7 (some .int) :: ws) ({ frames := 0, cells := 0, slots := 0, locals := 0 } : Room)) (fun a_ U => a_ = #[(.ref a), (.int (0 : Int32)), (.ref d), (.int (0 : Int32)), (.int (Int32.ofNat cs.length))] ∧ Z.Warmed39 U.vm ∧ U.heap = h0) (fun _ _ _ _ _ => True) (fun _ U o U' => ∃ v L, o = .returned v ∧ QC5 Z a d ka kd cs h0 n0 v U'.heap L ∧ FrameEnd U o U' L ({ frames := 0, cells := 0, slots := 0, locals := 0 } : Room).cells ({ frames := 0, cells := 0, slots := 0, locals := 0 } : Room).slots) := by
  refine MetFree.of_bodySF (plainFor_of_name pn_0) hisR ?_
  intro p e s m args below meth c s₁ Bd hml0 hP hK
  obtain ⟨rfl, hZ, hh⟩ := hP
  have hx := Bd.exec
  have hby := Bd.bytes
  have hml : c.maxLocals = 7 := hml0
  have hown : s.vm.findClass "java/lang/StringUTF16" = some m.cls := findClass_of_methodNamed Bd.named
  have hnm := (name_of_methodNamed Bd.named Bd.method).1
  have X0 : Stand p l e ({ frames := 0, cells := 0, slots := 0, locals := 0 } : Room) s m #[(.ref a), (.int (0 : Int32)), (.ref d), (.int (0 : Int32)), (.int (Int32.ofNat cs.length))] below meth c s₁ [] 0 0 := Stand.of_body Bd
  have e0 : s₁.heap = h0 := by rw [← hh, Bd.state]; rfl
  have N0 := Fr.nil n0
  refine Goes.done ?_
  obtain ⟨W, hWd⟩ : ∃ W : State → Prop, W = EndW s below (QC5 Z a d ka kd cs h0 n0) ({ frames := 0, cells := 0, slots := 0, locals := 0 } : Room).cells ({ frames := 0, cells := 0, slots := 0, locals := 0 } : Room).slots := ⟨_, rfl⟩
  rw [← hWd]
  have hef : entryFrame m #[(.ref a), (.int (0 : Int32)), (.ref d), (.int (0 : Int32)), (.int (Int32.ofNat cs.length))] 7 = (mkF m 0 #[.val (.ref a), .val (.int (0 : Int32)), .val (.ref d), .val (.int (0 : Int32)), .val (.int (Int32.ofNat cs.length)), .unset, .unset] []) := by first | (simp [entryFrame, mkF, argsToLocals, Value.category]; done) | rfl
  rw [hef]
  have K3 : ∀ (k i : Nat) (s6 : Slot) (T : State) (h : Heap) (locs : List Loc), Stand p l e ({ frames := 0, cells := 0, slots := 0, locals := 0 } : Room) s m #[(.ref a), (.int (0 : Int32)), (.ref d), (.int (0 : Int32)), (.int (Int32.ofNat cs.length))] below meth c T locs 0 0 → T.heap = h → Fr n0 locs → Arv Z h d kd .byte (Int32.ofNat cs.length) (((cs.take i).map own_lo).map Value.int) (.int 0) → Keep h0 h [d] → One s6 → i + k = cs.length → own_fit cs = i + own_fit (cs.drop i) → Goes p e below W T (mkF m 3 #[.val (.ref a), .val (.int (Int32.ofNat i)), .val (.ref d), .val (.int (Int32.ofNat i)), .val (.int (Int32.ofNat cs.length)), .val (.int (Int32.ofNat i)), s6] []) := by
    intro k
    induction k with
    | zero =>
      intro i s6 T h locs X eT N B KP o6 hi hf
      have hge : ¬ ((Int32.ofNat i) < (Int32.ofNat cs.length)) := by rw [own_nlt (by omega) (by omega)]; omega
      have hfi : own_fit cs = cs.length := by rw [hf, show i = cs.length by omega, List.drop_length]; rfl
      refine Goes.on (T' := T) (g' := (mkF m 5 #[.val (.ref a), .val (.int (Int32.ofNat i)), .val (.ref d), .val (.int (Int32.ofNat i)), .val (.int (Int32.ofNat cs.length)), .val (.int (Int32.ofNat i)), s6] [(.int (Int32.ofNat i))])) ?_ (fun t_ k_ => XS.iload X.here hx rfl (hb hby d8_3) rfl k_)
      refine Goes.on (T' := T) (g' := (mkF m 7 #[.val (.ref a), .val (.int (Int32.ofNat i)), .val (.ref d), .val (.int (Int32.ofNat i)), .val (.int (Int32.ofNat cs.length)), .val (.int (Int32.ofNat i)), s6] [(.int (Int32.ofNat cs.length)), (.int (Int32.ofNat i))])) ?_ (fun t_ k_ => XS.iload X.here hx rfl (hb hby d8_5) rfl k_)
      refine Goes.on (T' := T) (g' := (mkF m 44 #[.val (.ref a), .val (.int (Int32.ofNat i)), .val (.ref d), .val (.int (Int32.ofNat i)), .val (.int (Int32.ofNat cs.length)), .val (.int (Int32.ofNat i)), s6] [])) ?_ (fun t_ k_ => XS.icmpYes X.here hx rfl (pc0 := 7) (pc' := 44) rfl (hb hby d8_7) rfl (flt hge).2.1 (by decide) (by decide) k_)
      refine Goes.on (T' := T) (g' := (mkF m 46 #[.val (.ref a), .val (.int (Int32.ofNat i)), .val (.ref d), .val (.int (Int32.ofNat i)), .val (.int (Int32.ofNat cs.length)), .val (.int (Int32.ofNat i)), s6] [(.int (Int32.ofNat cs.length))])) ?_ (fun t_ k_ => XS.iload X.here hx rfl (hb hby d8_44) rfl k_)
      rw [hWd]
      exact Goes.retn X (v := some (.int (Int32.ofNat cs.length))) (fun fs hr => retI X hx Bd.returns (hb hby d8_46) hr) (fun h => by rw [Bd.returns] at h; cases h) Bd.notSynchronized (by decide) (by decide) (by rw [eT]; exact ⟨by rw [hfi], N, KP, by rw [hfi, show cs.take cs.length = cs.take i from by rw [show i = cs.length by omega]]; exact B⟩)
    | succ k ih =>
      intro i s6 T h locs X eT N B KP o6 hi hf
      have hlt : (Int32.ofNat i) < (Int32.ofNat cs.length) := by rw [own_nlt (by omega) (by omega)]; omega
      have hcl : (Int32.ofNat i).toNatClampNeg = i := own_clamp (by omega)
      have hil : i < cs.length := by omega
      obtain ⟨cA, A1, -, S1, M1, H1, -⟩ := K.keep KP (ninS hne nin0)
      have S1n : cA.slots.size = cs.length := by rw [S1, own_clamp (by omega)]
      have in1 : ¬ ((Int32.ofNat i) < 0 ∨ cA.slots.size ≤ (Int32.ofNat i).toNatClampNeg) := by rw [hcl, S1n]; intro q; rcases q with q | q; exact own_nn (by omega) q; omega
      have at1 : cA.slots[(Int32.ofNat i).toNatClampNeg]? = some (.int (cs.getD i 0)) := by rw [hcl, H1 i (by omega), own_bget]
      obtain ⟨cD, A2, -, S2, M2, H2, -⟩ := id B
      have S2n : cD.slots.size = cs.length := by rw [S2, own_clamp (by omega)]
      have in2 : ¬ ((Int32.ofNat i) < 0 ∨ cD.slots.size ≤ (Int32.ofNat i).toNatClampNeg) := by rw [hcl, S2n]; intro q; rcases q with q | q; exact own_nn (by omega) q; omega
      rw [own_drop_succ cs i hil] at hf
      have Zh : n0 ≤ h.size := Nat.le_trans Z0 KP.1
      refine Goes.on (T' := T) (g' := (mkF m 5 #[.val (.ref a), .val (.int (Int32.ofNat i)), .val (.ref d), .val (.int (Int32.ofNat i)), .val (.int (Int32.ofNat cs.length)), .val (.int (Int32.ofNat i)), s6] [(.int (Int32.ofNat i))])) ?_ (fun t_ k_ => XS.iload X.here hx rfl (hb hby d8_3) rfl k_)
      refine Goes.on (T' := T) (g' := (mkF m 7 #[.val (.ref a), .val (.int (Int32.ofNat i)), .val (.ref d), .val (.int (Int32.ofNat i)), .val (.int (Int32.ofNat cs.length)), .val (.int (Int32.ofNat i)), s6] [(.int (Int32.ofNat cs.length)), (.int (Int32.ofNat i))])) ?_ (fun t_ k_ => XS.iload X.here hx rfl (hb hby d8_5) rfl k_)
      refine Goes.on (T' := T) (g' := (mkF m 10 #[.val (.ref a), .val (.int (Int32.ofNat i)), .val (.ref d), .val (.int (Int32.ofNat i)), .val (.int (Int32.ofNat cs.length)), .val (.int (Int32.ofNat i)), s6] [])) ?_ (fun t_ k_ => XS.icmpNo X.here hx rfl (hb hby d8_7) rfl (tlt hlt).2.1 k_)
      refine Goes.on (T' := T) (g' := (mkF m 11 #[.val (.ref a), .val (.int (Int32.ofNat i)), .val (.ref d), .val (.int (Int32.ofNat i)), .val (.int (Int32.ofNat cs.length)), .val (.int (Int32.ofNat i)), s6] [(.ref a)])) ?_ (fun t_ k_ => XS.aloadN X.here hx rfl (hb hby d8_10) rfl rfl k_)
      refine Goes.on (T' := T) (g' := (mkF m 12 #[.val (.ref a), .val (.int (Int32.ofNat i)), .val (.ref d), .val (.int (Int32.ofNat i)), .val (.int (Int32.ofNat cs.length)), .val (.int (Int32.ofNat i)), s6] [(.int (Int32.ofNat i)), (.ref a)])) ?_ (fun t_ k_ => XS.iloadN X.here hx rfl (hb hby d8_11) rfl k_)
      refine Goes.on (T' := T) (g' := (mkF m 13 #[.val (.ref a), .val (.int (Int32.ofNat i)), .val (.ref d), .val (.int (Int32.ofNat i)), .val (.int (Int32.ofNat cs.length)), .val (.int (Int32.ofNat i)), s6] [(.int (cs.getD i 0))])) ?_ (X.caload hx (j := (Int32.ofNat i)) (v := (.int (cs.getD i 0))) (by rw [eT]; exact A1.1) (State.isArrayOf_alike hZ.alike A1.2.1) A1.2.2 in1 at1 (g := (mkF m 12 #[.val (.ref a), .val (.int (Int32.ofNat i)), .val (.ref d), .val (.int (Int32.ofNat i)), .val (.int (Int32.ofNat cs.length)), .val (.int (Int32.ofNat i)), s6] [(.int (Int32.ofNat i)), (.ref a)])) rfl rfl (hb hby d8_12))
      refine Goes.on (T' := T) (g' := (mkF m 15 #[.val (.ref a), .val (.int (Int32.ofNat i)), .val (.ref d), .val (.int (Int32.ofNat i)), .val (.int (Int32.ofNat cs.length)), .val (.int (Int32.ofNat i)), .val (.int (cs.getD i 0))] [])) ?_ (fun t_ k_ => XS.istore X.here hx rfl (hb hby d8_13) rfl (l' := #[.val (.ref a), .val (.int (Int32.ofNat i)), .val (.ref d), .val (.int (Int32.ofNat i)), .val (.int (Int32.ofNat cs.length)), .val (.int (Int32.ofNat i)), .val (.int (cs.getD i 0))]) (own_os6c o6) k_)
      refine Goes.on (T' := T) (g' := (mkF m 17 #[.val (.ref a), .val (.int (Int32.ofNat i)), .val (.ref d), .val (.int (Int32.ofNat i)), .val (.int (Int32.ofNat cs.length)), .val (.int (Int32.ofNat i)), .val (.int (cs.getD i 0))] [(.int (cs.getD i 0))])) ?_ (fun t_ k_ => XS.iload X.here hx rfl (hb hby d8_15) rfl k_)
      refine Goes.on (T' := T) (g' := (mkF m 20 #[.val (.ref a), .val (.int (Int32.ofNat i)), .val (.ref d), .val (.int (Int32.ofNat i)), .val (.int (Int32.ofNat cs.length)), .val (.int (Int32.ofNat i)), .val (.int (cs.getD i 0))] [(.int (255 : Int32)), (.int (cs.getD i 0))])) ?_ (fun t_ k_ => XS.sipush X.here hx rfl (hb hby d8_17) k_)
      refine Goes.icmpN X hx rfl (pc0 := 20) (pc' := 26) rfl (hb hby d8_20) rfl (by decide) (by decide) (P := (255 : Int32) < (cs.getD i 0)) (cmp_le _ _) (fun hc20 => ?_) (fun hc20 => ?_)
      · show Goes p e below W T (mkF m 26 #[.val (.ref a), .val (.int (Int32.ofNat i)), .val (.ref d), .val (.int (Int32.ofNat i)), .val (.int (Int32.ofNat cs.length)), .val (.int (Int32.ofNat i)), .val (.int (cs.getD i 0))] [])
        refine Goes.on (T' := T) (g' := (mkF m 27 #[.val (.ref a), .val (.int (Int32.ofNat i)), .val (.ref d), .val (.int (Int32.ofNat i)), .val (.int (Int32.ofNat cs.length)), .val (.int (Int32.ofNat i)), .val (.int (cs.getD i 0))] [(.ref d)])) ?_ (fun t_ k_ => XS.aloadN X.here hx rfl (hb hby d8_26) rfl rfl k_)
        refine Goes.on (T' := T) (g' := (mkF m 28 #[.val (.ref a), .val (.int (Int32.ofNat i)), .val (.ref d), .val (.int (Int32.ofNat i)), .val (.int (Int32.ofNat cs.length)), .val (.int (Int32.ofNat i)), .val (.int (cs.getD i 0))] [(.int (Int32.ofNat i)), (.ref d)])) ?_ (fun t_ k_ => XS.iloadN X.here hx rfl (hb hby d8_27) rfl k_)
        refine Goes.on (T' := T) (g' := (mkF m 30 #[.val (.ref a), .val (.int (Int32.ofNat i)), .val (.ref d), .val (.int (Int32.ofNat i)), .val (.int (Int32.ofNat cs.length)), .val (.int (Int32.ofNat i)), .val (.int (cs.getD i 0))] [(.int (cs.getD i 0)), (.int (Int32.ofNat i)), (.ref d)])) ?_ (fun t_ k_ => XS.iload X.here hx rfl (hb hby d8_28) rfl k_)
        refine Goes.on (T' := T) (g' := (mkF m 31 #[.val (.ref a), .val (.int (Int32.ofNat i)), .val (.ref d), .val (.int (Int32.ofNat i)), .val (.int (Int32.ofNat cs.length)), .val (.int (Int32.ofNat i)), .val (.int (cs.getD i 0))] [(.int ((cs.getD i 0).toInt8.toInt32)), (.int (Int32.ofNat i)), (.ref d)])) ?_ (fun t_ k_ => XS.i2b X.here hx rfl (hb hby d8_30) rfl k_)
        obtain ⟨T1, h1, X1, e1, W1, st1⟩ := stB X hx hZ eT A2 (j := (Int32.ofNat i)) in2 (g := (mkF m 31 #[.val (.ref a), .val (.int (Int32.ofNat i)), .val (.ref d), .val (.int (Int32.ofNat i)), .val (.int (Int32.ofNat cs.length)), .val (.int (Int32.ofNat i)), .val (.int (cs.getD i 0))] [(.int ((cs.getD i 0).toInt8.toInt32)), (.int (Int32.ofNat i)), (.ref d)])) rfl rfl (hb hby d8_31)
        have N1 := Fr.snoc X1 N gd
        have Z1 : n0 ≤ h1.size := Nat.le_trans Zh (Nat.le_of_eq W1.size.symm)
        refine Goes.on (T' := T1) (g' := (mkF m 32 #[.val (.ref a), .val (.int (Int32.ofNat i)), .val (.ref d), .val (.int (Int32.ofNat i)), .val (.int (Int32.ofNat cs.length)), .val (.int (Int32.ofNat i)), .val (.int (cs.getD i 0))] [])) ?_ st1
        have B1 : Arv Z h1 d kd .byte (Int32.ofNat cs.length) (((cs.take (i + 1)).map own_lo).map Value.int) (.int 0) := by have q := own_pushB B (j := i) (v := cs.getD i 0) (by simp; omega) (by have q := W1; rw [hcl] at q; have e2 : nar .byte (cs.getD i 0).toInt8.toInt32 = own_lo (cs.getD i 0) := own_lolo _; rw [e2] at q; exact q); rw [own_take_succ cs i hil, List.map_append]; exact q
        have KP1 := KP.wr W1 (Or.inl (List.mem_cons_self ..))
        refine Goes.on (T' := T1) (g' := (mkF m 35 #[.val (.ref a), .val (.int ((Int32.ofNat i) + (1 : Int32))), .val (.ref d), .val (.int (Int32.ofNat i)), .val (.int (Int32.ofNat cs.length)), .val (.int (Int32.ofNat i)), .val (.int (cs.getD i 0))] [])) ?_ (fun t_ k_ => XS.iinc X1.here hx rfl (hb hby d8_32) rfl (l' := #[.val (.ref a), .val (.int ((Int32.ofNat i) + (1 : Int32))), .val (.ref d), .val (.int (Int32.ofNat i)), .val (.int (Int32.ofNat cs.length)), .val (.int (Int32.ofNat i)), .val (.int (cs.getD i 0))]) rfl k_)
        refine Goes.on (T' := T1) (g' := (mkF m 38 #[.val (.ref a), .val (.int ((Int32.ofNat i) + (1 : Int32))), .val (.ref d), .val (.int ((Int32.ofNat i) + (1 : Int32))), .val (.int (Int32.ofNat cs.length)), .val (.int (Int32.ofNat i)), .val (.int (cs.getD i 0))] [])) ?_ (fun t_ k_ => XS.iinc X1.here hx rfl (hb hby d8_35) rfl (l' := #[.val (.ref a), .val (.int ((Int32.ofNat i) + (1 : Int32))), .val (.ref d), .val (.int ((Int32.ofNat i) + (1 : Int32))), .val (.int (Int32.ofNat cs.length)), .val (.int (Int32.ofNat i)), .val (.int (cs.getD i 0))]) rfl k_)
        refine Goes.on (T' := T1) (g' := (mkF m 41 #[.val (.ref a), .val (.int ((Int32.ofNat i) + (1 : Int32))), .val (.ref d), .val (.int ((Int32.ofNat i) + (1 : Int32))), .val (.int (Int32.ofNat cs.length)), .val (.int ((Int32.ofNat i) + (1 : Int32))), .val (.int (cs.getD i 0))] [])) ?_ (fun t_ k_ => XS.iinc X1.here hx rfl (hb hby d8_38) rfl (l' := #[.val (.ref a), .val (.int ((Int32.ofNat i) + (1 : Int32))), .val (.ref d), .val (.int ((Int32.ofNat i) + (1 : Int32))), .val (.int (Int32.ofNat cs.length)), .val (.int ((Int32.ofNat i) + (1 : Int32))), .val (.int (cs.getD i 0))]) rfl k_)
        refine Goes.on (T' := T1) (g' := (mkF m 3 #[.val (.ref a), .val (.int ((Int32.ofNat i) + (1 : Int32))), .val (.ref d), .val (.int ((Int32.ofNat i) + (1 : Int32))), .val (.int (Int32.ofNat cs.length)), .val (.int ((Int32.ofNat i) + (1 : Int32))), .val (.int (cs.getD i 0))] [])) ?_ (fun t_ k_ => XS.goto X1.here hx rfl (pc0 := 41) (pc' := 3) rfl (hb hby d8_41) (by decide) (by decide) k_)
        rw [own_succ]
        exact ih (i + 1) _ _ _ _ X1 e1 N1 B1 KP1 (own_one _) (by omega) (by rw [hf]; simp only [own_fit]; rw [if_neg hc20]; omega)
      · show Goes p e below W T (mkF m 23 #[.val (.ref a), .val (.int (Int32.ofNat i)), .val (.ref d), .val (.int (Int32.ofNat i)), .val (.int (Int32.ofNat cs.length)), .val (.int (Int32.ofNat i)), .val (.int (cs.getD i 0))] [])
        refine Goes.on (T' := T) (g' := (mkF m 25 #[.val (.ref a), .val (.int (Int32.ofNat i)), .val (.ref d), .val (.int (Int32.ofNat i)), .val (.int (Int32.ofNat cs.length)), .val (.int (Int32.ofNat i)), .val (.int (cs.getD i 0))] [(.int (Int32.ofNat i))])) ?_ (fun t_ k_ => XS.iload X.here hx rfl (hb hby d8_23) rfl k_)
        rw [hWd]
        exact Goes.retn X (v := some (.int (Int32.ofNat i))) (fun fs hr => retI X hx Bd.returns (hb hby d8_25) hr) (fun h => by rw [Bd.returns] at h; cases h) Bd.notSynchronized (by decide) (by decide) (by rw [eT]; exact ⟨by rw [hf]; unfold own_fit; rw [if_pos hc20]; rfl, N, KP, by rw [hf]; unfold own_fit; rw [if_pos hc20]; exact B⟩)
  refine Goes.on (T' := s₁) (g' := (mkF m 1 #[.val (.ref a), .val (.int (0 : Int32)), .val (.ref d), .val (.int (0 : Int32)), .val (.int (Int32.ofNat cs.length)), .unset, .unset] [(.int (0 : Int32))])) ?_ (fun t_ k_ => XS.iconst X0.here hx rfl (hb hby d8_0) k_)
  refine Goes.on (T' := s₁) (g' := (mkF m 3 #[.val (.ref a), .val (.int (0 : Int32)), .val (.ref d), .val (.int (0 : Int32)), .val (.int (Int32.ofNat cs.length)), .val (.int (0 : Int32)), .unset] [])) ?_ (fun t_ k_ => XS.istore X0.here hx rfl (hb hby d8_1) rfl (l' := #[.val (.ref a), .val (.int (0 : Int32)), .val (.ref d), .val (.int (0 : Int32)), .val (.int (Int32.ofNat cs.length)), .val (.int (0 : Int32)), .unset]) rfl k_)
  exact K3 cs.length 0 _ _ _ _ X0 e0 N0 (by exact D) (Keep.refl _ _) (Or.inl rfl) (by omega) (by rw [List.drop_zero, Nat.zero_add])
def QNL (Z : State) (n : Nat) (h0 : Heap) (n0 : Nat) (v : Option Value) (h : Heap) (L : List Loc) : Prop := v = some (.int (Int32.ofNat (2 * n))) ∧ Fr n0 L ∧ h = h0
set_option maxRecDepth 65536 in
set_option maxHeartbeats 40000000 in
theorem rmNL (l : Launch) (Z : State) (a0 : Array Value) (hw : ∀ d ∈ tables_1, d.before a0 Z = true) (ws : List Jvm.Cond) (n : Nat) (h0 : Heap) (n0 : Nat) (Z0 : n0 ≤ h0.size) (hn : n ≤ 16) :
    MetFree l (⟨"java/lang/StringUTF16", "newBytesLength", "(I)I"⟩ : MethodName) (head1 (Jvm.Cond.code (⟨"java/lang/StringUTF16", "newBytesLength", "(I)I"⟩ : MethodName) jdk_52_method_3_code 1 (some .int) :: ws) ({ frames := 0, cells := 0, slots := 0, locals := 0 } : Room)) (fun a_ U => a_ = #[(.int (Int32.ofNat n))] ∧ Z.Warmed39 U.vm ∧ U.heap = h0) (fun _ _ _ _ _ => True) (fun _ U o U' => ∃ v L, o = .returned v ∧ QNL Z n h0 n0 v U'.heap L ∧ FrameEnd U o U' L ({ frames := 0, cells := 0, slots := 0, locals := 0 } : Room).cells ({ frames := 0, cells := 0, slots := 0, locals := 0 } : Room).slots) := by
  refine MetFree.of_bodySF (plainFor_of_name pn_0) hisR ?_
  intro p e s m args below meth c s₁ Bd hml0 hP hK
  obtain ⟨rfl, hZ, hh⟩ := hP
  have hx := Bd.exec
  have hby := Bd.bytes
  have hml : c.maxLocals = 1 := hml0
  have hown : s.vm.findClass "java/lang/StringUTF16" = some m.cls := findClass_of_methodNamed Bd.named
  have hnm := (name_of_methodNamed Bd.named Bd.method).1
  have X0 : Stand p l e ({ frames := 0, cells := 0, slots := 0, locals := 0 } : Room) s m #[(.int (Int32.ofNat n))] below meth c s₁ [] 0 0 := Stand.of_body Bd
  have e0 : s₁.heap = h0 := by rw [← hh, Bd.state]; rfl
  have N0 := Fr.nil n0
  refine Goes.done ?_
  obtain ⟨W, hWd⟩ : ∃ W : State → Prop, W = EndW s below (QNL Z n h0 n0) ({ frames := 0, cells := 0, slots := 0, locals := 0 } : Room).cells ({ frames := 0, cells := 0, slots := 0, locals := 0 } : Room).slots := ⟨_, rfl⟩
  rw [← hWd]
  have hef : entryFrame m #[(.int (Int32.ofNat n))] 1 = (mkF m 0 #[.val (.int (Int32.ofNat n))] []) := by first | (simp [entryFrame, mkF, argsToLocals, Value.category]; done) | rfl
  rw [hef]
  have hnn : ¬ (Int32.ofNat n < 0) := own_nn (by omega)
  have hlt : Int32.ofNat n < (1073741823 : Int32) := by rw [show (1073741823 : Int32) = Int32.ofNat 1073741823 from rfl, own_nlt (by omega) (by omega)]; omega
  refine Goes.on (T' := s₁) (g' := (mkF m 1 #[.val (.int (Int32.ofNat n))] [(.int (Int32.ofNat n))])) ?_ (fun t_ k_ => XS.iloadN X0.here hx rfl (hb hby d22_0) rfl k_)
  refine Goes.on (T' := s₁) (g' := (mkF m 12 #[.val (.int (Int32.ofNat n))] [])) ?_ (fun t_ k_ => XS.ifYes X0.here hx rfl (pc0 := 1) (pc' := 12) rfl (hb hby d22_1) rfl ((if0 _ _).trans (flt hnn).2.1) (by decide) (by decide) k_)
  refine Goes.on (T' := s₁) (g' := (mkF m 13 #[.val (.int (Int32.ofNat n))] [(.int (Int32.ofNat n))])) ?_ (fun t_ k_ => XS.iloadN X0.here hx rfl (hb hby d22_12) rfl k_)
  refine Goes.on (T' := s₁) (g' := (mkF m 15 #[.val (.int (Int32.ofNat n))] [(.int (1073741823 : Int32)), (.int (Int32.ofNat n))])) ?_ (X0.ldcInt hx hown (mvT hZ (hw _ (List.mem_of_getElem? (i := 98) rfl))) (g := (mkF m 13 #[.val (.int (Int32.ofNat n))] [(.int (Int32.ofNat n))])) rfl (hb hby d22_13))
  refine Goes.on (T' := s₁) (g' := (mkF m 55 #[.val (.int (Int32.ofNat n))] [])) ?_ (fun t_ k_ => XS.icmpYes X0.here hx rfl (pc0 := 15) (pc' := 55) rfl (hb hby d22_15) rfl (tlt hlt).1 (by decide) (by decide) k_)
  refine Goes.on (T' := s₁) (g' := (mkF m 56 #[.val (.int (Int32.ofNat n))] [(.int (Int32.ofNat n))])) ?_ (fun t_ k_ => XS.iloadN X0.here hx rfl (hb hby d22_55) rfl k_)
  refine Goes.on (T' := s₁) (g' := (mkF m 57 #[.val (.int (Int32.ofNat n))] [(.int (1 : Int32)), (.int (Int32.ofNat n))])) ?_ (fun t_ k_ => XS.iconst X0.here hx rfl (hb hby d22_56) k_)
  refine Goes.on (T' := s₁) (g' := (mkF m 58 #[.val (.int (Int32.ofNat n))] [(.int ((Int32.ofNat n) <<< ((1 : Int32) &&& 31)))])) ?_ (fun t_ k_ => XS.ishl X0.here hx rfl (hb hby d22_57) rfl k_)
  rw [own_dbl hn]
  rw [hWd]
  exact Goes.retn X0 (v := some (.int (Int32.ofNat (2 * n)))) (fun fs hr => retI X0 hx Bd.returns (hb hby d22_58) hr) (fun h => by rw [Bd.returns] at h; cases h) Bd.notSynchronized (by decide) (by decide) (by rw [e0]; exact ⟨rfl, N0, rfl⟩)
def QNF (Z : State) (n : Nat) (h0 : Heap) (n0 : Nat) (v : Option Value) (h : Heap) (L : List Loc) : Prop := v = some (.ref h0.size) ∧ Fr n0 L ∧ Ext h0 h ∧ ∃ kb, Arv Z h h0.size kb .byte (Int32.ofNat (2 * n)) (([] : List Int32).map Value.int) (.int 0)
set_option maxRecDepth 65536 in
set_option maxHeartbeats 40000000 in
theorem rmNF (l : Launch) (Z : State) (a0 : Array Value) (hw : ∀ d ∈ tables_1, d.before a0 Z = true) (ws : List Jvm.Cond) (n : Nat) (h0 : Heap) (n0 : Nat) (Z0 : n0 ≤ h0.size) (hn : n ≤ 16) :
    MetFree l (⟨"java/lang/StringUTF16", "newBytesFor", "(I)[B"⟩ : MethodName) (head1 (Jvm.Cond.code (⟨"java/lang/StringUTF16", "newBytesFor", "(I)[B"⟩ : MethodName) jdk_52_method_2_code 1 (some (.array .byte)) :: ws) ({ frames := 1, cells := 1, slots := 32, locals := 12 } : Room)) (fun a_ U => a_ = #[(.int (Int32.ofNat n))] ∧ Z.Warmed39 U.vm ∧ U.heap = h0) (fun _ _ _ _ _ => True) (fun _ U o U' => ∃ v L, o = .returned v ∧ QNF Z n h0 n0 v U'.heap L ∧ FrameEnd U o U' L ({ frames := 1, cells := 1, slots := 32, locals := 12 } : Room).cells ({ frames := 1, cells := 1, slots := 32, locals := 12 } : Room).slots) := by
  refine MetFree.of_bodySF (plainFor_of_name pn_0) hisR ?_
  intro p e s m args below meth c s₁ Bd hml0 hP hK
  obtain ⟨rfl, hZ, hh⟩ := hP
  have hx := Bd.exec
  have hby := Bd.bytes
  have hml : c.maxLocals = 1 := hml0
  have hown : s.vm.findClass "java/lang/StringUTF16" = some m.cls := findClass_of_methodNamed Bd.named
  have hnm := (name_of_methodNamed Bd.named Bd.method).1
  have X0 : Stand p l e ({ frames := 1, cells := 1, slots := 32, locals := 12 } : Room) s m #[(.int (Int32.ofNat n))] below meth c s₁ [] 0 0 := Stand.of_body Bd
  have e0 : s₁.heap = h0 := by rw [← hh, Bd.state]; rfl
  have N0 := Fr.nil n0
  refine Goes.done ?_
  obtain ⟨W, hWd⟩ : ∃ W : State → Prop, W = EndW s below (QNF Z n h0 n0) ({ frames := 1, cells := 1, slots := 32, locals := 12 } : Room).cells ({ frames := 1, cells := 1, slots := 32, locals := 12 } : Room).slots := ⟨_, rfl⟩
  rw [← hWd]
  have hef : entryFrame m #[(.int (Int32.ofNat n))] 1 = (mkF m 0 #[.val (.int (Int32.ofNat n))] []) := by first | (simp [entryFrame, mkF, argsToLocals, Value.category]; done) | rfl
  rw [hef]
  refine Goes.on (T' := s₁) (g' := (mkF m 1 #[.val (.int (Int32.ofNat n))] [(.int (Int32.ofNat n))])) ?_ (fun t_ k_ => XS.iloadN X0.here hx rfl (hb hby d21_0) rfl k_)
  obtain ⟨_, _, ⟨T1, Lq_1, kq_1, nq_1⟩, -, X1, ⟨Lc1, hQ1, l1, y1, z1⟩, st1⟩ := Jvm.LawKit.callS X0 hx (y := (⟨"java/lang/StringUTF16", "newBytesLength", "(I)I"⟩ : MethodName)) hown (mvT hZ (hw _ (List.mem_of_getElem? (i := 95) rfl))) (mvT hZ (hw _ (List.mem_of_getElem? (i := 96) rfl))) (mvT hZ (hw _ (List.mem_of_getElem? (i := 39) rfl))) (mvT hZ (hw _ (List.mem_of_getElem? (i := 97) rfl))) (by decide) (backOf (W := 0) (rmNL l Z a0 hw [] n h0 n0 Z0 hn) hZ (hw _ (List.mem_of_getElem? (i := 97) rfl)) (hw _ (List.mem_of_getElem? (i := 39) rfl)) (by decide) (by decide)) (g := (mkF m 1 #[.val (.int (Int32.ofNat n))] [(.int (Int32.ofNat n))])) rfl (by rw [hml]; rfl) (argsL := [(.int (Int32.ofNat n))]) (rest := []) (lenOf pd_0 rfl) rfl (by show 2 * 0 + _ ≤ _; exact Nat.le_of_eq rfl) (hb hby d21_1) (fun _ _ => ⟨rfl, e0, (by decide : 0 + 0 ≤ _), (by decide : 0 + 0 ≤ _)⟩)
  dsimp only [Pt.U, Pt.locs, Pt.cells, Pt.slots] at X1 l1 y1 z1 st1 hQ1
  rw [l1, y1, z1] at X1
  change Stand p l e _ _ m _ below meth c T1 _ 0 0 at X1
  obtain ⟨rfl, N1q, eh1⟩ := hQ1
  have N1 := Fr.app N0 N1q
  refine Goes.on (T' := T1) (g' := (mkF m 4 #[.val (.int (Int32.ofNat n))] [(.int (Int32.ofNat (2 * n)))])) ?_ st1
  obtain ⟨T2, h2, k2, X2, e2, E2, A2, st2⟩ := newP X1 hx hZ (hw _ (List.mem_of_getElem? (i := 20) rfl)) eh1 (g := (mkF m 4 #[.val (.int (Int32.ofNat n))] [(.int (Int32.ofNat (2 * n)))])) rfl (hb hby d21_4) rfl (own_nn (by omega)) (cap := 32) (by rw [own_clamp (by omega)]; omega) (by decide) (by decide) (by decide)
  obtain ⟨b2, gb2⟩ : ∃ z, z = h0.size := ⟨_, rfl⟩
  rw [← gb2] at A2 st2
  have V2 := Arv.new A2 (own_nn (by omega))
  have Z2 : n0 ≤ h2.size := Nat.le_trans Z0 E2.1
  have g_b2 : n0 ≤ b2 := Nat.le_trans Z0 (Nat.le_of_eq gb2.symm)
  refine Goes.on (T' := T2) (g' := (mkF m 6 #[.val (.int (Int32.ofNat n))] [(.ref b2)])) ?_ st2
  rw [hWd]
  exact Goes.retn X2 (v := some (.ref b2)) (fun fs hr => retA X2 hx Bd.returns rfl rfl (hb hby d21_6) hr) (fun h => by rw [Bd.returns] at h; cases h) Bd.notSynchronized (by decide) (by decide) (by rw [e2]; exact ⟨by rw [gb2], N1, E2, k2, by rw [← gb2]; exact V2⟩)
def QPC (Z : State) (d : Addr) (kd : ClassId) (n i : Nat) (ch : Int32) (bs : List Int32) (h0 : Heap) (n0 : Nat) (v : Option Value) (h : Heap) (L : List Loc) : Prop := v = none ∧ Fr n0 L ∧ Keep h0 h [d] ∧ Arv Z h d kd .byte (Int32.ofNat (2 * n)) ((bs ++ [own_lo ch] ++ [own_hi ch]).map Value.int) (.int 0)
set_option maxRecDepth 65536 in
set_option maxHeartbeats 40000000 in
theorem rmPC (l : Launch) (Z : State) (a0 : Array Value) (hw : ∀ d ∈ tables_1, d.before a0 Z = true) (ws : List Jvm.Cond) (d : Addr) (kd : ClassId) (n i : Nat) (ch : Int32) (bs : List Int32) (h0 : Heap) (n0 : Nat) (Z0 : n0 ≤ h0.size) (B : Arv Z h0 d kd .byte (Int32.ofNat (2 * n)) (bs.map Value.int) (.int 0)) (hbs : bs.length = 2 * i) (hin : i < n) (hn : n ≤ 16) (gd : n0 ≤ d) (AD : Sta Z Z.heap "java/lang/StringUTF16" "$assertionsDisabled" "Z" (.int (1 : Int32))) (HB : Sta Z Z.heap "java/lang/StringUTF16" "HI_BYTE_SHIFT" "I" (.int (0 : Int32))) (LB : Sta Z Z.heap "java/lang/StringUTF16" "LO_BYTE_SHIFT" "I" (.int (8 : Int32))) (X0_ : Old Z n0 h0) :
    MetFree l (⟨"java/lang/StringUTF16", "putChar", "([BII)V"⟩ : MethodName) (head1 (Jvm.Cond.code (⟨"java/lang/StringUTF16", "putChar", "([BII)V"⟩ : MethodName) jdk_52_method_4_code 3 none :: ws) ({ frames := 0, cells := 0, slots := 0, locals := 0 } : Room)) (fun a_ U => a_ = #[(.ref d), (.int (Int32.ofNat i)), (.int ch)] ∧ Z.Warmed39 U.vm ∧ U.heap = h0) (fun _ _ _ _ _ => True) (fun _ U o U' => ∃ v L, o = .returned v ∧ QPC Z d kd n i ch bs h0 n0 v U'.heap L ∧ FrameEnd U o U' L ({ frames := 0, cells := 0, slots := 0, locals := 0 } : Room).cells ({ frames := 0, cells := 0, slots := 0, locals := 0 } : Room).slots) := by
  refine MetFree.of_bodySF (plainFor_of_name pn_0) hisR ?_
  intro p e s m args below meth c s₁ Bd hml0 hP hK
  obtain ⟨rfl, hZ, hh⟩ := hP
  have hx := Bd.exec
  have hby := Bd.bytes
  have hml : c.maxLocals = 3 := hml0
  have hown : s.vm.findClass "java/lang/StringUTF16" = some m.cls := findClass_of_methodNamed Bd.named
  have hnm := (name_of_methodNamed Bd.named Bd.method).1
  have X0 : Stand p l e ({ frames := 0, cells := 0, slots := 0, locals := 0 } : Room) s m #[(.ref d), (.int (Int32.ofNat i)), (.int ch)] below meth c s₁ [] 0 0 := Stand.of_body Bd
  have e0 : s₁.heap = h0 := by rw [← hh, Bd.state]; rfl
  have N0 := Fr.nil n0
  refine Goes.done ?_
  obtain ⟨W, hWd⟩ : ∃ W : State → Prop, W = EndW s below (QPC Z d kd n i ch bs h0 n0) ({ frames := 0, cells := 0, slots := 0, locals := 0 } : Room).cells ({ frames := 0, cells := 0, slots := 0, locals := 0 } : Room).slots := ⟨_, rfl⟩
  rw [← hWd]
  have hef : entryFrame m #[(.ref d), (.int (Int32.ofNat i)), (.int ch)] 3 = (mkF m 0 #[.val (.ref d), .val (.int (Int32.ofNat i)), .val (.int ch)] []) := by first | (simp [entryFrame, mkF, argsToLocals, Value.category]; done) | rfl
  rw [hef]
  have hcl : (Int32.ofNat (2 * i)).toNatClampNeg = 2 * i := own_clamp (by omega)
  have hcl2 : (Int32.ofNat (2 * i + 1)).toNatClampNeg = 2 * i + 1 := own_clamp (by omega)
  have hz : (Int32.ofNat (2 * n)).toNatClampNeg = 2 * n := own_clamp (by omega)
  obtain ⟨T1, X1, e1, st1⟩ := getS2 X0 hx hZ hown (host := "") (Or.inl (hw _ (List.mem_of_getElem? (i := 102) rfl))) Via.refl e0 (AD.ext X0_.2) (g := (mkF m 0 #[.val (.ref d), .val (.int (Int32.ofNat i)), .val (.int ch)] [])) rfl (hb hby d23_0)
  refine Goes.on (T' := T1) (g' := (mkF m 3 #[.val (.ref d), .val (.int (Int32.ofNat i)), .val (.int ch)] [(.int (1 : Int32))])) ?_ st1
  refine Goes.on (T' := T1) (g' := (mkF m 28 #[.val (.ref d), .val (.int (Int32.ofNat i)), .val (.int ch)] [])) ?_ (fun t_ k_ => XS.ifYes X1.here hx rfl (pc0 := 3) (pc' := 28) rfl (hb hby d23_3) rfl (by decide) (by decide) (by decide) k_)
  refine Goes.on (T' := T1) (g' := (mkF m 29 #[.val (.ref d), .val (.int (Int32.ofNat i)), .val (.int ch)] [(.int (Int32.ofNat i))])) ?_ (fun t_ k_ => XS.iloadN X1.here hx rfl (hb hby d23_28) rfl k_)
  refine Goes.on (T' := T1) (g' := (mkF m 30 #[.val (.ref d), .val (.int (Int32.ofNat i)), .val (.int ch)] [(.int (1 : Int32)), (.int (Int32.ofNat i))])) ?_ (fun t_ k_ => XS.iconst X1.here hx rfl (hb hby d23_29) k_)
  refine Goes.on (T' := T1) (g' := (mkF m 31 #[.val (.ref d), .val (.int (Int32.ofNat i)), .val (.int ch)] [(.int ((Int32.ofNat i) <<< ((1 : Int32) &&& 31)))])) ?_ (fun t_ k_ => XS.ishl X1.here hx rfl (hb hby d23_30) rfl k_)
  rw [own_dbl (by omega)]
  refine Goes.on (T' := T1) (g' := (mkF m 32 #[.val (.ref d), .val (.int (Int32.ofNat (2 * i))), .val (.int ch)] [])) ?_ (fun t_ k_ => XS.istoreN X1.here hx rfl (hb hby d23_31) rfl (l' := #[.val (.ref d), .val (.int (Int32.ofNat (2 * i))), .val (.int ch)]) rfl k_)
  refine Goes.on (T' := T1) (g' := (mkF m 33 #[.val (.ref d), .val (.int (Int32.ofNat (2 * i))), .val (.int ch)] [(.ref d)])) ?_ (fun t_ k_ => XS.aloadN X1.here hx rfl (hb hby d23_32) rfl rfl k_)
  refine Goes.on (T' := T1) (g' := (mkF m 34 #[.val (.ref d), .val (.int (Int32.ofNat (2 * i))), .val (.int ch)] [(.int (Int32.ofNat (2 * i))), (.ref d)])) ?_ (fun t_ k_ => XS.iloadN X1.here hx rfl (hb hby d23_33) rfl k_)
  refine Goes.on (T' := T1) (g' := (mkF m 37 #[.val (.ref d), .val (.int ((Int32.ofNat (2 * i)) + (1 : Int32))), .val (.int ch)] [(.int (Int32.ofNat (2 * i))), (.ref d)])) ?_ (fun t_ k_ => XS.iinc X1.here hx rfl (hb hby d23_34) rfl (l' := #[.val (.ref d), .val (.int ((Int32.ofNat (2 * i)) + (1 : Int32))), .val (.int ch)]) rfl k_)
  refine Goes.on (T' := T1) (g' := (mkF m 38 #[.val (.ref d), .val (.int ((Int32.ofNat (2 * i)) + (1 : Int32))), .val (.int ch)] [(.int ch), (.int (Int32.ofNat (2 * i))), (.ref d)])) ?_ (fun t_ k_ => XS.iloadN X1.here hx rfl (hb hby d23_37) rfl k_)
  obtain ⟨T2, X2, e2, st2⟩ := getS2 X1 hx hZ hown (host := "") (Or.inl (hw _ (List.mem_of_getElem? (i := 103) rfl))) Via.refl e1 (HB.ext X0_.2) (g := (mkF m 38 #[.val (.ref d), .val (.int ((Int32.ofNat (2 * i)) + (1 : Int32))), .val (.int ch)] [(.int ch), (.int (Int32.ofNat (2 * i))), (.ref d)])) rfl (hb hby d23_38)
  refine Goes.on (T' := T2) (g' := (mkF m 41 #[.val (.ref d), .val (.int ((Int32.ofNat (2 * i)) + (1 : Int32))), .val (.int ch)] [(.int (0 : Int32)), (.int ch), (.int (Int32.ofNat (2 * i))), (.ref d)])) ?_ st2
  refine Goes.on (T' := T2) (g' := (mkF m 42 #[.val (.ref d), .val (.int ((Int32.ofNat (2 * i)) + (1 : Int32))), .val (.int ch)] [(.int (ch >>> ((0 : Int32) &&& 31))), (.int (Int32.ofNat (2 * i))), (.ref d)])) ?_ (fun t_ k_ => XS.ishr X2.here hx rfl (hb hby d23_41) rfl k_)
  refine Goes.on (T' := T2) (g' := (mkF m 43 #[.val (.ref d), .val (.int ((Int32.ofNat (2 * i)) + (1 : Int32))), .val (.int ch)] [(.int ((ch >>> ((0 : Int32) &&& 31)).toInt8.toInt32)), (.int (Int32.ofNat (2 * i))), (.ref d)])) ?_ (fun t_ k_ => XS.i2b X2.here hx rfl (hb hby d23_42) rfl k_)
  obtain ⟨c1, A1, -, S1, M1, H1, -⟩ := id B
  have in1 : ¬ (Int32.ofNat (2 * i) < 0 ∨ c1.slots.size ≤ (Int32.ofNat (2 * i)).toNatClampNeg) := by rw [hcl, S1, hz]; intro q; rcases q with q | q; exact own_nn (by omega) q; omega
  obtain ⟨T3, h3, X3, e3, W3, st3⟩ := stB X2 hx hZ e2 A1 (j := (Int32.ofNat (2 * i))) in1 (g := (mkF m 43 #[.val (.ref d), .val (.int ((Int32.ofNat (2 * i)) + (1 : Int32))), .val (.int ch)] [(.int ((ch >>> ((0 : Int32) &&& 31)).toInt8.toInt32)), (.int (Int32.ofNat (2 * i))), (.ref d)])) rfl rfl (hb hby d23_43)
  have N3 := Fr.snoc X3 N0 gd
  have Z3 : n0 ≤ h3.size := Nat.le_trans Z0 (Nat.le_of_eq W3.size.symm)
  refine Goes.on (T' := T3) (g' := (mkF m 44 #[.val (.ref d), .val (.int ((Int32.ofNat (2 * i)) + (1 : Int32))), .val (.int ch)] [])) ?_ st3
  have B1 := own_pushB B (j := 2 * i) (v := ch) hbs.symm (by have q := W3; rw [hcl] at q; have e2 : nar .byte (ch >>> ((0 : Int32) &&& 31)).toInt8.toInt32 = own_lo ch := (by rw [own_shr0]; exact own_lolo _); rw [e2] at q; exact q)
  have KP1 := (Keep.refl h0 [d]).wr W3 (Or.inl (List.mem_cons_self ..))
  have X1_ := X0_.wr W3 gd
  rw [own_succ]
  refine Goes.on (T' := T3) (g' := (mkF m 45 #[.val (.ref d), .val (.int (Int32.ofNat (2 * i + 1))), .val (.int ch)] [(.ref d)])) ?_ (fun t_ k_ => XS.aloadN X3.here hx rfl (hb hby d23_44) rfl rfl k_)
  refine Goes.on (T' := T3) (g' := (mkF m 46 #[.val (.ref d), .val (.int (Int32.ofNat (2 * i + 1))), .val (.int ch)] [(.int (Int32.ofNat (2 * i + 1))), (.ref d)])) ?_ (fun t_ k_ => XS.iloadN X3.here hx rfl (hb hby d23_45) rfl k_)
  refine Goes.on (T' := T3) (g' := (mkF m 47 #[.val (.ref d), .val (.int (Int32.ofNat (2 * i + 1))), .val (.int ch)] [(.int ch), (.int (Int32.ofNat (2 * i + 1))), (.ref d)])) ?_ (fun t_ k_ => XS.iloadN X3.here hx rfl (hb hby d23_46) rfl k_)
  obtain ⟨T4, X4, e4, st4⟩ := getS2 X3 hx hZ hown (host := "") (Or.inl (hw _ (List.mem_of_getElem? (i := 104) rfl))) Via.refl e3 (LB.ext X1_.2) (g := (mkF m 47 #[.val (.ref d), .val (.int (Int32.ofNat (2 * i + 1))), .val (.int ch)] [(.int ch), (.int (Int32.ofNat (2 * i + 1))), (.ref d)])) rfl (hb hby d23_47)
  refine Goes.on (T' := T4) (g' := (mkF m 50 #[.val (.ref d), .val (.int (Int32.ofNat (2 * i + 1))), .val (.int ch)] [(.int (8 : Int32)), (.int ch), (.int (Int32.ofNat (2 * i + 1))), (.ref d)])) ?_ st4
  refine Goes.on (T' := T4) (g' := (mkF m 51 #[.val (.ref d), .val (.int (Int32.ofNat (2 * i + 1))), .val (.int ch)] [(.int (ch >>> ((8 : Int32) &&& 31))), (.int (Int32.ofNat (2 * i + 1))), (.ref d)])) ?_ (fun t_ k_ => XS.ishr X4.here hx rfl (hb hby d23_50) rfl k_)
  refine Goes.on (T' := T4) (g' := (mkF m 52 #[.val (.ref d), .val (.int (Int32.ofNat (2 * i + 1))), .val (.int ch)] [(.int ((ch >>> ((8 : Int32) &&& 31)).toInt8.toInt32)), (.int (Int32.ofNat (2 * i + 1))), (.ref d)])) ?_ (fun t_ k_ => XS.i2b X4.here hx rfl (hb hby d23_51) rfl k_)
  obtain ⟨c2, A2, -, S2, M2, H2, -⟩ := id B1
  have in2 : ¬ (Int32.ofNat (2 * i + 1) < 0 ∨ c2.slots.size ≤ (Int32.ofNat (2 * i + 1)).toNatClampNeg) := by rw [hcl2, S2, hz]; intro q; rcases q with q | q; exact own_nn (by omega) q; omega
  obtain ⟨T5, h5, X5, e5, W5, st5⟩ := stB X4 hx hZ e4 A2 (j := (Int32.ofNat (2 * i + 1))) in2 (g := (mkF m 52 #[.val (.ref d), .val (.int (Int32.ofNat (2 * i + 1))), .val (.int ch)] [(.int ((ch >>> ((8 : Int32) &&& 31)).toInt8.toInt32)), (.int (Int32.ofNat (2 * i + 1))), (.ref d)])) rfl rfl (hb hby d23_52)
  have N5 := Fr.snoc X5 N3 gd
  have Z5 : n0 ≤ h5.size := Nat.le_trans Z3 (Nat.le_of_eq W5.size.symm)
  refine Goes.on (T' := T5) (g' := (mkF m 53 #[.val (.ref d), .val (.int (Int32.ofNat (2 * i + 1))), .val (.int ch)] [])) ?_ st5
  have B2 := own_pushB B1 (j := 2 * i + 1) (v := ch >>> ((8 : Int32) &&& 31)) (by simp; omega) (by have q := W5; rw [hcl2] at q; have e2 : nar .byte (ch >>> ((8 : Int32) &&& 31)).toInt8.toInt32 = own_lo (ch >>> ((8 : Int32) &&& 31)) := own_lolo _; rw [e2] at q; exact q)
  have KP2 := KP1.wr W5 (Or.inl (List.mem_cons_self ..))
  rw [hWd]
  exact Goes.retn X5 (v := none) (fun fs hr => X5.returnOut hx Bd.returns (hb hby d23_53) hr) (fun _ => rfl) Bd.notSynchronized (by decide) (by decide) (by rw [e5]; exact ⟨rfl, N5, KP2, B2⟩)
def QGC (Z : State) (d : Addr) (kd : ClassId) (n i : Nat) (bs : List Int32) (h0 : Heap) (n0 : Nat) (v : Option Value) (h : Heap) (L : List Loc) : Prop := v = some (.int (nar .char (own_pair (bs.getD (2 * i) 0) (bs.getD (2 * i + 1) 0)))) ∧ Fr n0 L ∧ h = h0
set_option maxRecDepth 65536 in
set_option maxHeartbeats 40000000 in
theorem rmGC (l : Launch) (Z : State) (a0 : Array Value) (hw : ∀ d ∈ tables_1, d.before a0 Z = true) (ws : List Jvm.Cond) (d : Addr) (kd : ClassId) (n i : Nat) (bs : List Int32) (h0 : Heap) (n0 : Nat) (Z0 : n0 ≤ h0.size) (B : Arv Z h0 d kd .byte (Int32.ofNat (2 * n)) (bs.map Value.int) (.int 0)) (hin : i < n) (hn : n ≤ 16) (AD : Sta Z Z.heap "java/lang/StringUTF16" "$assertionsDisabled" "Z" (.int (1 : Int32))) (HB : Sta Z Z.heap "java/lang/StringUTF16" "HI_BYTE_SHIFT" "I" (.int (0 : Int32))) (LB : Sta Z Z.heap "java/lang/StringUTF16" "LO_BYTE_SHIFT" "I" (.int (8 : Int32))) (X0_ : Old Z n0 h0) :
    MetFree l (⟨"java/lang/StringUTF16", "getChar", "([BI)C"⟩ : MethodName) (head1 (Jvm.Cond.code (⟨"java/lang/StringUTF16", "getChar", "([BI)C"⟩ : MethodName) jdk_52_method_5_code 2 (some .char) :: ws) ({ frames := 0, cells := 0, slots := 0, locals := 0 } : Room)) (fun a_ U => a_ = #[(.ref d), (.int (Int32.ofNat i))] ∧ Z.Warmed39 U.vm ∧ U.heap = h0) (fun _ _ _ _ _ => True) (fun _ U o U' => ∃ v L, o = .returned v ∧ QGC Z d kd n i bs h0 n0 v U'.heap L ∧ FrameEnd U o U' L ({ frames := 0, cells := 0, slots := 0, locals := 0 } : Room).cells ({ frames := 0, cells := 0, slots := 0, locals := 0 } : Room).slots) := by
  refine MetFree.of_bodySF (plainFor_of_name pn_0) hisR ?_
  intro p e s m args below meth c s₁ Bd hml0 hP hK
  obtain ⟨rfl, hZ, hh⟩ := hP
  have hx := Bd.exec
  have hby := Bd.bytes
  have hml : c.maxLocals = 2 := hml0
  have hown : s.vm.findClass "java/lang/StringUTF16" = some m.cls := findClass_of_methodNamed Bd.named
  have hnm := (name_of_methodNamed Bd.named Bd.method).1
  have X0 : Stand p l e ({ frames := 0, cells := 0, slots := 0, locals := 0 } : Room) s m #[(.ref d), (.int (Int32.ofNat i))] below meth c s₁ [] 0 0 := Stand.of_body Bd
  have e0 : s₁.heap = h0 := by rw [← hh, Bd.state]; rfl
  have N0 := Fr.nil n0
  refine Goes.done ?_
  obtain ⟨W, hWd⟩ : ∃ W : State → Prop, W = EndW s below (QGC Z d kd n i bs h0 n0) ({ frames := 0, cells := 0, slots := 0, locals := 0 } : Room).cells ({ frames := 0, cells := 0, slots := 0, locals := 0 } : Room).slots := ⟨_, rfl⟩
  rw [← hWd]
  have hef : entryFrame m #[(.ref d), (.int (Int32.ofNat i))] 2 = (mkF m 0 #[.val (.ref d), .val (.int (Int32.ofNat i))] []) := by first | (simp [entryFrame, mkF, argsToLocals, Value.category]; done) | rfl
  rw [hef]
  have hcl : (Int32.ofNat (2 * i)).toNatClampNeg = 2 * i := own_clamp (by omega)
  have hcl2 : (Int32.ofNat (2 * i + 1)).toNatClampNeg = 2 * i + 1 := own_clamp (by omega)
  have hz : (Int32.ofNat (2 * n)).toNatClampNeg = 2 * n := own_clamp (by omega)
  obtain ⟨c1, A1, -, S1, M1, H1, -⟩ := id B
  have in1 : ¬ (Int32.ofNat (2 * i) < 0 ∨ c1.slots.size ≤ (Int32.ofNat (2 * i)).toNatClampNeg) := by rw [hcl, S1, hz]; intro q; rcases q with q | q; exact own_nn (by omega) q; omega
  have in2 : ¬ (Int32.ofNat (2 * i + 1) < 0 ∨ c1.slots.size ≤ (Int32.ofNat (2 * i + 1)).toNatClampNeg) := by rw [hcl2, S1, hz]; intro q; rcases q with q | q; exact own_nn (by omega) q; omega
  have at1 : c1.slots[(Int32.ofNat (2 * i)).toNatClampNeg]? = some (.int (bs.getD (2 * i) 0)) := by rw [hcl, H1 _ (by omega), own_bget]
  have at2 : c1.slots[(Int32.ofNat (2 * i + 1)).toNatClampNeg]? = some (.int (bs.getD (2 * i + 1) 0)) := by rw [hcl2, H1 _ (by omega), own_bget]
  obtain ⟨T1, X1, e1, st1⟩ := getS2 X0 hx hZ hown (host := "") (Or.inl (hw _ (List.mem_of_getElem? (i := 102) rfl))) Via.refl e0 (AD.ext X0_.2) (g := (mkF m 0 #[.val (.ref d), .val (.int (Int32.ofNat i))] [])) rfl (hb hby d24_0)
  refine Goes.on (T' := T1) (g' := (mkF m 3 #[.val (.ref d), .val (.int (Int32.ofNat i))] [(.int (1 : Int32))])) ?_ st1
  refine Goes.on (T' := T1) (g' := (mkF m 28 #[.val (.ref d), .val (.int (Int32.ofNat i))] [])) ?_ (fun t_ k_ => XS.ifYes X1.here hx rfl (pc0 := 3) (pc' := 28) rfl (hb hby d24_3) rfl (by decide) (by decide) (by decide) k_)
  refine Goes.on (T' := T1) (g' := (mkF m 29 #[.val (.ref d), .val (.int (Int32.ofNat i))] [(.int (Int32.ofNat i))])) ?_ (fun t_ k_ => XS.iloadN X1.here hx rfl (hb hby d24_28) rfl k_)
  refine Goes.on (T' := T1) (g' := (mkF m 30 #[.val (.ref d), .val (.int (Int32.ofNat i))] [(.int (1 : Int32)), (.int (Int32.ofNat i))])) ?_ (fun t_ k_ => XS.iconst X1.here hx rfl (hb hby d24_29) k_)
  refine Goes.on (T' := T1) (g' := (mkF m 31 #[.val (.ref d), .val (.int (Int32.ofNat i))] [(.int ((Int32.ofNat i) <<< ((1 : Int32) &&& 31)))])) ?_ (fun t_ k_ => XS.ishl X1.here hx rfl (hb hby d24_30) rfl k_)
  rw [own_dbl (by omega)]
  refine Goes.on (T' := T1) (g' := (mkF m 32 #[.val (.ref d), .val (.int (Int32.ofNat (2 * i)))] [])) ?_ (fun t_ k_ => XS.istoreN X1.here hx rfl (hb hby d24_31) rfl (l' := #[.val (.ref d), .val (.int (Int32.ofNat (2 * i)))]) rfl k_)
  refine Goes.on (T' := T1) (g' := (mkF m 33 #[.val (.ref d), .val (.int (Int32.ofNat (2 * i)))] [(.ref d)])) ?_ (fun t_ k_ => XS.aloadN X1.here hx rfl (hb hby d24_32) rfl rfl k_)
  refine Goes.on (T' := T1) (g' := (mkF m 34 #[.val (.ref d), .val (.int (Int32.ofNat (2 * i)))] [(.int (Int32.ofNat (2 * i))), (.ref d)])) ?_ (fun t_ k_ => XS.iloadN X1.here hx rfl (hb hby d24_33) rfl k_)
  refine Goes.on (T' := T1) (g' := (mkF m 37 #[.val (.ref d), .val (.int ((Int32.ofNat (2 * i)) + (1 : Int32)))] [(.int (Int32.ofNat (2 * i))), (.ref d)])) ?_ (fun t_ k_ => XS.iinc X1.here hx rfl (hb hby d24_34) rfl (l' := #[.val (.ref d), .val (.int ((Int32.ofNat (2 * i)) + (1 : Int32)))]) rfl k_)
  refine Goes.on (T' := T1) (g' := (mkF m 38 #[.val (.ref d), .val (.int ((Int32.ofNat (2 * i)) + (1 : Int32)))] [(.int (bs.getD (2 * i) 0))])) ?_ (X1.baloadBytes hx (j := (Int32.ofNat (2 * i))) (v := (.int (bs.getD (2 * i) 0))) (by rw [e1]; exact A1.1) (State.isArrayOf_alike hZ.alike A1.2.1) A1.2.2 in1 at1 (g := (mkF m 37 #[.val (.ref d), .val (.int ((Int32.ofNat (2 * i)) + (1 : Int32)))] [(.int (Int32.ofNat (2 * i))), (.ref d)])) rfl rfl (hb hby d24_37))
  refine Goes.on (T' := T1) (g' := (mkF m 41 #[.val (.ref d), .val (.int ((Int32.ofNat (2 * i)) + (1 : Int32)))] [(.int (255 : Int32)), (.int (bs.getD (2 * i) 0))])) ?_ (fun t_ k_ => XS.sipush X1.here hx rfl (hb hby d24_38) k_)
  refine Goes.on (T' := T1) (g' := (mkF m 42 #[.val (.ref d), .val (.int ((Int32.ofNat (2 * i)) + (1 : Int32)))] [(.int ((bs.getD (2 * i) 0) &&& (255 : Int32)))])) ?_ (fun t_ k_ => XS.iand X1.here hx rfl (hb hby d24_41) rfl k_)
  obtain ⟨T2, X2, e2, st2⟩ := getS2 X1 hx hZ hown (host := "") (Or.inl (hw _ (List.mem_of_getElem? (i := 103) rfl))) Via.refl e1 (HB.ext X0_.2) (g := (mkF m 42 #[.val (.ref d), .val (.int ((Int32.ofNat (2 * i)) + (1 : Int32)))] [(.int ((bs.getD (2 * i) 0) &&& (255 : Int32)))])) rfl (hb hby d24_42)
  refine Goes.on (T' := T2) (g' := (mkF m 45 #[.val (.ref d), .val (.int ((Int32.ofNat (2 * i)) + (1 : Int32)))] [(.int (0 : Int32)), (.int ((bs.getD (2 * i) 0) &&& (255 : Int32)))])) ?_ st2
  refine Goes.on (T' := T2) (g' := (mkF m 46 #[.val (.ref d), .val (.int ((Int32.ofNat (2 * i)) + (1 : Int32)))] [(.int (((bs.getD (2 * i) 0) &&& (255 : Int32)) <<< ((0 : Int32) &&& 31)))])) ?_ (fun t_ k_ => XS.ishl X2.here hx rfl (hb hby d24_45) rfl k_)
  refine Goes.on (T' := T2) (g' := (mkF m 47 #[.val (.ref d), .val (.int ((Int32.ofNat (2 * i)) + (1 : Int32)))] [(.ref d), (.int (((bs.getD (2 * i) 0) &&& (255 : Int32)) <<< ((0 : Int32) &&& 31)))])) ?_ (fun t_ k_ => XS.aloadN X2.here hx rfl (hb hby d24_46) rfl rfl k_)
  refine Goes.on (T' := T2) (g' := (mkF m 48 #[.val (.ref d), .val (.int ((Int32.ofNat (2 * i)) + (1 : Int32)))] [(.int ((Int32.ofNat (2 * i)) + (1 : Int32))), (.ref d), (.int (((bs.getD (2 * i) 0) &&& (255 : Int32)) <<< ((0 : Int32) &&& 31)))])) ?_ (fun t_ k_ => XS.iloadN X2.here hx rfl (hb hby d24_47) rfl k_)
  rw [own_succ]
  refine Goes.on (T' := T2) (g' := (mkF m 49 #[.val (.ref d), .val (.int (Int32.ofNat (2 * i + 1)))] [(.int (bs.getD (2 * i + 1) 0)), (.int (((bs.getD (2 * i) 0) &&& (255 : Int32)) <<< ((0 : Int32) &&& 31)))])) ?_ (X2.baloadBytes hx (j := (Int32.ofNat (2 * i + 1))) (v := (.int (bs.getD (2 * i + 1) 0))) (by rw [e2]; exact A1.1) (State.isArrayOf_alike hZ.alike A1.2.1) A1.2.2 in2 at2 (g := (mkF m 48 #[.val (.ref d), .val (.int (Int32.ofNat (2 * i + 1)))] [(.int (Int32.ofNat (2 * i + 1))), (.ref d), (.int (((bs.getD (2 * i) 0) &&& (255 : Int32)) <<< ((0 : Int32) &&& 31)))])) rfl rfl (hb hby d24_48))
  refine Goes.on (T' := T2) (g' := (mkF m 52 #[.val (.ref d), .val (.int (Int32.ofNat (2 * i + 1)))] [(.int (255 : Int32)), (.int (bs.getD (2 * i + 1) 0)), (.int (((bs.getD (2 * i) 0) &&& (255 : Int32)) <<< ((0 : Int32) &&& 31)))])) ?_ (fun t_ k_ => XS.sipush X2.here hx rfl (hb hby d24_49) k_)
  refine Goes.on (T' := T2) (g' := (mkF m 53 #[.val (.ref d), .val (.int (Int32.ofNat (2 * i + 1)))] [(.int ((bs.getD (2 * i + 1) 0) &&& (255 : Int32))), (.int (((bs.getD (2 * i) 0) &&& (255 : Int32)) <<< ((0 : Int32) &&& 31)))])) ?_ (fun t_ k_ => XS.iand X2.here hx rfl (hb hby d24_52) rfl k_)
  obtain ⟨T3, X3, e3, st3⟩ := getS2 X2 hx hZ hown (host := "") (Or.inl (hw _ (List.mem_of_getElem? (i := 104) rfl))) Via.refl e2 (LB.ext X0_.2) (g := (mkF m 53 #[.val (.ref d), .val (.int (Int32.ofNat (2 * i + 1)))] [(.int ((bs.getD (2 * i + 1) 0) &&& (255 : Int32))), (.int (((bs.getD (2 * i) 0) &&& (255 : Int32)) <<< ((0 : Int32) &&& 31)))])) rfl (hb hby d24_53)
  refine Goes.on (T' := T3) (g' := (mkF m 56 #[.val (.ref d), .val (.int (Int32.ofNat (2 * i + 1)))] [(.int (8 : Int32)), (.int ((bs.getD (2 * i + 1) 0) &&& (255 : Int32))), (.int (((bs.getD (2 * i) 0) &&& (255 : Int32)) <<< ((0 : Int32) &&& 31)))])) ?_ st3
  refine Goes.on (T' := T3) (g' := (mkF m 57 #[.val (.ref d), .val (.int (Int32.ofNat (2 * i + 1)))] [(.int (((bs.getD (2 * i + 1) 0) &&& (255 : Int32)) <<< ((8 : Int32) &&& 31))), (.int (((bs.getD (2 * i) 0) &&& (255 : Int32)) <<< ((0 : Int32) &&& 31)))])) ?_ (fun t_ k_ => XS.ishl X3.here hx rfl (hb hby d24_56) rfl k_)
  refine Goes.on (T' := T3) (g' := (mkF m 58 #[.val (.ref d), .val (.int (Int32.ofNat (2 * i + 1)))] [(.int ((((bs.getD (2 * i) 0) &&& (255 : Int32)) <<< ((0 : Int32) &&& 31)) ||| (((bs.getD (2 * i + 1) 0) &&& (255 : Int32)) <<< ((8 : Int32) &&& 31))))])) ?_ (fun t_ k_ => XS.ior X3.here hx rfl (hb hby d24_57) rfl k_)
  refine Goes.on (T' := T3) (g' := (mkF m 59 #[.val (.ref d), .val (.int (Int32.ofNat (2 * i + 1)))] [(.int (((((bs.getD (2 * i) 0) &&& (255 : Int32)) <<< ((0 : Int32) &&& 31)) ||| (((bs.getD (2 * i + 1) 0) &&& (255 : Int32)) <<< ((8 : Int32) &&& 31))).toUInt32.toUInt16.toUInt32.toInt32))])) ?_ (fun t_ k_ => XS.i2c X3.here hx rfl (hb hby d24_58) rfl k_)
  rw [hWd]
  exact Goes.retn X3 (v := some (.int (nar .char (((((bs.getD (2 * i) 0) &&& (255 : Int32)) <<< ((0 : Int32) &&& 31)) ||| (((bs.getD (2 * i + 1) 0) &&& (255 : Int32)) <<< ((8 : Int32) &&& 31))).toUInt32.toUInt16.toUInt32.toInt32)))) (fun fs hr => retN X3 hx (t := .char) Bd.returns (by simp) (hb hby d24_59) hr) (fun h => by rw [Bd.returns] at h; cases h) Bd.notSynchronized (by decide) (by decide) (by rw [e3]; exact ⟨rfl, N0, rfl⟩)
def QUL (Z : State) (d : Addr) (kd : ClassId) (n : Nat) (bs : List Int32) (h0 : Heap) (n0 : Nat) (v : Option Value) (h : Heap) (L : List Loc) : Prop := v = some (.int (Int32.ofNat n)) ∧ Fr n0 L ∧ h = h0
set_option maxRecDepth 65536 in
set_option maxHeartbeats 40000000 in
theorem rmUL (l : Launch) (Z : State) (a0 : Array Value) (hw : ∀ d ∈ tables_1, d.before a0 Z = true) (ws : List Jvm.Cond) (d : Addr) (kd : ClassId) (n : Nat) (bs : List Int32) (h0 : Heap) (n0 : Nat) (Z0 : n0 ≤ h0.size) (B : Arv Z h0 d kd .byte (Int32.ofNat (2 * n)) (bs.map Value.int) (.int 0)) (hn : n ≤ 16) :
    MetFree l (⟨"java/lang/StringUTF16", "length", "([B)I"⟩ : MethodName) (head1 (Jvm.Cond.code (⟨"java/lang/StringUTF16", "length", "([B)I"⟩ : MethodName) jdk_52_method_6_code 1 (some .int) :: ws) ({ frames := 0, cells := 0, slots := 0, locals := 0 } : Room)) (fun a_ U => a_ = #[(.ref d)] ∧ Z.Warmed39 U.vm ∧ U.heap = h0) (fun _ _ _ _ _ => True) (fun _ U o U' => ∃ v L, o = .returned v ∧ QUL Z d kd n bs h0 n0 v U'.heap L ∧ FrameEnd U o U' L ({ frames := 0, cells := 0, slots := 0, locals := 0 } : Room).cells ({ frames := 0, cells := 0, slots := 0, locals := 0 } : Room).slots) := by
  refine MetFree.of_bodySF (plainFor_of_name pn_0) hisR ?_
  intro p e s m args below meth c s₁ Bd hml0 hP hK
  obtain ⟨rfl, hZ, hh⟩ := hP
  have hx := Bd.exec
  have hby := Bd.bytes
  have hml : c.maxLocals = 1 := hml0
  have hown : s.vm.findClass "java/lang/StringUTF16" = some m.cls := findClass_of_methodNamed Bd.named
  have hnm := (name_of_methodNamed Bd.named Bd.method).1
  have X0 : Stand p l e ({ frames := 0, cells := 0, slots := 0, locals := 0 } : Room) s m #[(.ref d)] below meth c s₁ [] 0 0 := Stand.of_body Bd
  have e0 : s₁.heap = h0 := by rw [← hh, Bd.state]; rfl
  have N0 := Fr.nil n0
  refine Goes.done ?_
  obtain ⟨W, hWd⟩ : ∃ W : State → Prop, W = EndW s below (QUL Z d kd n bs h0 n0) ({ frames := 0, cells := 0, slots := 0, locals := 0 } : Room).cells ({ frames := 0, cells := 0, slots := 0, locals := 0 } : Room).slots := ⟨_, rfl⟩
  rw [← hWd]
  have hef : entryFrame m #[(.ref d)] 1 = (mkF m 0 #[.val (.ref d)] []) := by first | (simp [entryFrame, mkF, argsToLocals, Value.category]; done) | rfl
  rw [hef]
  obtain ⟨c1, A1, -, S1, M1, H1, -⟩ := id B
  refine Goes.on (T' := s₁) (g' := (mkF m 1 #[.val (.ref d)] [(.ref d)])) ?_ (fun t_ k_ => XS.aloadN X0.here hx rfl (hb hby d28_0) rfl rfl k_)
  refine Goes.on (T' := s₁) (g' := (mkF m 2 #[.val (.ref d)] [(.int c1.slots.size.toInt32)])) ?_ (X0.arraylength hx (by rw [e0]; exact A1.1) (State.isArrayOf_alike hZ.alike A1.2.1) (g := (mkF m 1 #[.val (.ref d)] [(.ref d)])) rfl rfl (hb hby d28_1))
  rw [len_of S1 M1]
  refine Goes.on (T' := s₁) (g' := (mkF m 3 #[.val (.ref d)] [(.int (1 : Int32)), (.int (Int32.ofNat (2 * n)))])) ?_ (fun t_ k_ => XS.iconst X0.here hx rfl (hb hby d28_2) k_)
  refine Goes.on (T' := s₁) (g' := (mkF m 4 #[.val (.ref d)] [(.int ((Int32.ofNat (2 * n)) >>> ((1 : Int32) &&& 31)))])) ?_ (fun t_ k_ => XS.ishr X0.here hx rfl (hb hby d28_3) rfl k_)
  rw [own_hlf hn]
  rw [hWd]
  exact Goes.retn X0 (v := some (.int (Int32.ofNat n))) (fun fs hr => retI X0 hx Bd.returns (hb hby d28_4) hr) (fun h => by rw [Bd.returns] at h; cases h) Bd.notSynchronized (by decide) (by decide) (by rw [e0]; exact ⟨rfl, N0, rfl⟩)
def QCL (Z : State) (d : Addr) (kd : ClassId) (y z : Int32) (vs : List Value) (h0 : Heap) (n0 : Nat) (v : Option Value) (h : Heap) (L : List Loc) : Prop := v = some (.int (own_cdr y z)) ∧ Fr n0 L ∧ h = h0
set_option maxRecDepth 65536 in
set_option maxHeartbeats 40000000 in
theorem rmCL (l : Launch) (Z : State) (a0 : Array Value) (hw : ∀ d ∈ tables_1, d.before a0 Z = true) (ws : List Jvm.Cond) (d : Addr) (kd : ClassId) (y z : Int32) (vs : List Value) (h0 : Heap) (n0 : Nat) (Z0 : n0 ≤ h0.size) (B : Arv Z h0 d kd .byte z vs (.int 0)) :
    MetFree l (⟨"java/lang/StringUTF16", "coderFromArrayLen", "([BI)B"⟩ : MethodName) (head1 (Jvm.Cond.code (⟨"java/lang/StringUTF16", "coderFromArrayLen", "([BI)B"⟩ : MethodName) jdk_52_method_15_code 2 (some .byte) :: ws) ({ frames := 0, cells := 0, slots := 0, locals := 0 } : Room)) (fun a_ U => a_ = #[(.ref d), (.int y)] ∧ Z.Warmed39 U.vm ∧ U.heap = h0) (fun _ _ _ _ _ => True) (fun _ U o U' => ∃ v L, o = .returned v ∧ QCL Z d kd y z vs h0 n0 v U'.heap L ∧ FrameEnd U o U' L ({ frames := 0, cells := 0, slots := 0, locals := 0 } : Room).cells ({ frames := 0, cells := 0, slots := 0, locals := 0 } : Room).slots) := by
  refine MetFree.of_bodySF (plainFor_of_name pn_0) hisR ?_
  intro p e s m args below meth c s₁ Bd hml0 hP hK
  obtain ⟨rfl, hZ, hh⟩ := hP
  have hx := Bd.exec
  have hby := Bd.bytes
  have hml : c.maxLocals = 2 := hml0
  have hown : s.vm.findClass "java/lang/StringUTF16" = some m.cls := findClass_of_methodNamed Bd.named
  have hnm := (name_of_methodNamed Bd.named Bd.method).1
  have X0 : Stand p l e ({ frames := 0, cells := 0, slots := 0, locals := 0 } : Room) s m #[(.ref d), (.int y)] below meth c s₁ [] 0 0 := Stand.of_body Bd
  have e0 : s₁.heap = h0 := by rw [← hh, Bd.state]; rfl
  have N0 := Fr.nil n0
  refine Goes.done ?_
  obtain ⟨W, hWd⟩ : ∃ W : State → Prop, W = EndW s below (QCL Z d kd y z vs h0 n0) ({ frames := 0, cells := 0, slots := 0, locals := 0 } : Room).cells ({ frames := 0, cells := 0, slots := 0, locals := 0 } : Room).slots := ⟨_, rfl⟩
  rw [← hWd]
  have hef : entryFrame m #[(.ref d), (.int y)] 2 = (mkF m 0 #[.val (.ref d), .val (.int y)] []) := by first | (simp [entryFrame, mkF, argsToLocals, Value.category]; done) | rfl
  rw [hef]
  obtain ⟨c1, A1, -, S1, M1, H1, -⟩ := id B
  refine Goes.on (T' := s₁) (g' := (mkF m 1 #[.val (.ref d), .val (.int y)] [(.int y)])) ?_ (fun t_ k_ => XS.iloadN X0.here hx rfl (hb hby d9_0) rfl k_)
  refine Goes.on (T' := s₁) (g' := (mkF m 2 #[.val (.ref d), .val (.int y)] [(.ref d), (.int y)])) ?_ (fun t_ k_ => XS.aloadN X0.here hx rfl (hb hby d9_1) rfl rfl k_)
  refine Goes.on (T' := s₁) (g' := (mkF m 3 #[.val (.ref d), .val (.int y)] [(.int c1.slots.size.toInt32), (.int y)])) ?_ (X0.arraylength hx (by rw [e0]; exact A1.1) (State.isArrayOf_alike hZ.alike A1.2.1) (g := (mkF m 2 #[.val (.ref d), .val (.int y)] [(.ref d), (.int y)])) rfl rfl (hb hby d9_2))
  rw [len_of S1 M1]
  refine Goes.on (T' := s₁) (g' := (mkF m 4 #[.val (.ref d), .val (.int y)] [(.int (y - z))])) ?_ (fun t_ k_ => XS.isub X0.here hx rfl (hb hby d9_3) rfl k_)
  refine Goes.on (T' := s₁) (g' := (mkF m 6 #[.val (.ref d), .val (.int y)] [(.int (31 : Int32)), (.int (y - z))])) ?_ (fun t_ k_ => XS.bipush X0.here hx rfl (hb hby d9_4) k_)
  refine Goes.on (T' := s₁) (g' := (mkF m 7 #[.val (.ref d), .val (.int y)] [(.int (((y - z).toUInt32 >>> ((31 : Int32) &&& 31).toUInt32).toInt32))])) ?_ (fun t_ k_ => XS.iushr X0.here hx rfl (hb hby d9_6) rfl k_)
  refine Goes.on (T' := s₁) (g' := (mkF m 8 #[.val (.ref d), .val (.int y)] [(.int ((((y - z).toUInt32 >>> ((31 : Int32) &&& 31).toUInt32).toInt32).toInt8.toInt32))])) ?_ (fun t_ k_ => XS.i2b X0.here hx rfl (hb hby d9_7) rfl k_)
  rw [hWd]
  exact Goes.retn X0 (v := some (.int (nar .byte ((((y - z).toUInt32 >>> ((31 : Int32) &&& 31).toUInt32).toInt32).toInt8.toInt32)))) (fun fs hr => retN X0 hx (t := .byte) Bd.returns (by simp) (hb hby d9_8) hr) (fun h => by rw [Bd.returns] at h; cases h) Bd.notSynchronized (by decide) (by decide) (by rw [e0]; exact ⟨rfl, N0, rfl⟩)
def QTB (Z : State) (a : Addr) (ka : ClassId) (cs : List Int32) (h0 : Heap) (n0 : Nat) (v : Option Value) (h : Heap) (L : List Loc) : Prop := ∃ b kb, v = some (.ref b) ∧ Fr n0 L ∧ Keep h0 h [] ∧ h0.size ≤ b ∧ Arv Z h b kb .byte (Int32.ofNat (2 * cs.length)) ((own_u16 cs).map Value.int) (.int 0)
set_option maxRecDepth 65536 in
set_option maxHeartbeats 40000000 in
theorem rmTB (l : Launch) (Z : State) (a0 : Array Value) (hw : ∀ d ∈ tables_1, d.before a0 Z = true) (ws : List Jvm.Cond) (a : Addr) (ka : ClassId) (cs : List Int32) (h0 : Heap) (n0 : Nat) (Z0 : n0 ≤ h0.size) (K : Arv Z h0 a ka .char (Int32.ofNat cs.length) (cs.map Value.int) (.int 0)) (hp : ∀ c ∈ cs, ¬ c < 0 ∧ ¬ (65535 : Int32) < c) (hl : cs.length ≤ 16) (AD : Sta Z Z.heap "java/lang/StringUTF16" "$assertionsDisabled" "Z" (.int (1 : Int32))) (HB : Sta Z Z.heap "java/lang/StringUTF16" "HI_BYTE_SHIFT" "I" (.int (0 : Int32))) (LB : Sta Z Z.heap "java/lang/StringUTF16" "LO_BYTE_SHIFT" "I" (.int (8 : Int32))) (X0_ : Old Z n0 h0) :
    MetFree l (⟨"java/lang/StringUTF16", "toBytes", "([CII)[B"⟩ : MethodName) (head1 (Jvm.Cond.code (⟨"java/lang/StringUTF16", "toBytes", "([CII)[B"⟩ : MethodName) jdk_52_method_14_code 5 (some (.array .byte)) :: ws) ({ frames := 2, cells := 1, slots := 32, locals := 30 } : Room)) (fun a_ U => a_ = #[(.ref a), (.int (0 : Int32)), (.int (Int32.ofNat cs.length))] ∧ Z.Warmed39 U.vm ∧ U.heap = h0) (fun _ _ _ _ _ => True) (fun _ U o U' => ∃ v L, o = .returned v ∧ QTB Z a ka cs h0 n0 v U'.heap L ∧ FrameEnd U o U' L ({ frames := 2, cells := 1, slots := 32, locals := 30 } : Room).cells ({ frames := 2, cells := 1, slots := 32, locals := 30 } : Room).slots) := by
  refine MetFree.of_bodySF (plainFor_of_name pn_0) hisR ?_
  intro p e s m args below meth c s₁ Bd hml0 hP hK
  obtain ⟨rfl, hZ, hh⟩ := hP
  have hx := Bd.exec
  have hby := Bd.bytes
  have hml : c.maxLocals = 5 := hml0
  have hown : s.vm.findClass "java/lang/StringUTF16" = some m.cls := findClass_of_methodNamed Bd.named
  have hnm := (name_of_methodNamed Bd.named Bd.method).1
  have X0 : Stand p l e ({ frames := 2, cells := 1, slots := 32, locals := 30 } : Room) s m #[(.ref a), (.int (0 : Int32)), (.int (Int32.ofNat cs.length))] below meth c s₁ [] 0 0 := Stand.of_body Bd
  have e0 : s₁.heap = h0 := by rw [← hh, Bd.state]; rfl
  have N0 := Fr.nil n0
  refine Goes.done ?_
  obtain ⟨W, hWd⟩ : ∃ W : State → Prop, W = EndW s below (QTB Z a ka cs h0 n0) ({ frames := 2, cells := 1, slots := 32, locals := 30 } : Room).cells ({ frames := 2, cells := 1, slots := 32, locals := 30 } : Room).slots := ⟨_, rfl⟩
  rw [← hWd]
  have hef : entryFrame m #[(.ref a), (.int (0 : Int32)), (.int (Int32.ofNat cs.length))] 5 = (mkF m 0 #[.val (.ref a), .val (.int (0 : Int32)), .val (.int (Int32.ofNat cs.length)), .unset, .unset] []) := by first | (simp [entryFrame, mkF, argsToLocals, Value.category]; done) | rfl
  rw [hef]
  refine Goes.on (T' := s₁) (g' := (mkF m 1 #[.val (.ref a), .val (.int (0 : Int32)), .val (.int (Int32.ofNat cs.length)), .unset, .unset] [(.int (Int32.ofNat cs.length))])) ?_ (fun t_ k_ => XS.iloadN X0.here hx rfl (hb hby d20_0) rfl k_)
  obtain ⟨_, _, ⟨T1, Lq_1, kq_1, nq_1⟩, -, X1, ⟨Lc1, hQ1, l1, y1, z1⟩, st1⟩ := Jvm.LawKit.callS X0 hx (y := (⟨"java/lang/StringUTF16", "newBytesFor", "(I)[B"⟩ : MethodName)) hown (mvT hZ (hw _ (List.mem_of_getElem? (i := 92) rfl))) (mvT hZ (hw _ (List.mem_of_getElem? (i := 93) rfl))) (mvT hZ (hw _ (List.mem_of_getElem? (i := 39) rfl))) (mvT hZ (hw _ (List.mem_of_getElem? (i := 94) rfl))) (by decide) (backOf (W := 0) (rmNF l Z a0 hw [] cs.length h0 n0 Z0 hl) hZ (hw _ (List.mem_of_getElem? (i := 94) rfl)) (hw _ (List.mem_of_getElem? (i := 39) rfl)) (by decide) (by decide)) (g := (mkF m 1 #[.val (.ref a), .val (.int (0 : Int32)), .val (.int (Int32.ofNat cs.length)), .unset, .unset] [(.int (Int32.ofNat cs.length))])) rfl (by rw [hml]; rfl) (argsL := [(.int (Int32.ofNat cs.length))]) (rest := []) (lenOf pd_1 rfl) rfl (by show 2 * 0 + _ ≤ _; exact Nat.le_of_eq rfl) (hb hby d20_1) (fun _ _ => ⟨rfl, e0, (by decide : 0 + 1 ≤ _), (by decide : 0 + 32 ≤ _)⟩)
  dsimp only [Pt.U, Pt.locs, Pt.cells, Pt.slots] at X1 l1 y1 z1 st1 hQ1
  rw [l1, y1, z1] at X1
  change Stand p l e _ _ m _ below meth c T1 _ 1 32 at X1
  obtain ⟨rfl, N1q, E1, ⟨kb, B1⟩⟩ := hQ1
  have N1 := Fr.app N0 N1q
  refine Goes.on (T' := T1) (g' := (mkF m 4 #[.val (.ref a), .val (.int (0 : Int32)), .val (.int (Int32.ofNat cs.length)), .unset, .unset] [(.ref h0.size)])) ?_ st1
  have gd : n0 ≤ h0.size := Z0
  obtain ⟨b, eb⟩ : ∃ z, z = h0.size := ⟨_, rfl⟩
  rw [← eb] at B1 gd ⊢
  have hne : a ≠ b := Nat.ne_of_lt (Nat.lt_of_lt_of_le K.lt (Nat.le_of_eq eb.symm))
  have kI : Keep h0 T1.heap [b] := (Keep.refl h0 [b]).ext E1
  have K8 : ∀ (k i : Nat) (T : State) (h : Heap) (locs : List Loc), Stand p l e ({ frames := 2, cells := 1, slots := 32, locals := 30 } : Room) s m #[(.ref a), (.int (0 : Int32)), (.int (Int32.ofNat cs.length))] below meth c T locs 1 32 → T.heap = h → Fr n0 locs → Arv Z h b kb .byte (Int32.ofNat (2 * cs.length)) ((own_u16 (cs.take i)).map Value.int) (.int 0) → Keep h0 h [b] → i + k = cs.length → Goes p e below W T (mkF m 8 #[.val (.ref a), .val (.int (Int32.ofNat i)), .val (.int (Int32.ofNat cs.length)), .val (.ref b), .val (.int (Int32.ofNat i))] []) := by
    intro k
    induction k with
    | zero =>
      intro i T h locs X eT N B KP hi
      have hge : ¬ ((Int32.ofNat i) < (Int32.ofNat cs.length)) := by rw [own_nlt (by omega) (by omega)]; omega
      have kF : Keep h0 h [] := (Keep.refl h0 []).trans KP (allS (Or.inr (Nat.le_of_eq eb.symm)) all0)
      refine Goes.on (T' := T) (g' := (mkF m 10 #[.val (.ref a), .val (.int (Int32.ofNat i)), .val (.int (Int32.ofNat cs.length)), .val (.ref b), .val (.int (Int32.ofNat i))] [(.int (Int32.ofNat i))])) ?_ (fun t_ k_ => XS.iload X.here hx rfl (hb hby d20_8) rfl k_)
      refine Goes.on (T' := T) (g' := (mkF m 11 #[.val (.ref a), .val (.int (Int32.ofNat i)), .val (.int (Int32.ofNat cs.length)), .val (.ref b), .val (.int (Int32.ofNat i))] [(.int (Int32.ofNat cs.length)), (.int (Int32.ofNat i))])) ?_ (fun t_ k_ => XS.iloadN X.here hx rfl (hb hby d20_10) rfl k_)
      refine Goes.on (T' := T) (g' := (mkF m 32 #[.val (.ref a), .val (.int (Int32.ofNat i)), .val (.int (Int32.ofNat cs.length)), .val (.ref b), .val (.int (Int32.ofNat i))] [])) ?_ (fun t_ k_ => XS.icmpYes X.here hx rfl (pc0 := 11) (pc' := 32) rfl (hb hby d20_11) rfl (flt hge).2.1 (by decide) (by decide) k_)
      refine Goes.on (T' := T) (g' := (mkF m 33 #[.val (.ref a), .val (.int (Int32.ofNat i)), .val (.int (Int32.ofNat cs.length)), .val (.ref b), .val (.int (Int32.ofNat i))] [(.ref b)])) ?_ (fun t_ k_ => XS.aloadN X.here hx rfl (hb hby d20_32) rfl rfl k_)
      rw [hWd]
      exact Goes.retn X (v := some (.ref b)) (fun fs hr => retA X hx Bd.returns rfl rfl (hb hby d20_33) hr) (fun h => by rw [Bd.returns] at h; cases h) Bd.notSynchronized (by decide) (by decide) (by rw [eT]; exact ⟨b, kb, rfl, N, kF, Nat.le_of_eq eb.symm, by rw [show i = cs.length by omega, List.take_length] at B; exact B⟩)
    | succ k ih =>
      intro i T h locs X eT N B KP hi
      have hlt : (Int32.ofNat i) < (Int32.ofNat cs.length) := by rw [own_nlt (by omega) (by omega)]; omega
      have hcl : (Int32.ofNat i).toNatClampNeg = i := own_clamp (by omega)
      have hil : i < cs.length := by omega
      obtain ⟨cA, A1, -, S1, M1, H1, -⟩ := K.keep KP (ninS hne nin0)
      have S1n : cA.slots.size = cs.length := by rw [S1, own_clamp (by omega)]
      have in1 : ¬ ((Int32.ofNat i) < 0 ∨ cA.slots.size ≤ (Int32.ofNat i).toNatClampNeg) := by rw [hcl, S1n]; intro q; rcases q with q | q; exact own_nn (by omega) q; omega
      have at1 : cA.slots[(Int32.ofNat i).toNatClampNeg]? = some (.int (cs.getD i 0)) := by rw [hcl, H1 i (by omega), own_bget]
      have Zh : n0 ≤ h.size := Nat.le_trans Z0 KP.1
      have Xh : Old Z n0 h := X0_.keep KP (allS gd all0)
      refine Goes.on (T' := T) (g' := (mkF m 10 #[.val (.ref a), .val (.int (Int32.ofNat i)), .val (.int (Int32.ofNat cs.length)), .val (.ref b), .val (.int (Int32.ofNat i))] [(.int (Int32.ofNat i))])) ?_ (fun t_ k_ => XS.iload X.here hx rfl (hb hby d20_8) rfl k_)
      refine Goes.on (T' := T) (g' := (mkF m 11 #[.val (.ref a), .val (.int (Int32.ofNat i)), .val (.int (Int32.ofNat cs.length)), .val (.ref b), .val (.int (Int32.ofNat i))] [(.int (Int32.ofNat cs.length)), (.int (Int32.ofNat i))])) ?_ (fun t_ k_ => XS.iloadN X.here hx rfl (hb hby d20_10) rfl k_)
      refine Goes.on (T' := T) (g' := (mkF m 14 #[.val (.ref a), .val (.int (Int32.ofNat i)), .val (.int (Int32.ofNat cs.length)), .val (.ref b), .val (.int (Int32.ofNat i))] [])) ?_ (fun t_ k_ => XS.icmpNo X.here hx rfl (hb hby d20_11) rfl (tlt hlt).2.1 k_)
      refine Goes.on (T' := T) (g' := (mkF m 15 #[.val (.ref a), .val (.int (Int32.ofNat i)), .val (.int (Int32.ofNat cs.length)), .val (.ref b), .val (.int (Int32.ofNat i))] [(.ref b)])) ?_ (fun t_ k_ => XS.aloadN X.here hx rfl (hb hby d20_14) rfl rfl k_)
      refine Goes.on (T' := T) (g' := (mkF m 17 #[.val (.ref a), .val (.int (Int32.ofNat i)), .val (.int (Int32.ofNat cs.length)), .val (.ref b), .val (.int (Int32.ofNat i))] [(.int (Int32.ofNat i)), (.ref b)])) ?_ (fun t_ k_ => XS.iload X.here hx rfl (hb hby d20_15) rfl k_)
      refine Goes.on (T' := T) (g' := (mkF m 18 #[.val (.ref a), .val (.int (Int32.ofNat i)), .val (.int (Int32.ofNat cs.length)), .val (.ref b), .val (.int (Int32.ofNat i))] [(.ref a), (.int (Int32.ofNat i)), (.ref b)])) ?_ (fun t_ k_ => XS.aloadN X.here hx rfl (hb hby d20_17) rfl rfl k_)
      refine Goes.on (T' := T) (g' := (mkF m 19 #[.val (.ref a), .val (.int (Int32.ofNat i)), .val (.int (Int32.ofNat cs.length)), .val (.ref b), .val (.int (Int32.ofNat i))] [(.int (Int32.ofNat i)), (.ref a), (.int (Int32.ofNat i)), (.ref b)])) ?_ (fun t_ k_ => XS.iloadN X.here hx rfl (hb hby d20_18) rfl k_)
      refine Goes.on (T' := T) (g' := (mkF m 20 #[.val (.ref a), .val (.int (Int32.ofNat i)), .val (.int (Int32.ofNat cs.length)), .val (.ref b), .val (.int (Int32.ofNat i))] [(.int (cs.getD i 0)), (.int (Int32.ofNat i)), (.ref b)])) ?_ (X.caload hx (j := (Int32.ofNat i)) (v := (.int (cs.getD i 0))) (by rw [eT]; exact A1.1) (State.isArrayOf_alike hZ.alike A1.2.1) A1.2.2 in1 at1 (g := (mkF m 19 #[.val (.ref a), .val (.int (Int32.ofNat i)), .val (.int (Int32.ofNat cs.length)), .val (.ref b), .val (.int (Int32.ofNat i))] [(.int (Int32.ofNat i)), (.ref a), (.int (Int32.ofNat i)), (.ref b)])) rfl rfl (hb hby d20_19))
      obtain ⟨_, _, ⟨T2, Lq_2, kq_2, nq_2⟩, -, X2, ⟨Lc2, hQ2, l2, y2, z2⟩, st2⟩ := Jvm.LawKit.callS X hx (y := (⟨"java/lang/StringUTF16", "putChar", "([BII)V"⟩ : MethodName)) hown (mvT hZ (hw _ (List.mem_of_getElem? (i := 99) rfl))) (mvT hZ (hw _ (List.mem_of_getElem? (i := 100) rfl))) (mvT hZ (hw _ (List.mem_of_getElem? (i := 39) rfl))) (mvT hZ (hw _ (List.mem_of_getElem? (i := 101) rfl))) (by decide) (backOf (W := 0) (rmPC l Z a0 hw [] b kb cs.length i (cs.getD i 0) (own_u16 (cs.take i)) h n0 Zh B (by rw [own_u16_len, List.length_take]; omega) hil hl gd AD HB LB Xh) hZ (hw _ (List.mem_of_getElem? (i := 101) rfl)) (hw _ (List.mem_of_getElem? (i := 39) rfl)) (by decide) (by decide)) (g := (mkF m 20 #[.val (.ref a), .val (.int (Int32.ofNat i)), .val (.int (Int32.ofNat cs.length)), .val (.ref b), .val (.int (Int32.ofNat i))] [(.int (cs.getD i 0)), (.int (Int32.ofNat i)), (.ref b)])) rfl (by rw [hml]; rfl) (argsL := [(.ref b), (.int (Int32.ofNat i)), (.int (cs.getD i 0))]) (rest := []) (lenOf pd_2 rfl) rfl (by show 2 * 0 + _ ≤ _; exact Nat.le_of_eq rfl) (hb hby d20_20) (fun _ _ => ⟨rfl, eT, (by decide : 1 + 0 ≤ _), (by decide : 32 + 0 ≤ _)⟩)
      dsimp only [Pt.U, Pt.locs, Pt.cells, Pt.slots] at X2 l2 y2 z2 st2 hQ2
      rw [l2, y2, z2] at X2
      change Stand p l e _ _ m _ below meth c T2 _ 1 32 at X2
      obtain ⟨rfl, N2q, K2, B2⟩ := hQ2
      have N2 := Fr.app N N2q
      refine Goes.on (T' := T2) (g' := (mkF m 23 #[.val (.ref a), .val (.int (Int32.ofNat i)), .val (.int (Int32.ofNat cs.length)), .val (.ref b), .val (.int (Int32.ofNat i))] [])) ?_ st2
      have B2x : Arv Z T2.heap b kb .byte (Int32.ofNat (2 * cs.length)) ((own_u16 (cs.take (i + 1))).map Value.int) (.int 0) := by rw [own_take_succ cs i hil, own_u16_app]; have q := B2; rw [List.append_assoc] at q; exact q
      have KP2 := KP.trans K2 (fun y hy => Or.inl hy)
      refine Goes.on (T' := T2) (g' := (mkF m 26 #[.val (.ref a), .val (.int ((Int32.ofNat i) + (1 : Int32))), .val (.int (Int32.ofNat cs.length)), .val (.ref b), .val (.int (Int32.ofNat i))] [])) ?_ (fun t_ k_ => XS.iinc X2.here hx rfl (hb hby d20_23) rfl (l' := #[.val (.ref a), .val (.int ((Int32.ofNat i) + (1 : Int32))), .val (.int (Int32.ofNat cs.length)), .val (.ref b), .val (.int (Int32.ofNat i))]) rfl k_)
      refine Goes.on (T' := T2) (g' := (mkF m 29 #[.val (.ref a), .val (.int ((Int32.ofNat i) + (1 : Int32))), .val (.int (Int32.ofNat cs.length)), .val (.ref b), .val (.int ((Int32.ofNat i) + (1 : Int32)))] [])) ?_ (fun t_ k_ => XS.iinc X2.here hx rfl (hb hby d20_26) rfl (l' := #[.val (.ref a), .val (.int ((Int32.ofNat i) + (1 : Int32))), .val (.int (Int32.ofNat cs.length)), .val (.ref b), .val (.int ((Int32.ofNat i) + (1 : Int32)))]) rfl k_)
      refine Goes.on (T' := T2) (g' := (mkF m 8 #[.val (.ref a), .val (.int ((Int32.ofNat i) + (1 : Int32))), .val (.int (Int32.ofNat cs.length)), .val (.ref b), .val (.int ((Int32.ofNat i) + (1 : Int32)))] [])) ?_ (fun t_ k_ => XS.goto X2.here hx rfl (pc0 := 29) (pc' := 8) rfl (hb hby d20_29) (by decide) (by decide) k_)
      rw [own_succ]
      exact ih (i + 1) _ _ _ X2 rfl N2 B2x KP2 (by omega)
  refine Goes.on (T' := T1) (g' := (mkF m 5 #[.val (.ref a), .val (.int (0 : Int32)), .val (.int (Int32.ofNat cs.length)), .val (.ref b), .unset] [])) ?_ (fun t_ k_ => XS.astoreN X1.here hx rfl (hb hby d20_4) rfl rfl (l' := #[.val (.ref a), .val (.int (0 : Int32)), .val (.int (Int32.ofNat cs.length)), .val (.ref b), .unset]) rfl k_)
  refine Goes.on (T' := T1) (g' := (mkF m 6 #[.val (.ref a), .val (.int (0 : Int32)), .val (.int (Int32.ofNat cs.length)), .val (.ref b), .unset] [(.int (0 : Int32))])) ?_ (fun t_ k_ => XS.iconst X1.here hx rfl (hb hby d20_5) k_)
  refine Goes.on (T' := T1) (g' := (mkF m 8 #[.val (.ref a), .val (.int (0 : Int32)), .val (.int (Int32.ofNat cs.length)), .val (.ref b), .val (.int (0 : Int32))] [])) ?_ (fun t_ k_ => XS.istore X1.here hx rfl (hb hby d20_6) rfl (l' := #[.val (.ref a), .val (.int (0 : Int32)), .val (.int (Int32.ofNat cs.length)), .val (.ref b), .val (.int (0 : Int32))]) rfl k_)
  exact K8 cs.length 0 _ _ _ X1 rfl N1 B1 kI (by omega)
def Byts (Z : State) (h : Heap) (t : Addr) (kt : ClassId) (cs : List Int32) (cd : Int32) : Prop := (cd = 0 ∧ own_fit cs = cs.length ∧ Arv Z h t kt .byte (Int32.ofNat cs.length) ((cs.map own_lo).map Value.int) (.int 0)) ∨ (cd = 1 ∧ own_fit cs < cs.length ∧ Arv Z h t kt .byte (Int32.ofNat (2 * cs.length)) ((own_u16 cs).map Value.int) (.int 0))
def QC3 (Z : State) (a : Addr) (ka : ClassId) (cs : List Int32) (h0 : Heap) (n0 : Nat) (v : Option Value) (h : Heap) (L : List Loc) : Prop := ∃ t kt cd, v = some (.ref t) ∧ Fr n0 L ∧ Keep h0 h [] ∧ h0.size ≤ t ∧ Byts Z h t kt cs cd
set_option maxRecDepth 65536 in
set_option maxHeartbeats 40000000 in
theorem rmC3 (l : Launch) (Z : State) (a0 : Array Value) (hw : ∀ d ∈ tables_1, d.before a0 Z = true) (ws : List Jvm.Cond) (a : Addr) (ka : ClassId) (cs : List Int32) (h0 : Heap) (n0 : Nat) (Z0 : n0 ≤ h0.size) (K : Arv Z h0 a ka .char (Int32.ofNat cs.length) (cs.map Value.int) (.int 0)) (hp : ∀ c ∈ cs, ¬ c < 0 ∧ ¬ (65535 : Int32) < c) (hl : cs.length ≤ 16) (AD : Sta Z Z.heap "java/lang/StringUTF16" "$assertionsDisabled" "Z" (.int (1 : Int32))) (HB : Sta Z Z.heap "java/lang/StringUTF16" "HI_BYTE_SHIFT" "I" (.int (0 : Int32))) (LB : Sta Z Z.heap "java/lang/StringUTF16" "LO_BYTE_SHIFT" "I" (.int (8 : Int32))) (X0_ : Old Z n0 h0) :
    MetFree l (⟨"java/lang/StringUTF16", "compress", "([CII)[B"⟩ : MethodName) (head1 (Jvm.Cond.code (⟨"java/lang/StringUTF16", "compress", "([CII)[B"⟩ : MethodName) jdk_52_method_16_code 6 (some (.array .byte)) :: ws) ({ frames := 3, cells := 2, slots := 48, locals := 48 } : Room)) (fun a_ U => a_ = #[(.ref a), (.int (0 : Int32)), (.int (Int32.ofNat cs.length))] ∧ Z.Warmed39 U.vm ∧ U.heap = h0) (fun _ _ _ _ _ => True) (fun _ U o U' => ∃ v L, o = .returned v ∧ QC3 Z a ka cs h0 n0 v U'.heap L ∧ FrameEnd U o U' L ({ frames := 3, cells := 2, slots := 48, locals := 48 } : Room).cells ({ frames := 3, cells := 2, slots := 48, locals := 48 } : Room).slots) := by
  refine MetFree.of_bodySF (plainFor_of_name pn_0) hisR ?_
  intro p e s m args below meth c s₁ Bd hml0 hP hK
  obtain ⟨rfl, hZ, hh⟩ := hP
  have hx := Bd.exec
  have hby := Bd.bytes
  have hml : c.maxLocals = 6 := hml0
  have hown : s.vm.findClass "java/lang/StringUTF16" = some m.cls := findClass_of_methodNamed Bd.named
  have hnm := (name_of_methodNamed Bd.named Bd.method).1
  have X0 : Stand p l e ({ frames := 3, cells := 2, slots := 48, locals := 48 } : Room) s m #[(.ref a), (.int (0 : Int32)), (.int (Int32.ofNat cs.length))] below meth c s₁ [] 0 0 := Stand.of_body Bd
  have e0 : s₁.heap = h0 := by rw [← hh, Bd.state]; rfl
  have N0 := Fr.nil n0
  refine Goes.done ?_
  obtain ⟨W, hWd⟩ : ∃ W : State → Prop, W = EndW s below (QC3 Z a ka cs h0 n0) ({ frames := 3, cells := 2, slots := 48, locals := 48 } : Room).cells ({ frames := 3, cells := 2, slots := 48, locals := 48 } : Room).slots := ⟨_, rfl⟩
  rw [← hWd]
  have hef : entryFrame m #[(.ref a), (.int (0 : Int32)), (.int (Int32.ofNat cs.length))] 6 = (mkF m 0 #[.val (.ref a), .val (.int (0 : Int32)), .val (.int (Int32.ofNat cs.length)), .unset, .unset, .unset] []) := by first | (simp [entryFrame, mkF, argsToLocals, Value.category]; done) | rfl
  rw [hef]
  refine Goes.on (T' := s₁) (g' := (mkF m 1 #[.val (.ref a), .val (.int (0 : Int32)), .val (.int (Int32.ofNat cs.length)), .unset, .unset, .unset] [(.int (Int32.ofNat cs.length))])) ?_ (fun t_ k_ => XS.iloadN X0.here hx rfl (hb hby d7_0) rfl k_)
  obtain ⟨T1, h1, k1, X1, e1, E1, A1, st1⟩ := newP X0 hx hZ (hw _ (List.mem_of_getElem? (i := 20) rfl)) e0 (g := (mkF m 1 #[.val (.ref a), .val (.int (0 : Int32)), .val (.int (Int32.ofNat cs.length)), .unset, .unset, .unset] [(.int (Int32.ofNat cs.length))])) rfl (hb hby d7_1) rfl (own_nn (by omega)) (cap := 16) (by rw [own_clamp (by omega)]; omega) (by decide) (by decide) (by decide)
  obtain ⟨b1, gb1⟩ : ∃ z, z = h0.size := ⟨_, rfl⟩
  rw [← gb1] at A1 st1
  have V1 := Arv.new A1 (own_nn (by omega))
  have Z1 : n0 ≤ h1.size := Nat.le_trans Z0 E1.1
  have g_b1 : n0 ≤ b1 := Nat.le_trans Z0 (Nat.le_of_eq gb1.symm)
  refine Goes.on (T' := T1) (g' := (mkF m 3 #[.val (.ref a), .val (.int (0 : Int32)), .val (.int (Int32.ofNat cs.length)), .unset, .unset, .unset] [(.ref b1)])) ?_ st1
  have K1 := K.ext E1
  have hne : a ≠ b1 := Nat.ne_of_lt (Nat.lt_of_lt_of_le K.lt (Nat.le_of_eq gb1.symm))
  have kI : Keep h0 h1 [b1] := (Keep.refl h0 _).ext E1
  refine Goes.on (T' := T1) (g' := (mkF m 4 #[.val (.ref a), .val (.int (0 : Int32)), .val (.int (Int32.ofNat cs.length)), .val (.ref b1), .unset, .unset] [])) ?_ (fun t_ k_ => XS.astoreN X1.here hx rfl (hb hby d7_3) rfl rfl (l' := #[.val (.ref a), .val (.int (0 : Int32)), .val (.int (Int32.ofNat cs.length)), .val (.ref b1), .unset, .unset]) rfl k_)
  refine Goes.on (T' := T1) (g' := (mkF m 5 #[.val (.ref a), .val (.int (0 : Int32)), .val (.int (Int32.ofNat cs.length)), .val (.ref b1), .unset, .unset] [(.ref a)])) ?_ (fun t_ k_ => XS.aloadN X1.here hx rfl (hb hby d7_4) rfl rfl k_)
  refine Goes.on (T' := T1) (g' := (mkF m 6 #[.val (.ref a), .val (.int (0 : Int32)), .val (.int (Int32.ofNat cs.length)), .val (.ref b1), .unset, .unset] [(.int (0 : Int32)), (.ref a)])) ?_ (fun t_ k_ => XS.iloadN X1.here hx rfl (hb hby d7_5) rfl k_)
  refine Goes.on (T' := T1) (g' := (mkF m 7 #[.val (.ref a), .val (.int (0 : Int32)), .val (.int (Int32.ofNat cs.length)), .val (.ref b1), .unset, .unset] [(.ref b1), (.int (0 : Int32)), (.ref a)])) ?_ (fun t_ k_ => XS.aloadN X1.here hx rfl (hb hby d7_6) rfl rfl k_)
  refine Goes.on (T' := T1) (g' := (mkF m 8 #[.val (.ref a), .val (.int (0 : Int32)), .val (.int (Int32.ofNat cs.length)), .val (.ref b1), .unset, .unset] [(.int (0 : Int32)), (.ref b1), (.int (0 : Int32)), (.ref a)])) ?_ (fun t_ k_ => XS.iconst X1.here hx rfl (hb hby d7_7) k_)
  refine Goes.on (T' := T1) (g' := (mkF m 9 #[.val (.ref a), .val (.int (0 : Int32)), .val (.int (Int32.ofNat cs.length)), .val (.ref b1), .unset, .unset] [(.int (Int32.ofNat cs.length)), (.int (0 : Int32)), (.ref b1), (.int (0 : Int32)), (.ref a)])) ?_ (fun t_ k_ => XS.iloadN X1.here hx rfl (hb hby d7_8) rfl k_)
  obtain ⟨_, _, ⟨T2, Lq_2, kq_2, nq_2⟩, -, X2, ⟨Lc2, hQ2, l2, y2, z2⟩, st2⟩ := Jvm.LawKit.callS X1 hx (y := (⟨"java/lang/StringUTF16", "compress", "([CI[BII)I"⟩ : MethodName)) hown (mvT hZ (hw _ (List.mem_of_getElem? (i := 41) rfl))) (mvT hZ (hw _ (List.mem_of_getElem? (i := 42) rfl))) (mvT hZ (hw _ (List.mem_of_getElem? (i := 39) rfl))) (mvT hZ (hw _ (List.mem_of_getElem? (i := 43) rfl))) (by decide) (backOf (W := 0) (rmC5 l Z a0 hw [] a b1 ka k1 cs h1 n0 Z1 K1 V1 hne g_b1 hp hl) hZ (hw _ (List.mem_of_getElem? (i := 43) rfl)) (hw _ (List.mem_of_getElem? (i := 39) rfl)) (by decide) (by decide)) (g := (mkF m 9 #[.val (.ref a), .val (.int (0 : Int32)), .val (.int (Int32.ofNat cs.length)), .val (.ref b1), .unset, .unset] [(.int (Int32.ofNat cs.length)), (.int (0 : Int32)), (.ref b1), (.int (0 : Int32)), (.ref a)])) rfl (by rw [hml]; rfl) (argsL := [(.ref a), (.int (0 : Int32)), (.ref b1), (.int (0 : Int32)), (.int (Int32.ofNat cs.length))]) (rest := []) (lenOf pd_3 rfl) rfl (by show 2 * 0 + _ ≤ _; exact Nat.le_of_eq rfl) (hb hby d7_9) (fun _ _ => ⟨rfl, e1, (by decide : 1 + 0 ≤ _), (by decide : 16 + 0 ≤ _)⟩)
  dsimp only [Pt.U, Pt.locs, Pt.cells, Pt.slots] at X2 l2 y2 z2 st2 hQ2
  rw [l2, y2, z2] at X2
  change Stand p l e _ _ m _ below meth c T2 _ 1 16 at X2
  obtain ⟨rfl, N2q, K2, B2⟩ := hQ2
  have N2 := Fr.app N0 N2q
  refine Goes.on (T' := T2) (g' := (mkF m 12 #[.val (.ref a), .val (.int (0 : Int32)), .val (.int (Int32.ofNat cs.length)), .val (.ref b1), .unset, .unset] [(.int (Int32.ofNat (own_fit cs)))])) ?_ st2
  have Zc : n0 ≤ T2.heap.size := Nat.le_trans Z1 K2.1
  have kC := kI.trans K2 (fun y hy => Or.inl hy)
  have K2 := K1.keep K2 (ninS hne nin0)
  have X2_ : Old Z n0 T2.heap := X0_.keep kC (allS g_b1 all0)
  have kD : Keep h0 T2.heap [] := (Keep.refl h0 []).trans kC (allS (Or.inr (Nat.le_of_eq gb1.symm)) all0)
  refine Goes.on (T' := T2) (g' := (mkF m 14 #[.val (.ref a), .val (.int (0 : Int32)), .val (.int (Int32.ofNat cs.length)), .val (.ref b1), .val (.int (Int32.ofNat (own_fit cs))), .unset] [])) ?_ (fun t_ k_ => XS.istore X2.here hx rfl (hb hby d7_12) rfl (l' := #[.val (.ref a), .val (.int (0 : Int32)), .val (.int (Int32.ofNat cs.length)), .val (.ref b1), .val (.int (Int32.ofNat (own_fit cs))), .unset]) rfl k_)
  refine Goes.on (T' := T2) (g' := (mkF m 16 #[.val (.ref a), .val (.int (0 : Int32)), .val (.int (Int32.ofNat cs.length)), .val (.ref b1), .val (.int (Int32.ofNat (own_fit cs))), .unset] [(.int (Int32.ofNat (own_fit cs)))])) ?_ (fun t_ k_ => XS.iload X2.here hx rfl (hb hby d7_14) rfl k_)
  refine Goes.on (T' := T2) (g' := (mkF m 17 #[.val (.ref a), .val (.int (0 : Int32)), .val (.int (Int32.ofNat cs.length)), .val (.ref b1), .val (.int (Int32.ofNat (own_fit cs))), .unset] [(.int (Int32.ofNat cs.length)), (.int (Int32.ofNat (own_fit cs)))])) ?_ (fun t_ k_ => XS.iloadN X2.here hx rfl (hb hby d7_16) rfl k_)
  refine Goes.icmpP X2 hx rfl (pc0 := 17) (pc' := 57) rfl (hb hby d7_17) rfl (by decide) (by decide) (P := (Int32.ofNat (own_fit cs)) = (Int32.ofNat cs.length)) (cmp_eq _ _) (fun hc17 => ?_) (fun hc17 => ?_)
  · show Goes p e below W T2 (mkF m 57 #[.val (.ref a), .val (.int (0 : Int32)), .val (.int (Int32.ofNat cs.length)), .val (.ref b1), .val (.int (Int32.ofNat (own_fit cs))), .unset] [])
    have hfe : own_fit cs = cs.length := (own_ninj (Nat.lt_of_le_of_lt (own_fit_le cs) (by omega)) (by omega)).mp hc17
    refine Goes.on (T' := T2) (g' := (mkF m 58 #[.val (.ref a), .val (.int (0 : Int32)), .val (.int (Int32.ofNat cs.length)), .val (.ref b1), .val (.int (Int32.ofNat (own_fit cs))), .unset] [(.ref b1)])) ?_ (fun t_ k_ => XS.aloadN X2.here hx rfl (hb hby d7_57) rfl rfl k_)
    rw [hWd]
    exact Goes.retn X2 (v := some (.ref b1)) (fun fs hr => retA X2 hx Bd.returns rfl rfl (hb hby d7_58) hr) (fun h => by rw [Bd.returns] at h; cases h) Bd.notSynchronized (by decide) (by decide) ⟨b1, k1, 0, rfl, N2, kD, Nat.le_of_eq gb1.symm, Or.inl ⟨rfl, hfe, by have q := B2; rw [hfe, List.take_length] at q; exact q⟩⟩
  · show Goes p e below W T2 (mkF m 20 #[.val (.ref a), .val (.int (0 : Int32)), .val (.int (Int32.ofNat cs.length)), .val (.ref b1), .val (.int (Int32.ofNat (own_fit cs))), .unset] [])
    refine Goes.on (T' := T2) (g' := (mkF m 21 #[.val (.ref a), .val (.int (0 : Int32)), .val (.int (Int32.ofNat cs.length)), .val (.ref b1), .val (.int (Int32.ofNat (own_fit cs))), .unset] [(.ref a)])) ?_ (fun t_ k_ => XS.aloadN X2.here hx rfl (hb hby d7_20) rfl rfl k_)
    refine Goes.on (T' := T2) (g' := (mkF m 22 #[.val (.ref a), .val (.int (0 : Int32)), .val (.int (Int32.ofNat cs.length)), .val (.ref b1), .val (.int (Int32.ofNat (own_fit cs))), .unset] [(.int (0 : Int32)), (.ref a)])) ?_ (fun t_ k_ => XS.iloadN X2.here hx rfl (hb hby d7_21) rfl k_)
    refine Goes.on (T' := T2) (g' := (mkF m 23 #[.val (.ref a), .val (.int (0 : Int32)), .val (.int (Int32.ofNat cs.length)), .val (.ref b1), .val (.int (Int32.ofNat (own_fit cs))), .unset] [(.int (Int32.ofNat cs.length)), (.int (0 : Int32)), (.ref a)])) ?_ (fun t_ k_ => XS.iloadN X2.here hx rfl (hb hby d7_22) rfl k_)
    obtain ⟨_, _, ⟨T3, Lq_3, kq_3, nq_3⟩, -, X3, ⟨Lc3, hQ3, l3, y3, z3⟩, st3⟩ := Jvm.LawKit.callS X2 hx (y := (⟨"java/lang/StringUTF16", "toBytes", "([CII)[B"⟩ : MethodName)) hown (mvT hZ (hw _ (List.mem_of_getElem? (i := 89) rfl))) (mvT hZ (hw _ (List.mem_of_getElem? (i := 90) rfl))) (mvT hZ (hw _ (List.mem_of_getElem? (i := 39) rfl))) (mvT hZ (hw _ (List.mem_of_getElem? (i := 91) rfl))) (by decide) (backOf (W := 0) (rmTB l Z a0 hw [] a ka cs T2.heap n0 Zc K2 hp hl AD HB LB X2_) hZ (hw _ (List.mem_of_getElem? (i := 91) rfl)) (hw _ (List.mem_of_getElem? (i := 39) rfl)) (by decide) (by decide)) (g := (mkF m 23 #[.val (.ref a), .val (.int (0 : Int32)), .val (.int (Int32.ofNat cs.length)), .val (.ref b1), .val (.int (Int32.ofNat (own_fit cs))), .unset] [(.int (Int32.ofNat cs.length)), (.int (0 : Int32)), (.ref a)])) rfl (by rw [hml]; rfl) (argsL := [(.ref a), (.int (0 : Int32)), (.int (Int32.ofNat cs.length))]) (rest := []) (lenOf pd_4 rfl) rfl (by show 2 * 0 + _ ≤ _; exact Nat.le_of_eq rfl) (hb hby d7_23) (fun _ _ => ⟨rfl, rfl, (by decide : 1 + 1 ≤ _), (by decide : 16 + 32 ≤ _)⟩)
    dsimp only [Pt.U, Pt.locs, Pt.cells, Pt.slots] at X3 l3 y3 z3 st3 hQ3
    rw [l3, y3, z3] at X3
    change Stand p l e _ _ m _ below meth c T3 _ 2 48 at X3
    obtain ⟨b_, kb_, rfl, N3q, K3, sb, BT⟩ := hQ3
    have N3 := Fr.app N2 N3q
    refine Goes.on (T' := T3) (g' := (mkF m 26 #[.val (.ref a), .val (.int (0 : Int32)), .val (.int (Int32.ofNat cs.length)), .val (.ref b1), .val (.int (Int32.ofNat (own_fit cs))), .unset] [(.ref b_)])) ?_ st3
    have Zt : n0 ≤ T3.heap.size := Nat.le_trans Zc K3.1
    have kT := kD.trans K3 all0
    have X3_ := X2_.keep K3 all0
    have sz : h0.size ≤ b_ := Nat.le_trans kD.1 sb
    have hfl : own_fit cs < cs.length := Nat.lt_of_le_of_ne (own_fit_le cs) (fun q => hc17 (by rw [q]))
    refine Goes.on (T' := T3) (g' := (mkF m 28 #[.val (.ref a), .val (.int (0 : Int32)), .val (.int (Int32.ofNat cs.length)), .val (.ref b1), .val (.int (Int32.ofNat (own_fit cs))), .val (.ref b_)] [])) ?_ (fun t_ k_ => XS.astore X3.here hx rfl (hb hby d7_26) rfl rfl (l' := #[.val (.ref a), .val (.int (0 : Int32)), .val (.int (Int32.ofNat cs.length)), .val (.ref b1), .val (.int (Int32.ofNat (own_fit cs))), .val (.ref b_)]) rfl k_)
    refine Goes.on (T' := T3) (g' := (mkF m 30 #[.val (.ref a), .val (.int (0 : Int32)), .val (.int (Int32.ofNat cs.length)), .val (.ref b1), .val (.int (Int32.ofNat (own_fit cs))), .val (.ref b_)] [(.ref b_)])) ?_ (fun t_ k_ => XS.aload X3.here hx rfl (hb hby d7_28) rfl rfl k_)
    refine Goes.on (T' := T3) (g' := (mkF m 32 #[.val (.ref a), .val (.int (0 : Int32)), .val (.int (Int32.ofNat cs.length)), .val (.ref b1), .val (.int (Int32.ofNat (own_fit cs))), .val (.ref b_)] [(.int (Int32.ofNat (own_fit cs))), (.ref b_)])) ?_ (fun t_ k_ => XS.iload X3.here hx rfl (hb hby d7_30) rfl k_)
    obtain ⟨_, _, ⟨T4, Lq_4, kq_4, nq_4⟩, -, X4, ⟨Lc4, hQ4, l4, y4, z4⟩, st4⟩ := Jvm.LawKit.callS X3 hx (y := (⟨"java/lang/StringUTF16", "getChar", "([BI)C"⟩ : MethodName)) hown (mvT hZ (hw _ (List.mem_of_getElem? (i := 105) rfl))) (mvT hZ (hw _ (List.mem_of_getElem? (i := 106) rfl))) (mvT hZ (hw _ (List.mem_of_getElem? (i := 39) rfl))) (mvT hZ (hw _ (List.mem_of_getElem? (i := 107) rfl))) (by decide) (backOf (W := 0) (rmGC l Z a0 hw [] b_ kb_ cs.length (own_fit cs) (own_u16 cs) T3.heap n0 Zt BT hfl hl AD HB LB X3_) hZ (hw _ (List.mem_of_getElem? (i := 107) rfl)) (hw _ (List.mem_of_getElem? (i := 39) rfl)) (by decide) (by decide)) (g := (mkF m 32 #[.val (.ref a), .val (.int (0 : Int32)), .val (.int (Int32.ofNat cs.length)), .val (.ref b1), .val (.int (Int32.ofNat (own_fit cs))), .val (.ref b_)] [(.int (Int32.ofNat (own_fit cs))), (.ref b_)])) rfl (by rw [hml]; rfl) (argsL := [(.ref b_), (.int (Int32.ofNat (own_fit cs)))]) (rest := []) (lenOf pd_5 rfl) rfl (by show 2 * 0 + _ ≤ _; exact Nat.le_of_eq rfl) (hb hby d7_32) (fun _ _ => ⟨rfl, rfl, (by decide : 2 + 0 ≤ _), (by decide : 48 + 0 ≤ _)⟩)
    dsimp only [Pt.U, Pt.locs, Pt.cells, Pt.slots] at X4 l4 y4 z4 st4 hQ4
    rw [l4, y4, z4] at X4
    change Stand p l e _ _ m _ below meth c T4 _ 2 48 at X4
    obtain ⟨rfl, N4q, eh4⟩ := hQ4
    have N4 := Fr.app N3 N4q
    refine Goes.on (T' := T4) (g' := (mkF m 35 #[.val (.ref a), .val (.int (0 : Int32)), .val (.int (Int32.ofNat cs.length)), .val (.ref b1), .val (.int (Int32.ofNat (own_fit cs))), .val (.ref b_)] [(.int (nar .char (own_pair ((own_u16 cs).getD (2 * own_fit cs) 0) ((own_u16 cs).getD (2 * own_fit cs + 1) 0))))])) ?_ st4
    have hpc := hp _ (own_mem cs _ hfl)
    have ec : nar .char (own_pair ((own_u16 cs).getD (2 * own_fit cs) 0) ((own_u16 cs).getD (2 * own_fit cs + 1) 0)) = cs.getD (own_fit cs) 0 := own_u16_ch cs _ hfl hpc
    rw [ec]
    have hgt := own_fit_at cs hfl
    refine Goes.on (T' := T4) (g' := (mkF m 38 #[.val (.ref a), .val (.int (0 : Int32)), .val (.int (Int32.ofNat cs.length)), .val (.ref b1), .val (.int (Int32.ofNat (own_fit cs))), .val (.ref b_)] [(.int (255 : Int32)), (.int (cs.getD (own_fit cs) 0))])) ?_ (fun t_ k_ => XS.sipush X4.here hx rfl (hb hby d7_35) k_)
    refine Goes.on (T' := T4) (g' := (mkF m 54 #[.val (.ref a), .val (.int (0 : Int32)), .val (.int (Int32.ofNat cs.length)), .val (.ref b1), .val (.int (Int32.ofNat (own_fit cs))), .val (.ref b_)] [])) ?_ (fun t_ k_ => XS.icmpYes X4.here hx rfl (pc0 := 38) (pc' := 54) rfl (hb hby d7_38) rfl (tlt hgt).2.2.1 (by decide) (by decide) k_)
    refine Goes.on (T' := T4) (g' := (mkF m 56 #[.val (.ref a), .val (.int (0 : Int32)), .val (.int (Int32.ofNat cs.length)), .val (.ref b1), .val (.int (Int32.ofNat (own_fit cs))), .val (.ref b_)] [(.ref b_)])) ?_ (fun t_ k_ => XS.aload X4.here hx rfl (hb hby d7_54) rfl rfl k_)
    rw [hWd]
    exact Goes.retn X4 (v := some (.ref b_)) (fun fs hr => retA X4 hx Bd.returns rfl rfl (hb hby d7_56) hr) (fun h => by rw [Bd.returns] at h; cases h) Bd.notSynchronized (by decide) (by decide) (by rw [eh4]; exact ⟨b_, kb_, 1, rfl, N4, kT, sz, Or.inr ⟨rfl, hfl, BT⟩⟩)
/-- a String of the chars cs, by either coder -/
def Txt (Z : State) (h : Heap) (x t : Addr) (kt : ClassId) (cs : List Int32) (cd : Int32) : Prop := Exa Z h x "java/lang/String" ∧ Fld Z h x "java/lang/String" "coder" "B" (.int cd) ∧ Fld Z h x "java/lang/String" "value" "[B" (.ref t) ∧ Byts Z h t kt cs cd
theorem Byts.keep {Z : State} {h h' : Heap} {t : Addr} {kt : ClassId} {cs : List Int32} {cd : Int32} {ws : List Addr} (B : Byts Z h t kt cs cd) (K : Keep h h' ws) (q : t ∉ ws) : Byts Z h' t kt cs cd := B.imp (fun r => ⟨r.1, r.2.1, r.2.2.keep K q⟩) (fun r => ⟨r.1, r.2.1, r.2.2.keep K q⟩)
theorem Byts.other {Z : State} {h h' : Heap} {t a : Addr} {kt : ClassId} {cs : List Int32} {cd : Int32} {sl : Nat} {v : Value} (B : Byts Z h t kt cs cd) (W : Wr h h' a sl v) (q : t ≠ a) : Byts Z h' t kt cs cd := B.imp (fun r => ⟨r.1, r.2.1, r.2.2.other W q⟩) (fun r => ⟨r.1, r.2.1, r.2.2.other W q⟩)
theorem Txt.keep {Z : State} {h h' : Heap} {x t : Addr} {kt : ClassId} {cs : List Int32} {cd : Int32} {ws : List Addr} (B : Txt Z h x t kt cs cd) (K : Keep h h' ws) (q1 : x ∉ ws) (q : t ∉ ws) : Txt Z h' x t kt cs cd := ⟨B.1.keep K, B.2.1.keep K q1, B.2.2.1.keep K q1, B.2.2.2.keep K q⟩
def QI4 (Z : State) (x a : Addr) (ka : ClassId) (cs : List Int32) (zc : Int32) (h0 : Heap) (n0 : Nat) (v : Option Value) (h : Heap) (L : List Loc) : Prop := v = none ∧ Fr n0 L ∧ Keep h0 h [x] ∧ ∃ t kt cd, h0.size ≤ t ∧ Txt Z h x t kt cs cd
set_option maxRecDepth 65536 in
set_option maxHeartbeats 40000000 in
theorem rmI4 (l : Launch) (Z : State) (a0 : Array Value) (hw : ∀ d ∈ tables_1, d.before a0 Z = true) (ws : List Jvm.Cond) (x a : Addr) (ka : ClassId) (cs : List Int32) (zc : Int32) (h0 : Heap) (n0 : Nat) (Z0 : n0 ≤ h0.size) (E : Exa Z h0 x "java/lang/String") (FV : Fld Z h0 x "java/lang/String" "value" "[B" .null) (FC : Fld Z h0 x "java/lang/String" "coder" "B" (.int (0 : Int32))) (ga : n0 ≤ x) (K : Arv Z h0 a ka .char (Int32.ofNat cs.length) (cs.map Value.int) (.int 0)) (hp : ∀ c ∈ cs, ¬ c < 0 ∧ ¬ (65535 : Int32) < c) (hl : cs.length ≤ 16) (hl0 : 0 < cs.length) (CS : Sta Z Z.heap "java/lang/String" "COMPACT_STRINGS" "Z" (.int zc)) (hzc : ¬ zc = (0 : Int32)) (AD : Sta Z Z.heap "java/lang/StringUTF16" "$assertionsDisabled" "Z" (.int (1 : Int32))) (HB : Sta Z Z.heap "java/lang/StringUTF16" "HI_BYTE_SHIFT" "I" (.int (0 : Int32))) (LB : Sta Z Z.heap "java/lang/StringUTF16" "LO_BYTE_SHIFT" "I" (.int (8 : Int32))) (X0_ : Old Z n0 h0) :
    MetFree l (⟨"java/lang/String", "<init>", "([CIILjava/lang/Void;)V"⟩ : MethodName) (head1 (Jvm.Cond.code (⟨"java/lang/String", "<init>", "([CIILjava/lang/Void;)V"⟩ : MethodName) jdk_42_method_149_code 6 none :: ws) ({ frames := 4, cells := 2, slots := 48, locals := 68 } : Room)) (fun a_ U => a_ = #[(.ref x), (.ref a), (.int (0 : Int32)), (.int (Int32.ofNat cs.length)), .null] ∧ Z.Warmed39 U.vm ∧ U.heap = h0) (fun _ _ _ _ _ => True) (fun _ U o U' => ∃ v L, o = .returned v ∧ QI4 Z x a ka cs zc h0 n0 v U'.heap L ∧ FrameEnd U o U' L ({ frames := 4, cells := 2, slots := 48, locals := 68 } : Room).cells ({ frames := 4, cells := 2, slots := 48, locals := 68 } : Room).slots) := by
  refine MetFree.of_bodySF (plainFor_of_name pn_1) hisR ?_
  intro p e s m args below meth c s₁ Bd hml0 hP hK
  obtain ⟨rfl, hZ, hh⟩ := hP
  have hx := Bd.exec
  have hby := Bd.bytes
  have hml : c.maxLocals = 6 := hml0
  have hown : s.vm.findClass "java/lang/String" = some m.cls := findClass_of_methodNamed Bd.named
  have hnm := (name_of_methodNamed Bd.named Bd.method).1
  have X0 : Stand p l e ({ frames := 4, cells := 2, slots := 48, locals := 68 } : Room) s m #[(.ref x), (.ref a), (.int (0 : Int32)), (.int (Int32.ofNat cs.length)), .null] below meth c s₁ [] 0 0 := Stand.of_body Bd
  have e0 : s₁.heap = h0 := by rw [← hh, Bd.state]; rfl
  have N0 := Fr.nil n0
  refine Goes.done ?_
  obtain ⟨W, hWd⟩ : ∃ W : State → Prop, W = EndW s below (QI4 Z x a ka cs zc h0 n0) ({ frames := 4, cells := 2, slots := 48, locals := 68 } : Room).cells ({ frames := 4, cells := 2, slots := 48, locals := 68 } : Room).slots := ⟨_, rfl⟩
  rw [← hWd]
  have hef : entryFrame m #[(.ref x), (.ref a), (.int (0 : Int32)), (.int (Int32.ofNat cs.length)), .null] 6 = (mkF m 0 #[.val (.ref x), .val (.ref a), .val (.int (0 : Int32)), .val (.int (Int32.ofNat cs.length)), .val .null, .unset] []) := by first | (simp [entryFrame, mkF, argsToLocals, Value.category]; done) | rfl
  rw [hef]
  have hnz : ¬ ((Int32.ofNat cs.length) = (0 : Int32)) := by rw [show (0 : Int32) = Int32.ofNat 0 from rfl, own_ninj (by omega) (by omega)]; omega
  refine Goes.on (T' := s₁) (g' := (mkF m 1 #[.val (.ref x), .val (.ref a), .val (.int (0 : Int32)), .val (.int (Int32.ofNat cs.length)), .val .null, .unset] [(.ref x)])) ?_ (fun t_ k_ => XS.aloadN X0.here hx rfl (hb hby d3_0) rfl rfl k_)
  obtain ⟨T1, X1, e1, st1⟩ := initO X0 hx hZ hown (hw _ (List.mem_of_getElem? (i := 16) rfl)) (hw _ (List.mem_of_getElem? (i := 17) rfl)) (hw _ (List.mem_of_getElem? (i := 18) rfl)) e0 (g := (mkF m 1 #[.val (.ref x), .val (.ref a), .val (.int (0 : Int32)), .val (.int (Int32.ofNat cs.length)), .val .null, .unset] [(.ref x)])) rfl (by rw [hml]; rfl) rfl (hb hby d3_1) (by decide) (W := 0) (by show 2 * 0 + _ ≤ _; exact Nat.le_of_eq rfl) (by decide)
  refine Goes.on (T' := T1) (g' := (mkF m 4 #[.val (.ref x), .val (.ref a), .val (.int (0 : Int32)), .val (.int (Int32.ofNat cs.length)), .val .null, .unset] [])) ?_ st1
  refine Goes.on (T' := T1) (g' := (mkF m 5 #[.val (.ref x), .val (.ref a), .val (.int (0 : Int32)), .val (.int (Int32.ofNat cs.length)), .val .null, .unset] [(.int (Int32.ofNat cs.length))])) ?_ (fun t_ k_ => XS.iloadN X1.here hx rfl (hb hby d3_4) rfl k_)
  refine Goes.on (T' := T1) (g' := (mkF m 27 #[.val (.ref x), .val (.ref a), .val (.int (0 : Int32)), .val (.int (Int32.ofNat cs.length)), .val .null, .unset] [])) ?_ (fun t_ k_ => XS.ifYes X1.here hx rfl (pc0 := 5) (pc' := 27) rfl (hb hby d3_5) rfl ((if0 _ _).trans (feq hnz).2) (by decide) (by decide) k_)
  obtain ⟨T2, X2, e2, st2⟩ := getS2 X1 hx hZ hown (host := "") (Or.inl (hw _ (List.mem_of_getElem? (i := 36) rfl))) Via.refl e1 (CS.ext X0_.2) (g := (mkF m 27 #[.val (.ref x), .val (.ref a), .val (.int (0 : Int32)), .val (.int (Int32.ofNat cs.length)), .val .null, .unset] [])) rfl (hb hby d3_27)
  refine Goes.on (T' := T2) (g' := (mkF m 30 #[.val (.ref x), .val (.ref a), .val (.int (0 : Int32)), .val (.int (Int32.ofNat cs.length)), .val .null, .unset] [(.int zc)])) ?_ st2
  refine Goes.on (T' := T2) (g' := (mkF m 33 #[.val (.ref x), .val (.ref a), .val (.int (0 : Int32)), .val (.int (Int32.ofNat cs.length)), .val .null, .unset] [])) ?_ (fun t_ k_ => XS.ifNo X2.here hx rfl (hb hby d3_30) rfl ((if0 _ _).trans (feq hzc).1) k_)
  refine Goes.on (T' := T2) (g' := (mkF m 34 #[.val (.ref x), .val (.ref a), .val (.int (0 : Int32)), .val (.int (Int32.ofNat cs.length)), .val .null, .unset] [(.ref a)])) ?_ (fun t_ k_ => XS.aloadN X2.here hx rfl (hb hby d3_33) rfl rfl k_)
  refine Goes.on (T' := T2) (g' := (mkF m 35 #[.val (.ref x), .val (.ref a), .val (.int (0 : Int32)), .val (.int (Int32.ofNat cs.length)), .val .null, .unset] [(.int (0 : Int32)), (.ref a)])) ?_ (fun t_ k_ => XS.iloadN X2.here hx rfl (hb hby d3_34) rfl k_)
  refine Goes.on (T' := T2) (g' := (mkF m 36 #[.val (.ref x), .val (.ref a), .val (.int (0 : Int32)), .val (.int (Int32.ofNat cs.length)), .val .null, .unset] [(.int (Int32.ofNat cs.length)), (.int (0 : Int32)), (.ref a)])) ?_ (fun t_ k_ => XS.iloadN X2.here hx rfl (hb hby d3_35) rfl k_)
  obtain ⟨_, _, ⟨T3, Lq_3, kq_3, nq_3⟩, -, X3, ⟨Lc3, hQ3, l3, y3, z3⟩, st3⟩ := Jvm.LawKit.callS X2 hx (y := (⟨"java/lang/StringUTF16", "compress", "([CII)[B"⟩ : MethodName)) hown (mvT hZ (hw _ (List.mem_of_getElem? (i := 37) rfl))) (mvT hZ (hw _ (List.mem_of_getElem? (i := 38) rfl))) (mvT hZ (hw _ (List.mem_of_getElem? (i := 39) rfl))) (mvT hZ (hw _ (List.mem_of_getElem? (i := 40) rfl))) (by decide) (backOf (W := 0) (rmC3 l Z a0 hw [] a ka cs h0 n0 Z0 K hp hl AD HB LB X0_) hZ (hw _ (List.mem_of_getElem? (i := 40) rfl)) (hw _ (List.mem_of_getElem? (i := 39) rfl)) (by decide) (by decide)) (g := (mkF m 36 #[.val (.ref x), .val (.ref a), .val (.int (0 : Int32)), .val (.int (Int32.ofNat cs.length)), .val .null, .unset] [(.int (Int32.ofNat cs.length)), (.int (0 : Int32)), (.ref a)])) rfl (by rw [hml]; rfl) (argsL := [(.ref a), (.int (0 : Int32)), (.int (Int32.ofNat cs.length))]) (rest := []) (lenOf pd_4 rfl) rfl (by show 2 * 0 + _ ≤ _; exact Nat.le_of_eq rfl) (hb hby d3_36) (fun _ _ => ⟨rfl, e2, (by decide : 0 + 2 ≤ _), (by decide : 0 + 48 ≤ _)⟩)
  dsimp only [Pt.U, Pt.locs, Pt.cells, Pt.slots] at X3 l3 y3 z3 st3 hQ3
  rw [l3, y3, z3] at X3
  change Stand p l e _ _ m _ below meth c T3 _ 2 48 at X3
  obtain ⟨tt, kt, cd, rfl, N3q, K3, sz, BY⟩ := hQ3
  have N3 := Fr.app N0 N3q
  refine Goes.on (T' := T3) (g' := (mkF m 39 #[.val (.ref x), .val (.ref a), .val (.int (0 : Int32)), .val (.int (Int32.ofNat cs.length)), .val .null, .unset] [(.ref tt)])) ?_ st3
  have Zc : n0 ≤ T3.heap.size := Nat.le_trans Z0 K3.1
  have tx : tt ≠ x := Ne.symm (Nat.ne_of_lt (Nat.lt_of_lt_of_le E.lt sz))
  have fx4 := FV.keep K3 nin0
  have fx5 := FC.keep K3 nin0
  have fx6 := E.keep K3
  obtain ⟨zz, vv, Bz, ez⟩ : ∃ (zz : Int32) (vv : List Value), Arv Z T3.heap tt kt .byte zz vv (.int 0) ∧ own_cdr (Int32.ofNat cs.length) zz = cd := by
    rcases id BY with ⟨q1, -, q2⟩ | ⟨q1, -, q2⟩
    · exact ⟨_, _, q2, by rw [q1]; exact own_cdr0 _⟩
    · exact ⟨_, _, q2, by rw [q1]; exact own_cdr1 hl0 hl⟩
  have nb : narrow .byte (.int cd) = .int cd ∧ fits .byte (.int cd) = true := by rcases id BY with ⟨q1, -⟩ | ⟨q1, -⟩ <;> rw [q1] <;> exact ⟨rfl, rfl⟩
  refine Goes.on (T' := T3) (g' := (mkF m 41 #[.val (.ref x), .val (.ref a), .val (.int (0 : Int32)), .val (.int (Int32.ofNat cs.length)), .val .null, .val (.ref tt)] [])) ?_ (fun t_ k_ => XS.astore X3.here hx rfl (hb hby d3_39) rfl rfl (l' := #[.val (.ref x), .val (.ref a), .val (.int (0 : Int32)), .val (.int (Int32.ofNat cs.length)), .val .null, .val (.ref tt)]) rfl k_)
  refine Goes.on (T' := T3) (g' := (mkF m 42 #[.val (.ref x), .val (.ref a), .val (.int (0 : Int32)), .val (.int (Int32.ofNat cs.length)), .val .null, .val (.ref tt)] [(.ref x)])) ?_ (fun t_ k_ => XS.aloadN X3.here hx rfl (hb hby d3_41) rfl rfl k_)
  refine Goes.on (T' := T3) (g' := (mkF m 44 #[.val (.ref x), .val (.ref a), .val (.int (0 : Int32)), .val (.int (Int32.ofNat cs.length)), .val .null, .val (.ref tt)] [(.ref tt), (.ref x)])) ?_ (fun t_ k_ => XS.aload X3.here hx rfl (hb hby d3_42) rfl rfl k_)
  refine Goes.on (T' := T3) (g' := (mkF m 45 #[.val (.ref x), .val (.ref a), .val (.int (0 : Int32)), .val (.int (Int32.ofNat cs.length)), .val .null, .val (.ref tt)] [(.int (Int32.ofNat cs.length)), (.ref tt), (.ref x)])) ?_ (fun t_ k_ => XS.iloadN X3.here hx rfl (hb hby d3_44) rfl k_)
  obtain ⟨_, _, ⟨T7, Lq_7, kq_7, nq_7⟩, -, X7, ⟨Lc7, hQ7, l7, y7, z7⟩, st7⟩ := Jvm.LawKit.callS X3 hx (y := (⟨"java/lang/StringUTF16", "coderFromArrayLen", "([BI)B"⟩ : MethodName)) hown (mvT hZ (hw _ (List.mem_of_getElem? (i := 44) rfl))) (mvT hZ (hw _ (List.mem_of_getElem? (i := 45) rfl))) (mvT hZ (hw _ (List.mem_of_getElem? (i := 39) rfl))) (mvT hZ (hw _ (List.mem_of_getElem? (i := 46) rfl))) (by decide) (backOf (W := 1) (rmCL l Z a0 hw [] tt kt (Int32.ofNat cs.length) zz vv T3.heap n0 Zc Bz) hZ (hw _ (List.mem_of_getElem? (i := 46) rfl)) (hw _ (List.mem_of_getElem? (i := 39) rfl)) (by decide) (by decide)) (g := (mkF m 45 #[.val (.ref x), .val (.ref a), .val (.int (0 : Int32)), .val (.int (Int32.ofNat cs.length)), .val .null, .val (.ref tt)] [(.int (Int32.ofNat cs.length)), (.ref tt), (.ref x)])) rfl (by rw [hml]; rfl) (argsL := [(.ref tt), (.int (Int32.ofNat cs.length))]) (rest := [(.ref x)]) (lenOf pd_6 rfl) rfl (by show 2 * 0 + _ ≤ _; exact Nat.le_of_eq rfl) (hb hby d3_45) (fun _ _ => ⟨rfl, rfl, (by decide : 2 + 0 ≤ _), (by decide : 48 + 0 ≤ _)⟩)
  dsimp only [Pt.U, Pt.locs, Pt.cells, Pt.slots] at X7 l7 y7 z7 st7 hQ7
  rw [l7, y7, z7] at X7
  change Stand p l e _ _ m _ below meth c T7 _ 2 48 at X7
  obtain ⟨rfl, N7q, eh7⟩ := hQ7
  have N7 := Fr.app N3 N7q
  refine Goes.on (T' := T7) (g' := (mkF m 48 #[.val (.ref x), .val (.ref a), .val (.int (0 : Int32)), .val (.int (Int32.ofNat cs.length)), .val .null, .val (.ref tt)] [(.int (own_cdr (Int32.ofNat cs.length) zz)), (.ref x)])) ?_ st7
  rw [ez]
  obtain ⟨T8, h8, X8, e8, W8, st8⟩ := putF X7 hx hZ hown (host := "") (Or.inl (hw _ (List.mem_of_getElem? (i := 26) rfl))) Via.refl eh7 fx5 fx6 (Or.inr ⟨(hw _ (List.mem_of_getElem? (i := 22) rfl)), rfl, hnm⟩) (hw _ (List.mem_of_getElem? (i := 6) rfl)) (ty := .byte) (by decide) nb.1 nb.2 (g := (mkF m 48 #[.val (.ref x), .val (.ref a), .val (.int (0 : Int32)), .val (.int (Int32.ofNat cs.length)), .val .null, .val (.ref tt)] [(.int cd), (.ref x)])) rfl rfl (hb hby d3_48)
  have N8 := Fr.snoc X8 N7 ga
  have Z8 : n0 ≤ h8.size := Nat.le_trans Zc (Nat.le_of_eq W8.size.symm)
  refine Goes.on (T' := T8) (g' := (mkF m 51 #[.val (.ref x), .val (.ref a), .val (.int (0 : Int32)), .val (.int (Int32.ofNat cs.length)), .val .null, .val (.ref tt)] [])) ?_ st8
  have fx9 := fx4.other W8 (Or.inr (slot_ne (Or.inr (hw _ (List.mem_of_getElem? (i := 21) rfl))) (Or.inr (hw _ (List.mem_of_getElem? (i := 22) rfl))) (by decide) (t := (.array .byte)) (t' := .byte) (by decide) (by decide)))
  have fx10 := fx5.same W8
  have fx11 := fx6.wr W8
  have BY8 := BY.other W8 tx
  refine Goes.on (T' := T8) (g' := (mkF m 52 #[.val (.ref x), .val (.ref a), .val (.int (0 : Int32)), .val (.int (Int32.ofNat cs.length)), .val .null, .val (.ref tt)] [(.ref x)])) ?_ (fun t_ k_ => XS.aloadN X8.here hx rfl (hb hby d3_51) rfl rfl k_)
  refine Goes.on (T' := T8) (g' := (mkF m 54 #[.val (.ref x), .val (.ref a), .val (.int (0 : Int32)), .val (.int (Int32.ofNat cs.length)), .val .null, .val (.ref tt)] [(.ref tt), (.ref x)])) ?_ (fun t_ k_ => XS.aload X8.here hx rfl (hb hby d3_52) rfl rfl k_)
  obtain ⟨T12, h12, X12, e12, W12, st12⟩ := putF X8 hx hZ hown (host := "") (Or.inl (hw _ (List.mem_of_getElem? (i := 25) rfl))) Via.refl e8 fx9 fx11 (Or.inr ⟨(hw _ (List.mem_of_getElem? (i := 21) rfl)), rfl, hnm⟩) (hw _ (List.mem_of_getElem? (i := 6) rfl)) (ty := (.array .byte)) (by decide) rfl rfl (g := (mkF m 54 #[.val (.ref x), .val (.ref a), .val (.int (0 : Int32)), .val (.int (Int32.ofNat cs.length)), .val .null, .val (.ref tt)] [(.ref tt), (.ref x)])) rfl rfl (hb hby d3_54)
  have N12 := Fr.snoc X12 N8 ga
  have Z12 : n0 ≤ h12.size := Nat.le_trans Z8 (Nat.le_of_eq W12.size.symm)
  refine Goes.on (T' := T12) (g' := (mkF m 57 #[.val (.ref x), .val (.ref a), .val (.int (0 : Int32)), .val (.int (Int32.ofNat cs.length)), .val .null, .val (.ref tt)] [])) ?_ st12
  have fx13 := fx9.same W12
  have fx14 := fx10.other W12 (Or.inr (slot_ne (Or.inr (hw _ (List.mem_of_getElem? (i := 22) rfl))) (Or.inr (hw _ (List.mem_of_getElem? (i := 21) rfl))) (by decide) (t := .byte) (t' := (.array .byte)) (by decide) (by decide)))
  have fx15 := fx11.wr W12
  have BY12 := BY8.other W12 tx
  rw [hWd]
  exact Goes.retn X12 (v := none) (fun fs hr => X12.returnOut hx Bd.returns (hb hby d3_57) hr) (fun _ => rfl) Bd.notSynchronized (by decide) (by decide) (by rw [e12]; exact ⟨rfl, N12, ((Keep.refl h0 [x]).trans K3 (fun y hy => absurd hy List.not_mem_nil)).trans (((Keep.refl _ [x]).wr W8 (Or.inl (List.mem_cons_self ..))).wr W12 (Or.inl (List.mem_cons_self ..))) (fun y hy => Or.inl hy), tt, kt, cd, sz, fx15, fx14, fx13, BY12⟩)
def QI1 (Z : State) (x a : Addr) (ka : ClassId) (cs : List Int32) (zc : Int32) (h0 : Heap) (n0 : Nat) (v : Option Value) (h : Heap) (L : List Loc) : Prop := v = none ∧ Fr n0 L ∧ Keep h0 h [x] ∧ ∃ t kt cd, h0.size ≤ t ∧ Txt Z h x t kt cs cd
set_option maxRecDepth 65536 in
set_option maxHeartbeats 40000000 in
theorem rmI1 (l : Launch) (Z : State) (a0 : Array Value) (hw : ∀ d ∈ tables_1, d.before a0 Z = true) (ws : List Jvm.Cond) (x a : Addr) (ka : ClassId) (cs : List Int32) (zc : Int32) (h0 : Heap) (n0 : Nat) (Z0 : n0 ≤ h0.size) (E : Exa Z h0 x "java/lang/String") (FV : Fld Z h0 x "java/lang/String" "value" "[B" .null) (FC : Fld Z h0 x "java/lang/String" "coder" "B" (.int (0 : Int32))) (ga : n0 ≤ x) (K : Arv Z h0 a ka .char (Int32.ofNat cs.length) (cs.map Value.int) (.int 0)) (hp : ∀ c ∈ cs, ¬ c < 0 ∧ ¬ (65535 : Int32) < c) (hl : cs.length ≤ 16) (hl0 : 0 < cs.length) (CS : Sta Z Z.heap "java/lang/String" "COMPACT_STRINGS" "Z" (.int zc)) (hzc : ¬ zc = (0 : Int32)) (AD : Sta Z Z.heap "java/lang/StringUTF16" "$assertionsDisabled" "Z" (.int (1 : Int32))) (HB : Sta Z Z.heap "java/lang/StringUTF16" "HI_BYTE_SHIFT" "I" (.int (0 : Int32))) (LB : Sta Z Z.heap "java/lang/StringUTF16" "LO_BYTE_SHIFT" "I" (.int (8 : Int32))) (X0_ : Old Z n0 h0) :
    MetFree l (⟨"java/lang/String", "<init>", "([C)V"⟩ : MethodName) (head1 (Jvm.Cond.code (⟨"java/lang/String", "<init>", "([C)V"⟩ : MethodName) jdk_42_method_3_code 2 none :: ws) ({ frames := 5, cells := 2, slots := 48, locals := 86 } : Room)) (fun a_ U => a_ = #[(.ref x), (.ref a)] ∧ Z.Warmed39 U.vm ∧ U.heap = h0) (fun _ _ _ _ _ => True) (fun _ U o U' => ∃ v L, o = .returned v ∧ QI1 Z x a ka cs zc h0 n0 v U'.heap L ∧ FrameEnd U o U' L ({ frames := 5, cells := 2, slots := 48, locals := 86 } : Room).cells ({ frames := 5, cells := 2, slots := 48, locals := 86 } : Room).slots) := by
  refine MetFree.of_bodySF (plainFor_of_name pn_1) hisR ?_
  intro p e s m args below meth c s₁ Bd hml0 hP hK
  obtain ⟨rfl, hZ, hh⟩ := hP
  have hx := Bd.exec
  have hby := Bd.bytes
  have hml : c.maxLocals = 2 := hml0
  have hown : s.vm.findClass "java/lang/String" = some m.cls := findClass_of_methodNamed Bd.named
  have hnm := (name_of_methodNamed Bd.named Bd.method).1
  have X0 : Stand p l e ({ frames := 5, cells := 2, slots := 48, locals := 86 } : Room) s m #[(.ref x), (.ref a)] below meth c s₁ [] 0 0 := Stand.of_body Bd
  have e0 : s₁.heap = h0 := by rw [← hh, Bd.state]; rfl
  have N0 := Fr.nil n0
  refine Goes.done ?_
  obtain ⟨W, hWd⟩ : ∃ W : State → Prop, W = EndW s below (QI1 Z x a ka cs zc h0 n0) ({ frames := 5, cells := 2, slots := 48, locals := 86 } : Room).cells ({ frames := 5, cells := 2, slots := 48, locals := 86 } : Room).slots := ⟨_, rfl⟩
  rw [← hWd]
  have hef : entryFrame m #[(.ref x), (.ref a)] 2 = (mkF m 0 #[.val (.ref x), .val (.ref a)] []) := by first | (simp [entryFrame, mkF, argsToLocals, Value.category]; done) | rfl
  rw [hef]
  obtain ⟨cA, A1, -, S1, M1, H1, -⟩ := id K
  refine Goes.on (T' := s₁) (g' := (mkF m 1 #[.val (.ref x), .val (.ref a)] [(.ref x)])) ?_ (fun t_ k_ => XS.aloadN X0.here hx rfl (hb hby d2_0) rfl rfl k_)
  refine Goes.on (T' := s₁) (g' := (mkF m 2 #[.val (.ref x), .val (.ref a)] [(.ref a), (.ref x)])) ?_ (fun t_ k_ => XS.aloadN X0.here hx rfl (hb hby d2_1) rfl rfl k_)
  refine Goes.on (T' := s₁) (g' := (mkF m 3 #[.val (.ref x), .val (.ref a)] [(.int (0 : Int32)), (.ref a), (.ref x)])) ?_ (fun t_ k_ => XS.iconst X0.here hx rfl (hb hby d2_2) k_)
  refine Goes.on (T' := s₁) (g' := (mkF m 4 #[.val (.ref x), .val (.ref a)] [(.ref a), (.int (0 : Int32)), (.ref a), (.ref x)])) ?_ (fun t_ k_ => XS.aloadN X0.here hx rfl (hb hby d2_3) rfl rfl k_)
  refine Goes.on (T' := s₁) (g' := (mkF m 5 #[.val (.ref x), .val (.ref a)] [(.int cA.slots.size.toInt32), (.int (0 : Int32)), (.ref a), (.ref x)])) ?_ (X0.arraylength hx (by rw [e0]; exact A1.1) (State.isArrayOf_alike hZ.alike A1.2.1) (g := (mkF m 4 #[.val (.ref x), .val (.ref a)] [(.ref a), (.int (0 : Int32)), (.ref a), (.ref x)])) rfl rfl (hb hby d2_4))
  rw [len_of S1 M1]
  refine Goes.on (T' := s₁) (g' := (mkF m 6 #[.val (.ref x), .val (.ref a)] [.null, (.int (Int32.ofNat cs.length)), (.int (0 : Int32)), (.ref a), (.ref x)])) ?_ (fun t_ k_ => XS.aconstNull X0.here hx rfl (hb hby d2_5) k_)
  obtain ⟨_, _, ⟨T1, Lq_1, kq_1, nq_1⟩, -, X1, ⟨Lc1, hQ1, l1, y1, z1⟩, st1⟩ := X0.specialBack hx (y := (⟨"java/lang/String", "<init>", "([CIILjava/lang/Void;)V"⟩ : MethodName)) rfl hown (mvT hZ (hw _ (List.mem_of_getElem? (i := 12) rfl))) (mvT hZ (hw _ (List.mem_of_getElem? (i := 13) rfl))) (mvT hZ (hw _ (List.mem_of_getElem? (i := 15) rfl))) (by decide) (backOf (W := 0) (rmI4 l Z a0 hw [] x a ka cs zc h0 n0 Z0 E FV FC ga K hp hl hl0 CS hzc AD HB LB X0_) hZ (hw _ (List.mem_of_getElem? (i := 15) rfl)) (hw _ (List.mem_of_getElem? (i := 7) rfl)) (by decide) (by decide)) (g := (mkF m 6 #[.val (.ref x), .val (.ref a)] [.null, (.int (Int32.ofNat cs.length)), (.int (0 : Int32)), (.ref a), (.ref x)])) rfl (by rw [hml]; rfl) (Steps.refl _) (a := x) (argsL := [(.ref a), (.int (0 : Int32)), (.int (Int32.ofNat cs.length)), .null]) (rest := []) (lenOf pd_7 rfl) rfl (by show 2 * 0 + _ ≤ _; exact Nat.le_of_eq rfl) (hb hby d2_6) (fun _ _ => ⟨rfl, e0, (by decide : 0 + 2 ≤ _), (by decide : 0 + 48 ≤ _)⟩)
  dsimp only [Pt.U, Pt.locs, Pt.cells, Pt.slots] at X1 l1 y1 z1 st1 hQ1
  rw [l1, y1, z1] at X1
  change Stand p l e _ _ m _ below meth c T1 _ 2 48 at X1
  obtain ⟨rfl, N1q, KP, TX⟩ := hQ1
  have N1 := Fr.app N0 N1q
  refine Goes.on (T' := T1) (g' := (mkF m 9 #[.val (.ref x), .val (.ref a)] [])) ?_ (fun t => st1.trans)
  rw [hWd]
  exact Goes.retn X1 (v := none) (fun fs hr => X1.returnOut hx Bd.returns (hb hby d2_9) hr) (fun _ => rfl) Bd.notSynchronized (by decide) (by decide) ⟨rfl, N1, KP, TX⟩
def QE4 (Z : State) (x a : Addr) (h0 : Heap) (n0 : Nat) (v : Option Value) (h : Heap) (L : List Loc) : Prop := v = none ∧ Fr n0 L ∧ ∃ t kt, Exa Z h x "java/lang/String" ∧ Fld Z h x "java/lang/String" "value" "[B" (.ref t) ∧ Arv Z h t kt .byte (0 : Int32) [] (.int 0)
set_option maxRecDepth 65536 in
set_option maxHeartbeats 40000000 in
theorem rmE4 (l : Launch) (Z : State) (a0 : Array Value) (hw : ∀ d ∈ tables_1, d.before a0 Z = true) (ws : List Jvm.Cond) (x a : Addr) (h0 : Heap) (n0 : Nat) (Z0 : n0 ≤ h0.size) (hEL : EW Z a0 consts_1) (E : Exa Z h0 x "java/lang/String") (FV : Fld Z h0 x "java/lang/String" "value" "[B" .null) (FC : Fld Z h0 x "java/lang/String" "coder" "B" (.int (0 : Int32))) (ga : n0 ≤ x) :
    MetFree l (⟨"java/lang/String", "<init>", "([CIILjava/lang/Void;)V"⟩ : MethodName) (head1 (Jvm.Cond.code (⟨"java/lang/String", "<init>", "([CIILjava/lang/Void;)V"⟩ : MethodName) jdk_42_method_149_code 6 none :: ws) ({ frames := 1, cells := 4, slots := 8, locals := 12 } : Room)) (fun a_ U => a_ = #[(.ref x), (.ref a), (.int (0 : Int32)), (.int (0 : Int32)), .null] ∧ Z.Warmed39 U.vm ∧ U.heap = h0 ∧ CHv Z consts_1 U.vm h0 ∧ ∀ y ∈ ([x] : List Addr), Safe Z consts_1 U.vm h0 y) (fun _ _ _ _ _ => True) (fun _ U o U' => ∃ v L, o = .returned v ∧ QE4 Z x a h0 n0 v U'.heap L ∧ CHr Z consts_1 U.vm U.heap U'.vm U'.heap ∧ ReturnedEndW U o U' L ({ frames := 1, cells := 4, slots := 8, locals := 12 } : Room).cells ({ frames := 1, cells := 4, slots := 8, locals := 12 } : Room).slots) := by
  refine MetFree.of_bodySF (plainFor_of_name pn_1) hisR ?_
  intro p e s m args below meth c s₁ Bd hml0 hP hK
  obtain ⟨rfl, hZ, hh, hCH, hSf⟩ := hP
  have C0 : CHr Z consts_1 s.vm h0 s.vm h0 := CHr.refl hCH
  have hS0 : s.Since s.vm h0.size := (State.WarmedH.refl s).since _
  have hx := Bd.exec
  have hby := Bd.bytes
  have hml : c.maxLocals = 6 := hml0
  have hown : s.vm.findClass "java/lang/String" = some m.cls := findClass_of_methodNamed Bd.named
  have hnm := (name_of_methodNamed Bd.named Bd.method).1
  have X0 : Stand p l e ({ frames := 1, cells := 4, slots := 8, locals := 12 } : Room) s m #[(.ref x), (.ref a), (.int (0 : Int32)), (.int (0 : Int32)), .null] below meth c s₁ [] 0 0 := Stand.of_body Bd
  have e0 : s₁.heap = h0 := by rw [← hh, Bd.state]; rfl
  have N0 := Fr.nil n0
  refine Goes.doneH ?_
  obtain ⟨W, hWd⟩ : ∃ W : State → Prop, W = EndWH Z consts_1 s below (QE4 Z x a h0 n0) ({ frames := 1, cells := 4, slots := 8, locals := 12 } : Room).cells ({ frames := 1, cells := 4, slots := 8, locals := 12 } : Room).slots := ⟨_, rfl⟩
  rw [← hWd]
  have hef : entryFrame m #[(.ref x), (.ref a), (.int (0 : Int32)), (.int (0 : Int32)), .null] 6 = (mkF m 0 #[.val (.ref x), .val (.ref a), .val (.int (0 : Int32)), .val (.int (0 : Int32)), .val .null, .unset] []) := by first | (simp [entryFrame, mkF, argsToLocals, Value.category]; done) | rfl
  rw [hef]
  have Sf_x : Safe Z consts_1 s.vm h0 x := hSf x (by simp)
  have hwS := own_wS hw
  refine Goes.on (T' := s₁) (g' := (mkF m 1 #[.val (.ref x), .val (.ref a), .val (.int (0 : Int32)), .val (.int (0 : Int32)), .val .null, .unset] [(.ref x)])) ?_ (fun t_ k_ => XS.aloadN X0.here hx rfl (hb hby d3_0) rfl rfl k_)
  obtain ⟨T1, X1, e1, st1⟩ := initO X0 hx hZ hown (hw _ (List.mem_of_getElem? (i := 16) rfl)) (hw _ (List.mem_of_getElem? (i := 17) rfl)) (hw _ (List.mem_of_getElem? (i := 18) rfl)) e0 (g := (mkF m 1 #[.val (.ref x), .val (.ref a), .val (.int (0 : Int32)), .val (.int (0 : Int32)), .val .null, .unset] [(.ref x)])) rfl (by rw [hml]; rfl) rfl (hb hby d3_1) (by decide) (W := 0) (by show 2 * 0 + _ ≤ _; exact Nat.le_of_eq rfl) (by decide)
  refine Goes.on (T' := T1) (g' := (mkF m 4 #[.val (.ref x), .val (.ref a), .val (.int (0 : Int32)), .val (.int (0 : Int32)), .val .null, .unset] [])) ?_ st1
  refine Goes.on (T' := T1) (g' := (mkF m 5 #[.val (.ref x), .val (.ref a), .val (.int (0 : Int32)), .val (.int (0 : Int32)), .val .null, .unset] [(.int (0 : Int32))])) ?_ (fun t_ k_ => XS.iloadN X1.here hx rfl (hb hby d3_4) rfl k_)
  refine Goes.on (T' := T1) (g' := (mkF m 8 #[.val (.ref x), .val (.ref a), .val (.int (0 : Int32)), .val (.int (0 : Int32)), .val .null, .unset] [])) ?_ (fun t_ k_ => XS.ifNo X1.here hx rfl (hb hby d3_5) rfl (by decide) k_)
  refine Goes.on (T' := T1) (g' := (mkF m 9 #[.val (.ref x), .val (.ref a), .val (.int (0 : Int32)), .val (.int (0 : Int32)), .val .null, .unset] [(.ref x)])) ?_ (fun t_ k_ => XS.aloadN X1.here hx rfl (hb hby d3_8) rfl rfl k_)
  obtain ⟨u2, T2, h2, q2, b2, kc2, X2, e2, E2, hS2, hk2, hZ, hown, Eu2, Cu2, Vu2, Ku2, lu2, lb2, D2, Li2, ne2, st2⟩ := ldcCH (s := s) (vm0 := s.vm) X1 hx hZ hown (hw _ (List.mem_of_getElem? (i := 19) rfl)) hwS e1 hS0 (Nat.le_refl _) hEL (by simp [consts_1]) C0.1 (vs := ([] : List Int32).map Value.int) (z := Int32.ofNat ([] : List Int32).length) ⟨by decide, by decide⟩ (by decide) (by decide) (g := (mkF m 9 #[.val (.ref x), .val (.ref a), .val (.int (0 : Int32)), .val (.int (0 : Int32)), .val .null, .unset] [(.ref x)])) rfl (hb hby d3_9) (n := 0) (by decide) (by decide) (by decide) (by decide)
  have Sf2_x := D2.safe E.lt Sf_x
  have Z2 : n0 ≤ h2.size := Nat.le_trans Z0 E2.1
  have C3 := C0.trans D2
  refine Goes.on (T' := T2) (g' := (mkF m 11 #[.val (.ref x), .val (.ref a), .val (.int (0 : Int32)), .val (.int (0 : Int32)), .val .null, .unset] [(.ref u2), (.ref x)])) ?_ st2
  have fx4 := FV.ext E2
  have fx5 := FC.ext E2
  have fx6 := E.ext E2
  have hne2 := ne2 x Sf2_x
  obtain ⟨T7, X7, e7, st7⟩ := getF X2 hx hZ hown (host := "") (Or.inl (hw _ (List.mem_of_getElem? (i := 25) rfl))) Via.refl e2 Vu2 (g := (mkF m 11 #[.val (.ref x), .val (.ref a), .val (.int (0 : Int32)), .val (.int (0 : Int32)), .val .null, .unset] [(.ref u2), (.ref x)])) rfl rfl (hb hby d3_11)
  refine Goes.on (T' := T7) (g' := (mkF m 14 #[.val (.ref x), .val (.ref a), .val (.int (0 : Int32)), .val (.int (0 : Int32)), .val .null, .unset] [(.ref b2), (.ref x)])) ?_ st7
  obtain ⟨T8, h8, X8, e8, W8, st8⟩ := putF X7 hx hZ hown (host := "") (Or.inl (hw _ (List.mem_of_getElem? (i := 25) rfl))) Via.refl e7 fx4 fx6 (Or.inr ⟨(hw _ (List.mem_of_getElem? (i := 21) rfl)), rfl, hnm⟩) (hw _ (List.mem_of_getElem? (i := 6) rfl)) (ty := (.array .byte)) (by decide) rfl rfl (g := (mkF m 14 #[.val (.ref x), .val (.ref a), .val (.int (0 : Int32)), .val (.int (0 : Int32)), .val .null, .unset] [(.ref b2), (.ref x)])) rfl rfl (hb hby d3_14)
  have N8 := Fr.snoc X8 N0 ga
  have Z8 : n0 ≤ h8.size := Nat.le_trans Z2 (Nat.le_of_eq W8.size.symm)
  refine Goes.on (T' := T8) (g' := (mkF m 17 #[.val (.ref x), .val (.ref a), .val (.int (0 : Int32)), .val (.int (0 : Int32)), .val .null, .unset] [])) ?_ st8
  have Sf9_x := Safe.wr W8 Sf2_x C3.1 Sf2_x
  have C10 := C3.trans (CHr.wr W8 Sf2_x C3.1)
  have fx11 := fx4.same W8
  have fx12 := fx5.other W8 (Or.inr (slot_ne (Or.inr (hw _ (List.mem_of_getElem? (i := 22) rfl))) (Or.inr (hw _ (List.mem_of_getElem? (i := 21) rfl))) (by decide) (t := .byte) (t' := (.array .byte)) (by decide) (by decide)))
  have fx13 := fx6.wr W8
  have fx14 := Ku2.other W8 (Ne.symm hne2.2)
  refine Goes.on (T' := T8) (g' := (mkF m 18 #[.val (.ref x), .val (.ref a), .val (.int (0 : Int32)), .val (.int (0 : Int32)), .val .null, .unset] [(.ref x)])) ?_ (fun t_ k_ => XS.aloadN X8.here hx rfl (hb hby d3_17) rfl rfl k_)
  obtain ⟨u15, T15, h15, q15, b15, kc15, X15, e15, E15, hS15, hk15, hZ, hown, Eu15, Cu15, Vu15, Ku15, lu15, lb15, D15, Li15, ne15, st15⟩ := ldcCH (s := s) (vm0 := T2.vm) X8 hx hZ hown (hw _ (List.mem_of_getElem? (i := 19) rfl)) hwS e8 hS2 (Nat.le_trans hk2 (Nat.le_of_eq W8.size.symm)) hEL (by simp [consts_1]) C10.1 (vs := ([] : List Int32).map Value.int) (z := Int32.ofNat ([] : List Int32).length) ⟨by decide, by decide⟩ (by decide) (by decide) (g := (mkF m 18 #[.val (.ref x), .val (.ref a), .val (.int (0 : Int32)), .val (.int (0 : Int32)), .val .null, .unset] [(.ref x)])) rfl (hb hby d3_18) (n := 0) (by decide) (by decide) (by decide) (by decide)
  have Sf15_x := D15.safe fx13.lt Sf9_x
  have Z15 : n0 ≤ h15.size := Nat.le_trans Z8 E15.1
  have C16 := C10.trans D15
  refine Goes.on (T' := T15) (g' := (mkF m 20 #[.val (.ref x), .val (.ref a), .val (.int (0 : Int32)), .val (.int (0 : Int32)), .val .null, .unset] [(.ref u15), (.ref x)])) ?_ st15
  have fx17 := fx11.ext E15
  have fx18 := fx12.ext E15
  have fx19 := fx13.ext E15
  have fx20 := fx14.ext E15
  obtain ⟨T21, X21, e21, st21⟩ := getF X15 hx hZ hown (host := "") (Or.inl (hw _ (List.mem_of_getElem? (i := 26) rfl))) Via.refl e15 Cu15 (g := (mkF m 20 #[.val (.ref x), .val (.ref a), .val (.int (0 : Int32)), .val (.int (0 : Int32)), .val .null, .unset] [(.ref u15), (.ref x)])) rfl rfl (hb hby d3_20)
  refine Goes.on (T' := T21) (g' := (mkF m 23 #[.val (.ref x), .val (.ref a), .val (.int (0 : Int32)), .val (.int (0 : Int32)), .val .null, .unset] [(.int (0 : Int32)), (.ref x)])) ?_ st21
  obtain ⟨T22, h22, X22, e22, W22, st22⟩ := putF X21 hx hZ hown (host := "") (Or.inl (hw _ (List.mem_of_getElem? (i := 26) rfl))) Via.refl e21 fx18 fx19 (Or.inr ⟨(hw _ (List.mem_of_getElem? (i := 22) rfl)), rfl, hnm⟩) (hw _ (List.mem_of_getElem? (i := 6) rfl)) (ty := .byte) (by decide) rfl rfl (g := (mkF m 23 #[.val (.ref x), .val (.ref a), .val (.int (0 : Int32)), .val (.int (0 : Int32)), .val .null, .unset] [(.int (0 : Int32)), (.ref x)])) rfl rfl (hb hby d3_23)
  have N22 := Fr.snoc X22 N8 ga
  have Z22 : n0 ≤ h22.size := Nat.le_trans Z15 (Nat.le_of_eq W22.size.symm)
  refine Goes.on (T' := T22) (g' := (mkF m 26 #[.val (.ref x), .val (.ref a), .val (.int (0 : Int32)), .val (.int (0 : Int32)), .val .null, .unset] [])) ?_ st22
  have Sf23_x := Safe.wr W22 Sf15_x C16.1 Sf15_x
  have C24 := C16.trans (CHr.wr W22 Sf15_x C16.1)
  have fx25 := fx17.other W22 (Or.inr (slot_ne (Or.inr (hw _ (List.mem_of_getElem? (i := 21) rfl))) (Or.inr (hw _ (List.mem_of_getElem? (i := 22) rfl))) (by decide) (t := (.array .byte)) (t' := .byte) (by decide) (by decide)))
  have fx26 := fx18.same W22
  have fx27 := fx19.wr W22
  have fx28 := fx20.other W22 (Ne.symm hne2.2)
  rw [hWd]
  exact Goes.retnH X22 hS15 e22 (Nat.le_trans hk15 (Nat.le_of_eq W22.size.symm)) hZ hEL hh C24 (v := none) (fun fs hr => X22.returnOut hx Bd.returns (hb hby d3_26) hr) (fun _ => rfl) Bd.notSynchronized (by decide) (by decide) (by rw [e22]; exact ⟨rfl, N22, b2, kc2, fx27, fx25, fx28⟩)
def QE1 (Z : State) (x a : Addr) (ka : ClassId) (h0 : Heap) (n0 : Nat) (v : Option Value) (h : Heap) (L : List Loc) : Prop := v = none ∧ Fr n0 L ∧ ∃ t kt, Exa Z h x "java/lang/String" ∧ Fld Z h x "java/lang/String" "value" "[B" (.ref t) ∧ Arv Z h t kt .byte (0 : Int32) [] (.int 0)
set_option maxRecDepth 65536 in
set_option maxHeartbeats 40000000 in
theorem rmE1 (l : Launch) (Z : State) (a0 : Array Value) (hw : ∀ d ∈ tables_1, d.before a0 Z = true) (ws : List Jvm.Cond) (x a : Addr) (ka : ClassId) (h0 : Heap) (n0 : Nat) (Z0 : n0 ≤ h0.size) (hEL : EW Z a0 consts_1) (E : Exa Z h0 x "java/lang/String") (FV : Fld Z h0 x "java/lang/String" "value" "[B" .null) (FC : Fld Z h0 x "java/lang/String" "coder" "B" (.int (0 : Int32))) (ga : n0 ≤ x) (K : Arv Z h0 a ka .char (0 : Int32) [] (.int 0)) :
    MetFree l (⟨"java/lang/String", "<init>", "([C)V"⟩ : MethodName) (head1 (Jvm.Cond.code (⟨"java/lang/String", "<init>", "([C)V"⟩ : MethodName) jdk_42_method_3_code 2 none :: ws) ({ frames := 2, cells := 4, slots := 8, locals := 29 } : Room)) (fun a_ U => a_ = #[(.ref x), (.ref a)] ∧ Z.Warmed39 U.vm ∧ U.heap = h0 ∧ CHv Z consts_1 U.vm h0 ∧ ∀ y ∈ ([x] : List Addr), Safe Z consts_1 U.vm h0 y) (fun _ _ _ _ _ => True) (fun _ U o U' => ∃ v L, o = .returned v ∧ QE1 Z x a ka h0 n0 v U'.heap L ∧ CHr Z consts_1 U.vm U.heap U'.vm U'.heap ∧ ReturnedEndW U o U' L ({ frames := 2, cells := 4, slots := 8, locals := 29 } : Room).cells ({ frames := 2, cells := 4, slots := 8, locals := 29 } : Room).slots) := by
  refine MetFree.of_bodySF (plainFor_of_name pn_1) hisR ?_
  intro p e s m args below meth c s₁ Bd hml0 hP hK
  obtain ⟨rfl, hZ, hh, hCH, hSf⟩ := hP
  have C0 : CHr Z consts_1 s.vm h0 s.vm h0 := CHr.refl hCH
  have hS0 : s.Since s.vm h0.size := (State.WarmedH.refl s).since _
  have hx := Bd.exec
  have hby := Bd.bytes
  have hml : c.maxLocals = 2 := hml0
  have hown : s.vm.findClass "java/lang/String" = some m.cls := findClass_of_methodNamed Bd.named
  have hnm := (name_of_methodNamed Bd.named Bd.method).1
  have X0 : Stand p l e ({ frames := 2, cells := 4, slots := 8, locals := 29 } : Room) s m #[(.ref x), (.ref a)] below meth c s₁ [] 0 0 := Stand.of_body Bd
  have e0 : s₁.heap = h0 := by rw [← hh, Bd.state]; rfl
  have N0 := Fr.nil n0
  refine Goes.doneH ?_
  obtain ⟨W, hWd⟩ : ∃ W : State → Prop, W = EndWH Z consts_1 s below (QE1 Z x a ka h0 n0) ({ frames := 2, cells := 4, slots := 8, locals := 29 } : Room).cells ({ frames := 2, cells := 4, slots := 8, locals := 29 } : Room).slots := ⟨_, rfl⟩
  rw [← hWd]
  have hef : entryFrame m #[(.ref x), (.ref a)] 2 = (mkF m 0 #[.val (.ref x), .val (.ref a)] []) := by first | (simp [entryFrame, mkF, argsToLocals, Value.category]; done) | rfl
  rw [hef]
  have Sf_x : Safe Z consts_1 s.vm h0 x := hSf x (by simp)
  obtain ⟨cA, A1, -, S1, M1, H1, -⟩ := id K
  refine Goes.on (T' := s₁) (g' := (mkF m 1 #[.val (.ref x), .val (.ref a)] [(.ref x)])) ?_ (fun t_ k_ => XS.aloadN X0.here hx rfl (hb hby d2_0) rfl rfl k_)
  refine Goes.on (T' := s₁) (g' := (mkF m 2 #[.val (.ref x), .val (.ref a)] [(.ref a), (.ref x)])) ?_ (fun t_ k_ => XS.aloadN X0.here hx rfl (hb hby d2_1) rfl rfl k_)
  refine Goes.on (T' := s₁) (g' := (mkF m 3 #[.val (.ref x), .val (.ref a)] [(.int (0 : Int32)), (.ref a), (.ref x)])) ?_ (fun t_ k_ => XS.iconst X0.here hx rfl (hb hby d2_2) k_)
  refine Goes.on (T' := s₁) (g' := (mkF m 4 #[.val (.ref x), .val (.ref a)] [(.ref a), (.int (0 : Int32)), (.ref a), (.ref x)])) ?_ (fun t_ k_ => XS.aloadN X0.here hx rfl (hb hby d2_3) rfl rfl k_)
  refine Goes.on (T' := s₁) (g' := (mkF m 5 #[.val (.ref x), .val (.ref a)] [(.int cA.slots.size.toInt32), (.int (0 : Int32)), (.ref a), (.ref x)])) ?_ (X0.arraylength hx (by rw [e0]; exact A1.1) (State.isArrayOf_alike hZ.alike A1.2.1) (g := (mkF m 4 #[.val (.ref x), .val (.ref a)] [(.ref a), (.int (0 : Int32)), (.ref a), (.ref x)])) rfl rfl (hb hby d2_4))
  rw [len_of S1 M1]
  refine Goes.on (T' := s₁) (g' := (mkF m 6 #[.val (.ref x), .val (.ref a)] [.null, (.int (0 : Int32)), (.int (0 : Int32)), (.ref a), (.ref x)])) ?_ (fun t_ k_ => XS.aconstNull X0.here hx rfl (hb hby d2_5) k_)
  obtain ⟨_, _, ⟨T1, Lq_1, kq_1, nq_1⟩, -, X1a, S1a, G1a, ⟨Lc1, hQ1, l1, y1, z1, D1⟩, st1⟩ := Jvm.Stand.specialBackS (s := s.setVm s.vm) X0 hx (y := (⟨"java/lang/String", "<init>", "([CIILjava/lang/Void;)V"⟩ : MethodName)) rfl hown (mvT hZ (hw _ (List.mem_of_getElem? (i := 12) rfl))) (mvT hZ (hw _ (List.mem_of_getElem? (i := 13) rfl))) (mvT hZ (hw _ (List.mem_of_getElem? (i := 15) rfl))) (by decide) (backSH (s := s) (vm0 := s.vm) (W := 0) (xs := [x]) (rmE4 l Z a0 hw [] x a h0 n0 Z0 hEL E FV FC ga) hZ (hw _ (List.mem_of_getElem? (i := 15) rfl)) (hw _ (List.mem_of_getElem? (i := 7) rfl)) (by decide) (by decide) hEL C0.1 (own_sfC ⟨E.lt, Sf_x⟩ (fun y hy => absurd hy List.not_mem_nil))) (g := (mkF m 6 #[.val (.ref x), .val (.ref a)] [.null, (.int (0 : Int32)), (.int (0 : Int32)), (.ref a), (.ref x)])) rfl (by rw [hml]; rfl) (Steps.refl _) (a := x) (argsL := [(.ref a), (.int (0 : Int32)), (.int (0 : Int32)), .null]) (rest := []) (lenOf pd_7 rfl) rfl (by show 2 * 0 + _ ≤ _; exact Nat.le_of_eq rfl) (hb hby d2_6) (fun _ _ => ⟨rfl, e0, (by decide : 0 + 4 ≤ _), (by decide : 0 + 8 ≤ _)⟩)
  dsimp only [Pt.U, Pt.locs, Pt.cells, Pt.slots] at X1a S1a G1a l1 y1 z1 st1 hQ1 D1
  rw [l1, y1, z1] at X1a
  obtain ⟨X1, hS1, hZ, hown⟩ := rebS (s := s) (vm0 := s.vm) hS0 (by rw [e0]; exact (Nat.le_refl _)) X1a S1a G1a hZ hown
  change Stand p l e _ _ m _ below meth c T1 _ 4 8 at X1
  obtain ⟨rfl, N1q, EE⟩ := hQ1
  have N1 := Fr.app N0 N1q
  have Sf1_x := D1.safe E.lt Sf_x
  have Z1 : n0 ≤ T1.heap.size := Nat.le_trans Z0 D1.2.1
  have C2 := C0.trans D1
  refine Goes.on (T' := T1) (g' := (mkF m 9 #[.val (.ref x), .val (.ref a)] [])) ?_ (fun t => st1.trans)
  rw [hWd]
  exact Goes.retnH X1 hS1 rfl (Nat.le_refl _) hZ hEL hh C2 (v := none) (fun fs hr => X1.returnOut hx Bd.returns (hb hby d2_9) hr) (fun _ => rfl) Bd.notSynchronized (by decide) (by decide) ⟨rfl, N1, EE⟩
def QDR (Z : State) (y : Int32) (h0 : Heap) (n0 : Nat) (v : Option Value) (h : Heap) (L : List Loc) : Prop := ∃ c, v = some (.int c) ∧ Fr n0 L ∧ h = h0 ∧ ¬ c < 0 ∧ ¬ (65535 : Int32) < c
set_option maxRecDepth 65536 in
set_option maxHeartbeats 40000000 in
theorem rmDR (l : Launch) (Z : State) (a0 : Array Value) (hw : ∀ d ∈ tables_1, d.before a0 Z = true) (ws : List Jvm.Cond) (y : Int32) (h0 : Heap) (n0 : Nat) (Z0 : n0 ≤ h0.size)  :
    MetFree l (⟨"com/example/regraft/regraft/core/NodeIsValidNamePinLaw", "draw", "(I)C"⟩ : MethodName) (head1 (Jvm.Cond.code (⟨"com/example/regraft/regraft/core/NodeIsValidNamePinLaw", "draw", "(I)C"⟩ : MethodName) method_2_code 2 (some .char) :: ws) ({ frames := 0, cells := 0, slots := 0, locals := 0 } : Room)) (fun a_ U => a_ = #[(.int y)] ∧ Z.Warmed39 U.vm ∧ U.heap = h0) (fun _ _ _ _ _ => True) (fun _ U o U' => ∃ v L, o = .returned v ∧ QDR Z y h0 n0 v U'.heap L ∧ FrameEnd U o U' L ({ frames := 0, cells := 0, slots := 0, locals := 0 } : Room).cells ({ frames := 0, cells := 0, slots := 0, locals := 0 } : Room).slots) := by
  refine MetFree.of_bodySF (plainFor_of_name pn_2) hisR ?_
  intro p e s m args below meth c s₁ Bd hml0 hP hK
  obtain ⟨rfl, hZ, hh⟩ := hP
  have hx := Bd.exec
  have hby := Bd.bytes
  have hml : c.maxLocals = 2 := hml0
  have hown : s.vm.findClass "com/example/regraft/regraft/core/NodeIsValidNamePinLaw" = some m.cls := findClass_of_methodNamed Bd.named
  have hnm := (name_of_methodNamed Bd.named Bd.method).1
  have X0 : Stand p l e ({ frames := 0, cells := 0, slots := 0, locals := 0 } : Room) s m #[(.int y)] below meth c s₁ [] 0 0 := Stand.of_body Bd
  have e0 : s₁.heap = h0 := by rw [← hh, Bd.state]; rfl
  have N0 := Fr.nil n0
  refine Goes.done ?_
  obtain ⟨W, hWd⟩ : ∃ W : State → Prop, W = EndW s below (QDR Z y h0 n0) ({ frames := 0, cells := 0, slots := 0, locals := 0 } : Room).cells ({ frames := 0, cells := 0, slots := 0, locals := 0 } : Room).slots := ⟨_, rfl⟩
  rw [← hWd]
  have hef : entryFrame m #[(.int y)] 2 = (mkF m 0 #[.val (.int y), .unset] []) := by first | (simp [entryFrame, mkF, argsToLocals, Value.category]; done) | rfl
  rw [hef]
  refine Goes.on (T' := s₁) (g' := (mkF m 1 #[.val (.int y), .unset] [(.int y)])) ?_ (fun t_ k_ => XS.iloadN X0.here hx rfl (hb hby d1_0) rfl k_)
  refine Goes.on (T' := s₁) (g' := (mkF m 3 #[.val (.int y), .unset] [(.int (16 : Int32)), (.int y)])) ?_ (fun t_ k_ => XS.bipush X0.here hx rfl (hb hby d1_1) k_)
  refine Goes.on (T' := s₁) (g' := (mkF m 4 #[.val (.int y), .unset] [(.int ((y.toUInt32 >>> ((16 : Int32) &&& 31).toUInt32).toInt32))])) ?_ (fun t_ k_ => XS.iushr X0.here hx rfl (hb hby d1_3) rfl k_)
  refine Goes.on (T' := s₁) (g' := (mkF m 6 #[.val (.int y), .unset] [(.int (7 : Int32)), (.int ((y.toUInt32 >>> ((16 : Int32) &&& 31).toUInt32).toInt32))])) ?_ (fun t_ k_ => XS.bipush X0.here hx rfl (hb hby d1_4) k_)
  refine Goes.on (T' := s₁) (g' := (mkF m 7 #[.val (.int y), .unset] [(.int (((y.toUInt32 >>> ((16 : Int32) &&& 31).toUInt32).toInt32) &&& (7 : Int32)))])) ?_ (fun t_ k_ => XS.iand X0.here hx rfl (hb hby d1_6) rfl k_)
  refine Goes.on (T' := s₁) (g' := (mkF m 8 #[.val (.int y), .val (.int (((y.toUInt32 >>> ((16 : Int32) &&& 31).toUInt32).toInt32) &&& (7 : Int32)))] [])) ?_ (fun t_ k_ => XS.istoreN X0.here hx rfl (hb hby d1_7) rfl (l' := #[.val (.int y), .val (.int (((y.toUInt32 >>> ((16 : Int32) &&& 31).toUInt32).toInt32) &&& (7 : Int32)))]) rfl k_)
  refine Goes.on (T' := s₁) (g' := (mkF m 9 #[.val (.int y), .val (.int (((y.toUInt32 >>> ((16 : Int32) &&& 31).toUInt32).toInt32) &&& (7 : Int32)))] [(.int (((y.toUInt32 >>> ((16 : Int32) &&& 31).toUInt32).toInt32) &&& (7 : Int32)))])) ?_ (fun t_ k_ => XS.iloadN X0.here hx rfl (hb hby d1_8) rfl k_)
  refine Goes.ifN X0 hx rfl (pc0 := 9) (pc' := 15) rfl (hb hby d1_9) rfl (by decide) (by decide) (P := (((y.toUInt32 >>> ((16 : Int32) &&& 31).toUInt32).toInt32) &&& (7 : Int32)) = (0 : Int32)) (ifc_ne _ _) (fun hc9 => ?_) (fun hc9 => ?_)
  · show Goes p e below W s₁ (mkF m 15 #[.val (.int y), .val (.int (((y.toUInt32 >>> ((16 : Int32) &&& 31).toUInt32).toInt32) &&& (7 : Int32)))] [])
    refine Goes.on (T' := s₁) (g' := (mkF m 16 #[.val (.int y), .val (.int (((y.toUInt32 >>> ((16 : Int32) &&& 31).toUInt32).toInt32) &&& (7 : Int32)))] [(.int (((y.toUInt32 >>> ((16 : Int32) &&& 31).toUInt32).toInt32) &&& (7 : Int32)))])) ?_ (fun t_ k_ => XS.iloadN X0.here hx rfl (hb hby d1_15) rfl k_)
    refine Goes.on (T' := s₁) (g' := (mkF m 17 #[.val (.int y), .val (.int (((y.toUInt32 >>> ((16 : Int32) &&& 31).toUInt32).toInt32) &&& (7 : Int32)))] [(.int (1 : Int32)), (.int (((y.toUInt32 >>> ((16 : Int32) &&& 31).toUInt32).toInt32) &&& (7 : Int32)))])) ?_ (fun t_ k_ => XS.iconst X0.here hx rfl (hb hby d1_16) k_)
    refine Goes.icmpN X0 hx rfl (pc0 := 17) (pc' := 23) rfl (hb hby d1_17) rfl (by decide) (by decide) (P := (((y.toUInt32 >>> ((16 : Int32) &&& 31).toUInt32).toInt32) &&& (7 : Int32)) = (1 : Int32)) (cmp_ne _ _) (fun hc17 => ?_) (fun hc17 => ?_)
    · show Goes p e below W s₁ (mkF m 23 #[.val (.int y), .val (.int (((y.toUInt32 >>> ((16 : Int32) &&& 31).toUInt32).toInt32) &&& (7 : Int32)))] [])
      refine Goes.on (T' := s₁) (g' := (mkF m 24 #[.val (.int y), .val (.int (((y.toUInt32 >>> ((16 : Int32) &&& 31).toUInt32).toInt32) &&& (7 : Int32)))] [(.int (((y.toUInt32 >>> ((16 : Int32) &&& 31).toUInt32).toInt32) &&& (7 : Int32)))])) ?_ (fun t_ k_ => XS.iloadN X0.here hx rfl (hb hby d1_23) rfl k_)
      refine Goes.on (T' := s₁) (g' := (mkF m 25 #[.val (.int y), .val (.int (((y.toUInt32 >>> ((16 : Int32) &&& 31).toUInt32).toInt32) &&& (7 : Int32)))] [(.int (2 : Int32)), (.int (((y.toUInt32 >>> ((16 : Int32) &&& 31).toUInt32).toInt32) &&& (7 : Int32)))])) ?_ (fun t_ k_ => XS.iconst X0.here hx rfl (hb hby d1_24) k_)
      refine Goes.icmpN X0 hx rfl (pc0 := 25) (pc' := 31) rfl (hb hby d1_25) rfl (by decide) (by decide) (P := (((y.toUInt32 >>> ((16 : Int32) &&& 31).toUInt32).toInt32) &&& (7 : Int32)) = (2 : Int32)) (cmp_ne _ _) (fun hc25 => ?_) (fun hc25 => ?_)
      · show Goes p e below W s₁ (mkF m 31 #[.val (.int y), .val (.int (((y.toUInt32 >>> ((16 : Int32) &&& 31).toUInt32).toInt32) &&& (7 : Int32)))] [])
        refine Goes.on (T' := s₁) (g' := (mkF m 32 #[.val (.int y), .val (.int (((y.toUInt32 >>> ((16 : Int32) &&& 31).toUInt32).toInt32) &&& (7 : Int32)))] [(.int (((y.toUInt32 >>> ((16 : Int32) &&& 31).toUInt32).toInt32) &&& (7 : Int32)))])) ?_ (fun t_ k_ => XS.iloadN X0.here hx rfl (hb hby d1_31) rfl k_)
        refine Goes.on (T' := s₁) (g' := (mkF m 33 #[.val (.int y), .val (.int (((y.toUInt32 >>> ((16 : Int32) &&& 31).toUInt32).toInt32) &&& (7 : Int32)))] [(.int (3 : Int32)), (.int (((y.toUInt32 >>> ((16 : Int32) &&& 31).toUInt32).toInt32) &&& (7 : Int32)))])) ?_ (fun t_ k_ => XS.iconst X0.here hx rfl (hb hby d1_32) k_)
        refine Goes.icmpN X0 hx rfl (pc0 := 33) (pc' := 39) rfl (hb hby d1_33) rfl (by decide) (by decide) (P := (((y.toUInt32 >>> ((16 : Int32) &&& 31).toUInt32).toInt32) &&& (7 : Int32)) = (3 : Int32)) (cmp_ne _ _) (fun hc33 => ?_) (fun hc33 => ?_)
        · show Goes p e below W s₁ (mkF m 39 #[.val (.int y), .val (.int (((y.toUInt32 >>> ((16 : Int32) &&& 31).toUInt32).toInt32) &&& (7 : Int32)))] [])
          refine Goes.on (T' := s₁) (g' := (mkF m 40 #[.val (.int y), .val (.int (((y.toUInt32 >>> ((16 : Int32) &&& 31).toUInt32).toInt32) &&& (7 : Int32)))] [(.int y)])) ?_ (fun t_ k_ => XS.iloadN X0.here hx rfl (hb hby d1_39) rfl k_)
          refine Goes.on (T' := s₁) (g' := (mkF m 41 #[.val (.int y), .val (.int (((y.toUInt32 >>> ((16 : Int32) &&& 31).toUInt32).toInt32) &&& (7 : Int32)))] [(.int (y.toUInt32.toUInt16.toUInt32.toInt32))])) ?_ (fun t_ k_ => XS.i2c X0.here hx rfl (hb hby d1_40) rfl k_)
          rw [hWd]
          exact Goes.retn X0 (v := some (.int (nar .char (y.toUInt32.toUInt16.toUInt32.toInt32)))) (fun fs hr => retN X0 hx (t := .char) Bd.returns (by simp) (hb hby d1_41) hr) (fun h => by rw [Bd.returns] at h; cases h) Bd.notSynchronized (by decide) (by decide) (by rw [e0]; exact ⟨_, rfl, N0, rfl, own_ncb _⟩)
        · show Goes p e below W s₁ (mkF m 36 #[.val (.int y), .val (.int (((y.toUInt32 >>> ((16 : Int32) &&& 31).toUInt32).toInt32) &&& (7 : Int32)))] [])
          refine Goes.on (T' := s₁) (g' := (mkF m 38 #[.val (.int y), .val (.int (((y.toUInt32 >>> ((16 : Int32) &&& 31).toUInt32).toInt32) &&& (7 : Int32)))] [(.int (100 : Int32))])) ?_ (fun t_ k_ => XS.bipush X0.here hx rfl (hb hby d1_36) k_)
          rw [hWd]
          exact Goes.retn X0 (v := some (.int (nar .char (100 : Int32)))) (fun fs hr => retN X0 hx (t := .char) Bd.returns (by simp) (hb hby d1_38) hr) (fun h => by rw [Bd.returns] at h; cases h) Bd.notSynchronized (by decide) (by decide) (by rw [e0]; exact ⟨_, rfl, N0, rfl, own_ncb _⟩)
      · show Goes p e below W s₁ (mkF m 28 #[.val (.int y), .val (.int (((y.toUInt32 >>> ((16 : Int32) &&& 31).toUInt32).toInt32) &&& (7 : Int32)))] [])
        refine Goes.on (T' := s₁) (g' := (mkF m 30 #[.val (.int y), .val (.int (((y.toUInt32 >>> ((16 : Int32) &&& 31).toUInt32).toInt32) &&& (7 : Int32)))] [(.int (105 : Int32))])) ?_ (fun t_ k_ => XS.bipush X0.here hx rfl (hb hby d1_28) k_)
        rw [hWd]
        exact Goes.retn X0 (v := some (.int (nar .char (105 : Int32)))) (fun fs hr => retN X0 hx (t := .char) Bd.returns (by simp) (hb hby d1_30) hr) (fun h => by rw [Bd.returns] at h; cases h) Bd.notSynchronized (by decide) (by decide) (by rw [e0]; exact ⟨_, rfl, N0, rfl, own_ncb _⟩)
    · show Goes p e below W s₁ (mkF m 20 #[.val (.int y), .val (.int (((y.toUInt32 >>> ((16 : Int32) &&& 31).toUInt32).toInt32) &&& (7 : Int32)))] [])
      refine Goes.on (T' := s₁) (g' := (mkF m 22 #[.val (.int y), .val (.int (((y.toUInt32 >>> ((16 : Int32) &&& 31).toUInt32).toInt32) &&& (7 : Int32)))] [(.int (58 : Int32))])) ?_ (fun t_ k_ => XS.bipush X0.here hx rfl (hb hby d1_20) k_)
      rw [hWd]
      exact Goes.retn X0 (v := some (.int (nar .char (58 : Int32)))) (fun fs hr => retN X0 hx (t := .char) Bd.returns (by simp) (hb hby d1_22) hr) (fun h => by rw [Bd.returns] at h; cases h) Bd.notSynchronized (by decide) (by decide) (by rw [e0]; exact ⟨_, rfl, N0, rfl, own_ncb _⟩)
  · show Goes p e below W s₁ (mkF m 12 #[.val (.int y), .val (.int (((y.toUInt32 >>> ((16 : Int32) &&& 31).toUInt32).toInt32) &&& (7 : Int32)))] [])
    refine Goes.on (T' := s₁) (g' := (mkF m 14 #[.val (.int y), .val (.int (((y.toUInt32 >>> ((16 : Int32) &&& 31).toUInt32).toInt32) &&& (7 : Int32)))] [(.int (47 : Int32))])) ?_ (fun t_ k_ => XS.bipush X0.here hx rfl (hb hby d1_12) k_)
    rw [hWd]
    exact Goes.retn X0 (v := some (.int (nar .char (47 : Int32)))) (fun fs hr => retN X0 hx (t := .char) Bd.returns (by simp) (hb hby d1_14) hr) (fun h => by rw [Bd.returns] at h; cases h) Bd.notSynchronized (by decide) (by decide) (by rw [e0]; exact ⟨_, rfl, N0, rfl, own_ncb _⟩)
def QEM (Z : State) (x t : Addr) (kt : ClassId) (z : Int32) (vs : List Value) (h0 : Heap) (n0 : Nat) (v : Option Value) (h : Heap) (L : List Loc) : Prop := v = some (.int (if z = 0 then 1 else 0)) ∧ Fr n0 L ∧ h = h0
set_option maxRecDepth 65536 in
set_option maxHeartbeats 40000000 in
theorem rmEM (l : Launch) (Z : State) (a0 : Array Value) (hw : ∀ d ∈ tables_1, d.before a0 Z = true) (ws : List Jvm.Cond) (x t : Addr) (kt : ClassId) (z : Int32) (vs : List Value) (h0 : Heap) (n0 : Nat) (Z0 : n0 ≤ h0.size) (FV : Fld Z h0 x "java/lang/String" "value" "[B" (.ref t)) (B : Arv Z h0 t kt .byte z vs (.int 0)) :
    MetFree l (⟨"java/lang/String", "isEmpty", "()Z"⟩ : MethodName) (head1 (Jvm.Cond.code (⟨"java/lang/String", "isEmpty", "()Z"⟩ : MethodName) jdk_42_method_55_code 1 (some .boolean) :: ws) ({ frames := 0, cells := 0, slots := 0, locals := 0 } : Room)) (fun a_ U => a_ = #[(.ref x)] ∧ Z.Warmed39 U.vm ∧ U.heap = h0) (fun _ _ _ _ _ => True) (fun _ U o U' => ∃ v L, o = .returned v ∧ QEM Z x t kt z vs h0 n0 v U'.heap L ∧ FrameEnd U o U' L ({ frames := 0, cells := 0, slots := 0, locals := 0 } : Room).cells ({ frames := 0, cells := 0, slots := 0, locals := 0 } : Room).slots) := by
  refine MetFree.of_bodySF (plainFor_of_name pn_1) hisR ?_
  intro p e s m args below meth c s₁ Bd hml0 hP hK
  obtain ⟨rfl, hZ, hh⟩ := hP
  have hx := Bd.exec
  have hby := Bd.bytes
  have hml : c.maxLocals = 1 := hml0
  have hown : s.vm.findClass "java/lang/String" = some m.cls := findClass_of_methodNamed Bd.named
  have hnm := (name_of_methodNamed Bd.named Bd.method).1
  have X0 : Stand p l e ({ frames := 0, cells := 0, slots := 0, locals := 0 } : Room) s m #[(.ref x)] below meth c s₁ [] 0 0 := Stand.of_body Bd
  have e0 : s₁.heap = h0 := by rw [← hh, Bd.state]; rfl
  have N0 := Fr.nil n0
  refine Goes.done ?_
  obtain ⟨W, hWd⟩ : ∃ W : State → Prop, W = EndW s below (QEM Z x t kt z vs h0 n0) ({ frames := 0, cells := 0, slots := 0, locals := 0 } : Room).cells ({ frames := 0, cells := 0, slots := 0, locals := 0 } : Room).slots := ⟨_, rfl⟩
  rw [← hWd]
  have hef : entryFrame m #[(.ref x)] 1 = (mkF m 0 #[.val (.ref x)] []) := by first | (simp [entryFrame, mkF, argsToLocals, Value.category]; done) | rfl
  rw [hef]
  obtain ⟨cA, A1, -, S1, M1, H1, -⟩ := id B
  refine Goes.on (T' := s₁) (g' := (mkF m 1 #[.val (.ref x)] [(.ref x)])) ?_ (fun t_ k_ => XS.aloadN X0.here hx rfl (hb hby d6_0) rfl rfl k_)
  obtain ⟨T1, X1, e1, st1⟩ := getF X0 hx hZ hown (host := "") (Or.inl (hw _ (List.mem_of_getElem? (i := 25) rfl))) Via.refl e0 FV (g := (mkF m 1 #[.val (.ref x)] [(.ref x)])) rfl rfl (hb hby d6_1)
  refine Goes.on (T' := T1) (g' := (mkF m 4 #[.val (.ref x)] [(.ref t)])) ?_ st1
  refine Goes.on (T' := T1) (g' := (mkF m 5 #[.val (.ref x)] [(.int cA.slots.size.toInt32)])) ?_ (X1.arraylength hx (by rw [e1]; exact A1.1) (State.isArrayOf_alike hZ.alike A1.2.1) (g := (mkF m 4 #[.val (.ref x)] [(.ref t)])) rfl rfl (hb hby d6_4))
  rw [len_of S1 M1]
  refine Goes.ifN X1 hx rfl (pc0 := 5) (pc' := 12) rfl (hb hby d6_5) rfl (by decide) (by decide) (P := z = (0 : Int32)) (ifc_ne _ _) (fun hc5 => ?_) (fun hc5 => ?_)
  · show Goes p e below W T1 (mkF m 12 #[.val (.ref x)] [])
    refine Goes.on (T' := T1) (g' := (mkF m 13 #[.val (.ref x)] [(.int (0 : Int32))])) ?_ (fun t_ k_ => XS.iconst X1.here hx rfl (hb hby d6_12) k_)
    rw [hWd]
    exact Goes.retn X1 (v := some (.int (nar .boolean (0 : Int32)))) (fun fs hr => retN X1 hx (t := .boolean) Bd.returns (by simp) (hb hby d6_13) hr) (fun h => by rw [Bd.returns] at h; cases h) Bd.notSynchronized (by decide) (by decide) (by rw [e1]; exact ⟨by rw [if_neg hc5]; rfl, N0, rfl⟩)
  · show Goes p e below W T1 (mkF m 8 #[.val (.ref x)] [])
    refine Goes.on (T' := T1) (g' := (mkF m 9 #[.val (.ref x)] [(.int (1 : Int32))])) ?_ (fun t_ k_ => XS.iconst X1.here hx rfl (hb hby d6_8) k_)
    refine Goes.on (T' := T1) (g' := (mkF m 13 #[.val (.ref x)] [(.int (1 : Int32))])) ?_ (fun t_ k_ => XS.goto X1.here hx rfl (pc0 := 9) (pc' := 13) rfl (hb hby d6_9) (by decide) (by decide) k_)
    rw [hWd]
    exact Goes.retn X1 (v := some (.int (nar .boolean (1 : Int32)))) (fun fs hr => retN X1 hx (t := .boolean) Bd.returns (by simp) (hb hby d6_13) hr) (fun h => by rw [Bd.returns] at h; cases h) Bd.notSynchronized (by decide) (by decide) (by rw [e1]; exact ⟨by rw [if_pos hc5]; rfl, N0, rfl⟩)
def QLA (Z : State) (x : Addr) (cd zc : Int32) (h0 : Heap) (n0 : Nat) (v : Option Value) (h : Heap) (L : List Loc) : Prop := v = some (.int (if cd = 0 then 1 else 0)) ∧ Fr n0 L ∧ h = h0
set_option maxRecDepth 65536 in
set_option maxHeartbeats 40000000 in
theorem rmLA (l : Launch) (Z : State) (a0 : Array Value) (hw : ∀ d ∈ tables_1, d.before a0 Z = true) (ws : List Jvm.Cond) (x : Addr) (cd zc : Int32) (h0 : Heap) (n0 : Nat) (Z0 : n0 ≤ h0.size) (FC : Fld Z h0 x "java/lang/String" "coder" "B" (.int cd)) (CS : Sta Z Z.heap "java/lang/String" "COMPACT_STRINGS" "Z" (.int zc)) (hzc : ¬ zc = (0 : Int32)) (X0_ : Old Z n0 h0) :
    MetFree l (⟨"java/lang/String", "isLatin1", "()Z"⟩ : MethodName) (head1 (Jvm.Cond.code (⟨"java/lang/String", "isLatin1", "()Z"⟩ : MethodName) jdk_42_method_154_code 1 (some .boolean) :: ws) ({ frames := 0, cells := 0, slots := 0, locals := 0 } : Room)) (fun a_ U => a_ = #[(.ref x)] ∧ Z.Warmed39 U.vm ∧ U.heap = h0) (fun _ _ _ _ _ => True) (fun _ U o U' => ∃ v L, o = .returned v ∧ QLA Z x cd zc h0 n0 v U'.heap L ∧ FrameEnd U o U' L ({ frames := 0, cells := 0, slots := 0, locals := 0 } : Room).cells ({ frames := 0, cells := 0, slots := 0, locals := 0 } : Room).slots) := by
  refine MetFree.of_bodySF (plainFor_of_name pn_1) hisR ?_
  intro p e s m args below meth c s₁ Bd hml0 hP hK
  obtain ⟨rfl, hZ, hh⟩ := hP
  have hx := Bd.exec
  have hby := Bd.bytes
  have hml : c.maxLocals = 1 := hml0
  have hown : s.vm.findClass "java/lang/String" = some m.cls := findClass_of_methodNamed Bd.named
  have hnm := (name_of_methodNamed Bd.named Bd.method).1
  have X0 : Stand p l e ({ frames := 0, cells := 0, slots := 0, locals := 0 } : Room) s m #[(.ref x)] below meth c s₁ [] 0 0 := Stand.of_body Bd
  have e0 : s₁.heap = h0 := by rw [← hh, Bd.state]; rfl
  have N0 := Fr.nil n0
  refine Goes.done ?_
  obtain ⟨W, hWd⟩ : ∃ W : State → Prop, W = EndW s below (QLA Z x cd zc h0 n0) ({ frames := 0, cells := 0, slots := 0, locals := 0 } : Room).cells ({ frames := 0, cells := 0, slots := 0, locals := 0 } : Room).slots := ⟨_, rfl⟩
  rw [← hWd]
  have hef : entryFrame m #[(.ref x)] 1 = (mkF m 0 #[.val (.ref x)] []) := by first | (simp [entryFrame, mkF, argsToLocals, Value.category]; done) | rfl
  rw [hef]
  obtain ⟨T1, X1, e1, st1⟩ := getS2 X0 hx hZ hown (host := "") (Or.inl (hw _ (List.mem_of_getElem? (i := 36) rfl))) Via.refl e0 (CS.ext X0_.2) (g := (mkF m 0 #[.val (.ref x)] [])) rfl (hb hby d12_0)
  refine Goes.on (T' := T1) (g' := (mkF m 3 #[.val (.ref x)] [(.int zc)])) ?_ st1
  refine Goes.on (T' := T1) (g' := (mkF m 6 #[.val (.ref x)] [])) ?_ (fun t_ k_ => XS.ifNo X1.here hx rfl (hb hby d12_3) rfl ((if0 _ _).trans (feq hzc).1) k_)
  refine Goes.on (T' := T1) (g' := (mkF m 7 #[.val (.ref x)] [(.ref x)])) ?_ (fun t_ k_ => XS.aloadN X1.here hx rfl (hb hby d12_6) rfl rfl k_)
  obtain ⟨T2, X2, e2, st2⟩ := getF X1 hx hZ hown (host := "") (Or.inl (hw _ (List.mem_of_getElem? (i := 26) rfl))) Via.refl e1 FC (g := (mkF m 7 #[.val (.ref x)] [(.ref x)])) rfl rfl (hb hby d12_7)
  refine Goes.on (T' := T2) (g' := (mkF m 10 #[.val (.ref x)] [(.int cd)])) ?_ st2
  refine Goes.ifN X2 hx rfl (pc0 := 10) (pc' := 17) rfl (hb hby d12_10) rfl (by decide) (by decide) (P := cd = (0 : Int32)) (ifc_ne _ _) (fun hc10 => ?_) (fun hc10 => ?_)
  · show Goes p e below W T2 (mkF m 17 #[.val (.ref x)] [])
    refine Goes.on (T' := T2) (g' := (mkF m 18 #[.val (.ref x)] [(.int (0 : Int32))])) ?_ (fun t_ k_ => XS.iconst X2.here hx rfl (hb hby d12_17) k_)
    rw [hWd]
    exact Goes.retn X2 (v := some (.int (nar .boolean (0 : Int32)))) (fun fs hr => retN X2 hx (t := .boolean) Bd.returns (by simp) (hb hby d12_18) hr) (fun h => by rw [Bd.returns] at h; cases h) Bd.notSynchronized (by decide) (by decide) (by rw [e2]; exact ⟨by rw [if_neg hc10]; rfl, N0, rfl⟩)
  · show Goes p e below W T2 (mkF m 13 #[.val (.ref x)] [])
    refine Goes.on (T' := T2) (g' := (mkF m 14 #[.val (.ref x)] [(.int (1 : Int32))])) ?_ (fun t_ k_ => XS.iconst X2.here hx rfl (hb hby d12_13) k_)
    refine Goes.on (T' := T2) (g' := (mkF m 18 #[.val (.ref x)] [(.int (1 : Int32))])) ?_ (fun t_ k_ => XS.goto X2.here hx rfl (pc0 := 14) (pc' := 18) rfl (hb hby d12_14) (by decide) (by decide) k_)
    rw [hWd]
    exact Goes.retn X2 (v := some (.int (nar .boolean (1 : Int32)))) (fun fs hr => retN X2 hx (t := .boolean) Bd.returns (by simp) (hb hby d12_18) hr) (fun h => by rw [Bd.returns] at h; cases h) Bd.notSynchronized (by decide) (by decide) (by rw [e2]; exact ⟨by rw [if_pos hc10]; rfl, N0, rfl⟩)
def QCO (Z : State) (x : Addr) (cd zc : Int32) (h0 : Heap) (n0 : Nat) (v : Option Value) (h : Heap) (L : List Loc) : Prop := v = some (.int (cd)) ∧ Fr n0 L ∧ h = h0
set_option maxRecDepth 65536 in
set_option maxHeartbeats 40000000 in
theorem rmCO (l : Launch) (Z : State) (a0 : Array Value) (hw : ∀ d ∈ tables_1, d.before a0 Z = true) (ws : List Jvm.Cond) (x : Addr) (cd zc : Int32) (h0 : Heap) (n0 : Nat) (Z0 : n0 ≤ h0.size) (FC : Fld Z h0 x "java/lang/String" "coder" "B" (.int cd)) (hcd : cd = 0 ∨ cd = 1) (CS : Sta Z Z.heap "java/lang/String" "COMPACT_STRINGS" "Z" (.int zc)) (hzc : ¬ zc = (0 : Int32)) (X0_ : Old Z n0 h0) :
    MetFree l (⟨"java/lang/String", "coder", "()B"⟩ : MethodName) (head1 (Jvm.Cond.code (⟨"java/lang/String", "coder", "()B"⟩ : MethodName) jdk_42_method_152_code 1 (some .byte) :: ws) ({ frames := 0, cells := 0, slots := 0, locals := 0 } : Room)) (fun a_ U => a_ = #[(.ref x)] ∧ Z.Warmed39 U.vm ∧ U.heap = h0) (fun _ _ _ _ _ => True) (fun _ U o U' => ∃ v L, o = .returned v ∧ QCO Z x cd zc h0 n0 v U'.heap L ∧ FrameEnd U o U' L ({ frames := 0, cells := 0, slots := 0, locals := 0 } : Room).cells ({ frames := 0, cells := 0, slots := 0, locals := 0 } : Room).slots) := by
  refine MetFree.of_bodySF (plainFor_of_name pn_1) hisR ?_
  intro p e s m args below meth c s₁ Bd hml0 hP hK
  obtain ⟨rfl, hZ, hh⟩ := hP
  have hx := Bd.exec
  have hby := Bd.bytes
  have hml : c.maxLocals = 1 := hml0
  have hown : s.vm.findClass "java/lang/String" = some m.cls := findClass_of_methodNamed Bd.named
  have hnm := (name_of_methodNamed Bd.named Bd.method).1
  have X0 : Stand p l e ({ frames := 0, cells := 0, slots := 0, locals := 0 } : Room) s m #[(.ref x)] below meth c s₁ [] 0 0 := Stand.of_body Bd
  have e0 : s₁.heap = h0 := by rw [← hh, Bd.state]; rfl
  have N0 := Fr.nil n0
  refine Goes.done ?_
  obtain ⟨W, hWd⟩ : ∃ W : State → Prop, W = EndW s below (QCO Z x cd zc h0 n0) ({ frames := 0, cells := 0, slots := 0, locals := 0 } : Room).cells ({ frames := 0, cells := 0, slots := 0, locals := 0 } : Room).slots := ⟨_, rfl⟩
  rw [← hWd]
  have hef : entryFrame m #[(.ref x)] 1 = (mkF m 0 #[.val (.ref x)] []) := by first | (simp [entryFrame, mkF, argsToLocals, Value.category]; done) | rfl
  rw [hef]
  obtain ⟨T1, X1, e1, st1⟩ := getS2 X0 hx hZ hown (host := "") (Or.inl (hw _ (List.mem_of_getElem? (i := 36) rfl))) Via.refl e0 (CS.ext X0_.2) (g := (mkF m 0 #[.val (.ref x)] [])) rfl (hb hby d14_0)
  refine Goes.on (T' := T1) (g' := (mkF m 3 #[.val (.ref x)] [(.int zc)])) ?_ st1
  refine Goes.on (T' := T1) (g' := (mkF m 6 #[.val (.ref x)] [])) ?_ (fun t_ k_ => XS.ifNo X1.here hx rfl (hb hby d14_3) rfl ((if0 _ _).trans (feq hzc).1) k_)
  refine Goes.on (T' := T1) (g' := (mkF m 7 #[.val (.ref x)] [(.ref x)])) ?_ (fun t_ k_ => XS.aloadN X1.here hx rfl (hb hby d14_6) rfl rfl k_)
  obtain ⟨T2, X2, e2, st2⟩ := getF X1 hx hZ hown (host := "") (Or.inl (hw _ (List.mem_of_getElem? (i := 26) rfl))) Via.refl e1 FC (g := (mkF m 7 #[.val (.ref x)] [(.ref x)])) rfl rfl (hb hby d14_7)
  refine Goes.on (T' := T2) (g' := (mkF m 10 #[.val (.ref x)] [(.int cd)])) ?_ st2
  refine Goes.on (T' := T2) (g' := (mkF m 14 #[.val (.ref x)] [(.int cd)])) ?_ (fun t_ k_ => XS.goto X2.here hx rfl (pc0 := 10) (pc' := 14) rfl (hb hby d14_10) (by decide) (by decide) k_)
  rw [hWd]
  exact Goes.retn X2 (v := some (.int (nar .byte cd))) (fun fs hr => retN X2 hx (t := .byte) Bd.returns (by simp) (hb hby d14_14) hr) (fun h => by rw [Bd.returns] at h; cases h) Bd.notSynchronized (by decide) (by decide) (by rw [e2]; exact ⟨by rcases hcd with q | q <;> rw [q] <;> rfl, N0, rfl⟩)
def QSL (Z : State) (x t : Addr) (kt : ClassId) (cs : List Int32) (cd : Int32) (zc : Int32) (h0 : Heap) (n0 : Nat) (v : Option Value) (h : Heap) (L : List Loc) : Prop := v = some (.int ((Int32.ofNat cs.length))) ∧ Fr n0 L ∧ h = h0
set_option maxRecDepth 65536 in
set_option maxHeartbeats 40000000 in
theorem rmSL (l : Launch) (Z : State) (a0 : Array Value) (hw : ∀ d ∈ tables_1, d.before a0 Z = true) (ws : List Jvm.Cond) (x t : Addr) (kt : ClassId) (cs : List Int32) (cd : Int32) (zc : Int32) (h0 : Heap) (n0 : Nat) (Z0 : n0 ≤ h0.size) (TX : Txt Z h0 x t kt cs cd) (CS : Sta Z Z.heap "java/lang/String" "COMPACT_STRINGS" "Z" (.int zc)) (hzc : ¬ zc = (0 : Int32)) (hp : ∀ c ∈ cs, ¬ c < 0 ∧ ¬ (65535 : Int32) < c) (hl : cs.length ≤ 16) (hl0 : 0 < cs.length) (X0_ : Old Z n0 h0) :
    MetFree l (⟨"java/lang/String", "length", "()I"⟩ : MethodName) (head1 (Jvm.Cond.code (⟨"java/lang/String", "length", "()I"⟩ : MethodName) jdk_42_method_54_code 1 (some .int) :: ws) ({ frames := 1, cells := 0, slots := 0, locals := 13 } : Room)) (fun a_ U => a_ = #[(.ref x)] ∧ Z.Warmed39 U.vm ∧ U.heap = h0) (fun _ _ _ _ _ => True) (fun _ U o U' => ∃ v L, o = .returned v ∧ QSL Z x t kt cs cd zc h0 n0 v U'.heap L ∧ FrameEnd U o U' L ({ frames := 1, cells := 0, slots := 0, locals := 13 } : Room).cells ({ frames := 1, cells := 0, slots := 0, locals := 13 } : Room).slots) := by
  refine MetFree.of_bodySF (plainFor_of_name pn_1) hisR ?_
  intro p e s m args below meth c s₁ Bd hml0 hP hK
  obtain ⟨rfl, hZ, hh⟩ := hP
  have hx := Bd.exec
  have hby := Bd.bytes
  have hml : c.maxLocals = 1 := hml0
  have hown : s.vm.findClass "java/lang/String" = some m.cls := findClass_of_methodNamed Bd.named
  have hnm := (name_of_methodNamed Bd.named Bd.method).1
  have X0 : Stand p l e ({ frames := 1, cells := 0, slots := 0, locals := 13 } : Room) s m #[(.ref x)] below meth c s₁ [] 0 0 := Stand.of_body Bd
  have e0 : s₁.heap = h0 := by rw [← hh, Bd.state]; rfl
  have N0 := Fr.nil n0
  refine Goes.done ?_
  obtain ⟨W, hWd⟩ : ∃ W : State → Prop, W = EndW s below (QSL Z x t kt cs cd zc h0 n0) ({ frames := 1, cells := 0, slots := 0, locals := 13 } : Room).cells ({ frames := 1, cells := 0, slots := 0, locals := 13 } : Room).slots := ⟨_, rfl⟩
  rw [← hWd]
  have hef : entryFrame m #[(.ref x)] 1 = (mkF m 0 #[.val (.ref x)] []) := by first | (simp [entryFrame, mkF, argsToLocals, Value.category]; done) | rfl
  rw [hef]
  obtain ⟨E, FC, FV, BY⟩ := id TX
  have hcd : cd = 0 ∨ cd = 1 := BY.imp (fun q => q.1) (fun q => q.1)
  obtain ⟨zz, vv, Bz, ez⟩ : ∃ (zz : Int32) (vv : List Value), Arv Z h0 t kt .byte zz vv (.int 0) ∧ zz >>> (cd &&& 31) = (Int32.ofNat cs.length) := by
    rcases id BY with ⟨q1, -, q2⟩ | ⟨q1, -, q2⟩
    · exact ⟨_, _, q2, by rw [q1]; exact own_shr0 _⟩
    · exact ⟨_, _, q2, by rw [q1]; exact own_hlf hl⟩
  obtain ⟨cA, A1, -, S1, M1, H1, -⟩ := id Bz
  refine Goes.on (T' := s₁) (g' := (mkF m 1 #[.val (.ref x)] [(.ref x)])) ?_ (fun t_ k_ => XS.aloadN X0.here hx rfl (hb hby d13_0) rfl rfl k_)
  obtain ⟨T1, X1, e1, st1⟩ := getF X0 hx hZ hown (host := "") (Or.inl (hw _ (List.mem_of_getElem? (i := 25) rfl))) Via.refl e0 FV (g := (mkF m 1 #[.val (.ref x)] [(.ref x)])) rfl rfl (hb hby d13_1)
  refine Goes.on (T' := T1) (g' := (mkF m 4 #[.val (.ref x)] [(.ref t)])) ?_ st1
  refine Goes.on (T' := T1) (g' := (mkF m 5 #[.val (.ref x)] [(.int cA.slots.size.toInt32)])) ?_ (X1.arraylength hx (by rw [e1]; exact A1.1) (State.isArrayOf_alike hZ.alike A1.2.1) (g := (mkF m 4 #[.val (.ref x)] [(.ref t)])) rfl rfl (hb hby d13_4))
  rw [len_of S1 M1]
  refine Goes.on (T' := T1) (g' := (mkF m 6 #[.val (.ref x)] [(.ref x), (.int zz)])) ?_ (fun t_ k_ => XS.aloadN X1.here hx rfl (hb hby d13_5) rfl rfl k_)
  obtain ⟨cq2, kq2, q2a, q2b, q2c⟩ := isOf hZ e1 E
  obtain ⟨_, _, ⟨T2, Lq_2, kq_2, nq_2⟩, -, X2, ⟨Lc2, hQ2, l2, y2, z2⟩, st2⟩ := X1.virtualBack hx (y := (⟨"java/lang/String", "coder", "()B"⟩ : MethodName)) (z := (⟨"java/lang/String", "coder", "()B"⟩ : MethodName)) hown (mvT hZ (hw _ (List.mem_of_getElem? (i := 67) rfl))) (mvT hZ (hw _ (List.mem_of_getElem? (i := 68) rfl))) (notFace_of_selects (args := #[]) (mvT hZ (hw _ (List.mem_of_getElem? (i := 70) rfl)))) (mvT hZ (hw _ (List.mem_of_getElem? (i := 70) rfl))) (mvT hZ (hw _ (List.mem_of_getElem? (i := 69) rfl))) (by decide) (backOf (W := 1) (rmCO l Z a0 hw [] x cd zc h0 n0 Z0 FC hcd CS hzc X0_) hZ (hw _ (List.mem_of_getElem? (i := 71) rfl)) (hw _ (List.mem_of_getElem? (i := 7) rfl)) (by decide) (by decide)) q2a q2c (g := (mkF m 6 #[.val (.ref x)] [(.ref x), (.int zz)])) rfl (by rw [hml]; rfl) (Steps.refl _) (argsL := []) (rest := [(.int zz)]) (lenOf pd_8 rfl) rfl (by show 2 * 0 + _ ≤ _; exact Nat.le_of_eq rfl) (hb hby d13_6) (fun _ _ => ⟨rfl, e1, (by decide : 0 + 0 ≤ _), (by decide : 0 + 0 ≤ _)⟩)
  dsimp only [Pt.U, Pt.locs, Pt.cells, Pt.slots] at X2 l2 y2 z2 st2 hQ2
  rw [l2, y2, z2] at X2
  change Stand p l e _ _ m _ below meth c T2 _ 0 0 at X2
  obtain ⟨rfl, N2q, eh2⟩ := hQ2
  have N2 := Fr.app N0 N2q
  refine Goes.on (T' := T2) (g' := (mkF m 9 #[.val (.ref x)] [(.int cd), (.int zz)])) ?_ (fun t => st2.trans)
  refine Goes.on (T' := T2) (g' := (mkF m 10 #[.val (.ref x)] [(.int (zz >>> (cd &&& 31)))])) ?_ (fun t_ k_ => XS.ishr X2.here hx rfl (hb hby d13_9) rfl k_)
  rw [hWd]
  exact Goes.retn X2 (v := some (.int (zz >>> (cd &&& 31)))) (fun fs hr => retI X2 hx Bd.returns (hb hby d13_10) hr) (fun h => by rw [Bd.returns] at h; cases h) Bd.notSynchronized (by decide) (by decide) (by rw [eh2]; exact ⟨by rw [ez], N2, rfl⟩)
def QCE (Z : State)  (h0 : Heap) (n0 : Nat) (v : Option Value) (h : Heap) (L : List Loc) : Prop := v = some (.int (1)) ∧ Fr n0 L ∧ h = h0
set_option maxRecDepth 65536 in
set_option maxHeartbeats 40000000 in
theorem rmCE (l : Launch) (Z : State) (a0 : Array Value) (hw : ∀ d ∈ tables_1, d.before a0 Z = true) (ws : List Jvm.Cond)  (h0 : Heap) (n0 : Nat) (Z0 : n0 ≤ h0.size)  :
    MetFree l (⟨"java/lang/StringLatin1", "canEncode", "(I)Z"⟩ : MethodName) (head1 (Jvm.Cond.code (⟨"java/lang/StringLatin1", "canEncode", "(I)Z"⟩ : MethodName) jdk_43_method_4_code 1 (some .boolean) :: ws) ({ frames := 0, cells := 0, slots := 0, locals := 0 } : Room)) (fun a_ U => a_ = #[(.int (47 : Int32))] ∧ Z.Warmed39 U.vm ∧ U.heap = h0) (fun _ _ _ _ _ => True) (fun _ U o U' => ∃ v L, o = .returned v ∧ QCE Z  h0 n0 v U'.heap L ∧ FrameEnd U o U' L ({ frames := 0, cells := 0, slots := 0, locals := 0 } : Room).cells ({ frames := 0, cells := 0, slots := 0, locals := 0 } : Room).slots) := by
  refine MetFree.of_bodySF (plainFor_of_name pn_3) hisR ?_
  intro p e s m args below meth c s₁ Bd hml0 hP hK
  obtain ⟨rfl, hZ, hh⟩ := hP
  have hx := Bd.exec
  have hby := Bd.bytes
  have hml : c.maxLocals = 1 := hml0
  have hown : s.vm.findClass "java/lang/StringLatin1" = some m.cls := findClass_of_methodNamed Bd.named
  have hnm := (name_of_methodNamed Bd.named Bd.method).1
  have X0 : Stand p l e ({ frames := 0, cells := 0, slots := 0, locals := 0 } : Room) s m #[(.int (47 : Int32))] below meth c s₁ [] 0 0 := Stand.of_body Bd
  have e0 : s₁.heap = h0 := by rw [← hh, Bd.state]; rfl
  have N0 := Fr.nil n0
  refine Goes.done ?_
  obtain ⟨W, hWd⟩ : ∃ W : State → Prop, W = EndW s below (QCE Z  h0 n0) ({ frames := 0, cells := 0, slots := 0, locals := 0 } : Room).cells ({ frames := 0, cells := 0, slots := 0, locals := 0 } : Room).slots := ⟨_, rfl⟩
  rw [← hWd]
  have hef : entryFrame m #[(.int (47 : Int32))] 1 = (mkF m 0 #[.val (.int (47 : Int32))] []) := by first | (simp [entryFrame, mkF, argsToLocals, Value.category]; done) | rfl
  rw [hef]
  refine Goes.on (T' := s₁) (g' := (mkF m 1 #[.val (.int (47 : Int32))] [(.int (47 : Int32))])) ?_ (fun t_ k_ => XS.iloadN X0.here hx rfl (hb hby d16_0) rfl k_)
  refine Goes.on (T' := s₁) (g' := (mkF m 4 #[.val (.int (47 : Int32))] [])) ?_ (fun t_ k_ => XS.ifNo X0.here hx rfl (hb hby d16_1) rfl (by decide) k_)
  refine Goes.on (T' := s₁) (g' := (mkF m 5 #[.val (.int (47 : Int32))] [(.int (47 : Int32))])) ?_ (fun t_ k_ => XS.iloadN X0.here hx rfl (hb hby d16_4) rfl k_)
  refine Goes.on (T' := s₁) (g' := (mkF m 8 #[.val (.int (47 : Int32))] [(.int (255 : Int32)), (.int (47 : Int32))])) ?_ (fun t_ k_ => XS.sipush X0.here hx rfl (hb hby d16_5) k_)
  refine Goes.on (T' := s₁) (g' := (mkF m 11 #[.val (.int (47 : Int32))] [])) ?_ (fun t_ k_ => XS.icmpNo X0.here hx rfl (hb hby d16_8) rfl (by decide) k_)
  refine Goes.on (T' := s₁) (g' := (mkF m 12 #[.val (.int (47 : Int32))] [(.int (1 : Int32))])) ?_ (fun t_ k_ => XS.iconst X0.here hx rfl (hb hby d16_11) k_)
  refine Goes.on (T' := s₁) (g' := (mkF m 16 #[.val (.int (47 : Int32))] [(.int (1 : Int32))])) ?_ (fun t_ k_ => XS.goto X0.here hx rfl (pc0 := 12) (pc' := 16) rfl (hb hby d16_12) (by decide) (by decide) k_)
  rw [hWd]
  exact Goes.retn X0 (v := some (.int (nar .boolean (1 : Int32)))) (fun fs hr => retN X0 hx (t := .boolean) Bd.returns (by simp) (hb hby d16_16) hr) (fun h => by rw [Bd.returns] at h; cases h) Bd.notSynchronized (by decide) (by decide) (by rw [e0]; exact ⟨rfl, N0, rfl⟩)
def QMX (Z : State)  (h0 : Heap) (n0 : Nat) (v : Option Value) (h : Heap) (L : List Loc) : Prop := v = some (.int (0)) ∧ Fr n0 L ∧ h = h0
set_option maxRecDepth 65536 in
set_option maxHeartbeats 40000000 in
theorem rmMX (l : Launch) (Z : State) (a0 : Array Value) (hw : ∀ d ∈ tables_1, d.before a0 Z = true) (ws : List Jvm.Cond)  (h0 : Heap) (n0 : Nat) (Z0 : n0 ≤ h0.size)  :
    MetFree l (⟨"java/lang/Math", "max", "(II)I"⟩ : MethodName) (head1 (Jvm.Cond.code (⟨"java/lang/Math", "max", "(II)I"⟩ : MethodName) jdk_29_method_65_code 2 (some .int) :: ws) ({ frames := 0, cells := 0, slots := 0, locals := 0 } : Room)) (fun a_ U => a_ = #[(.int (0 : Int32)), (.int (0 : Int32))] ∧ Z.Warmed39 U.vm ∧ U.heap = h0) (fun _ _ _ _ _ => True) (fun _ U o U' => ∃ v L, o = .returned v ∧ QMX Z  h0 n0 v U'.heap L ∧ FrameEnd U o U' L ({ frames := 0, cells := 0, slots := 0, locals := 0 } : Room).cells ({ frames := 0, cells := 0, slots := 0, locals := 0 } : Room).slots) := by
  refine MetFree.of_bodySF (show plainFor (⟨"java/lang/Math", "max", "(II)I"⟩ : MethodName) = true by decide +kernel) hisR ?_
  intro p e s m args below meth c s₁ Bd hml0 hP hK
  obtain ⟨rfl, hZ, hh⟩ := hP
  have hx := Bd.exec
  have hby := Bd.bytes
  have hml : c.maxLocals = 2 := hml0
  have hown : s.vm.findClass "java/lang/Math" = some m.cls := findClass_of_methodNamed Bd.named
  have hnm := (name_of_methodNamed Bd.named Bd.method).1
  have X0 : Stand p l e ({ frames := 0, cells := 0, slots := 0, locals := 0 } : Room) s m #[(.int (0 : Int32)), (.int (0 : Int32))] below meth c s₁ [] 0 0 := Stand.of_body Bd
  have e0 : s₁.heap = h0 := by rw [← hh, Bd.state]; rfl
  have N0 := Fr.nil n0
  refine Goes.done ?_
  obtain ⟨W, hWd⟩ : ∃ W : State → Prop, W = EndW s below (QMX Z  h0 n0) ({ frames := 0, cells := 0, slots := 0, locals := 0 } : Room).cells ({ frames := 0, cells := 0, slots := 0, locals := 0 } : Room).slots := ⟨_, rfl⟩
  rw [← hWd]
  have hef : entryFrame m #[(.int (0 : Int32)), (.int (0 : Int32))] 2 = (mkF m 0 #[.val (.int (0 : Int32)), .val (.int (0 : Int32))] []) := by first | (simp [entryFrame, mkF, argsToLocals, Value.category]; done) | rfl
  rw [hef]
  refine Goes.on (T' := s₁) (g' := (mkF m 1 #[.val (.int (0 : Int32)), .val (.int (0 : Int32))] [(.int (0 : Int32))])) ?_ (fun t_ k_ => XS.iloadN X0.here hx rfl (hb hby d17_0) rfl k_)
  refine Goes.on (T' := s₁) (g' := (mkF m 2 #[.val (.int (0 : Int32)), .val (.int (0 : Int32))] [(.int (0 : Int32)), (.int (0 : Int32))])) ?_ (fun t_ k_ => XS.iloadN X0.here hx rfl (hb hby d17_1) rfl k_)
  refine Goes.on (T' := s₁) (g' := (mkF m 5 #[.val (.int (0 : Int32)), .val (.int (0 : Int32))] [])) ?_ (fun t_ k_ => XS.icmpNo X0.here hx rfl (hb hby d17_2) rfl (by decide) k_)
  refine Goes.on (T' := s₁) (g' := (mkF m 6 #[.val (.int (0 : Int32)), .val (.int (0 : Int32))] [(.int (0 : Int32))])) ?_ (fun t_ k_ => XS.iloadN X0.here hx rfl (hb hby d17_5) rfl k_)
  refine Goes.on (T' := s₁) (g' := (mkF m 10 #[.val (.int (0 : Int32)), .val (.int (0 : Int32))] [(.int (0 : Int32))])) ?_ (fun t_ k_ => XS.goto X0.here hx rfl (pc0 := 6) (pc' := 10) rfl (hb hby d17_6) (by decide) (by decide) k_)
  rw [hWd]
  exact Goes.retn X0 (v := some (.int (0 : Int32))) (fun fs hr => retI X0 hx Bd.returns (hb hby d17_10) hr) (fun h => by rw [Bd.returns] at h; cases h) Bd.notSynchronized (by decide) (by decide) (by rw [e0]; exact ⟨rfl, N0, rfl⟩)
def QMI (Z : State) (u : Int32) (h0 : Heap) (n0 : Nat) (v : Option Value) (h : Heap) (L : List Loc) : Prop := v = some (.int (u)) ∧ Fr n0 L ∧ h = h0
set_option maxRecDepth 65536 in
set_option maxHeartbeats 40000000 in
theorem rmMI (l : Launch) (Z : State) (a0 : Array Value) (hw : ∀ d ∈ tables_1, d.before a0 Z = true) (ws : List Jvm.Cond) (u : Int32) (h0 : Heap) (n0 : Nat) (Z0 : n0 ≤ h0.size)  :
    MetFree l (⟨"java/lang/Math", "min", "(II)I"⟩ : MethodName) (head1 (Jvm.Cond.code (⟨"java/lang/Math", "min", "(II)I"⟩ : MethodName) jdk_29_method_69_code 2 (some .int) :: ws) ({ frames := 0, cells := 0, slots := 0, locals := 0 } : Room)) (fun a_ U => a_ = #[(.int u), (.int u)] ∧ Z.Warmed39 U.vm ∧ U.heap = h0) (fun _ _ _ _ _ => True) (fun _ U o U' => ∃ v L, o = .returned v ∧ QMI Z u h0 n0 v U'.heap L ∧ FrameEnd U o U' L ({ frames := 0, cells := 0, slots := 0, locals := 0 } : Room).cells ({ frames := 0, cells := 0, slots := 0, locals := 0 } : Room).slots) := by
  refine MetFree.of_bodySF (show plainFor (⟨"java/lang/Math", "min", "(II)I"⟩ : MethodName) = true by decide +kernel) hisR ?_
  intro p e s m args below meth c s₁ Bd hml0 hP hK
  obtain ⟨rfl, hZ, hh⟩ := hP
  have hx := Bd.exec
  have hby := Bd.bytes
  have hml : c.maxLocals = 2 := hml0
  have hown : s.vm.findClass "java/lang/Math" = some m.cls := findClass_of_methodNamed Bd.named
  have hnm := (name_of_methodNamed Bd.named Bd.method).1
  have X0 : Stand p l e ({ frames := 0, cells := 0, slots := 0, locals := 0 } : Room) s m #[(.int u), (.int u)] below meth c s₁ [] 0 0 := Stand.of_body Bd
  have e0 : s₁.heap = h0 := by rw [← hh, Bd.state]; rfl
  have N0 := Fr.nil n0
  refine Goes.done ?_
  obtain ⟨W, hWd⟩ : ∃ W : State → Prop, W = EndW s below (QMI Z u h0 n0) ({ frames := 0, cells := 0, slots := 0, locals := 0 } : Room).cells ({ frames := 0, cells := 0, slots := 0, locals := 0 } : Room).slots := ⟨_, rfl⟩
  rw [← hWd]
  have hef : entryFrame m #[(.int u), (.int u)] 2 = (mkF m 0 #[.val (.int u), .val (.int u)] []) := by first | (simp [entryFrame, mkF, argsToLocals, Value.category]; done) | rfl
  rw [hef]
  refine Goes.on (T' := s₁) (g' := (mkF m 1 #[.val (.int u), .val (.int u)] [(.int u)])) ?_ (fun t_ k_ => XS.iloadN X0.here hx rfl (hb hby d18_0) rfl k_)
  refine Goes.on (T' := s₁) (g' := (mkF m 2 #[.val (.int u), .val (.int u)] [(.int u), (.int u)])) ?_ (fun t_ k_ => XS.iloadN X0.here hx rfl (hb hby d18_1) rfl k_)
  refine Goes.icmpP X0 hx rfl (pc0 := 2) (pc' := 9) rfl (hb hby d18_2) rfl (by decide) (by decide) (P := u < u) (cmp_gt _ _) (fun hc2 => ?_) (fun hc2 => ?_)
  · show Goes p e below W s₁ (mkF m 9 #[.val (.int u), .val (.int u)] [])
    refine Goes.on (T' := s₁) (g' := (mkF m 10 #[.val (.int u), .val (.int u)] [(.int u)])) ?_ (fun t_ k_ => XS.iloadN X0.here hx rfl (hb hby d18_9) rfl k_)
    rw [hWd]
    exact Goes.retn X0 (v := some (.int u)) (fun fs hr => retI X0 hx Bd.returns (hb hby d18_10) hr) (fun h => by rw [Bd.returns] at h; cases h) Bd.notSynchronized (by decide) (by decide) (by rw [e0]; exact ⟨rfl, N0, rfl⟩)
  · show Goes p e below W s₁ (mkF m 5 #[.val (.int u), .val (.int u)] [])
    refine Goes.on (T' := s₁) (g' := (mkF m 6 #[.val (.int u), .val (.int u)] [(.int u)])) ?_ (fun t_ k_ => XS.iloadN X0.here hx rfl (hb hby d18_5) rfl k_)
    refine Goes.on (T' := s₁) (g' := (mkF m 10 #[.val (.int u), .val (.int u)] [(.int u)])) ?_ (fun t_ k_ => XS.goto X0.here hx rfl (pc0 := 6) (pc' := 10) rfl (hb hby d18_6) (by decide) (by decide) k_)
    rw [hWd]
    exact Goes.retn X0 (v := some (.int u)) (fun fs hr => retI X0 hx Bd.returns (hb hby d18_10) hr) (fun h => by rw [Bd.returns] at h; cases h) Bd.notSynchronized (by decide) (by decide) (by rw [e0]; exact ⟨rfl, N0, rfl⟩)
def QLX (Z : State) (t : Addr) (kt : ClassId) (cs : List Int32) (h0 : Heap) (n0 : Nat) (v : Option Value) (h : Heap) (L : List Loc) : Prop := v = some (.int ((own_idx cs (47 : Int32) cs.length 0))) ∧ Fr n0 L ∧ h = h0
set_option maxRecDepth 65536 in
set_option maxHeartbeats 40000000 in
theorem rmLX (l : Launch) (Z : State) (a0 : Array Value) (hw : ∀ d ∈ tables_1, d.before a0 Z = true) (ws : List Jvm.Cond) (t : Addr) (kt : ClassId) (cs : List Int32) (h0 : Heap) (n0 : Nat) (Z0 : n0 ≤ h0.size) (hfit : own_fit cs = cs.length) (B : Arv Z h0 t kt .byte (Int32.ofNat cs.length) ((cs.map own_lo).map Value.int) (.int 0)) (hp : ∀ c ∈ cs, ¬ c < 0 ∧ ¬ (65535 : Int32) < c) (hl : cs.length ≤ 16) :
    MetFree l (⟨"java/lang/StringLatin1", "indexOfChar", "([BIII)I"⟩ : MethodName) (head1 (Jvm.Cond.code (⟨"java/lang/StringLatin1", "indexOfChar", "([BIII)I"⟩ : MethodName) jdk_43_method_23_code 6 (some .int) :: ws) ({ frames := 0, cells := 0, slots := 0, locals := 0 } : Room)) (fun a_ U => a_ = #[(.ref t), (.int (47 : Int32)), (.int (0 : Int32)), (.int (Int32.ofNat cs.length))] ∧ Z.Warmed39 U.vm ∧ U.heap = h0) (fun _ _ _ _ _ => True) (fun _ U o U' => ∃ v L, o = .returned v ∧ QLX Z t kt cs h0 n0 v U'.heap L ∧ FrameEnd U o U' L ({ frames := 0, cells := 0, slots := 0, locals := 0 } : Room).cells ({ frames := 0, cells := 0, slots := 0, locals := 0 } : Room).slots) := by
  refine MetFree.of_bodySF (plainFor_of_name pn_3) hisR ?_
  intro p e s m args below meth c s₁ Bd hml0 hP hK
  obtain ⟨rfl, hZ, hh⟩ := hP
  have hx := Bd.exec
  have hby := Bd.bytes
  have hml : c.maxLocals = 6 := hml0
  have hown : s.vm.findClass "java/lang/StringLatin1" = some m.cls := findClass_of_methodNamed Bd.named
  have hnm := (name_of_methodNamed Bd.named Bd.method).1
  have X0 : Stand p l e ({ frames := 0, cells := 0, slots := 0, locals := 0 } : Room) s m #[(.ref t), (.int (47 : Int32)), (.int (0 : Int32)), (.int (Int32.ofNat cs.length))] below meth c s₁ [] 0 0 := Stand.of_body Bd
  have e0 : s₁.heap = h0 := by rw [← hh, Bd.state]; rfl
  have N0 := Fr.nil n0
  refine Goes.done ?_
  obtain ⟨W, hWd⟩ : ∃ W : State → Prop, W = EndW s below (QLX Z t kt cs h0 n0) ({ frames := 0, cells := 0, slots := 0, locals := 0 } : Room).cells ({ frames := 0, cells := 0, slots := 0, locals := 0 } : Room).slots := ⟨_, rfl⟩
  rw [← hWd]
  have hef : entryFrame m #[(.ref t), (.int (47 : Int32)), (.int (0 : Int32)), (.int (Int32.ofNat cs.length))] 6 = (mkF m 0 #[.val (.ref t), .val (.int (47 : Int32)), .val (.int (0 : Int32)), .val (.int (Int32.ofNat cs.length)), .unset, .unset] []) := by first | (simp [entryFrame, mkF, argsToLocals, Value.category]; done) | rfl
  rw [hef]
  obtain ⟨cA, A1, -, S1, M1, H1, -⟩ := id B
  have S1n : cA.slots.size = cs.length := by rw [S1, own_clamp (by omega)]
  obtain ⟨RR, hRR⟩ : ∃ z, z = (own_idx cs (47 : Int32) cs.length 0) := ⟨_, rfl⟩
  have K7 : ∀ (k i : Nat), i + k = cs.length → own_idx cs 47 k i = RR → Goes p e below W s₁ (mkF m 7 #[.val (.ref t), .val (.int (47 : Int32)), .val (.int (0 : Int32)), .val (.int (Int32.ofNat cs.length)), .val (.int (47 : Int32)), .val (.int (Int32.ofNat i))] []) := by
    intro k
    induction k with
    | zero =>
      intro i hi hR
      have hge : ¬ ((Int32.ofNat i) < (Int32.ofNat cs.length)) := by rw [own_nlt (by omega) (by omega)]; omega
      refine Goes.on (T' := s₁) (g' := (mkF m 9 #[.val (.ref t), .val (.int (47 : Int32)), .val (.int (0 : Int32)), .val (.int (Int32.ofNat cs.length)), .val (.int (47 : Int32)), .val (.int (Int32.ofNat i))] [(.int (Int32.ofNat i))])) ?_ (fun t_ k_ => XS.iload X0.here hx rfl (hb hby d19_7) rfl k_)
      refine Goes.on (T' := s₁) (g' := (mkF m 10 #[.val (.ref t), .val (.int (47 : Int32)), .val (.int (0 : Int32)), .val (.int (Int32.ofNat cs.length)), .val (.int (47 : Int32)), .val (.int (Int32.ofNat i))] [(.int (Int32.ofNat cs.length)), (.int (Int32.ofNat i))])) ?_ (fun t_ k_ => XS.iloadN X0.here hx rfl (hb hby d19_9) rfl k_)
      refine Goes.on (T' := s₁) (g' := (mkF m 31 #[.val (.ref t), .val (.int (47 : Int32)), .val (.int (0 : Int32)), .val (.int (Int32.ofNat cs.length)), .val (.int (47 : Int32)), .val (.int (Int32.ofNat i))] [])) ?_ (fun t_ k_ => XS.icmpYes X0.here hx rfl (pc0 := 10) (pc' := 31) rfl (hb hby d19_10) rfl (flt hge).2.1 (by decide) (by decide) k_)
      refine Goes.on (T' := s₁) (g' := (mkF m 32 #[.val (.ref t), .val (.int (47 : Int32)), .val (.int (0 : Int32)), .val (.int (Int32.ofNat cs.length)), .val (.int (47 : Int32)), .val (.int (Int32.ofNat i))] [(.int (-1 : Int32))])) ?_ (fun t_ k_ => XS.iconst X0.here hx rfl (hb hby d19_31) k_)
      rw [hWd]
      exact Goes.retn X0 (v := some (.int (-1 : Int32))) (fun fs hr => retI X0 hx Bd.returns (hb hby d19_32) hr) (fun h => by rw [Bd.returns] at h; cases h) Bd.notSynchronized (by decide) (by decide) (by rw [e0]; exact ⟨by rw [← hRR, ← hR]; rfl, N0, rfl⟩)
    | succ k ih =>
      intro i hi hR
      have hlt : (Int32.ofNat i) < (Int32.ofNat cs.length) := by rw [own_nlt (by omega) (by omega)]; omega
      have hcl : (Int32.ofNat i).toNatClampNeg = i := own_clamp (by omega)
      have hil : i < cs.length := by omega
      have in1 : ¬ ((Int32.ofNat i) < 0 ∨ cA.slots.size ≤ (Int32.ofNat i).toNatClampNeg) := by rw [hcl, S1n]; intro q; rcases q with q | q; exact own_nn (by omega) q; omega
      have at1 : cA.slots[(Int32.ofNat i).toNatClampNeg]? = some (.int (own_lo (cs.getD i 0))) := by rw [hcl, H1 i (by omega), own_bget, own_logetD cs i hil]
      have e47 := own_lo47 (hp _ (own_mem cs i hil)) (own_fit_all cs hfit _ (own_mem cs i hil))
      unfold own_idx at hR
      refine Goes.on (T' := s₁) (g' := (mkF m 9 #[.val (.ref t), .val (.int (47 : Int32)), .val (.int (0 : Int32)), .val (.int (Int32.ofNat cs.length)), .val (.int (47 : Int32)), .val (.int (Int32.ofNat i))] [(.int (Int32.ofNat i))])) ?_ (fun t_ k_ => XS.iload X0.here hx rfl (hb hby d19_7) rfl k_)
      refine Goes.on (T' := s₁) (g' := (mkF m 10 #[.val (.ref t), .val (.int (47 : Int32)), .val (.int (0 : Int32)), .val (.int (Int32.ofNat cs.length)), .val (.int (47 : Int32)), .val (.int (Int32.ofNat i))] [(.int (Int32.ofNat cs.length)), (.int (Int32.ofNat i))])) ?_ (fun t_ k_ => XS.iloadN X0.here hx rfl (hb hby d19_9) rfl k_)
      refine Goes.on (T' := s₁) (g' := (mkF m 13 #[.val (.ref t), .val (.int (47 : Int32)), .val (.int (0 : Int32)), .val (.int (Int32.ofNat cs.length)), .val (.int (47 : Int32)), .val (.int (Int32.ofNat i))] [])) ?_ (fun t_ k_ => XS.icmpNo X0.here hx rfl (hb hby d19_10) rfl (tlt hlt).2.1 k_)
      refine Goes.on (T' := s₁) (g' := (mkF m 14 #[.val (.ref t), .val (.int (47 : Int32)), .val (.int (0 : Int32)), .val (.int (Int32.ofNat cs.length)), .val (.int (47 : Int32)), .val (.int (Int32.ofNat i))] [(.ref t)])) ?_ (fun t_ k_ => XS.aloadN X0.here hx rfl (hb hby d19_13) rfl rfl k_)
      refine Goes.on (T' := s₁) (g' := (mkF m 16 #[.val (.ref t), .val (.int (47 : Int32)), .val (.int (0 : Int32)), .val (.int (Int32.ofNat cs.length)), .val (.int (47 : Int32)), .val (.int (Int32.ofNat i))] [(.int (Int32.ofNat i)), (.ref t)])) ?_ (fun t_ k_ => XS.iload X0.here hx rfl (hb hby d19_14) rfl k_)
      refine Goes.on (T' := s₁) (g' := (mkF m 17 #[.val (.ref t), .val (.int (47 : Int32)), .val (.int (0 : Int32)), .val (.int (Int32.ofNat cs.length)), .val (.int (47 : Int32)), .val (.int (Int32.ofNat i))] [(.int (own_lo (cs.getD i 0)))])) ?_ (X0.baloadBytes hx (j := (Int32.ofNat i)) (v := (.int (own_lo (cs.getD i 0)))) (by rw [e0]; exact A1.1) (State.isArrayOf_alike hZ.alike A1.2.1) A1.2.2 in1 at1 (g := (mkF m 16 #[.val (.ref t), .val (.int (47 : Int32)), .val (.int (0 : Int32)), .val (.int (Int32.ofNat cs.length)), .val (.int (47 : Int32)), .val (.int (Int32.ofNat i))] [(.int (Int32.ofNat i)), (.ref t)])) rfl rfl (hb hby d19_16))
      refine Goes.on (T' := s₁) (g' := (mkF m 19 #[.val (.ref t), .val (.int (47 : Int32)), .val (.int (0 : Int32)), .val (.int (Int32.ofNat cs.length)), .val (.int (47 : Int32)), .val (.int (Int32.ofNat i))] [(.int (47 : Int32)), (.int (own_lo (cs.getD i 0)))])) ?_ (fun t_ k_ => XS.iload X0.here hx rfl (hb hby d19_17) rfl k_)
      refine Goes.icmpN X0 hx rfl (pc0 := 19) (pc' := 25) rfl (hb hby d19_19) rfl (by decide) (by decide) (P := (own_lo (cs.getD i 0)) = (47 : Int32)) (cmp_ne _ _) (fun hc19 => ?_) (fun hc19 => ?_)
      · show Goes p e below W s₁ (mkF m 25 #[.val (.ref t), .val (.int (47 : Int32)), .val (.int (0 : Int32)), .val (.int (Int32.ofNat cs.length)), .val (.int (47 : Int32)), .val (.int (Int32.ofNat i))] [])
        refine Goes.on (T' := s₁) (g' := (mkF m 28 #[.val (.ref t), .val (.int (47 : Int32)), .val (.int (0 : Int32)), .val (.int (Int32.ofNat cs.length)), .val (.int (47 : Int32)), .val (.int ((Int32.ofNat i) + (1 : Int32)))] [])) ?_ (fun t_ k_ => XS.iinc X0.here hx rfl (hb hby d19_25) rfl (l' := #[.val (.ref t), .val (.int (47 : Int32)), .val (.int (0 : Int32)), .val (.int (Int32.ofNat cs.length)), .val (.int (47 : Int32)), .val (.int ((Int32.ofNat i) + (1 : Int32)))]) rfl k_)
        refine Goes.on (T' := s₁) (g' := (mkF m 7 #[.val (.ref t), .val (.int (47 : Int32)), .val (.int (0 : Int32)), .val (.int (Int32.ofNat cs.length)), .val (.int (47 : Int32)), .val (.int ((Int32.ofNat i) + (1 : Int32)))] [])) ?_ (fun t_ k_ => XS.goto X0.here hx rfl (pc0 := 28) (pc' := 7) rfl (hb hby d19_28) (by decide) (by decide) k_)
        rw [own_succ]
        exact ih (i + 1) (by omega) (by rw [e47] at hc19; rw [if_neg hc19] at hR; exact hR)
      · show Goes p e below W s₁ (mkF m 22 #[.val (.ref t), .val (.int (47 : Int32)), .val (.int (0 : Int32)), .val (.int (Int32.ofNat cs.length)), .val (.int (47 : Int32)), .val (.int (Int32.ofNat i))] [])
        refine Goes.on (T' := s₁) (g' := (mkF m 24 #[.val (.ref t), .val (.int (47 : Int32)), .val (.int (0 : Int32)), .val (.int (Int32.ofNat cs.length)), .val (.int (47 : Int32)), .val (.int (Int32.ofNat i))] [(.int (Int32.ofNat i))])) ?_ (fun t_ k_ => XS.iload X0.here hx rfl (hb hby d19_22) rfl k_)
        rw [hWd]
        exact Goes.retn X0 (v := some (.int (Int32.ofNat i))) (fun fs hr => retI X0 hx Bd.returns (hb hby d19_24) hr) (fun h => by rw [Bd.returns] at h; cases h) Bd.notSynchronized (by decide) (by decide) (by rw [e0]; exact ⟨by rw [e47] at hc19; rw [← hRR, ← hR, if_pos hc19], N0, rfl⟩)
  refine Goes.on (T' := s₁) (g' := (mkF m 1 #[.val (.ref t), .val (.int (47 : Int32)), .val (.int (0 : Int32)), .val (.int (Int32.ofNat cs.length)), .unset, .unset] [(.int (47 : Int32))])) ?_ (fun t_ k_ => XS.iloadN X0.here hx rfl (hb hby d19_0) rfl k_)
  refine Goes.on (T' := s₁) (g' := (mkF m 2 #[.val (.ref t), .val (.int (47 : Int32)), .val (.int (0 : Int32)), .val (.int (Int32.ofNat cs.length)), .unset, .unset] [(.int ((47 : Int32).toInt8.toInt32))])) ?_ (fun t_ k_ => XS.i2b X0.here hx rfl (hb hby d19_1) rfl k_)
  rw [show ((47 : Int32).toInt8.toInt32) = (47 : Int32) from rfl]
  refine Goes.on (T' := s₁) (g' := (mkF m 4 #[.val (.ref t), .val (.int (47 : Int32)), .val (.int (0 : Int32)), .val (.int (Int32.ofNat cs.length)), .val (.int (47 : Int32)), .unset] [])) ?_ (fun t_ k_ => XS.istore X0.here hx rfl (hb hby d19_2) rfl (l' := #[.val (.ref t), .val (.int (47 : Int32)), .val (.int (0 : Int32)), .val (.int (Int32.ofNat cs.length)), .val (.int (47 : Int32)), .unset]) rfl k_)
  refine Goes.on (T' := s₁) (g' := (mkF m 5 #[.val (.ref t), .val (.int (47 : Int32)), .val (.int (0 : Int32)), .val (.int (Int32.ofNat cs.length)), .val (.int (47 : Int32)), .unset] [(.int (0 : Int32))])) ?_ (fun t_ k_ => XS.iloadN X0.here hx rfl (hb hby d19_4) rfl k_)
  refine Goes.on (T' := s₁) (g' := (mkF m 7 #[.val (.ref t), .val (.int (47 : Int32)), .val (.int (0 : Int32)), .val (.int (Int32.ofNat cs.length)), .val (.int (47 : Int32)), .val (.int (0 : Int32))] [])) ?_ (fun t_ k_ => XS.istore X0.here hx rfl (hb hby d19_5) rfl (l' := #[.val (.ref t), .val (.int (47 : Int32)), .val (.int (0 : Int32)), .val (.int (Int32.ofNat cs.length)), .val (.int (47 : Int32)), .val (.int (0 : Int32))]) rfl k_)
  exact K7 cs.length 0 (by omega) hRR.symm
def QLI (Z : State) (t : Addr) (kt : ClassId) (cs : List Int32) (h0 : Heap) (n0 : Nat) (v : Option Value) (h : Heap) (L : List Loc) : Prop := v = some (.int ((own_idx cs (47 : Int32) cs.length 0))) ∧ Fr n0 L ∧ h = h0
set_option maxRecDepth 65536 in
set_option maxHeartbeats 40000000 in
theorem rmLI (l : Launch) (Z : State) (a0 : Array Value) (hw : ∀ d ∈ tables_1, d.before a0 Z = true) (ws : List Jvm.Cond) (t : Addr) (kt : ClassId) (cs : List Int32) (h0 : Heap) (n0 : Nat) (Z0 : n0 ≤ h0.size) (hfit : own_fit cs = cs.length) (B : Arv Z h0 t kt .byte (Int32.ofNat cs.length) ((cs.map own_lo).map Value.int) (.int 0)) (hp : ∀ c ∈ cs, ¬ c < 0 ∧ ¬ (65535 : Int32) < c) (hl : cs.length ≤ 16) (hl0 : 0 < cs.length) :
    MetFree l (⟨"java/lang/StringLatin1", "indexOf", "([BIII)I"⟩ : MethodName) (head1 (Jvm.Cond.code (⟨"java/lang/StringLatin1", "indexOf", "([BIII)I"⟩ : MethodName) jdk_43_method_22_code 4 (some .int) :: ws) ({ frames := 1, cells := 0, slots := 0, locals := 17 } : Room)) (fun a_ U => a_ = #[(.ref t), (.int (47 : Int32)), (.int (0 : Int32)), (.int (Int32.ofNat cs.length))] ∧ Z.Warmed39 U.vm ∧ U.heap = h0) (fun _ _ _ _ _ => True) (fun _ U o U' => ∃ v L, o = .returned v ∧ QLI Z t kt cs h0 n0 v U'.heap L ∧ FrameEnd U o U' L ({ frames := 1, cells := 0, slots := 0, locals := 17 } : Room).cells ({ frames := 1, cells := 0, slots := 0, locals := 17 } : Room).slots) := by
  refine MetFree.of_bodySF (plainFor_of_name pn_3) hisR ?_
  intro p e s m args below meth c s₁ Bd hml0 hP hK
  obtain ⟨rfl, hZ, hh⟩ := hP
  have hx := Bd.exec
  have hby := Bd.bytes
  have hml : c.maxLocals = 4 := hml0
  have hown : s.vm.findClass "java/lang/StringLatin1" = some m.cls := findClass_of_methodNamed Bd.named
  have hnm := (name_of_methodNamed Bd.named Bd.method).1
  have X0 : Stand p l e ({ frames := 1, cells := 0, slots := 0, locals := 17 } : Room) s m #[(.ref t), (.int (47 : Int32)), (.int (0 : Int32)), (.int (Int32.ofNat cs.length))] below meth c s₁ [] 0 0 := Stand.of_body Bd
  have e0 : s₁.heap = h0 := by rw [← hh, Bd.state]; rfl
  have N0 := Fr.nil n0
  refine Goes.done ?_
  obtain ⟨W, hWd⟩ : ∃ W : State → Prop, W = EndW s below (QLI Z t kt cs h0 n0) ({ frames := 1, cells := 0, slots := 0, locals := 17 } : Room).cells ({ frames := 1, cells := 0, slots := 0, locals := 17 } : Room).slots := ⟨_, rfl⟩
  rw [← hWd]
  have hef : entryFrame m #[(.ref t), (.int (47 : Int32)), (.int (0 : Int32)), (.int (Int32.ofNat cs.length))] 4 = (mkF m 0 #[.val (.ref t), .val (.int (47 : Int32)), .val (.int (0 : Int32)), .val (.int (Int32.ofNat cs.length))] []) := by first | (simp [entryFrame, mkF, argsToLocals, Value.category]; done) | rfl
  rw [hef]
  obtain ⟨cA, A1, -, S1, M1, H1, -⟩ := id B
  have hpos : (0 : Int32) < (Int32.ofNat cs.length) := by rw [show (0 : Int32) = Int32.ofNat 0 from rfl, own_nlt (by omega) (by omega)]; exact hl0
  refine Goes.on (T' := s₁) (g' := (mkF m 1 #[.val (.ref t), .val (.int (47 : Int32)), .val (.int (0 : Int32)), .val (.int (Int32.ofNat cs.length))] [(.int (47 : Int32))])) ?_ (fun t_ k_ => XS.iloadN X0.here hx rfl (hb hby d15_0) rfl k_)
  obtain ⟨_, _, ⟨T1, Lq_1, kq_1, nq_1⟩, -, X1, ⟨Lc1, hQ1, l1, y1, z1⟩, st1⟩ := Jvm.LawKit.callS X0 hx (y := (⟨"java/lang/StringLatin1", "canEncode", "(I)Z"⟩ : MethodName)) hown (mvT hZ (hw _ (List.mem_of_getElem? (i := 76) rfl))) (mvT hZ (hw _ (List.mem_of_getElem? (i := 77) rfl))) (mvT hZ (hw _ (List.mem_of_getElem? (i := 74) rfl))) (mvT hZ (hw _ (List.mem_of_getElem? (i := 78) rfl))) (by decide) (backOf (W := 0) (rmCE l Z a0 hw [] h0 n0 Z0) hZ (hw _ (List.mem_of_getElem? (i := 78) rfl)) (hw _ (List.mem_of_getElem? (i := 74) rfl)) (by decide) (by decide)) (g := (mkF m 1 #[.val (.ref t), .val (.int (47 : Int32)), .val (.int (0 : Int32)), .val (.int (Int32.ofNat cs.length))] [(.int (47 : Int32))])) rfl (by rw [hml]; rfl) (argsL := [(.int (47 : Int32))]) (rest := []) (lenOf pd_9 rfl) rfl (by show 2 * 0 + _ ≤ _; exact Nat.le_of_eq rfl) (hb hby d15_1) (fun _ _ => ⟨rfl, e0, (by decide : 0 + 0 ≤ _), (by decide : 0 + 0 ≤ _)⟩)
  dsimp only [Pt.U, Pt.locs, Pt.cells, Pt.slots] at X1 l1 y1 z1 st1 hQ1
  rw [l1, y1, z1] at X1
  change Stand p l e _ _ m _ below meth c T1 _ 0 0 at X1
  obtain ⟨rfl, N1q, eh1⟩ := hQ1
  have N1 := Fr.app N0 N1q
  refine Goes.on (T' := T1) (g' := (mkF m 4 #[.val (.ref t), .val (.int (47 : Int32)), .val (.int (0 : Int32)), .val (.int (Int32.ofNat cs.length))] [(.int (1 : Int32))])) ?_ st1
  refine Goes.on (T' := T1) (g' := (mkF m 9 #[.val (.ref t), .val (.int (47 : Int32)), .val (.int (0 : Int32)), .val (.int (Int32.ofNat cs.length))] [])) ?_ (fun t_ k_ => XS.ifYes X1.here hx rfl (pc0 := 4) (pc' := 9) rfl (hb hby d15_4) rfl (by decide) (by decide) (by decide) k_)
  refine Goes.on (T' := T1) (g' := (mkF m 10 #[.val (.ref t), .val (.int (47 : Int32)), .val (.int (0 : Int32)), .val (.int (Int32.ofNat cs.length))] [(.int (0 : Int32))])) ?_ (fun t_ k_ => XS.iloadN X1.here hx rfl (hb hby d15_9) rfl k_)
  refine Goes.on (T' := T1) (g' := (mkF m 11 #[.val (.ref t), .val (.int (47 : Int32)), .val (.int (0 : Int32)), .val (.int (Int32.ofNat cs.length))] [(.int (0 : Int32)), (.int (0 : Int32))])) ?_ (fun t_ k_ => XS.iconst X1.here hx rfl (hb hby d15_10) k_)
  obtain ⟨_, _, ⟨T2, Lq_2, kq_2, nq_2⟩, -, X2, ⟨Lc2, hQ2, l2, y2, z2⟩, st2⟩ := Jvm.LawKit.callS X1 hx (y := (⟨"java/lang/Math", "max", "(II)I"⟩ : MethodName)) hown (mvT hZ (hw _ (List.mem_of_getElem? (i := 79) rfl))) (mvT hZ (hw _ (List.mem_of_getElem? (i := 80) rfl))) (mvT hZ (hw _ (List.mem_of_getElem? (i := 81) rfl))) (mvT hZ (hw _ (List.mem_of_getElem? (i := 82) rfl))) (by decide) (backOf (W := 0) (rmMX l Z a0 hw [] h0 n0 Z0) hZ (hw _ (List.mem_of_getElem? (i := 82) rfl)) (hw _ (List.mem_of_getElem? (i := 81) rfl)) (by decide) (by decide)) (g := (mkF m 11 #[.val (.ref t), .val (.int (47 : Int32)), .val (.int (0 : Int32)), .val (.int (Int32.ofNat cs.length))] [(.int (0 : Int32)), (.int (0 : Int32))])) rfl (by rw [hml]; rfl) (argsL := [(.int (0 : Int32)), (.int (0 : Int32))]) (rest := []) (lenOf pd_10 rfl) rfl (by show 2 * 0 + _ ≤ _; exact Nat.le_of_eq rfl) (hb hby d15_11) (fun _ _ => ⟨rfl, eh1, (by decide : 0 + 0 ≤ _), (by decide : 0 + 0 ≤ _)⟩)
  dsimp only [Pt.U, Pt.locs, Pt.cells, Pt.slots] at X2 l2 y2 z2 st2 hQ2
  rw [l2, y2, z2] at X2
  change Stand p l e _ _ m _ below meth c T2 _ 0 0 at X2
  obtain ⟨rfl, N2q, eh2⟩ := hQ2
  have N2 := Fr.app N1 N2q
  refine Goes.on (T' := T2) (g' := (mkF m 14 #[.val (.ref t), .val (.int (47 : Int32)), .val (.int (0 : Int32)), .val (.int (Int32.ofNat cs.length))] [(.int (0 : Int32))])) ?_ st2
  refine Goes.on (T' := T2) (g' := (mkF m 15 #[.val (.ref t), .val (.int (47 : Int32)), .val (.int (0 : Int32)), .val (.int (Int32.ofNat cs.length))] [])) ?_ (fun t_ k_ => XS.istoreN X2.here hx rfl (hb hby d15_14) rfl (l' := #[.val (.ref t), .val (.int (47 : Int32)), .val (.int (0 : Int32)), .val (.int (Int32.ofNat cs.length))]) rfl k_)
  refine Goes.on (T' := T2) (g' := (mkF m 16 #[.val (.ref t), .val (.int (47 : Int32)), .val (.int (0 : Int32)), .val (.int (Int32.ofNat cs.length))] [(.int (Int32.ofNat cs.length))])) ?_ (fun t_ k_ => XS.iloadN X2.here hx rfl (hb hby d15_15) rfl k_)
  refine Goes.on (T' := T2) (g' := (mkF m 17 #[.val (.ref t), .val (.int (47 : Int32)), .val (.int (0 : Int32)), .val (.int (Int32.ofNat cs.length))] [(.ref t), (.int (Int32.ofNat cs.length))])) ?_ (fun t_ k_ => XS.aloadN X2.here hx rfl (hb hby d15_16) rfl rfl k_)
  refine Goes.on (T' := T2) (g' := (mkF m 18 #[.val (.ref t), .val (.int (47 : Int32)), .val (.int (0 : Int32)), .val (.int (Int32.ofNat cs.length))] [(.int cA.slots.size.toInt32), (.int (Int32.ofNat cs.length))])) ?_ (X2.arraylength hx (by rw [eh2]; exact A1.1) (State.isArrayOf_alike hZ.alike A1.2.1) (g := (mkF m 17 #[.val (.ref t), .val (.int (47 : Int32)), .val (.int (0 : Int32)), .val (.int (Int32.ofNat cs.length))] [(.ref t), (.int (Int32.ofNat cs.length))])) rfl rfl (hb hby d15_17))
  rw [len_of S1 M1]
  obtain ⟨_, _, ⟨T3, Lq_3, kq_3, nq_3⟩, -, X3, ⟨Lc3, hQ3, l3, y3, z3⟩, st3⟩ := Jvm.LawKit.callS X2 hx (y := (⟨"java/lang/Math", "min", "(II)I"⟩ : MethodName)) hown (mvT hZ (hw _ (List.mem_of_getElem? (i := 83) rfl))) (mvT hZ (hw _ (List.mem_of_getElem? (i := 84) rfl))) (mvT hZ (hw _ (List.mem_of_getElem? (i := 81) rfl))) (mvT hZ (hw _ (List.mem_of_getElem? (i := 85) rfl))) (by decide) (backOf (W := 0) (rmMI l Z a0 hw [] (Int32.ofNat cs.length) h0 n0 Z0) hZ (hw _ (List.mem_of_getElem? (i := 85) rfl)) (hw _ (List.mem_of_getElem? (i := 81) rfl)) (by decide) (by decide)) (g := (mkF m 18 #[.val (.ref t), .val (.int (47 : Int32)), .val (.int (0 : Int32)), .val (.int (Int32.ofNat cs.length))] [(.int (Int32.ofNat cs.length)), (.int (Int32.ofNat cs.length))])) rfl (by rw [hml]; rfl) (argsL := [(.int (Int32.ofNat cs.length)), (.int (Int32.ofNat cs.length))]) (rest := []) (lenOf pd_10 rfl) rfl (by show 2 * 0 + _ ≤ _; exact Nat.le_of_eq rfl) (hb hby d15_18) (fun _ _ => ⟨rfl, eh2, (by decide : 0 + 0 ≤ _), (by decide : 0 + 0 ≤ _)⟩)
  dsimp only [Pt.U, Pt.locs, Pt.cells, Pt.slots] at X3 l3 y3 z3 st3 hQ3
  rw [l3, y3, z3] at X3
  change Stand p l e _ _ m _ below meth c T3 _ 0 0 at X3
  obtain ⟨rfl, N3q, eh3⟩ := hQ3
  have N3 := Fr.app N2 N3q
  refine Goes.on (T' := T3) (g' := (mkF m 21 #[.val (.ref t), .val (.int (47 : Int32)), .val (.int (0 : Int32)), .val (.int (Int32.ofNat cs.length))] [(.int (Int32.ofNat cs.length))])) ?_ st3
  refine Goes.on (T' := T3) (g' := (mkF m 22 #[.val (.ref t), .val (.int (47 : Int32)), .val (.int (0 : Int32)), .val (.int (Int32.ofNat cs.length))] [])) ?_ (fun t_ k_ => XS.istoreN X3.here hx rfl (hb hby d15_21) rfl (l' := #[.val (.ref t), .val (.int (47 : Int32)), .val (.int (0 : Int32)), .val (.int (Int32.ofNat cs.length))]) rfl k_)
  refine Goes.on (T' := T3) (g' := (mkF m 23 #[.val (.ref t), .val (.int (47 : Int32)), .val (.int (0 : Int32)), .val (.int (Int32.ofNat cs.length))] [(.int (0 : Int32))])) ?_ (fun t_ k_ => XS.iloadN X3.here hx rfl (hb hby d15_22) rfl k_)
  refine Goes.on (T' := T3) (g' := (mkF m 24 #[.val (.ref t), .val (.int (47 : Int32)), .val (.int (0 : Int32)), .val (.int (Int32.ofNat cs.length))] [(.int (Int32.ofNat cs.length)), (.int (0 : Int32))])) ?_ (fun t_ k_ => XS.iloadN X3.here hx rfl (hb hby d15_23) rfl k_)
  refine Goes.on (T' := T3) (g' := (mkF m 29 #[.val (.ref t), .val (.int (47 : Int32)), .val (.int (0 : Int32)), .val (.int (Int32.ofNat cs.length))] [])) ?_ (fun t_ k_ => XS.icmpYes X3.here hx rfl (pc0 := 24) (pc' := 29) rfl (hb hby d15_24) rfl (tlt hpos).1 (by decide) (by decide) k_)
  refine Goes.on (T' := T3) (g' := (mkF m 30 #[.val (.ref t), .val (.int (47 : Int32)), .val (.int (0 : Int32)), .val (.int (Int32.ofNat cs.length))] [(.ref t)])) ?_ (fun t_ k_ => XS.aloadN X3.here hx rfl (hb hby d15_29) rfl rfl k_)
  refine Goes.on (T' := T3) (g' := (mkF m 31 #[.val (.ref t), .val (.int (47 : Int32)), .val (.int (0 : Int32)), .val (.int (Int32.ofNat cs.length))] [(.int (47 : Int32)), (.ref t)])) ?_ (fun t_ k_ => XS.iloadN X3.here hx rfl (hb hby d15_30) rfl k_)
  refine Goes.on (T' := T3) (g' := (mkF m 32 #[.val (.ref t), .val (.int (47 : Int32)), .val (.int (0 : Int32)), .val (.int (Int32.ofNat cs.length))] [(.int (0 : Int32)), (.int (47 : Int32)), (.ref t)])) ?_ (fun t_ k_ => XS.iloadN X3.here hx rfl (hb hby d15_31) rfl k_)
  refine Goes.on (T' := T3) (g' := (mkF m 33 #[.val (.ref t), .val (.int (47 : Int32)), .val (.int (0 : Int32)), .val (.int (Int32.ofNat cs.length))] [(.int (Int32.ofNat cs.length)), (.int (0 : Int32)), (.int (47 : Int32)), (.ref t)])) ?_ (fun t_ k_ => XS.iloadN X3.here hx rfl (hb hby d15_32) rfl k_)
  obtain ⟨_, _, ⟨T4, Lq_4, kq_4, nq_4⟩, -, X4, ⟨Lc4, hQ4, l4, y4, z4⟩, st4⟩ := Jvm.LawKit.callS X3 hx (y := (⟨"java/lang/StringLatin1", "indexOfChar", "([BIII)I"⟩ : MethodName)) hown (mvT hZ (hw _ (List.mem_of_getElem? (i := 86) rfl))) (mvT hZ (hw _ (List.mem_of_getElem? (i := 87) rfl))) (mvT hZ (hw _ (List.mem_of_getElem? (i := 74) rfl))) (mvT hZ (hw _ (List.mem_of_getElem? (i := 88) rfl))) (by decide) (backOf (W := 0) (rmLX l Z a0 hw [] t kt cs h0 n0 Z0 hfit B hp hl) hZ (hw _ (List.mem_of_getElem? (i := 88) rfl)) (hw _ (List.mem_of_getElem? (i := 74) rfl)) (by decide) (by decide)) (g := (mkF m 33 #[.val (.ref t), .val (.int (47 : Int32)), .val (.int (0 : Int32)), .val (.int (Int32.ofNat cs.length))] [(.int (Int32.ofNat cs.length)), (.int (0 : Int32)), (.int (47 : Int32)), (.ref t)])) rfl (by rw [hml]; rfl) (argsL := [(.ref t), (.int (47 : Int32)), (.int (0 : Int32)), (.int (Int32.ofNat cs.length))]) (rest := []) (lenOf pd_11 rfl) rfl (by show 2 * 0 + _ ≤ _; exact Nat.le_of_eq rfl) (hb hby d15_33) (fun _ _ => ⟨rfl, eh3, (by decide : 0 + 0 ≤ _), (by decide : 0 + 0 ≤ _)⟩)
  dsimp only [Pt.U, Pt.locs, Pt.cells, Pt.slots] at X4 l4 y4 z4 st4 hQ4
  rw [l4, y4, z4] at X4
  change Stand p l e _ _ m _ below meth c T4 _ 0 0 at X4
  obtain ⟨rfl, N4q, eh4⟩ := hQ4
  have N4 := Fr.app N3 N4q
  refine Goes.on (T' := T4) (g' := (mkF m 36 #[.val (.ref t), .val (.int (47 : Int32)), .val (.int (0 : Int32)), .val (.int (Int32.ofNat cs.length))] [(.int (own_idx cs (47 : Int32) cs.length 0))])) ?_ st4
  rw [hWd]
  exact Goes.retn X4 (v := some (.int (own_idx cs (47 : Int32) cs.length 0))) (fun fs hr => retI X4 hx Bd.returns (hb hby d15_36) hr) (fun h => by rw [Bd.returns] at h; cases h) Bd.notSynchronized (by decide) (by decide) (by rw [eh4]; exact ⟨rfl, N4, rfl⟩)
def QFT (Z : State) (n : Nat) (vf : Value) (h0 : Heap) (n0 : Nat) (v : Option Value) (h : Heap) (L : List Loc) : Prop := v = some (.int (0)) ∧ Fr n0 L ∧ h = h0
set_option maxRecDepth 65536 in
set_option maxHeartbeats 40000000 in
theorem rmFT (l : Launch) (Z : State) (a0 : Array Value) (hw : ∀ d ∈ tables_1, d.before a0 Z = true) (ws : List Jvm.Cond) (n : Nat) (vf : Value) (h0 : Heap) (n0 : Nat) (Z0 : n0 ≤ h0.size) (hn : n ≤ 16) (rG : vf.isRef = true) :
    MetFree l (⟨"jdk/internal/util/Preconditions", "checkFromToIndex", "(IIILjava/util/function/BiFunction;)I"⟩ : MethodName) (head1 (Jvm.Cond.code (⟨"jdk/internal/util/Preconditions", "checkFromToIndex", "(IIILjava/util/function/BiFunction;)I"⟩ : MethodName) jdk_41_method_12_code 4 (some .int) :: ws) ({ frames := 0, cells := 0, slots := 0, locals := 0 } : Room)) (fun a_ U => a_ = #[(.int (0 : Int32)), (.int (Int32.ofNat n)), (.int (Int32.ofNat n)), vf] ∧ Z.Warmed39 U.vm ∧ U.heap = h0) (fun _ _ _ _ _ => True) (fun _ U o U' => ∃ v L, o = .returned v ∧ QFT Z n vf h0 n0 v U'.heap L ∧ FrameEnd U o U' L ({ frames := 0, cells := 0, slots := 0, locals := 0 } : Room).cells ({ frames := 0, cells := 0, slots := 0, locals := 0 } : Room).slots) := by
  refine MetFree.of_bodySF (plainFor_of_name pn_4) hisR ?_
  intro p e s m args below meth c s₁ Bd hml0 hP hK
  obtain ⟨rfl, hZ, hh⟩ := hP
  have hx := Bd.exec
  have hby := Bd.bytes
  have hml : c.maxLocals = 4 := hml0
  have hown : s.vm.findClass "jdk/internal/util/Preconditions" = some m.cls := findClass_of_methodNamed Bd.named
  have hnm := (name_of_methodNamed Bd.named Bd.method).1
  have X0 : Stand p l e ({ frames := 0, cells := 0, slots := 0, locals := 0 } : Room) s m #[(.int (0 : Int32)), (.int (Int32.ofNat n)), (.int (Int32.ofNat n)), vf] below meth c s₁ [] 0 0 := Stand.of_body Bd
  have e0 : s₁.heap = h0 := by rw [← hh, Bd.state]; rfl
  have N0 := Fr.nil n0
  refine Goes.done ?_
  obtain ⟨W, hWd⟩ : ∃ W : State → Prop, W = EndW s below (QFT Z n vf h0 n0) ({ frames := 0, cells := 0, slots := 0, locals := 0 } : Room).cells ({ frames := 0, cells := 0, slots := 0, locals := 0 } : Room).slots := ⟨_, rfl⟩
  rw [← hWd]
  have hef : entryFrame m #[(.int (0 : Int32)), (.int (Int32.ofNat n)), (.int (Int32.ofNat n)), vf] 4 = (mkF m 0 #[.val (.int (0 : Int32)), .val (.int (Int32.ofNat n)), .val (.int (Int32.ofNat n)), .val vf] []) := by rcases ref_cases rG with rfl | ⟨r_3, rfl⟩ <;> first | (simp [entryFrame, mkF, argsToLocals, Value.category]; done) | rfl
  rw [hef]
  have hnn : ¬ (Int32.ofNat n < 0) := own_nn (by omega)
  have hrr : ¬ (Int32.ofNat n < Int32.ofNat n) := by rw [own_nlt (by omega) (by omega)]; omega
  refine Goes.on (T' := s₁) (g' := (mkF m 1 #[.val (.int (0 : Int32)), .val (.int (Int32.ofNat n)), .val (.int (Int32.ofNat n)), .val vf] [(.int (0 : Int32))])) ?_ (fun t_ k_ => XS.iloadN X0.here hx rfl (hb hby d30_0) rfl k_)
  refine Goes.on (T' := s₁) (g' := (mkF m 4 #[.val (.int (0 : Int32)), .val (.int (Int32.ofNat n)), .val (.int (Int32.ofNat n)), .val vf] [])) ?_ (fun t_ k_ => XS.ifNo X0.here hx rfl (hb hby d30_1) rfl (by decide) k_)
  refine Goes.on (T' := s₁) (g' := (mkF m 5 #[.val (.int (0 : Int32)), .val (.int (Int32.ofNat n)), .val (.int (Int32.ofNat n)), .val vf] [(.int (0 : Int32))])) ?_ (fun t_ k_ => XS.iloadN X0.here hx rfl (hb hby d30_4) rfl k_)
  refine Goes.on (T' := s₁) (g' := (mkF m 6 #[.val (.int (0 : Int32)), .val (.int (Int32.ofNat n)), .val (.int (Int32.ofNat n)), .val vf] [(.int (Int32.ofNat n)), (.int (0 : Int32))])) ?_ (fun t_ k_ => XS.iloadN X0.here hx rfl (hb hby d30_5) rfl k_)
  refine Goes.on (T' := s₁) (g' := (mkF m 9 #[.val (.int (0 : Int32)), .val (.int (Int32.ofNat n)), .val (.int (Int32.ofNat n)), .val vf] [])) ?_ (fun t_ k_ => XS.icmpNo X0.here hx rfl (hb hby d30_6) rfl (flt hnn).2.2.1 k_)
  refine Goes.on (T' := s₁) (g' := (mkF m 10 #[.val (.int (0 : Int32)), .val (.int (Int32.ofNat n)), .val (.int (Int32.ofNat n)), .val vf] [(.int (Int32.ofNat n))])) ?_ (fun t_ k_ => XS.iloadN X0.here hx rfl (hb hby d30_9) rfl k_)
  refine Goes.on (T' := s₁) (g' := (mkF m 11 #[.val (.int (0 : Int32)), .val (.int (Int32.ofNat n)), .val (.int (Int32.ofNat n)), .val vf] [(.int (Int32.ofNat n)), (.int (Int32.ofNat n))])) ?_ (fun t_ k_ => XS.iloadN X0.here hx rfl (hb hby d30_10) rfl k_)
  refine Goes.on (T' := s₁) (g' := (mkF m 22 #[.val (.int (0 : Int32)), .val (.int (Int32.ofNat n)), .val (.int (Int32.ofNat n)), .val vf] [])) ?_ (fun t_ k_ => XS.icmpYes X0.here hx rfl (pc0 := 11) (pc' := 22) rfl (hb hby d30_11) rfl (flt hrr).2.2.2 (by decide) (by decide) k_)
  refine Goes.on (T' := s₁) (g' := (mkF m 23 #[.val (.int (0 : Int32)), .val (.int (Int32.ofNat n)), .val (.int (Int32.ofNat n)), .val vf] [(.int (0 : Int32))])) ?_ (fun t_ k_ => XS.iloadN X0.here hx rfl (hb hby d30_22) rfl k_)
  rw [hWd]
  exact Goes.retn X0 (v := some (.int (0 : Int32))) (fun fs hr => retI X0 hx Bd.returns (hb hby d30_23) hr) (fun h => by rw [Bd.returns] at h; cases h) Bd.notSynchronized (by decide) (by decide) (by rw [e0]; exact ⟨rfl, N0, rfl⟩)
def QSB (Z : State) (n : Nat) (vf : Value) (h0 : Heap) (n0 : Nat) (v : Option Value) (h : Heap) (L : List Loc) : Prop := v = none ∧ Fr n0 L ∧ h = h0
set_option maxRecDepth 65536 in
set_option maxHeartbeats 40000000 in
theorem rmSB (l : Launch) (Z : State) (a0 : Array Value) (hw : ∀ d ∈ tables_1, d.before a0 Z = true) (ws : List Jvm.Cond) (n : Nat) (vf : Value) (h0 : Heap) (n0 : Nat) (Z0 : n0 ≤ h0.size) (hn : n ≤ 16) (SO : Sta Z Z.heap "jdk/internal/util/Preconditions" "SIOOBE_FORMATTER" "Ljava/util/function/BiFunction;" vf) (rG : vf.isRef = true) (X0_ : Old Z n0 h0) :
    MetFree l (⟨"java/lang/String", "checkBoundsBeginEnd", "(III)V"⟩ : MethodName) (head1 (Jvm.Cond.code (⟨"java/lang/String", "checkBoundsBeginEnd", "(III)V"⟩ : MethodName) jdk_42_method_158_code 3 none :: ws) ({ frames := 1, cells := 0, slots := 0, locals := 15 } : Room)) (fun a_ U => a_ = #[(.int (0 : Int32)), (.int (Int32.ofNat n)), (.int (Int32.ofNat n))] ∧ Z.Warmed39 U.vm ∧ U.heap = h0) (fun _ _ _ _ _ => True) (fun _ U o U' => ∃ v L, o = .returned v ∧ QSB Z n vf h0 n0 v U'.heap L ∧ FrameEnd U o U' L ({ frames := 1, cells := 0, slots := 0, locals := 15 } : Room).cells ({ frames := 1, cells := 0, slots := 0, locals := 15 } : Room).slots) := by
  refine MetFree.of_bodySF (plainFor_of_name pn_1) hisR ?_
  intro p e s m args below meth c s₁ Bd hml0 hP hK
  obtain ⟨rfl, hZ, hh⟩ := hP
  have hx := Bd.exec
  have hby := Bd.bytes
  have hml : c.maxLocals = 3 := hml0
  have hown : s.vm.findClass "java/lang/String" = some m.cls := findClass_of_methodNamed Bd.named
  have hnm := (name_of_methodNamed Bd.named Bd.method).1
  have X0 : Stand p l e ({ frames := 1, cells := 0, slots := 0, locals := 15 } : Room) s m #[(.int (0 : Int32)), (.int (Int32.ofNat n)), (.int (Int32.ofNat n))] below meth c s₁ [] 0 0 := Stand.of_body Bd
  have e0 : s₁.heap = h0 := by rw [← hh, Bd.state]; rfl
  have N0 := Fr.nil n0
  refine Goes.done ?_
  obtain ⟨W, hWd⟩ : ∃ W : State → Prop, W = EndW s below (QSB Z n vf h0 n0) ({ frames := 1, cells := 0, slots := 0, locals := 15 } : Room).cells ({ frames := 1, cells := 0, slots := 0, locals := 15 } : Room).slots := ⟨_, rfl⟩
  rw [← hWd]
  have hef : entryFrame m #[(.int (0 : Int32)), (.int (Int32.ofNat n)), (.int (Int32.ofNat n))] 3 = (mkF m 0 #[.val (.int (0 : Int32)), .val (.int (Int32.ofNat n)), .val (.int (Int32.ofNat n))] []) := by first | (simp [entryFrame, mkF, argsToLocals, Value.category]; done) | rfl
  rw [hef]
  refine Goes.on (T' := s₁) (g' := (mkF m 1 #[.val (.int (0 : Int32)), .val (.int (Int32.ofNat n)), .val (.int (Int32.ofNat n))] [(.int (0 : Int32))])) ?_ (fun t_ k_ => XS.iloadN X0.here hx rfl (hb hby d29_0) rfl k_)
  refine Goes.on (T' := s₁) (g' := (mkF m 2 #[.val (.int (0 : Int32)), .val (.int (Int32.ofNat n)), .val (.int (Int32.ofNat n))] [(.int (Int32.ofNat n)), (.int (0 : Int32))])) ?_ (fun t_ k_ => XS.iloadN X0.here hx rfl (hb hby d29_1) rfl k_)
  refine Goes.on (T' := s₁) (g' := (mkF m 3 #[.val (.int (0 : Int32)), .val (.int (Int32.ofNat n)), .val (.int (Int32.ofNat n))] [(.int (Int32.ofNat n)), (.int (Int32.ofNat n)), (.int (0 : Int32))])) ?_ (fun t_ k_ => XS.iloadN X0.here hx rfl (hb hby d29_2) rfl k_)
  obtain ⟨T1, X1, e1, st1⟩ := getS2 X0 hx hZ hown (host := "") (Or.inl (hw _ (List.mem_of_getElem? (i := 126) rfl))) Via.refl e0 (SO.ext X0_.2) (g := (mkF m 3 #[.val (.int (0 : Int32)), .val (.int (Int32.ofNat n)), .val (.int (Int32.ofNat n))] [(.int (Int32.ofNat n)), (.int (Int32.ofNat n)), (.int (0 : Int32))])) rfl (hb hby d29_3)
  refine Goes.on (T' := T1) (g' := (mkF m 6 #[.val (.int (0 : Int32)), .val (.int (Int32.ofNat n)), .val (.int (Int32.ofNat n))] [vf, (.int (Int32.ofNat n)), (.int (Int32.ofNat n)), (.int (0 : Int32))])) ?_ st1
  obtain ⟨_, _, ⟨T2, Lq_2, kq_2, nq_2⟩, -, X2, ⟨Lc2, hQ2, l2, y2, z2⟩, st2⟩ := Jvm.LawKit.callS X1 hx (y := (⟨"jdk/internal/util/Preconditions", "checkFromToIndex", "(IIILjava/util/function/BiFunction;)I"⟩ : MethodName)) hown (mvT hZ (hw _ (List.mem_of_getElem? (i := 128) rfl))) (mvT hZ (hw _ (List.mem_of_getElem? (i := 129) rfl))) (mvT hZ (hw _ (List.mem_of_getElem? (i := 127) rfl))) (mvT hZ (hw _ (List.mem_of_getElem? (i := 130) rfl))) (by decide) (backOf (W := 0) (rmFT l Z a0 hw [] n vf h0 n0 Z0 hn rG) hZ (hw _ (List.mem_of_getElem? (i := 130) rfl)) (hw _ (List.mem_of_getElem? (i := 127) rfl)) (by decide) (by decide)) (g := (mkF m 6 #[.val (.int (0 : Int32)), .val (.int (Int32.ofNat n)), .val (.int (Int32.ofNat n))] [vf, (.int (Int32.ofNat n)), (.int (Int32.ofNat n)), (.int (0 : Int32))])) rfl (by rw [hml]; rfl) (argsL := [(.int (0 : Int32)), (.int (Int32.ofNat n)), (.int (Int32.ofNat n)), vf]) (rest := []) (lenOf pd_12 rfl) rfl (by show 2 * 0 + _ ≤ _; exact Nat.le_of_eq rfl) (hb hby d29_6) (fun _ _ => ⟨rfl, e1, (by decide : 0 + 0 ≤ _), (by decide : 0 + 0 ≤ _)⟩)
  dsimp only [Pt.U, Pt.locs, Pt.cells, Pt.slots] at X2 l2 y2 z2 st2 hQ2
  rw [l2, y2, z2] at X2
  change Stand p l e _ _ m _ below meth c T2 _ 0 0 at X2
  obtain ⟨rfl, N2q, eh2⟩ := hQ2
  have N2 := Fr.app N0 N2q
  refine Goes.on (T' := T2) (g' := (mkF m 9 #[.val (.int (0 : Int32)), .val (.int (Int32.ofNat n)), .val (.int (Int32.ofNat n))] [(.int (0 : Int32))])) ?_ st2
  refine Goes.on (T' := T2) (g' := (mkF m 10 #[.val (.int (0 : Int32)), .val (.int (Int32.ofNat n)), .val (.int (Int32.ofNat n))] [])) ?_ (fun t_ k_ => XS.pop X2.here hx rfl (hb hby d29_9) rfl rfl k_)
  rw [hWd]
  exact Goes.retn X2 (v := none) (fun fs hr => X2.returnOut hx Bd.returns (hb hby d29_10) hr) (fun _ => rfl) Bd.notSynchronized (by decide) (by decide) (by rw [eh2]; exact ⟨rfl, N2, rfl⟩)
def QUB (Z : State) (t : Addr) (kt : ClassId) (cs : List Int32) (vf : Value) (h0 : Heap) (n0 : Nat) (v : Option Value) (h : Heap) (L : List Loc) : Prop := v = none ∧ Fr n0 L ∧ h = h0
set_option maxRecDepth 65536 in
set_option maxHeartbeats 40000000 in
theorem rmUB (l : Launch) (Z : State) (a0 : Array Value) (hw : ∀ d ∈ tables_1, d.before a0 Z = true) (ws : List Jvm.Cond) (t : Addr) (kt : ClassId) (cs : List Int32) (vf : Value) (h0 : Heap) (n0 : Nat) (Z0 : n0 ≤ h0.size) (B : Arv Z h0 t kt .byte (Int32.ofNat (2 * cs.length)) ((own_u16 cs).map Value.int) (.int 0)) (hp : ∀ c ∈ cs, ¬ c < 0 ∧ ¬ (65535 : Int32) < c) (hl : cs.length ≤ 16) (SO : Sta Z Z.heap "jdk/internal/util/Preconditions" "SIOOBE_FORMATTER" "Ljava/util/function/BiFunction;" vf) (rG : vf.isRef = true) (X0_ : Old Z n0 h0) :
    MetFree l (⟨"java/lang/StringUTF16", "checkBoundsBeginEnd", "(II[B)V"⟩ : MethodName) (head1 (Jvm.Cond.code (⟨"java/lang/StringUTF16", "checkBoundsBeginEnd", "(II[B)V"⟩ : MethodName) jdk_52_method_93_code 3 none :: ws) ({ frames := 2, cells := 0, slots := 0, locals := 29 } : Room)) (fun a_ U => a_ = #[(.int (0 : Int32)), (.int (Int32.ofNat cs.length)), (.ref t)] ∧ Z.Warmed39 U.vm ∧ U.heap = h0) (fun _ _ _ _ _ => True) (fun _ U o U' => ∃ v L, o = .returned v ∧ QUB Z t kt cs vf h0 n0 v U'.heap L ∧ FrameEnd U o U' L ({ frames := 2, cells := 0, slots := 0, locals := 29 } : Room).cells ({ frames := 2, cells := 0, slots := 0, locals := 29 } : Room).slots) := by
  refine MetFree.of_bodySF (plainFor_of_name pn_0) hisR ?_
  intro p e s m args below meth c s₁ Bd hml0 hP hK
  obtain ⟨rfl, hZ, hh⟩ := hP
  have hx := Bd.exec
  have hby := Bd.bytes
  have hml : c.maxLocals = 3 := hml0
  have hown : s.vm.findClass "java/lang/StringUTF16" = some m.cls := findClass_of_methodNamed Bd.named
  have hnm := (name_of_methodNamed Bd.named Bd.method).1
  have X0 : Stand p l e ({ frames := 2, cells := 0, slots := 0, locals := 29 } : Room) s m #[(.int (0 : Int32)), (.int (Int32.ofNat cs.length)), (.ref t)] below meth c s₁ [] 0 0 := Stand.of_body Bd
  have e0 : s₁.heap = h0 := by rw [← hh, Bd.state]; rfl
  have N0 := Fr.nil n0
  refine Goes.done ?_
  obtain ⟨W, hWd⟩ : ∃ W : State → Prop, W = EndW s below (QUB Z t kt cs vf h0 n0) ({ frames := 2, cells := 0, slots := 0, locals := 29 } : Room).cells ({ frames := 2, cells := 0, slots := 0, locals := 29 } : Room).slots := ⟨_, rfl⟩
  rw [← hWd]
  have hef : entryFrame m #[(.int (0 : Int32)), (.int (Int32.ofNat cs.length)), (.ref t)] 3 = (mkF m 0 #[.val (.int (0 : Int32)), .val (.int (Int32.ofNat cs.length)), .val (.ref t)] []) := by first | (simp [entryFrame, mkF, argsToLocals, Value.category]; done) | rfl
  rw [hef]
  refine Goes.on (T' := s₁) (g' := (mkF m 1 #[.val (.int (0 : Int32)), .val (.int (Int32.ofNat cs.length)), .val (.ref t)] [(.int (0 : Int32))])) ?_ (fun t_ k_ => XS.iloadN X0.here hx rfl (hb hby d27_0) rfl k_)
  refine Goes.on (T' := s₁) (g' := (mkF m 2 #[.val (.int (0 : Int32)), .val (.int (Int32.ofNat cs.length)), .val (.ref t)] [(.int (Int32.ofNat cs.length)), (.int (0 : Int32))])) ?_ (fun t_ k_ => XS.iloadN X0.here hx rfl (hb hby d27_1) rfl k_)
  refine Goes.on (T' := s₁) (g' := (mkF m 3 #[.val (.int (0 : Int32)), .val (.int (Int32.ofNat cs.length)), .val (.ref t)] [(.ref t), (.int (Int32.ofNat cs.length)), (.int (0 : Int32))])) ?_ (fun t_ k_ => XS.aloadN X0.here hx rfl (hb hby d27_2) rfl rfl k_)
  obtain ⟨_, _, ⟨T1, Lq_1, kq_1, nq_1⟩, -, X1, ⟨Lc1, hQ1, l1, y1, z1⟩, st1⟩ := Jvm.LawKit.callS X0 hx (y := (⟨"java/lang/StringUTF16", "length", "([B)I"⟩ : MethodName)) hown (mvT hZ (hw _ (List.mem_of_getElem? (i := 120) rfl))) (mvT hZ (hw _ (List.mem_of_getElem? (i := 121) rfl))) (mvT hZ (hw _ (List.mem_of_getElem? (i := 39) rfl))) (mvT hZ (hw _ (List.mem_of_getElem? (i := 122) rfl))) (by decide) (backOf (W := 2) (rmUL l Z a0 hw [] t kt cs.length (own_u16 cs) h0 n0 Z0 B hl) hZ (hw _ (List.mem_of_getElem? (i := 122) rfl)) (hw _ (List.mem_of_getElem? (i := 39) rfl)) (by decide) (by decide)) (g := (mkF m 3 #[.val (.int (0 : Int32)), .val (.int (Int32.ofNat cs.length)), .val (.ref t)] [(.ref t), (.int (Int32.ofNat cs.length)), (.int (0 : Int32))])) rfl (by rw [hml]; rfl) (argsL := [(.ref t)]) (rest := [(.int (Int32.ofNat cs.length)), (.int (0 : Int32))]) (lenOf pd_13 rfl) rfl (by show 2 * 0 + _ ≤ _; exact Nat.le_of_eq rfl) (hb hby d27_3) (fun _ _ => ⟨rfl, e0, (by decide : 0 + 0 ≤ _), (by decide : 0 + 0 ≤ _)⟩)
  dsimp only [Pt.U, Pt.locs, Pt.cells, Pt.slots] at X1 l1 y1 z1 st1 hQ1
  rw [l1, y1, z1] at X1
  change Stand p l e _ _ m _ below meth c T1 _ 0 0 at X1
  obtain ⟨rfl, N1q, eh1⟩ := hQ1
  have N1 := Fr.app N0 N1q
  refine Goes.on (T' := T1) (g' := (mkF m 6 #[.val (.int (0 : Int32)), .val (.int (Int32.ofNat cs.length)), .val (.ref t)] [(.int (Int32.ofNat cs.length)), (.int (Int32.ofNat cs.length)), (.int (0 : Int32))])) ?_ st1
  obtain ⟨_, _, ⟨T2, Lq_2, kq_2, nq_2⟩, -, X2, ⟨Lc2, hQ2, l2, y2, z2⟩, st2⟩ := Jvm.LawKit.callS X1 hx (y := (⟨"java/lang/String", "checkBoundsBeginEnd", "(III)V"⟩ : MethodName)) hown (mvT hZ (hw _ (List.mem_of_getElem? (i := 123) rfl))) (mvT hZ (hw _ (List.mem_of_getElem? (i := 124) rfl))) (mvT hZ (hw _ (List.mem_of_getElem? (i := 7) rfl))) (mvT hZ (hw _ (List.mem_of_getElem? (i := 125) rfl))) (by decide) (backOf (W := 0) (rmSB l Z a0 hw [] cs.length vf h0 n0 Z0 hl SO rG X0_) hZ (hw _ (List.mem_of_getElem? (i := 125) rfl)) (hw _ (List.mem_of_getElem? (i := 7) rfl)) (by decide) (by decide)) (g := (mkF m 6 #[.val (.int (0 : Int32)), .val (.int (Int32.ofNat cs.length)), .val (.ref t)] [(.int (Int32.ofNat cs.length)), (.int (Int32.ofNat cs.length)), (.int (0 : Int32))])) rfl (by rw [hml]; rfl) (argsL := [(.int (0 : Int32)), (.int (Int32.ofNat cs.length)), (.int (Int32.ofNat cs.length))]) (rest := []) (lenOf pd_14 rfl) rfl (by show 2 * 0 + _ ≤ _; exact Nat.le_of_eq rfl) (hb hby d27_6) (fun _ _ => ⟨rfl, eh1, (by decide : 0 + 0 ≤ _), (by decide : 0 + 0 ≤ _)⟩)
  dsimp only [Pt.U, Pt.locs, Pt.cells, Pt.slots] at X2 l2 y2 z2 st2 hQ2
  rw [l2, y2, z2] at X2
  change Stand p l e _ _ m _ below meth c T2 _ 0 0 at X2
  obtain ⟨rfl, N2q, eh2⟩ := hQ2
  have N2 := Fr.app N1 N2q
  refine Goes.on (T' := T2) (g' := (mkF m 9 #[.val (.int (0 : Int32)), .val (.int (Int32.ofNat cs.length)), .val (.ref t)] [])) ?_ st2
  rw [hWd]
  exact Goes.retn X2 (v := none) (fun fs hr => X2.returnOut hx Bd.returns (hb hby d27_9) hr) (fun _ => rfl) Bd.notSynchronized (by decide) (by decide) (by rw [eh2]; exact ⟨rfl, N2, rfl⟩)
def QUS (Z : State) (t : Addr) (kt : ClassId) (cs : List Int32) (h0 : Heap) (n0 : Nat) (v : Option Value) (h : Heap) (L : List Loc) : Prop := v = some (.int ((own_idx cs (47 : Int32) cs.length 0))) ∧ Fr n0 L ∧ h = h0
set_option maxRecDepth 65536 in
set_option maxHeartbeats 40000000 in
theorem rmUS (l : Launch) (Z : State) (a0 : Array Value) (hw : ∀ d ∈ tables_1, d.before a0 Z = true) (ws : List Jvm.Cond) (t : Addr) (kt : ClassId) (cs : List Int32) (h0 : Heap) (n0 : Nat) (Z0 : n0 ≤ h0.size) (B : Arv Z h0 t kt .byte (Int32.ofNat (2 * cs.length)) ((own_u16 cs).map Value.int) (.int 0)) (hp : ∀ c ∈ cs, ¬ c < 0 ∧ ¬ (65535 : Int32) < c) (hl : cs.length ≤ 16) (AD : Sta Z Z.heap "java/lang/StringUTF16" "$assertionsDisabled" "Z" (.int (1 : Int32))) (HB : Sta Z Z.heap "java/lang/StringUTF16" "HI_BYTE_SHIFT" "I" (.int (0 : Int32))) (LB : Sta Z Z.heap "java/lang/StringUTF16" "LO_BYTE_SHIFT" "I" (.int (8 : Int32)))  (X0_ : Old Z n0 h0) :
    MetFree l (⟨"java/lang/StringUTF16", "indexOfCharUnsafe", "([BIII)I"⟩ : MethodName) (head1 (Jvm.Cond.code (⟨"java/lang/StringUTF16", "indexOfCharUnsafe", "([BIII)I"⟩ : MethodName) jdk_52_method_48_code 5 (some .int) :: ws) ({ frames := 1, cells := 0, slots := 0, locals := 13 } : Room)) (fun a_ U => a_ = #[(.ref t), (.int (47 : Int32)), (.int (0 : Int32)), (.int (Int32.ofNat cs.length))] ∧ Z.Warmed39 U.vm ∧ U.heap = h0) (fun _ _ _ _ _ => True) (fun _ U o U' => ∃ v L, o = .returned v ∧ QUS Z t kt cs h0 n0 v U'.heap L ∧ FrameEnd U o U' L ({ frames := 1, cells := 0, slots := 0, locals := 13 } : Room).cells ({ frames := 1, cells := 0, slots := 0, locals := 13 } : Room).slots) := by
  refine MetFree.of_bodySF (plainFor_of_name pn_0) hisR ?_
  intro p e s m args below meth c s₁ Bd hml0 hP hK
  obtain ⟨rfl, hZ, hh⟩ := hP
  have hx := Bd.exec
  have hby := Bd.bytes
  have hml : c.maxLocals = 5 := hml0
  have hown : s.vm.findClass "java/lang/StringUTF16" = some m.cls := findClass_of_methodNamed Bd.named
  have hnm := (name_of_methodNamed Bd.named Bd.method).1
  have X0 : Stand p l e ({ frames := 1, cells := 0, slots := 0, locals := 13 } : Room) s m #[(.ref t), (.int (47 : Int32)), (.int (0 : Int32)), (.int (Int32.ofNat cs.length))] below meth c s₁ [] 0 0 := Stand.of_body Bd
  have e0 : s₁.heap = h0 := by rw [← hh, Bd.state]; rfl
  have N0 := Fr.nil n0
  refine Goes.done ?_
  obtain ⟨W, hWd⟩ : ∃ W : State → Prop, W = EndW s below (QUS Z t kt cs h0 n0) ({ frames := 1, cells := 0, slots := 0, locals := 13 } : Room).cells ({ frames := 1, cells := 0, slots := 0, locals := 13 } : Room).slots := ⟨_, rfl⟩
  rw [← hWd]
  have hef : entryFrame m #[(.ref t), (.int (47 : Int32)), (.int (0 : Int32)), (.int (Int32.ofNat cs.length))] 5 = (mkF m 0 #[.val (.ref t), .val (.int (47 : Int32)), .val (.int (0 : Int32)), .val (.int (Int32.ofNat cs.length)), .unset] []) := by first | (simp [entryFrame, mkF, argsToLocals, Value.category]; done) | rfl
  rw [hef]
  obtain ⟨RR, hRR⟩ : ∃ z, z = (own_idx cs (47 : Int32) cs.length 0) := ⟨_, rfl⟩
  have K3 : ∀ (k i : Nat) (T : State) (locs : List Loc), Stand p l e ({ frames := 1, cells := 0, slots := 0, locals := 13 } : Room) s m #[(.ref t), (.int (47 : Int32)), (.int (0 : Int32)), (.int (Int32.ofNat cs.length))] below meth c T locs 0 0 → T.heap = h0 → Fr n0 locs → i + k = cs.length → own_idx cs 47 k i = RR → Goes p e below W T (mkF m 3 #[.val (.ref t), .val (.int (47 : Int32)), .val (.int (0 : Int32)), .val (.int (Int32.ofNat cs.length)), .val (.int (Int32.ofNat i))] []) := by
    intro k
    induction k with
    | zero =>
      intro i T locs X eT N hi hR
      have hge : ¬ ((Int32.ofNat i) < (Int32.ofNat cs.length)) := by rw [own_nlt (by omega) (by omega)]; omega
      refine Goes.on (T' := T) (g' := (mkF m 5 #[.val (.ref t), .val (.int (47 : Int32)), .val (.int (0 : Int32)), .val (.int (Int32.ofNat cs.length)), .val (.int (Int32.ofNat i))] [(.int (Int32.ofNat i))])) ?_ (fun t_ k_ => XS.iload X.here hx rfl (hb hby d31_3) rfl k_)
      refine Goes.on (T' := T) (g' := (mkF m 6 #[.val (.ref t), .val (.int (47 : Int32)), .val (.int (0 : Int32)), .val (.int (Int32.ofNat cs.length)), .val (.int (Int32.ofNat i))] [(.int (Int32.ofNat cs.length)), (.int (Int32.ofNat i))])) ?_ (fun t_ k_ => XS.iloadN X.here hx rfl (hb hby d31_5) rfl k_)
      refine Goes.on (T' := T) (g' := (mkF m 28 #[.val (.ref t), .val (.int (47 : Int32)), .val (.int (0 : Int32)), .val (.int (Int32.ofNat cs.length)), .val (.int (Int32.ofNat i))] [])) ?_ (fun t_ k_ => XS.icmpYes X.here hx rfl (pc0 := 6) (pc' := 28) rfl (hb hby d31_6) rfl (flt hge).2.1 (by decide) (by decide) k_)
      refine Goes.on (T' := T) (g' := (mkF m 29 #[.val (.ref t), .val (.int (47 : Int32)), .val (.int (0 : Int32)), .val (.int (Int32.ofNat cs.length)), .val (.int (Int32.ofNat i))] [(.int (-1 : Int32))])) ?_ (fun t_ k_ => XS.iconst X.here hx rfl (hb hby d31_28) k_)
      rw [hWd]
      exact Goes.retn X (v := some (.int (-1 : Int32))) (fun fs hr => retI X hx Bd.returns (hb hby d31_29) hr) (fun h => by rw [Bd.returns] at h; cases h) Bd.notSynchronized (by decide) (by decide) (by rw [eT]; exact ⟨by rw [← hRR, ← hR]; rfl, N, rfl⟩)
    | succ k ih =>
      intro i T locs X eT N hi hR
      have hlt : (Int32.ofNat i) < (Int32.ofNat cs.length) := by rw [own_nlt (by omega) (by omega)]; omega
      have hil : i < cs.length := by omega
      unfold own_idx at hR
      refine Goes.on (T' := T) (g' := (mkF m 5 #[.val (.ref t), .val (.int (47 : Int32)), .val (.int (0 : Int32)), .val (.int (Int32.ofNat cs.length)), .val (.int (Int32.ofNat i))] [(.int (Int32.ofNat i))])) ?_ (fun t_ k_ => XS.iload X.here hx rfl (hb hby d31_3) rfl k_)
      refine Goes.on (T' := T) (g' := (mkF m 6 #[.val (.ref t), .val (.int (47 : Int32)), .val (.int (0 : Int32)), .val (.int (Int32.ofNat cs.length)), .val (.int (Int32.ofNat i))] [(.int (Int32.ofNat cs.length)), (.int (Int32.ofNat i))])) ?_ (fun t_ k_ => XS.iloadN X.here hx rfl (hb hby d31_5) rfl k_)
      refine Goes.on (T' := T) (g' := (mkF m 9 #[.val (.ref t), .val (.int (47 : Int32)), .val (.int (0 : Int32)), .val (.int (Int32.ofNat cs.length)), .val (.int (Int32.ofNat i))] [])) ?_ (fun t_ k_ => XS.icmpNo X.here hx rfl (hb hby d31_6) rfl (tlt hlt).2.1 k_)
      refine Goes.on (T' := T) (g' := (mkF m 10 #[.val (.ref t), .val (.int (47 : Int32)), .val (.int (0 : Int32)), .val (.int (Int32.ofNat cs.length)), .val (.int (Int32.ofNat i))] [(.ref t)])) ?_ (fun t_ k_ => XS.aloadN X.here hx rfl (hb hby d31_9) rfl rfl k_)
      refine Goes.on (T' := T) (g' := (mkF m 12 #[.val (.ref t), .val (.int (47 : Int32)), .val (.int (0 : Int32)), .val (.int (Int32.ofNat cs.length)), .val (.int (Int32.ofNat i))] [(.int (Int32.ofNat i)), (.ref t)])) ?_ (fun t_ k_ => XS.iload X.here hx rfl (hb hby d31_10) rfl k_)
      obtain ⟨_, _, ⟨T1, Lq_1, kq_1, nq_1⟩, -, X1, ⟨Lc1, hQ1, l1, y1, z1⟩, st1⟩ := Jvm.LawKit.callS X hx (y := (⟨"java/lang/StringUTF16", "getChar", "([BI)C"⟩ : MethodName)) hown (mvT hZ (hw _ (List.mem_of_getElem? (i := 105) rfl))) (mvT hZ (hw _ (List.mem_of_getElem? (i := 106) rfl))) (mvT hZ (hw _ (List.mem_of_getElem? (i := 39) rfl))) (mvT hZ (hw _ (List.mem_of_getElem? (i := 107) rfl))) (by decide) (backOf (W := 0) (rmGC l Z a0 hw [] t kt cs.length i (own_u16 cs) h0 n0 Z0 B hil hl AD HB LB X0_) hZ (hw _ (List.mem_of_getElem? (i := 107) rfl)) (hw _ (List.mem_of_getElem? (i := 39) rfl)) (by decide) (by decide)) (g := (mkF m 12 #[.val (.ref t), .val (.int (47 : Int32)), .val (.int (0 : Int32)), .val (.int (Int32.ofNat cs.length)), .val (.int (Int32.ofNat i))] [(.int (Int32.ofNat i)), (.ref t)])) rfl (by rw [hml]; rfl) (argsL := [(.ref t), (.int (Int32.ofNat i))]) (rest := []) (lenOf pd_5 rfl) rfl (by show 2 * 0 + _ ≤ _; exact Nat.le_of_eq rfl) (hb hby d31_12) (fun _ _ => ⟨rfl, eT, (by decide : 0 + 0 ≤ _), (by decide : 0 + 0 ≤ _)⟩)
      dsimp only [Pt.U, Pt.locs, Pt.cells, Pt.slots] at X1 l1 y1 z1 st1 hQ1
      rw [l1, y1, z1] at X1
      change Stand p l e _ _ m _ below meth c T1 _ 0 0 at X1
      obtain ⟨rfl, N1q, eh1⟩ := hQ1
      have N1 := Fr.app N N1q
      refine Goes.on (T' := T1) (g' := (mkF m 15 #[.val (.ref t), .val (.int (47 : Int32)), .val (.int (0 : Int32)), .val (.int (Int32.ofNat cs.length)), .val (.int (Int32.ofNat i))] [(.int (nar .char (own_pair ((own_u16 cs).getD (2 * i) 0) ((own_u16 cs).getD (2 * i + 1) 0))))])) ?_ st1
      rw [own_u16_ch cs i hil (hp _ (own_mem cs i hil))]
      refine Goes.on (T' := T1) (g' := (mkF m 16 #[.val (.ref t), .val (.int (47 : Int32)), .val (.int (0 : Int32)), .val (.int (Int32.ofNat cs.length)), .val (.int (Int32.ofNat i))] [(.int (47 : Int32)), (.int (cs.getD i 0))])) ?_ (fun t_ k_ => XS.iloadN X1.here hx rfl (hb hby d31_15) rfl k_)
      refine Goes.icmpN X1 hx rfl (pc0 := 16) (pc' := 22) rfl (hb hby d31_16) rfl (by decide) (by decide) (P := (cs.getD i 0) = (47 : Int32)) (cmp_ne _ _) (fun hc16 => ?_) (fun hc16 => ?_)
      · show Goes p e below W T1 (mkF m 22 #[.val (.ref t), .val (.int (47 : Int32)), .val (.int (0 : Int32)), .val (.int (Int32.ofNat cs.length)), .val (.int (Int32.ofNat i))] [])
        refine Goes.on (T' := T1) (g' := (mkF m 25 #[.val (.ref t), .val (.int (47 : Int32)), .val (.int (0 : Int32)), .val (.int (Int32.ofNat cs.length)), .val (.int ((Int32.ofNat i) + (1 : Int32)))] [])) ?_ (fun t_ k_ => XS.iinc X1.here hx rfl (hb hby d31_22) rfl (l' := #[.val (.ref t), .val (.int (47 : Int32)), .val (.int (0 : Int32)), .val (.int (Int32.ofNat cs.length)), .val (.int ((Int32.ofNat i) + (1 : Int32)))]) rfl k_)
        refine Goes.on (T' := T1) (g' := (mkF m 3 #[.val (.ref t), .val (.int (47 : Int32)), .val (.int (0 : Int32)), .val (.int (Int32.ofNat cs.length)), .val (.int ((Int32.ofNat i) + (1 : Int32)))] [])) ?_ (fun t_ k_ => XS.goto X1.here hx rfl (pc0 := 25) (pc' := 3) rfl (hb hby d31_25) (by decide) (by decide) k_)
        rw [own_succ]
        exact ih (i + 1) _ _ X1 eh1 N1 (by omega) (by rw [if_neg hc16] at hR; exact hR)
      · show Goes p e below W T1 (mkF m 19 #[.val (.ref t), .val (.int (47 : Int32)), .val (.int (0 : Int32)), .val (.int (Int32.ofNat cs.length)), .val (.int (Int32.ofNat i))] [])
        refine Goes.on (T' := T1) (g' := (mkF m 21 #[.val (.ref t), .val (.int (47 : Int32)), .val (.int (0 : Int32)), .val (.int (Int32.ofNat cs.length)), .val (.int (Int32.ofNat i))] [(.int (Int32.ofNat i))])) ?_ (fun t_ k_ => XS.iload X1.here hx rfl (hb hby d31_19) rfl k_)
        rw [hWd]
        exact Goes.retn X1 (v := some (.int (Int32.ofNat i))) (fun fs hr => retI X1 hx Bd.returns (hb hby d31_21) hr) (fun h => by rw [Bd.returns] at h; cases h) Bd.notSynchronized (by decide) (by decide) (by rw [eh1]; exact ⟨by rw [← hRR, ← hR, if_pos hc16], N1, rfl⟩)
  refine Goes.on (T' := s₁) (g' := (mkF m 1 #[.val (.ref t), .val (.int (47 : Int32)), .val (.int (0 : Int32)), .val (.int (Int32.ofNat cs.length)), .unset] [(.int (0 : Int32))])) ?_ (fun t_ k_ => XS.iloadN X0.here hx rfl (hb hby d31_0) rfl k_)
  refine Goes.on (T' := s₁) (g' := (mkF m 3 #[.val (.ref t), .val (.int (47 : Int32)), .val (.int (0 : Int32)), .val (.int (Int32.ofNat cs.length)), .val (.int (0 : Int32))] [])) ?_ (fun t_ k_ => XS.istore X0.here hx rfl (hb hby d31_1) rfl (l' := #[.val (.ref t), .val (.int (47 : Int32)), .val (.int (0 : Int32)), .val (.int (Int32.ofNat cs.length)), .val (.int (0 : Int32))]) rfl k_)
  exact K3 cs.length 0 _ _ X0 e0 N0 (by omega) hRR.symm
def QUJ (Z : State) (t : Addr) (kt : ClassId) (cs : List Int32) (vf : Value) (h0 : Heap) (n0 : Nat) (v : Option Value) (h : Heap) (L : List Loc) : Prop := v = some (.int ((own_idx cs (47 : Int32) cs.length 0))) ∧ Fr n0 L ∧ h = h0
set_option maxRecDepth 65536 in
set_option maxHeartbeats 40000000 in
theorem rmUJ (l : Launch) (Z : State) (a0 : Array Value) (hw : ∀ d ∈ tables_1, d.before a0 Z = true) (ws : List Jvm.Cond) (t : Addr) (kt : ClassId) (cs : List Int32) (vf : Value) (h0 : Heap) (n0 : Nat) (Z0 : n0 ≤ h0.size) (B : Arv Z h0 t kt .byte (Int32.ofNat (2 * cs.length)) ((own_u16 cs).map Value.int) (.int 0)) (hp : ∀ c ∈ cs, ¬ c < 0 ∧ ¬ (65535 : Int32) < c) (hl : cs.length ≤ 16) (hl0 : 0 < cs.length) (AD : Sta Z Z.heap "java/lang/StringUTF16" "$assertionsDisabled" "Z" (.int (1 : Int32))) (HB : Sta Z Z.heap "java/lang/StringUTF16" "HI_BYTE_SHIFT" "I" (.int (0 : Int32))) (LB : Sta Z Z.heap "java/lang/StringUTF16" "LO_BYTE_SHIFT" "I" (.int (8 : Int32)))  (SO : Sta Z Z.heap "jdk/internal/util/Preconditions" "SIOOBE_FORMATTER" "Ljava/util/function/BiFunction;" vf) (rG : vf.isRef = true) (X0_ : Old Z n0 h0) :
    MetFree l (⟨"java/lang/StringUTF16", "indexOfChar", "([BIII)I"⟩ : MethodName) (head1 (Jvm.Cond.code (⟨"java/lang/StringUTF16", "indexOfChar", "([BIII)I"⟩ : MethodName) jdk_52_method_47_code 4 (some .int) :: ws) ({ frames := 3, cells := 0, slots := 0, locals := 43 } : Room)) (fun a_ U => a_ = #[(.ref t), (.int (47 : Int32)), (.int (0 : Int32)), (.int (Int32.ofNat cs.length))] ∧ Z.Warmed39 U.vm ∧ U.heap = h0) (fun _ _ _ _ _ => True) (fun _ U o U' => ∃ v L, o = .returned v ∧ QUJ Z t kt cs vf h0 n0 v U'.heap L ∧ FrameEnd U o U' L ({ frames := 3, cells := 0, slots := 0, locals := 43 } : Room).cells ({ frames := 3, cells := 0, slots := 0, locals := 43 } : Room).slots) := by
  refine MetFree.of_bodySF (plainFor_of_name pn_0) hisR ?_
  intro p e s m args below meth c s₁ Bd hml0 hP hK
  obtain ⟨rfl, hZ, hh⟩ := hP
  have hx := Bd.exec
  have hby := Bd.bytes
  have hml : c.maxLocals = 4 := hml0
  have hown : s.vm.findClass "java/lang/StringUTF16" = some m.cls := findClass_of_methodNamed Bd.named
  have hnm := (name_of_methodNamed Bd.named Bd.method).1
  have X0 : Stand p l e ({ frames := 3, cells := 0, slots := 0, locals := 43 } : Room) s m #[(.ref t), (.int (47 : Int32)), (.int (0 : Int32)), (.int (Int32.ofNat cs.length))] below meth c s₁ [] 0 0 := Stand.of_body Bd
  have e0 : s₁.heap = h0 := by rw [← hh, Bd.state]; rfl
  have N0 := Fr.nil n0
  refine Goes.done ?_
  obtain ⟨W, hWd⟩ : ∃ W : State → Prop, W = EndW s below (QUJ Z t kt cs vf h0 n0) ({ frames := 3, cells := 0, slots := 0, locals := 43 } : Room).cells ({ frames := 3, cells := 0, slots := 0, locals := 43 } : Room).slots := ⟨_, rfl⟩
  rw [← hWd]
  have hef : entryFrame m #[(.ref t), (.int (47 : Int32)), (.int (0 : Int32)), (.int (Int32.ofNat cs.length))] 4 = (mkF m 0 #[.val (.ref t), .val (.int (47 : Int32)), .val (.int (0 : Int32)), .val (.int (Int32.ofNat cs.length))] []) := by first | (simp [entryFrame, mkF, argsToLocals, Value.category]; done) | rfl
  rw [hef]
  refine Goes.on (T' := s₁) (g' := (mkF m 1 #[.val (.ref t), .val (.int (47 : Int32)), .val (.int (0 : Int32)), .val (.int (Int32.ofNat cs.length))] [(.int (0 : Int32))])) ?_ (fun t_ k_ => XS.iloadN X0.here hx rfl (hb hby d26_0) rfl k_)
  refine Goes.on (T' := s₁) (g' := (mkF m 2 #[.val (.ref t), .val (.int (47 : Int32)), .val (.int (0 : Int32)), .val (.int (Int32.ofNat cs.length))] [(.int (Int32.ofNat cs.length)), (.int (0 : Int32))])) ?_ (fun t_ k_ => XS.iloadN X0.here hx rfl (hb hby d26_1) rfl k_)
  refine Goes.on (T' := s₁) (g' := (mkF m 3 #[.val (.ref t), .val (.int (47 : Int32)), .val (.int (0 : Int32)), .val (.int (Int32.ofNat cs.length))] [(.ref t), (.int (Int32.ofNat cs.length)), (.int (0 : Int32))])) ?_ (fun t_ k_ => XS.aloadN X0.here hx rfl (hb hby d26_2) rfl rfl k_)
  obtain ⟨_, _, ⟨T1, Lq_1, kq_1, nq_1⟩, -, X1, ⟨Lc1, hQ1, l1, y1, z1⟩, st1⟩ := Jvm.LawKit.callS X0 hx (y := (⟨"java/lang/StringUTF16", "checkBoundsBeginEnd", "(II[B)V"⟩ : MethodName)) hown (mvT hZ (hw _ (List.mem_of_getElem? (i := 117) rfl))) (mvT hZ (hw _ (List.mem_of_getElem? (i := 118) rfl))) (mvT hZ (hw _ (List.mem_of_getElem? (i := 39) rfl))) (mvT hZ (hw _ (List.mem_of_getElem? (i := 119) rfl))) (by decide) (backOf (W := 0) (rmUB l Z a0 hw [] t kt cs vf h0 n0 Z0 B hp hl SO rG X0_) hZ (hw _ (List.mem_of_getElem? (i := 119) rfl)) (hw _ (List.mem_of_getElem? (i := 39) rfl)) (by decide) (by decide)) (g := (mkF m 3 #[.val (.ref t), .val (.int (47 : Int32)), .val (.int (0 : Int32)), .val (.int (Int32.ofNat cs.length))] [(.ref t), (.int (Int32.ofNat cs.length)), (.int (0 : Int32))])) rfl (by rw [hml]; rfl) (argsL := [(.int (0 : Int32)), (.int (Int32.ofNat cs.length)), (.ref t)]) (rest := []) (lenOf pd_15 rfl) rfl (by show 2 * 0 + _ ≤ _; exact Nat.le_of_eq rfl) (hb hby d26_3) (fun _ _ => ⟨rfl, e0, (by decide : 0 + 0 ≤ _), (by decide : 0 + 0 ≤ _)⟩)
  dsimp only [Pt.U, Pt.locs, Pt.cells, Pt.slots] at X1 l1 y1 z1 st1 hQ1
  rw [l1, y1, z1] at X1
  change Stand p l e _ _ m _ below meth c T1 _ 0 0 at X1
  obtain ⟨rfl, N1q, eh1⟩ := hQ1
  have N1 := Fr.app N0 N1q
  refine Goes.on (T' := T1) (g' := (mkF m 6 #[.val (.ref t), .val (.int (47 : Int32)), .val (.int (0 : Int32)), .val (.int (Int32.ofNat cs.length))] [])) ?_ st1
  refine Goes.on (T' := T1) (g' := (mkF m 7 #[.val (.ref t), .val (.int (47 : Int32)), .val (.int (0 : Int32)), .val (.int (Int32.ofNat cs.length))] [(.ref t)])) ?_ (fun t_ k_ => XS.aloadN X1.here hx rfl (hb hby d26_6) rfl rfl k_)
  refine Goes.on (T' := T1) (g' := (mkF m 8 #[.val (.ref t), .val (.int (47 : Int32)), .val (.int (0 : Int32)), .val (.int (Int32.ofNat cs.length))] [(.int (47 : Int32)), (.ref t)])) ?_ (fun t_ k_ => XS.iloadN X1.here hx rfl (hb hby d26_7) rfl k_)
  refine Goes.on (T' := T1) (g' := (mkF m 9 #[.val (.ref t), .val (.int (47 : Int32)), .val (.int (0 : Int32)), .val (.int (Int32.ofNat cs.length))] [(.int (0 : Int32)), (.int (47 : Int32)), (.ref t)])) ?_ (fun t_ k_ => XS.iloadN X1.here hx rfl (hb hby d26_8) rfl k_)
  refine Goes.on (T' := T1) (g' := (mkF m 10 #[.val (.ref t), .val (.int (47 : Int32)), .val (.int (0 : Int32)), .val (.int (Int32.ofNat cs.length))] [(.int (Int32.ofNat cs.length)), (.int (0 : Int32)), (.int (47 : Int32)), (.ref t)])) ?_ (fun t_ k_ => XS.iloadN X1.here hx rfl (hb hby d26_9) rfl k_)
  obtain ⟨_, _, ⟨T2, Lq_2, kq_2, nq_2⟩, -, X2, ⟨Lc2, hQ2, l2, y2, z2⟩, st2⟩ := Jvm.LawKit.callS X1 hx (y := (⟨"java/lang/StringUTF16", "indexOfCharUnsafe", "([BIII)I"⟩ : MethodName)) hown (mvT hZ (hw _ (List.mem_of_getElem? (i := 131) rfl))) (mvT hZ (hw _ (List.mem_of_getElem? (i := 132) rfl))) (mvT hZ (hw _ (List.mem_of_getElem? (i := 39) rfl))) (mvT hZ (hw _ (List.mem_of_getElem? (i := 133) rfl))) (by decide) (backOf (W := 0) (rmUS l Z a0 hw [] t kt cs h0 n0 Z0 B hp hl AD HB LB X0_) hZ (hw _ (List.mem_of_getElem? (i := 133) rfl)) (hw _ (List.mem_of_getElem? (i := 39) rfl)) (by decide) (by decide)) (g := (mkF m 10 #[.val (.ref t), .val (.int (47 : Int32)), .val (.int (0 : Int32)), .val (.int (Int32.ofNat cs.length))] [(.int (Int32.ofNat cs.length)), (.int (0 : Int32)), (.int (47 : Int32)), (.ref t)])) rfl (by rw [hml]; rfl) (argsL := [(.ref t), (.int (47 : Int32)), (.int (0 : Int32)), (.int (Int32.ofNat cs.length))]) (rest := []) (lenOf pd_11 rfl) rfl (by show 2 * 0 + _ ≤ _; exact Nat.le_of_eq rfl) (hb hby d26_10) (fun _ _ => ⟨rfl, eh1, (by decide : 0 + 0 ≤ _), (by decide : 0 + 0 ≤ _)⟩)
  dsimp only [Pt.U, Pt.locs, Pt.cells, Pt.slots] at X2 l2 y2 z2 st2 hQ2
  rw [l2, y2, z2] at X2
  change Stand p l e _ _ m _ below meth c T2 _ 0 0 at X2
  obtain ⟨rfl, N2q, eh2⟩ := hQ2
  have N2 := Fr.app N1 N2q
  refine Goes.on (T' := T2) (g' := (mkF m 13 #[.val (.ref t), .val (.int (47 : Int32)), .val (.int (0 : Int32)), .val (.int (Int32.ofNat cs.length))] [(.int (own_idx cs (47 : Int32) cs.length 0))])) ?_ st2
  rw [hWd]
  exact Goes.retn X2 (v := some (.int (own_idx cs (47 : Int32) cs.length 0))) (fun fs hr => retI X2 hx Bd.returns (hb hby d26_13) hr) (fun h => by rw [Bd.returns] at h; cases h) Bd.notSynchronized (by decide) (by decide) (by rw [eh2]; exact ⟨rfl, N2, rfl⟩)
def QUX (Z : State) (t : Addr) (kt : ClassId) (cs : List Int32) (vf : Value) (h0 : Heap) (n0 : Nat) (v : Option Value) (h : Heap) (L : List Loc) : Prop := v = some (.int ((own_idx cs (47 : Int32) cs.length 0))) ∧ Fr n0 L ∧ h = h0
set_option maxRecDepth 65536 in
set_option maxHeartbeats 40000000 in
theorem rmUX (l : Launch) (Z : State) (a0 : Array Value) (hw : ∀ d ∈ tables_1, d.before a0 Z = true) (ws : List Jvm.Cond) (t : Addr) (kt : ClassId) (cs : List Int32) (vf : Value) (h0 : Heap) (n0 : Nat) (Z0 : n0 ≤ h0.size) (B : Arv Z h0 t kt .byte (Int32.ofNat (2 * cs.length)) ((own_u16 cs).map Value.int) (.int 0)) (hp : ∀ c ∈ cs, ¬ c < 0 ∧ ¬ (65535 : Int32) < c) (hl : cs.length ≤ 16) (hl0 : 0 < cs.length) (AD : Sta Z Z.heap "java/lang/StringUTF16" "$assertionsDisabled" "Z" (.int (1 : Int32))) (HB : Sta Z Z.heap "java/lang/StringUTF16" "HI_BYTE_SHIFT" "I" (.int (0 : Int32))) (LB : Sta Z Z.heap "java/lang/StringUTF16" "LO_BYTE_SHIFT" "I" (.int (8 : Int32)))  (SO : Sta Z Z.heap "jdk/internal/util/Preconditions" "SIOOBE_FORMATTER" "Ljava/util/function/BiFunction;" vf) (rG : vf.isRef = true) (X0_ : Old Z n0 h0) :
    MetFree l (⟨"java/lang/StringUTF16", "indexOf", "([BIII)I"⟩ : MethodName) (head1 (Jvm.Cond.code (⟨"java/lang/StringUTF16", "indexOf", "([BIII)I"⟩ : MethodName) jdk_52_method_40_code 4 (some .int) :: ws) ({ frames := 4, cells := 0, slots := 0, locals := 58 } : Room)) (fun a_ U => a_ = #[(.ref t), (.int (47 : Int32)), (.int (0 : Int32)), (.int (Int32.ofNat cs.length))] ∧ Z.Warmed39 U.vm ∧ U.heap = h0) (fun _ _ _ _ _ => True) (fun _ U o U' => ∃ v L, o = .returned v ∧ QUX Z t kt cs vf h0 n0 v U'.heap L ∧ FrameEnd U o U' L ({ frames := 4, cells := 0, slots := 0, locals := 58 } : Room).cells ({ frames := 4, cells := 0, slots := 0, locals := 58 } : Room).slots) := by
  refine MetFree.of_bodySF (plainFor_of_name pn_0) hisR ?_
  intro p e s m args below meth c s₁ Bd hml0 hP hK
  obtain ⟨rfl, hZ, hh⟩ := hP
  have hx := Bd.exec
  have hby := Bd.bytes
  have hml : c.maxLocals = 4 := hml0
  have hown : s.vm.findClass "java/lang/StringUTF16" = some m.cls := findClass_of_methodNamed Bd.named
  have hnm := (name_of_methodNamed Bd.named Bd.method).1
  have X0 : Stand p l e ({ frames := 4, cells := 0, slots := 0, locals := 58 } : Room) s m #[(.ref t), (.int (47 : Int32)), (.int (0 : Int32)), (.int (Int32.ofNat cs.length))] below meth c s₁ [] 0 0 := Stand.of_body Bd
  have e0 : s₁.heap = h0 := by rw [← hh, Bd.state]; rfl
  have N0 := Fr.nil n0
  refine Goes.done ?_
  obtain ⟨W, hWd⟩ : ∃ W : State → Prop, W = EndW s below (QUX Z t kt cs vf h0 n0) ({ frames := 4, cells := 0, slots := 0, locals := 58 } : Room).cells ({ frames := 4, cells := 0, slots := 0, locals := 58 } : Room).slots := ⟨_, rfl⟩
  rw [← hWd]
  have hef : entryFrame m #[(.ref t), (.int (47 : Int32)), (.int (0 : Int32)), (.int (Int32.ofNat cs.length))] 4 = (mkF m 0 #[.val (.ref t), .val (.int (47 : Int32)), .val (.int (0 : Int32)), .val (.int (Int32.ofNat cs.length))] []) := by first | (simp [entryFrame, mkF, argsToLocals, Value.category]; done) | rfl
  rw [hef]
  obtain ⟨cA, A1, -, S1, M1, H1, -⟩ := id B
  have hpos : (0 : Int32) < (Int32.ofNat cs.length) := by rw [show (0 : Int32) = Int32.ofNat 0 from rfl, own_nlt (by omega) (by omega)]; exact hl0
  refine Goes.on (T' := s₁) (g' := (mkF m 1 #[.val (.ref t), .val (.int (47 : Int32)), .val (.int (0 : Int32)), .val (.int (Int32.ofNat cs.length))] [(.int (0 : Int32))])) ?_ (fun t_ k_ => XS.iloadN X0.here hx rfl (hb hby d25_0) rfl k_)
  refine Goes.on (T' := s₁) (g' := (mkF m 2 #[.val (.ref t), .val (.int (47 : Int32)), .val (.int (0 : Int32)), .val (.int (Int32.ofNat cs.length))] [(.int (0 : Int32)), (.int (0 : Int32))])) ?_ (fun t_ k_ => XS.iconst X0.here hx rfl (hb hby d25_1) k_)
  obtain ⟨_, _, ⟨T1, Lq_1, kq_1, nq_1⟩, -, X1, ⟨Lc1, hQ1, l1, y1, z1⟩, st1⟩ := Jvm.LawKit.callS X0 hx (y := (⟨"java/lang/Math", "max", "(II)I"⟩ : MethodName)) hown (mvT hZ (hw _ (List.mem_of_getElem? (i := 111) rfl))) (mvT hZ (hw _ (List.mem_of_getElem? (i := 80) rfl))) (mvT hZ (hw _ (List.mem_of_getElem? (i := 81) rfl))) (mvT hZ (hw _ (List.mem_of_getElem? (i := 82) rfl))) (by decide) (backOf (W := 0) (rmMX l Z a0 hw [] h0 n0 Z0) hZ (hw _ (List.mem_of_getElem? (i := 82) rfl)) (hw _ (List.mem_of_getElem? (i := 81) rfl)) (by decide) (by decide)) (g := (mkF m 2 #[.val (.ref t), .val (.int (47 : Int32)), .val (.int (0 : Int32)), .val (.int (Int32.ofNat cs.length))] [(.int (0 : Int32)), (.int (0 : Int32))])) rfl (by rw [hml]; rfl) (argsL := [(.int (0 : Int32)), (.int (0 : Int32))]) (rest := []) (lenOf pd_10 rfl) rfl (by show 2 * 0 + _ ≤ _; exact Nat.le_of_eq rfl) (hb hby d25_2) (fun _ _ => ⟨rfl, e0, (by decide : 0 + 0 ≤ _), (by decide : 0 + 0 ≤ _)⟩)
  dsimp only [Pt.U, Pt.locs, Pt.cells, Pt.slots] at X1 l1 y1 z1 st1 hQ1
  rw [l1, y1, z1] at X1
  change Stand p l e _ _ m _ below meth c T1 _ 0 0 at X1
  obtain ⟨rfl, N1q, eh1⟩ := hQ1
  have N1 := Fr.app N0 N1q
  refine Goes.on (T' := T1) (g' := (mkF m 5 #[.val (.ref t), .val (.int (47 : Int32)), .val (.int (0 : Int32)), .val (.int (Int32.ofNat cs.length))] [(.int (0 : Int32))])) ?_ st1
  refine Goes.on (T' := T1) (g' := (mkF m 6 #[.val (.ref t), .val (.int (47 : Int32)), .val (.int (0 : Int32)), .val (.int (Int32.ofNat cs.length))] [])) ?_ (fun t_ k_ => XS.istoreN X1.here hx rfl (hb hby d25_5) rfl (l' := #[.val (.ref t), .val (.int (47 : Int32)), .val (.int (0 : Int32)), .val (.int (Int32.ofNat cs.length))]) rfl k_)
  refine Goes.on (T' := T1) (g' := (mkF m 7 #[.val (.ref t), .val (.int (47 : Int32)), .val (.int (0 : Int32)), .val (.int (Int32.ofNat cs.length))] [(.int (Int32.ofNat cs.length))])) ?_ (fun t_ k_ => XS.iloadN X1.here hx rfl (hb hby d25_6) rfl k_)
  refine Goes.on (T' := T1) (g' := (mkF m 8 #[.val (.ref t), .val (.int (47 : Int32)), .val (.int (0 : Int32)), .val (.int (Int32.ofNat cs.length))] [(.ref t), (.int (Int32.ofNat cs.length))])) ?_ (fun t_ k_ => XS.aloadN X1.here hx rfl (hb hby d25_7) rfl rfl k_)
  refine Goes.on (T' := T1) (g' := (mkF m 9 #[.val (.ref t), .val (.int (47 : Int32)), .val (.int (0 : Int32)), .val (.int (Int32.ofNat cs.length))] [(.int cA.slots.size.toInt32), (.int (Int32.ofNat cs.length))])) ?_ (X1.arraylength hx (by rw [eh1]; exact A1.1) (State.isArrayOf_alike hZ.alike A1.2.1) (g := (mkF m 8 #[.val (.ref t), .val (.int (47 : Int32)), .val (.int (0 : Int32)), .val (.int (Int32.ofNat cs.length))] [(.ref t), (.int (Int32.ofNat cs.length))])) rfl rfl (hb hby d25_8))
  rw [len_of S1 M1]
  refine Goes.on (T' := T1) (g' := (mkF m 10 #[.val (.ref t), .val (.int (47 : Int32)), .val (.int (0 : Int32)), .val (.int (Int32.ofNat cs.length))] [(.int (1 : Int32)), (.int (Int32.ofNat (2 * cs.length))), (.int (Int32.ofNat cs.length))])) ?_ (fun t_ k_ => XS.iconst X1.here hx rfl (hb hby d25_9) k_)
  refine Goes.on (T' := T1) (g' := (mkF m 11 #[.val (.ref t), .val (.int (47 : Int32)), .val (.int (0 : Int32)), .val (.int (Int32.ofNat cs.length))] [(.int ((Int32.ofNat (2 * cs.length)) >>> ((1 : Int32) &&& 31))), (.int (Int32.ofNat cs.length))])) ?_ (fun t_ k_ => XS.ishr X1.here hx rfl (hb hby d25_10) rfl k_)
  rw [own_hlf hl]
  obtain ⟨_, _, ⟨T2, Lq_2, kq_2, nq_2⟩, -, X2, ⟨Lc2, hQ2, l2, y2, z2⟩, st2⟩ := Jvm.LawKit.callS X1 hx (y := (⟨"java/lang/Math", "min", "(II)I"⟩ : MethodName)) hown (mvT hZ (hw _ (List.mem_of_getElem? (i := 112) rfl))) (mvT hZ (hw _ (List.mem_of_getElem? (i := 84) rfl))) (mvT hZ (hw _ (List.mem_of_getElem? (i := 81) rfl))) (mvT hZ (hw _ (List.mem_of_getElem? (i := 85) rfl))) (by decide) (backOf (W := 0) (rmMI l Z a0 hw [] (Int32.ofNat cs.length) h0 n0 Z0) hZ (hw _ (List.mem_of_getElem? (i := 85) rfl)) (hw _ (List.mem_of_getElem? (i := 81) rfl)) (by decide) (by decide)) (g := (mkF m 11 #[.val (.ref t), .val (.int (47 : Int32)), .val (.int (0 : Int32)), .val (.int (Int32.ofNat cs.length))] [(.int (Int32.ofNat cs.length)), (.int (Int32.ofNat cs.length))])) rfl (by rw [hml]; rfl) (argsL := [(.int (Int32.ofNat cs.length)), (.int (Int32.ofNat cs.length))]) (rest := []) (lenOf pd_10 rfl) rfl (by show 2 * 0 + _ ≤ _; exact Nat.le_of_eq rfl) (hb hby d25_11) (fun _ _ => ⟨rfl, eh1, (by decide : 0 + 0 ≤ _), (by decide : 0 + 0 ≤ _)⟩)
  dsimp only [Pt.U, Pt.locs, Pt.cells, Pt.slots] at X2 l2 y2 z2 st2 hQ2
  rw [l2, y2, z2] at X2
  change Stand p l e _ _ m _ below meth c T2 _ 0 0 at X2
  obtain ⟨rfl, N2q, eh2⟩ := hQ2
  have N2 := Fr.app N1 N2q
  refine Goes.on (T' := T2) (g' := (mkF m 14 #[.val (.ref t), .val (.int (47 : Int32)), .val (.int (0 : Int32)), .val (.int (Int32.ofNat cs.length))] [(.int (Int32.ofNat cs.length))])) ?_ st2
  refine Goes.on (T' := T2) (g' := (mkF m 15 #[.val (.ref t), .val (.int (47 : Int32)), .val (.int (0 : Int32)), .val (.int (Int32.ofNat cs.length))] [])) ?_ (fun t_ k_ => XS.istoreN X2.here hx rfl (hb hby d25_14) rfl (l' := #[.val (.ref t), .val (.int (47 : Int32)), .val (.int (0 : Int32)), .val (.int (Int32.ofNat cs.length))]) rfl k_)
  refine Goes.on (T' := T2) (g' := (mkF m 16 #[.val (.ref t), .val (.int (47 : Int32)), .val (.int (0 : Int32)), .val (.int (Int32.ofNat cs.length))] [(.int (0 : Int32))])) ?_ (fun t_ k_ => XS.iloadN X2.here hx rfl (hb hby d25_15) rfl k_)
  refine Goes.on (T' := T2) (g' := (mkF m 17 #[.val (.ref t), .val (.int (47 : Int32)), .val (.int (0 : Int32)), .val (.int (Int32.ofNat cs.length))] [(.int (Int32.ofNat cs.length)), (.int (0 : Int32))])) ?_ (fun t_ k_ => XS.iloadN X2.here hx rfl (hb hby d25_16) rfl k_)
  refine Goes.on (T' := T2) (g' := (mkF m 22 #[.val (.ref t), .val (.int (47 : Int32)), .val (.int (0 : Int32)), .val (.int (Int32.ofNat cs.length))] [])) ?_ (fun t_ k_ => XS.icmpYes X2.here hx rfl (pc0 := 17) (pc' := 22) rfl (hb hby d25_17) rfl (tlt hpos).1 (by decide) (by decide) k_)
  refine Goes.on (T' := T2) (g' := (mkF m 23 #[.val (.ref t), .val (.int (47 : Int32)), .val (.int (0 : Int32)), .val (.int (Int32.ofNat cs.length))] [(.int (47 : Int32))])) ?_ (fun t_ k_ => XS.iloadN X2.here hx rfl (hb hby d25_22) rfl k_)
  refine Goes.on (T' := T2) (g' := (mkF m 25 #[.val (.ref t), .val (.int (47 : Int32)), .val (.int (0 : Int32)), .val (.int (Int32.ofNat cs.length))] [(.int (65536 : Int32)), (.int (47 : Int32))])) ?_ (X2.ldcInt hx hown (mvT hZ (hw _ (List.mem_of_getElem? (i := 113) rfl))) (g := (mkF m 23 #[.val (.ref t), .val (.int (47 : Int32)), .val (.int (0 : Int32)), .val (.int (Int32.ofNat cs.length))] [(.int (47 : Int32))])) rfl (hb hby d25_23))
  refine Goes.on (T' := T2) (g' := (mkF m 28 #[.val (.ref t), .val (.int (47 : Int32)), .val (.int (0 : Int32)), .val (.int (Int32.ofNat cs.length))] [])) ?_ (fun t_ k_ => XS.icmpNo X2.here hx rfl (hb hby d25_25) rfl (by decide) k_)
  refine Goes.on (T' := T2) (g' := (mkF m 29 #[.val (.ref t), .val (.int (47 : Int32)), .val (.int (0 : Int32)), .val (.int (Int32.ofNat cs.length))] [(.ref t)])) ?_ (fun t_ k_ => XS.aloadN X2.here hx rfl (hb hby d25_28) rfl rfl k_)
  refine Goes.on (T' := T2) (g' := (mkF m 30 #[.val (.ref t), .val (.int (47 : Int32)), .val (.int (0 : Int32)), .val (.int (Int32.ofNat cs.length))] [(.int (47 : Int32)), (.ref t)])) ?_ (fun t_ k_ => XS.iloadN X2.here hx rfl (hb hby d25_29) rfl k_)
  refine Goes.on (T' := T2) (g' := (mkF m 31 #[.val (.ref t), .val (.int (47 : Int32)), .val (.int (0 : Int32)), .val (.int (Int32.ofNat cs.length))] [(.int (0 : Int32)), (.int (47 : Int32)), (.ref t)])) ?_ (fun t_ k_ => XS.iloadN X2.here hx rfl (hb hby d25_30) rfl k_)
  refine Goes.on (T' := T2) (g' := (mkF m 32 #[.val (.ref t), .val (.int (47 : Int32)), .val (.int (0 : Int32)), .val (.int (Int32.ofNat cs.length))] [(.int (Int32.ofNat cs.length)), (.int (0 : Int32)), (.int (47 : Int32)), (.ref t)])) ?_ (fun t_ k_ => XS.iloadN X2.here hx rfl (hb hby d25_31) rfl k_)
  obtain ⟨_, _, ⟨T3, Lq_3, kq_3, nq_3⟩, -, X3, ⟨Lc3, hQ3, l3, y3, z3⟩, st3⟩ := Jvm.LawKit.callS X2 hx (y := (⟨"java/lang/StringUTF16", "indexOfChar", "([BIII)I"⟩ : MethodName)) hown (mvT hZ (hw _ (List.mem_of_getElem? (i := 114) rfl))) (mvT hZ (hw _ (List.mem_of_getElem? (i := 115) rfl))) (mvT hZ (hw _ (List.mem_of_getElem? (i := 39) rfl))) (mvT hZ (hw _ (List.mem_of_getElem? (i := 116) rfl))) (by decide) (backOf (W := 0) (rmUJ l Z a0 hw [] t kt cs vf h0 n0 Z0 B hp hl hl0 AD HB LB SO rG X0_) hZ (hw _ (List.mem_of_getElem? (i := 116) rfl)) (hw _ (List.mem_of_getElem? (i := 39) rfl)) (by decide) (by decide)) (g := (mkF m 32 #[.val (.ref t), .val (.int (47 : Int32)), .val (.int (0 : Int32)), .val (.int (Int32.ofNat cs.length))] [(.int (Int32.ofNat cs.length)), (.int (0 : Int32)), (.int (47 : Int32)), (.ref t)])) rfl (by rw [hml]; rfl) (argsL := [(.ref t), (.int (47 : Int32)), (.int (0 : Int32)), (.int (Int32.ofNat cs.length))]) (rest := []) (lenOf pd_11 rfl) rfl (by show 2 * 0 + _ ≤ _; exact Nat.le_of_eq rfl) (hb hby d25_32) (fun _ _ => ⟨rfl, eh2, (by decide : 0 + 0 ≤ _), (by decide : 0 + 0 ≤ _)⟩)
  dsimp only [Pt.U, Pt.locs, Pt.cells, Pt.slots] at X3 l3 y3 z3 st3 hQ3
  rw [l3, y3, z3] at X3
  change Stand p l e _ _ m _ below meth c T3 _ 0 0 at X3
  obtain ⟨rfl, N3q, eh3⟩ := hQ3
  have N3 := Fr.app N2 N3q
  refine Goes.on (T' := T3) (g' := (mkF m 35 #[.val (.ref t), .val (.int (47 : Int32)), .val (.int (0 : Int32)), .val (.int (Int32.ofNat cs.length))] [(.int (own_idx cs (47 : Int32) cs.length 0))])) ?_ st3
  rw [hWd]
  exact Goes.retn X3 (v := some (.int (own_idx cs (47 : Int32) cs.length 0))) (fun fs hr => retI X3 hx Bd.returns (hb hby d25_35) hr) (fun h => by rw [Bd.returns] at h; cases h) Bd.notSynchronized (by decide) (by decide) (by rw [eh3]; exact ⟨rfl, N3, rfl⟩)
def QI2 (Z : State) (x t : Addr) (kt : ClassId) (cs : List Int32) (cd : Int32) (zc : Int32) (vf : Value) (h0 : Heap) (n0 : Nat) (v : Option Value) (h : Heap) (L : List Loc) : Prop := v = some (.int ((own_idx cs (47 : Int32) cs.length 0))) ∧ Fr n0 L ∧ h = h0
set_option maxRecDepth 65536 in
set_option maxHeartbeats 40000000 in
theorem rmI2 (l : Launch) (Z : State) (a0 : Array Value) (hw : ∀ d ∈ tables_1, d.before a0 Z = true) (ws : List Jvm.Cond) (x t : Addr) (kt : ClassId) (cs : List Int32) (cd : Int32) (zc : Int32) (vf : Value) (h0 : Heap) (n0 : Nat) (Z0 : n0 ≤ h0.size) (TX : Txt Z h0 x t kt cs cd) (CS : Sta Z Z.heap "java/lang/String" "COMPACT_STRINGS" "Z" (.int zc)) (hzc : ¬ zc = (0 : Int32)) (hp : ∀ c ∈ cs, ¬ c < 0 ∧ ¬ (65535 : Int32) < c) (hl : cs.length ≤ 16) (hl0 : 0 < cs.length) (X0_ : Old Z n0 h0) (AD : Sta Z Z.heap "java/lang/StringUTF16" "$assertionsDisabled" "Z" (.int (1 : Int32))) (HB : Sta Z Z.heap "java/lang/StringUTF16" "HI_BYTE_SHIFT" "I" (.int (0 : Int32))) (LB : Sta Z Z.heap "java/lang/StringUTF16" "LO_BYTE_SHIFT" "I" (.int (8 : Int32)))  (SO : Sta Z Z.heap "jdk/internal/util/Preconditions" "SIOOBE_FORMATTER" "Ljava/util/function/BiFunction;" vf) (rG : vf.isRef = true) :
    MetFree l (⟨"java/lang/String", "indexOf", "(II)I"⟩ : MethodName) (head1 (Jvm.Cond.code (⟨"java/lang/String", "indexOf", "(II)I"⟩ : MethodName) jdk_42_method_80_code 3 (some .int) :: ws) ({ frames := 5, cells := 0, slots := 0, locals := 73 } : Room)) (fun a_ U => a_ = #[(.ref x), (.int (47 : Int32)), (.int (0 : Int32))] ∧ Z.Warmed39 U.vm ∧ U.heap = h0) (fun _ _ _ _ _ => True) (fun _ U o U' => ∃ v L, o = .returned v ∧ QI2 Z x t kt cs cd zc vf h0 n0 v U'.heap L ∧ FrameEnd U o U' L ({ frames := 5, cells := 0, slots := 0, locals := 73 } : Room).cells ({ frames := 5, cells := 0, slots := 0, locals := 73 } : Room).slots) := by
  refine MetFree.of_bodySF (plainFor_of_name pn_1) hisR ?_
  intro p e s m args below meth c s₁ Bd hml0 hP hK
  obtain ⟨rfl, hZ, hh⟩ := hP
  have hx := Bd.exec
  have hby := Bd.bytes
  have hml : c.maxLocals = 3 := hml0
  have hown : s.vm.findClass "java/lang/String" = some m.cls := findClass_of_methodNamed Bd.named
  have hnm := (name_of_methodNamed Bd.named Bd.method).1
  have X0 : Stand p l e ({ frames := 5, cells := 0, slots := 0, locals := 73 } : Room) s m #[(.ref x), (.int (47 : Int32)), (.int (0 : Int32))] below meth c s₁ [] 0 0 := Stand.of_body Bd
  have e0 : s₁.heap = h0 := by rw [← hh, Bd.state]; rfl
  have N0 := Fr.nil n0
  refine Goes.done ?_
  obtain ⟨W, hWd⟩ : ∃ W : State → Prop, W = EndW s below (QI2 Z x t kt cs cd zc vf h0 n0) ({ frames := 5, cells := 0, slots := 0, locals := 73 } : Room).cells ({ frames := 5, cells := 0, slots := 0, locals := 73 } : Room).slots := ⟨_, rfl⟩
  rw [← hWd]
  have hef : entryFrame m #[(.ref x), (.int (47 : Int32)), (.int (0 : Int32))] 3 = (mkF m 0 #[.val (.ref x), .val (.int (47 : Int32)), .val (.int (0 : Int32))] []) := by first | (simp [entryFrame, mkF, argsToLocals, Value.category]; done) | rfl
  rw [hef]
  obtain ⟨E, FC, FV, BY⟩ := id TX
  refine Goes.on (T' := s₁) (g' := (mkF m 1 #[.val (.ref x), .val (.int (47 : Int32)), .val (.int (0 : Int32))] [(.ref x)])) ?_ (fun t_ k_ => XS.aloadN X0.here hx rfl (hb hby d11_0) rfl rfl k_)
  obtain ⟨cq1, kq1, q1a, q1b, q1c⟩ := isOf hZ e0 E
  obtain ⟨_, _, ⟨T1, Lq_1, kq_1, nq_1⟩, -, X1, ⟨Lc1, hQ1, l1, y1, z1⟩, st1⟩ := X0.virtualBack hx (y := (⟨"java/lang/String", "isLatin1", "()Z"⟩ : MethodName)) (z := (⟨"java/lang/String", "isLatin1", "()Z"⟩ : MethodName)) hown (mvT hZ (hw _ (List.mem_of_getElem? (i := 57) rfl))) (mvT hZ (hw _ (List.mem_of_getElem? (i := 58) rfl))) (notFace_of_selects (args := #[]) (mvT hZ (hw _ (List.mem_of_getElem? (i := 60) rfl)))) (mvT hZ (hw _ (List.mem_of_getElem? (i := 60) rfl))) (mvT hZ (hw _ (List.mem_of_getElem? (i := 59) rfl))) (by decide) (backOf (W := 0) (rmLA l Z a0 hw [] x cd zc h0 n0 Z0 FC CS hzc X0_) hZ (hw _ (List.mem_of_getElem? (i := 61) rfl)) (hw _ (List.mem_of_getElem? (i := 7) rfl)) (by decide) (by decide)) q1a q1c (g := (mkF m 1 #[.val (.ref x), .val (.int (47 : Int32)), .val (.int (0 : Int32))] [(.ref x)])) rfl (by rw [hml]; rfl) (Steps.refl _) (argsL := []) (rest := []) (lenOf pd_16 rfl) rfl (by show 2 * 0 + _ ≤ _; exact Nat.le_of_eq rfl) (hb hby d11_1) (fun _ _ => ⟨rfl, e0, (by decide : 0 + 0 ≤ _), (by decide : 0 + 0 ≤ _)⟩)
  dsimp only [Pt.U, Pt.locs, Pt.cells, Pt.slots] at X1 l1 y1 z1 st1 hQ1
  rw [l1, y1, z1] at X1
  change Stand p l e _ _ m _ below meth c T1 _ 0 0 at X1
  obtain ⟨rfl, N1q, eh1⟩ := hQ1
  have N1 := Fr.app N0 N1q
  refine Goes.on (T' := T1) (g' := (mkF m 4 #[.val (.ref x), .val (.int (47 : Int32)), .val (.int (0 : Int32))] [(.int (if cd = 0 then 1 else 0))])) ?_ (fun t => st1.trans)
  refine Goes.ifP X1 hx rfl (pc0 := 4) (pc' := 23) rfl (hb hby d11_4) rfl (by decide) (by decide) (P := (if cd = 0 then 1 else 0) = (0 : Int32)) (ifc_eq _ _) (fun hc4 => ?_) (fun hc4 => ?_)
  · show Goes p e below W T1 (mkF m 23 #[.val (.ref x), .val (.int (47 : Int32)), .val (.int (0 : Int32))] [])
    refine Goes.on (T' := T1) (g' := (mkF m 24 #[.val (.ref x), .val (.int (47 : Int32)), .val (.int (0 : Int32))] [(.ref x)])) ?_ (fun t_ k_ => XS.aloadN X1.here hx rfl (hb hby d11_23) rfl rfl k_)
    obtain ⟨T2, X2, e2, st2⟩ := getF X1 hx hZ hown (host := "") (Or.inl (hw _ (List.mem_of_getElem? (i := 25) rfl))) Via.refl eh1 FV (g := (mkF m 24 #[.val (.ref x), .val (.int (47 : Int32)), .val (.int (0 : Int32))] [(.ref x)])) rfl rfl (hb hby d11_24)
    refine Goes.on (T' := T2) (g' := (mkF m 27 #[.val (.ref x), .val (.int (47 : Int32)), .val (.int (0 : Int32))] [(.ref t)])) ?_ st2
    refine Goes.on (T' := T2) (g' := (mkF m 28 #[.val (.ref x), .val (.int (47 : Int32)), .val (.int (0 : Int32))] [(.int (47 : Int32)), (.ref t)])) ?_ (fun t_ k_ => XS.iloadN X2.here hx rfl (hb hby d11_27) rfl k_)
    refine Goes.on (T' := T2) (g' := (mkF m 29 #[.val (.ref x), .val (.int (47 : Int32)), .val (.int (0 : Int32))] [(.int (0 : Int32)), (.int (47 : Int32)), (.ref t)])) ?_ (fun t_ k_ => XS.iloadN X2.here hx rfl (hb hby d11_28) rfl k_)
    refine Goes.on (T' := T2) (g' := (mkF m 30 #[.val (.ref x), .val (.int (47 : Int32)), .val (.int (0 : Int32))] [(.ref x), (.int (0 : Int32)), (.int (47 : Int32)), (.ref t)])) ?_ (fun t_ k_ => XS.aloadN X2.here hx rfl (hb hby d11_29) rfl rfl k_)
    obtain ⟨cq3, kq3, q3a, q3b, q3c⟩ := isOf hZ e2 E
    obtain ⟨_, _, ⟨T3, Lq_3, kq_3, nq_3⟩, -, X3, ⟨Lc3, hQ3, l3, y3, z3⟩, st3⟩ := X2.virtualBack hx (y := (⟨"java/lang/String", "length", "()I"⟩ : MethodName)) (z := (⟨"java/lang/String", "length", "()I"⟩ : MethodName)) hown (mvT hZ (hw _ (List.mem_of_getElem? (i := 62) rfl))) (mvT hZ (hw _ (List.mem_of_getElem? (i := 63) rfl))) (notFace_of_selects (args := #[]) (mvT hZ (hw _ (List.mem_of_getElem? (i := 65) rfl)))) (mvT hZ (hw _ (List.mem_of_getElem? (i := 65) rfl))) (mvT hZ (hw _ (List.mem_of_getElem? (i := 64) rfl))) (by decide) (backOf (W := 3) (rmSL l Z a0 hw [] x t kt cs cd zc h0 n0 Z0 TX CS hzc hp hl hl0 X0_) hZ (hw _ (List.mem_of_getElem? (i := 66) rfl)) (hw _ (List.mem_of_getElem? (i := 7) rfl)) (by decide) (by decide)) q3a q3c (g := (mkF m 30 #[.val (.ref x), .val (.int (47 : Int32)), .val (.int (0 : Int32))] [(.ref x), (.int (0 : Int32)), (.int (47 : Int32)), (.ref t)])) rfl (by rw [hml]; rfl) (Steps.refl _) (argsL := []) (rest := [(.int (0 : Int32)), (.int (47 : Int32)), (.ref t)]) (lenOf pd_17 rfl) rfl (by show 2 * 0 + _ ≤ _; exact Nat.le_of_eq rfl) (hb hby d11_30) (fun _ _ => ⟨rfl, e2, (by decide : 0 + 0 ≤ _), (by decide : 0 + 0 ≤ _)⟩)
    dsimp only [Pt.U, Pt.locs, Pt.cells, Pt.slots] at X3 l3 y3 z3 st3 hQ3
    rw [l3, y3, z3] at X3
    change Stand p l e _ _ m _ below meth c T3 _ 0 0 at X3
    obtain ⟨rfl, N3q, eh3⟩ := hQ3
    have N3 := Fr.app N1 N3q
    refine Goes.on (T' := T3) (g' := (mkF m 33 #[.val (.ref x), .val (.int (47 : Int32)), .val (.int (0 : Int32))] [(.int (Int32.ofNat cs.length)), (.int (0 : Int32)), (.int (47 : Int32)), (.ref t)])) ?_ (fun t => st3.trans)
    obtain ⟨hcd, hfl, B⟩ := BY.resolve_left (fun q => absurd hc4 (by rw [q.1]; decide))
    obtain ⟨_, _, ⟨T4, Lq_4, kq_4, nq_4⟩, -, X4, ⟨Lc4, hQ4, l4, y4, z4⟩, st4⟩ := Jvm.LawKit.callS X3 hx (y := (⟨"java/lang/StringUTF16", "indexOf", "([BIII)I"⟩ : MethodName)) hown (mvT hZ (hw _ (List.mem_of_getElem? (i := 108) rfl))) (mvT hZ (hw _ (List.mem_of_getElem? (i := 109) rfl))) (mvT hZ (hw _ (List.mem_of_getElem? (i := 39) rfl))) (mvT hZ (hw _ (List.mem_of_getElem? (i := 110) rfl))) (by decide) (backOf (W := 0) (rmUX l Z a0 hw [] t kt cs vf h0 n0 Z0 B hp hl hl0 AD HB LB SO rG X0_) hZ (hw _ (List.mem_of_getElem? (i := 110) rfl)) (hw _ (List.mem_of_getElem? (i := 39) rfl)) (by decide) (by decide)) (g := (mkF m 33 #[.val (.ref x), .val (.int (47 : Int32)), .val (.int (0 : Int32))] [(.int (Int32.ofNat cs.length)), (.int (0 : Int32)), (.int (47 : Int32)), (.ref t)])) rfl (by rw [hml]; rfl) (argsL := [(.ref t), (.int (47 : Int32)), (.int (0 : Int32)), (.int (Int32.ofNat cs.length))]) (rest := []) (lenOf pd_11 rfl) rfl (by show 2 * 0 + _ ≤ _; exact Nat.le_of_eq rfl) (hb hby d11_33) (fun _ _ => ⟨rfl, eh3, (by decide : 0 + 0 ≤ _), (by decide : 0 + 0 ≤ _)⟩)
    dsimp only [Pt.U, Pt.locs, Pt.cells, Pt.slots] at X4 l4 y4 z4 st4 hQ4
    rw [l4, y4, z4] at X4
    change Stand p l e _ _ m _ below meth c T4 _ 0 0 at X4
    obtain ⟨rfl, N4q, eh4⟩ := hQ4
    have N4 := Fr.app N3 N4q
    refine Goes.on (T' := T4) (g' := (mkF m 36 #[.val (.ref x), .val (.int (47 : Int32)), .val (.int (0 : Int32))] [(.int (own_idx cs (47 : Int32) cs.length 0))])) ?_ st4
    rw [hWd]
    exact Goes.retn X4 (v := some (.int (own_idx cs (47 : Int32) cs.length 0))) (fun fs hr => retI X4 hx Bd.returns (hb hby d11_36) hr) (fun h => by rw [Bd.returns] at h; cases h) Bd.notSynchronized (by decide) (by decide) (by rw [eh4]; exact ⟨rfl, N4, rfl⟩)
  · show Goes p e below W T1 (mkF m 7 #[.val (.ref x), .val (.int (47 : Int32)), .val (.int (0 : Int32))] [])
    refine Goes.on (T' := T1) (g' := (mkF m 8 #[.val (.ref x), .val (.int (47 : Int32)), .val (.int (0 : Int32))] [(.ref x)])) ?_ (fun t_ k_ => XS.aloadN X1.here hx rfl (hb hby d11_7) rfl rfl k_)
    obtain ⟨T5, X5, e5, st5⟩ := getF X1 hx hZ hown (host := "") (Or.inl (hw _ (List.mem_of_getElem? (i := 25) rfl))) Via.refl eh1 FV (g := (mkF m 8 #[.val (.ref x), .val (.int (47 : Int32)), .val (.int (0 : Int32))] [(.ref x)])) rfl rfl (hb hby d11_8)
    refine Goes.on (T' := T5) (g' := (mkF m 11 #[.val (.ref x), .val (.int (47 : Int32)), .val (.int (0 : Int32))] [(.ref t)])) ?_ st5
    refine Goes.on (T' := T5) (g' := (mkF m 12 #[.val (.ref x), .val (.int (47 : Int32)), .val (.int (0 : Int32))] [(.int (47 : Int32)), (.ref t)])) ?_ (fun t_ k_ => XS.iloadN X5.here hx rfl (hb hby d11_11) rfl k_)
    refine Goes.on (T' := T5) (g' := (mkF m 13 #[.val (.ref x), .val (.int (47 : Int32)), .val (.int (0 : Int32))] [(.int (0 : Int32)), (.int (47 : Int32)), (.ref t)])) ?_ (fun t_ k_ => XS.iloadN X5.here hx rfl (hb hby d11_12) rfl k_)
    refine Goes.on (T' := T5) (g' := (mkF m 14 #[.val (.ref x), .val (.int (47 : Int32)), .val (.int (0 : Int32))] [(.ref x), (.int (0 : Int32)), (.int (47 : Int32)), (.ref t)])) ?_ (fun t_ k_ => XS.aloadN X5.here hx rfl (hb hby d11_13) rfl rfl k_)
    obtain ⟨cq6, kq6, q6a, q6b, q6c⟩ := isOf hZ e5 E
    obtain ⟨_, _, ⟨T6, Lq_6, kq_6, nq_6⟩, -, X6, ⟨Lc6, hQ6, l6, y6, z6⟩, st6⟩ := X5.virtualBack hx (y := (⟨"java/lang/String", "length", "()I"⟩ : MethodName)) (z := (⟨"java/lang/String", "length", "()I"⟩ : MethodName)) hown (mvT hZ (hw _ (List.mem_of_getElem? (i := 62) rfl))) (mvT hZ (hw _ (List.mem_of_getElem? (i := 63) rfl))) (notFace_of_selects (args := #[]) (mvT hZ (hw _ (List.mem_of_getElem? (i := 65) rfl)))) (mvT hZ (hw _ (List.mem_of_getElem? (i := 65) rfl))) (mvT hZ (hw _ (List.mem_of_getElem? (i := 64) rfl))) (by decide) (backOf (W := 3) (rmSL l Z a0 hw [] x t kt cs cd zc h0 n0 Z0 TX CS hzc hp hl hl0 X0_) hZ (hw _ (List.mem_of_getElem? (i := 66) rfl)) (hw _ (List.mem_of_getElem? (i := 7) rfl)) (by decide) (by decide)) q6a q6c (g := (mkF m 14 #[.val (.ref x), .val (.int (47 : Int32)), .val (.int (0 : Int32))] [(.ref x), (.int (0 : Int32)), (.int (47 : Int32)), (.ref t)])) rfl (by rw [hml]; rfl) (Steps.refl _) (argsL := []) (rest := [(.int (0 : Int32)), (.int (47 : Int32)), (.ref t)]) (lenOf pd_17 rfl) rfl (by show 2 * 0 + _ ≤ _; exact Nat.le_of_eq rfl) (hb hby d11_14) (fun _ _ => ⟨rfl, e5, (by decide : 0 + 0 ≤ _), (by decide : 0 + 0 ≤ _)⟩)
    dsimp only [Pt.U, Pt.locs, Pt.cells, Pt.slots] at X6 l6 y6 z6 st6 hQ6
    rw [l6, y6, z6] at X6
    change Stand p l e _ _ m _ below meth c T6 _ 0 0 at X6
    obtain ⟨rfl, N6q, eh6⟩ := hQ6
    have N6 := Fr.app N1 N6q
    refine Goes.on (T' := T6) (g' := (mkF m 17 #[.val (.ref x), .val (.int (47 : Int32)), .val (.int (0 : Int32))] [(.int (Int32.ofNat cs.length)), (.int (0 : Int32)), (.int (47 : Int32)), (.ref t)])) ?_ (fun t => st6.trans)
    obtain ⟨hcd, hfit, B⟩ := BY.resolve_right (fun q => hc4 (by rw [q.1]; rfl))
    obtain ⟨_, _, ⟨T7, Lq_7, kq_7, nq_7⟩, -, X7, ⟨Lc7, hQ7, l7, y7, z7⟩, st7⟩ := Jvm.LawKit.callS X6 hx (y := (⟨"java/lang/StringLatin1", "indexOf", "([BIII)I"⟩ : MethodName)) hown (mvT hZ (hw _ (List.mem_of_getElem? (i := 72) rfl))) (mvT hZ (hw _ (List.mem_of_getElem? (i := 73) rfl))) (mvT hZ (hw _ (List.mem_of_getElem? (i := 74) rfl))) (mvT hZ (hw _ (List.mem_of_getElem? (i := 75) rfl))) (by decide) (backOf (W := 0) (rmLI l Z a0 hw [] t kt cs h0 n0 Z0 hfit B hp hl hl0) hZ (hw _ (List.mem_of_getElem? (i := 75) rfl)) (hw _ (List.mem_of_getElem? (i := 74) rfl)) (by decide) (by decide)) (g := (mkF m 17 #[.val (.ref x), .val (.int (47 : Int32)), .val (.int (0 : Int32))] [(.int (Int32.ofNat cs.length)), (.int (0 : Int32)), (.int (47 : Int32)), (.ref t)])) rfl (by rw [hml]; rfl) (argsL := [(.ref t), (.int (47 : Int32)), (.int (0 : Int32)), (.int (Int32.ofNat cs.length))]) (rest := []) (lenOf pd_11 rfl) rfl (by show 2 * 0 + _ ≤ _; exact Nat.le_of_eq rfl) (hb hby d11_17) (fun _ _ => ⟨rfl, eh6, (by decide : 0 + 0 ≤ _), (by decide : 0 + 0 ≤ _)⟩)
    dsimp only [Pt.U, Pt.locs, Pt.cells, Pt.slots] at X7 l7 y7 z7 st7 hQ7
    rw [l7, y7, z7] at X7
    change Stand p l e _ _ m _ below meth c T7 _ 0 0 at X7
    obtain ⟨rfl, N7q, eh7⟩ := hQ7
    have N7 := Fr.app N6 N7q
    refine Goes.on (T' := T7) (g' := (mkF m 20 #[.val (.ref x), .val (.int (47 : Int32)), .val (.int (0 : Int32))] [(.int (own_idx cs (47 : Int32) cs.length 0))])) ?_ st7
    refine Goes.on (T' := T7) (g' := (mkF m 36 #[.val (.ref x), .val (.int (47 : Int32)), .val (.int (0 : Int32))] [(.int (own_idx cs (47 : Int32) cs.length 0))])) ?_ (fun t_ k_ => XS.goto X7.here hx rfl (pc0 := 20) (pc' := 36) rfl (hb hby d11_20) (by decide) (by decide) k_)
    rw [hWd]
    exact Goes.retn X7 (v := some (.int (own_idx cs (47 : Int32) cs.length 0))) (fun fs hr => retI X7 hx Bd.returns (hb hby d11_36) hr) (fun h => by rw [Bd.returns] at h; cases h) Bd.notSynchronized (by decide) (by decide) (by rw [eh7]; exact ⟨rfl, N7, rfl⟩)
def QIX (Z : State) (x t : Addr) (kt : ClassId) (cs : List Int32) (cd : Int32) (zc : Int32) (vf : Value) (h0 : Heap) (n0 : Nat) (v : Option Value) (h : Heap) (L : List Loc) : Prop := v = some (.int ((own_idx cs (47 : Int32) cs.length 0))) ∧ Fr n0 L ∧ h = h0
set_option maxRecDepth 65536 in
set_option maxHeartbeats 40000000 in
theorem rmIX (l : Launch) (Z : State) (a0 : Array Value) (hw : ∀ d ∈ tables_1, d.before a0 Z = true) (ws : List Jvm.Cond) (x t : Addr) (kt : ClassId) (cs : List Int32) (cd : Int32) (zc : Int32) (vf : Value) (h0 : Heap) (n0 : Nat) (Z0 : n0 ≤ h0.size) (TX : Txt Z h0 x t kt cs cd) (CS : Sta Z Z.heap "java/lang/String" "COMPACT_STRINGS" "Z" (.int zc)) (hzc : ¬ zc = (0 : Int32)) (hp : ∀ c ∈ cs, ¬ c < 0 ∧ ¬ (65535 : Int32) < c) (hl : cs.length ≤ 16) (hl0 : 0 < cs.length) (X0_ : Old Z n0 h0) (AD : Sta Z Z.heap "java/lang/StringUTF16" "$assertionsDisabled" "Z" (.int (1 : Int32))) (HB : Sta Z Z.heap "java/lang/StringUTF16" "HI_BYTE_SHIFT" "I" (.int (0 : Int32))) (LB : Sta Z Z.heap "java/lang/StringUTF16" "LO_BYTE_SHIFT" "I" (.int (8 : Int32)))  (SO : Sta Z Z.heap "jdk/internal/util/Preconditions" "SIOOBE_FORMATTER" "Ljava/util/function/BiFunction;" vf) (rG : vf.isRef = true) :
    MetFree l (⟨"java/lang/String", "indexOf", "(I)I"⟩ : MethodName) (head1 (Jvm.Cond.code (⟨"java/lang/String", "indexOf", "(I)I"⟩ : MethodName) jdk_42_method_79_code 2 (some .int) :: ws) ({ frames := 6, cells := 0, slots := 0, locals := 87 } : Room)) (fun a_ U => a_ = #[(.ref x), (.int (47 : Int32))] ∧ Z.Warmed39 U.vm ∧ U.heap = h0) (fun _ _ _ _ _ => True) (fun _ U o U' => ∃ v L, o = .returned v ∧ QIX Z x t kt cs cd zc vf h0 n0 v U'.heap L ∧ FrameEnd U o U' L ({ frames := 6, cells := 0, slots := 0, locals := 87 } : Room).cells ({ frames := 6, cells := 0, slots := 0, locals := 87 } : Room).slots) := by
  refine MetFree.of_bodySF (plainFor_of_name pn_1) hisR ?_
  intro p e s m args below meth c s₁ Bd hml0 hP hK
  obtain ⟨rfl, hZ, hh⟩ := hP
  have hx := Bd.exec
  have hby := Bd.bytes
  have hml : c.maxLocals = 2 := hml0
  have hown : s.vm.findClass "java/lang/String" = some m.cls := findClass_of_methodNamed Bd.named
  have hnm := (name_of_methodNamed Bd.named Bd.method).1
  have X0 : Stand p l e ({ frames := 6, cells := 0, slots := 0, locals := 87 } : Room) s m #[(.ref x), (.int (47 : Int32))] below meth c s₁ [] 0 0 := Stand.of_body Bd
  have e0 : s₁.heap = h0 := by rw [← hh, Bd.state]; rfl
  have N0 := Fr.nil n0
  refine Goes.done ?_
  obtain ⟨W, hWd⟩ : ∃ W : State → Prop, W = EndW s below (QIX Z x t kt cs cd zc vf h0 n0) ({ frames := 6, cells := 0, slots := 0, locals := 87 } : Room).cells ({ frames := 6, cells := 0, slots := 0, locals := 87 } : Room).slots := ⟨_, rfl⟩
  rw [← hWd]
  have hef : entryFrame m #[(.ref x), (.int (47 : Int32))] 2 = (mkF m 0 #[.val (.ref x), .val (.int (47 : Int32))] []) := by first | (simp [entryFrame, mkF, argsToLocals, Value.category]; done) | rfl
  rw [hef]
  refine Goes.on (T' := s₁) (g' := (mkF m 1 #[.val (.ref x), .val (.int (47 : Int32))] [(.ref x)])) ?_ (fun t_ k_ => XS.aloadN X0.here hx rfl (hb hby d10_0) rfl rfl k_)
  refine Goes.on (T' := s₁) (g' := (mkF m 2 #[.val (.ref x), .val (.int (47 : Int32))] [(.int (47 : Int32)), (.ref x)])) ?_ (fun t_ k_ => XS.iloadN X0.here hx rfl (hb hby d10_1) rfl k_)
  refine Goes.on (T' := s₁) (g' := (mkF m 3 #[.val (.ref x), .val (.int (47 : Int32))] [(.int (0 : Int32)), (.int (47 : Int32)), (.ref x)])) ?_ (fun t_ k_ => XS.iconst X0.here hx rfl (hb hby d10_2) k_)
  obtain ⟨cq1, kq1, q1a, q1b, q1c⟩ := isOf hZ e0 TX.1
  obtain ⟨_, _, ⟨T1, Lq_1, kq_1, nq_1⟩, -, X1, ⟨Lc1, hQ1, l1, y1, z1⟩, st1⟩ := X0.virtualBack hx (y := (⟨"java/lang/String", "indexOf", "(II)I"⟩ : MethodName)) (z := (⟨"java/lang/String", "indexOf", "(II)I"⟩ : MethodName)) hown (mvT hZ (hw _ (List.mem_of_getElem? (i := 52) rfl))) (mvT hZ (hw _ (List.mem_of_getElem? (i := 53) rfl))) (notFace_of_selects (args := #[]) (mvT hZ (hw _ (List.mem_of_getElem? (i := 55) rfl)))) (mvT hZ (hw _ (List.mem_of_getElem? (i := 55) rfl))) (mvT hZ (hw _ (List.mem_of_getElem? (i := 54) rfl))) (by decide) (backOf (W := 0) (rmI2 l Z a0 hw [] x t kt cs cd zc vf h0 n0 Z0 TX CS hzc hp hl hl0 X0_ AD HB LB SO rG) hZ (hw _ (List.mem_of_getElem? (i := 56) rfl)) (hw _ (List.mem_of_getElem? (i := 7) rfl)) (by decide) (by decide)) q1a q1c (g := (mkF m 3 #[.val (.ref x), .val (.int (47 : Int32))] [(.int (0 : Int32)), (.int (47 : Int32)), (.ref x)])) rfl (by rw [hml]; rfl) (Steps.refl _) (argsL := [(.int (47 : Int32)), (.int (0 : Int32))]) (rest := []) (lenOf pd_10 rfl) rfl (by show 2 * 0 + _ ≤ _; exact Nat.le_of_eq rfl) (hb hby d10_3) (fun _ _ => ⟨rfl, e0, (by decide : 0 + 0 ≤ _), (by decide : 0 + 0 ≤ _)⟩)
  dsimp only [Pt.U, Pt.locs, Pt.cells, Pt.slots] at X1 l1 y1 z1 st1 hQ1
  rw [l1, y1, z1] at X1
  change Stand p l e _ _ m _ below meth c T1 _ 0 0 at X1
  obtain ⟨rfl, N1q, eh1⟩ := hQ1
  have N1 := Fr.app N0 N1q
  refine Goes.on (T' := T1) (g' := (mkF m 6 #[.val (.ref x), .val (.int (47 : Int32))] [(.int (own_idx cs (47 : Int32) cs.length 0))])) ?_ (fun t => st1.trans)
  rw [hWd]
  exact Goes.retn X1 (v := some (.int (own_idx cs (47 : Int32) cs.length 0))) (fun fs hr => retI X1 hx Bd.returns (hb hby d10_6) hr) (fun h => by rw [Bd.returns] at h; cases h) Bd.notSynchronized (by decide) (by decide) (by rw [eh1]; exact ⟨rfl, N1, rfl⟩)
def QLE (Z : State) (t t' : Addr) (bs ds : List Int32) (h0 : Heap) (n0 : Nat) (v : Option Value) (h : Heap) (L : List Loc) : Prop := v = some (.int (if bs = ds then 1 else 0)) ∧ Fr n0 L ∧ h = h0
set_option maxRecDepth 65536 in
set_option maxHeartbeats 40000000 in
theorem rmLE (l : Launch) (Z : State) (a0 : Array Value) (hw : ∀ d ∈ tables_1, d.before a0 Z = true) (ws : List Jvm.Cond) (t t' : Addr) (kb kb' : ClassId) (bs ds : List Int32) (h0 : Heap) (n0 : Nat) (Z0 : n0 ≤ h0.size) (K : Arv Z h0 t kb .byte (Int32.ofNat bs.length) (bs.map Value.int) (.int 0)) (K' : Arv Z h0 t' kb' .byte (Int32.ofNat ds.length) (ds.map Value.int) (.int 0)) (l1 : bs.length ≤ 4000) (l2 : ds.length ≤ 4000) :
    MetFree l (⟨"java/lang/StringLatin1", "equals", "([B[B)Z"⟩ : MethodName) (head1 (Jvm.Cond.code (⟨"java/lang/StringLatin1", "equals", "([B[B)Z"⟩ : MethodName) jdk_43_method_13_code 3 (some .boolean) :: ws) ({ frames := 0, cells := 0, slots := 0, locals := 0 } : Room)) (fun a_ U => a_ = #[(.ref t), (.ref t')] ∧ Z.Warmed39 U.vm ∧ U.heap = h0) (fun _ _ _ _ _ => True) (fun _ U o U' => ∃ v L, o = .returned v ∧ QLE Z t t' bs ds h0 n0 v U'.heap L ∧ FrameEnd U o U' L ({ frames := 0, cells := 0, slots := 0, locals := 0 } : Room).cells ({ frames := 0, cells := 0, slots := 0, locals := 0 } : Room).slots) := by
  refine MetFree.of_bodySF (plainFor_of_name pn_3) hisR ?_
  intro p e s m args below meth c s₁ Bd hml0 hP hK
  obtain ⟨rfl, hZ, hh⟩ := hP
  have hx := Bd.exec
  have hby := Bd.bytes
  have hml : c.maxLocals = 3 := hml0
  have hown : s.vm.findClass "java/lang/StringLatin1" = some m.cls := findClass_of_methodNamed Bd.named
  have hnm := (name_of_methodNamed Bd.named Bd.method).1
  have X0 : Stand p l e ({ frames := 0, cells := 0, slots := 0, locals := 0 } : Room) s m #[(.ref t), (.ref t')] below meth c s₁ [] 0 0 := Stand.of_body Bd
  have e0 : s₁.heap = h0 := by rw [← hh, Bd.state]; rfl
  have N0 := Fr.nil n0
  refine Goes.done ?_
  obtain ⟨W, hWd⟩ : ∃ W : State → Prop, W = EndW s below (QLE Z t t' bs ds h0 n0) ({ frames := 0, cells := 0, slots := 0, locals := 0 } : Room).cells ({ frames := 0, cells := 0, slots := 0, locals := 0 } : Room).slots := ⟨_, rfl⟩
  rw [← hWd]
  have hef : entryFrame m #[(.ref t), (.ref t')] 3 = (mkF m 0 #[.val (.ref t), .val (.ref t'), .unset] []) := by first | (simp [entryFrame, mkF, argsToLocals, Value.category]; done) | rfl
  rw [hef]
  obtain ⟨c1, A1, -, S1, M1, H1, -⟩ := K
  obtain ⟨c2, A2, -, S2, M2, H2, -⟩ := K'
  have S1n : c1.slots.size = bs.length := by rw [S1, own_clamp (by omega)]
  have S2n : c2.slots.size = ds.length := by rw [S2, own_clamp (by omega)]
  have K9 : bs.length = ds.length → ∀ d i : Nat, i + d = bs.length → (∀ j, j < i → bs.getD j 0 = ds.getD j 0) → Goes p e below W s₁ (mkF m 9 #[.val (.ref t), .val (.ref t'), .val (.int (Int32.ofNat i))] []) := by
    intro hln d
    induction d with
    | zero =>
      intro i hi hpre
      have hge : ¬ (Int32.ofNat i < Int32.ofNat bs.length) := by rw [own_nlt (by omega) (by omega)]; omega
      refine Goes.on (T' := s₁) (g' := (mkF m 10 #[.val (.ref t), .val (.ref t'), .val (.int (Int32.ofNat i))] [(.int (Int32.ofNat i))])) ?_ (fun t_ k_ => XS.iloadN X0.here hx rfl (hb hby d33_9) rfl k_)
      refine Goes.on (T' := s₁) (g' := (mkF m 11 #[.val (.ref t), .val (.ref t'), .val (.int (Int32.ofNat i))] [(.ref t), (.int (Int32.ofNat i))])) ?_ (fun t_ k_ => XS.aloadN X0.here hx rfl (hb hby d33_10) rfl rfl k_)
      refine Goes.on (T' := s₁) (g' := (mkF m 12 #[.val (.ref t), .val (.ref t'), .val (.int (Int32.ofNat i))] [(.int c1.slots.size.toInt32), (.int (Int32.ofNat i))])) ?_ (X0.arraylength hx (by rw [e0]; exact A1.1) (State.isArrayOf_alike hZ.alike A1.2.1) (g := (mkF m 11 #[.val (.ref t), .val (.ref t'), .val (.int (Int32.ofNat i))] [(.ref t), (.int (Int32.ofNat i))])) rfl rfl (hb hby d33_11))
      rw [len_of S1 M1]
      refine Goes.on (T' := s₁) (g' := (mkF m 32 #[.val (.ref t), .val (.ref t'), .val (.int (Int32.ofNat i))] [])) ?_ (fun t_ k_ => XS.icmpYes X0.here hx rfl (pc0 := 12) (pc' := 32) rfl (hb hby d33_12) rfl (flt hge).2.1 (by decide) (by decide) k_)
      refine Goes.on (T' := s₁) (g' := (mkF m 33 #[.val (.ref t), .val (.ref t'), .val (.int (Int32.ofNat i))] [(.int (1 : Int32))])) ?_ (fun t_ k_ => XS.iconst X0.here hx rfl (hb hby d33_32) k_)
      rw [hWd]
      exact Goes.retn X0 (v := some (.int (nar .boolean (1 : Int32)))) (fun fs hr => retN X0 hx (t := .boolean) Bd.returns (by simp) (hb hby d33_33) hr) (fun h => by rw [Bd.returns] at h; cases h) Bd.notSynchronized (by decide) (by decide) (by rw [e0]; exact ⟨by rw [if_pos (own_bext hln (fun j hj => hpre j (by omega)))]; rfl, N0, rfl⟩)
    | succ d ih =>
      intro i hi hpre
      have hlt : Int32.ofNat i < Int32.ofNat bs.length := by rw [own_nlt (by omega) (by omega)]; omega
      have hc : (Int32.ofNat i).toNatClampNeg = i := own_clamp (by omega)
      have in1 : ¬ ((Int32.ofNat i) < 0 ∨ c1.slots.size ≤ (Int32.ofNat i).toNatClampNeg) := by rw [hc, S1n]; intro q; rcases q with q | q; exact own_nn (by omega) q; omega
      have in2 : ¬ ((Int32.ofNat i) < 0 ∨ c2.slots.size ≤ (Int32.ofNat i).toNatClampNeg) := by rw [hc, S2n]; intro q; rcases q with q | q; exact own_nn (by omega) q; omega
      have at1 : c1.slots[(Int32.ofNat i).toNatClampNeg]? = some (.int (bs.getD i 0)) := by rw [hc, H1 i (by omega), own_bget]
      have at2 : c2.slots[(Int32.ofNat i).toNatClampNeg]? = some (.int (ds.getD i 0)) := by rw [hc, H2 i (by omega), own_bget]
      refine Goes.on (T' := s₁) (g' := (mkF m 10 #[.val (.ref t), .val (.ref t'), .val (.int (Int32.ofNat i))] [(.int (Int32.ofNat i))])) ?_ (fun t_ k_ => XS.iloadN X0.here hx rfl (hb hby d33_9) rfl k_)
      refine Goes.on (T' := s₁) (g' := (mkF m 11 #[.val (.ref t), .val (.ref t'), .val (.int (Int32.ofNat i))] [(.ref t), (.int (Int32.ofNat i))])) ?_ (fun t_ k_ => XS.aloadN X0.here hx rfl (hb hby d33_10) rfl rfl k_)
      refine Goes.on (T' := s₁) (g' := (mkF m 12 #[.val (.ref t), .val (.ref t'), .val (.int (Int32.ofNat i))] [(.int c1.slots.size.toInt32), (.int (Int32.ofNat i))])) ?_ (X0.arraylength hx (by rw [e0]; exact A1.1) (State.isArrayOf_alike hZ.alike A1.2.1) (g := (mkF m 11 #[.val (.ref t), .val (.ref t'), .val (.int (Int32.ofNat i))] [(.ref t), (.int (Int32.ofNat i))])) rfl rfl (hb hby d33_11))
      rw [len_of S1 M1]
      refine Goes.on (T' := s₁) (g' := (mkF m 15 #[.val (.ref t), .val (.ref t'), .val (.int (Int32.ofNat i))] [])) ?_ (fun t_ k_ => XS.icmpNo X0.here hx rfl (hb hby d33_12) rfl (tlt hlt).2.1 k_)
      refine Goes.on (T' := s₁) (g' := (mkF m 16 #[.val (.ref t), .val (.ref t'), .val (.int (Int32.ofNat i))] [(.ref t)])) ?_ (fun t_ k_ => XS.aloadN X0.here hx rfl (hb hby d33_15) rfl rfl k_)
      refine Goes.on (T' := s₁) (g' := (mkF m 17 #[.val (.ref t), .val (.ref t'), .val (.int (Int32.ofNat i))] [(.int (Int32.ofNat i)), (.ref t)])) ?_ (fun t_ k_ => XS.iloadN X0.here hx rfl (hb hby d33_16) rfl k_)
      refine Goes.on (T' := s₁) (g' := (mkF m 18 #[.val (.ref t), .val (.ref t'), .val (.int (Int32.ofNat i))] [(.int (bs.getD i 0))])) ?_ (X0.baloadBytes hx (j := (Int32.ofNat i)) (v := (.int (bs.getD i 0))) (by rw [e0]; exact A1.1) (State.isArrayOf_alike hZ.alike A1.2.1) A1.2.2 in1 at1 (g := (mkF m 17 #[.val (.ref t), .val (.ref t'), .val (.int (Int32.ofNat i))] [(.int (Int32.ofNat i)), (.ref t)])) rfl rfl (hb hby d33_17))
      refine Goes.on (T' := s₁) (g' := (mkF m 19 #[.val (.ref t), .val (.ref t'), .val (.int (Int32.ofNat i))] [(.ref t'), (.int (bs.getD i 0))])) ?_ (fun t_ k_ => XS.aloadN X0.here hx rfl (hb hby d33_18) rfl rfl k_)
      refine Goes.on (T' := s₁) (g' := (mkF m 20 #[.val (.ref t), .val (.ref t'), .val (.int (Int32.ofNat i))] [(.int (Int32.ofNat i)), (.ref t'), (.int (bs.getD i 0))])) ?_ (fun t_ k_ => XS.iloadN X0.here hx rfl (hb hby d33_19) rfl k_)
      refine Goes.on (T' := s₁) (g' := (mkF m 21 #[.val (.ref t), .val (.ref t'), .val (.int (Int32.ofNat i))] [(.int (ds.getD i 0)), (.int (bs.getD i 0))])) ?_ (X0.baloadBytes hx (j := (Int32.ofNat i)) (v := (.int (ds.getD i 0))) (by rw [e0]; exact A2.1) (State.isArrayOf_alike hZ.alike A2.2.1) A2.2.2 in2 at2 (g := (mkF m 20 #[.val (.ref t), .val (.ref t'), .val (.int (Int32.ofNat i))] [(.int (Int32.ofNat i)), (.ref t'), (.int (bs.getD i 0))])) rfl rfl (hb hby d33_20))
      refine Goes.icmpP X0 hx rfl (pc0 := 21) (pc' := 26) rfl (hb hby d33_21) rfl (by decide) (by decide) (P := (bs.getD i 0) = (ds.getD i 0)) (cmp_eq _ _) (fun hc21 => ?_) (fun hc21 => ?_)
      · show Goes p e below W s₁ (mkF m 26 #[.val (.ref t), .val (.ref t'), .val (.int (Int32.ofNat i))] [])
        refine Goes.on (T' := s₁) (g' := (mkF m 29 #[.val (.ref t), .val (.ref t'), .val (.int ((Int32.ofNat i) + (1 : Int32)))] [])) ?_ (fun t_ k_ => XS.iinc X0.here hx rfl (hb hby d33_26) rfl (l' := #[.val (.ref t), .val (.ref t'), .val (.int ((Int32.ofNat i) + (1 : Int32)))]) rfl k_)
        refine Goes.on (T' := s₁) (g' := (mkF m 9 #[.val (.ref t), .val (.ref t'), .val (.int ((Int32.ofNat i) + (1 : Int32)))] [])) ?_ (fun t_ k_ => XS.goto X0.here hx rfl (pc0 := 29) (pc' := 9) rfl (hb hby d33_29) (by decide) (by decide) k_)
        rw [own_succ]
        exact ih (i + 1) (by omega) (fun j hj => by rcases Nat.lt_succ_iff_lt_or_eq.mp hj with q | q; exact hpre j q; rw [q]; exact hc21)
      · show Goes p e below W s₁ (mkF m 24 #[.val (.ref t), .val (.ref t'), .val (.int (Int32.ofNat i))] [])
        refine Goes.on (T' := s₁) (g' := (mkF m 25 #[.val (.ref t), .val (.ref t'), .val (.int (Int32.ofNat i))] [(.int (0 : Int32))])) ?_ (fun t_ k_ => XS.iconst X0.here hx rfl (hb hby d33_24) k_)
        rw [hWd]
        exact Goes.retn X0 (v := some (.int (nar .boolean (0 : Int32)))) (fun fs hr => retN X0 hx (t := .boolean) Bd.returns (by simp) (hb hby d33_25) hr) (fun h => by rw [Bd.returns] at h; cases h) Bd.notSynchronized (by decide) (by decide) (by rw [e0]; exact ⟨by rw [if_neg (fun q => hc21 (by rw [q]))]; rfl, N0, rfl⟩)
  refine Goes.on (T' := s₁) (g' := (mkF m 1 #[.val (.ref t), .val (.ref t'), .unset] [(.ref t)])) ?_ (fun t_ k_ => XS.aloadN X0.here hx rfl (hb hby d33_0) rfl rfl k_)
  refine Goes.on (T' := s₁) (g' := (mkF m 2 #[.val (.ref t), .val (.ref t'), .unset] [(.int c1.slots.size.toInt32)])) ?_ (X0.arraylength hx (by rw [e0]; exact A1.1) (State.isArrayOf_alike hZ.alike A1.2.1) (g := (mkF m 1 #[.val (.ref t), .val (.ref t'), .unset] [(.ref t)])) rfl rfl (hb hby d33_1))
  rw [len_of S1 M1]
  refine Goes.on (T' := s₁) (g' := (mkF m 3 #[.val (.ref t), .val (.ref t'), .unset] [(.ref t'), (.int (Int32.ofNat bs.length))])) ?_ (fun t_ k_ => XS.aloadN X0.here hx rfl (hb hby d33_2) rfl rfl k_)
  refine Goes.on (T' := s₁) (g' := (mkF m 4 #[.val (.ref t), .val (.ref t'), .unset] [(.int c2.slots.size.toInt32), (.int (Int32.ofNat bs.length))])) ?_ (X0.arraylength hx (by rw [e0]; exact A2.1) (State.isArrayOf_alike hZ.alike A2.2.1) (g := (mkF m 3 #[.val (.ref t), .val (.ref t'), .unset] [(.ref t'), (.int (Int32.ofNat bs.length))])) rfl rfl (hb hby d33_3))
  rw [len_of S2 M2]
  refine Goes.icmpN X0 hx rfl (pc0 := 4) (pc' := 34) rfl (hb hby d33_4) rfl (by decide) (by decide) (P := (Int32.ofNat bs.length) = (Int32.ofNat ds.length)) (cmp_ne _ _) (fun hc4 => ?_) (fun hc4 => ?_)
  · show Goes p e below W s₁ (mkF m 34 #[.val (.ref t), .val (.ref t'), .unset] [])
    refine Goes.on (T' := s₁) (g' := (mkF m 35 #[.val (.ref t), .val (.ref t'), .unset] [(.int (0 : Int32))])) ?_ (fun t_ k_ => XS.iconst X0.here hx rfl (hb hby d33_34) k_)
    rw [hWd]
    exact Goes.retn X0 (v := some (.int (nar .boolean (0 : Int32)))) (fun fs hr => retN X0 hx (t := .boolean) Bd.returns (by simp) (hb hby d33_35) hr) (fun h => by rw [Bd.returns] at h; cases h) Bd.notSynchronized (by decide) (by decide) (by rw [e0]; exact ⟨by rw [if_neg (fun q => hc4 (by rw [q]))]; rfl, N0, rfl⟩)
  · show Goes p e below W s₁ (mkF m 7 #[.val (.ref t), .val (.ref t'), .unset] [])
    refine Goes.on (T' := s₁) (g' := (mkF m 8 #[.val (.ref t), .val (.ref t'), .unset] [(.int (0 : Int32))])) ?_ (fun t_ k_ => XS.iconst X0.here hx rfl (hb hby d33_7) k_)
    refine Goes.on (T' := s₁) (g' := (mkF m 9 #[.val (.ref t), .val (.ref t'), .val (.int (0 : Int32))] [])) ?_ (fun t_ k_ => XS.istoreN X0.here hx rfl (hb hby d33_8) rfl (l' := #[.val (.ref t), .val (.ref t'), .val (.int (0 : Int32))]) rfl k_)
    have hln : bs.length = ds.length := (own_ninj (by omega) (by omega)).mp hc4
    exact K9 hln bs.length 0 (by omega) (fun j hj => absurd hj (Nat.not_lt_zero j))
def QSE (Z : State) (x y : Addr) (bs ds : List Int32) (h0 : Heap) (n0 : Nat) (v : Option Value) (h : Heap) (L : List Loc) : Prop := v = some (.int (if bs = ds then 1 else 0)) ∧ Fr n0 L ∧ h = h0
set_option maxRecDepth 65536 in
set_option maxHeartbeats 40000000 in
theorem rmSE (l : Launch) (Z : State) (a0 : Array Value) (hw : ∀ d ∈ tables_1, d.before a0 Z = true) (ws : List Jvm.Cond) (x y t t' : Addr) (kb kb' : ClassId) (bs ds : List Int32) (cz : Int32) (h0 : Heap) (n0 : Nat) (Z0 : n0 ≤ h0.size) (A : Lat Z h0 x t kb bs) (B : Lat Z h0 y t' kb' ds) (CS : Sta Z h0 "java/lang/String" "COMPACT_STRINGS" "Z" (.int cz)) (hcz : ¬ cz = (0 : Int32)) :
    MetFree l (⟨"java/lang/String", "equals", "(Ljava/lang/Object;)Z"⟩ : MethodName) (head1 (Jvm.Cond.code (⟨"java/lang/String", "equals", "(Ljava/lang/Object;)Z"⟩ : MethodName) jdk_42_method_66_code 3 (some .boolean) :: ws) ({ frames := 1, cells := 0, slots := 0, locals := 14 } : Room)) (fun a_ U => a_ = #[(.ref x), (.ref y)] ∧ Z.Warmed39 U.vm ∧ U.heap = h0) (fun _ _ _ _ _ => True) (fun _ U o U' => ∃ v L, o = .returned v ∧ QSE Z x y bs ds h0 n0 v U'.heap L ∧ FrameEnd U o U' L ({ frames := 1, cells := 0, slots := 0, locals := 14 } : Room).cells ({ frames := 1, cells := 0, slots := 0, locals := 14 } : Room).slots) := by
  refine MetFree.of_bodySF (plainFor_of_name pn_1) hisR ?_
  intro p e s m args below meth c s₁ Bd hml0 hP hK
  obtain ⟨rfl, hZ, hh⟩ := hP
  have hx := Bd.exec
  have hby := Bd.bytes
  have hml : c.maxLocals = 3 := hml0
  have hown : s.vm.findClass "java/lang/String" = some m.cls := findClass_of_methodNamed Bd.named
  have hnm := (name_of_methodNamed Bd.named Bd.method).1
  have X0 : Stand p l e ({ frames := 1, cells := 0, slots := 0, locals := 14 } : Room) s m #[(.ref x), (.ref y)] below meth c s₁ [] 0 0 := Stand.of_body Bd
  have e0 : s₁.heap = h0 := by rw [← hh, Bd.state]; rfl
  have N0 := Fr.nil n0
  refine Goes.done ?_
  obtain ⟨W, hWd⟩ : ∃ W : State → Prop, W = EndW s below (QSE Z x y bs ds h0 n0) ({ frames := 1, cells := 0, slots := 0, locals := 14 } : Room).cells ({ frames := 1, cells := 0, slots := 0, locals := 14 } : Room).slots := ⟨_, rfl⟩
  rw [← hWd]
  have hef : entryFrame m #[(.ref x), (.ref y)] 3 = (mkF m 0 #[.val (.ref x), .val (.ref y), .unset] []) := by first | (simp [entryFrame, mkF, argsToLocals, Value.category]; done) | rfl
  rw [hef]
  refine Goes.on (T' := s₁) (g' := (mkF m 1 #[.val (.ref x), .val (.ref y), .unset] [(.ref x)])) ?_ (fun t_ k_ => XS.aloadN X0.here hx rfl (hb hby d32_0) rfl rfl k_)
  refine Goes.on (T' := s₁) (g' := (mkF m 2 #[.val (.ref x), .val (.ref y), .unset] [(.ref y), (.ref x)])) ?_ (fun t_ k_ => XS.aloadN X0.here hx rfl (hb hby d32_1) rfl rfl k_)
  refine Goes.acmpR X0 hx rfl (pc0 := 2) (pcE := 5) (pcN := 7) rfl (hb hby d32_2) rfl (by decide) (by decide) (by decide) (fun hc2 => ?_) (fun hc2 => ?_)
  · show Goes p e below W s₁ (mkF m 5 #[.val (.ref x), .val (.ref y), .unset] [])
    refine Goes.on (T' := s₁) (g' := (mkF m 6 #[.val (.ref x), .val (.ref y), .unset] [(.int (1 : Int32))])) ?_ (fun t_ k_ => XS.iconst X0.here hx rfl (hb hby d32_5) k_)
    rw [hWd]
    exact Goes.retn X0 (v := some (.int (nar .boolean (1 : Int32)))) (fun fs hr => retN X0 hx (t := .boolean) Bd.returns (by simp) (hb hby d32_6) hr) (fun h => by rw [Bd.returns] at h; cases h) Bd.notSynchronized (by decide) (by decide) (by rw [e0]; exact ⟨by subst hc2; rw [if_pos (A.same B)]; rfl, N0, rfl⟩)
  · show Goes p e below W s₁ (mkF m 7 #[.val (.ref x), .val (.ref y), .unset] [])
    refine Goes.on (T' := s₁) (g' := (mkF m 8 #[.val (.ref x), .val (.ref y), .unset] [(.ref y)])) ?_ (fun t_ k_ => XS.aloadN X0.here hx rfl (hb hby d32_7) rfl rfl k_)
    obtain ⟨T1, X1, e1, st1⟩ := instY X0 hx hZ hown (hw _ (List.mem_of_getElem? (i := 140) rfl)) e0 (Ins.self B.1) (g := (mkF m 8 #[.val (.ref x), .val (.ref y), .unset] [(.ref y)])) rfl rfl (hb hby d32_8)
    refine Goes.on (T' := T1) (g' := (mkF m 11 #[.val (.ref x), .val (.ref y), .unset] [(.int (1 : Int32))])) ?_ st1
    refine Goes.on (T' := T1) (g' := (mkF m 14 #[.val (.ref x), .val (.ref y), .unset] [])) ?_ (fun t_ k_ => XS.ifNo X1.here hx rfl (hb hby d32_11) rfl (by decide) k_)
    refine Goes.on (T' := T1) (g' := (mkF m 15 #[.val (.ref x), .val (.ref y), .unset] [(.ref y)])) ?_ (fun t_ k_ => XS.aloadN X1.here hx rfl (hb hby d32_14) rfl rfl k_)
    obtain ⟨T2, X2, e2, st2⟩ := castY X1 hx hZ hown (hw _ (List.mem_of_getElem? (i := 140) rfl)) e1 (Ins.self B.1) (g := (mkF m 15 #[.val (.ref x), .val (.ref y), .unset] [(.ref y)])) rfl rfl (hb hby d32_15)
    refine Goes.on (T' := T2) (g' := (mkF m 18 #[.val (.ref x), .val (.ref y), .unset] [(.ref y)])) ?_ st2
    refine Goes.on (T' := T2) (g' := (mkF m 19 #[.val (.ref x), .val (.ref y), .val (.ref y)] [])) ?_ (fun t_ k_ => XS.astoreN X2.here hx rfl (hb hby d32_18) rfl rfl (l' := #[.val (.ref x), .val (.ref y), .val (.ref y)]) rfl k_)
    obtain ⟨T3, X3, e3, st3⟩ := getS2 X2 hx hZ hown (host := "") (Or.inl (hw _ (List.mem_of_getElem? (i := 36) rfl))) Via.refl e2 CS (g := (mkF m 19 #[.val (.ref x), .val (.ref y), .val (.ref y)] [])) rfl (hb hby d32_19)
    refine Goes.on (T' := T3) (g' := (mkF m 22 #[.val (.ref x), .val (.ref y), .val (.ref y)] [(.int cz)])) ?_ st3
    refine Goes.on (T' := T3) (g' := (mkF m 25 #[.val (.ref x), .val (.ref y), .val (.ref y)] [])) ?_ (fun t_ k_ => XS.ifNo X3.here hx rfl (hb hby d32_22) rfl ((if0 _ _).trans (feq hcz).1) k_)
    refine Goes.on (T' := T3) (g' := (mkF m 26 #[.val (.ref x), .val (.ref y), .val (.ref y)] [(.ref x)])) ?_ (fun t_ k_ => XS.aloadN X3.here hx rfl (hb hby d32_25) rfl rfl k_)
    obtain ⟨T4, X4, e4, st4⟩ := getF X3 hx hZ hown (host := "") (Or.inl (hw _ (List.mem_of_getElem? (i := 26) rfl))) Via.refl e3 A.2.1 (g := (mkF m 26 #[.val (.ref x), .val (.ref y), .val (.ref y)] [(.ref x)])) rfl rfl (hb hby d32_26)
    refine Goes.on (T' := T4) (g' := (mkF m 29 #[.val (.ref x), .val (.ref y), .val (.ref y)] [(.int (0 : Int32))])) ?_ st4
    refine Goes.on (T' := T4) (g' := (mkF m 30 #[.val (.ref x), .val (.ref y), .val (.ref y)] [(.ref y), (.int (0 : Int32))])) ?_ (fun t_ k_ => XS.aloadN X4.here hx rfl (hb hby d32_29) rfl rfl k_)
    obtain ⟨T5, X5, e5, st5⟩ := getF X4 hx hZ hown (host := "") (Or.inl (hw _ (List.mem_of_getElem? (i := 26) rfl))) Via.refl e4 B.2.1 (g := (mkF m 30 #[.val (.ref x), .val (.ref y), .val (.ref y)] [(.ref y), (.int (0 : Int32))])) rfl rfl (hb hby d32_30)
    refine Goes.on (T' := T5) (g' := (mkF m 33 #[.val (.ref x), .val (.ref y), .val (.ref y)] [(.int (0 : Int32)), (.int (0 : Int32))])) ?_ st5
    refine Goes.on (T' := T5) (g' := (mkF m 36 #[.val (.ref x), .val (.ref y), .val (.ref y)] [])) ?_ (fun t_ k_ => XS.icmpNo X5.here hx rfl (hb hby d32_33) rfl (by decide) k_)
    refine Goes.on (T' := T5) (g' := (mkF m 37 #[.val (.ref x), .val (.ref y), .val (.ref y)] [(.ref x)])) ?_ (fun t_ k_ => XS.aloadN X5.here hx rfl (hb hby d32_36) rfl rfl k_)
    obtain ⟨T6, X6, e6, st6⟩ := getF X5 hx hZ hown (host := "") (Or.inl (hw _ (List.mem_of_getElem? (i := 25) rfl))) Via.refl e5 A.2.2.1 (g := (mkF m 37 #[.val (.ref x), .val (.ref y), .val (.ref y)] [(.ref x)])) rfl rfl (hb hby d32_37)
    refine Goes.on (T' := T6) (g' := (mkF m 40 #[.val (.ref x), .val (.ref y), .val (.ref y)] [(.ref t)])) ?_ st6
    refine Goes.on (T' := T6) (g' := (mkF m 41 #[.val (.ref x), .val (.ref y), .val (.ref y)] [(.ref y), (.ref t)])) ?_ (fun t_ k_ => XS.aloadN X6.here hx rfl (hb hby d32_40) rfl rfl k_)
    obtain ⟨T7, X7, e7, st7⟩ := getF X6 hx hZ hown (host := "") (Or.inl (hw _ (List.mem_of_getElem? (i := 25) rfl))) Via.refl e6 B.2.2.1 (g := (mkF m 41 #[.val (.ref x), .val (.ref y), .val (.ref y)] [(.ref y), (.ref t)])) rfl rfl (hb hby d32_41)
    refine Goes.on (T' := T7) (g' := (mkF m 44 #[.val (.ref x), .val (.ref y), .val (.ref y)] [(.ref t'), (.ref t)])) ?_ st7
    obtain ⟨_, _, ⟨T8, Lq_8, kq_8, nq_8⟩, -, X8, ⟨Lc8, hQ8, l8, y8, z8⟩, st8⟩ := Jvm.LawKit.callS X7 hx (y := (⟨"java/lang/StringLatin1", "equals", "([B[B)Z"⟩ : MethodName)) hown (mvT hZ (hw _ (List.mem_of_getElem? (i := 141) rfl))) (mvT hZ (hw _ (List.mem_of_getElem? (i := 142) rfl))) (mvT hZ (hw _ (List.mem_of_getElem? (i := 74) rfl))) (mvT hZ (hw _ (List.mem_of_getElem? (i := 143) rfl))) (by decide) (backOf (W := 0) (rmLE l Z a0 hw [] t t' kb kb' bs ds h0 n0 Z0 A.2.2.2.1 B.2.2.2.1 A.2.2.2.2 B.2.2.2.2) hZ (hw _ (List.mem_of_getElem? (i := 143) rfl)) (hw _ (List.mem_of_getElem? (i := 74) rfl)) (by decide) (by decide)) (g := (mkF m 44 #[.val (.ref x), .val (.ref y), .val (.ref y)] [(.ref t'), (.ref t)])) rfl (by rw [hml]; rfl) (argsL := [(.ref t), (.ref t')]) (rest := []) (lenOf pd_18 rfl) rfl (by show 2 * 0 + _ ≤ _; exact Nat.le_of_eq rfl) (hb hby d32_44) (fun _ _ => ⟨rfl, e7, (by decide : 0 + 0 ≤ _), (by decide : 0 + 0 ≤ _)⟩)
    dsimp only [Pt.U, Pt.locs, Pt.cells, Pt.slots] at X8 l8 y8 z8 st8 hQ8
    rw [l8, y8, z8] at X8
    change Stand p l e _ _ m _ below meth c T8 _ 0 0 at X8
    obtain ⟨rfl, N8q, eh8⟩ := hQ8
    have N8 := Fr.app N0 N8q
    refine Goes.on (T' := T8) (g' := (mkF m 47 #[.val (.ref x), .val (.ref y), .val (.ref y)] [(.int (if bs = ds then 1 else 0))])) ?_ st8
    refine Goes.ifP X8 hx rfl (pc0 := 47) (pc' := 54) rfl (hb hby d32_47) rfl (by decide) (by decide) (P := (if bs = ds then 1 else 0) = (0 : Int32)) (ifc_eq _ _) (fun hc47 => ?_) (fun hc47 => ?_)
    · show Goes p e below W T8 (mkF m 54 #[.val (.ref x), .val (.ref y), .val (.ref y)] [])
      refine Goes.on (T' := T8) (g' := (mkF m 55 #[.val (.ref x), .val (.ref y), .val (.ref y)] [(.int (0 : Int32))])) ?_ (fun t_ k_ => XS.iconst X8.here hx rfl (hb hby d32_54) k_)
      rw [hWd]
      exact Goes.retn X8 (v := some (.int (nar .boolean (0 : Int32)))) (fun fs hr => retN X8 hx (t := .boolean) Bd.returns (by simp) (hb hby d32_55) hr) (fun h => by rw [Bd.returns] at h; cases h) Bd.notSynchronized (by decide) (by decide) (by rw [eh8]; exact ⟨by split at hc47; exact absurd hc47 (by decide); rw [if_neg (by assumption)]; rfl, N8, rfl⟩)
    · show Goes p e below W T8 (mkF m 50 #[.val (.ref x), .val (.ref y), .val (.ref y)] [])
      refine Goes.on (T' := T8) (g' := (mkF m 51 #[.val (.ref x), .val (.ref y), .val (.ref y)] [(.int (1 : Int32))])) ?_ (fun t_ k_ => XS.iconst X8.here hx rfl (hb hby d32_50) k_)
      refine Goes.on (T' := T8) (g' := (mkF m 55 #[.val (.ref x), .val (.ref y), .val (.ref y)] [(.int (1 : Int32))])) ?_ (fun t_ k_ => XS.goto X8.here hx rfl (pc0 := 51) (pc' := 55) rfl (hb hby d32_51) (by decide) (by decide) k_)
      rw [hWd]
      exact Goes.retn X8 (v := some (.int (nar .boolean (1 : Int32)))) (fun fs hr => retN X8 hx (t := .boolean) Bd.returns (by simp) (hb hby d32_55) hr) (fun h => by rw [Bd.returns] at h; cases h) Bd.notSynchronized (by decide) (by decide) (by rw [eh8]; exact ⟨by split at hc47; rw [if_pos (by assumption)]; rfl; exact absurd rfl hc47, N8, rfl⟩)
def QSX (Z : State) (x u t : Addr) (kb : ClassId) (ds : List Int32) (zc : Int32) (h0 : Heap) (n0 : Nat) (v : Option Value) (h : Heap) (L : List Loc) : Prop := v = some (.int (0)) ∧ Fr n0 L ∧ h = h0
set_option maxRecDepth 65536 in
set_option maxHeartbeats 40000000 in
theorem rmSX (l : Launch) (Z : State) (a0 : Array Value) (hw : ∀ d ∈ tables_1, d.before a0 Z = true) (ws : List Jvm.Cond) (x u t : Addr) (kb : ClassId) (ds : List Int32) (zc : Int32) (h0 : Heap) (n0 : Nat) (Z0 : n0 ≤ h0.size) (FC : Fld Z h0 x "java/lang/String" "coder" "B" (.int (1 : Int32))) (B : Lat Z h0 u t kb ds) (CS : Sta Z Z.heap "java/lang/String" "COMPACT_STRINGS" "Z" (.int zc)) (hzc : ¬ zc = (0 : Int32)) (X0_ : Old Z n0 h0) :
    MetFree l (⟨"java/lang/String", "equals", "(Ljava/lang/Object;)Z"⟩ : MethodName) (head1 (Jvm.Cond.code (⟨"java/lang/String", "equals", "(Ljava/lang/Object;)Z"⟩ : MethodName) jdk_42_method_66_code 3 (some .boolean) :: ws) ({ frames := 0, cells := 0, slots := 0, locals := 0 } : Room)) (fun a_ U => a_ = #[(.ref x), (.ref u)] ∧ Z.Warmed39 U.vm ∧ U.heap = h0) (fun _ _ _ _ _ => True) (fun _ U o U' => ∃ v L, o = .returned v ∧ QSX Z x u t kb ds zc h0 n0 v U'.heap L ∧ FrameEnd U o U' L ({ frames := 0, cells := 0, slots := 0, locals := 0 } : Room).cells ({ frames := 0, cells := 0, slots := 0, locals := 0 } : Room).slots) := by
  refine MetFree.of_bodySF (plainFor_of_name pn_1) hisR ?_
  intro p e s m args below meth c s₁ Bd hml0 hP hK
  obtain ⟨rfl, hZ, hh⟩ := hP
  have hx := Bd.exec
  have hby := Bd.bytes
  have hml : c.maxLocals = 3 := hml0
  have hown : s.vm.findClass "java/lang/String" = some m.cls := findClass_of_methodNamed Bd.named
  have hnm := (name_of_methodNamed Bd.named Bd.method).1
  have X0 : Stand p l e ({ frames := 0, cells := 0, slots := 0, locals := 0 } : Room) s m #[(.ref x), (.ref u)] below meth c s₁ [] 0 0 := Stand.of_body Bd
  have e0 : s₁.heap = h0 := by rw [← hh, Bd.state]; rfl
  have N0 := Fr.nil n0
  refine Goes.done ?_
  obtain ⟨W, hWd⟩ : ∃ W : State → Prop, W = EndW s below (QSX Z x u t kb ds zc h0 n0) ({ frames := 0, cells := 0, slots := 0, locals := 0 } : Room).cells ({ frames := 0, cells := 0, slots := 0, locals := 0 } : Room).slots := ⟨_, rfl⟩
  rw [← hWd]
  have hef : entryFrame m #[(.ref x), (.ref u)] 3 = (mkF m 0 #[.val (.ref x), .val (.ref u), .unset] []) := by first | (simp [entryFrame, mkF, argsToLocals, Value.category]; done) | rfl
  rw [hef]
  have hxu : ¬ x = u := fun q => by subst q; exact absurd rfl (FC.ne B.2.1 (fun q => absurd q (by decide)))
  refine Goes.on (T' := s₁) (g' := (mkF m 1 #[.val (.ref x), .val (.ref u), .unset] [(.ref x)])) ?_ (fun t_ k_ => XS.aloadN X0.here hx rfl (hb hby d32_0) rfl rfl k_)
  refine Goes.on (T' := s₁) (g' := (mkF m 2 #[.val (.ref x), .val (.ref u), .unset] [(.ref u), (.ref x)])) ?_ (fun t_ k_ => XS.aloadN X0.here hx rfl (hb hby d32_1) rfl rfl k_)
  refine Goes.on (T' := s₁) (g' := (mkF m 7 #[.val (.ref x), .val (.ref u), .unset] [])) ?_ (fun t_ k_ => Jvm.RoadKit.acmp X0 hx rfl rfl rfl (pc0 := 2) (pc' := 7) (same := false) rfl (hb hby d32_2) rfl (decide_eq_false fun q => hxu (Value.ref.inj q)) (by decide) (by decide) k_)
  refine Goes.on (T' := s₁) (g' := (mkF m 8 #[.val (.ref x), .val (.ref u), .unset] [(.ref u)])) ?_ (fun t_ k_ => XS.aloadN X0.here hx rfl (hb hby d32_7) rfl rfl k_)
  obtain ⟨T1, X1, e1, st1⟩ := instY X0 hx hZ hown (hw _ (List.mem_of_getElem? (i := 140) rfl)) e0 (Ins.self B.1) (g := (mkF m 8 #[.val (.ref x), .val (.ref u), .unset] [(.ref u)])) rfl rfl (hb hby d32_8)
  refine Goes.on (T' := T1) (g' := (mkF m 11 #[.val (.ref x), .val (.ref u), .unset] [(.int (1 : Int32))])) ?_ st1
  refine Goes.on (T' := T1) (g' := (mkF m 14 #[.val (.ref x), .val (.ref u), .unset] [])) ?_ (fun t_ k_ => XS.ifNo X1.here hx rfl (hb hby d32_11) rfl (by decide) k_)
  refine Goes.on (T' := T1) (g' := (mkF m 15 #[.val (.ref x), .val (.ref u), .unset] [(.ref u)])) ?_ (fun t_ k_ => XS.aloadN X1.here hx rfl (hb hby d32_14) rfl rfl k_)
  obtain ⟨T2, X2, e2, st2⟩ := castY X1 hx hZ hown (hw _ (List.mem_of_getElem? (i := 140) rfl)) e1 (Ins.self B.1) (g := (mkF m 15 #[.val (.ref x), .val (.ref u), .unset] [(.ref u)])) rfl rfl (hb hby d32_15)
  refine Goes.on (T' := T2) (g' := (mkF m 18 #[.val (.ref x), .val (.ref u), .unset] [(.ref u)])) ?_ st2
  refine Goes.on (T' := T2) (g' := (mkF m 19 #[.val (.ref x), .val (.ref u), .val (.ref u)] [])) ?_ (fun t_ k_ => XS.astoreN X2.here hx rfl (hb hby d32_18) rfl rfl (l' := #[.val (.ref x), .val (.ref u), .val (.ref u)]) rfl k_)
  obtain ⟨T3, X3, e3, st3⟩ := getS2 X2 hx hZ hown (host := "") (Or.inl (hw _ (List.mem_of_getElem? (i := 36) rfl))) Via.refl e2 (CS.ext X0_.2) (g := (mkF m 19 #[.val (.ref x), .val (.ref u), .val (.ref u)] [])) rfl (hb hby d32_19)
  refine Goes.on (T' := T3) (g' := (mkF m 22 #[.val (.ref x), .val (.ref u), .val (.ref u)] [(.int zc)])) ?_ st3
  refine Goes.on (T' := T3) (g' := (mkF m 25 #[.val (.ref x), .val (.ref u), .val (.ref u)] [])) ?_ (fun t_ k_ => XS.ifNo X3.here hx rfl (hb hby d32_22) rfl ((if0 _ _).trans (feq hzc).1) k_)
  refine Goes.on (T' := T3) (g' := (mkF m 26 #[.val (.ref x), .val (.ref u), .val (.ref u)] [(.ref x)])) ?_ (fun t_ k_ => XS.aloadN X3.here hx rfl (hb hby d32_25) rfl rfl k_)
  obtain ⟨T4, X4, e4, st4⟩ := getF X3 hx hZ hown (host := "") (Or.inl (hw _ (List.mem_of_getElem? (i := 26) rfl))) Via.refl e3 FC (g := (mkF m 26 #[.val (.ref x), .val (.ref u), .val (.ref u)] [(.ref x)])) rfl rfl (hb hby d32_26)
  refine Goes.on (T' := T4) (g' := (mkF m 29 #[.val (.ref x), .val (.ref u), .val (.ref u)] [(.int (1 : Int32))])) ?_ st4
  refine Goes.on (T' := T4) (g' := (mkF m 30 #[.val (.ref x), .val (.ref u), .val (.ref u)] [(.ref u), (.int (1 : Int32))])) ?_ (fun t_ k_ => XS.aloadN X4.here hx rfl (hb hby d32_29) rfl rfl k_)
  obtain ⟨T5, X5, e5, st5⟩ := getF X4 hx hZ hown (host := "") (Or.inl (hw _ (List.mem_of_getElem? (i := 26) rfl))) Via.refl e4 B.2.1 (g := (mkF m 30 #[.val (.ref x), .val (.ref u), .val (.ref u)] [(.ref u), (.int (1 : Int32))])) rfl rfl (hb hby d32_30)
  refine Goes.on (T' := T5) (g' := (mkF m 33 #[.val (.ref x), .val (.ref u), .val (.ref u)] [(.int (0 : Int32)), (.int (1 : Int32))])) ?_ st5
  refine Goes.on (T' := T5) (g' := (mkF m 54 #[.val (.ref x), .val (.ref u), .val (.ref u)] [])) ?_ (fun t_ k_ => XS.icmpYes X5.here hx rfl (pc0 := 33) (pc' := 54) rfl (hb hby d32_33) rfl (by decide) (by decide) (by decide) k_)
  refine Goes.on (T' := T5) (g' := (mkF m 55 #[.val (.ref x), .val (.ref u), .val (.ref u)] [(.int (0 : Int32))])) ?_ (fun t_ k_ => XS.iconst X5.here hx rfl (hb hby d32_54) k_)
  rw [hWd]
  exact Goes.retn X5 (v := some (.int (nar .boolean (0 : Int32)))) (fun fs hr => retN X5 hx (t := .boolean) Bd.returns (by simp) (hb hby d32_55) hr) (fun h => by rw [Bd.returns] at h; cases h) Bd.notSynchronized (by decide) (by decide) (by rw [e5]; exact ⟨rfl, N0, rfl⟩)
def QVN (Z : State)  (h0 : Heap) (n0 : Nat) (v : Option Value) (h : Heap) (L : List Loc) : Prop := v = some (.int (0)) ∧ Fr n0 L ∧ h = h0
set_option maxRecDepth 65536 in
set_option maxHeartbeats 40000000 in
theorem rmVN (l : Launch) (Z : State) (a0 : Array Value) (hw : ∀ d ∈ tables_1, d.before a0 Z = true) (ws : List Jvm.Cond)  (h0 : Heap) (n0 : Nat) (Z0 : n0 ≤ h0.size)  :
    MetFree l (⟨"com/example/regraft/regraft/core/Node", "isValidName", "(Ljava/lang/String;)Z"⟩ : MethodName) (head1 (Jvm.Cond.code (⟨"com/example/regraft/regraft/core/Node", "isValidName", "(Ljava/lang/String;)Z"⟩ : MethodName) prog_21_method_2_code 1 (some .boolean) :: ws) ({ frames := 0, cells := 0, slots := 0, locals := 0 } : Room)) (fun a_ U => a_ = #[.null] ∧ Z.Warmed39 U.vm ∧ U.heap = h0) (fun _ _ _ _ _ => True) (fun _ U o U' => ∃ v L, o = .returned v ∧ QVN Z  h0 n0 v U'.heap L ∧ FrameEnd U o U' L ({ frames := 0, cells := 0, slots := 0, locals := 0 } : Room).cells ({ frames := 0, cells := 0, slots := 0, locals := 0 } : Room).slots) := by
  refine MetFree.of_bodySF (plainFor_of_name pn_5) hisR ?_
  intro p e s m args below meth c s₁ Bd hml0 hP hK
  obtain ⟨rfl, hZ, hh⟩ := hP
  have hx := Bd.exec
  have hby := Bd.bytes
  have hml : c.maxLocals = 1 := hml0
  have hown : s.vm.findClass "com/example/regraft/regraft/core/Node" = some m.cls := findClass_of_methodNamed Bd.named
  have hnm := (name_of_methodNamed Bd.named Bd.method).1
  have X0 : Stand p l e ({ frames := 0, cells := 0, slots := 0, locals := 0 } : Room) s m #[.null] below meth c s₁ [] 0 0 := Stand.of_body Bd
  have e0 : s₁.heap = h0 := by rw [← hh, Bd.state]; rfl
  have N0 := Fr.nil n0
  refine Goes.done ?_
  obtain ⟨W, hWd⟩ : ∃ W : State → Prop, W = EndW s below (QVN Z  h0 n0) ({ frames := 0, cells := 0, slots := 0, locals := 0 } : Room).cells ({ frames := 0, cells := 0, slots := 0, locals := 0 } : Room).slots := ⟨_, rfl⟩
  rw [← hWd]
  have hef : entryFrame m #[.null] 1 = (mkF m 0 #[.val .null] []) := by first | (simp [entryFrame, mkF, argsToLocals, Value.category]; done) | rfl
  rw [hef]
  refine Goes.on (T' := s₁) (g' := (mkF m 1 #[.val .null] [.null])) ?_ (fun t_ k_ => XS.aloadN X0.here hx rfl (hb hby d5_0) rfl rfl k_)
  refine Goes.on (T' := s₁) (g' := (mkF m 33 #[.val .null] [])) ?_ (fun t_ k_ => XS.ifnullYes X0.here hx rfl (pc0 := 1) (pc' := 33) rfl (hb hby d5_1) rfl (by decide) (by decide) k_)
  refine Goes.on (T' := s₁) (g' := (mkF m 34 #[.val .null] [(.int (0 : Int32))])) ?_ (fun t_ k_ => XS.iconst X0.here hx rfl (hb hby d5_33) k_)
  rw [hWd]
  exact Goes.retn X0 (v := some (.int (nar .boolean (0 : Int32)))) (fun fs hr => retN X0 hx (t := .boolean) Bd.returns (by simp) (hb hby d5_34) hr) (fun h => by rw [Bd.returns] at h; cases h) Bd.notSynchronized (by decide) (by decide) (by rw [e0]; exact ⟨rfl, N0, rfl⟩)
def QVE (Z : State) (x t : Addr) (kt : ClassId) (h0 : Heap) (n0 : Nat) (v : Option Value) (h : Heap) (L : List Loc) : Prop := v = some (.int (0)) ∧ Fr n0 L ∧ h = h0
set_option maxRecDepth 65536 in
set_option maxHeartbeats 40000000 in
theorem rmVE (l : Launch) (Z : State) (a0 : Array Value) (hw : ∀ d ∈ tables_1, d.before a0 Z = true) (ws : List Jvm.Cond) (x t : Addr) (kt : ClassId) (h0 : Heap) (n0 : Nat) (Z0 : n0 ≤ h0.size) (E : Exa Z h0 x "java/lang/String") (FV : Fld Z h0 x "java/lang/String" "value" "[B" (.ref t)) (B : Arv Z h0 t kt .byte (0 : Int32) [] (.int 0)) :
    MetFree l (⟨"com/example/regraft/regraft/core/Node", "isValidName", "(Ljava/lang/String;)Z"⟩ : MethodName) (head1 (Jvm.Cond.code (⟨"com/example/regraft/regraft/core/Node", "isValidName", "(Ljava/lang/String;)Z"⟩ : MethodName) prog_21_method_2_code 1 (some .boolean) :: ws) ({ frames := 1, cells := 0, slots := 0, locals := 12 } : Room)) (fun a_ U => a_ = #[(.ref x)] ∧ Z.Warmed39 U.vm ∧ U.heap = h0) (fun _ _ _ _ _ => True) (fun _ U o U' => ∃ v L, o = .returned v ∧ QVE Z x t kt h0 n0 v U'.heap L ∧ FrameEnd U o U' L ({ frames := 1, cells := 0, slots := 0, locals := 12 } : Room).cells ({ frames := 1, cells := 0, slots := 0, locals := 12 } : Room).slots) := by
  refine MetFree.of_bodySF (plainFor_of_name pn_5) hisR ?_
  intro p e s m args below meth c s₁ Bd hml0 hP hK
  obtain ⟨rfl, hZ, hh⟩ := hP
  have hx := Bd.exec
  have hby := Bd.bytes
  have hml : c.maxLocals = 1 := hml0
  have hown : s.vm.findClass "com/example/regraft/regraft/core/Node" = some m.cls := findClass_of_methodNamed Bd.named
  have hnm := (name_of_methodNamed Bd.named Bd.method).1
  have X0 : Stand p l e ({ frames := 1, cells := 0, slots := 0, locals := 12 } : Room) s m #[(.ref x)] below meth c s₁ [] 0 0 := Stand.of_body Bd
  have e0 : s₁.heap = h0 := by rw [← hh, Bd.state]; rfl
  have N0 := Fr.nil n0
  refine Goes.done ?_
  obtain ⟨W, hWd⟩ : ∃ W : State → Prop, W = EndW s below (QVE Z x t kt h0 n0) ({ frames := 1, cells := 0, slots := 0, locals := 12 } : Room).cells ({ frames := 1, cells := 0, slots := 0, locals := 12 } : Room).slots := ⟨_, rfl⟩
  rw [← hWd]
  have hef : entryFrame m #[(.ref x)] 1 = (mkF m 0 #[.val (.ref x)] []) := by first | (simp [entryFrame, mkF, argsToLocals, Value.category]; done) | rfl
  rw [hef]
  refine Goes.on (T' := s₁) (g' := (mkF m 1 #[.val (.ref x)] [(.ref x)])) ?_ (fun t_ k_ => XS.aloadN X0.here hx rfl (hb hby d5_0) rfl rfl k_)
  refine Goes.on (T' := s₁) (g' := (mkF m 4 #[.val (.ref x)] [])) ?_ (fun t_ k_ => XS.ifnullNo X0.here hx rfl (hb hby d5_1) rfl k_)
  refine Goes.on (T' := s₁) (g' := (mkF m 5 #[.val (.ref x)] [(.ref x)])) ?_ (fun t_ k_ => XS.aloadN X0.here hx rfl (hb hby d5_4) rfl rfl k_)
  obtain ⟨cq1, kq1, q1a, q1b, q1c⟩ := isOf hZ e0 E
  obtain ⟨_, _, ⟨T1, Lq_1, kq_1, nq_1⟩, -, X1, ⟨Lc1, hQ1, l1, y1, z1⟩, st1⟩ := X0.virtualBack hx (y := (⟨"java/lang/String", "isEmpty", "()Z"⟩ : MethodName)) (z := (⟨"java/lang/String", "isEmpty", "()Z"⟩ : MethodName)) hown (mvT hZ (hw _ (List.mem_of_getElem? (i := 31) rfl))) (mvT hZ (hw _ (List.mem_of_getElem? (i := 32) rfl))) (notFace_of_selects (args := #[]) (mvT hZ (hw _ (List.mem_of_getElem? (i := 34) rfl)))) (mvT hZ (hw _ (List.mem_of_getElem? (i := 34) rfl))) (mvT hZ (hw _ (List.mem_of_getElem? (i := 33) rfl))) (by decide) (backOf (W := 0) (rmEM l Z a0 hw [] x t kt (0 : Int32) [] h0 n0 Z0 FV B) hZ (hw _ (List.mem_of_getElem? (i := 35) rfl)) (hw _ (List.mem_of_getElem? (i := 7) rfl)) (by decide) (by decide)) q1a q1c (g := (mkF m 5 #[.val (.ref x)] [(.ref x)])) rfl (by rw [hml]; rfl) (Steps.refl _) (argsL := []) (rest := []) (lenOf pd_16 rfl) rfl (by show 2 * 0 + _ ≤ _; exact Nat.le_of_eq rfl) (hb hby d5_5) (fun _ _ => ⟨rfl, e0, (by decide : 0 + 0 ≤ _), (by decide : 0 + 0 ≤ _)⟩)
  dsimp only [Pt.U, Pt.locs, Pt.cells, Pt.slots] at X1 l1 y1 z1 st1 hQ1
  rw [l1, y1, z1] at X1
  change Stand p l e _ _ m _ below meth c T1 _ 0 0 at X1
  obtain ⟨rfl, N1q, eh1⟩ := hQ1
  have N1 := Fr.app N0 N1q
  refine Goes.on (T' := T1) (g' := (mkF m 8 #[.val (.ref x)] [(.int (if (0 : Int32) = 0 then 1 else 0))])) ?_ (fun t => st1.trans)
  rw [if_pos rfl]
  refine Goes.on (T' := T1) (g' := (mkF m 33 #[.val (.ref x)] [])) ?_ (fun t_ k_ => XS.ifYes X1.here hx rfl (pc0 := 8) (pc' := 33) rfl (hb hby d5_8) rfl (by decide) (by decide) (by decide) k_)
  refine Goes.on (T' := T1) (g' := (mkF m 34 #[.val (.ref x)] [(.int (0 : Int32))])) ?_ (fun t_ k_ => XS.iconst X1.here hx rfl (hb hby d5_33) k_)
  rw [hWd]
  exact Goes.retn X1 (v := some (.int (nar .boolean (0 : Int32)))) (fun fs hr => retN X1 hx (t := .boolean) Bd.returns (by simp) (hb hby d5_34) hr) (fun h => by rw [Bd.returns] at h; cases h) Bd.notSynchronized (by decide) (by decide) (by rw [eh1]; exact ⟨rfl, N1, rfl⟩)
def QVT (Z : State) (x t : Addr) (kt : ClassId) (cs : List Int32) (cd : Int32) (zc : Int32) (vf : Value) (h0 : Heap) (n0 : Nat) (v : Option Value) (h : Heap) (L : List Loc) : Prop := v = some (.int (own_ivn cs)) ∧ Fr n0 L
set_option maxRecDepth 65536 in
set_option maxHeartbeats 40000000 in
theorem rmVT (l : Launch) (Z : State) (a0 : Array Value) (hw : ∀ d ∈ tables_1, d.before a0 Z = true) (ws : List Jvm.Cond) (x t : Addr) (kt : ClassId) (cs : List Int32) (cd : Int32) (zc : Int32) (vf : Value) (h0 : Heap) (n0 : Nat) (Z0 : n0 ≤ h0.size) (hEL : EW Z a0 consts_1) (TX : Txt Z h0 x t kt cs cd) (CS : Sta Z Z.heap "java/lang/String" "COMPACT_STRINGS" "Z" (.int zc)) (hzc : ¬ zc = (0 : Int32)) (hp : ∀ c ∈ cs, ¬ c < 0 ∧ ¬ (65535 : Int32) < c) (hl : cs.length ≤ 16) (hl0 : 0 < cs.length) (X0_ : Old Z n0 h0) (AD : Sta Z Z.heap "java/lang/StringUTF16" "$assertionsDisabled" "Z" (.int (1 : Int32))) (HB : Sta Z Z.heap "java/lang/StringUTF16" "HI_BYTE_SHIFT" "I" (.int (0 : Int32))) (LB : Sta Z Z.heap "java/lang/StringUTF16" "LO_BYTE_SHIFT" "I" (.int (8 : Int32)))  (SO : Sta Z Z.heap "jdk/internal/util/Preconditions" "SIOOBE_FORMATTER" "Ljava/util/function/BiFunction;" vf) (rG : vf.isRef = true) :
    MetFree l (⟨"com/example/regraft/regraft/core/Node", "isValidName", "(Ljava/lang/String;)Z"⟩ : MethodName) (head1 (Jvm.Cond.code (⟨"com/example/regraft/regraft/core/Node", "isValidName", "(Ljava/lang/String;)Z"⟩ : MethodName) prog_21_method_2_code 1 (some .boolean) :: ws) ({ frames := 7, cells := 2, slots := 16, locals := 100 } : Room)) (fun a_ U => a_ = #[(.ref x)] ∧ Z.Warmed39 U.vm ∧ U.heap = h0 ∧ CHv Z consts_1 U.vm h0 ∧ ∀ y ∈ ([] : List Addr), Safe Z consts_1 U.vm h0 y) (fun _ _ _ _ _ => True) (fun _ U o U' => ∃ v L, o = .returned v ∧ QVT Z x t kt cs cd zc vf h0 n0 v U'.heap L ∧ CHr Z consts_1 U.vm U.heap U'.vm U'.heap ∧ ReturnedEndW U o U' L ({ frames := 7, cells := 2, slots := 16, locals := 100 } : Room).cells ({ frames := 7, cells := 2, slots := 16, locals := 100 } : Room).slots) := by
  refine MetFree.of_bodySF (plainFor_of_name pn_5) hisR ?_
  intro p e s m args below meth c s₁ Bd hml0 hP hK
  obtain ⟨rfl, hZ, hh, hCH, hSf⟩ := hP
  have C0 : CHr Z consts_1 s.vm h0 s.vm h0 := CHr.refl hCH
  have hS0 : s.Since s.vm h0.size := (State.WarmedH.refl s).since _
  have hx := Bd.exec
  have hby := Bd.bytes
  have hml : c.maxLocals = 1 := hml0
  have hown : s.vm.findClass "com/example/regraft/regraft/core/Node" = some m.cls := findClass_of_methodNamed Bd.named
  have hnm := (name_of_methodNamed Bd.named Bd.method).1
  have X0 : Stand p l e ({ frames := 7, cells := 2, slots := 16, locals := 100 } : Room) s m #[(.ref x)] below meth c s₁ [] 0 0 := Stand.of_body Bd
  have e0 : s₁.heap = h0 := by rw [← hh, Bd.state]; rfl
  have N0 := Fr.nil n0
  refine Goes.doneH ?_
  obtain ⟨W, hWd⟩ : ∃ W : State → Prop, W = EndWH Z consts_1 s below (QVT Z x t kt cs cd zc vf h0 n0) ({ frames := 7, cells := 2, slots := 16, locals := 100 } : Room).cells ({ frames := 7, cells := 2, slots := 16, locals := 100 } : Room).slots := ⟨_, rfl⟩
  rw [← hWd]
  have hef : entryFrame m #[(.ref x)] 1 = (mkF m 0 #[.val (.ref x)] []) := by first | (simp [entryFrame, mkF, argsToLocals, Value.category]; done) | rfl
  rw [hef]
  have hwS := own_wS hw
  obtain ⟨E, FC, FV, BY⟩ := id TX
  obtain ⟨zz, vv, Bz, ez⟩ : ∃ (zz : Int32) (vv : List Value), Arv Z h0 t kt .byte zz vv (.int 0) ∧ ¬ zz = 0 := by
    rcases id BY with ⟨q1, -, q2⟩ | ⟨q1, -, q2⟩
    · exact ⟨_, _, q2, by rw [show (0 : Int32) = Int32.ofNat 0 from rfl, own_ninj (by omega) (by omega)]; omega⟩
    · exact ⟨_, _, q2, by rw [show (0 : Int32) = Int32.ofNat 0 from rfl, own_ninj (by omega) (by omega)]; omega⟩
  refine Goes.on (T' := s₁) (g' := (mkF m 1 #[.val (.ref x)] [(.ref x)])) ?_ (fun t_ k_ => XS.aloadN X0.here hx rfl (hb hby d5_0) rfl rfl k_)
  refine Goes.on (T' := s₁) (g' := (mkF m 4 #[.val (.ref x)] [])) ?_ (fun t_ k_ => XS.ifnullNo X0.here hx rfl (hb hby d5_1) rfl k_)
  refine Goes.on (T' := s₁) (g' := (mkF m 5 #[.val (.ref x)] [(.ref x)])) ?_ (fun t_ k_ => XS.aloadN X0.here hx rfl (hb hby d5_4) rfl rfl k_)
  obtain ⟨cq1, kq1, q1a, q1b, q1c⟩ := isOf hZ e0 E
  obtain ⟨_, _, ⟨T1, Lq_1, kq_1, nq_1⟩, -, X1, ⟨Lc1, hQ1, l1, y1, z1⟩, st1⟩ := X0.virtualBack hx (y := (⟨"java/lang/String", "isEmpty", "()Z"⟩ : MethodName)) (z := (⟨"java/lang/String", "isEmpty", "()Z"⟩ : MethodName)) hown (mvT hZ (hw _ (List.mem_of_getElem? (i := 31) rfl))) (mvT hZ (hw _ (List.mem_of_getElem? (i := 32) rfl))) (notFace_of_selects (args := #[]) (mvT hZ (hw _ (List.mem_of_getElem? (i := 34) rfl)))) (mvT hZ (hw _ (List.mem_of_getElem? (i := 34) rfl))) (mvT hZ (hw _ (List.mem_of_getElem? (i := 33) rfl))) (by decide) (backOf (W := 0) (rmEM l Z a0 hw [] x t kt zz vv h0 n0 Z0 FV Bz) hZ (hw _ (List.mem_of_getElem? (i := 35) rfl)) (hw _ (List.mem_of_getElem? (i := 7) rfl)) (by decide) (by decide)) q1a q1c (g := (mkF m 5 #[.val (.ref x)] [(.ref x)])) rfl (by rw [hml]; rfl) (Steps.refl _) (argsL := []) (rest := []) (lenOf pd_16 rfl) rfl (by show 2 * 0 + _ ≤ _; exact Nat.le_of_eq rfl) (hb hby d5_5) (fun _ _ => ⟨rfl, e0, (by decide : 0 + 0 ≤ _), (by decide : 0 + 0 ≤ _)⟩)
  dsimp only [Pt.U, Pt.locs, Pt.cells, Pt.slots] at X1 l1 y1 z1 st1 hQ1
  rw [l1, y1, z1] at X1
  change Stand p l e _ _ m _ below meth c T1 _ 0 0 at X1
  obtain ⟨rfl, N1q, eh1⟩ := hQ1
  have N1 := Fr.app N0 N1q
  refine Goes.on (T' := T1) (g' := (mkF m 8 #[.val (.ref x)] [(.int (if zz = 0 then 1 else 0))])) ?_ (fun t => st1.trans)
  rw [if_neg ez]
  refine Goes.on (T' := T1) (g' := (mkF m 11 #[.val (.ref x)] [])) ?_ (fun t_ k_ => XS.ifNo X1.here hx rfl (hb hby d5_8) rfl (by decide) k_)
  refine Goes.on (T' := T1) (g' := (mkF m 12 #[.val (.ref x)] [(.ref x)])) ?_ (fun t_ k_ => XS.aloadN X1.here hx rfl (hb hby d5_11) rfl rfl k_)
  refine Goes.on (T' := T1) (g' := (mkF m 14 #[.val (.ref x)] [(.int (47 : Int32)), (.ref x)])) ?_ (fun t_ k_ => XS.bipush X1.here hx rfl (hb hby d5_12) k_)
  obtain ⟨cq2, kq2, q2a, q2b, q2c⟩ := isOf hZ eh1 E
  obtain ⟨_, _, ⟨T2, Lq_2, kq_2, nq_2⟩, -, X2, ⟨Lc2, hQ2, l2, y2, z2⟩, st2⟩ := X1.virtualBack hx (y := (⟨"java/lang/String", "indexOf", "(I)I"⟩ : MethodName)) (z := (⟨"java/lang/String", "indexOf", "(I)I"⟩ : MethodName)) hown (mvT hZ (hw _ (List.mem_of_getElem? (i := 47) rfl))) (mvT hZ (hw _ (List.mem_of_getElem? (i := 48) rfl))) (notFace_of_selects (args := #[]) (mvT hZ (hw _ (List.mem_of_getElem? (i := 50) rfl)))) (mvT hZ (hw _ (List.mem_of_getElem? (i := 50) rfl))) (mvT hZ (hw _ (List.mem_of_getElem? (i := 49) rfl))) (by decide) (backOf (W := 0) (rmIX l Z a0 hw [] x t kt cs cd zc vf h0 n0 Z0 TX CS hzc hp hl hl0 X0_ AD HB LB SO rG) hZ (hw _ (List.mem_of_getElem? (i := 51) rfl)) (hw _ (List.mem_of_getElem? (i := 7) rfl)) (by decide) (by decide)) q2a q2c (g := (mkF m 14 #[.val (.ref x)] [(.int (47 : Int32)), (.ref x)])) rfl (by rw [hml]; rfl) (Steps.refl _) (argsL := [(.int (47 : Int32))]) (rest := []) (lenOf pd_0 rfl) rfl (by show 2 * 0 + _ ≤ _; exact Nat.le_of_eq rfl) (hb hby d5_14) (fun _ _ => ⟨rfl, eh1, (by decide : 0 + 0 ≤ _), (by decide : 0 + 0 ≤ _)⟩)
  dsimp only [Pt.U, Pt.locs, Pt.cells, Pt.slots] at X2 l2 y2 z2 st2 hQ2
  rw [l2, y2, z2] at X2
  change Stand p l e _ _ m _ below meth c T2 _ 0 0 at X2
  obtain ⟨rfl, N2q, eh2⟩ := hQ2
  have N2 := Fr.app N1 N2q
  refine Goes.on (T' := T2) (g' := (mkF m 17 #[.val (.ref x)] [(.int (own_idx cs (47 : Int32) cs.length 0))])) ?_ (fun t => st2.trans)
  refine Goes.ifN X2 hx rfl (pc0 := 17) (pc' := 33) rfl (hb hby d5_17) rfl (by decide) (by decide) (P := (own_idx cs (47 : Int32) cs.length 0) < (0 : Int32)) (ifc_ge _ _) (fun hc17 => ?_) (fun hc17 => ?_)
  · show Goes p e below W T2 (mkF m 33 #[.val (.ref x)] [])
    refine Goes.on (T' := T2) (g' := (mkF m 34 #[.val (.ref x)] [(.int (0 : Int32))])) ?_ (fun t_ k_ => XS.iconst X2.here hx rfl (hb hby d5_33) k_)
    rw [hWd]
    exact Goes.retnH X2 hS0 eh2 (Nat.le_refl _) hZ hEL hh C0 (v := some (.int (nar .boolean (0 : Int32)))) (fun fs hr => retN X2 hx (t := .boolean) Bd.returns (by simp) (hb hby d5_34) hr) (fun h => by rw [Bd.returns] at h; cases h) Bd.notSynchronized (by decide) (by decide) (by rw [eh2]; exact ⟨by unfold own_ivn; rw [if_neg hc17]; rfl, N2⟩)
  · show Goes p e below W T2 (mkF m 20 #[.val (.ref x)] [])
    refine Goes.on (T' := T2) (g' := (mkF m 21 #[.val (.ref x)] [(.ref x)])) ?_ (fun t_ k_ => XS.aloadN X2.here hx rfl (hb hby d5_20) rfl rfl k_)
    obtain ⟨u3, T3, h3, q3, b3, kc3, X3, e3, E3, hS3, hk3, hZ, hown, Eu3, Cu3, Vu3, Ku3, lu3, lb3, D3, Li3, ne3, st3⟩ := ldcCH (s := s) (vm0 := s.vm) X2 hx hZ hown (hw _ (List.mem_of_getElem? (i := 134) rfl)) hwS eh2 hS0 (Nat.le_refl _) hEL (by simp [consts_1]) C0.1 (vs := ([58, 105, 100] : List Int32).map Value.int) (z := Int32.ofNat ([58, 105, 100] : List Int32).length) ⟨by decide, by decide⟩ (by decide) (by decide) (g := (mkF m 21 #[.val (.ref x)] [(.ref x)])) rfl (hb hby d5_21) (n := 12) (by decide) (by decide) (by decide) (by decide)
    have Z3 : n0 ≤ h3.size := Nat.le_trans Z0 E3.1
    have C4 := C0.trans D3
    refine Goes.on (T' := T3) (g' := (mkF m 23 #[.val (.ref x)] [(.ref u3), (.ref x)])) ?_ st3
    have Lu : Lat Z h3 u3 b3 kc3 ([58, 105, 100] : List Int32) := ⟨Eu3, Cu3, Vu3, Ku3, by decide⟩
    have X1_ : Old Z n0 h3 := X0_.ext E3
    have TX1 := TX.keep ((Keep.refl _ []).ext E3) nin0 nin0
    rcases id TX1.2.2.2 with ⟨hcd, hfit, B1⟩ | ⟨hcd, hfl, B1⟩
    · show Goes p e below W T3 (mkF m 23 #[.val (.ref x)] [(.ref u3), (.ref x)])
      have La : Lat Z h3 x t kt (cs.map own_lo) := ⟨TX1.1, (by rw [← hcd]; exact TX1.2.1), TX1.2.2.1, (by rw [List.length_map]; exact B1), (by rw [List.length_map]; omega)⟩
      obtain ⟨cq5, kq5, q5a, q5b, q5c⟩ := isOf hZ e3 La.1
      obtain ⟨_, _, ⟨T5, Lq_5, kq_5, nq_5⟩, -, X5, ⟨Lc5, hQ5, l5, y5, z5⟩, st5⟩ := X3.virtualBack hx (y := (⟨"java/lang/String", "equals", "(Ljava/lang/Object;)Z"⟩ : MethodName)) (z := (⟨"java/lang/String", "equals", "(Ljava/lang/Object;)Z"⟩ : MethodName)) hown (mvT hZ (hw _ (List.mem_of_getElem? (i := 135) rfl))) (mvT hZ (hw _ (List.mem_of_getElem? (i := 136) rfl))) (notFace_of_selects (args := #[]) (mvT hZ (hw _ (List.mem_of_getElem? (i := 138) rfl)))) (mvT hZ (hw _ (List.mem_of_getElem? (i := 138) rfl))) (mvT hZ (hw _ (List.mem_of_getElem? (i := 137) rfl))) (by decide) (backOf (W := 0) (rmSE l Z a0 hw [] x u3 t b3 kt kc3 (cs.map own_lo) ([58, 105, 100] : List Int32) zc h3 n0 Z3 La Lu (CS.ext X1_.2) hzc) hZ (hw _ (List.mem_of_getElem? (i := 139) rfl)) (hw _ (List.mem_of_getElem? (i := 7) rfl)) (by decide) (by decide)) q5a q5c (g := (mkF m 23 #[.val (.ref x)] [(.ref u3), (.ref x)])) rfl (by rw [hml]; rfl) (Steps.refl _) (argsL := [(.ref u3)]) (rest := []) (lenOf pd_19 rfl) rfl (by show 2 * 0 + _ ≤ _; exact Nat.le_of_eq rfl) (hb hby d5_23) (fun _ _ => ⟨rfl, e3, (by decide : 2 + 0 ≤ _), (by decide : 16 + 0 ≤ _)⟩)
      dsimp only [Pt.U, Pt.locs, Pt.cells, Pt.slots] at X5 l5 y5 z5 st5 hQ5
      rw [l5, y5, z5] at X5
      change Stand p l e _ _ m _ below meth c T5 _ 2 16 at X5
      obtain ⟨rfl, N5q, eh5⟩ := hQ5
      have N5 := Fr.app N2 N5q
      refine Goes.on (T' := T5) (g' := (mkF m 26 #[.val (.ref x)] [(.int (if (cs.map own_lo) = ([58, 105, 100] : List Int32) then 1 else 0))])) ?_ (fun t => st5.trans)
      have eid : (if (cs.map own_lo) = ([58, 105, 100] : List Int32) then (1 : Int32) else 0) = (if cs = ([58, 105, 100] : List Int32) then 1 else 0) := by simp only [own_idl hp hfit]
      rw [eid]
      refine Goes.ifN X5 hx rfl (pc0 := 26) (pc' := 33) rfl (hb hby d5_26) rfl (by decide) (by decide) (P := (if cs = ([58, 105, 100] : List Int32) then 1 else 0) = (0 : Int32)) (ifc_ne _ _) (fun hc26 => ?_) (fun hc26 => ?_)
      · show Goes p e below W T5 (mkF m 33 #[.val (.ref x)] [])
        refine Goes.on (T' := T5) (g' := (mkF m 34 #[.val (.ref x)] [(.int (0 : Int32))])) ?_ (fun t_ k_ => XS.iconst X5.here hx rfl (hb hby d5_33) k_)
        rw [hWd]
        exact Goes.retnH X5 hS3 eh5 hk3 hZ hEL hh C4 (v := some (.int (nar .boolean (0 : Int32)))) (fun fs hr => retN X5 hx (t := .boolean) Bd.returns (by simp) (hb hby d5_34) hr) (fun h => by rw [Bd.returns] at h; cases h) Bd.notSynchronized (by decide) (by decide) (by rw [eh5]; exact ⟨by unfold own_ivn; rw [if_pos hc17]; split at hc26; rw [if_pos (by assumption)]; rfl; exact absurd rfl hc26, N5⟩)
      · show Goes p e below W T5 (mkF m 29 #[.val (.ref x)] [])
        refine Goes.on (T' := T5) (g' := (mkF m 30 #[.val (.ref x)] [(.int (1 : Int32))])) ?_ (fun t_ k_ => XS.iconst X5.here hx rfl (hb hby d5_29) k_)
        refine Goes.on (T' := T5) (g' := (mkF m 34 #[.val (.ref x)] [(.int (1 : Int32))])) ?_ (fun t_ k_ => XS.goto X5.here hx rfl (pc0 := 30) (pc' := 34) rfl (hb hby d5_30) (by decide) (by decide) k_)
        rw [hWd]
        exact Goes.retnH X5 hS3 eh5 hk3 hZ hEL hh C4 (v := some (.int (nar .boolean (1 : Int32)))) (fun fs hr => retN X5 hx (t := .boolean) Bd.returns (by simp) (hb hby d5_34) hr) (fun h => by rw [Bd.returns] at h; cases h) Bd.notSynchronized (by decide) (by decide) (by rw [eh5]; exact ⟨by unfold own_ivn; rw [if_pos hc17]; split at hc26; exact absurd hc26 (by decide); rw [if_neg (by assumption)]; rfl, N5⟩)
    · show Goes p e below W T3 (mkF m 23 #[.val (.ref x)] [(.ref u3), (.ref x)])
      obtain ⟨cq6, kq6, q6a, q6b, q6c⟩ := isOf hZ e3 TX1.1
      obtain ⟨_, _, ⟨T6, Lq_6, kq_6, nq_6⟩, -, X6, ⟨Lc6, hQ6, l6, y6, z6⟩, st6⟩ := X3.virtualBack hx (y := (⟨"java/lang/String", "equals", "(Ljava/lang/Object;)Z"⟩ : MethodName)) (z := (⟨"java/lang/String", "equals", "(Ljava/lang/Object;)Z"⟩ : MethodName)) hown (mvT hZ (hw _ (List.mem_of_getElem? (i := 135) rfl))) (mvT hZ (hw _ (List.mem_of_getElem? (i := 136) rfl))) (notFace_of_selects (args := #[]) (mvT hZ (hw _ (List.mem_of_getElem? (i := 138) rfl)))) (mvT hZ (hw _ (List.mem_of_getElem? (i := 138) rfl))) (mvT hZ (hw _ (List.mem_of_getElem? (i := 137) rfl))) (by decide) (backOf (W := 0) (rmSX l Z a0 hw [] x u3 b3 kc3 ([58, 105, 100] : List Int32) zc h3 n0 Z3 (by rw [← hcd]; exact TX1.2.1) Lu CS hzc X1_) hZ (hw _ (List.mem_of_getElem? (i := 139) rfl)) (hw _ (List.mem_of_getElem? (i := 7) rfl)) (by decide) (by decide)) q6a q6c (g := (mkF m 23 #[.val (.ref x)] [(.ref u3), (.ref x)])) rfl (by rw [hml]; rfl) (Steps.refl _) (argsL := [(.ref u3)]) (rest := []) (lenOf pd_19 rfl) rfl (by show 2 * 0 + _ ≤ _; exact Nat.le_of_eq rfl) (hb hby d5_23) (fun _ _ => ⟨rfl, e3, (by decide : 2 + 0 ≤ _), (by decide : 16 + 0 ≤ _)⟩)
      dsimp only [Pt.U, Pt.locs, Pt.cells, Pt.slots] at X6 l6 y6 z6 st6 hQ6
      rw [l6, y6, z6] at X6
      change Stand p l e _ _ m _ below meth c T6 _ 2 16 at X6
      obtain ⟨rfl, N6q, eh6⟩ := hQ6
      have N6 := Fr.app N2 N6q
      refine Goes.on (T' := T6) (g' := (mkF m 26 #[.val (.ref x)] [(.int (0 : Int32))])) ?_ (fun t => st6.trans)
      have eid : (0 : Int32) = (if cs = ([58, 105, 100] : List Int32) then 1 else 0) := by rw [if_neg (own_notid hfl)]
      rw [eid]
      refine Goes.ifN X6 hx rfl (pc0 := 26) (pc' := 33) rfl (hb hby d5_26) rfl (by decide) (by decide) (P := (if cs = ([58, 105, 100] : List Int32) then 1 else 0) = (0 : Int32)) (ifc_ne _ _) (fun hc26 => ?_) (fun hc26 => ?_)
      · show Goes p e below W T6 (mkF m 33 #[.val (.ref x)] [])
        refine Goes.on (T' := T6) (g' := (mkF m 34 #[.val (.ref x)] [(.int (0 : Int32))])) ?_ (fun t_ k_ => XS.iconst X6.here hx rfl (hb hby d5_33) k_)
        rw [hWd]
        exact Goes.retnH X6 hS3 eh6 hk3 hZ hEL hh C4 (v := some (.int (nar .boolean (0 : Int32)))) (fun fs hr => retN X6 hx (t := .boolean) Bd.returns (by simp) (hb hby d5_34) hr) (fun h => by rw [Bd.returns] at h; cases h) Bd.notSynchronized (by decide) (by decide) (by rw [eh6]; exact ⟨by unfold own_ivn; rw [if_pos hc17]; split at hc26; rw [if_pos (by assumption)]; rfl; exact absurd rfl hc26, N6⟩)
      · show Goes p e below W T6 (mkF m 29 #[.val (.ref x)] [])
        refine Goes.on (T' := T6) (g' := (mkF m 30 #[.val (.ref x)] [(.int (1 : Int32))])) ?_ (fun t_ k_ => XS.iconst X6.here hx rfl (hb hby d5_29) k_)
        refine Goes.on (T' := T6) (g' := (mkF m 34 #[.val (.ref x)] [(.int (1 : Int32))])) ?_ (fun t_ k_ => XS.goto X6.here hx rfl (pc0 := 30) (pc' := 34) rfl (hb hby d5_30) (by decide) (by decide) k_)
        rw [hWd]
        exact Goes.retnH X6 hS3 eh6 hk3 hZ hEL hh C4 (v := some (.int (nar .boolean (1 : Int32)))) (fun fs hr => retN X6 hx (t := .boolean) Bd.returns (by simp) (hb hby d5_34) hr) (fun h => by rw [Bd.returns] at h; cases h) Bd.notSynchronized (by decide) (by decide) (by rw [eh6]; exact ⟨by unfold own_ivn; rw [if_pos hc17]; split at hc26; exact absurd hc26 (by decide); rw [if_neg (by assumption)]; rfl, N6⟩)
def Q0 (Z : State) (h0 : Heap) (n0 : Nat) (v : Option Value) (h : Heap) (L : List Loc) : Prop := v = some (.int (1 : Int32)) ∧ Fr n0 L
set_option maxRecDepth 65536 in
set_option maxHeartbeats 40000000 in
theorem rm0 (l : Launch) (Z : State) (a0 : Array Value) (hw : ∀ d ∈ tables_1, d.before a0 Z = true) (ws : List Jvm.Cond) (ya0 ya1 ya2 ya3 ya4 : Int32) (zc : Int32) (vf : Value) (h0 : Heap) (n0 : Nat) (Z0 : n0 ≤ h0.size) (hh0 : Z.heap = h0) (hn0 : n0 = h0.size) (hCH0 : CHv Z consts_1 Z.vm h0) (CS : Sta Z Z.heap "java/lang/String" "COMPACT_STRINGS" "Z" (.int zc)) (hzc : ¬ zc = (0 : Int32)) (AD : Sta Z Z.heap "java/lang/StringUTF16" "$assertionsDisabled" "Z" (.int (1 : Int32))) (HB : Sta Z Z.heap "java/lang/StringUTF16" "HI_BYTE_SHIFT" "I" (.int (0 : Int32))) (LB : Sta Z Z.heap "java/lang/StringUTF16" "LO_BYTE_SHIFT" "I" (.int (8 : Int32)))  (SO : Sta Z Z.heap "jdk/internal/util/Preconditions" "SIOOBE_FORMATTER" "Ljava/util/function/BiFunction;" vf) (rG : vf.isRef = true) (X0_ : Old Z n0 h0) :
    MetFree l x (head1 (Jvm.Cond.code x code maxLocals ret :: ws) room_1) (fun a_ U => a_ = #[(.int ya0), (.int ya1), (.int ya2), (.int ya3), (.int ya4)] ∧ U = Z) (fun _ _ _ _ _ => True) (fun _ U o U' => ∃ v L, o = .returned v ∧ Q0 Z h0 n0 v U'.heap L ∧ ReturnedEndW U o U' L room_1.cells room_1.slots) := by
  refine MetFree.of_bodySF (plainFor_of_name pn_2) hisR ?_
  intro p e s m args below meth c s₁ Bd hml0 hP hK
  obtain ⟨rfl, hUZ⟩ := hP
  have hZ : Z.Warmed39 s.vm := by rw [hUZ]; exact State.Warmed39.refl Z
  have hh : s.heap = h0 := by rw [hUZ]; exact hh0
  have hkeep : ∀ (b : Addr) (cl : Cell), Z.heap[b]? = some cl → s.heap[b]? = some cl := by rw [hUZ]; exact fun _ _ h => h
  have I0 : IB Z s.vm [] := by rw [hUZ]; exact IB.start
  have hS0 : s.Since s.vm h0.size := (State.WarmedH.refl s).since _
  have hx := Bd.exec
  have hby := Bd.bytes
  have hml : c.maxLocals = 15 := hml0
  have hown : s.vm.findClass "com/example/regraft/regraft/core/NodeIsValidNamePinLaw" = some m.cls := findClass_of_methodNamed Bd.named
  have hnm := (name_of_methodNamed Bd.named Bd.method).1
  have X0 : Stand p l e room_1 s m #[(.int ya0), (.int ya1), (.int ya2), (.int ya3), (.int ya4)] below meth c s₁ [] 0 0 := Stand.of_body Bd
  have e0 : s₁.heap = h0 := by rw [← hh, Bd.state]; rfl
  have N0 := Fr.nil n0
  refine Goes.doneW ?_
  obtain ⟨W, hWd⟩ : ∃ W : State → Prop, W = EndWW s below (Q0 Z h0 n0) room_1.cells room_1.slots := ⟨_, rfl⟩
  rw [← hWd]
  have hef : entryFrame m #[(.int ya0), (.int ya1), (.int ya2), (.int ya3), (.int ya4)] maxLocals = (mkF m 0 #[.val (.int ya0), .val (.int ya1), .val (.int ya2), .val (.int ya3), .val (.int ya4), .unset, .unset, .unset, .unset, .unset, .unset, .unset, .unset, .unset, .unset] []) := by first | (simp [entryFrame, mkF, argsToLocals, Value.category, maxLocals]; done) | rfl
  rw [hef]
  have hwS := own_wS hw
  have hEL := own_EW hw
  have C0 : CHr Z consts_1 s.vm h0 s.vm h0 := CHr.refl (by rw [hUZ]; exact hCH0)
  refine Goes.on (T' := s₁) (g' := (mkF m 1 #[.val (.int ya0), .val (.int ya1), .val (.int ya2), .val (.int ya3), .val (.int ya4), .unset, .unset, .unset, .unset, .unset, .unset, .unset, .unset, .unset, .unset] [(.int ya0)])) ?_ (fun t_ k_ => XS.iloadN X0.here hx rfl (hb hby at_0) rfl k_)
  refine Goes.on (T' := s₁) (g' := (mkF m 3 #[.val (.int ya0), .val (.int ya1), .val (.int ya2), .val (.int ya3), .val (.int ya4), .unset, .unset, .unset, .unset, .unset, .unset, .unset, .unset, .unset, .unset] [(.int (2147483647 : Int32)), (.int ya0)])) ?_ (X0.ldcInt hx hown (mvT hZ (hw _ (List.mem_of_getElem? (i := 0) rfl))) (g := (mkF m 1 #[.val (.int ya0), .val (.int ya1), .val (.int ya2), .val (.int ya3), .val (.int ya4), .unset, .unset, .unset, .unset, .unset, .unset, .unset, .unset, .unset, .unset] [(.int ya0)])) rfl (hb hby at_1))
  refine Goes.on (T' := s₁) (g' := (mkF m 4 #[.val (.int ya0), .val (.int ya1), .val (.int ya2), .val (.int ya3), .val (.int ya4), .unset, .unset, .unset, .unset, .unset, .unset, .unset, .unset, .unset, .unset] [(.int (ya0 &&& (2147483647 : Int32)))])) ?_ (fun t_ k_ => XS.iand X0.here hx rfl (hb hby at_3) rfl k_)
  refine Goes.on (T' := s₁) (g' := (mkF m 6 #[.val (.int ya0), .val (.int ya1), .val (.int ya2), .val (.int ya3), .val (.int ya4), .unset, .unset, .unset, .unset, .unset, .unset, .unset, .unset, .unset, .unset] [(.int (6 : Int32)), (.int (ya0 &&& (2147483647 : Int32)))])) ?_ (fun t_ k_ => XS.bipush X0.here hx rfl (hb hby at_4) k_)
  refine Goes.on (T' := s₁) (g' := (mkF m 7 #[.val (.int ya0), .val (.int ya1), .val (.int ya2), .val (.int ya3), .val (.int ya4), .unset, .unset, .unset, .unset, .unset, .unset, .unset, .unset, .unset, .unset] [(.int ((ya0 &&& (2147483647 : Int32)) % (6 : Int32)))])) ?_ (fun t_ k_ => iremM X0 hx rfl (hb hby at_6) rfl (by decide) k_)
  obtain ⟨f, hf5, ef⟩ := own_from ya0
  rw [ef]
  refine Goes.on (T' := s₁) (g' := (mkF m 9 #[.val (.int ya0), .val (.int ya1), .val (.int ya2), .val (.int ya3), .val (.int ya4), .val (.int (Int32.ofNat f)), .unset, .unset, .unset, .unset, .unset, .unset, .unset, .unset, .unset] [])) ?_ (fun t_ k_ => XS.istore X0.here hx rfl (hb hby at_7) rfl (l' := #[.val (.int ya0), .val (.int ya1), .val (.int ya2), .val (.int ya3), .val (.int ya4), .val (.int (Int32.ofNat f)), .unset, .unset, .unset, .unset, .unset, .unset, .unset, .unset, .unset]) rfl k_)
  refine Goes.on (T' := s₁) (g' := (mkF m 10 #[.val (.int ya0), .val (.int ya1), .val (.int ya2), .val (.int ya3), .val (.int ya4), .val (.int (Int32.ofNat f)), .unset, .unset, .unset, .unset, .unset, .unset, .unset, .unset, .unset] [(.int ya1)])) ?_ (fun t_ k_ => XS.iloadN X0.here hx rfl (hb hby at_9) rfl k_)
  obtain ⟨_, _, ⟨T1, Lq_1, kq_1, nq_1⟩, -, X1, ⟨Lc1, hQ1, l1, y1, z1⟩, st1⟩ := Jvm.LawKit.callS X0 hx (y := (⟨"com/example/regraft/regraft/core/NodeIsValidNamePinLaw", "draw", "(I)C"⟩ : MethodName)) hown (mvT hZ (hw _ (List.mem_of_getElem? (i := 1) rfl))) (mvT hZ (hw _ (List.mem_of_getElem? (i := 2) rfl))) (mvT hZ (hw _ (List.mem_of_getElem? (i := 3) rfl))) (mvT hZ (hw _ (List.mem_of_getElem? (i := 4) rfl))) (by decide) (backOf (W := 0) (rmDR l Z a0 hw [] ya1 h0 n0 Z0) hZ (hw _ (List.mem_of_getElem? (i := 4) rfl)) (hw _ (List.mem_of_getElem? (i := 3) rfl)) (by decide) (by decide)) (g := (mkF m 10 #[.val (.int ya0), .val (.int ya1), .val (.int ya2), .val (.int ya3), .val (.int ya4), .val (.int (Int32.ofNat f)), .unset, .unset, .unset, .unset, .unset, .unset, .unset, .unset, .unset] [(.int ya1)])) rfl (by rw [hml]; rfl) (argsL := [(.int ya1)]) (rest := []) (lenOf pd_20 rfl) rfl (by show 2 * 0 + _ ≤ _; exact Nat.le_of_eq rfl) (hb hby at_10) (fun _ _ => ⟨rfl, e0, (by decide : 0 + 0 ≤ _), (by decide : 0 + 0 ≤ _)⟩)
  dsimp only [Pt.U, Pt.locs, Pt.cells, Pt.slots] at X1 l1 y1 z1 st1 hQ1
  rw [l1, y1, z1] at X1
  change Stand p l e _ _ m _ below meth c T1 _ 0 0 at X1
  obtain ⟨c0, rfl, N1q, eh1, hpa0, hpb0⟩ := hQ1
  have N1 := Fr.app N0 N1q
  refine Goes.on (T' := T1) (g' := (mkF m 13 #[.val (.int ya0), .val (.int ya1), .val (.int ya2), .val (.int ya3), .val (.int ya4), .val (.int (Int32.ofNat f)), .unset, .unset, .unset, .unset, .unset, .unset, .unset, .unset, .unset] [(.int c0)])) ?_ st1
  refine Goes.on (T' := T1) (g' := (mkF m 15 #[.val (.int ya0), .val (.int ya1), .val (.int ya2), .val (.int ya3), .val (.int ya4), .val (.int (Int32.ofNat f)), .val (.int c0), .unset, .unset, .unset, .unset, .unset, .unset, .unset, .unset] [])) ?_ (fun t_ k_ => XS.istore X1.here hx rfl (hb hby at_13) rfl (l' := #[.val (.int ya0), .val (.int ya1), .val (.int ya2), .val (.int ya3), .val (.int ya4), .val (.int (Int32.ofNat f)), .val (.int c0), .unset, .unset, .unset, .unset, .unset, .unset, .unset, .unset]) rfl k_)
  refine Goes.on (T' := T1) (g' := (mkF m 16 #[.val (.int ya0), .val (.int ya1), .val (.int ya2), .val (.int ya3), .val (.int ya4), .val (.int (Int32.ofNat f)), .val (.int c0), .unset, .unset, .unset, .unset, .unset, .unset, .unset, .unset] [(.int ya2)])) ?_ (fun t_ k_ => XS.iloadN X1.here hx rfl (hb hby at_15) rfl k_)
  obtain ⟨_, _, ⟨T2, Lq_2, kq_2, nq_2⟩, -, X2, ⟨Lc2, hQ2, l2, y2, z2⟩, st2⟩ := Jvm.LawKit.callS X1 hx (y := (⟨"com/example/regraft/regraft/core/NodeIsValidNamePinLaw", "draw", "(I)C"⟩ : MethodName)) hown (mvT hZ (hw _ (List.mem_of_getElem? (i := 1) rfl))) (mvT hZ (hw _ (List.mem_of_getElem? (i := 2) rfl))) (mvT hZ (hw _ (List.mem_of_getElem? (i := 3) rfl))) (mvT hZ (hw _ (List.mem_of_getElem? (i := 4) rfl))) (by decide) (backOf (W := 0) (rmDR l Z a0 hw [] ya2 h0 n0 Z0) hZ (hw _ (List.mem_of_getElem? (i := 4) rfl)) (hw _ (List.mem_of_getElem? (i := 3) rfl)) (by decide) (by decide)) (g := (mkF m 16 #[.val (.int ya0), .val (.int ya1), .val (.int ya2), .val (.int ya3), .val (.int ya4), .val (.int (Int32.ofNat f)), .val (.int c0), .unset, .unset, .unset, .unset, .unset, .unset, .unset, .unset] [(.int ya2)])) rfl (by rw [hml]; rfl) (argsL := [(.int ya2)]) (rest := []) (lenOf pd_20 rfl) rfl (by show 2 * 0 + _ ≤ _; exact Nat.le_of_eq rfl) (hb hby at_16) (fun _ _ => ⟨rfl, eh1, (by decide : 0 + 0 ≤ _), (by decide : 0 + 0 ≤ _)⟩)
  dsimp only [Pt.U, Pt.locs, Pt.cells, Pt.slots] at X2 l2 y2 z2 st2 hQ2
  rw [l2, y2, z2] at X2
  change Stand p l e _ _ m _ below meth c T2 _ 0 0 at X2
  obtain ⟨c1, rfl, N2q, eh2, hpa1, hpb1⟩ := hQ2
  have N2 := Fr.app N1 N2q
  refine Goes.on (T' := T2) (g' := (mkF m 19 #[.val (.int ya0), .val (.int ya1), .val (.int ya2), .val (.int ya3), .val (.int ya4), .val (.int (Int32.ofNat f)), .val (.int c0), .unset, .unset, .unset, .unset, .unset, .unset, .unset, .unset] [(.int c1)])) ?_ st2
  refine Goes.on (T' := T2) (g' := (mkF m 21 #[.val (.int ya0), .val (.int ya1), .val (.int ya2), .val (.int ya3), .val (.int ya4), .val (.int (Int32.ofNat f)), .val (.int c0), .val (.int c1), .unset, .unset, .unset, .unset, .unset, .unset, .unset] [])) ?_ (fun t_ k_ => XS.istore X2.here hx rfl (hb hby at_19) rfl (l' := #[.val (.int ya0), .val (.int ya1), .val (.int ya2), .val (.int ya3), .val (.int ya4), .val (.int (Int32.ofNat f)), .val (.int c0), .val (.int c1), .unset, .unset, .unset, .unset, .unset, .unset, .unset]) rfl k_)
  refine Goes.on (T' := T2) (g' := (mkF m 22 #[.val (.int ya0), .val (.int ya1), .val (.int ya2), .val (.int ya3), .val (.int ya4), .val (.int (Int32.ofNat f)), .val (.int c0), .val (.int c1), .unset, .unset, .unset, .unset, .unset, .unset, .unset] [(.int ya3)])) ?_ (fun t_ k_ => XS.iloadN X2.here hx rfl (hb hby at_21) rfl k_)
  obtain ⟨_, _, ⟨T3, Lq_3, kq_3, nq_3⟩, -, X3, ⟨Lc3, hQ3, l3, y3, z3⟩, st3⟩ := Jvm.LawKit.callS X2 hx (y := (⟨"com/example/regraft/regraft/core/NodeIsValidNamePinLaw", "draw", "(I)C"⟩ : MethodName)) hown (mvT hZ (hw _ (List.mem_of_getElem? (i := 1) rfl))) (mvT hZ (hw _ (List.mem_of_getElem? (i := 2) rfl))) (mvT hZ (hw _ (List.mem_of_getElem? (i := 3) rfl))) (mvT hZ (hw _ (List.mem_of_getElem? (i := 4) rfl))) (by decide) (backOf (W := 0) (rmDR l Z a0 hw [] ya3 h0 n0 Z0) hZ (hw _ (List.mem_of_getElem? (i := 4) rfl)) (hw _ (List.mem_of_getElem? (i := 3) rfl)) (by decide) (by decide)) (g := (mkF m 22 #[.val (.int ya0), .val (.int ya1), .val (.int ya2), .val (.int ya3), .val (.int ya4), .val (.int (Int32.ofNat f)), .val (.int c0), .val (.int c1), .unset, .unset, .unset, .unset, .unset, .unset, .unset] [(.int ya3)])) rfl (by rw [hml]; rfl) (argsL := [(.int ya3)]) (rest := []) (lenOf pd_20 rfl) rfl (by show 2 * 0 + _ ≤ _; exact Nat.le_of_eq rfl) (hb hby at_22) (fun _ _ => ⟨rfl, eh2, (by decide : 0 + 0 ≤ _), (by decide : 0 + 0 ≤ _)⟩)
  dsimp only [Pt.U, Pt.locs, Pt.cells, Pt.slots] at X3 l3 y3 z3 st3 hQ3
  rw [l3, y3, z3] at X3
  change Stand p l e _ _ m _ below meth c T3 _ 0 0 at X3
  obtain ⟨c2, rfl, N3q, eh3, hpa2, hpb2⟩ := hQ3
  have N3 := Fr.app N2 N3q
  refine Goes.on (T' := T3) (g' := (mkF m 25 #[.val (.int ya0), .val (.int ya1), .val (.int ya2), .val (.int ya3), .val (.int ya4), .val (.int (Int32.ofNat f)), .val (.int c0), .val (.int c1), .unset, .unset, .unset, .unset, .unset, .unset, .unset] [(.int c2)])) ?_ st3
  refine Goes.on (T' := T3) (g' := (mkF m 27 #[.val (.int ya0), .val (.int ya1), .val (.int ya2), .val (.int ya3), .val (.int ya4), .val (.int (Int32.ofNat f)), .val (.int c0), .val (.int c1), .val (.int c2), .unset, .unset, .unset, .unset, .unset, .unset] [])) ?_ (fun t_ k_ => XS.istore X3.here hx rfl (hb hby at_25) rfl (l' := #[.val (.int ya0), .val (.int ya1), .val (.int ya2), .val (.int ya3), .val (.int ya4), .val (.int (Int32.ofNat f)), .val (.int c0), .val (.int c1), .val (.int c2), .unset, .unset, .unset, .unset, .unset, .unset]) rfl k_)
  refine Goes.on (T' := T3) (g' := (mkF m 29 #[.val (.int ya0), .val (.int ya1), .val (.int ya2), .val (.int ya3), .val (.int ya4), .val (.int (Int32.ofNat f)), .val (.int c0), .val (.int c1), .val (.int c2), .unset, .unset, .unset, .unset, .unset, .unset] [(.int ya4)])) ?_ (fun t_ k_ => XS.iload X3.here hx rfl (hb hby at_27) rfl k_)
  obtain ⟨_, _, ⟨T4, Lq_4, kq_4, nq_4⟩, -, X4, ⟨Lc4, hQ4, l4, y4, z4⟩, st4⟩ := Jvm.LawKit.callS X3 hx (y := (⟨"com/example/regraft/regraft/core/NodeIsValidNamePinLaw", "draw", "(I)C"⟩ : MethodName)) hown (mvT hZ (hw _ (List.mem_of_getElem? (i := 1) rfl))) (mvT hZ (hw _ (List.mem_of_getElem? (i := 2) rfl))) (mvT hZ (hw _ (List.mem_of_getElem? (i := 3) rfl))) (mvT hZ (hw _ (List.mem_of_getElem? (i := 4) rfl))) (by decide) (backOf (W := 0) (rmDR l Z a0 hw [] ya4 h0 n0 Z0) hZ (hw _ (List.mem_of_getElem? (i := 4) rfl)) (hw _ (List.mem_of_getElem? (i := 3) rfl)) (by decide) (by decide)) (g := (mkF m 29 #[.val (.int ya0), .val (.int ya1), .val (.int ya2), .val (.int ya3), .val (.int ya4), .val (.int (Int32.ofNat f)), .val (.int c0), .val (.int c1), .val (.int c2), .unset, .unset, .unset, .unset, .unset, .unset] [(.int ya4)])) rfl (by rw [hml]; rfl) (argsL := [(.int ya4)]) (rest := []) (lenOf pd_20 rfl) rfl (by show 2 * 0 + _ ≤ _; exact Nat.le_of_eq rfl) (hb hby at_29) (fun _ _ => ⟨rfl, eh3, (by decide : 0 + 0 ≤ _), (by decide : 0 + 0 ≤ _)⟩)
  dsimp only [Pt.U, Pt.locs, Pt.cells, Pt.slots] at X4 l4 y4 z4 st4 hQ4
  rw [l4, y4, z4] at X4
  change Stand p l e _ _ m _ below meth c T4 _ 0 0 at X4
  obtain ⟨c3, rfl, N4q, eh4, hpa3, hpb3⟩ := hQ4
  have N4 := Fr.app N3 N4q
  refine Goes.on (T' := T4) (g' := (mkF m 32 #[.val (.int ya0), .val (.int ya1), .val (.int ya2), .val (.int ya3), .val (.int ya4), .val (.int (Int32.ofNat f)), .val (.int c0), .val (.int c1), .val (.int c2), .unset, .unset, .unset, .unset, .unset, .unset] [(.int c3)])) ?_ st4
  refine Goes.on (T' := T4) (g' := (mkF m 34 #[.val (.int ya0), .val (.int ya1), .val (.int ya2), .val (.int ya3), .val (.int ya4), .val (.int (Int32.ofNat f)), .val (.int c0), .val (.int c1), .val (.int c2), .val (.int c3), .unset, .unset, .unset, .unset, .unset] [])) ?_ (fun t_ k_ => XS.istore X4.here hx rfl (hb hby at_32) rfl (l' := #[.val (.int ya0), .val (.int ya1), .val (.int ya2), .val (.int ya3), .val (.int ya4), .val (.int (Int32.ofNat f)), .val (.int c0), .val (.int c1), .val (.int c2), .val (.int c3), .unset, .unset, .unset, .unset, .unset]) rfl k_)
  have hf6 : f = 0 ∨ f = 1 ∨ f = 2 ∨ f = 3 ∨ f = 4 ∨ f = 5 := by omega
  rcases hf6 with rfl | rfl | rfl | rfl | rfl | rfl
  · show Goes p e below W T4 (mkF m 34 #[.val (.int ya0), .val (.int ya1), .val (.int ya2), .val (.int ya3), .val (.int ya4), .val (.int (0 : Int32)), .val (.int c0), .val (.int c1), .val (.int c2), .val (.int c3), .unset, .unset, .unset, .unset, .unset] [])
    refine Goes.on (T' := T4) (g' := (mkF m 36 #[.val (.int ya0), .val (.int ya1), .val (.int ya2), .val (.int ya3), .val (.int ya4), .val (.int (0 : Int32)), .val (.int c0), .val (.int c1), .val (.int c2), .val (.int c3), .unset, .unset, .unset, .unset, .unset] [(.int (0 : Int32))])) ?_ (fun t_ k_ => XS.iload X4.here hx rfl (hb hby at_34) rfl k_)
    refine Goes.on (T' := T4) (g' := (mkF m 37 #[.val (.int ya0), .val (.int ya1), .val (.int ya2), .val (.int ya3), .val (.int ya4), .val (.int (0 : Int32)), .val (.int c0), .val (.int c1), .val (.int c2), .val (.int c3), .unset, .unset, .unset, .unset, .unset] [(.int (5 : Int32)), (.int (0 : Int32))])) ?_ (fun t_ k_ => XS.iconst X4.here hx rfl (hb hby at_36) k_)
    refine Goes.on (T' := T4) (g' := (mkF m 46 #[.val (.int ya0), .val (.int ya1), .val (.int ya2), .val (.int ya3), .val (.int ya4), .val (.int (0 : Int32)), .val (.int c0), .val (.int c1), .val (.int c2), .val (.int c3), .unset, .unset, .unset, .unset, .unset] [])) ?_ (fun t_ k_ => XS.icmpYes X4.here hx rfl (pc0 := 37) (pc' := 46) rfl (hb hby at_37) rfl (by decide) (by decide) (by decide) k_)
    refine Goes.on (T' := T4) (g' := (mkF m 48 #[.val (.int ya0), .val (.int ya1), .val (.int ya2), .val (.int ya3), .val (.int ya4), .val (.int (0 : Int32)), .val (.int c0), .val (.int c1), .val (.int c2), .val (.int c3), .unset, .unset, .unset, .unset, .unset] [(.int (0 : Int32))])) ?_ (fun t_ k_ => XS.iload X4.here hx rfl (hb hby at_46) rfl k_)
    refine Goes.on (T' := T4) (g' := (mkF m 51 #[.val (.int ya0), .val (.int ya1), .val (.int ya2), .val (.int ya3), .val (.int ya4), .val (.int (0 : Int32)), .val (.int c0), .val (.int c1), .val (.int c2), .val (.int c3), .unset, .unset, .unset, .unset, .unset] [])) ?_ (fun t_ k_ => XS.ifNo X4.here hx rfl (hb hby at_48) rfl (by decide) k_)
    obtain ⟨T5, h5, X5, e5, E5, A5, D5, -, st5⟩ := newO X4 hx hZ hown (hw _ (List.mem_of_getElem? (i := 5) rfl)) (hw _ (List.mem_of_getElem? (i := 6) rfl)) (hw _ (List.mem_of_getElem? (i := 7) rfl)) eh4 (g := (mkF m 51 #[.val (.int ya0), .val (.int ya1), .val (.int ya2), .val (.int ya3), .val (.int ya4), .val (.int (0 : Int32)), .val (.int c0), .val (.int c1), .val (.int c2), .val (.int c3), .unset, .unset, .unset, .unset, .unset] [])) rfl (hb hby at_51) (by decide) (by decide)
    obtain ⟨b5, gb5⟩ : ∃ z, z = h0.size := ⟨_, rfl⟩
    rw [← gb5] at A5 D5 st5
    have Z5 : n0 ≤ h5.size := Nat.le_trans Z0 E5.1
    have g_b5 : n0 ≤ b5 := Nat.le_trans Z0 (Nat.le_of_eq gb5.symm)
    refine Goes.on (T' := T5) (g' := (mkF m 54 #[.val (.int ya0), .val (.int ya1), .val (.int ya2), .val (.int ya3), .val (.int ya4), .val (.int (0 : Int32)), .val (.int c0), .val (.int c1), .val (.int c2), .val (.int c3), .unset, .unset, .unset, .unset, .unset] [(.ref b5)])) ?_ st5
    have F5_value : Fld Z h5 b5 "java/lang/String" "value" "[B" .null := D5 (Or.inr (hw _ (List.mem_of_getElem? (i := 21) rfl))) (ty := (.array .byte)) (by decide)
    have F5_coder : Fld Z h5 b5 "java/lang/String" "coder" "B" (.int (0 : Int32)) := D5 (Or.inr (hw _ (List.mem_of_getElem? (i := 22) rfl))) (ty := .byte) (by decide)
    have Sf5 : Safe Z consts_1 s.vm h0 b5 := Safe.new (Nat.le_of_eq gb5.symm)
    have Sf6_b5 := Sf5.ext E5 C0.1
    have C7 := C0.trans (CHr.ext E5 C0.1)
    refine Goes.on (T' := T5) (g' := (mkF m 55 #[.val (.int ya0), .val (.int ya1), .val (.int ya2), .val (.int ya3), .val (.int ya4), .val (.int (0 : Int32)), .val (.int c0), .val (.int c1), .val (.int c2), .val (.int c3), .unset, .unset, .unset, .unset, .unset] [(.ref b5), (.ref b5)])) ?_ (fun t_ k_ => XS.dup X5.here hx rfl (hb hby at_54) rfl rfl k_)
    refine Goes.on (T' := T5) (g' := (mkF m 56 #[.val (.int ya0), .val (.int ya1), .val (.int ya2), .val (.int ya3), .val (.int ya4), .val (.int (0 : Int32)), .val (.int c0), .val (.int c1), .val (.int c2), .val (.int c3), .unset, .unset, .unset, .unset, .unset] [(.int (0 : Int32)), (.ref b5), (.ref b5)])) ?_ (fun t_ k_ => XS.iconst X5.here hx rfl (hb hby at_55) k_)
    obtain ⟨T8, h8, k8, X8, e8, E8, A8, st8⟩ := newP X5 hx hZ (hw _ (List.mem_of_getElem? (i := 8) rfl)) e5 (g := (mkF m 56 #[.val (.int ya0), .val (.int ya1), .val (.int ya2), .val (.int ya3), .val (.int ya4), .val (.int (0 : Int32)), .val (.int c0), .val (.int c1), .val (.int c2), .val (.int c3), .unset, .unset, .unset, .unset, .unset] [(.int (0 : Int32)), (.ref b5), (.ref b5)])) rfl (hb hby at_56) rfl (by decide) (cap := 0) (by decide) (by decide) (by decide) (by decide)
    obtain ⟨b8, gb8⟩ : ∃ z, z = h5.size := ⟨_, rfl⟩
    rw [← gb8] at A8 st8
    have V8 := Arv.new A8 (by decide)
    have Z8 : n0 ≤ h8.size := Nat.le_trans Z5 E8.1
    have g_b8 : n0 ≤ b8 := Nat.le_trans Z5 (Nat.le_of_eq gb8.symm)
    refine Goes.on (T' := T8) (g' := (mkF m 58 #[.val (.int ya0), .val (.int ya1), .val (.int ya2), .val (.int ya3), .val (.int ya4), .val (.int (0 : Int32)), .val (.int c0), .val (.int c1), .val (.int c2), .val (.int c3), .unset, .unset, .unset, .unset, .unset] [(.ref b8), (.ref b5), (.ref b5)])) ?_ st8
    have fx9 := F5_value.ext E8
    have fx10 := F5_coder.ext E8
    have fx11 := A5.ext E8
    have Sf12_b5 := Sf6_b5.ext E8 C7.1
    have C13 := C7.trans (CHr.ext E8 C7.1)
    have nex8 : b8 ≠ b5 := Ne.symm (Nat.ne_of_lt (Nat.lt_of_lt_of_le A5.lt (Nat.le_of_eq gb8.symm)))
    have VV8 : Arv Z h8 b8 k8 .char (0 : Int32) [] (.int 0) := V8.pad (pad_rep [] (.int 0) 0)
    obtain ⟨_, _, ⟨T14, Lq_14, kq_14, nq_14⟩, -, X14a, S14a, G14a, ⟨Lc14, hQ14, l14, y14, z14, D14⟩, st14⟩ := Jvm.Stand.specialBackS (s := s.setVm s.vm) X8 hx (y := (⟨"java/lang/String", "<init>", "([C)V"⟩ : MethodName)) rfl hown (mvT hZ (hw _ (List.mem_of_getElem? (i := 9) rfl))) (mvT hZ (hw _ (List.mem_of_getElem? (i := 10) rfl))) (mvT hZ (hw _ (List.mem_of_getElem? (i := 11) rfl))) (by decide) (backSH (s := s) (vm0 := s.vm) (W := 1) (xs := [b5]) (rmE1 l Z a0 hw [] b5 b8 k8 h8 n0 Z8 hEL fx11 fx9 fx10 g_b5 VV8) hZ (hw _ (List.mem_of_getElem? (i := 11) rfl)) (hw _ (List.mem_of_getElem? (i := 7) rfl)) (by decide) (by decide) hEL C13.1 (own_sfC ⟨fx11.lt, Sf12_b5⟩ (fun y hy => absurd hy List.not_mem_nil))) (g := (mkF m 58 #[.val (.int ya0), .val (.int ya1), .val (.int ya2), .val (.int ya3), .val (.int ya4), .val (.int (0 : Int32)), .val (.int c0), .val (.int c1), .val (.int c2), .val (.int c3), .unset, .unset, .unset, .unset, .unset] [(.ref b8), (.ref b5), (.ref b5)])) rfl (by rw [hml]; rfl) (Steps.refl _) (a := b5) (argsL := [(.ref b8)]) (rest := [(.ref b5)]) (lenOf pd_21 rfl) rfl (by show 2 * 0 + _ ≤ _; exact Nat.le_of_eq rfl) (hb hby at_58) (fun _ _ => ⟨rfl, e8, (by decide : 2 + 4 ≤ _), (by decide : 4 + 8 ≤ _)⟩)
    dsimp only [Pt.U, Pt.locs, Pt.cells, Pt.slots] at X14a S14a G14a l14 y14 z14 st14 hQ14 D14
    rw [l14, y14, z14] at X14a
    obtain ⟨X14, hS14, hZ, hown⟩ := rebS (s := s) (vm0 := s.vm) hS0 (by rw [e8]; exact (Nat.le_trans (Nat.le_trans (Nat.le_refl _) E5.1) E8.1)) X14a S14a G14a hZ hown
    change Stand p l e _ _ m _ below meth c T14 _ 6 12 at X14
    obtain ⟨rfl, N14q, ⟨tt, kt, EE, EV, EA⟩⟩ := hQ14
    have N14 := Fr.app N4 N14q
    have Sf14_b5 := D14.safe fx11.lt Sf12_b5
    have Z14 : n0 ≤ T14.heap.size := Nat.le_trans Z8 D14.2.1
    have C15 := C13.trans D14
    refine Goes.on (T' := T14) (g' := (mkF m 61 #[.val (.int ya0), .val (.int ya1), .val (.int ya2), .val (.int ya3), .val (.int ya4), .val (.int (0 : Int32)), .val (.int c0), .val (.int c1), .val (.int c2), .val (.int c3), .unset, .unset, .unset, .unset, .unset] [(.ref b5)])) ?_ (fun t => st14.trans)
    refine Goes.on (T' := T14) (g' := (mkF m 63 #[.val (.int ya0), .val (.int ya1), .val (.int ya2), .val (.int ya3), .val (.int ya4), .val (.int (0 : Int32)), .val (.int c0), .val (.int c1), .val (.int c2), .val (.int c3), .val (.ref b5), .unset, .unset, .unset, .unset] [])) ?_ (fun t_ k_ => XS.astore X14.here hx rfl (hb hby at_61) rfl rfl (l' := #[.val (.int ya0), .val (.int ya1), .val (.int ya2), .val (.int ya3), .val (.int ya4), .val (.int (0 : Int32)), .val (.int c0), .val (.int c1), .val (.int c2), .val (.int c3), .val (.ref b5), .unset, .unset, .unset, .unset]) rfl k_)
    refine Goes.on (T' := T14) (g' := (mkF m 191 #[.val (.int ya0), .val (.int ya1), .val (.int ya2), .val (.int ya3), .val (.int ya4), .val (.int (0 : Int32)), .val (.int c0), .val (.int c1), .val (.int c2), .val (.int c3), .val (.ref b5), .unset, .unset, .unset, .unset] [])) ?_ (fun t_ k_ => XS.goto X14.here hx rfl (pc0 := 63) (pc' := 191) rfl (hb hby at_63) (by decide) (by decide) k_)
    refine Goes.on (T' := T14) (g' := (mkF m 193 #[.val (.int ya0), .val (.int ya1), .val (.int ya2), .val (.int ya3), .val (.int ya4), .val (.int (0 : Int32)), .val (.int c0), .val (.int c1), .val (.int c2), .val (.int c3), .val (.ref b5), .unset, .unset, .unset, .unset] [(.ref b5)])) ?_ (fun t_ k_ => XS.aload X14.here hx rfl (hb hby at_191) rfl rfl k_)
    obtain ⟨_, _, ⟨T16, Lq_16, kq_16, nq_16⟩, -, X16, ⟨Lc16, hQ16, l16, y16, z16⟩, st16⟩ := Jvm.LawKit.callS X14 hx (y := (⟨"com/example/regraft/regraft/core/Node", "isValidName", "(Ljava/lang/String;)Z"⟩ : MethodName)) hown (mvT hZ (hw _ (List.mem_of_getElem? (i := 27) rfl))) (mvT hZ (hw _ (List.mem_of_getElem? (i := 28) rfl))) (mvT hZ (hw _ (List.mem_of_getElem? (i := 29) rfl))) (mvT hZ (hw _ (List.mem_of_getElem? (i := 30) rfl))) (by decide) (backOf (W := 0) (rmVE l Z a0 hw [] b5 tt kt T14.heap n0 Z14 EE EV EA) hZ (hw _ (List.mem_of_getElem? (i := 30) rfl)) (hw _ (List.mem_of_getElem? (i := 29) rfl)) (by decide) (by decide)) (g := (mkF m 193 #[.val (.int ya0), .val (.int ya1), .val (.int ya2), .val (.int ya3), .val (.int ya4), .val (.int (0 : Int32)), .val (.int c0), .val (.int c1), .val (.int c2), .val (.int c3), .val (.ref b5), .unset, .unset, .unset, .unset] [(.ref b5)])) rfl (by rw [hml]; rfl) (argsL := [(.ref b5)]) (rest := []) (lenOf pd_22 rfl) rfl (by show 2 * 0 + _ ≤ _; exact Nat.le_of_eq rfl) (hb hby at_193) (fun _ _ => ⟨rfl, rfl, (by decide : 6 + 0 ≤ _), (by decide : 12 + 0 ≤ _)⟩)
    dsimp only [Pt.U, Pt.locs, Pt.cells, Pt.slots] at X16 l16 y16 z16 st16 hQ16
    rw [l16, y16, z16] at X16
    change Stand p l e _ _ m _ below meth c T16 _ 6 12 at X16
    obtain ⟨rfl, N16q, eh16⟩ := hQ16
    have N16 := Fr.app N14 N16q
    refine Goes.on (T' := T16) (g' := (mkF m 196 #[.val (.int ya0), .val (.int ya1), .val (.int ya2), .val (.int ya3), .val (.int ya4), .val (.int (0 : Int32)), .val (.int c0), .val (.int c1), .val (.int c2), .val (.int c3), .val (.ref b5), .unset, .unset, .unset, .unset] [(.int (0 : Int32))])) ?_ st16
    refine Goes.on (T' := T16) (g' := (mkF m 198 #[.val (.int ya0), .val (.int ya1), .val (.int ya2), .val (.int ya3), .val (.int ya4), .val (.int (0 : Int32)), .val (.int c0), .val (.int c1), .val (.int c2), .val (.int c3), .val (.ref b5), .val (.int (0 : Int32)), .unset, .unset, .unset] [])) ?_ (fun t_ k_ => XS.istore X16.here hx rfl (hb hby at_196) rfl (l' := #[.val (.int ya0), .val (.int ya1), .val (.int ya2), .val (.int ya3), .val (.int ya4), .val (.int (0 : Int32)), .val (.int c0), .val (.int c1), .val (.int c2), .val (.int c3), .val (.ref b5), .val (.int (0 : Int32)), .unset, .unset, .unset]) rfl k_)
    refine Goes.on (T' := T16) (g' := (mkF m 200 #[.val (.int ya0), .val (.int ya1), .val (.int ya2), .val (.int ya3), .val (.int ya4), .val (.int (0 : Int32)), .val (.int c0), .val (.int c1), .val (.int c2), .val (.int c3), .val (.ref b5), .val (.int (0 : Int32)), .unset, .unset, .unset] [(.int (0 : Int32))])) ?_ (fun t_ k_ => XS.iload X16.here hx rfl (hb hby at_198) rfl k_)
    refine Goes.on (T' := T16) (g' := (mkF m 201 #[.val (.int ya0), .val (.int ya1), .val (.int ya2), .val (.int ya3), .val (.int ya4), .val (.int (0 : Int32)), .val (.int c0), .val (.int c1), .val (.int c2), .val (.int c3), .val (.ref b5), .val (.int (0 : Int32)), .unset, .unset, .unset] [(.int (5 : Int32)), (.int (0 : Int32))])) ?_ (fun t_ k_ => XS.iconst X16.here hx rfl (hb hby at_200) k_)
    refine Goes.on (T' := T16) (g' := (mkF m 204 #[.val (.int ya0), .val (.int ya1), .val (.int ya2), .val (.int ya3), .val (.int ya4), .val (.int (0 : Int32)), .val (.int c0), .val (.int c1), .val (.int c2), .val (.int c3), .val (.ref b5), .val (.int (0 : Int32)), .unset, .unset, .unset] [])) ?_ (fun t_ k_ => XS.icmpNo X16.here hx rfl (hb hby at_201) rfl (by decide) k_)
    refine Goes.on (T' := T16) (g' := (mkF m 206 #[.val (.int ya0), .val (.int ya1), .val (.int ya2), .val (.int ya3), .val (.int ya4), .val (.int (0 : Int32)), .val (.int c0), .val (.int c1), .val (.int c2), .val (.int c3), .val (.ref b5), .val (.int (0 : Int32)), .unset, .unset, .unset] [(.int (0 : Int32))])) ?_ (fun t_ k_ => XS.iload X16.here hx rfl (hb hby at_204) rfl k_)
    refine Goes.on (T' := T16) (g' := (mkF m 209 #[.val (.int ya0), .val (.int ya1), .val (.int ya2), .val (.int ya3), .val (.int ya4), .val (.int (0 : Int32)), .val (.int c0), .val (.int c1), .val (.int c2), .val (.int c3), .val (.ref b5), .val (.int (0 : Int32)), .unset, .unset, .unset] [])) ?_ (fun t_ k_ => XS.ifNo X16.here hx rfl (hb hby at_206) rfl (by decide) k_)
    refine Goes.on (T' := T16) (g' := (mkF m 210 #[.val (.int ya0), .val (.int ya1), .val (.int ya2), .val (.int ya3), .val (.int ya4), .val (.int (0 : Int32)), .val (.int c0), .val (.int c1), .val (.int c2), .val (.int c3), .val (.ref b5), .val (.int (0 : Int32)), .unset, .unset, .unset] [(.int (0 : Int32))])) ?_ (fun t_ k_ => XS.iconst X16.here hx rfl (hb hby at_209) k_)
    refine Goes.on (T' := T16) (g' := (mkF m 212 #[.val (.int ya0), .val (.int ya1), .val (.int ya2), .val (.int ya3), .val (.int ya4), .val (.int (0 : Int32)), .val (.int c0), .val (.int c1), .val (.int c2), .val (.int c3), .val (.ref b5), .val (.int (0 : Int32)), .val (.int (0 : Int32)), .unset, .unset] [])) ?_ (fun t_ k_ => XS.istore X16.here hx rfl (hb hby at_210) rfl (l' := #[.val (.int ya0), .val (.int ya1), .val (.int ya2), .val (.int ya3), .val (.int ya4), .val (.int (0 : Int32)), .val (.int c0), .val (.int c1), .val (.int c2), .val (.int c3), .val (.ref b5), .val (.int (0 : Int32)), .val (.int (0 : Int32)), .unset, .unset]) rfl k_)
    refine Goes.on (T' := T16) (g' := (mkF m 319 #[.val (.int ya0), .val (.int ya1), .val (.int ya2), .val (.int ya3), .val (.int ya4), .val (.int (0 : Int32)), .val (.int c0), .val (.int c1), .val (.int c2), .val (.int c3), .val (.ref b5), .val (.int (0 : Int32)), .val (.int (0 : Int32)), .unset, .unset] [])) ?_ (fun t_ k_ => XS.goto X16.here hx rfl (pc0 := 212) (pc' := 319) rfl (hb hby at_212) (by decide) (by decide) k_)
    refine Goes.on (T' := T16) (g' := (mkF m 321 #[.val (.int ya0), .val (.int ya1), .val (.int ya2), .val (.int ya3), .val (.int ya4), .val (.int (0 : Int32)), .val (.int c0), .val (.int c1), .val (.int c2), .val (.int c3), .val (.ref b5), .val (.int (0 : Int32)), .val (.int (0 : Int32)), .unset, .unset] [(.int (0 : Int32))])) ?_ (fun t_ k_ => XS.iload X16.here hx rfl (hb hby at_319) rfl k_)
    refine Goes.on (T' := T16) (g' := (mkF m 323 #[.val (.int ya0), .val (.int ya1), .val (.int ya2), .val (.int ya3), .val (.int ya4), .val (.int (0 : Int32)), .val (.int c0), .val (.int c1), .val (.int c2), .val (.int c3), .val (.ref b5), .val (.int (0 : Int32)), .val (.int (0 : Int32)), .unset, .unset] [(.int (0 : Int32)), (.int (0 : Int32))])) ?_ (fun t_ k_ => XS.iload X16.here hx rfl (hb hby at_321) rfl k_)
    refine Goes.on (T' := T16) (g' := (mkF m 326 #[.val (.int ya0), .val (.int ya1), .val (.int ya2), .val (.int ya3), .val (.int ya4), .val (.int (0 : Int32)), .val (.int c0), .val (.int c1), .val (.int c2), .val (.int c3), .val (.ref b5), .val (.int (0 : Int32)), .val (.int (0 : Int32)), .unset, .unset] [])) ?_ (fun t_ k_ => XS.icmpNo X16.here hx rfl (hb hby at_323) rfl (by decide) k_)
    refine Goes.on (T' := T16) (g' := (mkF m 327 #[.val (.int ya0), .val (.int ya1), .val (.int ya2), .val (.int ya3), .val (.int ya4), .val (.int (0 : Int32)), .val (.int c0), .val (.int c1), .val (.int c2), .val (.int c3), .val (.ref b5), .val (.int (0 : Int32)), .val (.int (0 : Int32)), .unset, .unset] [(.int (1 : Int32))])) ?_ (fun t_ k_ => XS.iconst X16.here hx rfl (hb hby at_326) k_)
    refine Goes.on (T' := T16) (g' := (mkF m 331 #[.val (.int ya0), .val (.int ya1), .val (.int ya2), .val (.int ya3), .val (.int ya4), .val (.int (0 : Int32)), .val (.int c0), .val (.int c1), .val (.int c2), .val (.int c3), .val (.ref b5), .val (.int (0 : Int32)), .val (.int (0 : Int32)), .unset, .unset] [(.int (1 : Int32))])) ?_ (fun t_ k_ => XS.goto X16.here hx rfl (pc0 := 327) (pc' := 331) rfl (hb hby at_327) (by decide) (by decide) k_)
    rw [hWd]
    exact Goes.retnW X16 hS14 (by rw [eh16]; exact (Nat.le_refl _)) (v := some (.int (nar .boolean (1 : Int32)))) (fun fs hr => retN X16 hx (t := .boolean) Bd.returns (by simp) (hb hby at_331) hr) (fun h => by rw [Bd.returns] at h; cases h) Bd.notSynchronized (by decide) (by decide) (by rw [eh16]; exact ⟨rfl, N16⟩)
  · show Goes p e below W T4 (mkF m 34 #[.val (.int ya0), .val (.int ya1), .val (.int ya2), .val (.int ya3), .val (.int ya4), .val (.int (1 : Int32)), .val (.int c0), .val (.int c1), .val (.int c2), .val (.int c3), .unset, .unset, .unset, .unset, .unset] [])
    refine Goes.on (T' := T4) (g' := (mkF m 36 #[.val (.int ya0), .val (.int ya1), .val (.int ya2), .val (.int ya3), .val (.int ya4), .val (.int (1 : Int32)), .val (.int c0), .val (.int c1), .val (.int c2), .val (.int c3), .unset, .unset, .unset, .unset, .unset] [(.int (1 : Int32))])) ?_ (fun t_ k_ => XS.iload X4.here hx rfl (hb hby at_34) rfl k_)
    refine Goes.on (T' := T4) (g' := (mkF m 37 #[.val (.int ya0), .val (.int ya1), .val (.int ya2), .val (.int ya3), .val (.int ya4), .val (.int (1 : Int32)), .val (.int c0), .val (.int c1), .val (.int c2), .val (.int c3), .unset, .unset, .unset, .unset, .unset] [(.int (5 : Int32)), (.int (1 : Int32))])) ?_ (fun t_ k_ => XS.iconst X4.here hx rfl (hb hby at_36) k_)
    refine Goes.on (T' := T4) (g' := (mkF m 46 #[.val (.int ya0), .val (.int ya1), .val (.int ya2), .val (.int ya3), .val (.int ya4), .val (.int (1 : Int32)), .val (.int c0), .val (.int c1), .val (.int c2), .val (.int c3), .unset, .unset, .unset, .unset, .unset] [])) ?_ (fun t_ k_ => XS.icmpYes X4.here hx rfl (pc0 := 37) (pc' := 46) rfl (hb hby at_37) rfl (by decide) (by decide) (by decide) k_)
    refine Goes.on (T' := T4) (g' := (mkF m 48 #[.val (.int ya0), .val (.int ya1), .val (.int ya2), .val (.int ya3), .val (.int ya4), .val (.int (1 : Int32)), .val (.int c0), .val (.int c1), .val (.int c2), .val (.int c3), .unset, .unset, .unset, .unset, .unset] [(.int (1 : Int32))])) ?_ (fun t_ k_ => XS.iload X4.here hx rfl (hb hby at_46) rfl k_)
    refine Goes.on (T' := T4) (g' := (mkF m 66 #[.val (.int ya0), .val (.int ya1), .val (.int ya2), .val (.int ya3), .val (.int ya4), .val (.int (1 : Int32)), .val (.int c0), .val (.int c1), .val (.int c2), .val (.int c3), .unset, .unset, .unset, .unset, .unset] [])) ?_ (fun t_ k_ => XS.ifYes X4.here hx rfl (pc0 := 48) (pc' := 66) rfl (hb hby at_48) rfl (by decide) (by decide) (by decide) k_)
    refine Goes.on (T' := T4) (g' := (mkF m 68 #[.val (.int ya0), .val (.int ya1), .val (.int ya2), .val (.int ya3), .val (.int ya4), .val (.int (1 : Int32)), .val (.int c0), .val (.int c1), .val (.int c2), .val (.int c3), .unset, .unset, .unset, .unset, .unset] [(.int (1 : Int32))])) ?_ (fun t_ k_ => XS.iload X4.here hx rfl (hb hby at_66) rfl k_)
    refine Goes.on (T' := T4) (g' := (mkF m 69 #[.val (.int ya0), .val (.int ya1), .val (.int ya2), .val (.int ya3), .val (.int ya4), .val (.int (1 : Int32)), .val (.int c0), .val (.int c1), .val (.int c2), .val (.int c3), .unset, .unset, .unset, .unset, .unset] [(.int (1 : Int32)), (.int (1 : Int32))])) ?_ (fun t_ k_ => XS.iconst X4.here hx rfl (hb hby at_68) k_)
    refine Goes.on (T' := T4) (g' := (mkF m 72 #[.val (.int ya0), .val (.int ya1), .val (.int ya2), .val (.int ya3), .val (.int ya4), .val (.int (1 : Int32)), .val (.int c0), .val (.int c1), .val (.int c2), .val (.int c3), .unset, .unset, .unset, .unset, .unset] [])) ?_ (fun t_ k_ => XS.icmpNo X4.here hx rfl (hb hby at_69) rfl (by decide) k_)
    obtain ⟨T17, h17, X17, e17, E17, A17, D17, -, st17⟩ := newO X4 hx hZ hown (hw _ (List.mem_of_getElem? (i := 5) rfl)) (hw _ (List.mem_of_getElem? (i := 6) rfl)) (hw _ (List.mem_of_getElem? (i := 7) rfl)) eh4 (g := (mkF m 72 #[.val (.int ya0), .val (.int ya1), .val (.int ya2), .val (.int ya3), .val (.int ya4), .val (.int (1 : Int32)), .val (.int c0), .val (.int c1), .val (.int c2), .val (.int c3), .unset, .unset, .unset, .unset, .unset] [])) rfl (hb hby at_72) (by decide) (by decide)
    obtain ⟨b17, gb17⟩ : ∃ z, z = h0.size := ⟨_, rfl⟩
    rw [← gb17] at A17 D17 st17
    have Z17 : n0 ≤ h17.size := Nat.le_trans Z0 E17.1
    have g_b17 : n0 ≤ b17 := Nat.le_trans Z0 (Nat.le_of_eq gb17.symm)
    refine Goes.on (T' := T17) (g' := (mkF m 75 #[.val (.int ya0), .val (.int ya1), .val (.int ya2), .val (.int ya3), .val (.int ya4), .val (.int (1 : Int32)), .val (.int c0), .val (.int c1), .val (.int c2), .val (.int c3), .unset, .unset, .unset, .unset, .unset] [(.ref b17)])) ?_ st17
    have F17_value : Fld Z h17 b17 "java/lang/String" "value" "[B" .null := D17 (Or.inr (hw _ (List.mem_of_getElem? (i := 21) rfl))) (ty := (.array .byte)) (by decide)
    have F17_coder : Fld Z h17 b17 "java/lang/String" "coder" "B" (.int (0 : Int32)) := D17 (Or.inr (hw _ (List.mem_of_getElem? (i := 22) rfl))) (ty := .byte) (by decide)
    have Sf17 : Safe Z consts_1 s.vm h0 b17 := Safe.new (Nat.le_of_eq gb17.symm)
    have Sf18_b17 := Sf17.ext E17 C0.1
    have C19 := C0.trans (CHr.ext E17 C0.1)
    refine Goes.on (T' := T17) (g' := (mkF m 76 #[.val (.int ya0), .val (.int ya1), .val (.int ya2), .val (.int ya3), .val (.int ya4), .val (.int (1 : Int32)), .val (.int c0), .val (.int c1), .val (.int c2), .val (.int c3), .unset, .unset, .unset, .unset, .unset] [(.ref b17), (.ref b17)])) ?_ (fun t_ k_ => XS.dup X17.here hx rfl (hb hby at_75) rfl rfl k_)
    refine Goes.on (T' := T17) (g' := (mkF m 77 #[.val (.int ya0), .val (.int ya1), .val (.int ya2), .val (.int ya3), .val (.int ya4), .val (.int (1 : Int32)), .val (.int c0), .val (.int c1), .val (.int c2), .val (.int c3), .unset, .unset, .unset, .unset, .unset] [(.int (1 : Int32)), (.ref b17), (.ref b17)])) ?_ (fun t_ k_ => XS.iconst X17.here hx rfl (hb hby at_76) k_)
    obtain ⟨T20, h20, k20, X20, e20, E20, A20, st20⟩ := newP X17 hx hZ (hw _ (List.mem_of_getElem? (i := 8) rfl)) e17 (g := (mkF m 77 #[.val (.int ya0), .val (.int ya1), .val (.int ya2), .val (.int ya3), .val (.int ya4), .val (.int (1 : Int32)), .val (.int c0), .val (.int c1), .val (.int c2), .val (.int c3), .unset, .unset, .unset, .unset, .unset] [(.int (1 : Int32)), (.ref b17), (.ref b17)])) rfl (hb hby at_77) rfl (by decide) (cap := 1) (by decide) (by decide) (by decide) (by decide)
    obtain ⟨b20, gb20⟩ : ∃ z, z = h17.size := ⟨_, rfl⟩
    rw [← gb20] at A20 st20
    have V20 := Arv.new A20 (by decide)
    have Z20 : n0 ≤ h20.size := Nat.le_trans Z17 E20.1
    have g_b20 : n0 ≤ b20 := Nat.le_trans Z17 (Nat.le_of_eq gb20.symm)
    refine Goes.on (T' := T20) (g' := (mkF m 79 #[.val (.int ya0), .val (.int ya1), .val (.int ya2), .val (.int ya3), .val (.int ya4), .val (.int (1 : Int32)), .val (.int c0), .val (.int c1), .val (.int c2), .val (.int c3), .unset, .unset, .unset, .unset, .unset] [(.ref b20), (.ref b17), (.ref b17)])) ?_ st20
    have fx21 := F17_value.ext E20
    have fx22 := F17_coder.ext E20
    have fx23 := A17.ext E20
    have Sf24_b17 := Sf18_b17.ext E20 C19.1
    have C25 := C19.trans (CHr.ext E20 C19.1)
    have nex20 : b20 ≠ b17 := Ne.symm (Nat.ne_of_lt (Nat.lt_of_lt_of_le A17.lt (Nat.le_of_eq gb20.symm)))
    have VV20 : Arv Z h20 b20 k20 .char (1 : Int32) [.int 0] (.int 0) := V20.pad (pad_rep [] (.int 0) 1)
    refine Goes.on (T' := T20) (g' := (mkF m 80 #[.val (.int ya0), .val (.int ya1), .val (.int ya2), .val (.int ya3), .val (.int ya4), .val (.int (1 : Int32)), .val (.int c0), .val (.int c1), .val (.int c2), .val (.int c3), .unset, .unset, .unset, .unset, .unset] [(.ref b20), (.ref b20), (.ref b17), (.ref b17)])) ?_ (fun t_ k_ => XS.dup X20.here hx rfl (hb hby at_79) rfl rfl k_)
    refine Goes.on (T' := T20) (g' := (mkF m 81 #[.val (.int ya0), .val (.int ya1), .val (.int ya2), .val (.int ya3), .val (.int ya4), .val (.int (1 : Int32)), .val (.int c0), .val (.int c1), .val (.int c2), .val (.int c3), .unset, .unset, .unset, .unset, .unset] [(.int (0 : Int32)), (.ref b20), (.ref b20), (.ref b17), (.ref b17)])) ?_ (fun t_ k_ => XS.iconst X20.here hx rfl (hb hby at_80) k_)
    refine Goes.on (T' := T20) (g' := (mkF m 83 #[.val (.int ya0), .val (.int ya1), .val (.int ya2), .val (.int ya3), .val (.int ya4), .val (.int (1 : Int32)), .val (.int c0), .val (.int c1), .val (.int c2), .val (.int c3), .unset, .unset, .unset, .unset, .unset] [(.int c0), (.int (0 : Int32)), (.ref b20), (.ref b20), (.ref b17), (.ref b17)])) ?_ (fun t_ k_ => XS.iload X20.here hx rfl (hb hby at_81) rfl k_)
    obtain ⟨cc26, A26, q26, S26, M26, H26, G26⟩ := VV20
    obtain ⟨T27, h27, X27, e27, W27, st27⟩ := stC X20 hx hZ e20 A26 (j := (0 : Int32)) (inb_of S26 ⟨by decide, by decide⟩) (g := (mkF m 83 #[.val (.int ya0), .val (.int ya1), .val (.int ya2), .val (.int ya3), .val (.int ya4), .val (.int (1 : Int32)), .val (.int c0), .val (.int c1), .val (.int c2), .val (.int c3), .unset, .unset, .unset, .unset, .unset] [(.int c0), (.int (0 : Int32)), (.ref b20), (.ref b20), (.ref b17), (.ref b17)])) rfl rfl (hb hby at_83)
    have N27 := Fr.snoc X27 N4 g_b20
    have Z27 : n0 ≤ h27.size := Nat.le_trans Z20 (Nat.le_of_eq W27.size.symm)
    refine Goes.on (T' := T27) (g' := (mkF m 84 #[.val (.int ya0), .val (.int ya1), .val (.int ya2), .val (.int ya3), .val (.int ya4), .val (.int (1 : Int32)), .val (.int c0), .val (.int c1), .val (.int c2), .val (.int c3), .unset, .unset, .unset, .unset, .unset] [(.ref b20), (.ref b17), (.ref b17)])) ?_ st27
    have fx28 := fx21.other W27 (Or.inl (Ne.symm nex20))
    have fx29 := fx22.other W27 (Or.inl (Ne.symm nex20))
    have fx30 := fx23.wr W27
    have Sf31_b17 := Safe.wr W27 (Safe.arr hZ.alike A26 (fun q => nomatch q)) C25.1 Sf24_b17
    have C32 := C25.trans (CHr.wr W27 (Safe.arr hZ.alike A26 (fun q => nomatch q)) C25.1)
    have V27 : Arv Z h27 b20 k20 .char (1 : Int32) [.int c0] (.int 0) := by have q := Arv.set A26 q26 S26 M26 H26 G26 (fits_nar_char _) W27 0 rfl (Nat.le_of_ble_eq_true rfl); rw [own_narc ⟨hpa0, hpb0⟩] at q; exact q
    have hp : ∀ c ∈ ([c0] : List Int32), ¬ c < 0 ∧ ¬ (65535 : Int32) < c := by intro c hc; simp only [List.mem_cons, List.not_mem_nil, or_false] at hc; rcases hc with rfl <;> exact ⟨by assumption, by assumption⟩
    have hl : ([c0] : List Int32).length ≤ 16 := by show (1 : Nat) ≤ 16; decide
    have hl0 : 0 < ([c0] : List Int32).length := Nat.succ_pos _
    have XO : Old Z n0 h27 := (((X0_.ext E17).ext E20).wr W27 g_b20)
    obtain ⟨_, _, ⟨T33, Lq_33, kq_33, nq_33⟩, -, X33, ⟨Lc33, hQ33, l33, y33, z33⟩, st33⟩ := X27.specialBack hx (y := (⟨"java/lang/String", "<init>", "([C)V"⟩ : MethodName)) rfl hown (mvT hZ (hw _ (List.mem_of_getElem? (i := 9) rfl))) (mvT hZ (hw _ (List.mem_of_getElem? (i := 10) rfl))) (mvT hZ (hw _ (List.mem_of_getElem? (i := 11) rfl))) (by decide) (backOf (W := 1) (rmI1 l Z a0 hw [] b17 b20 k20 [c0] zc h27 n0 Z27 fx30 fx28 fx29 g_b17 (by exact V27) hp hl hl0 CS hzc AD HB LB XO) hZ (hw _ (List.mem_of_getElem? (i := 11) rfl)) (hw _ (List.mem_of_getElem? (i := 7) rfl)) (by decide) (by decide)) (g := (mkF m 84 #[.val (.int ya0), .val (.int ya1), .val (.int ya2), .val (.int ya3), .val (.int ya4), .val (.int (1 : Int32)), .val (.int c0), .val (.int c1), .val (.int c2), .val (.int c3), .unset, .unset, .unset, .unset, .unset] [(.ref b20), (.ref b17), (.ref b17)])) rfl (by rw [hml]; rfl) (Steps.refl _) (a := b17) (argsL := [(.ref b20)]) (rest := [(.ref b17)]) (lenOf pd_21 rfl) rfl (by show 2 * 0 + _ ≤ _; exact Nat.le_of_eq rfl) (hb hby at_84) (fun _ _ => ⟨rfl, e27, (by decide : 2 + 2 ≤ _), (by decide : 5 + 48 ≤ _)⟩)
    dsimp only [Pt.U, Pt.locs, Pt.cells, Pt.slots] at X33 l33 y33 z33 st33 hQ33
    rw [l33, y33, z33] at X33
    change Stand p l e _ _ m _ below meth c T33 _ 4 53 at X33
    obtain ⟨rfl, N33q, K33, ⟨tt, kt, cd, szt, TX⟩⟩ := hQ33
    have N33 := Fr.app N27 N33q
    refine Goes.on (T' := T33) (g' := (mkF m 87 #[.val (.int ya0), .val (.int ya1), .val (.int ya2), .val (.int ya3), .val (.int ya4), .val (.int (1 : Int32)), .val (.int c0), .val (.int c1), .val (.int c2), .val (.int c3), .unset, .unset, .unset, .unset, .unset] [(.ref b17)])) ?_ (fun t => st33.trans)
    have ZS : n0 ≤ T33.heap.size := Nat.le_trans Z27 K33.1
    have XS_ : Old Z n0 T33.heap := XO.keep K33 (allS g_b17 all0)
    have hs34 := (own_sfC (P := fun y => Safe Z consts_1 s.vm _ y) Sf31_b17 (fun y hy => absurd hy List.not_mem_nil))
    have Sf34_b17 := Safe.keep K33 hs34 C32.1 Sf31_b17
    have C35 := C32.trans (CHr.keep K33 hs34 C32.1)
    have ltx : b17 < T33.heap.size := TX.1.lt
    refine Goes.on (T' := T33) (g' := (mkF m 89 #[.val (.int ya0), .val (.int ya1), .val (.int ya2), .val (.int ya3), .val (.int ya4), .val (.int (1 : Int32)), .val (.int c0), .val (.int c1), .val (.int c2), .val (.int c3), .val (.ref b17), .unset, .unset, .unset, .unset] [])) ?_ (fun t_ k_ => XS.astore X33.here hx rfl (hb hby at_87) rfl rfl (l' := #[.val (.int ya0), .val (.int ya1), .val (.int ya2), .val (.int ya3), .val (.int ya4), .val (.int (1 : Int32)), .val (.int c0), .val (.int c1), .val (.int c2), .val (.int c3), .val (.ref b17), .unset, .unset, .unset, .unset]) rfl k_)
    refine Goes.on (T' := T33) (g' := (mkF m 191 #[.val (.int ya0), .val (.int ya1), .val (.int ya2), .val (.int ya3), .val (.int ya4), .val (.int (1 : Int32)), .val (.int c0), .val (.int c1), .val (.int c2), .val (.int c3), .val (.ref b17), .unset, .unset, .unset, .unset] [])) ?_ (fun t_ k_ => XS.goto X33.here hx rfl (pc0 := 89) (pc' := 191) rfl (hb hby at_89) (by decide) (by decide) k_)
    refine Goes.on (T' := T33) (g' := (mkF m 193 #[.val (.int ya0), .val (.int ya1), .val (.int ya2), .val (.int ya3), .val (.int ya4), .val (.int (1 : Int32)), .val (.int c0), .val (.int c1), .val (.int c2), .val (.int c3), .val (.ref b17), .unset, .unset, .unset, .unset] [(.ref b17)])) ?_ (fun t_ k_ => XS.aload X33.here hx rfl (hb hby at_191) rfl rfl k_)
    obtain ⟨_, _, ⟨T36, Lq_36, kq_36, nq_36⟩, -, X36a, S36a, G36a, ⟨Lc36, hQ36, l36, y36, z36, D36⟩, st36⟩ := Jvm.RoadKit.callSS (s := s.setVm s.vm) X33 hx (y := (⟨"com/example/regraft/regraft/core/Node", "isValidName", "(Ljava/lang/String;)Z"⟩ : MethodName)) hown (mvT hZ (hw _ (List.mem_of_getElem? (i := 27) rfl))) (mvT hZ (hw _ (List.mem_of_getElem? (i := 28) rfl))) (mvT hZ (hw _ (List.mem_of_getElem? (i := 29) rfl))) (mvT hZ (hw _ (List.mem_of_getElem? (i := 30) rfl))) (by decide) (backSH (s := s) (vm0 := s.vm) (W := 0) (xs := []) (rmVT l Z a0 hw [] b17 tt kt [c0] cd zc vf T33.heap n0 ZS hEL TX CS hzc hp hl hl0 XS_ AD HB LB SO rG) hZ (hw _ (List.mem_of_getElem? (i := 30) rfl)) (hw _ (List.mem_of_getElem? (i := 29) rfl)) (by decide) (by decide) hEL C35.1 (fun y hy => absurd hy List.not_mem_nil)) (g := (mkF m 193 #[.val (.int ya0), .val (.int ya1), .val (.int ya2), .val (.int ya3), .val (.int ya4), .val (.int (1 : Int32)), .val (.int c0), .val (.int c1), .val (.int c2), .val (.int c3), .val (.ref b17), .unset, .unset, .unset, .unset] [(.ref b17)])) rfl (by rw [hml]; rfl) (argsL := [(.ref b17)]) (rest := []) (lenOf pd_22 rfl) rfl (by show 2 * 0 + _ ≤ _; exact Nat.le_of_eq rfl) (hb hby at_193) (fun _ _ => ⟨rfl, rfl, (by decide : 4 + 2 ≤ _), (by decide : 53 + 16 ≤ _)⟩)
    dsimp only [Pt.U, Pt.locs, Pt.cells, Pt.slots] at X36a S36a G36a l36 y36 z36 st36 hQ36 D36
    rw [l36, y36, z36] at X36a
    obtain ⟨X36, hS36, hZ, hown⟩ := rebS (s := s) (vm0 := s.vm) hS0 (Nat.le_trans (Nat.le_trans (Nat.le_trans (Nat.le_trans (Nat.le_refl _) E17.1) E20.1) (Nat.le_of_eq W27.size.symm)) K33.1) X36a S36a G36a hZ hown
    change Stand p l e _ _ m _ below meth c T36 _ 6 69 at X36
    obtain ⟨rfl, N36q⟩ := hQ36
    have N36 := Fr.app N33 N36q
    have Sf36_b17 := D36.safe ltx Sf34_b17
    have Z36 : n0 ≤ T36.heap.size := Nat.le_trans ZS D36.2.1
    have C37 := C35.trans D36
    refine Goes.on (T' := T36) (g' := (mkF m 196 #[.val (.int ya0), .val (.int ya1), .val (.int ya2), .val (.int ya3), .val (.int ya4), .val (.int (1 : Int32)), .val (.int c0), .val (.int c1), .val (.int c2), .val (.int c3), .val (.ref b17), .unset, .unset, .unset, .unset] [(.int (own_ivn [c0]))])) ?_ (fun t => st36.trans)
    obtain ⟨av, hav⟩ : ∃ z, z = own_ivn [c0] := ⟨_, rfl⟩
    rw [← hav]
    refine Goes.on (T' := T36) (g' := (mkF m 198 #[.val (.int ya0), .val (.int ya1), .val (.int ya2), .val (.int ya3), .val (.int ya4), .val (.int (1 : Int32)), .val (.int c0), .val (.int c1), .val (.int c2), .val (.int c3), .val (.ref b17), .val (.int av), .unset, .unset, .unset] [])) ?_ (fun t_ k_ => XS.istore X36.here hx rfl (hb hby at_196) rfl (l' := #[.val (.int ya0), .val (.int ya1), .val (.int ya2), .val (.int ya3), .val (.int ya4), .val (.int (1 : Int32)), .val (.int c0), .val (.int c1), .val (.int c2), .val (.int c3), .val (.ref b17), .val (.int av), .unset, .unset, .unset]) rfl k_)
    refine Goes.on (T' := T36) (g' := (mkF m 200 #[.val (.int ya0), .val (.int ya1), .val (.int ya2), .val (.int ya3), .val (.int ya4), .val (.int (1 : Int32)), .val (.int c0), .val (.int c1), .val (.int c2), .val (.int c3), .val (.ref b17), .val (.int av), .unset, .unset, .unset] [(.int (1 : Int32))])) ?_ (fun t_ k_ => XS.iload X36.here hx rfl (hb hby at_198) rfl k_)
    refine Goes.on (T' := T36) (g' := (mkF m 201 #[.val (.int ya0), .val (.int ya1), .val (.int ya2), .val (.int ya3), .val (.int ya4), .val (.int (1 : Int32)), .val (.int c0), .val (.int c1), .val (.int c2), .val (.int c3), .val (.ref b17), .val (.int av), .unset, .unset, .unset] [(.int (5 : Int32)), (.int (1 : Int32))])) ?_ (fun t_ k_ => XS.iconst X36.here hx rfl (hb hby at_200) k_)
    refine Goes.on (T' := T36) (g' := (mkF m 204 #[.val (.int ya0), .val (.int ya1), .val (.int ya2), .val (.int ya3), .val (.int ya4), .val (.int (1 : Int32)), .val (.int c0), .val (.int c1), .val (.int c2), .val (.int c3), .val (.ref b17), .val (.int av), .unset, .unset, .unset] [])) ?_ (fun t_ k_ => XS.icmpNo X36.here hx rfl (hb hby at_201) rfl (by decide) k_)
    refine Goes.on (T' := T36) (g' := (mkF m 206 #[.val (.int ya0), .val (.int ya1), .val (.int ya2), .val (.int ya3), .val (.int ya4), .val (.int (1 : Int32)), .val (.int c0), .val (.int c1), .val (.int c2), .val (.int c3), .val (.ref b17), .val (.int av), .unset, .unset, .unset] [(.int (1 : Int32))])) ?_ (fun t_ k_ => XS.iload X36.here hx rfl (hb hby at_204) rfl k_)
    refine Goes.on (T' := T36) (g' := (mkF m 215 #[.val (.int ya0), .val (.int ya1), .val (.int ya2), .val (.int ya3), .val (.int ya4), .val (.int (1 : Int32)), .val (.int c0), .val (.int c1), .val (.int c2), .val (.int c3), .val (.ref b17), .val (.int av), .unset, .unset, .unset] [])) ?_ (fun t_ k_ => XS.ifYes X36.here hx rfl (pc0 := 206) (pc' := 215) rfl (hb hby at_206) rfl (by decide) (by decide) (by decide) k_)
    refine Goes.on (T' := T36) (g' := (mkF m 217 #[.val (.int ya0), .val (.int ya1), .val (.int ya2), .val (.int ya3), .val (.int ya4), .val (.int (1 : Int32)), .val (.int c0), .val (.int c1), .val (.int c2), .val (.int c3), .val (.ref b17), .val (.int av), .unset, .unset, .unset] [(.int c0)])) ?_ (fun t_ k_ => XS.iload X36.here hx rfl (hb hby at_215) rfl k_)
    refine Goes.on (T' := T36) (g' := (mkF m 219 #[.val (.int ya0), .val (.int ya1), .val (.int ya2), .val (.int ya3), .val (.int ya4), .val (.int (1 : Int32)), .val (.int c0), .val (.int c1), .val (.int c2), .val (.int c3), .val (.ref b17), .val (.int av), .unset, .unset, .unset] [(.int (47 : Int32)), (.int c0)])) ?_ (fun t_ k_ => XS.bipush X36.here hx rfl (hb hby at_217) k_)
    refine Goes.icmpP X36 hx rfl (pc0 := 219) (pc' := 261) rfl (hb hby at_219) rfl (by decide) (by decide) (P := c0 = (47 : Int32)) (cmp_eq _ _) (fun hc219 => ?_) (fun hc219 => ?_)
    · show Goes p e below W T36 (mkF m 261 #[.val (.int ya0), .val (.int ya1), .val (.int ya2), .val (.int ya3), .val (.int ya4), .val (.int (1 : Int32)), .val (.int c0), .val (.int c1), .val (.int c2), .val (.int c3), .val (.ref b17), .val (.int av), .unset, .unset, .unset] [])
      refine Goes.on (T' := T36) (g' := (mkF m 262 #[.val (.int ya0), .val (.int ya1), .val (.int ya2), .val (.int ya3), .val (.int ya4), .val (.int (1 : Int32)), .val (.int c0), .val (.int c1), .val (.int c2), .val (.int c3), .val (.ref b17), .val (.int av), .unset, .unset, .unset] [(.int (1 : Int32))])) ?_ (fun t_ k_ => XS.iconst X36.here hx rfl (hb hby at_261) k_)
      refine Goes.on (T' := T36) (g' := (mkF m 266 #[.val (.int ya0), .val (.int ya1), .val (.int ya2), .val (.int ya3), .val (.int ya4), .val (.int (1 : Int32)), .val (.int c0), .val (.int c1), .val (.int c2), .val (.int c3), .val (.ref b17), .val (.int av), .unset, .unset, .unset] [(.int (1 : Int32))])) ?_ (fun t_ k_ => XS.goto X36.here hx rfl (pc0 := 262) (pc' := 266) rfl (hb hby at_262) (by decide) (by decide) k_)
      refine Goes.on (T' := T36) (g' := (mkF m 268 #[.val (.int ya0), .val (.int ya1), .val (.int ya2), .val (.int ya3), .val (.int ya4), .val (.int (1 : Int32)), .val (.int c0), .val (.int c1), .val (.int c2), .val (.int c3), .val (.ref b17), .val (.int av), .unset, .val (.int (1 : Int32)), .unset] [])) ?_ (fun t_ k_ => XS.istore X36.here hx rfl (hb hby at_266) rfl (l' := #[.val (.int ya0), .val (.int ya1), .val (.int ya2), .val (.int ya3), .val (.int ya4), .val (.int (1 : Int32)), .val (.int c0), .val (.int c1), .val (.int c2), .val (.int c3), .val (.ref b17), .val (.int av), .unset, .val (.int (1 : Int32)), .unset]) rfl k_)
      refine Goes.on (T' := T36) (g' := (mkF m 270 #[.val (.int ya0), .val (.int ya1), .val (.int ya2), .val (.int ya3), .val (.int ya4), .val (.int (1 : Int32)), .val (.int c0), .val (.int c1), .val (.int c2), .val (.int c3), .val (.ref b17), .val (.int av), .unset, .val (.int (1 : Int32)), .unset] [(.int (1 : Int32))])) ?_ (fun t_ k_ => XS.iload X36.here hx rfl (hb hby at_268) rfl k_)
      refine Goes.on (T' := T36) (g' := (mkF m 271 #[.val (.int ya0), .val (.int ya1), .val (.int ya2), .val (.int ya3), .val (.int ya4), .val (.int (1 : Int32)), .val (.int c0), .val (.int c1), .val (.int c2), .val (.int c3), .val (.ref b17), .val (.int av), .unset, .val (.int (1 : Int32)), .unset] [(.int (3 : Int32)), (.int (1 : Int32))])) ?_ (fun t_ k_ => XS.iconst X36.here hx rfl (hb hby at_270) k_)
      refine Goes.on (T' := T36) (g' := (mkF m 299 #[.val (.int ya0), .val (.int ya1), .val (.int ya2), .val (.int ya3), .val (.int ya4), .val (.int (1 : Int32)), .val (.int c0), .val (.int c1), .val (.int c2), .val (.int c3), .val (.ref b17), .val (.int av), .unset, .val (.int (1 : Int32)), .unset] [])) ?_ (fun t_ k_ => XS.icmpYes X36.here hx rfl (pc0 := 271) (pc' := 299) rfl (hb hby at_271) rfl (by decide) (by decide) (by decide) k_)
      refine Goes.on (T' := T36) (g' := (mkF m 300 #[.val (.int ya0), .val (.int ya1), .val (.int ya2), .val (.int ya3), .val (.int ya4), .val (.int (1 : Int32)), .val (.int c0), .val (.int c1), .val (.int c2), .val (.int c3), .val (.ref b17), .val (.int av), .unset, .val (.int (1 : Int32)), .unset] [(.int (0 : Int32))])) ?_ (fun t_ k_ => XS.iconst X36.here hx rfl (hb hby at_299) k_)
      refine Goes.on (T' := T36) (g' := (mkF m 302 #[.val (.int ya0), .val (.int ya1), .val (.int ya2), .val (.int ya3), .val (.int ya4), .val (.int (1 : Int32)), .val (.int c0), .val (.int c1), .val (.int c2), .val (.int c3), .val (.ref b17), .val (.int av), .unset, .val (.int (1 : Int32)), .val (.int (0 : Int32))] [])) ?_ (fun t_ k_ => XS.istore X36.here hx rfl (hb hby at_300) rfl (l' := #[.val (.int ya0), .val (.int ya1), .val (.int ya2), .val (.int ya3), .val (.int ya4), .val (.int (1 : Int32)), .val (.int c0), .val (.int c1), .val (.int c2), .val (.int c3), .val (.ref b17), .val (.int av), .unset, .val (.int (1 : Int32)), .val (.int (0 : Int32))]) rfl k_)
      refine Goes.on (T' := T36) (g' := (mkF m 304 #[.val (.int ya0), .val (.int ya1), .val (.int ya2), .val (.int ya3), .val (.int ya4), .val (.int (1 : Int32)), .val (.int c0), .val (.int c1), .val (.int c2), .val (.int c3), .val (.ref b17), .val (.int av), .unset, .val (.int (1 : Int32)), .val (.int (0 : Int32))] [(.int (1 : Int32))])) ?_ (fun t_ k_ => XS.iload X36.here hx rfl (hb hby at_302) rfl k_)
      refine Goes.on (T' := T36) (g' := (mkF m 316 #[.val (.int ya0), .val (.int ya1), .val (.int ya2), .val (.int ya3), .val (.int ya4), .val (.int (1 : Int32)), .val (.int c0), .val (.int c1), .val (.int c2), .val (.int c3), .val (.ref b17), .val (.int av), .unset, .val (.int (1 : Int32)), .val (.int (0 : Int32))] [])) ?_ (fun t_ k_ => XS.ifYes X36.here hx rfl (pc0 := 304) (pc' := 316) rfl (hb hby at_304) rfl (by decide) (by decide) (by decide) k_)
      refine Goes.on (T' := T36) (g' := (mkF m 317 #[.val (.int ya0), .val (.int ya1), .val (.int ya2), .val (.int ya3), .val (.int ya4), .val (.int (1 : Int32)), .val (.int c0), .val (.int c1), .val (.int c2), .val (.int c3), .val (.ref b17), .val (.int av), .unset, .val (.int (1 : Int32)), .val (.int (0 : Int32))] [(.int (0 : Int32))])) ?_ (fun t_ k_ => XS.iconst X36.here hx rfl (hb hby at_316) k_)
      refine Goes.on (T' := T36) (g' := (mkF m 319 #[.val (.int ya0), .val (.int ya1), .val (.int ya2), .val (.int ya3), .val (.int ya4), .val (.int (1 : Int32)), .val (.int c0), .val (.int c1), .val (.int c2), .val (.int c3), .val (.ref b17), .val (.int av), .val (.int (0 : Int32)), .val (.int (1 : Int32)), .val (.int (0 : Int32))] [])) ?_ (fun t_ k_ => XS.istore X36.here hx rfl (hb hby at_317) rfl (l' := #[.val (.int ya0), .val (.int ya1), .val (.int ya2), .val (.int ya3), .val (.int ya4), .val (.int (1 : Int32)), .val (.int c0), .val (.int c1), .val (.int c2), .val (.int c3), .val (.ref b17), .val (.int av), .val (.int (0 : Int32)), .val (.int (1 : Int32)), .val (.int (0 : Int32))]) rfl k_)
      refine Goes.on (T' := T36) (g' := (mkF m 321 #[.val (.int ya0), .val (.int ya1), .val (.int ya2), .val (.int ya3), .val (.int ya4), .val (.int (1 : Int32)), .val (.int c0), .val (.int c1), .val (.int c2), .val (.int c3), .val (.ref b17), .val (.int av), .val (.int (0 : Int32)), .val (.int (1 : Int32)), .val (.int (0 : Int32))] [(.int av)])) ?_ (fun t_ k_ => XS.iload X36.here hx rfl (hb hby at_319) rfl k_)
      refine Goes.on (T' := T36) (g' := (mkF m 323 #[.val (.int ya0), .val (.int ya1), .val (.int ya2), .val (.int ya3), .val (.int ya4), .val (.int (1 : Int32)), .val (.int c0), .val (.int c1), .val (.int c2), .val (.int c3), .val (.ref b17), .val (.int av), .val (.int (0 : Int32)), .val (.int (1 : Int32)), .val (.int (0 : Int32))] [(.int (0 : Int32)), (.int av)])) ?_ (fun t_ k_ => XS.iload X36.here hx rfl (hb hby at_321) rfl k_)
      refine Goes.on (T' := T36) (g' := (mkF m 326 #[.val (.int ya0), .val (.int ya1), .val (.int ya2), .val (.int ya3), .val (.int ya4), .val (.int (1 : Int32)), .val (.int c0), .val (.int c1), .val (.int c2), .val (.int c3), .val (.ref b17), .val (.int av), .val (.int (0 : Int32)), .val (.int (1 : Int32)), .val (.int (0 : Int32))] [])) ?_ (fun t_ k_ => XS.icmpNo X36.here hx rfl (hb hby at_323) rfl (teq (show av = (0 : Int32) from by rw [hav, own_ivn1]; simp only [eq_true hc219, if_true, if_false, ↓reduceIte, not_true_eq_false, not_false_eq_true, true_and, and_true, false_and, and_false, or_true, true_or, or_false, false_or, and_self, or_self])).2 k_)
      refine Goes.on (T' := T36) (g' := (mkF m 327 #[.val (.int ya0), .val (.int ya1), .val (.int ya2), .val (.int ya3), .val (.int ya4), .val (.int (1 : Int32)), .val (.int c0), .val (.int c1), .val (.int c2), .val (.int c3), .val (.ref b17), .val (.int av), .val (.int (0 : Int32)), .val (.int (1 : Int32)), .val (.int (0 : Int32))] [(.int (1 : Int32))])) ?_ (fun t_ k_ => XS.iconst X36.here hx rfl (hb hby at_326) k_)
      refine Goes.on (T' := T36) (g' := (mkF m 331 #[.val (.int ya0), .val (.int ya1), .val (.int ya2), .val (.int ya3), .val (.int ya4), .val (.int (1 : Int32)), .val (.int c0), .val (.int c1), .val (.int c2), .val (.int c3), .val (.ref b17), .val (.int av), .val (.int (0 : Int32)), .val (.int (1 : Int32)), .val (.int (0 : Int32))] [(.int (1 : Int32))])) ?_ (fun t_ k_ => XS.goto X36.here hx rfl (pc0 := 327) (pc' := 331) rfl (hb hby at_327) (by decide) (by decide) k_)
      rw [hWd]
      exact Goes.retnW X36 hS36 (Nat.le_refl _) (v := some (.int (nar .boolean (1 : Int32)))) (fun fs hr => retN X36 hx (t := .boolean) Bd.returns (by simp) (hb hby at_331) hr) (fun h => by rw [Bd.returns] at h; cases h) Bd.notSynchronized (by decide) (by decide) ⟨rfl, N36⟩
    · show Goes p e below W T36 (mkF m 222 #[.val (.int ya0), .val (.int ya1), .val (.int ya2), .val (.int ya3), .val (.int ya4), .val (.int (1 : Int32)), .val (.int c0), .val (.int c1), .val (.int c2), .val (.int c3), .val (.ref b17), .val (.int av), .unset, .unset, .unset] [])
      refine Goes.on (T' := T36) (g' := (mkF m 224 #[.val (.int ya0), .val (.int ya1), .val (.int ya2), .val (.int ya3), .val (.int ya4), .val (.int (1 : Int32)), .val (.int c0), .val (.int c1), .val (.int c2), .val (.int c3), .val (.ref b17), .val (.int av), .unset, .unset, .unset] [(.int (1 : Int32))])) ?_ (fun t_ k_ => XS.iload X36.here hx rfl (hb hby at_222) rfl k_)
      refine Goes.on (T' := T36) (g' := (mkF m 225 #[.val (.int ya0), .val (.int ya1), .val (.int ya2), .val (.int ya3), .val (.int ya4), .val (.int (1 : Int32)), .val (.int c0), .val (.int c1), .val (.int c2), .val (.int c3), .val (.ref b17), .val (.int av), .unset, .unset, .unset] [(.int (2 : Int32)), (.int (1 : Int32))])) ?_ (fun t_ k_ => XS.iconst X36.here hx rfl (hb hby at_224) k_)
      refine Goes.on (T' := T36) (g' := (mkF m 235 #[.val (.int ya0), .val (.int ya1), .val (.int ya2), .val (.int ya3), .val (.int ya4), .val (.int (1 : Int32)), .val (.int c0), .val (.int c1), .val (.int c2), .val (.int c3), .val (.ref b17), .val (.int av), .unset, .unset, .unset] [])) ?_ (fun t_ k_ => XS.icmpYes X36.here hx rfl (pc0 := 225) (pc' := 235) rfl (hb hby at_225) rfl (by decide) (by decide) (by decide) k_)
      refine Goes.on (T' := T36) (g' := (mkF m 237 #[.val (.int ya0), .val (.int ya1), .val (.int ya2), .val (.int ya3), .val (.int ya4), .val (.int (1 : Int32)), .val (.int c0), .val (.int c1), .val (.int c2), .val (.int c3), .val (.ref b17), .val (.int av), .unset, .unset, .unset] [(.int (1 : Int32))])) ?_ (fun t_ k_ => XS.iload X36.here hx rfl (hb hby at_235) rfl k_)
      refine Goes.on (T' := T36) (g' := (mkF m 238 #[.val (.int ya0), .val (.int ya1), .val (.int ya2), .val (.int ya3), .val (.int ya4), .val (.int (1 : Int32)), .val (.int c0), .val (.int c1), .val (.int c2), .val (.int c3), .val (.ref b17), .val (.int av), .unset, .unset, .unset] [(.int (3 : Int32)), (.int (1 : Int32))])) ?_ (fun t_ k_ => XS.iconst X36.here hx rfl (hb hby at_237) k_)
      refine Goes.on (T' := T36) (g' := (mkF m 248 #[.val (.int ya0), .val (.int ya1), .val (.int ya2), .val (.int ya3), .val (.int ya4), .val (.int (1 : Int32)), .val (.int c0), .val (.int c1), .val (.int c2), .val (.int c3), .val (.ref b17), .val (.int av), .unset, .unset, .unset] [])) ?_ (fun t_ k_ => XS.icmpYes X36.here hx rfl (pc0 := 238) (pc' := 248) rfl (hb hby at_238) rfl (by decide) (by decide) (by decide) k_)
      refine Goes.on (T' := T36) (g' := (mkF m 250 #[.val (.int ya0), .val (.int ya1), .val (.int ya2), .val (.int ya3), .val (.int ya4), .val (.int (1 : Int32)), .val (.int c0), .val (.int c1), .val (.int c2), .val (.int c3), .val (.ref b17), .val (.int av), .unset, .unset, .unset] [(.int (1 : Int32))])) ?_ (fun t_ k_ => XS.iload X36.here hx rfl (hb hby at_248) rfl k_)
      refine Goes.on (T' := T36) (g' := (mkF m 251 #[.val (.int ya0), .val (.int ya1), .val (.int ya2), .val (.int ya3), .val (.int ya4), .val (.int (1 : Int32)), .val (.int c0), .val (.int c1), .val (.int c2), .val (.int c3), .val (.ref b17), .val (.int av), .unset, .unset, .unset] [(.int (4 : Int32)), (.int (1 : Int32))])) ?_ (fun t_ k_ => XS.iconst X36.here hx rfl (hb hby at_250) k_)
      refine Goes.on (T' := T36) (g' := (mkF m 265 #[.val (.int ya0), .val (.int ya1), .val (.int ya2), .val (.int ya3), .val (.int ya4), .val (.int (1 : Int32)), .val (.int c0), .val (.int c1), .val (.int c2), .val (.int c3), .val (.ref b17), .val (.int av), .unset, .unset, .unset] [])) ?_ (fun t_ k_ => XS.icmpYes X36.here hx rfl (pc0 := 251) (pc' := 265) rfl (hb hby at_251) rfl (by decide) (by decide) (by decide) k_)
      refine Goes.on (T' := T36) (g' := (mkF m 266 #[.val (.int ya0), .val (.int ya1), .val (.int ya2), .val (.int ya3), .val (.int ya4), .val (.int (1 : Int32)), .val (.int c0), .val (.int c1), .val (.int c2), .val (.int c3), .val (.ref b17), .val (.int av), .unset, .unset, .unset] [(.int (0 : Int32))])) ?_ (fun t_ k_ => XS.iconst X36.here hx rfl (hb hby at_265) k_)
      refine Goes.on (T' := T36) (g' := (mkF m 268 #[.val (.int ya0), .val (.int ya1), .val (.int ya2), .val (.int ya3), .val (.int ya4), .val (.int (1 : Int32)), .val (.int c0), .val (.int c1), .val (.int c2), .val (.int c3), .val (.ref b17), .val (.int av), .unset, .val (.int (0 : Int32)), .unset] [])) ?_ (fun t_ k_ => XS.istore X36.here hx rfl (hb hby at_266) rfl (l' := #[.val (.int ya0), .val (.int ya1), .val (.int ya2), .val (.int ya3), .val (.int ya4), .val (.int (1 : Int32)), .val (.int c0), .val (.int c1), .val (.int c2), .val (.int c3), .val (.ref b17), .val (.int av), .unset, .val (.int (0 : Int32)), .unset]) rfl k_)
      refine Goes.on (T' := T36) (g' := (mkF m 270 #[.val (.int ya0), .val (.int ya1), .val (.int ya2), .val (.int ya3), .val (.int ya4), .val (.int (1 : Int32)), .val (.int c0), .val (.int c1), .val (.int c2), .val (.int c3), .val (.ref b17), .val (.int av), .unset, .val (.int (0 : Int32)), .unset] [(.int (1 : Int32))])) ?_ (fun t_ k_ => XS.iload X36.here hx rfl (hb hby at_268) rfl k_)
      refine Goes.on (T' := T36) (g' := (mkF m 271 #[.val (.int ya0), .val (.int ya1), .val (.int ya2), .val (.int ya3), .val (.int ya4), .val (.int (1 : Int32)), .val (.int c0), .val (.int c1), .val (.int c2), .val (.int c3), .val (.ref b17), .val (.int av), .unset, .val (.int (0 : Int32)), .unset] [(.int (3 : Int32)), (.int (1 : Int32))])) ?_ (fun t_ k_ => XS.iconst X36.here hx rfl (hb hby at_270) k_)
      refine Goes.on (T' := T36) (g' := (mkF m 299 #[.val (.int ya0), .val (.int ya1), .val (.int ya2), .val (.int ya3), .val (.int ya4), .val (.int (1 : Int32)), .val (.int c0), .val (.int c1), .val (.int c2), .val (.int c3), .val (.ref b17), .val (.int av), .unset, .val (.int (0 : Int32)), .unset] [])) ?_ (fun t_ k_ => XS.icmpYes X36.here hx rfl (pc0 := 271) (pc' := 299) rfl (hb hby at_271) rfl (by decide) (by decide) (by decide) k_)
      refine Goes.on (T' := T36) (g' := (mkF m 300 #[.val (.int ya0), .val (.int ya1), .val (.int ya2), .val (.int ya3), .val (.int ya4), .val (.int (1 : Int32)), .val (.int c0), .val (.int c1), .val (.int c2), .val (.int c3), .val (.ref b17), .val (.int av), .unset, .val (.int (0 : Int32)), .unset] [(.int (0 : Int32))])) ?_ (fun t_ k_ => XS.iconst X36.here hx rfl (hb hby at_299) k_)
      refine Goes.on (T' := T36) (g' := (mkF m 302 #[.val (.int ya0), .val (.int ya1), .val (.int ya2), .val (.int ya3), .val (.int ya4), .val (.int (1 : Int32)), .val (.int c0), .val (.int c1), .val (.int c2), .val (.int c3), .val (.ref b17), .val (.int av), .unset, .val (.int (0 : Int32)), .val (.int (0 : Int32))] [])) ?_ (fun t_ k_ => XS.istore X36.here hx rfl (hb hby at_300) rfl (l' := #[.val (.int ya0), .val (.int ya1), .val (.int ya2), .val (.int ya3), .val (.int ya4), .val (.int (1 : Int32)), .val (.int c0), .val (.int c1), .val (.int c2), .val (.int c3), .val (.ref b17), .val (.int av), .unset, .val (.int (0 : Int32)), .val (.int (0 : Int32))]) rfl k_)
      refine Goes.on (T' := T36) (g' := (mkF m 304 #[.val (.int ya0), .val (.int ya1), .val (.int ya2), .val (.int ya3), .val (.int ya4), .val (.int (1 : Int32)), .val (.int c0), .val (.int c1), .val (.int c2), .val (.int c3), .val (.ref b17), .val (.int av), .unset, .val (.int (0 : Int32)), .val (.int (0 : Int32))] [(.int (0 : Int32))])) ?_ (fun t_ k_ => XS.iload X36.here hx rfl (hb hby at_302) rfl k_)
      refine Goes.on (T' := T36) (g' := (mkF m 307 #[.val (.int ya0), .val (.int ya1), .val (.int ya2), .val (.int ya3), .val (.int ya4), .val (.int (1 : Int32)), .val (.int c0), .val (.int c1), .val (.int c2), .val (.int c3), .val (.ref b17), .val (.int av), .unset, .val (.int (0 : Int32)), .val (.int (0 : Int32))] [])) ?_ (fun t_ k_ => XS.ifNo X36.here hx rfl (hb hby at_304) rfl (by decide) k_)
      refine Goes.on (T' := T36) (g' := (mkF m 309 #[.val (.int ya0), .val (.int ya1), .val (.int ya2), .val (.int ya3), .val (.int ya4), .val (.int (1 : Int32)), .val (.int c0), .val (.int c1), .val (.int c2), .val (.int c3), .val (.ref b17), .val (.int av), .unset, .val (.int (0 : Int32)), .val (.int (0 : Int32))] [(.int (0 : Int32))])) ?_ (fun t_ k_ => XS.iload X36.here hx rfl (hb hby at_307) rfl k_)
      refine Goes.on (T' := T36) (g' := (mkF m 312 #[.val (.int ya0), .val (.int ya1), .val (.int ya2), .val (.int ya3), .val (.int ya4), .val (.int (1 : Int32)), .val (.int c0), .val (.int c1), .val (.int c2), .val (.int c3), .val (.ref b17), .val (.int av), .unset, .val (.int (0 : Int32)), .val (.int (0 : Int32))] [])) ?_ (fun t_ k_ => XS.ifNo X36.here hx rfl (hb hby at_309) rfl (by decide) k_)
      refine Goes.on (T' := T36) (g' := (mkF m 313 #[.val (.int ya0), .val (.int ya1), .val (.int ya2), .val (.int ya3), .val (.int ya4), .val (.int (1 : Int32)), .val (.int c0), .val (.int c1), .val (.int c2), .val (.int c3), .val (.ref b17), .val (.int av), .unset, .val (.int (0 : Int32)), .val (.int (0 : Int32))] [(.int (1 : Int32))])) ?_ (fun t_ k_ => XS.iconst X36.here hx rfl (hb hby at_312) k_)
      refine Goes.on (T' := T36) (g' := (mkF m 317 #[.val (.int ya0), .val (.int ya1), .val (.int ya2), .val (.int ya3), .val (.int ya4), .val (.int (1 : Int32)), .val (.int c0), .val (.int c1), .val (.int c2), .val (.int c3), .val (.ref b17), .val (.int av), .unset, .val (.int (0 : Int32)), .val (.int (0 : Int32))] [(.int (1 : Int32))])) ?_ (fun t_ k_ => XS.goto X36.here hx rfl (pc0 := 313) (pc' := 317) rfl (hb hby at_313) (by decide) (by decide) k_)
      refine Goes.on (T' := T36) (g' := (mkF m 319 #[.val (.int ya0), .val (.int ya1), .val (.int ya2), .val (.int ya3), .val (.int ya4), .val (.int (1 : Int32)), .val (.int c0), .val (.int c1), .val (.int c2), .val (.int c3), .val (.ref b17), .val (.int av), .val (.int (1 : Int32)), .val (.int (0 : Int32)), .val (.int (0 : Int32))] [])) ?_ (fun t_ k_ => XS.istore X36.here hx rfl (hb hby at_317) rfl (l' := #[.val (.int ya0), .val (.int ya1), .val (.int ya2), .val (.int ya3), .val (.int ya4), .val (.int (1 : Int32)), .val (.int c0), .val (.int c1), .val (.int c2), .val (.int c3), .val (.ref b17), .val (.int av), .val (.int (1 : Int32)), .val (.int (0 : Int32)), .val (.int (0 : Int32))]) rfl k_)
      refine Goes.on (T' := T36) (g' := (mkF m 321 #[.val (.int ya0), .val (.int ya1), .val (.int ya2), .val (.int ya3), .val (.int ya4), .val (.int (1 : Int32)), .val (.int c0), .val (.int c1), .val (.int c2), .val (.int c3), .val (.ref b17), .val (.int av), .val (.int (1 : Int32)), .val (.int (0 : Int32)), .val (.int (0 : Int32))] [(.int av)])) ?_ (fun t_ k_ => XS.iload X36.here hx rfl (hb hby at_319) rfl k_)
      refine Goes.on (T' := T36) (g' := (mkF m 323 #[.val (.int ya0), .val (.int ya1), .val (.int ya2), .val (.int ya3), .val (.int ya4), .val (.int (1 : Int32)), .val (.int c0), .val (.int c1), .val (.int c2), .val (.int c3), .val (.ref b17), .val (.int av), .val (.int (1 : Int32)), .val (.int (0 : Int32)), .val (.int (0 : Int32))] [(.int (1 : Int32)), (.int av)])) ?_ (fun t_ k_ => XS.iload X36.here hx rfl (hb hby at_321) rfl k_)
      refine Goes.on (T' := T36) (g' := (mkF m 326 #[.val (.int ya0), .val (.int ya1), .val (.int ya2), .val (.int ya3), .val (.int ya4), .val (.int (1 : Int32)), .val (.int c0), .val (.int c1), .val (.int c2), .val (.int c3), .val (.ref b17), .val (.int av), .val (.int (1 : Int32)), .val (.int (0 : Int32)), .val (.int (0 : Int32))] [])) ?_ (fun t_ k_ => XS.icmpNo X36.here hx rfl (hb hby at_323) rfl (teq (show av = (1 : Int32) from by rw [hav, own_ivn1]; simp only [eq_false hc219, if_true, if_false, ↓reduceIte, not_true_eq_false, not_false_eq_true, true_and, and_true, false_and, and_false, or_true, true_or, or_false, false_or, and_self, or_self])).2 k_)
      refine Goes.on (T' := T36) (g' := (mkF m 327 #[.val (.int ya0), .val (.int ya1), .val (.int ya2), .val (.int ya3), .val (.int ya4), .val (.int (1 : Int32)), .val (.int c0), .val (.int c1), .val (.int c2), .val (.int c3), .val (.ref b17), .val (.int av), .val (.int (1 : Int32)), .val (.int (0 : Int32)), .val (.int (0 : Int32))] [(.int (1 : Int32))])) ?_ (fun t_ k_ => XS.iconst X36.here hx rfl (hb hby at_326) k_)
      refine Goes.on (T' := T36) (g' := (mkF m 331 #[.val (.int ya0), .val (.int ya1), .val (.int ya2), .val (.int ya3), .val (.int ya4), .val (.int (1 : Int32)), .val (.int c0), .val (.int c1), .val (.int c2), .val (.int c3), .val (.ref b17), .val (.int av), .val (.int (1 : Int32)), .val (.int (0 : Int32)), .val (.int (0 : Int32))] [(.int (1 : Int32))])) ?_ (fun t_ k_ => XS.goto X36.here hx rfl (pc0 := 327) (pc' := 331) rfl (hb hby at_327) (by decide) (by decide) k_)
      rw [hWd]
      exact Goes.retnW X36 hS36 (Nat.le_refl _) (v := some (.int (nar .boolean (1 : Int32)))) (fun fs hr => retN X36 hx (t := .boolean) Bd.returns (by simp) (hb hby at_331) hr) (fun h => by rw [Bd.returns] at h; cases h) Bd.notSynchronized (by decide) (by decide) ⟨rfl, N36⟩
  · show Goes p e below W T4 (mkF m 34 #[.val (.int ya0), .val (.int ya1), .val (.int ya2), .val (.int ya3), .val (.int ya4), .val (.int (2 : Int32)), .val (.int c0), .val (.int c1), .val (.int c2), .val (.int c3), .unset, .unset, .unset, .unset, .unset] [])
    refine Goes.on (T' := T4) (g' := (mkF m 36 #[.val (.int ya0), .val (.int ya1), .val (.int ya2), .val (.int ya3), .val (.int ya4), .val (.int (2 : Int32)), .val (.int c0), .val (.int c1), .val (.int c2), .val (.int c3), .unset, .unset, .unset, .unset, .unset] [(.int (2 : Int32))])) ?_ (fun t_ k_ => XS.iload X4.here hx rfl (hb hby at_34) rfl k_)
    refine Goes.on (T' := T4) (g' := (mkF m 37 #[.val (.int ya0), .val (.int ya1), .val (.int ya2), .val (.int ya3), .val (.int ya4), .val (.int (2 : Int32)), .val (.int c0), .val (.int c1), .val (.int c2), .val (.int c3), .unset, .unset, .unset, .unset, .unset] [(.int (5 : Int32)), (.int (2 : Int32))])) ?_ (fun t_ k_ => XS.iconst X4.here hx rfl (hb hby at_36) k_)
    refine Goes.on (T' := T4) (g' := (mkF m 46 #[.val (.int ya0), .val (.int ya1), .val (.int ya2), .val (.int ya3), .val (.int ya4), .val (.int (2 : Int32)), .val (.int c0), .val (.int c1), .val (.int c2), .val (.int c3), .unset, .unset, .unset, .unset, .unset] [])) ?_ (fun t_ k_ => XS.icmpYes X4.here hx rfl (pc0 := 37) (pc' := 46) rfl (hb hby at_37) rfl (by decide) (by decide) (by decide) k_)
    refine Goes.on (T' := T4) (g' := (mkF m 48 #[.val (.int ya0), .val (.int ya1), .val (.int ya2), .val (.int ya3), .val (.int ya4), .val (.int (2 : Int32)), .val (.int c0), .val (.int c1), .val (.int c2), .val (.int c3), .unset, .unset, .unset, .unset, .unset] [(.int (2 : Int32))])) ?_ (fun t_ k_ => XS.iload X4.here hx rfl (hb hby at_46) rfl k_)
    refine Goes.on (T' := T4) (g' := (mkF m 66 #[.val (.int ya0), .val (.int ya1), .val (.int ya2), .val (.int ya3), .val (.int ya4), .val (.int (2 : Int32)), .val (.int c0), .val (.int c1), .val (.int c2), .val (.int c3), .unset, .unset, .unset, .unset, .unset] [])) ?_ (fun t_ k_ => XS.ifYes X4.here hx rfl (pc0 := 48) (pc' := 66) rfl (hb hby at_48) rfl (by decide) (by decide) (by decide) k_)
    refine Goes.on (T' := T4) (g' := (mkF m 68 #[.val (.int ya0), .val (.int ya1), .val (.int ya2), .val (.int ya3), .val (.int ya4), .val (.int (2 : Int32)), .val (.int c0), .val (.int c1), .val (.int c2), .val (.int c3), .unset, .unset, .unset, .unset, .unset] [(.int (2 : Int32))])) ?_ (fun t_ k_ => XS.iload X4.here hx rfl (hb hby at_66) rfl k_)
    refine Goes.on (T' := T4) (g' := (mkF m 69 #[.val (.int ya0), .val (.int ya1), .val (.int ya2), .val (.int ya3), .val (.int ya4), .val (.int (2 : Int32)), .val (.int c0), .val (.int c1), .val (.int c2), .val (.int c3), .unset, .unset, .unset, .unset, .unset] [(.int (1 : Int32)), (.int (2 : Int32))])) ?_ (fun t_ k_ => XS.iconst X4.here hx rfl (hb hby at_68) k_)
    refine Goes.on (T' := T4) (g' := (mkF m 92 #[.val (.int ya0), .val (.int ya1), .val (.int ya2), .val (.int ya3), .val (.int ya4), .val (.int (2 : Int32)), .val (.int c0), .val (.int c1), .val (.int c2), .val (.int c3), .unset, .unset, .unset, .unset, .unset] [])) ?_ (fun t_ k_ => XS.icmpYes X4.here hx rfl (pc0 := 69) (pc' := 92) rfl (hb hby at_69) rfl (by decide) (by decide) (by decide) k_)
    refine Goes.on (T' := T4) (g' := (mkF m 94 #[.val (.int ya0), .val (.int ya1), .val (.int ya2), .val (.int ya3), .val (.int ya4), .val (.int (2 : Int32)), .val (.int c0), .val (.int c1), .val (.int c2), .val (.int c3), .unset, .unset, .unset, .unset, .unset] [(.int (2 : Int32))])) ?_ (fun t_ k_ => XS.iload X4.here hx rfl (hb hby at_92) rfl k_)
    refine Goes.on (T' := T4) (g' := (mkF m 95 #[.val (.int ya0), .val (.int ya1), .val (.int ya2), .val (.int ya3), .val (.int ya4), .val (.int (2 : Int32)), .val (.int c0), .val (.int c1), .val (.int c2), .val (.int c3), .unset, .unset, .unset, .unset, .unset] [(.int (2 : Int32)), (.int (2 : Int32))])) ?_ (fun t_ k_ => XS.iconst X4.here hx rfl (hb hby at_94) k_)
    refine Goes.on (T' := T4) (g' := (mkF m 98 #[.val (.int ya0), .val (.int ya1), .val (.int ya2), .val (.int ya3), .val (.int ya4), .val (.int (2 : Int32)), .val (.int c0), .val (.int c1), .val (.int c2), .val (.int c3), .unset, .unset, .unset, .unset, .unset] [])) ?_ (fun t_ k_ => XS.icmpNo X4.here hx rfl (hb hby at_95) rfl (by decide) k_)
    obtain ⟨T38, h38, X38, e38, E38, A38, D38, -, st38⟩ := newO X4 hx hZ hown (hw _ (List.mem_of_getElem? (i := 5) rfl)) (hw _ (List.mem_of_getElem? (i := 6) rfl)) (hw _ (List.mem_of_getElem? (i := 7) rfl)) eh4 (g := (mkF m 98 #[.val (.int ya0), .val (.int ya1), .val (.int ya2), .val (.int ya3), .val (.int ya4), .val (.int (2 : Int32)), .val (.int c0), .val (.int c1), .val (.int c2), .val (.int c3), .unset, .unset, .unset, .unset, .unset] [])) rfl (hb hby at_98) (by decide) (by decide)
    obtain ⟨b38, gb38⟩ : ∃ z, z = h0.size := ⟨_, rfl⟩
    rw [← gb38] at A38 D38 st38
    have Z38 : n0 ≤ h38.size := Nat.le_trans Z0 E38.1
    have g_b38 : n0 ≤ b38 := Nat.le_trans Z0 (Nat.le_of_eq gb38.symm)
    refine Goes.on (T' := T38) (g' := (mkF m 101 #[.val (.int ya0), .val (.int ya1), .val (.int ya2), .val (.int ya3), .val (.int ya4), .val (.int (2 : Int32)), .val (.int c0), .val (.int c1), .val (.int c2), .val (.int c3), .unset, .unset, .unset, .unset, .unset] [(.ref b38)])) ?_ st38
    have F38_value : Fld Z h38 b38 "java/lang/String" "value" "[B" .null := D38 (Or.inr (hw _ (List.mem_of_getElem? (i := 21) rfl))) (ty := (.array .byte)) (by decide)
    have F38_coder : Fld Z h38 b38 "java/lang/String" "coder" "B" (.int (0 : Int32)) := D38 (Or.inr (hw _ (List.mem_of_getElem? (i := 22) rfl))) (ty := .byte) (by decide)
    have Sf38 : Safe Z consts_1 s.vm h0 b38 := Safe.new (Nat.le_of_eq gb38.symm)
    have Sf39_b38 := Sf38.ext E38 C0.1
    have C40 := C0.trans (CHr.ext E38 C0.1)
    refine Goes.on (T' := T38) (g' := (mkF m 102 #[.val (.int ya0), .val (.int ya1), .val (.int ya2), .val (.int ya3), .val (.int ya4), .val (.int (2 : Int32)), .val (.int c0), .val (.int c1), .val (.int c2), .val (.int c3), .unset, .unset, .unset, .unset, .unset] [(.ref b38), (.ref b38)])) ?_ (fun t_ k_ => XS.dup X38.here hx rfl (hb hby at_101) rfl rfl k_)
    refine Goes.on (T' := T38) (g' := (mkF m 103 #[.val (.int ya0), .val (.int ya1), .val (.int ya2), .val (.int ya3), .val (.int ya4), .val (.int (2 : Int32)), .val (.int c0), .val (.int c1), .val (.int c2), .val (.int c3), .unset, .unset, .unset, .unset, .unset] [(.int (2 : Int32)), (.ref b38), (.ref b38)])) ?_ (fun t_ k_ => XS.iconst X38.here hx rfl (hb hby at_102) k_)
    obtain ⟨T41, h41, k41, X41, e41, E41, A41, st41⟩ := newP X38 hx hZ (hw _ (List.mem_of_getElem? (i := 8) rfl)) e38 (g := (mkF m 103 #[.val (.int ya0), .val (.int ya1), .val (.int ya2), .val (.int ya3), .val (.int ya4), .val (.int (2 : Int32)), .val (.int c0), .val (.int c1), .val (.int c2), .val (.int c3), .unset, .unset, .unset, .unset, .unset] [(.int (2 : Int32)), (.ref b38), (.ref b38)])) rfl (hb hby at_103) rfl (by decide) (cap := 2) (by decide) (by decide) (by decide) (by decide)
    obtain ⟨b41, gb41⟩ : ∃ z, z = h38.size := ⟨_, rfl⟩
    rw [← gb41] at A41 st41
    have V41 := Arv.new A41 (by decide)
    have Z41 : n0 ≤ h41.size := Nat.le_trans Z38 E41.1
    have g_b41 : n0 ≤ b41 := Nat.le_trans Z38 (Nat.le_of_eq gb41.symm)
    refine Goes.on (T' := T41) (g' := (mkF m 105 #[.val (.int ya0), .val (.int ya1), .val (.int ya2), .val (.int ya3), .val (.int ya4), .val (.int (2 : Int32)), .val (.int c0), .val (.int c1), .val (.int c2), .val (.int c3), .unset, .unset, .unset, .unset, .unset] [(.ref b41), (.ref b38), (.ref b38)])) ?_ st41
    have fx42 := F38_value.ext E41
    have fx43 := F38_coder.ext E41
    have fx44 := A38.ext E41
    have Sf45_b38 := Sf39_b38.ext E41 C40.1
    have C46 := C40.trans (CHr.ext E41 C40.1)
    have nex41 : b41 ≠ b38 := Ne.symm (Nat.ne_of_lt (Nat.lt_of_lt_of_le A38.lt (Nat.le_of_eq gb41.symm)))
    have VV41 : Arv Z h41 b41 k41 .char (2 : Int32) [.int 0, .int 0] (.int 0) := V41.pad (pad_rep [] (.int 0) 2)
    refine Goes.on (T' := T41) (g' := (mkF m 106 #[.val (.int ya0), .val (.int ya1), .val (.int ya2), .val (.int ya3), .val (.int ya4), .val (.int (2 : Int32)), .val (.int c0), .val (.int c1), .val (.int c2), .val (.int c3), .unset, .unset, .unset, .unset, .unset] [(.ref b41), (.ref b41), (.ref b38), (.ref b38)])) ?_ (fun t_ k_ => XS.dup X41.here hx rfl (hb hby at_105) rfl rfl k_)
    refine Goes.on (T' := T41) (g' := (mkF m 107 #[.val (.int ya0), .val (.int ya1), .val (.int ya2), .val (.int ya3), .val (.int ya4), .val (.int (2 : Int32)), .val (.int c0), .val (.int c1), .val (.int c2), .val (.int c3), .unset, .unset, .unset, .unset, .unset] [(.int (0 : Int32)), (.ref b41), (.ref b41), (.ref b38), (.ref b38)])) ?_ (fun t_ k_ => XS.iconst X41.here hx rfl (hb hby at_106) k_)
    refine Goes.on (T' := T41) (g' := (mkF m 109 #[.val (.int ya0), .val (.int ya1), .val (.int ya2), .val (.int ya3), .val (.int ya4), .val (.int (2 : Int32)), .val (.int c0), .val (.int c1), .val (.int c2), .val (.int c3), .unset, .unset, .unset, .unset, .unset] [(.int c0), (.int (0 : Int32)), (.ref b41), (.ref b41), (.ref b38), (.ref b38)])) ?_ (fun t_ k_ => XS.iload X41.here hx rfl (hb hby at_107) rfl k_)
    obtain ⟨cc47, A47, q47, S47, M47, H47, G47⟩ := VV41
    obtain ⟨T48, h48, X48, e48, W48, st48⟩ := stC X41 hx hZ e41 A47 (j := (0 : Int32)) (inb_of S47 ⟨by decide, by decide⟩) (g := (mkF m 109 #[.val (.int ya0), .val (.int ya1), .val (.int ya2), .val (.int ya3), .val (.int ya4), .val (.int (2 : Int32)), .val (.int c0), .val (.int c1), .val (.int c2), .val (.int c3), .unset, .unset, .unset, .unset, .unset] [(.int c0), (.int (0 : Int32)), (.ref b41), (.ref b41), (.ref b38), (.ref b38)])) rfl rfl (hb hby at_109)
    have N48 := Fr.snoc X48 N4 g_b41
    have Z48 : n0 ≤ h48.size := Nat.le_trans Z41 (Nat.le_of_eq W48.size.symm)
    refine Goes.on (T' := T48) (g' := (mkF m 110 #[.val (.int ya0), .val (.int ya1), .val (.int ya2), .val (.int ya3), .val (.int ya4), .val (.int (2 : Int32)), .val (.int c0), .val (.int c1), .val (.int c2), .val (.int c3), .unset, .unset, .unset, .unset, .unset] [(.ref b41), (.ref b38), (.ref b38)])) ?_ st48
    have fx49 := fx42.other W48 (Or.inl (Ne.symm nex41))
    have fx50 := fx43.other W48 (Or.inl (Ne.symm nex41))
    have fx51 := fx44.wr W48
    have Sf52_b38 := Safe.wr W48 (Safe.arr hZ.alike A47 (fun q => nomatch q)) C46.1 Sf45_b38
    have C53 := C46.trans (CHr.wr W48 (Safe.arr hZ.alike A47 (fun q => nomatch q)) C46.1)
    have V48 : Arv Z h48 b41 k41 .char (2 : Int32) [.int c0, .int 0] (.int 0) := by have q := Arv.set A47 q47 S47 M47 H47 G47 (fits_nar_char _) W48 0 rfl (Nat.le_of_ble_eq_true rfl); rw [own_narc ⟨hpa0, hpb0⟩] at q; exact q
    refine Goes.on (T' := T48) (g' := (mkF m 111 #[.val (.int ya0), .val (.int ya1), .val (.int ya2), .val (.int ya3), .val (.int ya4), .val (.int (2 : Int32)), .val (.int c0), .val (.int c1), .val (.int c2), .val (.int c3), .unset, .unset, .unset, .unset, .unset] [(.ref b41), (.ref b41), (.ref b38), (.ref b38)])) ?_ (fun t_ k_ => XS.dup X48.here hx rfl (hb hby at_110) rfl rfl k_)
    refine Goes.on (T' := T48) (g' := (mkF m 112 #[.val (.int ya0), .val (.int ya1), .val (.int ya2), .val (.int ya3), .val (.int ya4), .val (.int (2 : Int32)), .val (.int c0), .val (.int c1), .val (.int c2), .val (.int c3), .unset, .unset, .unset, .unset, .unset] [(.int (1 : Int32)), (.ref b41), (.ref b41), (.ref b38), (.ref b38)])) ?_ (fun t_ k_ => XS.iconst X48.here hx rfl (hb hby at_111) k_)
    refine Goes.on (T' := T48) (g' := (mkF m 114 #[.val (.int ya0), .val (.int ya1), .val (.int ya2), .val (.int ya3), .val (.int ya4), .val (.int (2 : Int32)), .val (.int c0), .val (.int c1), .val (.int c2), .val (.int c3), .unset, .unset, .unset, .unset, .unset] [(.int c1), (.int (1 : Int32)), (.ref b41), (.ref b41), (.ref b38), (.ref b38)])) ?_ (fun t_ k_ => XS.iload X48.here hx rfl (hb hby at_112) rfl k_)
    obtain ⟨cc54, A54, q54, S54, M54, H54, G54⟩ := V48
    obtain ⟨T55, h55, X55, e55, W55, st55⟩ := stC X48 hx hZ e48 A54 (j := (1 : Int32)) (inb_of S54 ⟨by decide, by decide⟩) (g := (mkF m 114 #[.val (.int ya0), .val (.int ya1), .val (.int ya2), .val (.int ya3), .val (.int ya4), .val (.int (2 : Int32)), .val (.int c0), .val (.int c1), .val (.int c2), .val (.int c3), .unset, .unset, .unset, .unset, .unset] [(.int c1), (.int (1 : Int32)), (.ref b41), (.ref b41), (.ref b38), (.ref b38)])) rfl rfl (hb hby at_114)
    have N55 := Fr.snoc X55 N48 g_b41
    have Z55 : n0 ≤ h55.size := Nat.le_trans Z48 (Nat.le_of_eq W55.size.symm)
    refine Goes.on (T' := T55) (g' := (mkF m 115 #[.val (.int ya0), .val (.int ya1), .val (.int ya2), .val (.int ya3), .val (.int ya4), .val (.int (2 : Int32)), .val (.int c0), .val (.int c1), .val (.int c2), .val (.int c3), .unset, .unset, .unset, .unset, .unset] [(.ref b41), (.ref b38), (.ref b38)])) ?_ st55
    have fx56 := fx49.other W55 (Or.inl (Ne.symm nex41))
    have fx57 := fx50.other W55 (Or.inl (Ne.symm nex41))
    have fx58 := fx51.wr W55
    have Sf59_b38 := Safe.wr W55 (Safe.arr hZ.alike A54 (fun q => nomatch q)) C53.1 Sf52_b38
    have C60 := C53.trans (CHr.wr W55 (Safe.arr hZ.alike A54 (fun q => nomatch q)) C53.1)
    have V55 : Arv Z h55 b41 k41 .char (2 : Int32) [.int c0, .int c1] (.int 0) := by have q := Arv.set A54 q54 S54 M54 H54 G54 (fits_nar_char _) W55 1 rfl (Nat.le_of_ble_eq_true rfl); rw [own_narc ⟨hpa1, hpb1⟩] at q; exact q
    have hp : ∀ c ∈ ([c0, c1] : List Int32), ¬ c < 0 ∧ ¬ (65535 : Int32) < c := by intro c hc; simp only [List.mem_cons, List.not_mem_nil, or_false] at hc; rcases hc with rfl | rfl <;> exact ⟨by assumption, by assumption⟩
    have hl : ([c0, c1] : List Int32).length ≤ 16 := by show (2 : Nat) ≤ 16; decide
    have hl0 : 0 < ([c0, c1] : List Int32).length := Nat.succ_pos _
    have XO : Old Z n0 h55 := ((((X0_.ext E38).ext E41).wr W48 g_b41).wr W55 g_b41)
    obtain ⟨_, _, ⟨T61, Lq_61, kq_61, nq_61⟩, -, X61, ⟨Lc61, hQ61, l61, y61, z61⟩, st61⟩ := X55.specialBack hx (y := (⟨"java/lang/String", "<init>", "([C)V"⟩ : MethodName)) rfl hown (mvT hZ (hw _ (List.mem_of_getElem? (i := 9) rfl))) (mvT hZ (hw _ (List.mem_of_getElem? (i := 10) rfl))) (mvT hZ (hw _ (List.mem_of_getElem? (i := 11) rfl))) (by decide) (backOf (W := 1) (rmI1 l Z a0 hw [] b38 b41 k41 [c0, c1] zc h55 n0 Z55 fx58 fx56 fx57 g_b38 (by exact V55) hp hl hl0 CS hzc AD HB LB XO) hZ (hw _ (List.mem_of_getElem? (i := 11) rfl)) (hw _ (List.mem_of_getElem? (i := 7) rfl)) (by decide) (by decide)) (g := (mkF m 115 #[.val (.int ya0), .val (.int ya1), .val (.int ya2), .val (.int ya3), .val (.int ya4), .val (.int (2 : Int32)), .val (.int c0), .val (.int c1), .val (.int c2), .val (.int c3), .unset, .unset, .unset, .unset, .unset] [(.ref b41), (.ref b38), (.ref b38)])) rfl (by rw [hml]; rfl) (Steps.refl _) (a := b38) (argsL := [(.ref b41)]) (rest := [(.ref b38)]) (lenOf pd_21 rfl) rfl (by show 2 * 0 + _ ≤ _; exact Nat.le_of_eq rfl) (hb hby at_115) (fun _ _ => ⟨rfl, e55, (by decide : 2 + 2 ≤ _), (by decide : 6 + 48 ≤ _)⟩)
    dsimp only [Pt.U, Pt.locs, Pt.cells, Pt.slots] at X61 l61 y61 z61 st61 hQ61
    rw [l61, y61, z61] at X61
    change Stand p l e _ _ m _ below meth c T61 _ 4 54 at X61
    obtain ⟨rfl, N61q, K61, ⟨tt, kt, cd, szt, TX⟩⟩ := hQ61
    have N61 := Fr.app N55 N61q
    refine Goes.on (T' := T61) (g' := (mkF m 118 #[.val (.int ya0), .val (.int ya1), .val (.int ya2), .val (.int ya3), .val (.int ya4), .val (.int (2 : Int32)), .val (.int c0), .val (.int c1), .val (.int c2), .val (.int c3), .unset, .unset, .unset, .unset, .unset] [(.ref b38)])) ?_ (fun t => st61.trans)
    have ZS : n0 ≤ T61.heap.size := Nat.le_trans Z55 K61.1
    have XS_ : Old Z n0 T61.heap := XO.keep K61 (allS g_b38 all0)
    have hs62 := (own_sfC (P := fun y => Safe Z consts_1 s.vm _ y) Sf59_b38 (fun y hy => absurd hy List.not_mem_nil))
    have Sf62_b38 := Safe.keep K61 hs62 C60.1 Sf59_b38
    have C63 := C60.trans (CHr.keep K61 hs62 C60.1)
    have ltx : b38 < T61.heap.size := TX.1.lt
    refine Goes.on (T' := T61) (g' := (mkF m 120 #[.val (.int ya0), .val (.int ya1), .val (.int ya2), .val (.int ya3), .val (.int ya4), .val (.int (2 : Int32)), .val (.int c0), .val (.int c1), .val (.int c2), .val (.int c3), .val (.ref b38), .unset, .unset, .unset, .unset] [])) ?_ (fun t_ k_ => XS.astore X61.here hx rfl (hb hby at_118) rfl rfl (l' := #[.val (.int ya0), .val (.int ya1), .val (.int ya2), .val (.int ya3), .val (.int ya4), .val (.int (2 : Int32)), .val (.int c0), .val (.int c1), .val (.int c2), .val (.int c3), .val (.ref b38), .unset, .unset, .unset, .unset]) rfl k_)
    refine Goes.on (T' := T61) (g' := (mkF m 191 #[.val (.int ya0), .val (.int ya1), .val (.int ya2), .val (.int ya3), .val (.int ya4), .val (.int (2 : Int32)), .val (.int c0), .val (.int c1), .val (.int c2), .val (.int c3), .val (.ref b38), .unset, .unset, .unset, .unset] [])) ?_ (fun t_ k_ => XS.goto X61.here hx rfl (pc0 := 120) (pc' := 191) rfl (hb hby at_120) (by decide) (by decide) k_)
    refine Goes.on (T' := T61) (g' := (mkF m 193 #[.val (.int ya0), .val (.int ya1), .val (.int ya2), .val (.int ya3), .val (.int ya4), .val (.int (2 : Int32)), .val (.int c0), .val (.int c1), .val (.int c2), .val (.int c3), .val (.ref b38), .unset, .unset, .unset, .unset] [(.ref b38)])) ?_ (fun t_ k_ => XS.aload X61.here hx rfl (hb hby at_191) rfl rfl k_)
    obtain ⟨_, _, ⟨T64, Lq_64, kq_64, nq_64⟩, -, X64a, S64a, G64a, ⟨Lc64, hQ64, l64, y64, z64, D64⟩, st64⟩ := Jvm.RoadKit.callSS (s := s.setVm s.vm) X61 hx (y := (⟨"com/example/regraft/regraft/core/Node", "isValidName", "(Ljava/lang/String;)Z"⟩ : MethodName)) hown (mvT hZ (hw _ (List.mem_of_getElem? (i := 27) rfl))) (mvT hZ (hw _ (List.mem_of_getElem? (i := 28) rfl))) (mvT hZ (hw _ (List.mem_of_getElem? (i := 29) rfl))) (mvT hZ (hw _ (List.mem_of_getElem? (i := 30) rfl))) (by decide) (backSH (s := s) (vm0 := s.vm) (W := 0) (xs := []) (rmVT l Z a0 hw [] b38 tt kt [c0, c1] cd zc vf T61.heap n0 ZS hEL TX CS hzc hp hl hl0 XS_ AD HB LB SO rG) hZ (hw _ (List.mem_of_getElem? (i := 30) rfl)) (hw _ (List.mem_of_getElem? (i := 29) rfl)) (by decide) (by decide) hEL C63.1 (fun y hy => absurd hy List.not_mem_nil)) (g := (mkF m 193 #[.val (.int ya0), .val (.int ya1), .val (.int ya2), .val (.int ya3), .val (.int ya4), .val (.int (2 : Int32)), .val (.int c0), .val (.int c1), .val (.int c2), .val (.int c3), .val (.ref b38), .unset, .unset, .unset, .unset] [(.ref b38)])) rfl (by rw [hml]; rfl) (argsL := [(.ref b38)]) (rest := []) (lenOf pd_22 rfl) rfl (by show 2 * 0 + _ ≤ _; exact Nat.le_of_eq rfl) (hb hby at_193) (fun _ _ => ⟨rfl, rfl, (by decide : 4 + 2 ≤ _), (by decide : 54 + 16 ≤ _)⟩)
    dsimp only [Pt.U, Pt.locs, Pt.cells, Pt.slots] at X64a S64a G64a l64 y64 z64 st64 hQ64 D64
    rw [l64, y64, z64] at X64a
    obtain ⟨X64, hS64, hZ, hown⟩ := rebS (s := s) (vm0 := s.vm) hS0 (Nat.le_trans (Nat.le_trans (Nat.le_trans (Nat.le_trans (Nat.le_trans (Nat.le_refl _) E38.1) E41.1) (Nat.le_of_eq W48.size.symm)) (Nat.le_of_eq W55.size.symm)) K61.1) X64a S64a G64a hZ hown
    change Stand p l e _ _ m _ below meth c T64 _ 6 70 at X64
    obtain ⟨rfl, N64q⟩ := hQ64
    have N64 := Fr.app N61 N64q
    have Sf64_b38 := D64.safe ltx Sf62_b38
    have Z64 : n0 ≤ T64.heap.size := Nat.le_trans ZS D64.2.1
    have C65 := C63.trans D64
    refine Goes.on (T' := T64) (g' := (mkF m 196 #[.val (.int ya0), .val (.int ya1), .val (.int ya2), .val (.int ya3), .val (.int ya4), .val (.int (2 : Int32)), .val (.int c0), .val (.int c1), .val (.int c2), .val (.int c3), .val (.ref b38), .unset, .unset, .unset, .unset] [(.int (own_ivn [c0, c1]))])) ?_ (fun t => st64.trans)
    obtain ⟨av, hav⟩ : ∃ z, z = own_ivn [c0, c1] := ⟨_, rfl⟩
    rw [← hav]
    refine Goes.on (T' := T64) (g' := (mkF m 198 #[.val (.int ya0), .val (.int ya1), .val (.int ya2), .val (.int ya3), .val (.int ya4), .val (.int (2 : Int32)), .val (.int c0), .val (.int c1), .val (.int c2), .val (.int c3), .val (.ref b38), .val (.int av), .unset, .unset, .unset] [])) ?_ (fun t_ k_ => XS.istore X64.here hx rfl (hb hby at_196) rfl (l' := #[.val (.int ya0), .val (.int ya1), .val (.int ya2), .val (.int ya3), .val (.int ya4), .val (.int (2 : Int32)), .val (.int c0), .val (.int c1), .val (.int c2), .val (.int c3), .val (.ref b38), .val (.int av), .unset, .unset, .unset]) rfl k_)
    refine Goes.on (T' := T64) (g' := (mkF m 200 #[.val (.int ya0), .val (.int ya1), .val (.int ya2), .val (.int ya3), .val (.int ya4), .val (.int (2 : Int32)), .val (.int c0), .val (.int c1), .val (.int c2), .val (.int c3), .val (.ref b38), .val (.int av), .unset, .unset, .unset] [(.int (2 : Int32))])) ?_ (fun t_ k_ => XS.iload X64.here hx rfl (hb hby at_198) rfl k_)
    refine Goes.on (T' := T64) (g' := (mkF m 201 #[.val (.int ya0), .val (.int ya1), .val (.int ya2), .val (.int ya3), .val (.int ya4), .val (.int (2 : Int32)), .val (.int c0), .val (.int c1), .val (.int c2), .val (.int c3), .val (.ref b38), .val (.int av), .unset, .unset, .unset] [(.int (5 : Int32)), (.int (2 : Int32))])) ?_ (fun t_ k_ => XS.iconst X64.here hx rfl (hb hby at_200) k_)
    refine Goes.on (T' := T64) (g' := (mkF m 204 #[.val (.int ya0), .val (.int ya1), .val (.int ya2), .val (.int ya3), .val (.int ya4), .val (.int (2 : Int32)), .val (.int c0), .val (.int c1), .val (.int c2), .val (.int c3), .val (.ref b38), .val (.int av), .unset, .unset, .unset] [])) ?_ (fun t_ k_ => XS.icmpNo X64.here hx rfl (hb hby at_201) rfl (by decide) k_)
    refine Goes.on (T' := T64) (g' := (mkF m 206 #[.val (.int ya0), .val (.int ya1), .val (.int ya2), .val (.int ya3), .val (.int ya4), .val (.int (2 : Int32)), .val (.int c0), .val (.int c1), .val (.int c2), .val (.int c3), .val (.ref b38), .val (.int av), .unset, .unset, .unset] [(.int (2 : Int32))])) ?_ (fun t_ k_ => XS.iload X64.here hx rfl (hb hby at_204) rfl k_)
    refine Goes.on (T' := T64) (g' := (mkF m 215 #[.val (.int ya0), .val (.int ya1), .val (.int ya2), .val (.int ya3), .val (.int ya4), .val (.int (2 : Int32)), .val (.int c0), .val (.int c1), .val (.int c2), .val (.int c3), .val (.ref b38), .val (.int av), .unset, .unset, .unset] [])) ?_ (fun t_ k_ => XS.ifYes X64.here hx rfl (pc0 := 206) (pc' := 215) rfl (hb hby at_206) rfl (by decide) (by decide) (by decide) k_)
    refine Goes.on (T' := T64) (g' := (mkF m 217 #[.val (.int ya0), .val (.int ya1), .val (.int ya2), .val (.int ya3), .val (.int ya4), .val (.int (2 : Int32)), .val (.int c0), .val (.int c1), .val (.int c2), .val (.int c3), .val (.ref b38), .val (.int av), .unset, .unset, .unset] [(.int c0)])) ?_ (fun t_ k_ => XS.iload X64.here hx rfl (hb hby at_215) rfl k_)
    refine Goes.on (T' := T64) (g' := (mkF m 219 #[.val (.int ya0), .val (.int ya1), .val (.int ya2), .val (.int ya3), .val (.int ya4), .val (.int (2 : Int32)), .val (.int c0), .val (.int c1), .val (.int c2), .val (.int c3), .val (.ref b38), .val (.int av), .unset, .unset, .unset] [(.int (47 : Int32)), (.int c0)])) ?_ (fun t_ k_ => XS.bipush X64.here hx rfl (hb hby at_217) k_)
    refine Goes.icmpP X64 hx rfl (pc0 := 219) (pc' := 261) rfl (hb hby at_219) rfl (by decide) (by decide) (P := c0 = (47 : Int32)) (cmp_eq _ _) (fun hc219 => ?_) (fun hc219 => ?_)
    · show Goes p e below W T64 (mkF m 261 #[.val (.int ya0), .val (.int ya1), .val (.int ya2), .val (.int ya3), .val (.int ya4), .val (.int (2 : Int32)), .val (.int c0), .val (.int c1), .val (.int c2), .val (.int c3), .val (.ref b38), .val (.int av), .unset, .unset, .unset] [])
      refine Goes.on (T' := T64) (g' := (mkF m 262 #[.val (.int ya0), .val (.int ya1), .val (.int ya2), .val (.int ya3), .val (.int ya4), .val (.int (2 : Int32)), .val (.int c0), .val (.int c1), .val (.int c2), .val (.int c3), .val (.ref b38), .val (.int av), .unset, .unset, .unset] [(.int (1 : Int32))])) ?_ (fun t_ k_ => XS.iconst X64.here hx rfl (hb hby at_261) k_)
      refine Goes.on (T' := T64) (g' := (mkF m 266 #[.val (.int ya0), .val (.int ya1), .val (.int ya2), .val (.int ya3), .val (.int ya4), .val (.int (2 : Int32)), .val (.int c0), .val (.int c1), .val (.int c2), .val (.int c3), .val (.ref b38), .val (.int av), .unset, .unset, .unset] [(.int (1 : Int32))])) ?_ (fun t_ k_ => XS.goto X64.here hx rfl (pc0 := 262) (pc' := 266) rfl (hb hby at_262) (by decide) (by decide) k_)
      refine Goes.on (T' := T64) (g' := (mkF m 268 #[.val (.int ya0), .val (.int ya1), .val (.int ya2), .val (.int ya3), .val (.int ya4), .val (.int (2 : Int32)), .val (.int c0), .val (.int c1), .val (.int c2), .val (.int c3), .val (.ref b38), .val (.int av), .unset, .val (.int (1 : Int32)), .unset] [])) ?_ (fun t_ k_ => XS.istore X64.here hx rfl (hb hby at_266) rfl (l' := #[.val (.int ya0), .val (.int ya1), .val (.int ya2), .val (.int ya3), .val (.int ya4), .val (.int (2 : Int32)), .val (.int c0), .val (.int c1), .val (.int c2), .val (.int c3), .val (.ref b38), .val (.int av), .unset, .val (.int (1 : Int32)), .unset]) rfl k_)
      refine Goes.on (T' := T64) (g' := (mkF m 270 #[.val (.int ya0), .val (.int ya1), .val (.int ya2), .val (.int ya3), .val (.int ya4), .val (.int (2 : Int32)), .val (.int c0), .val (.int c1), .val (.int c2), .val (.int c3), .val (.ref b38), .val (.int av), .unset, .val (.int (1 : Int32)), .unset] [(.int (2 : Int32))])) ?_ (fun t_ k_ => XS.iload X64.here hx rfl (hb hby at_268) rfl k_)
      refine Goes.on (T' := T64) (g' := (mkF m 271 #[.val (.int ya0), .val (.int ya1), .val (.int ya2), .val (.int ya3), .val (.int ya4), .val (.int (2 : Int32)), .val (.int c0), .val (.int c1), .val (.int c2), .val (.int c3), .val (.ref b38), .val (.int av), .unset, .val (.int (1 : Int32)), .unset] [(.int (3 : Int32)), (.int (2 : Int32))])) ?_ (fun t_ k_ => XS.iconst X64.here hx rfl (hb hby at_270) k_)
      refine Goes.on (T' := T64) (g' := (mkF m 299 #[.val (.int ya0), .val (.int ya1), .val (.int ya2), .val (.int ya3), .val (.int ya4), .val (.int (2 : Int32)), .val (.int c0), .val (.int c1), .val (.int c2), .val (.int c3), .val (.ref b38), .val (.int av), .unset, .val (.int (1 : Int32)), .unset] [])) ?_ (fun t_ k_ => XS.icmpYes X64.here hx rfl (pc0 := 271) (pc' := 299) rfl (hb hby at_271) rfl (by decide) (by decide) (by decide) k_)
      refine Goes.on (T' := T64) (g' := (mkF m 300 #[.val (.int ya0), .val (.int ya1), .val (.int ya2), .val (.int ya3), .val (.int ya4), .val (.int (2 : Int32)), .val (.int c0), .val (.int c1), .val (.int c2), .val (.int c3), .val (.ref b38), .val (.int av), .unset, .val (.int (1 : Int32)), .unset] [(.int (0 : Int32))])) ?_ (fun t_ k_ => XS.iconst X64.here hx rfl (hb hby at_299) k_)
      refine Goes.on (T' := T64) (g' := (mkF m 302 #[.val (.int ya0), .val (.int ya1), .val (.int ya2), .val (.int ya3), .val (.int ya4), .val (.int (2 : Int32)), .val (.int c0), .val (.int c1), .val (.int c2), .val (.int c3), .val (.ref b38), .val (.int av), .unset, .val (.int (1 : Int32)), .val (.int (0 : Int32))] [])) ?_ (fun t_ k_ => XS.istore X64.here hx rfl (hb hby at_300) rfl (l' := #[.val (.int ya0), .val (.int ya1), .val (.int ya2), .val (.int ya3), .val (.int ya4), .val (.int (2 : Int32)), .val (.int c0), .val (.int c1), .val (.int c2), .val (.int c3), .val (.ref b38), .val (.int av), .unset, .val (.int (1 : Int32)), .val (.int (0 : Int32))]) rfl k_)
      refine Goes.on (T' := T64) (g' := (mkF m 304 #[.val (.int ya0), .val (.int ya1), .val (.int ya2), .val (.int ya3), .val (.int ya4), .val (.int (2 : Int32)), .val (.int c0), .val (.int c1), .val (.int c2), .val (.int c3), .val (.ref b38), .val (.int av), .unset, .val (.int (1 : Int32)), .val (.int (0 : Int32))] [(.int (1 : Int32))])) ?_ (fun t_ k_ => XS.iload X64.here hx rfl (hb hby at_302) rfl k_)
      refine Goes.on (T' := T64) (g' := (mkF m 316 #[.val (.int ya0), .val (.int ya1), .val (.int ya2), .val (.int ya3), .val (.int ya4), .val (.int (2 : Int32)), .val (.int c0), .val (.int c1), .val (.int c2), .val (.int c3), .val (.ref b38), .val (.int av), .unset, .val (.int (1 : Int32)), .val (.int (0 : Int32))] [])) ?_ (fun t_ k_ => XS.ifYes X64.here hx rfl (pc0 := 304) (pc' := 316) rfl (hb hby at_304) rfl (by decide) (by decide) (by decide) k_)
      refine Goes.on (T' := T64) (g' := (mkF m 317 #[.val (.int ya0), .val (.int ya1), .val (.int ya2), .val (.int ya3), .val (.int ya4), .val (.int (2 : Int32)), .val (.int c0), .val (.int c1), .val (.int c2), .val (.int c3), .val (.ref b38), .val (.int av), .unset, .val (.int (1 : Int32)), .val (.int (0 : Int32))] [(.int (0 : Int32))])) ?_ (fun t_ k_ => XS.iconst X64.here hx rfl (hb hby at_316) k_)
      refine Goes.on (T' := T64) (g' := (mkF m 319 #[.val (.int ya0), .val (.int ya1), .val (.int ya2), .val (.int ya3), .val (.int ya4), .val (.int (2 : Int32)), .val (.int c0), .val (.int c1), .val (.int c2), .val (.int c3), .val (.ref b38), .val (.int av), .val (.int (0 : Int32)), .val (.int (1 : Int32)), .val (.int (0 : Int32))] [])) ?_ (fun t_ k_ => XS.istore X64.here hx rfl (hb hby at_317) rfl (l' := #[.val (.int ya0), .val (.int ya1), .val (.int ya2), .val (.int ya3), .val (.int ya4), .val (.int (2 : Int32)), .val (.int c0), .val (.int c1), .val (.int c2), .val (.int c3), .val (.ref b38), .val (.int av), .val (.int (0 : Int32)), .val (.int (1 : Int32)), .val (.int (0 : Int32))]) rfl k_)
      refine Goes.on (T' := T64) (g' := (mkF m 321 #[.val (.int ya0), .val (.int ya1), .val (.int ya2), .val (.int ya3), .val (.int ya4), .val (.int (2 : Int32)), .val (.int c0), .val (.int c1), .val (.int c2), .val (.int c3), .val (.ref b38), .val (.int av), .val (.int (0 : Int32)), .val (.int (1 : Int32)), .val (.int (0 : Int32))] [(.int av)])) ?_ (fun t_ k_ => XS.iload X64.here hx rfl (hb hby at_319) rfl k_)
      refine Goes.on (T' := T64) (g' := (mkF m 323 #[.val (.int ya0), .val (.int ya1), .val (.int ya2), .val (.int ya3), .val (.int ya4), .val (.int (2 : Int32)), .val (.int c0), .val (.int c1), .val (.int c2), .val (.int c3), .val (.ref b38), .val (.int av), .val (.int (0 : Int32)), .val (.int (1 : Int32)), .val (.int (0 : Int32))] [(.int (0 : Int32)), (.int av)])) ?_ (fun t_ k_ => XS.iload X64.here hx rfl (hb hby at_321) rfl k_)
      refine Goes.on (T' := T64) (g' := (mkF m 326 #[.val (.int ya0), .val (.int ya1), .val (.int ya2), .val (.int ya3), .val (.int ya4), .val (.int (2 : Int32)), .val (.int c0), .val (.int c1), .val (.int c2), .val (.int c3), .val (.ref b38), .val (.int av), .val (.int (0 : Int32)), .val (.int (1 : Int32)), .val (.int (0 : Int32))] [])) ?_ (fun t_ k_ => XS.icmpNo X64.here hx rfl (hb hby at_323) rfl (teq (show av = (0 : Int32) from by rw [hav, own_ivn2]; simp only [eq_true hc219, if_true, if_false, ↓reduceIte, not_true_eq_false, not_false_eq_true, true_and, and_true, false_and, and_false, or_true, true_or, or_false, false_or, and_self, or_self])).2 k_)
      refine Goes.on (T' := T64) (g' := (mkF m 327 #[.val (.int ya0), .val (.int ya1), .val (.int ya2), .val (.int ya3), .val (.int ya4), .val (.int (2 : Int32)), .val (.int c0), .val (.int c1), .val (.int c2), .val (.int c3), .val (.ref b38), .val (.int av), .val (.int (0 : Int32)), .val (.int (1 : Int32)), .val (.int (0 : Int32))] [(.int (1 : Int32))])) ?_ (fun t_ k_ => XS.iconst X64.here hx rfl (hb hby at_326) k_)
      refine Goes.on (T' := T64) (g' := (mkF m 331 #[.val (.int ya0), .val (.int ya1), .val (.int ya2), .val (.int ya3), .val (.int ya4), .val (.int (2 : Int32)), .val (.int c0), .val (.int c1), .val (.int c2), .val (.int c3), .val (.ref b38), .val (.int av), .val (.int (0 : Int32)), .val (.int (1 : Int32)), .val (.int (0 : Int32))] [(.int (1 : Int32))])) ?_ (fun t_ k_ => XS.goto X64.here hx rfl (pc0 := 327) (pc' := 331) rfl (hb hby at_327) (by decide) (by decide) k_)
      rw [hWd]
      exact Goes.retnW X64 hS64 (Nat.le_refl _) (v := some (.int (nar .boolean (1 : Int32)))) (fun fs hr => retN X64 hx (t := .boolean) Bd.returns (by simp) (hb hby at_331) hr) (fun h => by rw [Bd.returns] at h; cases h) Bd.notSynchronized (by decide) (by decide) ⟨rfl, N64⟩
    · show Goes p e below W T64 (mkF m 222 #[.val (.int ya0), .val (.int ya1), .val (.int ya2), .val (.int ya3), .val (.int ya4), .val (.int (2 : Int32)), .val (.int c0), .val (.int c1), .val (.int c2), .val (.int c3), .val (.ref b38), .val (.int av), .unset, .unset, .unset] [])
      refine Goes.on (T' := T64) (g' := (mkF m 224 #[.val (.int ya0), .val (.int ya1), .val (.int ya2), .val (.int ya3), .val (.int ya4), .val (.int (2 : Int32)), .val (.int c0), .val (.int c1), .val (.int c2), .val (.int c3), .val (.ref b38), .val (.int av), .unset, .unset, .unset] [(.int (2 : Int32))])) ?_ (fun t_ k_ => XS.iload X64.here hx rfl (hb hby at_222) rfl k_)
      refine Goes.on (T' := T64) (g' := (mkF m 225 #[.val (.int ya0), .val (.int ya1), .val (.int ya2), .val (.int ya3), .val (.int ya4), .val (.int (2 : Int32)), .val (.int c0), .val (.int c1), .val (.int c2), .val (.int c3), .val (.ref b38), .val (.int av), .unset, .unset, .unset] [(.int (2 : Int32)), (.int (2 : Int32))])) ?_ (fun t_ k_ => XS.iconst X64.here hx rfl (hb hby at_224) k_)
      refine Goes.on (T' := T64) (g' := (mkF m 228 #[.val (.int ya0), .val (.int ya1), .val (.int ya2), .val (.int ya3), .val (.int ya4), .val (.int (2 : Int32)), .val (.int c0), .val (.int c1), .val (.int c2), .val (.int c3), .val (.ref b38), .val (.int av), .unset, .unset, .unset] [])) ?_ (fun t_ k_ => XS.icmpNo X64.here hx rfl (hb hby at_225) rfl (by decide) k_)
      refine Goes.on (T' := T64) (g' := (mkF m 230 #[.val (.int ya0), .val (.int ya1), .val (.int ya2), .val (.int ya3), .val (.int ya4), .val (.int (2 : Int32)), .val (.int c0), .val (.int c1), .val (.int c2), .val (.int c3), .val (.ref b38), .val (.int av), .unset, .unset, .unset] [(.int c1)])) ?_ (fun t_ k_ => XS.iload X64.here hx rfl (hb hby at_228) rfl k_)
      refine Goes.on (T' := T64) (g' := (mkF m 232 #[.val (.int ya0), .val (.int ya1), .val (.int ya2), .val (.int ya3), .val (.int ya4), .val (.int (2 : Int32)), .val (.int c0), .val (.int c1), .val (.int c2), .val (.int c3), .val (.ref b38), .val (.int av), .unset, .unset, .unset] [(.int (47 : Int32)), (.int c1)])) ?_ (fun t_ k_ => XS.bipush X64.here hx rfl (hb hby at_230) k_)
      refine Goes.icmpP X64 hx rfl (pc0 := 232) (pc' := 261) rfl (hb hby at_232) rfl (by decide) (by decide) (P := c1 = (47 : Int32)) (cmp_eq _ _) (fun hc232 => ?_) (fun hc232 => ?_)
      · show Goes p e below W T64 (mkF m 261 #[.val (.int ya0), .val (.int ya1), .val (.int ya2), .val (.int ya3), .val (.int ya4), .val (.int (2 : Int32)), .val (.int c0), .val (.int c1), .val (.int c2), .val (.int c3), .val (.ref b38), .val (.int av), .unset, .unset, .unset] [])
        refine Goes.on (T' := T64) (g' := (mkF m 262 #[.val (.int ya0), .val (.int ya1), .val (.int ya2), .val (.int ya3), .val (.int ya4), .val (.int (2 : Int32)), .val (.int c0), .val (.int c1), .val (.int c2), .val (.int c3), .val (.ref b38), .val (.int av), .unset, .unset, .unset] [(.int (1 : Int32))])) ?_ (fun t_ k_ => XS.iconst X64.here hx rfl (hb hby at_261) k_)
        refine Goes.on (T' := T64) (g' := (mkF m 266 #[.val (.int ya0), .val (.int ya1), .val (.int ya2), .val (.int ya3), .val (.int ya4), .val (.int (2 : Int32)), .val (.int c0), .val (.int c1), .val (.int c2), .val (.int c3), .val (.ref b38), .val (.int av), .unset, .unset, .unset] [(.int (1 : Int32))])) ?_ (fun t_ k_ => XS.goto X64.here hx rfl (pc0 := 262) (pc' := 266) rfl (hb hby at_262) (by decide) (by decide) k_)
        refine Goes.on (T' := T64) (g' := (mkF m 268 #[.val (.int ya0), .val (.int ya1), .val (.int ya2), .val (.int ya3), .val (.int ya4), .val (.int (2 : Int32)), .val (.int c0), .val (.int c1), .val (.int c2), .val (.int c3), .val (.ref b38), .val (.int av), .unset, .val (.int (1 : Int32)), .unset] [])) ?_ (fun t_ k_ => XS.istore X64.here hx rfl (hb hby at_266) rfl (l' := #[.val (.int ya0), .val (.int ya1), .val (.int ya2), .val (.int ya3), .val (.int ya4), .val (.int (2 : Int32)), .val (.int c0), .val (.int c1), .val (.int c2), .val (.int c3), .val (.ref b38), .val (.int av), .unset, .val (.int (1 : Int32)), .unset]) rfl k_)
        refine Goes.on (T' := T64) (g' := (mkF m 270 #[.val (.int ya0), .val (.int ya1), .val (.int ya2), .val (.int ya3), .val (.int ya4), .val (.int (2 : Int32)), .val (.int c0), .val (.int c1), .val (.int c2), .val (.int c3), .val (.ref b38), .val (.int av), .unset, .val (.int (1 : Int32)), .unset] [(.int (2 : Int32))])) ?_ (fun t_ k_ => XS.iload X64.here hx rfl (hb hby at_268) rfl k_)
        refine Goes.on (T' := T64) (g' := (mkF m 271 #[.val (.int ya0), .val (.int ya1), .val (.int ya2), .val (.int ya3), .val (.int ya4), .val (.int (2 : Int32)), .val (.int c0), .val (.int c1), .val (.int c2), .val (.int c3), .val (.ref b38), .val (.int av), .unset, .val (.int (1 : Int32)), .unset] [(.int (3 : Int32)), (.int (2 : Int32))])) ?_ (fun t_ k_ => XS.iconst X64.here hx rfl (hb hby at_270) k_)
        refine Goes.on (T' := T64) (g' := (mkF m 299 #[.val (.int ya0), .val (.int ya1), .val (.int ya2), .val (.int ya3), .val (.int ya4), .val (.int (2 : Int32)), .val (.int c0), .val (.int c1), .val (.int c2), .val (.int c3), .val (.ref b38), .val (.int av), .unset, .val (.int (1 : Int32)), .unset] [])) ?_ (fun t_ k_ => XS.icmpYes X64.here hx rfl (pc0 := 271) (pc' := 299) rfl (hb hby at_271) rfl (by decide) (by decide) (by decide) k_)
        refine Goes.on (T' := T64) (g' := (mkF m 300 #[.val (.int ya0), .val (.int ya1), .val (.int ya2), .val (.int ya3), .val (.int ya4), .val (.int (2 : Int32)), .val (.int c0), .val (.int c1), .val (.int c2), .val (.int c3), .val (.ref b38), .val (.int av), .unset, .val (.int (1 : Int32)), .unset] [(.int (0 : Int32))])) ?_ (fun t_ k_ => XS.iconst X64.here hx rfl (hb hby at_299) k_)
        refine Goes.on (T' := T64) (g' := (mkF m 302 #[.val (.int ya0), .val (.int ya1), .val (.int ya2), .val (.int ya3), .val (.int ya4), .val (.int (2 : Int32)), .val (.int c0), .val (.int c1), .val (.int c2), .val (.int c3), .val (.ref b38), .val (.int av), .unset, .val (.int (1 : Int32)), .val (.int (0 : Int32))] [])) ?_ (fun t_ k_ => XS.istore X64.here hx rfl (hb hby at_300) rfl (l' := #[.val (.int ya0), .val (.int ya1), .val (.int ya2), .val (.int ya3), .val (.int ya4), .val (.int (2 : Int32)), .val (.int c0), .val (.int c1), .val (.int c2), .val (.int c3), .val (.ref b38), .val (.int av), .unset, .val (.int (1 : Int32)), .val (.int (0 : Int32))]) rfl k_)
        refine Goes.on (T' := T64) (g' := (mkF m 304 #[.val (.int ya0), .val (.int ya1), .val (.int ya2), .val (.int ya3), .val (.int ya4), .val (.int (2 : Int32)), .val (.int c0), .val (.int c1), .val (.int c2), .val (.int c3), .val (.ref b38), .val (.int av), .unset, .val (.int (1 : Int32)), .val (.int (0 : Int32))] [(.int (1 : Int32))])) ?_ (fun t_ k_ => XS.iload X64.here hx rfl (hb hby at_302) rfl k_)
        refine Goes.on (T' := T64) (g' := (mkF m 316 #[.val (.int ya0), .val (.int ya1), .val (.int ya2), .val (.int ya3), .val (.int ya4), .val (.int (2 : Int32)), .val (.int c0), .val (.int c1), .val (.int c2), .val (.int c3), .val (.ref b38), .val (.int av), .unset, .val (.int (1 : Int32)), .val (.int (0 : Int32))] [])) ?_ (fun t_ k_ => XS.ifYes X64.here hx rfl (pc0 := 304) (pc' := 316) rfl (hb hby at_304) rfl (by decide) (by decide) (by decide) k_)
        refine Goes.on (T' := T64) (g' := (mkF m 317 #[.val (.int ya0), .val (.int ya1), .val (.int ya2), .val (.int ya3), .val (.int ya4), .val (.int (2 : Int32)), .val (.int c0), .val (.int c1), .val (.int c2), .val (.int c3), .val (.ref b38), .val (.int av), .unset, .val (.int (1 : Int32)), .val (.int (0 : Int32))] [(.int (0 : Int32))])) ?_ (fun t_ k_ => XS.iconst X64.here hx rfl (hb hby at_316) k_)
        refine Goes.on (T' := T64) (g' := (mkF m 319 #[.val (.int ya0), .val (.int ya1), .val (.int ya2), .val (.int ya3), .val (.int ya4), .val (.int (2 : Int32)), .val (.int c0), .val (.int c1), .val (.int c2), .val (.int c3), .val (.ref b38), .val (.int av), .val (.int (0 : Int32)), .val (.int (1 : Int32)), .val (.int (0 : Int32))] [])) ?_ (fun t_ k_ => XS.istore X64.here hx rfl (hb hby at_317) rfl (l' := #[.val (.int ya0), .val (.int ya1), .val (.int ya2), .val (.int ya3), .val (.int ya4), .val (.int (2 : Int32)), .val (.int c0), .val (.int c1), .val (.int c2), .val (.int c3), .val (.ref b38), .val (.int av), .val (.int (0 : Int32)), .val (.int (1 : Int32)), .val (.int (0 : Int32))]) rfl k_)
        refine Goes.on (T' := T64) (g' := (mkF m 321 #[.val (.int ya0), .val (.int ya1), .val (.int ya2), .val (.int ya3), .val (.int ya4), .val (.int (2 : Int32)), .val (.int c0), .val (.int c1), .val (.int c2), .val (.int c3), .val (.ref b38), .val (.int av), .val (.int (0 : Int32)), .val (.int (1 : Int32)), .val (.int (0 : Int32))] [(.int av)])) ?_ (fun t_ k_ => XS.iload X64.here hx rfl (hb hby at_319) rfl k_)
        refine Goes.on (T' := T64) (g' := (mkF m 323 #[.val (.int ya0), .val (.int ya1), .val (.int ya2), .val (.int ya3), .val (.int ya4), .val (.int (2 : Int32)), .val (.int c0), .val (.int c1), .val (.int c2), .val (.int c3), .val (.ref b38), .val (.int av), .val (.int (0 : Int32)), .val (.int (1 : Int32)), .val (.int (0 : Int32))] [(.int (0 : Int32)), (.int av)])) ?_ (fun t_ k_ => XS.iload X64.here hx rfl (hb hby at_321) rfl k_)
        refine Goes.on (T' := T64) (g' := (mkF m 326 #[.val (.int ya0), .val (.int ya1), .val (.int ya2), .val (.int ya3), .val (.int ya4), .val (.int (2 : Int32)), .val (.int c0), .val (.int c1), .val (.int c2), .val (.int c3), .val (.ref b38), .val (.int av), .val (.int (0 : Int32)), .val (.int (1 : Int32)), .val (.int (0 : Int32))] [])) ?_ (fun t_ k_ => XS.icmpNo X64.here hx rfl (hb hby at_323) rfl (teq (show av = (0 : Int32) from by rw [hav, own_ivn2]; simp only [eq_false hc219, eq_true hc232, if_true, if_false, ↓reduceIte, not_true_eq_false, not_false_eq_true, true_and, and_true, false_and, and_false, or_true, true_or, or_false, false_or, and_self, or_self])).2 k_)
        refine Goes.on (T' := T64) (g' := (mkF m 327 #[.val (.int ya0), .val (.int ya1), .val (.int ya2), .val (.int ya3), .val (.int ya4), .val (.int (2 : Int32)), .val (.int c0), .val (.int c1), .val (.int c2), .val (.int c3), .val (.ref b38), .val (.int av), .val (.int (0 : Int32)), .val (.int (1 : Int32)), .val (.int (0 : Int32))] [(.int (1 : Int32))])) ?_ (fun t_ k_ => XS.iconst X64.here hx rfl (hb hby at_326) k_)
        refine Goes.on (T' := T64) (g' := (mkF m 331 #[.val (.int ya0), .val (.int ya1), .val (.int ya2), .val (.int ya3), .val (.int ya4), .val (.int (2 : Int32)), .val (.int c0), .val (.int c1), .val (.int c2), .val (.int c3), .val (.ref b38), .val (.int av), .val (.int (0 : Int32)), .val (.int (1 : Int32)), .val (.int (0 : Int32))] [(.int (1 : Int32))])) ?_ (fun t_ k_ => XS.goto X64.here hx rfl (pc0 := 327) (pc' := 331) rfl (hb hby at_327) (by decide) (by decide) k_)
        rw [hWd]
        exact Goes.retnW X64 hS64 (Nat.le_refl _) (v := some (.int (nar .boolean (1 : Int32)))) (fun fs hr => retN X64 hx (t := .boolean) Bd.returns (by simp) (hb hby at_331) hr) (fun h => by rw [Bd.returns] at h; cases h) Bd.notSynchronized (by decide) (by decide) ⟨rfl, N64⟩
      · show Goes p e below W T64 (mkF m 235 #[.val (.int ya0), .val (.int ya1), .val (.int ya2), .val (.int ya3), .val (.int ya4), .val (.int (2 : Int32)), .val (.int c0), .val (.int c1), .val (.int c2), .val (.int c3), .val (.ref b38), .val (.int av), .unset, .unset, .unset] [])
        refine Goes.on (T' := T64) (g' := (mkF m 237 #[.val (.int ya0), .val (.int ya1), .val (.int ya2), .val (.int ya3), .val (.int ya4), .val (.int (2 : Int32)), .val (.int c0), .val (.int c1), .val (.int c2), .val (.int c3), .val (.ref b38), .val (.int av), .unset, .unset, .unset] [(.int (2 : Int32))])) ?_ (fun t_ k_ => XS.iload X64.here hx rfl (hb hby at_235) rfl k_)
        refine Goes.on (T' := T64) (g' := (mkF m 238 #[.val (.int ya0), .val (.int ya1), .val (.int ya2), .val (.int ya3), .val (.int ya4), .val (.int (2 : Int32)), .val (.int c0), .val (.int c1), .val (.int c2), .val (.int c3), .val (.ref b38), .val (.int av), .unset, .unset, .unset] [(.int (3 : Int32)), (.int (2 : Int32))])) ?_ (fun t_ k_ => XS.iconst X64.here hx rfl (hb hby at_237) k_)
        refine Goes.on (T' := T64) (g' := (mkF m 248 #[.val (.int ya0), .val (.int ya1), .val (.int ya2), .val (.int ya3), .val (.int ya4), .val (.int (2 : Int32)), .val (.int c0), .val (.int c1), .val (.int c2), .val (.int c3), .val (.ref b38), .val (.int av), .unset, .unset, .unset] [])) ?_ (fun t_ k_ => XS.icmpYes X64.here hx rfl (pc0 := 238) (pc' := 248) rfl (hb hby at_238) rfl (by decide) (by decide) (by decide) k_)
        refine Goes.on (T' := T64) (g' := (mkF m 250 #[.val (.int ya0), .val (.int ya1), .val (.int ya2), .val (.int ya3), .val (.int ya4), .val (.int (2 : Int32)), .val (.int c0), .val (.int c1), .val (.int c2), .val (.int c3), .val (.ref b38), .val (.int av), .unset, .unset, .unset] [(.int (2 : Int32))])) ?_ (fun t_ k_ => XS.iload X64.here hx rfl (hb hby at_248) rfl k_)
        refine Goes.on (T' := T64) (g' := (mkF m 251 #[.val (.int ya0), .val (.int ya1), .val (.int ya2), .val (.int ya3), .val (.int ya4), .val (.int (2 : Int32)), .val (.int c0), .val (.int c1), .val (.int c2), .val (.int c3), .val (.ref b38), .val (.int av), .unset, .unset, .unset] [(.int (4 : Int32)), (.int (2 : Int32))])) ?_ (fun t_ k_ => XS.iconst X64.here hx rfl (hb hby at_250) k_)
        refine Goes.on (T' := T64) (g' := (mkF m 265 #[.val (.int ya0), .val (.int ya1), .val (.int ya2), .val (.int ya3), .val (.int ya4), .val (.int (2 : Int32)), .val (.int c0), .val (.int c1), .val (.int c2), .val (.int c3), .val (.ref b38), .val (.int av), .unset, .unset, .unset] [])) ?_ (fun t_ k_ => XS.icmpYes X64.here hx rfl (pc0 := 251) (pc' := 265) rfl (hb hby at_251) rfl (by decide) (by decide) (by decide) k_)
        refine Goes.on (T' := T64) (g' := (mkF m 266 #[.val (.int ya0), .val (.int ya1), .val (.int ya2), .val (.int ya3), .val (.int ya4), .val (.int (2 : Int32)), .val (.int c0), .val (.int c1), .val (.int c2), .val (.int c3), .val (.ref b38), .val (.int av), .unset, .unset, .unset] [(.int (0 : Int32))])) ?_ (fun t_ k_ => XS.iconst X64.here hx rfl (hb hby at_265) k_)
        refine Goes.on (T' := T64) (g' := (mkF m 268 #[.val (.int ya0), .val (.int ya1), .val (.int ya2), .val (.int ya3), .val (.int ya4), .val (.int (2 : Int32)), .val (.int c0), .val (.int c1), .val (.int c2), .val (.int c3), .val (.ref b38), .val (.int av), .unset, .val (.int (0 : Int32)), .unset] [])) ?_ (fun t_ k_ => XS.istore X64.here hx rfl (hb hby at_266) rfl (l' := #[.val (.int ya0), .val (.int ya1), .val (.int ya2), .val (.int ya3), .val (.int ya4), .val (.int (2 : Int32)), .val (.int c0), .val (.int c1), .val (.int c2), .val (.int c3), .val (.ref b38), .val (.int av), .unset, .val (.int (0 : Int32)), .unset]) rfl k_)
        refine Goes.on (T' := T64) (g' := (mkF m 270 #[.val (.int ya0), .val (.int ya1), .val (.int ya2), .val (.int ya3), .val (.int ya4), .val (.int (2 : Int32)), .val (.int c0), .val (.int c1), .val (.int c2), .val (.int c3), .val (.ref b38), .val (.int av), .unset, .val (.int (0 : Int32)), .unset] [(.int (2 : Int32))])) ?_ (fun t_ k_ => XS.iload X64.here hx rfl (hb hby at_268) rfl k_)
        refine Goes.on (T' := T64) (g' := (mkF m 271 #[.val (.int ya0), .val (.int ya1), .val (.int ya2), .val (.int ya3), .val (.int ya4), .val (.int (2 : Int32)), .val (.int c0), .val (.int c1), .val (.int c2), .val (.int c3), .val (.ref b38), .val (.int av), .unset, .val (.int (0 : Int32)), .unset] [(.int (3 : Int32)), (.int (2 : Int32))])) ?_ (fun t_ k_ => XS.iconst X64.here hx rfl (hb hby at_270) k_)
        refine Goes.on (T' := T64) (g' := (mkF m 299 #[.val (.int ya0), .val (.int ya1), .val (.int ya2), .val (.int ya3), .val (.int ya4), .val (.int (2 : Int32)), .val (.int c0), .val (.int c1), .val (.int c2), .val (.int c3), .val (.ref b38), .val (.int av), .unset, .val (.int (0 : Int32)), .unset] [])) ?_ (fun t_ k_ => XS.icmpYes X64.here hx rfl (pc0 := 271) (pc' := 299) rfl (hb hby at_271) rfl (by decide) (by decide) (by decide) k_)
        refine Goes.on (T' := T64) (g' := (mkF m 300 #[.val (.int ya0), .val (.int ya1), .val (.int ya2), .val (.int ya3), .val (.int ya4), .val (.int (2 : Int32)), .val (.int c0), .val (.int c1), .val (.int c2), .val (.int c3), .val (.ref b38), .val (.int av), .unset, .val (.int (0 : Int32)), .unset] [(.int (0 : Int32))])) ?_ (fun t_ k_ => XS.iconst X64.here hx rfl (hb hby at_299) k_)
        refine Goes.on (T' := T64) (g' := (mkF m 302 #[.val (.int ya0), .val (.int ya1), .val (.int ya2), .val (.int ya3), .val (.int ya4), .val (.int (2 : Int32)), .val (.int c0), .val (.int c1), .val (.int c2), .val (.int c3), .val (.ref b38), .val (.int av), .unset, .val (.int (0 : Int32)), .val (.int (0 : Int32))] [])) ?_ (fun t_ k_ => XS.istore X64.here hx rfl (hb hby at_300) rfl (l' := #[.val (.int ya0), .val (.int ya1), .val (.int ya2), .val (.int ya3), .val (.int ya4), .val (.int (2 : Int32)), .val (.int c0), .val (.int c1), .val (.int c2), .val (.int c3), .val (.ref b38), .val (.int av), .unset, .val (.int (0 : Int32)), .val (.int (0 : Int32))]) rfl k_)
        refine Goes.on (T' := T64) (g' := (mkF m 304 #[.val (.int ya0), .val (.int ya1), .val (.int ya2), .val (.int ya3), .val (.int ya4), .val (.int (2 : Int32)), .val (.int c0), .val (.int c1), .val (.int c2), .val (.int c3), .val (.ref b38), .val (.int av), .unset, .val (.int (0 : Int32)), .val (.int (0 : Int32))] [(.int (0 : Int32))])) ?_ (fun t_ k_ => XS.iload X64.here hx rfl (hb hby at_302) rfl k_)
        refine Goes.on (T' := T64) (g' := (mkF m 307 #[.val (.int ya0), .val (.int ya1), .val (.int ya2), .val (.int ya3), .val (.int ya4), .val (.int (2 : Int32)), .val (.int c0), .val (.int c1), .val (.int c2), .val (.int c3), .val (.ref b38), .val (.int av), .unset, .val (.int (0 : Int32)), .val (.int (0 : Int32))] [])) ?_ (fun t_ k_ => XS.ifNo X64.here hx rfl (hb hby at_304) rfl (by decide) k_)
        refine Goes.on (T' := T64) (g' := (mkF m 309 #[.val (.int ya0), .val (.int ya1), .val (.int ya2), .val (.int ya3), .val (.int ya4), .val (.int (2 : Int32)), .val (.int c0), .val (.int c1), .val (.int c2), .val (.int c3), .val (.ref b38), .val (.int av), .unset, .val (.int (0 : Int32)), .val (.int (0 : Int32))] [(.int (0 : Int32))])) ?_ (fun t_ k_ => XS.iload X64.here hx rfl (hb hby at_307) rfl k_)
        refine Goes.on (T' := T64) (g' := (mkF m 312 #[.val (.int ya0), .val (.int ya1), .val (.int ya2), .val (.int ya3), .val (.int ya4), .val (.int (2 : Int32)), .val (.int c0), .val (.int c1), .val (.int c2), .val (.int c3), .val (.ref b38), .val (.int av), .unset, .val (.int (0 : Int32)), .val (.int (0 : Int32))] [])) ?_ (fun t_ k_ => XS.ifNo X64.here hx rfl (hb hby at_309) rfl (by decide) k_)
        refine Goes.on (T' := T64) (g' := (mkF m 313 #[.val (.int ya0), .val (.int ya1), .val (.int ya2), .val (.int ya3), .val (.int ya4), .val (.int (2 : Int32)), .val (.int c0), .val (.int c1), .val (.int c2), .val (.int c3), .val (.ref b38), .val (.int av), .unset, .val (.int (0 : Int32)), .val (.int (0 : Int32))] [(.int (1 : Int32))])) ?_ (fun t_ k_ => XS.iconst X64.here hx rfl (hb hby at_312) k_)
        refine Goes.on (T' := T64) (g' := (mkF m 317 #[.val (.int ya0), .val (.int ya1), .val (.int ya2), .val (.int ya3), .val (.int ya4), .val (.int (2 : Int32)), .val (.int c0), .val (.int c1), .val (.int c2), .val (.int c3), .val (.ref b38), .val (.int av), .unset, .val (.int (0 : Int32)), .val (.int (0 : Int32))] [(.int (1 : Int32))])) ?_ (fun t_ k_ => XS.goto X64.here hx rfl (pc0 := 313) (pc' := 317) rfl (hb hby at_313) (by decide) (by decide) k_)
        refine Goes.on (T' := T64) (g' := (mkF m 319 #[.val (.int ya0), .val (.int ya1), .val (.int ya2), .val (.int ya3), .val (.int ya4), .val (.int (2 : Int32)), .val (.int c0), .val (.int c1), .val (.int c2), .val (.int c3), .val (.ref b38), .val (.int av), .val (.int (1 : Int32)), .val (.int (0 : Int32)), .val (.int (0 : Int32))] [])) ?_ (fun t_ k_ => XS.istore X64.here hx rfl (hb hby at_317) rfl (l' := #[.val (.int ya0), .val (.int ya1), .val (.int ya2), .val (.int ya3), .val (.int ya4), .val (.int (2 : Int32)), .val (.int c0), .val (.int c1), .val (.int c2), .val (.int c3), .val (.ref b38), .val (.int av), .val (.int (1 : Int32)), .val (.int (0 : Int32)), .val (.int (0 : Int32))]) rfl k_)
        refine Goes.on (T' := T64) (g' := (mkF m 321 #[.val (.int ya0), .val (.int ya1), .val (.int ya2), .val (.int ya3), .val (.int ya4), .val (.int (2 : Int32)), .val (.int c0), .val (.int c1), .val (.int c2), .val (.int c3), .val (.ref b38), .val (.int av), .val (.int (1 : Int32)), .val (.int (0 : Int32)), .val (.int (0 : Int32))] [(.int av)])) ?_ (fun t_ k_ => XS.iload X64.here hx rfl (hb hby at_319) rfl k_)
        refine Goes.on (T' := T64) (g' := (mkF m 323 #[.val (.int ya0), .val (.int ya1), .val (.int ya2), .val (.int ya3), .val (.int ya4), .val (.int (2 : Int32)), .val (.int c0), .val (.int c1), .val (.int c2), .val (.int c3), .val (.ref b38), .val (.int av), .val (.int (1 : Int32)), .val (.int (0 : Int32)), .val (.int (0 : Int32))] [(.int (1 : Int32)), (.int av)])) ?_ (fun t_ k_ => XS.iload X64.here hx rfl (hb hby at_321) rfl k_)
        refine Goes.on (T' := T64) (g' := (mkF m 326 #[.val (.int ya0), .val (.int ya1), .val (.int ya2), .val (.int ya3), .val (.int ya4), .val (.int (2 : Int32)), .val (.int c0), .val (.int c1), .val (.int c2), .val (.int c3), .val (.ref b38), .val (.int av), .val (.int (1 : Int32)), .val (.int (0 : Int32)), .val (.int (0 : Int32))] [])) ?_ (fun t_ k_ => XS.icmpNo X64.here hx rfl (hb hby at_323) rfl (teq (show av = (1 : Int32) from by rw [hav, own_ivn2]; simp only [eq_false hc219, eq_false hc232, if_true, if_false, ↓reduceIte, not_true_eq_false, not_false_eq_true, true_and, and_true, false_and, and_false, or_true, true_or, or_false, false_or, and_self, or_self])).2 k_)
        refine Goes.on (T' := T64) (g' := (mkF m 327 #[.val (.int ya0), .val (.int ya1), .val (.int ya2), .val (.int ya3), .val (.int ya4), .val (.int (2 : Int32)), .val (.int c0), .val (.int c1), .val (.int c2), .val (.int c3), .val (.ref b38), .val (.int av), .val (.int (1 : Int32)), .val (.int (0 : Int32)), .val (.int (0 : Int32))] [(.int (1 : Int32))])) ?_ (fun t_ k_ => XS.iconst X64.here hx rfl (hb hby at_326) k_)
        refine Goes.on (T' := T64) (g' := (mkF m 331 #[.val (.int ya0), .val (.int ya1), .val (.int ya2), .val (.int ya3), .val (.int ya4), .val (.int (2 : Int32)), .val (.int c0), .val (.int c1), .val (.int c2), .val (.int c3), .val (.ref b38), .val (.int av), .val (.int (1 : Int32)), .val (.int (0 : Int32)), .val (.int (0 : Int32))] [(.int (1 : Int32))])) ?_ (fun t_ k_ => XS.goto X64.here hx rfl (pc0 := 327) (pc' := 331) rfl (hb hby at_327) (by decide) (by decide) k_)
        rw [hWd]
        exact Goes.retnW X64 hS64 (Nat.le_refl _) (v := some (.int (nar .boolean (1 : Int32)))) (fun fs hr => retN X64 hx (t := .boolean) Bd.returns (by simp) (hb hby at_331) hr) (fun h => by rw [Bd.returns] at h; cases h) Bd.notSynchronized (by decide) (by decide) ⟨rfl, N64⟩
  · show Goes p e below W T4 (mkF m 34 #[.val (.int ya0), .val (.int ya1), .val (.int ya2), .val (.int ya3), .val (.int ya4), .val (.int (3 : Int32)), .val (.int c0), .val (.int c1), .val (.int c2), .val (.int c3), .unset, .unset, .unset, .unset, .unset] [])
    refine Goes.on (T' := T4) (g' := (mkF m 36 #[.val (.int ya0), .val (.int ya1), .val (.int ya2), .val (.int ya3), .val (.int ya4), .val (.int (3 : Int32)), .val (.int c0), .val (.int c1), .val (.int c2), .val (.int c3), .unset, .unset, .unset, .unset, .unset] [(.int (3 : Int32))])) ?_ (fun t_ k_ => XS.iload X4.here hx rfl (hb hby at_34) rfl k_)
    refine Goes.on (T' := T4) (g' := (mkF m 37 #[.val (.int ya0), .val (.int ya1), .val (.int ya2), .val (.int ya3), .val (.int ya4), .val (.int (3 : Int32)), .val (.int c0), .val (.int c1), .val (.int c2), .val (.int c3), .unset, .unset, .unset, .unset, .unset] [(.int (5 : Int32)), (.int (3 : Int32))])) ?_ (fun t_ k_ => XS.iconst X4.here hx rfl (hb hby at_36) k_)
    refine Goes.on (T' := T4) (g' := (mkF m 46 #[.val (.int ya0), .val (.int ya1), .val (.int ya2), .val (.int ya3), .val (.int ya4), .val (.int (3 : Int32)), .val (.int c0), .val (.int c1), .val (.int c2), .val (.int c3), .unset, .unset, .unset, .unset, .unset] [])) ?_ (fun t_ k_ => XS.icmpYes X4.here hx rfl (pc0 := 37) (pc' := 46) rfl (hb hby at_37) rfl (by decide) (by decide) (by decide) k_)
    refine Goes.on (T' := T4) (g' := (mkF m 48 #[.val (.int ya0), .val (.int ya1), .val (.int ya2), .val (.int ya3), .val (.int ya4), .val (.int (3 : Int32)), .val (.int c0), .val (.int c1), .val (.int c2), .val (.int c3), .unset, .unset, .unset, .unset, .unset] [(.int (3 : Int32))])) ?_ (fun t_ k_ => XS.iload X4.here hx rfl (hb hby at_46) rfl k_)
    refine Goes.on (T' := T4) (g' := (mkF m 66 #[.val (.int ya0), .val (.int ya1), .val (.int ya2), .val (.int ya3), .val (.int ya4), .val (.int (3 : Int32)), .val (.int c0), .val (.int c1), .val (.int c2), .val (.int c3), .unset, .unset, .unset, .unset, .unset] [])) ?_ (fun t_ k_ => XS.ifYes X4.here hx rfl (pc0 := 48) (pc' := 66) rfl (hb hby at_48) rfl (by decide) (by decide) (by decide) k_)
    refine Goes.on (T' := T4) (g' := (mkF m 68 #[.val (.int ya0), .val (.int ya1), .val (.int ya2), .val (.int ya3), .val (.int ya4), .val (.int (3 : Int32)), .val (.int c0), .val (.int c1), .val (.int c2), .val (.int c3), .unset, .unset, .unset, .unset, .unset] [(.int (3 : Int32))])) ?_ (fun t_ k_ => XS.iload X4.here hx rfl (hb hby at_66) rfl k_)
    refine Goes.on (T' := T4) (g' := (mkF m 69 #[.val (.int ya0), .val (.int ya1), .val (.int ya2), .val (.int ya3), .val (.int ya4), .val (.int (3 : Int32)), .val (.int c0), .val (.int c1), .val (.int c2), .val (.int c3), .unset, .unset, .unset, .unset, .unset] [(.int (1 : Int32)), (.int (3 : Int32))])) ?_ (fun t_ k_ => XS.iconst X4.here hx rfl (hb hby at_68) k_)
    refine Goes.on (T' := T4) (g' := (mkF m 92 #[.val (.int ya0), .val (.int ya1), .val (.int ya2), .val (.int ya3), .val (.int ya4), .val (.int (3 : Int32)), .val (.int c0), .val (.int c1), .val (.int c2), .val (.int c3), .unset, .unset, .unset, .unset, .unset] [])) ?_ (fun t_ k_ => XS.icmpYes X4.here hx rfl (pc0 := 69) (pc' := 92) rfl (hb hby at_69) rfl (by decide) (by decide) (by decide) k_)
    refine Goes.on (T' := T4) (g' := (mkF m 94 #[.val (.int ya0), .val (.int ya1), .val (.int ya2), .val (.int ya3), .val (.int ya4), .val (.int (3 : Int32)), .val (.int c0), .val (.int c1), .val (.int c2), .val (.int c3), .unset, .unset, .unset, .unset, .unset] [(.int (3 : Int32))])) ?_ (fun t_ k_ => XS.iload X4.here hx rfl (hb hby at_92) rfl k_)
    refine Goes.on (T' := T4) (g' := (mkF m 95 #[.val (.int ya0), .val (.int ya1), .val (.int ya2), .val (.int ya3), .val (.int ya4), .val (.int (3 : Int32)), .val (.int c0), .val (.int c1), .val (.int c2), .val (.int c3), .unset, .unset, .unset, .unset, .unset] [(.int (2 : Int32)), (.int (3 : Int32))])) ?_ (fun t_ k_ => XS.iconst X4.here hx rfl (hb hby at_94) k_)
    refine Goes.on (T' := T4) (g' := (mkF m 123 #[.val (.int ya0), .val (.int ya1), .val (.int ya2), .val (.int ya3), .val (.int ya4), .val (.int (3 : Int32)), .val (.int c0), .val (.int c1), .val (.int c2), .val (.int c3), .unset, .unset, .unset, .unset, .unset] [])) ?_ (fun t_ k_ => XS.icmpYes X4.here hx rfl (pc0 := 95) (pc' := 123) rfl (hb hby at_95) rfl (by decide) (by decide) (by decide) k_)
    refine Goes.on (T' := T4) (g' := (mkF m 125 #[.val (.int ya0), .val (.int ya1), .val (.int ya2), .val (.int ya3), .val (.int ya4), .val (.int (3 : Int32)), .val (.int c0), .val (.int c1), .val (.int c2), .val (.int c3), .unset, .unset, .unset, .unset, .unset] [(.int (3 : Int32))])) ?_ (fun t_ k_ => XS.iload X4.here hx rfl (hb hby at_123) rfl k_)
    refine Goes.on (T' := T4) (g' := (mkF m 126 #[.val (.int ya0), .val (.int ya1), .val (.int ya2), .val (.int ya3), .val (.int ya4), .val (.int (3 : Int32)), .val (.int c0), .val (.int c1), .val (.int c2), .val (.int c3), .unset, .unset, .unset, .unset, .unset] [(.int (3 : Int32)), (.int (3 : Int32))])) ?_ (fun t_ k_ => XS.iconst X4.here hx rfl (hb hby at_125) k_)
    refine Goes.on (T' := T4) (g' := (mkF m 129 #[.val (.int ya0), .val (.int ya1), .val (.int ya2), .val (.int ya3), .val (.int ya4), .val (.int (3 : Int32)), .val (.int c0), .val (.int c1), .val (.int c2), .val (.int c3), .unset, .unset, .unset, .unset, .unset] [])) ?_ (fun t_ k_ => XS.icmpNo X4.here hx rfl (hb hby at_126) rfl (by decide) k_)
    obtain ⟨T66, h66, X66, e66, E66, A66, D66, -, st66⟩ := newO X4 hx hZ hown (hw _ (List.mem_of_getElem? (i := 5) rfl)) (hw _ (List.mem_of_getElem? (i := 6) rfl)) (hw _ (List.mem_of_getElem? (i := 7) rfl)) eh4 (g := (mkF m 129 #[.val (.int ya0), .val (.int ya1), .val (.int ya2), .val (.int ya3), .val (.int ya4), .val (.int (3 : Int32)), .val (.int c0), .val (.int c1), .val (.int c2), .val (.int c3), .unset, .unset, .unset, .unset, .unset] [])) rfl (hb hby at_129) (by decide) (by decide)
    obtain ⟨b66, gb66⟩ : ∃ z, z = h0.size := ⟨_, rfl⟩
    rw [← gb66] at A66 D66 st66
    have Z66 : n0 ≤ h66.size := Nat.le_trans Z0 E66.1
    have g_b66 : n0 ≤ b66 := Nat.le_trans Z0 (Nat.le_of_eq gb66.symm)
    refine Goes.on (T' := T66) (g' := (mkF m 132 #[.val (.int ya0), .val (.int ya1), .val (.int ya2), .val (.int ya3), .val (.int ya4), .val (.int (3 : Int32)), .val (.int c0), .val (.int c1), .val (.int c2), .val (.int c3), .unset, .unset, .unset, .unset, .unset] [(.ref b66)])) ?_ st66
    have F66_value : Fld Z h66 b66 "java/lang/String" "value" "[B" .null := D66 (Or.inr (hw _ (List.mem_of_getElem? (i := 21) rfl))) (ty := (.array .byte)) (by decide)
    have F66_coder : Fld Z h66 b66 "java/lang/String" "coder" "B" (.int (0 : Int32)) := D66 (Or.inr (hw _ (List.mem_of_getElem? (i := 22) rfl))) (ty := .byte) (by decide)
    have Sf66 : Safe Z consts_1 s.vm h0 b66 := Safe.new (Nat.le_of_eq gb66.symm)
    have Sf67_b66 := Sf66.ext E66 C0.1
    have C68 := C0.trans (CHr.ext E66 C0.1)
    refine Goes.on (T' := T66) (g' := (mkF m 133 #[.val (.int ya0), .val (.int ya1), .val (.int ya2), .val (.int ya3), .val (.int ya4), .val (.int (3 : Int32)), .val (.int c0), .val (.int c1), .val (.int c2), .val (.int c3), .unset, .unset, .unset, .unset, .unset] [(.ref b66), (.ref b66)])) ?_ (fun t_ k_ => XS.dup X66.here hx rfl (hb hby at_132) rfl rfl k_)
    refine Goes.on (T' := T66) (g' := (mkF m 134 #[.val (.int ya0), .val (.int ya1), .val (.int ya2), .val (.int ya3), .val (.int ya4), .val (.int (3 : Int32)), .val (.int c0), .val (.int c1), .val (.int c2), .val (.int c3), .unset, .unset, .unset, .unset, .unset] [(.int (3 : Int32)), (.ref b66), (.ref b66)])) ?_ (fun t_ k_ => XS.iconst X66.here hx rfl (hb hby at_133) k_)
    obtain ⟨T69, h69, k69, X69, e69, E69, A69, st69⟩ := newP X66 hx hZ (hw _ (List.mem_of_getElem? (i := 8) rfl)) e66 (g := (mkF m 134 #[.val (.int ya0), .val (.int ya1), .val (.int ya2), .val (.int ya3), .val (.int ya4), .val (.int (3 : Int32)), .val (.int c0), .val (.int c1), .val (.int c2), .val (.int c3), .unset, .unset, .unset, .unset, .unset] [(.int (3 : Int32)), (.ref b66), (.ref b66)])) rfl (hb hby at_134) rfl (by decide) (cap := 3) (by decide) (by decide) (by decide) (by decide)
    obtain ⟨b69, gb69⟩ : ∃ z, z = h66.size := ⟨_, rfl⟩
    rw [← gb69] at A69 st69
    have V69 := Arv.new A69 (by decide)
    have Z69 : n0 ≤ h69.size := Nat.le_trans Z66 E69.1
    have g_b69 : n0 ≤ b69 := Nat.le_trans Z66 (Nat.le_of_eq gb69.symm)
    refine Goes.on (T' := T69) (g' := (mkF m 136 #[.val (.int ya0), .val (.int ya1), .val (.int ya2), .val (.int ya3), .val (.int ya4), .val (.int (3 : Int32)), .val (.int c0), .val (.int c1), .val (.int c2), .val (.int c3), .unset, .unset, .unset, .unset, .unset] [(.ref b69), (.ref b66), (.ref b66)])) ?_ st69
    have fx70 := F66_value.ext E69
    have fx71 := F66_coder.ext E69
    have fx72 := A66.ext E69
    have Sf73_b66 := Sf67_b66.ext E69 C68.1
    have C74 := C68.trans (CHr.ext E69 C68.1)
    have nex69 : b69 ≠ b66 := Ne.symm (Nat.ne_of_lt (Nat.lt_of_lt_of_le A66.lt (Nat.le_of_eq gb69.symm)))
    have VV69 : Arv Z h69 b69 k69 .char (3 : Int32) [.int 0, .int 0, .int 0] (.int 0) := V69.pad (pad_rep [] (.int 0) 3)
    refine Goes.on (T' := T69) (g' := (mkF m 137 #[.val (.int ya0), .val (.int ya1), .val (.int ya2), .val (.int ya3), .val (.int ya4), .val (.int (3 : Int32)), .val (.int c0), .val (.int c1), .val (.int c2), .val (.int c3), .unset, .unset, .unset, .unset, .unset] [(.ref b69), (.ref b69), (.ref b66), (.ref b66)])) ?_ (fun t_ k_ => XS.dup X69.here hx rfl (hb hby at_136) rfl rfl k_)
    refine Goes.on (T' := T69) (g' := (mkF m 138 #[.val (.int ya0), .val (.int ya1), .val (.int ya2), .val (.int ya3), .val (.int ya4), .val (.int (3 : Int32)), .val (.int c0), .val (.int c1), .val (.int c2), .val (.int c3), .unset, .unset, .unset, .unset, .unset] [(.int (0 : Int32)), (.ref b69), (.ref b69), (.ref b66), (.ref b66)])) ?_ (fun t_ k_ => XS.iconst X69.here hx rfl (hb hby at_137) k_)
    refine Goes.on (T' := T69) (g' := (mkF m 140 #[.val (.int ya0), .val (.int ya1), .val (.int ya2), .val (.int ya3), .val (.int ya4), .val (.int (3 : Int32)), .val (.int c0), .val (.int c1), .val (.int c2), .val (.int c3), .unset, .unset, .unset, .unset, .unset] [(.int c0), (.int (0 : Int32)), (.ref b69), (.ref b69), (.ref b66), (.ref b66)])) ?_ (fun t_ k_ => XS.iload X69.here hx rfl (hb hby at_138) rfl k_)
    obtain ⟨cc75, A75, q75, S75, M75, H75, G75⟩ := VV69
    obtain ⟨T76, h76, X76, e76, W76, st76⟩ := stC X69 hx hZ e69 A75 (j := (0 : Int32)) (inb_of S75 ⟨by decide, by decide⟩) (g := (mkF m 140 #[.val (.int ya0), .val (.int ya1), .val (.int ya2), .val (.int ya3), .val (.int ya4), .val (.int (3 : Int32)), .val (.int c0), .val (.int c1), .val (.int c2), .val (.int c3), .unset, .unset, .unset, .unset, .unset] [(.int c0), (.int (0 : Int32)), (.ref b69), (.ref b69), (.ref b66), (.ref b66)])) rfl rfl (hb hby at_140)
    have N76 := Fr.snoc X76 N4 g_b69
    have Z76 : n0 ≤ h76.size := Nat.le_trans Z69 (Nat.le_of_eq W76.size.symm)
    refine Goes.on (T' := T76) (g' := (mkF m 141 #[.val (.int ya0), .val (.int ya1), .val (.int ya2), .val (.int ya3), .val (.int ya4), .val (.int (3 : Int32)), .val (.int c0), .val (.int c1), .val (.int c2), .val (.int c3), .unset, .unset, .unset, .unset, .unset] [(.ref b69), (.ref b66), (.ref b66)])) ?_ st76
    have fx77 := fx70.other W76 (Or.inl (Ne.symm nex69))
    have fx78 := fx71.other W76 (Or.inl (Ne.symm nex69))
    have fx79 := fx72.wr W76
    have Sf80_b66 := Safe.wr W76 (Safe.arr hZ.alike A75 (fun q => nomatch q)) C74.1 Sf73_b66
    have C81 := C74.trans (CHr.wr W76 (Safe.arr hZ.alike A75 (fun q => nomatch q)) C74.1)
    have V76 : Arv Z h76 b69 k69 .char (3 : Int32) [.int c0, .int 0, .int 0] (.int 0) := by have q := Arv.set A75 q75 S75 M75 H75 G75 (fits_nar_char _) W76 0 rfl (Nat.le_of_ble_eq_true rfl); rw [own_narc ⟨hpa0, hpb0⟩] at q; exact q
    refine Goes.on (T' := T76) (g' := (mkF m 142 #[.val (.int ya0), .val (.int ya1), .val (.int ya2), .val (.int ya3), .val (.int ya4), .val (.int (3 : Int32)), .val (.int c0), .val (.int c1), .val (.int c2), .val (.int c3), .unset, .unset, .unset, .unset, .unset] [(.ref b69), (.ref b69), (.ref b66), (.ref b66)])) ?_ (fun t_ k_ => XS.dup X76.here hx rfl (hb hby at_141) rfl rfl k_)
    refine Goes.on (T' := T76) (g' := (mkF m 143 #[.val (.int ya0), .val (.int ya1), .val (.int ya2), .val (.int ya3), .val (.int ya4), .val (.int (3 : Int32)), .val (.int c0), .val (.int c1), .val (.int c2), .val (.int c3), .unset, .unset, .unset, .unset, .unset] [(.int (1 : Int32)), (.ref b69), (.ref b69), (.ref b66), (.ref b66)])) ?_ (fun t_ k_ => XS.iconst X76.here hx rfl (hb hby at_142) k_)
    refine Goes.on (T' := T76) (g' := (mkF m 145 #[.val (.int ya0), .val (.int ya1), .val (.int ya2), .val (.int ya3), .val (.int ya4), .val (.int (3 : Int32)), .val (.int c0), .val (.int c1), .val (.int c2), .val (.int c3), .unset, .unset, .unset, .unset, .unset] [(.int c1), (.int (1 : Int32)), (.ref b69), (.ref b69), (.ref b66), (.ref b66)])) ?_ (fun t_ k_ => XS.iload X76.here hx rfl (hb hby at_143) rfl k_)
    obtain ⟨cc82, A82, q82, S82, M82, H82, G82⟩ := V76
    obtain ⟨T83, h83, X83, e83, W83, st83⟩ := stC X76 hx hZ e76 A82 (j := (1 : Int32)) (inb_of S82 ⟨by decide, by decide⟩) (g := (mkF m 145 #[.val (.int ya0), .val (.int ya1), .val (.int ya2), .val (.int ya3), .val (.int ya4), .val (.int (3 : Int32)), .val (.int c0), .val (.int c1), .val (.int c2), .val (.int c3), .unset, .unset, .unset, .unset, .unset] [(.int c1), (.int (1 : Int32)), (.ref b69), (.ref b69), (.ref b66), (.ref b66)])) rfl rfl (hb hby at_145)
    have N83 := Fr.snoc X83 N76 g_b69
    have Z83 : n0 ≤ h83.size := Nat.le_trans Z76 (Nat.le_of_eq W83.size.symm)
    refine Goes.on (T' := T83) (g' := (mkF m 146 #[.val (.int ya0), .val (.int ya1), .val (.int ya2), .val (.int ya3), .val (.int ya4), .val (.int (3 : Int32)), .val (.int c0), .val (.int c1), .val (.int c2), .val (.int c3), .unset, .unset, .unset, .unset, .unset] [(.ref b69), (.ref b66), (.ref b66)])) ?_ st83
    have fx84 := fx77.other W83 (Or.inl (Ne.symm nex69))
    have fx85 := fx78.other W83 (Or.inl (Ne.symm nex69))
    have fx86 := fx79.wr W83
    have Sf87_b66 := Safe.wr W83 (Safe.arr hZ.alike A82 (fun q => nomatch q)) C81.1 Sf80_b66
    have C88 := C81.trans (CHr.wr W83 (Safe.arr hZ.alike A82 (fun q => nomatch q)) C81.1)
    have V83 : Arv Z h83 b69 k69 .char (3 : Int32) [.int c0, .int c1, .int 0] (.int 0) := by have q := Arv.set A82 q82 S82 M82 H82 G82 (fits_nar_char _) W83 1 rfl (Nat.le_of_ble_eq_true rfl); rw [own_narc ⟨hpa1, hpb1⟩] at q; exact q
    refine Goes.on (T' := T83) (g' := (mkF m 147 #[.val (.int ya0), .val (.int ya1), .val (.int ya2), .val (.int ya3), .val (.int ya4), .val (.int (3 : Int32)), .val (.int c0), .val (.int c1), .val (.int c2), .val (.int c3), .unset, .unset, .unset, .unset, .unset] [(.ref b69), (.ref b69), (.ref b66), (.ref b66)])) ?_ (fun t_ k_ => XS.dup X83.here hx rfl (hb hby at_146) rfl rfl k_)
    refine Goes.on (T' := T83) (g' := (mkF m 148 #[.val (.int ya0), .val (.int ya1), .val (.int ya2), .val (.int ya3), .val (.int ya4), .val (.int (3 : Int32)), .val (.int c0), .val (.int c1), .val (.int c2), .val (.int c3), .unset, .unset, .unset, .unset, .unset] [(.int (2 : Int32)), (.ref b69), (.ref b69), (.ref b66), (.ref b66)])) ?_ (fun t_ k_ => XS.iconst X83.here hx rfl (hb hby at_147) k_)
    refine Goes.on (T' := T83) (g' := (mkF m 150 #[.val (.int ya0), .val (.int ya1), .val (.int ya2), .val (.int ya3), .val (.int ya4), .val (.int (3 : Int32)), .val (.int c0), .val (.int c1), .val (.int c2), .val (.int c3), .unset, .unset, .unset, .unset, .unset] [(.int c2), (.int (2 : Int32)), (.ref b69), (.ref b69), (.ref b66), (.ref b66)])) ?_ (fun t_ k_ => XS.iload X83.here hx rfl (hb hby at_148) rfl k_)
    obtain ⟨cc89, A89, q89, S89, M89, H89, G89⟩ := V83
    obtain ⟨T90, h90, X90, e90, W90, st90⟩ := stC X83 hx hZ e83 A89 (j := (2 : Int32)) (inb_of S89 ⟨by decide, by decide⟩) (g := (mkF m 150 #[.val (.int ya0), .val (.int ya1), .val (.int ya2), .val (.int ya3), .val (.int ya4), .val (.int (3 : Int32)), .val (.int c0), .val (.int c1), .val (.int c2), .val (.int c3), .unset, .unset, .unset, .unset, .unset] [(.int c2), (.int (2 : Int32)), (.ref b69), (.ref b69), (.ref b66), (.ref b66)])) rfl rfl (hb hby at_150)
    have N90 := Fr.snoc X90 N83 g_b69
    have Z90 : n0 ≤ h90.size := Nat.le_trans Z83 (Nat.le_of_eq W90.size.symm)
    refine Goes.on (T' := T90) (g' := (mkF m 151 #[.val (.int ya0), .val (.int ya1), .val (.int ya2), .val (.int ya3), .val (.int ya4), .val (.int (3 : Int32)), .val (.int c0), .val (.int c1), .val (.int c2), .val (.int c3), .unset, .unset, .unset, .unset, .unset] [(.ref b69), (.ref b66), (.ref b66)])) ?_ st90
    have fx91 := fx84.other W90 (Or.inl (Ne.symm nex69))
    have fx92 := fx85.other W90 (Or.inl (Ne.symm nex69))
    have fx93 := fx86.wr W90
    have Sf94_b66 := Safe.wr W90 (Safe.arr hZ.alike A89 (fun q => nomatch q)) C88.1 Sf87_b66
    have C95 := C88.trans (CHr.wr W90 (Safe.arr hZ.alike A89 (fun q => nomatch q)) C88.1)
    have V90 : Arv Z h90 b69 k69 .char (3 : Int32) [.int c0, .int c1, .int c2] (.int 0) := by have q := Arv.set A89 q89 S89 M89 H89 G89 (fits_nar_char _) W90 2 rfl (Nat.le_of_ble_eq_true rfl); rw [own_narc ⟨hpa2, hpb2⟩] at q; exact q
    have hp : ∀ c ∈ ([c0, c1, c2] : List Int32), ¬ c < 0 ∧ ¬ (65535 : Int32) < c := by intro c hc; simp only [List.mem_cons, List.not_mem_nil, or_false] at hc; rcases hc with rfl | rfl | rfl <;> exact ⟨by assumption, by assumption⟩
    have hl : ([c0, c1, c2] : List Int32).length ≤ 16 := by show (3 : Nat) ≤ 16; decide
    have hl0 : 0 < ([c0, c1, c2] : List Int32).length := Nat.succ_pos _
    have XO : Old Z n0 h90 := (((((X0_.ext E66).ext E69).wr W76 g_b69).wr W83 g_b69).wr W90 g_b69)
    obtain ⟨_, _, ⟨T96, Lq_96, kq_96, nq_96⟩, -, X96, ⟨Lc96, hQ96, l96, y96, z96⟩, st96⟩ := X90.specialBack hx (y := (⟨"java/lang/String", "<init>", "([C)V"⟩ : MethodName)) rfl hown (mvT hZ (hw _ (List.mem_of_getElem? (i := 9) rfl))) (mvT hZ (hw _ (List.mem_of_getElem? (i := 10) rfl))) (mvT hZ (hw _ (List.mem_of_getElem? (i := 11) rfl))) (by decide) (backOf (W := 1) (rmI1 l Z a0 hw [] b66 b69 k69 [c0, c1, c2] zc h90 n0 Z90 fx93 fx91 fx92 g_b66 (by exact V90) hp hl hl0 CS hzc AD HB LB XO) hZ (hw _ (List.mem_of_getElem? (i := 11) rfl)) (hw _ (List.mem_of_getElem? (i := 7) rfl)) (by decide) (by decide)) (g := (mkF m 151 #[.val (.int ya0), .val (.int ya1), .val (.int ya2), .val (.int ya3), .val (.int ya4), .val (.int (3 : Int32)), .val (.int c0), .val (.int c1), .val (.int c2), .val (.int c3), .unset, .unset, .unset, .unset, .unset] [(.ref b69), (.ref b66), (.ref b66)])) rfl (by rw [hml]; rfl) (Steps.refl _) (a := b66) (argsL := [(.ref b69)]) (rest := [(.ref b66)]) (lenOf pd_21 rfl) rfl (by show 2 * 0 + _ ≤ _; exact Nat.le_of_eq rfl) (hb hby at_151) (fun _ _ => ⟨rfl, e90, (by decide : 2 + 2 ≤ _), (by decide : 7 + 48 ≤ _)⟩)
    dsimp only [Pt.U, Pt.locs, Pt.cells, Pt.slots] at X96 l96 y96 z96 st96 hQ96
    rw [l96, y96, z96] at X96
    change Stand p l e _ _ m _ below meth c T96 _ 4 55 at X96
    obtain ⟨rfl, N96q, K96, ⟨tt, kt, cd, szt, TX⟩⟩ := hQ96
    have N96 := Fr.app N90 N96q
    refine Goes.on (T' := T96) (g' := (mkF m 154 #[.val (.int ya0), .val (.int ya1), .val (.int ya2), .val (.int ya3), .val (.int ya4), .val (.int (3 : Int32)), .val (.int c0), .val (.int c1), .val (.int c2), .val (.int c3), .unset, .unset, .unset, .unset, .unset] [(.ref b66)])) ?_ (fun t => st96.trans)
    have ZS : n0 ≤ T96.heap.size := Nat.le_trans Z90 K96.1
    have XS_ : Old Z n0 T96.heap := XO.keep K96 (allS g_b66 all0)
    have hs97 := (own_sfC (P := fun y => Safe Z consts_1 s.vm _ y) Sf94_b66 (fun y hy => absurd hy List.not_mem_nil))
    have Sf97_b66 := Safe.keep K96 hs97 C95.1 Sf94_b66
    have C98 := C95.trans (CHr.keep K96 hs97 C95.1)
    have ltx : b66 < T96.heap.size := TX.1.lt
    refine Goes.on (T' := T96) (g' := (mkF m 156 #[.val (.int ya0), .val (.int ya1), .val (.int ya2), .val (.int ya3), .val (.int ya4), .val (.int (3 : Int32)), .val (.int c0), .val (.int c1), .val (.int c2), .val (.int c3), .val (.ref b66), .unset, .unset, .unset, .unset] [])) ?_ (fun t_ k_ => XS.astore X96.here hx rfl (hb hby at_154) rfl rfl (l' := #[.val (.int ya0), .val (.int ya1), .val (.int ya2), .val (.int ya3), .val (.int ya4), .val (.int (3 : Int32)), .val (.int c0), .val (.int c1), .val (.int c2), .val (.int c3), .val (.ref b66), .unset, .unset, .unset, .unset]) rfl k_)
    refine Goes.on (T' := T96) (g' := (mkF m 191 #[.val (.int ya0), .val (.int ya1), .val (.int ya2), .val (.int ya3), .val (.int ya4), .val (.int (3 : Int32)), .val (.int c0), .val (.int c1), .val (.int c2), .val (.int c3), .val (.ref b66), .unset, .unset, .unset, .unset] [])) ?_ (fun t_ k_ => XS.goto X96.here hx rfl (pc0 := 156) (pc' := 191) rfl (hb hby at_156) (by decide) (by decide) k_)
    refine Goes.on (T' := T96) (g' := (mkF m 193 #[.val (.int ya0), .val (.int ya1), .val (.int ya2), .val (.int ya3), .val (.int ya4), .val (.int (3 : Int32)), .val (.int c0), .val (.int c1), .val (.int c2), .val (.int c3), .val (.ref b66), .unset, .unset, .unset, .unset] [(.ref b66)])) ?_ (fun t_ k_ => XS.aload X96.here hx rfl (hb hby at_191) rfl rfl k_)
    obtain ⟨_, _, ⟨T99, Lq_99, kq_99, nq_99⟩, -, X99a, S99a, G99a, ⟨Lc99, hQ99, l99, y99, z99, D99⟩, st99⟩ := Jvm.RoadKit.callSS (s := s.setVm s.vm) X96 hx (y := (⟨"com/example/regraft/regraft/core/Node", "isValidName", "(Ljava/lang/String;)Z"⟩ : MethodName)) hown (mvT hZ (hw _ (List.mem_of_getElem? (i := 27) rfl))) (mvT hZ (hw _ (List.mem_of_getElem? (i := 28) rfl))) (mvT hZ (hw _ (List.mem_of_getElem? (i := 29) rfl))) (mvT hZ (hw _ (List.mem_of_getElem? (i := 30) rfl))) (by decide) (backSH (s := s) (vm0 := s.vm) (W := 0) (xs := []) (rmVT l Z a0 hw [] b66 tt kt [c0, c1, c2] cd zc vf T96.heap n0 ZS hEL TX CS hzc hp hl hl0 XS_ AD HB LB SO rG) hZ (hw _ (List.mem_of_getElem? (i := 30) rfl)) (hw _ (List.mem_of_getElem? (i := 29) rfl)) (by decide) (by decide) hEL C98.1 (fun y hy => absurd hy List.not_mem_nil)) (g := (mkF m 193 #[.val (.int ya0), .val (.int ya1), .val (.int ya2), .val (.int ya3), .val (.int ya4), .val (.int (3 : Int32)), .val (.int c0), .val (.int c1), .val (.int c2), .val (.int c3), .val (.ref b66), .unset, .unset, .unset, .unset] [(.ref b66)])) rfl (by rw [hml]; rfl) (argsL := [(.ref b66)]) (rest := []) (lenOf pd_22 rfl) rfl (by show 2 * 0 + _ ≤ _; exact Nat.le_of_eq rfl) (hb hby at_193) (fun _ _ => ⟨rfl, rfl, (by decide : 4 + 2 ≤ _), (by decide : 55 + 16 ≤ _)⟩)
    dsimp only [Pt.U, Pt.locs, Pt.cells, Pt.slots] at X99a S99a G99a l99 y99 z99 st99 hQ99 D99
    rw [l99, y99, z99] at X99a
    obtain ⟨X99, hS99, hZ, hown⟩ := rebS (s := s) (vm0 := s.vm) hS0 (Nat.le_trans (Nat.le_trans (Nat.le_trans (Nat.le_trans (Nat.le_trans (Nat.le_trans (Nat.le_refl _) E66.1) E69.1) (Nat.le_of_eq W76.size.symm)) (Nat.le_of_eq W83.size.symm)) (Nat.le_of_eq W90.size.symm)) K96.1) X99a S99a G99a hZ hown
    change Stand p l e _ _ m _ below meth c T99 _ 6 71 at X99
    obtain ⟨rfl, N99q⟩ := hQ99
    have N99 := Fr.app N96 N99q
    have Sf99_b66 := D99.safe ltx Sf97_b66
    have Z99 : n0 ≤ T99.heap.size := Nat.le_trans ZS D99.2.1
    have C100 := C98.trans D99
    refine Goes.on (T' := T99) (g' := (mkF m 196 #[.val (.int ya0), .val (.int ya1), .val (.int ya2), .val (.int ya3), .val (.int ya4), .val (.int (3 : Int32)), .val (.int c0), .val (.int c1), .val (.int c2), .val (.int c3), .val (.ref b66), .unset, .unset, .unset, .unset] [(.int (own_ivn [c0, c1, c2]))])) ?_ (fun t => st99.trans)
    obtain ⟨av, hav⟩ : ∃ z, z = own_ivn [c0, c1, c2] := ⟨_, rfl⟩
    rw [← hav]
    refine Goes.on (T' := T99) (g' := (mkF m 198 #[.val (.int ya0), .val (.int ya1), .val (.int ya2), .val (.int ya3), .val (.int ya4), .val (.int (3 : Int32)), .val (.int c0), .val (.int c1), .val (.int c2), .val (.int c3), .val (.ref b66), .val (.int av), .unset, .unset, .unset] [])) ?_ (fun t_ k_ => XS.istore X99.here hx rfl (hb hby at_196) rfl (l' := #[.val (.int ya0), .val (.int ya1), .val (.int ya2), .val (.int ya3), .val (.int ya4), .val (.int (3 : Int32)), .val (.int c0), .val (.int c1), .val (.int c2), .val (.int c3), .val (.ref b66), .val (.int av), .unset, .unset, .unset]) rfl k_)
    refine Goes.on (T' := T99) (g' := (mkF m 200 #[.val (.int ya0), .val (.int ya1), .val (.int ya2), .val (.int ya3), .val (.int ya4), .val (.int (3 : Int32)), .val (.int c0), .val (.int c1), .val (.int c2), .val (.int c3), .val (.ref b66), .val (.int av), .unset, .unset, .unset] [(.int (3 : Int32))])) ?_ (fun t_ k_ => XS.iload X99.here hx rfl (hb hby at_198) rfl k_)
    refine Goes.on (T' := T99) (g' := (mkF m 201 #[.val (.int ya0), .val (.int ya1), .val (.int ya2), .val (.int ya3), .val (.int ya4), .val (.int (3 : Int32)), .val (.int c0), .val (.int c1), .val (.int c2), .val (.int c3), .val (.ref b66), .val (.int av), .unset, .unset, .unset] [(.int (5 : Int32)), (.int (3 : Int32))])) ?_ (fun t_ k_ => XS.iconst X99.here hx rfl (hb hby at_200) k_)
    refine Goes.on (T' := T99) (g' := (mkF m 204 #[.val (.int ya0), .val (.int ya1), .val (.int ya2), .val (.int ya3), .val (.int ya4), .val (.int (3 : Int32)), .val (.int c0), .val (.int c1), .val (.int c2), .val (.int c3), .val (.ref b66), .val (.int av), .unset, .unset, .unset] [])) ?_ (fun t_ k_ => XS.icmpNo X99.here hx rfl (hb hby at_201) rfl (by decide) k_)
    refine Goes.on (T' := T99) (g' := (mkF m 206 #[.val (.int ya0), .val (.int ya1), .val (.int ya2), .val (.int ya3), .val (.int ya4), .val (.int (3 : Int32)), .val (.int c0), .val (.int c1), .val (.int c2), .val (.int c3), .val (.ref b66), .val (.int av), .unset, .unset, .unset] [(.int (3 : Int32))])) ?_ (fun t_ k_ => XS.iload X99.here hx rfl (hb hby at_204) rfl k_)
    refine Goes.on (T' := T99) (g' := (mkF m 215 #[.val (.int ya0), .val (.int ya1), .val (.int ya2), .val (.int ya3), .val (.int ya4), .val (.int (3 : Int32)), .val (.int c0), .val (.int c1), .val (.int c2), .val (.int c3), .val (.ref b66), .val (.int av), .unset, .unset, .unset] [])) ?_ (fun t_ k_ => XS.ifYes X99.here hx rfl (pc0 := 206) (pc' := 215) rfl (hb hby at_206) rfl (by decide) (by decide) (by decide) k_)
    refine Goes.on (T' := T99) (g' := (mkF m 217 #[.val (.int ya0), .val (.int ya1), .val (.int ya2), .val (.int ya3), .val (.int ya4), .val (.int (3 : Int32)), .val (.int c0), .val (.int c1), .val (.int c2), .val (.int c3), .val (.ref b66), .val (.int av), .unset, .unset, .unset] [(.int c0)])) ?_ (fun t_ k_ => XS.iload X99.here hx rfl (hb hby at_215) rfl k_)
    refine Goes.on (T' := T99) (g' := (mkF m 219 #[.val (.int ya0), .val (.int ya1), .val (.int ya2), .val (.int ya3), .val (.int ya4), .val (.int (3 : Int32)), .val (.int c0), .val (.int c1), .val (.int c2), .val (.int c3), .val (.ref b66), .val (.int av), .unset, .unset, .unset] [(.int (47 : Int32)), (.int c0)])) ?_ (fun t_ k_ => XS.bipush X99.here hx rfl (hb hby at_217) k_)
    refine Goes.icmpP X99 hx rfl (pc0 := 219) (pc' := 261) rfl (hb hby at_219) rfl (by decide) (by decide) (P := c0 = (47 : Int32)) (cmp_eq _ _) (fun hc219 => ?_) (fun hc219 => ?_)
    · show Goes p e below W T99 (mkF m 261 #[.val (.int ya0), .val (.int ya1), .val (.int ya2), .val (.int ya3), .val (.int ya4), .val (.int (3 : Int32)), .val (.int c0), .val (.int c1), .val (.int c2), .val (.int c3), .val (.ref b66), .val (.int av), .unset, .unset, .unset] [])
      refine Goes.on (T' := T99) (g' := (mkF m 262 #[.val (.int ya0), .val (.int ya1), .val (.int ya2), .val (.int ya3), .val (.int ya4), .val (.int (3 : Int32)), .val (.int c0), .val (.int c1), .val (.int c2), .val (.int c3), .val (.ref b66), .val (.int av), .unset, .unset, .unset] [(.int (1 : Int32))])) ?_ (fun t_ k_ => XS.iconst X99.here hx rfl (hb hby at_261) k_)
      refine Goes.on (T' := T99) (g' := (mkF m 266 #[.val (.int ya0), .val (.int ya1), .val (.int ya2), .val (.int ya3), .val (.int ya4), .val (.int (3 : Int32)), .val (.int c0), .val (.int c1), .val (.int c2), .val (.int c3), .val (.ref b66), .val (.int av), .unset, .unset, .unset] [(.int (1 : Int32))])) ?_ (fun t_ k_ => XS.goto X99.here hx rfl (pc0 := 262) (pc' := 266) rfl (hb hby at_262) (by decide) (by decide) k_)
      refine Goes.on (T' := T99) (g' := (mkF m 268 #[.val (.int ya0), .val (.int ya1), .val (.int ya2), .val (.int ya3), .val (.int ya4), .val (.int (3 : Int32)), .val (.int c0), .val (.int c1), .val (.int c2), .val (.int c3), .val (.ref b66), .val (.int av), .unset, .val (.int (1 : Int32)), .unset] [])) ?_ (fun t_ k_ => XS.istore X99.here hx rfl (hb hby at_266) rfl (l' := #[.val (.int ya0), .val (.int ya1), .val (.int ya2), .val (.int ya3), .val (.int ya4), .val (.int (3 : Int32)), .val (.int c0), .val (.int c1), .val (.int c2), .val (.int c3), .val (.ref b66), .val (.int av), .unset, .val (.int (1 : Int32)), .unset]) rfl k_)
      refine Goes.on (T' := T99) (g' := (mkF m 270 #[.val (.int ya0), .val (.int ya1), .val (.int ya2), .val (.int ya3), .val (.int ya4), .val (.int (3 : Int32)), .val (.int c0), .val (.int c1), .val (.int c2), .val (.int c3), .val (.ref b66), .val (.int av), .unset, .val (.int (1 : Int32)), .unset] [(.int (3 : Int32))])) ?_ (fun t_ k_ => XS.iload X99.here hx rfl (hb hby at_268) rfl k_)
      refine Goes.on (T' := T99) (g' := (mkF m 271 #[.val (.int ya0), .val (.int ya1), .val (.int ya2), .val (.int ya3), .val (.int ya4), .val (.int (3 : Int32)), .val (.int c0), .val (.int c1), .val (.int c2), .val (.int c3), .val (.ref b66), .val (.int av), .unset, .val (.int (1 : Int32)), .unset] [(.int (3 : Int32)), (.int (3 : Int32))])) ?_ (fun t_ k_ => XS.iconst X99.here hx rfl (hb hby at_270) k_)
      refine Goes.on (T' := T99) (g' := (mkF m 274 #[.val (.int ya0), .val (.int ya1), .val (.int ya2), .val (.int ya3), .val (.int ya4), .val (.int (3 : Int32)), .val (.int c0), .val (.int c1), .val (.int c2), .val (.int c3), .val (.ref b66), .val (.int av), .unset, .val (.int (1 : Int32)), .unset] [])) ?_ (fun t_ k_ => XS.icmpNo X99.here hx rfl (hb hby at_271) rfl (by decide) k_)
      refine Goes.on (T' := T99) (g' := (mkF m 276 #[.val (.int ya0), .val (.int ya1), .val (.int ya2), .val (.int ya3), .val (.int ya4), .val (.int (3 : Int32)), .val (.int c0), .val (.int c1), .val (.int c2), .val (.int c3), .val (.ref b66), .val (.int av), .unset, .val (.int (1 : Int32)), .unset] [(.int c0)])) ?_ (fun t_ k_ => XS.iload X99.here hx rfl (hb hby at_274) rfl k_)
      refine Goes.on (T' := T99) (g' := (mkF m 278 #[.val (.int ya0), .val (.int ya1), .val (.int ya2), .val (.int ya3), .val (.int ya4), .val (.int (3 : Int32)), .val (.int c0), .val (.int c1), .val (.int c2), .val (.int c3), .val (.ref b66), .val (.int av), .unset, .val (.int (1 : Int32)), .unset] [(.int (58 : Int32)), (.int c0)])) ?_ (fun t_ k_ => XS.bipush X99.here hx rfl (hb hby at_276) k_)
      refine Goes.icmpN X99 hx rfl (pc0 := 278) (pc' := 299) rfl (hb hby at_278) rfl (by decide) (by decide) (P := c0 = (58 : Int32)) (cmp_ne _ _) (fun hc278 => ?_) (fun hc278 => ?_)
      · show Goes p e below W T99 (mkF m 299 #[.val (.int ya0), .val (.int ya1), .val (.int ya2), .val (.int ya3), .val (.int ya4), .val (.int (3 : Int32)), .val (.int c0), .val (.int c1), .val (.int c2), .val (.int c3), .val (.ref b66), .val (.int av), .unset, .val (.int (1 : Int32)), .unset] [])
        refine Goes.on (T' := T99) (g' := (mkF m 300 #[.val (.int ya0), .val (.int ya1), .val (.int ya2), .val (.int ya3), .val (.int ya4), .val (.int (3 : Int32)), .val (.int c0), .val (.int c1), .val (.int c2), .val (.int c3), .val (.ref b66), .val (.int av), .unset, .val (.int (1 : Int32)), .unset] [(.int (0 : Int32))])) ?_ (fun t_ k_ => XS.iconst X99.here hx rfl (hb hby at_299) k_)
        refine Goes.on (T' := T99) (g' := (mkF m 302 #[.val (.int ya0), .val (.int ya1), .val (.int ya2), .val (.int ya3), .val (.int ya4), .val (.int (3 : Int32)), .val (.int c0), .val (.int c1), .val (.int c2), .val (.int c3), .val (.ref b66), .val (.int av), .unset, .val (.int (1 : Int32)), .val (.int (0 : Int32))] [])) ?_ (fun t_ k_ => XS.istore X99.here hx rfl (hb hby at_300) rfl (l' := #[.val (.int ya0), .val (.int ya1), .val (.int ya2), .val (.int ya3), .val (.int ya4), .val (.int (3 : Int32)), .val (.int c0), .val (.int c1), .val (.int c2), .val (.int c3), .val (.ref b66), .val (.int av), .unset, .val (.int (1 : Int32)), .val (.int (0 : Int32))]) rfl k_)
        refine Goes.on (T' := T99) (g' := (mkF m 304 #[.val (.int ya0), .val (.int ya1), .val (.int ya2), .val (.int ya3), .val (.int ya4), .val (.int (3 : Int32)), .val (.int c0), .val (.int c1), .val (.int c2), .val (.int c3), .val (.ref b66), .val (.int av), .unset, .val (.int (1 : Int32)), .val (.int (0 : Int32))] [(.int (1 : Int32))])) ?_ (fun t_ k_ => XS.iload X99.here hx rfl (hb hby at_302) rfl k_)
        refine Goes.on (T' := T99) (g' := (mkF m 316 #[.val (.int ya0), .val (.int ya1), .val (.int ya2), .val (.int ya3), .val (.int ya4), .val (.int (3 : Int32)), .val (.int c0), .val (.int c1), .val (.int c2), .val (.int c3), .val (.ref b66), .val (.int av), .unset, .val (.int (1 : Int32)), .val (.int (0 : Int32))] [])) ?_ (fun t_ k_ => XS.ifYes X99.here hx rfl (pc0 := 304) (pc' := 316) rfl (hb hby at_304) rfl (by decide) (by decide) (by decide) k_)
        refine Goes.on (T' := T99) (g' := (mkF m 317 #[.val (.int ya0), .val (.int ya1), .val (.int ya2), .val (.int ya3), .val (.int ya4), .val (.int (3 : Int32)), .val (.int c0), .val (.int c1), .val (.int c2), .val (.int c3), .val (.ref b66), .val (.int av), .unset, .val (.int (1 : Int32)), .val (.int (0 : Int32))] [(.int (0 : Int32))])) ?_ (fun t_ k_ => XS.iconst X99.here hx rfl (hb hby at_316) k_)
        refine Goes.on (T' := T99) (g' := (mkF m 319 #[.val (.int ya0), .val (.int ya1), .val (.int ya2), .val (.int ya3), .val (.int ya4), .val (.int (3 : Int32)), .val (.int c0), .val (.int c1), .val (.int c2), .val (.int c3), .val (.ref b66), .val (.int av), .val (.int (0 : Int32)), .val (.int (1 : Int32)), .val (.int (0 : Int32))] [])) ?_ (fun t_ k_ => XS.istore X99.here hx rfl (hb hby at_317) rfl (l' := #[.val (.int ya0), .val (.int ya1), .val (.int ya2), .val (.int ya3), .val (.int ya4), .val (.int (3 : Int32)), .val (.int c0), .val (.int c1), .val (.int c2), .val (.int c3), .val (.ref b66), .val (.int av), .val (.int (0 : Int32)), .val (.int (1 : Int32)), .val (.int (0 : Int32))]) rfl k_)
        refine Goes.on (T' := T99) (g' := (mkF m 321 #[.val (.int ya0), .val (.int ya1), .val (.int ya2), .val (.int ya3), .val (.int ya4), .val (.int (3 : Int32)), .val (.int c0), .val (.int c1), .val (.int c2), .val (.int c3), .val (.ref b66), .val (.int av), .val (.int (0 : Int32)), .val (.int (1 : Int32)), .val (.int (0 : Int32))] [(.int av)])) ?_ (fun t_ k_ => XS.iload X99.here hx rfl (hb hby at_319) rfl k_)
        refine Goes.on (T' := T99) (g' := (mkF m 323 #[.val (.int ya0), .val (.int ya1), .val (.int ya2), .val (.int ya3), .val (.int ya4), .val (.int (3 : Int32)), .val (.int c0), .val (.int c1), .val (.int c2), .val (.int c3), .val (.ref b66), .val (.int av), .val (.int (0 : Int32)), .val (.int (1 : Int32)), .val (.int (0 : Int32))] [(.int (0 : Int32)), (.int av)])) ?_ (fun t_ k_ => XS.iload X99.here hx rfl (hb hby at_321) rfl k_)
        refine Goes.on (T' := T99) (g' := (mkF m 326 #[.val (.int ya0), .val (.int ya1), .val (.int ya2), .val (.int ya3), .val (.int ya4), .val (.int (3 : Int32)), .val (.int c0), .val (.int c1), .val (.int c2), .val (.int c3), .val (.ref b66), .val (.int av), .val (.int (0 : Int32)), .val (.int (1 : Int32)), .val (.int (0 : Int32))] [])) ?_ (fun t_ k_ => XS.icmpNo X99.here hx rfl (hb hby at_323) rfl (teq (show av = (0 : Int32) from by rw [hav, own_ivn3]; simp only [eq_true hc219, eq_false hc278, if_true, if_false, ↓reduceIte, not_true_eq_false, not_false_eq_true, true_and, and_true, false_and, and_false, or_true, true_or, or_false, false_or, and_self, or_self])).2 k_)
        refine Goes.on (T' := T99) (g' := (mkF m 327 #[.val (.int ya0), .val (.int ya1), .val (.int ya2), .val (.int ya3), .val (.int ya4), .val (.int (3 : Int32)), .val (.int c0), .val (.int c1), .val (.int c2), .val (.int c3), .val (.ref b66), .val (.int av), .val (.int (0 : Int32)), .val (.int (1 : Int32)), .val (.int (0 : Int32))] [(.int (1 : Int32))])) ?_ (fun t_ k_ => XS.iconst X99.here hx rfl (hb hby at_326) k_)
        refine Goes.on (T' := T99) (g' := (mkF m 331 #[.val (.int ya0), .val (.int ya1), .val (.int ya2), .val (.int ya3), .val (.int ya4), .val (.int (3 : Int32)), .val (.int c0), .val (.int c1), .val (.int c2), .val (.int c3), .val (.ref b66), .val (.int av), .val (.int (0 : Int32)), .val (.int (1 : Int32)), .val (.int (0 : Int32))] [(.int (1 : Int32))])) ?_ (fun t_ k_ => XS.goto X99.here hx rfl (pc0 := 327) (pc' := 331) rfl (hb hby at_327) (by decide) (by decide) k_)
        rw [hWd]
        exact Goes.retnW X99 hS99 (Nat.le_refl _) (v := some (.int (nar .boolean (1 : Int32)))) (fun fs hr => retN X99 hx (t := .boolean) Bd.returns (by simp) (hb hby at_331) hr) (fun h => by rw [Bd.returns] at h; cases h) Bd.notSynchronized (by decide) (by decide) ⟨rfl, N99⟩
      · show Goes p e below W T99 (mkF m 281 #[.val (.int ya0), .val (.int ya1), .val (.int ya2), .val (.int ya3), .val (.int ya4), .val (.int (3 : Int32)), .val (.int c0), .val (.int c1), .val (.int c2), .val (.int c3), .val (.ref b66), .val (.int av), .unset, .val (.int (1 : Int32)), .unset] [])
        refine Goes.on (T' := T99) (g' := (mkF m 283 #[.val (.int ya0), .val (.int ya1), .val (.int ya2), .val (.int ya3), .val (.int ya4), .val (.int (3 : Int32)), .val (.int c0), .val (.int c1), .val (.int c2), .val (.int c3), .val (.ref b66), .val (.int av), .unset, .val (.int (1 : Int32)), .unset] [(.int c1)])) ?_ (fun t_ k_ => XS.iload X99.here hx rfl (hb hby at_281) rfl k_)
        refine Goes.on (T' := T99) (g' := (mkF m 285 #[.val (.int ya0), .val (.int ya1), .val (.int ya2), .val (.int ya3), .val (.int ya4), .val (.int (3 : Int32)), .val (.int c0), .val (.int c1), .val (.int c2), .val (.int c3), .val (.ref b66), .val (.int av), .unset, .val (.int (1 : Int32)), .unset] [(.int (105 : Int32)), (.int c1)])) ?_ (fun t_ k_ => XS.bipush X99.here hx rfl (hb hby at_283) k_)
        refine Goes.icmpN X99 hx rfl (pc0 := 285) (pc' := 299) rfl (hb hby at_285) rfl (by decide) (by decide) (P := c1 = (105 : Int32)) (cmp_ne _ _) (fun hc285 => ?_) (fun hc285 => ?_)
        · show Goes p e below W T99 (mkF m 299 #[.val (.int ya0), .val (.int ya1), .val (.int ya2), .val (.int ya3), .val (.int ya4), .val (.int (3 : Int32)), .val (.int c0), .val (.int c1), .val (.int c2), .val (.int c3), .val (.ref b66), .val (.int av), .unset, .val (.int (1 : Int32)), .unset] [])
          refine Goes.on (T' := T99) (g' := (mkF m 300 #[.val (.int ya0), .val (.int ya1), .val (.int ya2), .val (.int ya3), .val (.int ya4), .val (.int (3 : Int32)), .val (.int c0), .val (.int c1), .val (.int c2), .val (.int c3), .val (.ref b66), .val (.int av), .unset, .val (.int (1 : Int32)), .unset] [(.int (0 : Int32))])) ?_ (fun t_ k_ => XS.iconst X99.here hx rfl (hb hby at_299) k_)
          refine Goes.on (T' := T99) (g' := (mkF m 302 #[.val (.int ya0), .val (.int ya1), .val (.int ya2), .val (.int ya3), .val (.int ya4), .val (.int (3 : Int32)), .val (.int c0), .val (.int c1), .val (.int c2), .val (.int c3), .val (.ref b66), .val (.int av), .unset, .val (.int (1 : Int32)), .val (.int (0 : Int32))] [])) ?_ (fun t_ k_ => XS.istore X99.here hx rfl (hb hby at_300) rfl (l' := #[.val (.int ya0), .val (.int ya1), .val (.int ya2), .val (.int ya3), .val (.int ya4), .val (.int (3 : Int32)), .val (.int c0), .val (.int c1), .val (.int c2), .val (.int c3), .val (.ref b66), .val (.int av), .unset, .val (.int (1 : Int32)), .val (.int (0 : Int32))]) rfl k_)
          refine Goes.on (T' := T99) (g' := (mkF m 304 #[.val (.int ya0), .val (.int ya1), .val (.int ya2), .val (.int ya3), .val (.int ya4), .val (.int (3 : Int32)), .val (.int c0), .val (.int c1), .val (.int c2), .val (.int c3), .val (.ref b66), .val (.int av), .unset, .val (.int (1 : Int32)), .val (.int (0 : Int32))] [(.int (1 : Int32))])) ?_ (fun t_ k_ => XS.iload X99.here hx rfl (hb hby at_302) rfl k_)
          refine Goes.on (T' := T99) (g' := (mkF m 316 #[.val (.int ya0), .val (.int ya1), .val (.int ya2), .val (.int ya3), .val (.int ya4), .val (.int (3 : Int32)), .val (.int c0), .val (.int c1), .val (.int c2), .val (.int c3), .val (.ref b66), .val (.int av), .unset, .val (.int (1 : Int32)), .val (.int (0 : Int32))] [])) ?_ (fun t_ k_ => XS.ifYes X99.here hx rfl (pc0 := 304) (pc' := 316) rfl (hb hby at_304) rfl (by decide) (by decide) (by decide) k_)
          refine Goes.on (T' := T99) (g' := (mkF m 317 #[.val (.int ya0), .val (.int ya1), .val (.int ya2), .val (.int ya3), .val (.int ya4), .val (.int (3 : Int32)), .val (.int c0), .val (.int c1), .val (.int c2), .val (.int c3), .val (.ref b66), .val (.int av), .unset, .val (.int (1 : Int32)), .val (.int (0 : Int32))] [(.int (0 : Int32))])) ?_ (fun t_ k_ => XS.iconst X99.here hx rfl (hb hby at_316) k_)
          refine Goes.on (T' := T99) (g' := (mkF m 319 #[.val (.int ya0), .val (.int ya1), .val (.int ya2), .val (.int ya3), .val (.int ya4), .val (.int (3 : Int32)), .val (.int c0), .val (.int c1), .val (.int c2), .val (.int c3), .val (.ref b66), .val (.int av), .val (.int (0 : Int32)), .val (.int (1 : Int32)), .val (.int (0 : Int32))] [])) ?_ (fun t_ k_ => XS.istore X99.here hx rfl (hb hby at_317) rfl (l' := #[.val (.int ya0), .val (.int ya1), .val (.int ya2), .val (.int ya3), .val (.int ya4), .val (.int (3 : Int32)), .val (.int c0), .val (.int c1), .val (.int c2), .val (.int c3), .val (.ref b66), .val (.int av), .val (.int (0 : Int32)), .val (.int (1 : Int32)), .val (.int (0 : Int32))]) rfl k_)
          refine Goes.on (T' := T99) (g' := (mkF m 321 #[.val (.int ya0), .val (.int ya1), .val (.int ya2), .val (.int ya3), .val (.int ya4), .val (.int (3 : Int32)), .val (.int c0), .val (.int c1), .val (.int c2), .val (.int c3), .val (.ref b66), .val (.int av), .val (.int (0 : Int32)), .val (.int (1 : Int32)), .val (.int (0 : Int32))] [(.int av)])) ?_ (fun t_ k_ => XS.iload X99.here hx rfl (hb hby at_319) rfl k_)
          refine Goes.on (T' := T99) (g' := (mkF m 323 #[.val (.int ya0), .val (.int ya1), .val (.int ya2), .val (.int ya3), .val (.int ya4), .val (.int (3 : Int32)), .val (.int c0), .val (.int c1), .val (.int c2), .val (.int c3), .val (.ref b66), .val (.int av), .val (.int (0 : Int32)), .val (.int (1 : Int32)), .val (.int (0 : Int32))] [(.int (0 : Int32)), (.int av)])) ?_ (fun t_ k_ => XS.iload X99.here hx rfl (hb hby at_321) rfl k_)
          refine Goes.on (T' := T99) (g' := (mkF m 326 #[.val (.int ya0), .val (.int ya1), .val (.int ya2), .val (.int ya3), .val (.int ya4), .val (.int (3 : Int32)), .val (.int c0), .val (.int c1), .val (.int c2), .val (.int c3), .val (.ref b66), .val (.int av), .val (.int (0 : Int32)), .val (.int (1 : Int32)), .val (.int (0 : Int32))] [])) ?_ (fun t_ k_ => XS.icmpNo X99.here hx rfl (hb hby at_323) rfl (teq (show av = (0 : Int32) from by rw [hav, own_ivn3]; simp only [eq_true hc219, eq_true hc278, eq_false hc285, if_true, if_false, ↓reduceIte, not_true_eq_false, not_false_eq_true, true_and, and_true, false_and, and_false, or_true, true_or, or_false, false_or, and_self, or_self])).2 k_)
          refine Goes.on (T' := T99) (g' := (mkF m 327 #[.val (.int ya0), .val (.int ya1), .val (.int ya2), .val (.int ya3), .val (.int ya4), .val (.int (3 : Int32)), .val (.int c0), .val (.int c1), .val (.int c2), .val (.int c3), .val (.ref b66), .val (.int av), .val (.int (0 : Int32)), .val (.int (1 : Int32)), .val (.int (0 : Int32))] [(.int (1 : Int32))])) ?_ (fun t_ k_ => XS.iconst X99.here hx rfl (hb hby at_326) k_)
          refine Goes.on (T' := T99) (g' := (mkF m 331 #[.val (.int ya0), .val (.int ya1), .val (.int ya2), .val (.int ya3), .val (.int ya4), .val (.int (3 : Int32)), .val (.int c0), .val (.int c1), .val (.int c2), .val (.int c3), .val (.ref b66), .val (.int av), .val (.int (0 : Int32)), .val (.int (1 : Int32)), .val (.int (0 : Int32))] [(.int (1 : Int32))])) ?_ (fun t_ k_ => XS.goto X99.here hx rfl (pc0 := 327) (pc' := 331) rfl (hb hby at_327) (by decide) (by decide) k_)
          rw [hWd]
          exact Goes.retnW X99 hS99 (Nat.le_refl _) (v := some (.int (nar .boolean (1 : Int32)))) (fun fs hr => retN X99 hx (t := .boolean) Bd.returns (by simp) (hb hby at_331) hr) (fun h => by rw [Bd.returns] at h; cases h) Bd.notSynchronized (by decide) (by decide) ⟨rfl, N99⟩
        · show Goes p e below W T99 (mkF m 288 #[.val (.int ya0), .val (.int ya1), .val (.int ya2), .val (.int ya3), .val (.int ya4), .val (.int (3 : Int32)), .val (.int c0), .val (.int c1), .val (.int c2), .val (.int c3), .val (.ref b66), .val (.int av), .unset, .val (.int (1 : Int32)), .unset] [])
          refine Goes.on (T' := T99) (g' := (mkF m 290 #[.val (.int ya0), .val (.int ya1), .val (.int ya2), .val (.int ya3), .val (.int ya4), .val (.int (3 : Int32)), .val (.int c0), .val (.int c1), .val (.int c2), .val (.int c3), .val (.ref b66), .val (.int av), .unset, .val (.int (1 : Int32)), .unset] [(.int c2)])) ?_ (fun t_ k_ => XS.iload X99.here hx rfl (hb hby at_288) rfl k_)
          refine Goes.on (T' := T99) (g' := (mkF m 292 #[.val (.int ya0), .val (.int ya1), .val (.int ya2), .val (.int ya3), .val (.int ya4), .val (.int (3 : Int32)), .val (.int c0), .val (.int c1), .val (.int c2), .val (.int c3), .val (.ref b66), .val (.int av), .unset, .val (.int (1 : Int32)), .unset] [(.int (100 : Int32)), (.int c2)])) ?_ (fun t_ k_ => XS.bipush X99.here hx rfl (hb hby at_290) k_)
          refine Goes.icmpN X99 hx rfl (pc0 := 292) (pc' := 299) rfl (hb hby at_292) rfl (by decide) (by decide) (P := c2 = (100 : Int32)) (cmp_ne _ _) (fun hc292 => ?_) (fun hc292 => ?_)
          · show Goes p e below W T99 (mkF m 299 #[.val (.int ya0), .val (.int ya1), .val (.int ya2), .val (.int ya3), .val (.int ya4), .val (.int (3 : Int32)), .val (.int c0), .val (.int c1), .val (.int c2), .val (.int c3), .val (.ref b66), .val (.int av), .unset, .val (.int (1 : Int32)), .unset] [])
            refine Goes.on (T' := T99) (g' := (mkF m 300 #[.val (.int ya0), .val (.int ya1), .val (.int ya2), .val (.int ya3), .val (.int ya4), .val (.int (3 : Int32)), .val (.int c0), .val (.int c1), .val (.int c2), .val (.int c3), .val (.ref b66), .val (.int av), .unset, .val (.int (1 : Int32)), .unset] [(.int (0 : Int32))])) ?_ (fun t_ k_ => XS.iconst X99.here hx rfl (hb hby at_299) k_)
            refine Goes.on (T' := T99) (g' := (mkF m 302 #[.val (.int ya0), .val (.int ya1), .val (.int ya2), .val (.int ya3), .val (.int ya4), .val (.int (3 : Int32)), .val (.int c0), .val (.int c1), .val (.int c2), .val (.int c3), .val (.ref b66), .val (.int av), .unset, .val (.int (1 : Int32)), .val (.int (0 : Int32))] [])) ?_ (fun t_ k_ => XS.istore X99.here hx rfl (hb hby at_300) rfl (l' := #[.val (.int ya0), .val (.int ya1), .val (.int ya2), .val (.int ya3), .val (.int ya4), .val (.int (3 : Int32)), .val (.int c0), .val (.int c1), .val (.int c2), .val (.int c3), .val (.ref b66), .val (.int av), .unset, .val (.int (1 : Int32)), .val (.int (0 : Int32))]) rfl k_)
            refine Goes.on (T' := T99) (g' := (mkF m 304 #[.val (.int ya0), .val (.int ya1), .val (.int ya2), .val (.int ya3), .val (.int ya4), .val (.int (3 : Int32)), .val (.int c0), .val (.int c1), .val (.int c2), .val (.int c3), .val (.ref b66), .val (.int av), .unset, .val (.int (1 : Int32)), .val (.int (0 : Int32))] [(.int (1 : Int32))])) ?_ (fun t_ k_ => XS.iload X99.here hx rfl (hb hby at_302) rfl k_)
            refine Goes.on (T' := T99) (g' := (mkF m 316 #[.val (.int ya0), .val (.int ya1), .val (.int ya2), .val (.int ya3), .val (.int ya4), .val (.int (3 : Int32)), .val (.int c0), .val (.int c1), .val (.int c2), .val (.int c3), .val (.ref b66), .val (.int av), .unset, .val (.int (1 : Int32)), .val (.int (0 : Int32))] [])) ?_ (fun t_ k_ => XS.ifYes X99.here hx rfl (pc0 := 304) (pc' := 316) rfl (hb hby at_304) rfl (by decide) (by decide) (by decide) k_)
            refine Goes.on (T' := T99) (g' := (mkF m 317 #[.val (.int ya0), .val (.int ya1), .val (.int ya2), .val (.int ya3), .val (.int ya4), .val (.int (3 : Int32)), .val (.int c0), .val (.int c1), .val (.int c2), .val (.int c3), .val (.ref b66), .val (.int av), .unset, .val (.int (1 : Int32)), .val (.int (0 : Int32))] [(.int (0 : Int32))])) ?_ (fun t_ k_ => XS.iconst X99.here hx rfl (hb hby at_316) k_)
            refine Goes.on (T' := T99) (g' := (mkF m 319 #[.val (.int ya0), .val (.int ya1), .val (.int ya2), .val (.int ya3), .val (.int ya4), .val (.int (3 : Int32)), .val (.int c0), .val (.int c1), .val (.int c2), .val (.int c3), .val (.ref b66), .val (.int av), .val (.int (0 : Int32)), .val (.int (1 : Int32)), .val (.int (0 : Int32))] [])) ?_ (fun t_ k_ => XS.istore X99.here hx rfl (hb hby at_317) rfl (l' := #[.val (.int ya0), .val (.int ya1), .val (.int ya2), .val (.int ya3), .val (.int ya4), .val (.int (3 : Int32)), .val (.int c0), .val (.int c1), .val (.int c2), .val (.int c3), .val (.ref b66), .val (.int av), .val (.int (0 : Int32)), .val (.int (1 : Int32)), .val (.int (0 : Int32))]) rfl k_)
            refine Goes.on (T' := T99) (g' := (mkF m 321 #[.val (.int ya0), .val (.int ya1), .val (.int ya2), .val (.int ya3), .val (.int ya4), .val (.int (3 : Int32)), .val (.int c0), .val (.int c1), .val (.int c2), .val (.int c3), .val (.ref b66), .val (.int av), .val (.int (0 : Int32)), .val (.int (1 : Int32)), .val (.int (0 : Int32))] [(.int av)])) ?_ (fun t_ k_ => XS.iload X99.here hx rfl (hb hby at_319) rfl k_)
            refine Goes.on (T' := T99) (g' := (mkF m 323 #[.val (.int ya0), .val (.int ya1), .val (.int ya2), .val (.int ya3), .val (.int ya4), .val (.int (3 : Int32)), .val (.int c0), .val (.int c1), .val (.int c2), .val (.int c3), .val (.ref b66), .val (.int av), .val (.int (0 : Int32)), .val (.int (1 : Int32)), .val (.int (0 : Int32))] [(.int (0 : Int32)), (.int av)])) ?_ (fun t_ k_ => XS.iload X99.here hx rfl (hb hby at_321) rfl k_)
            refine Goes.on (T' := T99) (g' := (mkF m 326 #[.val (.int ya0), .val (.int ya1), .val (.int ya2), .val (.int ya3), .val (.int ya4), .val (.int (3 : Int32)), .val (.int c0), .val (.int c1), .val (.int c2), .val (.int c3), .val (.ref b66), .val (.int av), .val (.int (0 : Int32)), .val (.int (1 : Int32)), .val (.int (0 : Int32))] [])) ?_ (fun t_ k_ => XS.icmpNo X99.here hx rfl (hb hby at_323) rfl (teq (show av = (0 : Int32) from by rw [hav, own_ivn3]; simp only [eq_true hc219, eq_true hc278, eq_true hc285, eq_false hc292, if_true, if_false, ↓reduceIte, not_true_eq_false, not_false_eq_true, true_and, and_true, false_and, and_false, or_true, true_or, or_false, false_or, and_self, or_self])).2 k_)
            refine Goes.on (T' := T99) (g' := (mkF m 327 #[.val (.int ya0), .val (.int ya1), .val (.int ya2), .val (.int ya3), .val (.int ya4), .val (.int (3 : Int32)), .val (.int c0), .val (.int c1), .val (.int c2), .val (.int c3), .val (.ref b66), .val (.int av), .val (.int (0 : Int32)), .val (.int (1 : Int32)), .val (.int (0 : Int32))] [(.int (1 : Int32))])) ?_ (fun t_ k_ => XS.iconst X99.here hx rfl (hb hby at_326) k_)
            refine Goes.on (T' := T99) (g' := (mkF m 331 #[.val (.int ya0), .val (.int ya1), .val (.int ya2), .val (.int ya3), .val (.int ya4), .val (.int (3 : Int32)), .val (.int c0), .val (.int c1), .val (.int c2), .val (.int c3), .val (.ref b66), .val (.int av), .val (.int (0 : Int32)), .val (.int (1 : Int32)), .val (.int (0 : Int32))] [(.int (1 : Int32))])) ?_ (fun t_ k_ => XS.goto X99.here hx rfl (pc0 := 327) (pc' := 331) rfl (hb hby at_327) (by decide) (by decide) k_)
            rw [hWd]
            exact Goes.retnW X99 hS99 (Nat.le_refl _) (v := some (.int (nar .boolean (1 : Int32)))) (fun fs hr => retN X99 hx (t := .boolean) Bd.returns (by simp) (hb hby at_331) hr) (fun h => by rw [Bd.returns] at h; cases h) Bd.notSynchronized (by decide) (by decide) ⟨rfl, N99⟩
          · show Goes p e below W T99 (mkF m 295 #[.val (.int ya0), .val (.int ya1), .val (.int ya2), .val (.int ya3), .val (.int ya4), .val (.int (3 : Int32)), .val (.int c0), .val (.int c1), .val (.int c2), .val (.int c3), .val (.ref b66), .val (.int av), .unset, .val (.int (1 : Int32)), .unset] [])
            refine Goes.on (T' := T99) (g' := (mkF m 296 #[.val (.int ya0), .val (.int ya1), .val (.int ya2), .val (.int ya3), .val (.int ya4), .val (.int (3 : Int32)), .val (.int c0), .val (.int c1), .val (.int c2), .val (.int c3), .val (.ref b66), .val (.int av), .unset, .val (.int (1 : Int32)), .unset] [(.int (1 : Int32))])) ?_ (fun t_ k_ => XS.iconst X99.here hx rfl (hb hby at_295) k_)
            refine Goes.on (T' := T99) (g' := (mkF m 300 #[.val (.int ya0), .val (.int ya1), .val (.int ya2), .val (.int ya3), .val (.int ya4), .val (.int (3 : Int32)), .val (.int c0), .val (.int c1), .val (.int c2), .val (.int c3), .val (.ref b66), .val (.int av), .unset, .val (.int (1 : Int32)), .unset] [(.int (1 : Int32))])) ?_ (fun t_ k_ => XS.goto X99.here hx rfl (pc0 := 296) (pc' := 300) rfl (hb hby at_296) (by decide) (by decide) k_)
            refine Goes.on (T' := T99) (g' := (mkF m 302 #[.val (.int ya0), .val (.int ya1), .val (.int ya2), .val (.int ya3), .val (.int ya4), .val (.int (3 : Int32)), .val (.int c0), .val (.int c1), .val (.int c2), .val (.int c3), .val (.ref b66), .val (.int av), .unset, .val (.int (1 : Int32)), .val (.int (1 : Int32))] [])) ?_ (fun t_ k_ => XS.istore X99.here hx rfl (hb hby at_300) rfl (l' := #[.val (.int ya0), .val (.int ya1), .val (.int ya2), .val (.int ya3), .val (.int ya4), .val (.int (3 : Int32)), .val (.int c0), .val (.int c1), .val (.int c2), .val (.int c3), .val (.ref b66), .val (.int av), .unset, .val (.int (1 : Int32)), .val (.int (1 : Int32))]) rfl k_)
            refine Goes.on (T' := T99) (g' := (mkF m 304 #[.val (.int ya0), .val (.int ya1), .val (.int ya2), .val (.int ya3), .val (.int ya4), .val (.int (3 : Int32)), .val (.int c0), .val (.int c1), .val (.int c2), .val (.int c3), .val (.ref b66), .val (.int av), .unset, .val (.int (1 : Int32)), .val (.int (1 : Int32))] [(.int (1 : Int32))])) ?_ (fun t_ k_ => XS.iload X99.here hx rfl (hb hby at_302) rfl k_)
            refine Goes.on (T' := T99) (g' := (mkF m 316 #[.val (.int ya0), .val (.int ya1), .val (.int ya2), .val (.int ya3), .val (.int ya4), .val (.int (3 : Int32)), .val (.int c0), .val (.int c1), .val (.int c2), .val (.int c3), .val (.ref b66), .val (.int av), .unset, .val (.int (1 : Int32)), .val (.int (1 : Int32))] [])) ?_ (fun t_ k_ => XS.ifYes X99.here hx rfl (pc0 := 304) (pc' := 316) rfl (hb hby at_304) rfl (by decide) (by decide) (by decide) k_)
            refine Goes.on (T' := T99) (g' := (mkF m 317 #[.val (.int ya0), .val (.int ya1), .val (.int ya2), .val (.int ya3), .val (.int ya4), .val (.int (3 : Int32)), .val (.int c0), .val (.int c1), .val (.int c2), .val (.int c3), .val (.ref b66), .val (.int av), .unset, .val (.int (1 : Int32)), .val (.int (1 : Int32))] [(.int (0 : Int32))])) ?_ (fun t_ k_ => XS.iconst X99.here hx rfl (hb hby at_316) k_)
            refine Goes.on (T' := T99) (g' := (mkF m 319 #[.val (.int ya0), .val (.int ya1), .val (.int ya2), .val (.int ya3), .val (.int ya4), .val (.int (3 : Int32)), .val (.int c0), .val (.int c1), .val (.int c2), .val (.int c3), .val (.ref b66), .val (.int av), .val (.int (0 : Int32)), .val (.int (1 : Int32)), .val (.int (1 : Int32))] [])) ?_ (fun t_ k_ => XS.istore X99.here hx rfl (hb hby at_317) rfl (l' := #[.val (.int ya0), .val (.int ya1), .val (.int ya2), .val (.int ya3), .val (.int ya4), .val (.int (3 : Int32)), .val (.int c0), .val (.int c1), .val (.int c2), .val (.int c3), .val (.ref b66), .val (.int av), .val (.int (0 : Int32)), .val (.int (1 : Int32)), .val (.int (1 : Int32))]) rfl k_)
            refine Goes.on (T' := T99) (g' := (mkF m 321 #[.val (.int ya0), .val (.int ya1), .val (.int ya2), .val (.int ya3), .val (.int ya4), .val (.int (3 : Int32)), .val (.int c0), .val (.int c1), .val (.int c2), .val (.int c3), .val (.ref b66), .val (.int av), .val (.int (0 : Int32)), .val (.int (1 : Int32)), .val (.int (1 : Int32))] [(.int av)])) ?_ (fun t_ k_ => XS.iload X99.here hx rfl (hb hby at_319) rfl k_)
            refine Goes.on (T' := T99) (g' := (mkF m 323 #[.val (.int ya0), .val (.int ya1), .val (.int ya2), .val (.int ya3), .val (.int ya4), .val (.int (3 : Int32)), .val (.int c0), .val (.int c1), .val (.int c2), .val (.int c3), .val (.ref b66), .val (.int av), .val (.int (0 : Int32)), .val (.int (1 : Int32)), .val (.int (1 : Int32))] [(.int (0 : Int32)), (.int av)])) ?_ (fun t_ k_ => XS.iload X99.here hx rfl (hb hby at_321) rfl k_)
            refine Goes.on (T' := T99) (g' := (mkF m 326 #[.val (.int ya0), .val (.int ya1), .val (.int ya2), .val (.int ya3), .val (.int ya4), .val (.int (3 : Int32)), .val (.int c0), .val (.int c1), .val (.int c2), .val (.int c3), .val (.ref b66), .val (.int av), .val (.int (0 : Int32)), .val (.int (1 : Int32)), .val (.int (1 : Int32))] [])) ?_ (fun t_ k_ => XS.icmpNo X99.here hx rfl (hb hby at_323) rfl (teq (show av = (0 : Int32) from by rw [hav, own_ivn3]; simp only [eq_true hc219, eq_true hc278, eq_true hc285, eq_true hc292, if_true, if_false, ↓reduceIte, not_true_eq_false, not_false_eq_true, true_and, and_true, false_and, and_false, or_true, true_or, or_false, false_or, and_self, or_self])).2 k_)
            refine Goes.on (T' := T99) (g' := (mkF m 327 #[.val (.int ya0), .val (.int ya1), .val (.int ya2), .val (.int ya3), .val (.int ya4), .val (.int (3 : Int32)), .val (.int c0), .val (.int c1), .val (.int c2), .val (.int c3), .val (.ref b66), .val (.int av), .val (.int (0 : Int32)), .val (.int (1 : Int32)), .val (.int (1 : Int32))] [(.int (1 : Int32))])) ?_ (fun t_ k_ => XS.iconst X99.here hx rfl (hb hby at_326) k_)
            refine Goes.on (T' := T99) (g' := (mkF m 331 #[.val (.int ya0), .val (.int ya1), .val (.int ya2), .val (.int ya3), .val (.int ya4), .val (.int (3 : Int32)), .val (.int c0), .val (.int c1), .val (.int c2), .val (.int c3), .val (.ref b66), .val (.int av), .val (.int (0 : Int32)), .val (.int (1 : Int32)), .val (.int (1 : Int32))] [(.int (1 : Int32))])) ?_ (fun t_ k_ => XS.goto X99.here hx rfl (pc0 := 327) (pc' := 331) rfl (hb hby at_327) (by decide) (by decide) k_)
            rw [hWd]
            exact Goes.retnW X99 hS99 (Nat.le_refl _) (v := some (.int (nar .boolean (1 : Int32)))) (fun fs hr => retN X99 hx (t := .boolean) Bd.returns (by simp) (hb hby at_331) hr) (fun h => by rw [Bd.returns] at h; cases h) Bd.notSynchronized (by decide) (by decide) ⟨rfl, N99⟩
    · show Goes p e below W T99 (mkF m 222 #[.val (.int ya0), .val (.int ya1), .val (.int ya2), .val (.int ya3), .val (.int ya4), .val (.int (3 : Int32)), .val (.int c0), .val (.int c1), .val (.int c2), .val (.int c3), .val (.ref b66), .val (.int av), .unset, .unset, .unset] [])
      refine Goes.on (T' := T99) (g' := (mkF m 224 #[.val (.int ya0), .val (.int ya1), .val (.int ya2), .val (.int ya3), .val (.int ya4), .val (.int (3 : Int32)), .val (.int c0), .val (.int c1), .val (.int c2), .val (.int c3), .val (.ref b66), .val (.int av), .unset, .unset, .unset] [(.int (3 : Int32))])) ?_ (fun t_ k_ => XS.iload X99.here hx rfl (hb hby at_222) rfl k_)
      refine Goes.on (T' := T99) (g' := (mkF m 225 #[.val (.int ya0), .val (.int ya1), .val (.int ya2), .val (.int ya3), .val (.int ya4), .val (.int (3 : Int32)), .val (.int c0), .val (.int c1), .val (.int c2), .val (.int c3), .val (.ref b66), .val (.int av), .unset, .unset, .unset] [(.int (2 : Int32)), (.int (3 : Int32))])) ?_ (fun t_ k_ => XS.iconst X99.here hx rfl (hb hby at_224) k_)
      refine Goes.on (T' := T99) (g' := (mkF m 228 #[.val (.int ya0), .val (.int ya1), .val (.int ya2), .val (.int ya3), .val (.int ya4), .val (.int (3 : Int32)), .val (.int c0), .val (.int c1), .val (.int c2), .val (.int c3), .val (.ref b66), .val (.int av), .unset, .unset, .unset] [])) ?_ (fun t_ k_ => XS.icmpNo X99.here hx rfl (hb hby at_225) rfl (by decide) k_)
      refine Goes.on (T' := T99) (g' := (mkF m 230 #[.val (.int ya0), .val (.int ya1), .val (.int ya2), .val (.int ya3), .val (.int ya4), .val (.int (3 : Int32)), .val (.int c0), .val (.int c1), .val (.int c2), .val (.int c3), .val (.ref b66), .val (.int av), .unset, .unset, .unset] [(.int c1)])) ?_ (fun t_ k_ => XS.iload X99.here hx rfl (hb hby at_228) rfl k_)
      refine Goes.on (T' := T99) (g' := (mkF m 232 #[.val (.int ya0), .val (.int ya1), .val (.int ya2), .val (.int ya3), .val (.int ya4), .val (.int (3 : Int32)), .val (.int c0), .val (.int c1), .val (.int c2), .val (.int c3), .val (.ref b66), .val (.int av), .unset, .unset, .unset] [(.int (47 : Int32)), (.int c1)])) ?_ (fun t_ k_ => XS.bipush X99.here hx rfl (hb hby at_230) k_)
      refine Goes.icmpP X99 hx rfl (pc0 := 232) (pc' := 261) rfl (hb hby at_232) rfl (by decide) (by decide) (P := c1 = (47 : Int32)) (cmp_eq _ _) (fun hc232 => ?_) (fun hc232 => ?_)
      · show Goes p e below W T99 (mkF m 261 #[.val (.int ya0), .val (.int ya1), .val (.int ya2), .val (.int ya3), .val (.int ya4), .val (.int (3 : Int32)), .val (.int c0), .val (.int c1), .val (.int c2), .val (.int c3), .val (.ref b66), .val (.int av), .unset, .unset, .unset] [])
        refine Goes.on (T' := T99) (g' := (mkF m 262 #[.val (.int ya0), .val (.int ya1), .val (.int ya2), .val (.int ya3), .val (.int ya4), .val (.int (3 : Int32)), .val (.int c0), .val (.int c1), .val (.int c2), .val (.int c3), .val (.ref b66), .val (.int av), .unset, .unset, .unset] [(.int (1 : Int32))])) ?_ (fun t_ k_ => XS.iconst X99.here hx rfl (hb hby at_261) k_)
        refine Goes.on (T' := T99) (g' := (mkF m 266 #[.val (.int ya0), .val (.int ya1), .val (.int ya2), .val (.int ya3), .val (.int ya4), .val (.int (3 : Int32)), .val (.int c0), .val (.int c1), .val (.int c2), .val (.int c3), .val (.ref b66), .val (.int av), .unset, .unset, .unset] [(.int (1 : Int32))])) ?_ (fun t_ k_ => XS.goto X99.here hx rfl (pc0 := 262) (pc' := 266) rfl (hb hby at_262) (by decide) (by decide) k_)
        refine Goes.on (T' := T99) (g' := (mkF m 268 #[.val (.int ya0), .val (.int ya1), .val (.int ya2), .val (.int ya3), .val (.int ya4), .val (.int (3 : Int32)), .val (.int c0), .val (.int c1), .val (.int c2), .val (.int c3), .val (.ref b66), .val (.int av), .unset, .val (.int (1 : Int32)), .unset] [])) ?_ (fun t_ k_ => XS.istore X99.here hx rfl (hb hby at_266) rfl (l' := #[.val (.int ya0), .val (.int ya1), .val (.int ya2), .val (.int ya3), .val (.int ya4), .val (.int (3 : Int32)), .val (.int c0), .val (.int c1), .val (.int c2), .val (.int c3), .val (.ref b66), .val (.int av), .unset, .val (.int (1 : Int32)), .unset]) rfl k_)
        refine Goes.on (T' := T99) (g' := (mkF m 270 #[.val (.int ya0), .val (.int ya1), .val (.int ya2), .val (.int ya3), .val (.int ya4), .val (.int (3 : Int32)), .val (.int c0), .val (.int c1), .val (.int c2), .val (.int c3), .val (.ref b66), .val (.int av), .unset, .val (.int (1 : Int32)), .unset] [(.int (3 : Int32))])) ?_ (fun t_ k_ => XS.iload X99.here hx rfl (hb hby at_268) rfl k_)
        refine Goes.on (T' := T99) (g' := (mkF m 271 #[.val (.int ya0), .val (.int ya1), .val (.int ya2), .val (.int ya3), .val (.int ya4), .val (.int (3 : Int32)), .val (.int c0), .val (.int c1), .val (.int c2), .val (.int c3), .val (.ref b66), .val (.int av), .unset, .val (.int (1 : Int32)), .unset] [(.int (3 : Int32)), (.int (3 : Int32))])) ?_ (fun t_ k_ => XS.iconst X99.here hx rfl (hb hby at_270) k_)
        refine Goes.on (T' := T99) (g' := (mkF m 274 #[.val (.int ya0), .val (.int ya1), .val (.int ya2), .val (.int ya3), .val (.int ya4), .val (.int (3 : Int32)), .val (.int c0), .val (.int c1), .val (.int c2), .val (.int c3), .val (.ref b66), .val (.int av), .unset, .val (.int (1 : Int32)), .unset] [])) ?_ (fun t_ k_ => XS.icmpNo X99.here hx rfl (hb hby at_271) rfl (by decide) k_)
        refine Goes.on (T' := T99) (g' := (mkF m 276 #[.val (.int ya0), .val (.int ya1), .val (.int ya2), .val (.int ya3), .val (.int ya4), .val (.int (3 : Int32)), .val (.int c0), .val (.int c1), .val (.int c2), .val (.int c3), .val (.ref b66), .val (.int av), .unset, .val (.int (1 : Int32)), .unset] [(.int c0)])) ?_ (fun t_ k_ => XS.iload X99.here hx rfl (hb hby at_274) rfl k_)
        refine Goes.on (T' := T99) (g' := (mkF m 278 #[.val (.int ya0), .val (.int ya1), .val (.int ya2), .val (.int ya3), .val (.int ya4), .val (.int (3 : Int32)), .val (.int c0), .val (.int c1), .val (.int c2), .val (.int c3), .val (.ref b66), .val (.int av), .unset, .val (.int (1 : Int32)), .unset] [(.int (58 : Int32)), (.int c0)])) ?_ (fun t_ k_ => XS.bipush X99.here hx rfl (hb hby at_276) k_)
        refine Goes.icmpN X99 hx rfl (pc0 := 278) (pc' := 299) rfl (hb hby at_278) rfl (by decide) (by decide) (P := c0 = (58 : Int32)) (cmp_ne _ _) (fun hc278 => ?_) (fun hc278 => ?_)
        · show Goes p e below W T99 (mkF m 299 #[.val (.int ya0), .val (.int ya1), .val (.int ya2), .val (.int ya3), .val (.int ya4), .val (.int (3 : Int32)), .val (.int c0), .val (.int c1), .val (.int c2), .val (.int c3), .val (.ref b66), .val (.int av), .unset, .val (.int (1 : Int32)), .unset] [])
          refine Goes.on (T' := T99) (g' := (mkF m 300 #[.val (.int ya0), .val (.int ya1), .val (.int ya2), .val (.int ya3), .val (.int ya4), .val (.int (3 : Int32)), .val (.int c0), .val (.int c1), .val (.int c2), .val (.int c3), .val (.ref b66), .val (.int av), .unset, .val (.int (1 : Int32)), .unset] [(.int (0 : Int32))])) ?_ (fun t_ k_ => XS.iconst X99.here hx rfl (hb hby at_299) k_)
          refine Goes.on (T' := T99) (g' := (mkF m 302 #[.val (.int ya0), .val (.int ya1), .val (.int ya2), .val (.int ya3), .val (.int ya4), .val (.int (3 : Int32)), .val (.int c0), .val (.int c1), .val (.int c2), .val (.int c3), .val (.ref b66), .val (.int av), .unset, .val (.int (1 : Int32)), .val (.int (0 : Int32))] [])) ?_ (fun t_ k_ => XS.istore X99.here hx rfl (hb hby at_300) rfl (l' := #[.val (.int ya0), .val (.int ya1), .val (.int ya2), .val (.int ya3), .val (.int ya4), .val (.int (3 : Int32)), .val (.int c0), .val (.int c1), .val (.int c2), .val (.int c3), .val (.ref b66), .val (.int av), .unset, .val (.int (1 : Int32)), .val (.int (0 : Int32))]) rfl k_)
          refine Goes.on (T' := T99) (g' := (mkF m 304 #[.val (.int ya0), .val (.int ya1), .val (.int ya2), .val (.int ya3), .val (.int ya4), .val (.int (3 : Int32)), .val (.int c0), .val (.int c1), .val (.int c2), .val (.int c3), .val (.ref b66), .val (.int av), .unset, .val (.int (1 : Int32)), .val (.int (0 : Int32))] [(.int (1 : Int32))])) ?_ (fun t_ k_ => XS.iload X99.here hx rfl (hb hby at_302) rfl k_)
          refine Goes.on (T' := T99) (g' := (mkF m 316 #[.val (.int ya0), .val (.int ya1), .val (.int ya2), .val (.int ya3), .val (.int ya4), .val (.int (3 : Int32)), .val (.int c0), .val (.int c1), .val (.int c2), .val (.int c3), .val (.ref b66), .val (.int av), .unset, .val (.int (1 : Int32)), .val (.int (0 : Int32))] [])) ?_ (fun t_ k_ => XS.ifYes X99.here hx rfl (pc0 := 304) (pc' := 316) rfl (hb hby at_304) rfl (by decide) (by decide) (by decide) k_)
          refine Goes.on (T' := T99) (g' := (mkF m 317 #[.val (.int ya0), .val (.int ya1), .val (.int ya2), .val (.int ya3), .val (.int ya4), .val (.int (3 : Int32)), .val (.int c0), .val (.int c1), .val (.int c2), .val (.int c3), .val (.ref b66), .val (.int av), .unset, .val (.int (1 : Int32)), .val (.int (0 : Int32))] [(.int (0 : Int32))])) ?_ (fun t_ k_ => XS.iconst X99.here hx rfl (hb hby at_316) k_)
          refine Goes.on (T' := T99) (g' := (mkF m 319 #[.val (.int ya0), .val (.int ya1), .val (.int ya2), .val (.int ya3), .val (.int ya4), .val (.int (3 : Int32)), .val (.int c0), .val (.int c1), .val (.int c2), .val (.int c3), .val (.ref b66), .val (.int av), .val (.int (0 : Int32)), .val (.int (1 : Int32)), .val (.int (0 : Int32))] [])) ?_ (fun t_ k_ => XS.istore X99.here hx rfl (hb hby at_317) rfl (l' := #[.val (.int ya0), .val (.int ya1), .val (.int ya2), .val (.int ya3), .val (.int ya4), .val (.int (3 : Int32)), .val (.int c0), .val (.int c1), .val (.int c2), .val (.int c3), .val (.ref b66), .val (.int av), .val (.int (0 : Int32)), .val (.int (1 : Int32)), .val (.int (0 : Int32))]) rfl k_)
          refine Goes.on (T' := T99) (g' := (mkF m 321 #[.val (.int ya0), .val (.int ya1), .val (.int ya2), .val (.int ya3), .val (.int ya4), .val (.int (3 : Int32)), .val (.int c0), .val (.int c1), .val (.int c2), .val (.int c3), .val (.ref b66), .val (.int av), .val (.int (0 : Int32)), .val (.int (1 : Int32)), .val (.int (0 : Int32))] [(.int av)])) ?_ (fun t_ k_ => XS.iload X99.here hx rfl (hb hby at_319) rfl k_)
          refine Goes.on (T' := T99) (g' := (mkF m 323 #[.val (.int ya0), .val (.int ya1), .val (.int ya2), .val (.int ya3), .val (.int ya4), .val (.int (3 : Int32)), .val (.int c0), .val (.int c1), .val (.int c2), .val (.int c3), .val (.ref b66), .val (.int av), .val (.int (0 : Int32)), .val (.int (1 : Int32)), .val (.int (0 : Int32))] [(.int (0 : Int32)), (.int av)])) ?_ (fun t_ k_ => XS.iload X99.here hx rfl (hb hby at_321) rfl k_)
          refine Goes.on (T' := T99) (g' := (mkF m 326 #[.val (.int ya0), .val (.int ya1), .val (.int ya2), .val (.int ya3), .val (.int ya4), .val (.int (3 : Int32)), .val (.int c0), .val (.int c1), .val (.int c2), .val (.int c3), .val (.ref b66), .val (.int av), .val (.int (0 : Int32)), .val (.int (1 : Int32)), .val (.int (0 : Int32))] [])) ?_ (fun t_ k_ => XS.icmpNo X99.here hx rfl (hb hby at_323) rfl (teq (show av = (0 : Int32) from by rw [hav, own_ivn3]; simp only [eq_false hc219, eq_true hc232, eq_false hc278, if_true, if_false, ↓reduceIte, not_true_eq_false, not_false_eq_true, true_and, and_true, false_and, and_false, or_true, true_or, or_false, false_or, and_self, or_self])).2 k_)
          refine Goes.on (T' := T99) (g' := (mkF m 327 #[.val (.int ya0), .val (.int ya1), .val (.int ya2), .val (.int ya3), .val (.int ya4), .val (.int (3 : Int32)), .val (.int c0), .val (.int c1), .val (.int c2), .val (.int c3), .val (.ref b66), .val (.int av), .val (.int (0 : Int32)), .val (.int (1 : Int32)), .val (.int (0 : Int32))] [(.int (1 : Int32))])) ?_ (fun t_ k_ => XS.iconst X99.here hx rfl (hb hby at_326) k_)
          refine Goes.on (T' := T99) (g' := (mkF m 331 #[.val (.int ya0), .val (.int ya1), .val (.int ya2), .val (.int ya3), .val (.int ya4), .val (.int (3 : Int32)), .val (.int c0), .val (.int c1), .val (.int c2), .val (.int c3), .val (.ref b66), .val (.int av), .val (.int (0 : Int32)), .val (.int (1 : Int32)), .val (.int (0 : Int32))] [(.int (1 : Int32))])) ?_ (fun t_ k_ => XS.goto X99.here hx rfl (pc0 := 327) (pc' := 331) rfl (hb hby at_327) (by decide) (by decide) k_)
          rw [hWd]
          exact Goes.retnW X99 hS99 (Nat.le_refl _) (v := some (.int (nar .boolean (1 : Int32)))) (fun fs hr => retN X99 hx (t := .boolean) Bd.returns (by simp) (hb hby at_331) hr) (fun h => by rw [Bd.returns] at h; cases h) Bd.notSynchronized (by decide) (by decide) ⟨rfl, N99⟩
        · show Goes p e below W T99 (mkF m 281 #[.val (.int ya0), .val (.int ya1), .val (.int ya2), .val (.int ya3), .val (.int ya4), .val (.int (3 : Int32)), .val (.int c0), .val (.int c1), .val (.int c2), .val (.int c3), .val (.ref b66), .val (.int av), .unset, .val (.int (1 : Int32)), .unset] [])
          refine Goes.on (T' := T99) (g' := (mkF m 283 #[.val (.int ya0), .val (.int ya1), .val (.int ya2), .val (.int ya3), .val (.int ya4), .val (.int (3 : Int32)), .val (.int c0), .val (.int c1), .val (.int c2), .val (.int c3), .val (.ref b66), .val (.int av), .unset, .val (.int (1 : Int32)), .unset] [(.int c1)])) ?_ (fun t_ k_ => XS.iload X99.here hx rfl (hb hby at_281) rfl k_)
          refine Goes.on (T' := T99) (g' := (mkF m 285 #[.val (.int ya0), .val (.int ya1), .val (.int ya2), .val (.int ya3), .val (.int ya4), .val (.int (3 : Int32)), .val (.int c0), .val (.int c1), .val (.int c2), .val (.int c3), .val (.ref b66), .val (.int av), .unset, .val (.int (1 : Int32)), .unset] [(.int (105 : Int32)), (.int c1)])) ?_ (fun t_ k_ => XS.bipush X99.here hx rfl (hb hby at_283) k_)
          refine Goes.icmpN X99 hx rfl (pc0 := 285) (pc' := 299) rfl (hb hby at_285) rfl (by decide) (by decide) (P := c1 = (105 : Int32)) (cmp_ne _ _) (fun hc285 => ?_) (fun hc285 => ?_)
          · show Goes p e below W T99 (mkF m 299 #[.val (.int ya0), .val (.int ya1), .val (.int ya2), .val (.int ya3), .val (.int ya4), .val (.int (3 : Int32)), .val (.int c0), .val (.int c1), .val (.int c2), .val (.int c3), .val (.ref b66), .val (.int av), .unset, .val (.int (1 : Int32)), .unset] [])
            refine Goes.on (T' := T99) (g' := (mkF m 300 #[.val (.int ya0), .val (.int ya1), .val (.int ya2), .val (.int ya3), .val (.int ya4), .val (.int (3 : Int32)), .val (.int c0), .val (.int c1), .val (.int c2), .val (.int c3), .val (.ref b66), .val (.int av), .unset, .val (.int (1 : Int32)), .unset] [(.int (0 : Int32))])) ?_ (fun t_ k_ => XS.iconst X99.here hx rfl (hb hby at_299) k_)
            refine Goes.on (T' := T99) (g' := (mkF m 302 #[.val (.int ya0), .val (.int ya1), .val (.int ya2), .val (.int ya3), .val (.int ya4), .val (.int (3 : Int32)), .val (.int c0), .val (.int c1), .val (.int c2), .val (.int c3), .val (.ref b66), .val (.int av), .unset, .val (.int (1 : Int32)), .val (.int (0 : Int32))] [])) ?_ (fun t_ k_ => XS.istore X99.here hx rfl (hb hby at_300) rfl (l' := #[.val (.int ya0), .val (.int ya1), .val (.int ya2), .val (.int ya3), .val (.int ya4), .val (.int (3 : Int32)), .val (.int c0), .val (.int c1), .val (.int c2), .val (.int c3), .val (.ref b66), .val (.int av), .unset, .val (.int (1 : Int32)), .val (.int (0 : Int32))]) rfl k_)
            refine Goes.on (T' := T99) (g' := (mkF m 304 #[.val (.int ya0), .val (.int ya1), .val (.int ya2), .val (.int ya3), .val (.int ya4), .val (.int (3 : Int32)), .val (.int c0), .val (.int c1), .val (.int c2), .val (.int c3), .val (.ref b66), .val (.int av), .unset, .val (.int (1 : Int32)), .val (.int (0 : Int32))] [(.int (1 : Int32))])) ?_ (fun t_ k_ => XS.iload X99.here hx rfl (hb hby at_302) rfl k_)
            refine Goes.on (T' := T99) (g' := (mkF m 316 #[.val (.int ya0), .val (.int ya1), .val (.int ya2), .val (.int ya3), .val (.int ya4), .val (.int (3 : Int32)), .val (.int c0), .val (.int c1), .val (.int c2), .val (.int c3), .val (.ref b66), .val (.int av), .unset, .val (.int (1 : Int32)), .val (.int (0 : Int32))] [])) ?_ (fun t_ k_ => XS.ifYes X99.here hx rfl (pc0 := 304) (pc' := 316) rfl (hb hby at_304) rfl (by decide) (by decide) (by decide) k_)
            refine Goes.on (T' := T99) (g' := (mkF m 317 #[.val (.int ya0), .val (.int ya1), .val (.int ya2), .val (.int ya3), .val (.int ya4), .val (.int (3 : Int32)), .val (.int c0), .val (.int c1), .val (.int c2), .val (.int c3), .val (.ref b66), .val (.int av), .unset, .val (.int (1 : Int32)), .val (.int (0 : Int32))] [(.int (0 : Int32))])) ?_ (fun t_ k_ => XS.iconst X99.here hx rfl (hb hby at_316) k_)
            refine Goes.on (T' := T99) (g' := (mkF m 319 #[.val (.int ya0), .val (.int ya1), .val (.int ya2), .val (.int ya3), .val (.int ya4), .val (.int (3 : Int32)), .val (.int c0), .val (.int c1), .val (.int c2), .val (.int c3), .val (.ref b66), .val (.int av), .val (.int (0 : Int32)), .val (.int (1 : Int32)), .val (.int (0 : Int32))] [])) ?_ (fun t_ k_ => XS.istore X99.here hx rfl (hb hby at_317) rfl (l' := #[.val (.int ya0), .val (.int ya1), .val (.int ya2), .val (.int ya3), .val (.int ya4), .val (.int (3 : Int32)), .val (.int c0), .val (.int c1), .val (.int c2), .val (.int c3), .val (.ref b66), .val (.int av), .val (.int (0 : Int32)), .val (.int (1 : Int32)), .val (.int (0 : Int32))]) rfl k_)
            refine Goes.on (T' := T99) (g' := (mkF m 321 #[.val (.int ya0), .val (.int ya1), .val (.int ya2), .val (.int ya3), .val (.int ya4), .val (.int (3 : Int32)), .val (.int c0), .val (.int c1), .val (.int c2), .val (.int c3), .val (.ref b66), .val (.int av), .val (.int (0 : Int32)), .val (.int (1 : Int32)), .val (.int (0 : Int32))] [(.int av)])) ?_ (fun t_ k_ => XS.iload X99.here hx rfl (hb hby at_319) rfl k_)
            refine Goes.on (T' := T99) (g' := (mkF m 323 #[.val (.int ya0), .val (.int ya1), .val (.int ya2), .val (.int ya3), .val (.int ya4), .val (.int (3 : Int32)), .val (.int c0), .val (.int c1), .val (.int c2), .val (.int c3), .val (.ref b66), .val (.int av), .val (.int (0 : Int32)), .val (.int (1 : Int32)), .val (.int (0 : Int32))] [(.int (0 : Int32)), (.int av)])) ?_ (fun t_ k_ => XS.iload X99.here hx rfl (hb hby at_321) rfl k_)
            refine Goes.on (T' := T99) (g' := (mkF m 326 #[.val (.int ya0), .val (.int ya1), .val (.int ya2), .val (.int ya3), .val (.int ya4), .val (.int (3 : Int32)), .val (.int c0), .val (.int c1), .val (.int c2), .val (.int c3), .val (.ref b66), .val (.int av), .val (.int (0 : Int32)), .val (.int (1 : Int32)), .val (.int (0 : Int32))] [])) ?_ (fun t_ k_ => XS.icmpNo X99.here hx rfl (hb hby at_323) rfl (teq (show av = (0 : Int32) from by rw [hav, own_ivn3]; simp only [eq_false hc219, eq_true hc232, eq_true hc278, eq_false hc285, if_true, if_false, ↓reduceIte, not_true_eq_false, not_false_eq_true, true_and, and_true, false_and, and_false, or_true, true_or, or_false, false_or, and_self, or_self])).2 k_)
            refine Goes.on (T' := T99) (g' := (mkF m 327 #[.val (.int ya0), .val (.int ya1), .val (.int ya2), .val (.int ya3), .val (.int ya4), .val (.int (3 : Int32)), .val (.int c0), .val (.int c1), .val (.int c2), .val (.int c3), .val (.ref b66), .val (.int av), .val (.int (0 : Int32)), .val (.int (1 : Int32)), .val (.int (0 : Int32))] [(.int (1 : Int32))])) ?_ (fun t_ k_ => XS.iconst X99.here hx rfl (hb hby at_326) k_)
            refine Goes.on (T' := T99) (g' := (mkF m 331 #[.val (.int ya0), .val (.int ya1), .val (.int ya2), .val (.int ya3), .val (.int ya4), .val (.int (3 : Int32)), .val (.int c0), .val (.int c1), .val (.int c2), .val (.int c3), .val (.ref b66), .val (.int av), .val (.int (0 : Int32)), .val (.int (1 : Int32)), .val (.int (0 : Int32))] [(.int (1 : Int32))])) ?_ (fun t_ k_ => XS.goto X99.here hx rfl (pc0 := 327) (pc' := 331) rfl (hb hby at_327) (by decide) (by decide) k_)
            rw [hWd]
            exact Goes.retnW X99 hS99 (Nat.le_refl _) (v := some (.int (nar .boolean (1 : Int32)))) (fun fs hr => retN X99 hx (t := .boolean) Bd.returns (by simp) (hb hby at_331) hr) (fun h => by rw [Bd.returns] at h; cases h) Bd.notSynchronized (by decide) (by decide) ⟨rfl, N99⟩
          · show Goes p e below W T99 (mkF m 288 #[.val (.int ya0), .val (.int ya1), .val (.int ya2), .val (.int ya3), .val (.int ya4), .val (.int (3 : Int32)), .val (.int c0), .val (.int c1), .val (.int c2), .val (.int c3), .val (.ref b66), .val (.int av), .unset, .val (.int (1 : Int32)), .unset] [])
            refine Goes.on (T' := T99) (g' := (mkF m 290 #[.val (.int ya0), .val (.int ya1), .val (.int ya2), .val (.int ya3), .val (.int ya4), .val (.int (3 : Int32)), .val (.int c0), .val (.int c1), .val (.int c2), .val (.int c3), .val (.ref b66), .val (.int av), .unset, .val (.int (1 : Int32)), .unset] [(.int c2)])) ?_ (fun t_ k_ => XS.iload X99.here hx rfl (hb hby at_288) rfl k_)
            refine Goes.on (T' := T99) (g' := (mkF m 292 #[.val (.int ya0), .val (.int ya1), .val (.int ya2), .val (.int ya3), .val (.int ya4), .val (.int (3 : Int32)), .val (.int c0), .val (.int c1), .val (.int c2), .val (.int c3), .val (.ref b66), .val (.int av), .unset, .val (.int (1 : Int32)), .unset] [(.int (100 : Int32)), (.int c2)])) ?_ (fun t_ k_ => XS.bipush X99.here hx rfl (hb hby at_290) k_)
            refine Goes.icmpN X99 hx rfl (pc0 := 292) (pc' := 299) rfl (hb hby at_292) rfl (by decide) (by decide) (P := c2 = (100 : Int32)) (cmp_ne _ _) (fun hc292 => ?_) (fun hc292 => ?_)
            · show Goes p e below W T99 (mkF m 299 #[.val (.int ya0), .val (.int ya1), .val (.int ya2), .val (.int ya3), .val (.int ya4), .val (.int (3 : Int32)), .val (.int c0), .val (.int c1), .val (.int c2), .val (.int c3), .val (.ref b66), .val (.int av), .unset, .val (.int (1 : Int32)), .unset] [])
              refine Goes.on (T' := T99) (g' := (mkF m 300 #[.val (.int ya0), .val (.int ya1), .val (.int ya2), .val (.int ya3), .val (.int ya4), .val (.int (3 : Int32)), .val (.int c0), .val (.int c1), .val (.int c2), .val (.int c3), .val (.ref b66), .val (.int av), .unset, .val (.int (1 : Int32)), .unset] [(.int (0 : Int32))])) ?_ (fun t_ k_ => XS.iconst X99.here hx rfl (hb hby at_299) k_)
              refine Goes.on (T' := T99) (g' := (mkF m 302 #[.val (.int ya0), .val (.int ya1), .val (.int ya2), .val (.int ya3), .val (.int ya4), .val (.int (3 : Int32)), .val (.int c0), .val (.int c1), .val (.int c2), .val (.int c3), .val (.ref b66), .val (.int av), .unset, .val (.int (1 : Int32)), .val (.int (0 : Int32))] [])) ?_ (fun t_ k_ => XS.istore X99.here hx rfl (hb hby at_300) rfl (l' := #[.val (.int ya0), .val (.int ya1), .val (.int ya2), .val (.int ya3), .val (.int ya4), .val (.int (3 : Int32)), .val (.int c0), .val (.int c1), .val (.int c2), .val (.int c3), .val (.ref b66), .val (.int av), .unset, .val (.int (1 : Int32)), .val (.int (0 : Int32))]) rfl k_)
              refine Goes.on (T' := T99) (g' := (mkF m 304 #[.val (.int ya0), .val (.int ya1), .val (.int ya2), .val (.int ya3), .val (.int ya4), .val (.int (3 : Int32)), .val (.int c0), .val (.int c1), .val (.int c2), .val (.int c3), .val (.ref b66), .val (.int av), .unset, .val (.int (1 : Int32)), .val (.int (0 : Int32))] [(.int (1 : Int32))])) ?_ (fun t_ k_ => XS.iload X99.here hx rfl (hb hby at_302) rfl k_)
              refine Goes.on (T' := T99) (g' := (mkF m 316 #[.val (.int ya0), .val (.int ya1), .val (.int ya2), .val (.int ya3), .val (.int ya4), .val (.int (3 : Int32)), .val (.int c0), .val (.int c1), .val (.int c2), .val (.int c3), .val (.ref b66), .val (.int av), .unset, .val (.int (1 : Int32)), .val (.int (0 : Int32))] [])) ?_ (fun t_ k_ => XS.ifYes X99.here hx rfl (pc0 := 304) (pc' := 316) rfl (hb hby at_304) rfl (by decide) (by decide) (by decide) k_)
              refine Goes.on (T' := T99) (g' := (mkF m 317 #[.val (.int ya0), .val (.int ya1), .val (.int ya2), .val (.int ya3), .val (.int ya4), .val (.int (3 : Int32)), .val (.int c0), .val (.int c1), .val (.int c2), .val (.int c3), .val (.ref b66), .val (.int av), .unset, .val (.int (1 : Int32)), .val (.int (0 : Int32))] [(.int (0 : Int32))])) ?_ (fun t_ k_ => XS.iconst X99.here hx rfl (hb hby at_316) k_)
              refine Goes.on (T' := T99) (g' := (mkF m 319 #[.val (.int ya0), .val (.int ya1), .val (.int ya2), .val (.int ya3), .val (.int ya4), .val (.int (3 : Int32)), .val (.int c0), .val (.int c1), .val (.int c2), .val (.int c3), .val (.ref b66), .val (.int av), .val (.int (0 : Int32)), .val (.int (1 : Int32)), .val (.int (0 : Int32))] [])) ?_ (fun t_ k_ => XS.istore X99.here hx rfl (hb hby at_317) rfl (l' := #[.val (.int ya0), .val (.int ya1), .val (.int ya2), .val (.int ya3), .val (.int ya4), .val (.int (3 : Int32)), .val (.int c0), .val (.int c1), .val (.int c2), .val (.int c3), .val (.ref b66), .val (.int av), .val (.int (0 : Int32)), .val (.int (1 : Int32)), .val (.int (0 : Int32))]) rfl k_)
              refine Goes.on (T' := T99) (g' := (mkF m 321 #[.val (.int ya0), .val (.int ya1), .val (.int ya2), .val (.int ya3), .val (.int ya4), .val (.int (3 : Int32)), .val (.int c0), .val (.int c1), .val (.int c2), .val (.int c3), .val (.ref b66), .val (.int av), .val (.int (0 : Int32)), .val (.int (1 : Int32)), .val (.int (0 : Int32))] [(.int av)])) ?_ (fun t_ k_ => XS.iload X99.here hx rfl (hb hby at_319) rfl k_)
              refine Goes.on (T' := T99) (g' := (mkF m 323 #[.val (.int ya0), .val (.int ya1), .val (.int ya2), .val (.int ya3), .val (.int ya4), .val (.int (3 : Int32)), .val (.int c0), .val (.int c1), .val (.int c2), .val (.int c3), .val (.ref b66), .val (.int av), .val (.int (0 : Int32)), .val (.int (1 : Int32)), .val (.int (0 : Int32))] [(.int (0 : Int32)), (.int av)])) ?_ (fun t_ k_ => XS.iload X99.here hx rfl (hb hby at_321) rfl k_)
              refine Goes.on (T' := T99) (g' := (mkF m 326 #[.val (.int ya0), .val (.int ya1), .val (.int ya2), .val (.int ya3), .val (.int ya4), .val (.int (3 : Int32)), .val (.int c0), .val (.int c1), .val (.int c2), .val (.int c3), .val (.ref b66), .val (.int av), .val (.int (0 : Int32)), .val (.int (1 : Int32)), .val (.int (0 : Int32))] [])) ?_ (fun t_ k_ => XS.icmpNo X99.here hx rfl (hb hby at_323) rfl (teq (show av = (0 : Int32) from by rw [hav, own_ivn3]; simp only [eq_false hc219, eq_true hc232, eq_true hc278, eq_true hc285, eq_false hc292, if_true, if_false, ↓reduceIte, not_true_eq_false, not_false_eq_true, true_and, and_true, false_and, and_false, or_true, true_or, or_false, false_or, and_self, or_self])).2 k_)
              refine Goes.on (T' := T99) (g' := (mkF m 327 #[.val (.int ya0), .val (.int ya1), .val (.int ya2), .val (.int ya3), .val (.int ya4), .val (.int (3 : Int32)), .val (.int c0), .val (.int c1), .val (.int c2), .val (.int c3), .val (.ref b66), .val (.int av), .val (.int (0 : Int32)), .val (.int (1 : Int32)), .val (.int (0 : Int32))] [(.int (1 : Int32))])) ?_ (fun t_ k_ => XS.iconst X99.here hx rfl (hb hby at_326) k_)
              refine Goes.on (T' := T99) (g' := (mkF m 331 #[.val (.int ya0), .val (.int ya1), .val (.int ya2), .val (.int ya3), .val (.int ya4), .val (.int (3 : Int32)), .val (.int c0), .val (.int c1), .val (.int c2), .val (.int c3), .val (.ref b66), .val (.int av), .val (.int (0 : Int32)), .val (.int (1 : Int32)), .val (.int (0 : Int32))] [(.int (1 : Int32))])) ?_ (fun t_ k_ => XS.goto X99.here hx rfl (pc0 := 327) (pc' := 331) rfl (hb hby at_327) (by decide) (by decide) k_)
              rw [hWd]
              exact Goes.retnW X99 hS99 (Nat.le_refl _) (v := some (.int (nar .boolean (1 : Int32)))) (fun fs hr => retN X99 hx (t := .boolean) Bd.returns (by simp) (hb hby at_331) hr) (fun h => by rw [Bd.returns] at h; cases h) Bd.notSynchronized (by decide) (by decide) ⟨rfl, N99⟩
            · show Goes p e below W T99 (mkF m 295 #[.val (.int ya0), .val (.int ya1), .val (.int ya2), .val (.int ya3), .val (.int ya4), .val (.int (3 : Int32)), .val (.int c0), .val (.int c1), .val (.int c2), .val (.int c3), .val (.ref b66), .val (.int av), .unset, .val (.int (1 : Int32)), .unset] [])
              refine Goes.on (T' := T99) (g' := (mkF m 296 #[.val (.int ya0), .val (.int ya1), .val (.int ya2), .val (.int ya3), .val (.int ya4), .val (.int (3 : Int32)), .val (.int c0), .val (.int c1), .val (.int c2), .val (.int c3), .val (.ref b66), .val (.int av), .unset, .val (.int (1 : Int32)), .unset] [(.int (1 : Int32))])) ?_ (fun t_ k_ => XS.iconst X99.here hx rfl (hb hby at_295) k_)
              refine Goes.on (T' := T99) (g' := (mkF m 300 #[.val (.int ya0), .val (.int ya1), .val (.int ya2), .val (.int ya3), .val (.int ya4), .val (.int (3 : Int32)), .val (.int c0), .val (.int c1), .val (.int c2), .val (.int c3), .val (.ref b66), .val (.int av), .unset, .val (.int (1 : Int32)), .unset] [(.int (1 : Int32))])) ?_ (fun t_ k_ => XS.goto X99.here hx rfl (pc0 := 296) (pc' := 300) rfl (hb hby at_296) (by decide) (by decide) k_)
              refine Goes.on (T' := T99) (g' := (mkF m 302 #[.val (.int ya0), .val (.int ya1), .val (.int ya2), .val (.int ya3), .val (.int ya4), .val (.int (3 : Int32)), .val (.int c0), .val (.int c1), .val (.int c2), .val (.int c3), .val (.ref b66), .val (.int av), .unset, .val (.int (1 : Int32)), .val (.int (1 : Int32))] [])) ?_ (fun t_ k_ => XS.istore X99.here hx rfl (hb hby at_300) rfl (l' := #[.val (.int ya0), .val (.int ya1), .val (.int ya2), .val (.int ya3), .val (.int ya4), .val (.int (3 : Int32)), .val (.int c0), .val (.int c1), .val (.int c2), .val (.int c3), .val (.ref b66), .val (.int av), .unset, .val (.int (1 : Int32)), .val (.int (1 : Int32))]) rfl k_)
              refine Goes.on (T' := T99) (g' := (mkF m 304 #[.val (.int ya0), .val (.int ya1), .val (.int ya2), .val (.int ya3), .val (.int ya4), .val (.int (3 : Int32)), .val (.int c0), .val (.int c1), .val (.int c2), .val (.int c3), .val (.ref b66), .val (.int av), .unset, .val (.int (1 : Int32)), .val (.int (1 : Int32))] [(.int (1 : Int32))])) ?_ (fun t_ k_ => XS.iload X99.here hx rfl (hb hby at_302) rfl k_)
              refine Goes.on (T' := T99) (g' := (mkF m 316 #[.val (.int ya0), .val (.int ya1), .val (.int ya2), .val (.int ya3), .val (.int ya4), .val (.int (3 : Int32)), .val (.int c0), .val (.int c1), .val (.int c2), .val (.int c3), .val (.ref b66), .val (.int av), .unset, .val (.int (1 : Int32)), .val (.int (1 : Int32))] [])) ?_ (fun t_ k_ => XS.ifYes X99.here hx rfl (pc0 := 304) (pc' := 316) rfl (hb hby at_304) rfl (by decide) (by decide) (by decide) k_)
              refine Goes.on (T' := T99) (g' := (mkF m 317 #[.val (.int ya0), .val (.int ya1), .val (.int ya2), .val (.int ya3), .val (.int ya4), .val (.int (3 : Int32)), .val (.int c0), .val (.int c1), .val (.int c2), .val (.int c3), .val (.ref b66), .val (.int av), .unset, .val (.int (1 : Int32)), .val (.int (1 : Int32))] [(.int (0 : Int32))])) ?_ (fun t_ k_ => XS.iconst X99.here hx rfl (hb hby at_316) k_)
              refine Goes.on (T' := T99) (g' := (mkF m 319 #[.val (.int ya0), .val (.int ya1), .val (.int ya2), .val (.int ya3), .val (.int ya4), .val (.int (3 : Int32)), .val (.int c0), .val (.int c1), .val (.int c2), .val (.int c3), .val (.ref b66), .val (.int av), .val (.int (0 : Int32)), .val (.int (1 : Int32)), .val (.int (1 : Int32))] [])) ?_ (fun t_ k_ => XS.istore X99.here hx rfl (hb hby at_317) rfl (l' := #[.val (.int ya0), .val (.int ya1), .val (.int ya2), .val (.int ya3), .val (.int ya4), .val (.int (3 : Int32)), .val (.int c0), .val (.int c1), .val (.int c2), .val (.int c3), .val (.ref b66), .val (.int av), .val (.int (0 : Int32)), .val (.int (1 : Int32)), .val (.int (1 : Int32))]) rfl k_)
              refine Goes.on (T' := T99) (g' := (mkF m 321 #[.val (.int ya0), .val (.int ya1), .val (.int ya2), .val (.int ya3), .val (.int ya4), .val (.int (3 : Int32)), .val (.int c0), .val (.int c1), .val (.int c2), .val (.int c3), .val (.ref b66), .val (.int av), .val (.int (0 : Int32)), .val (.int (1 : Int32)), .val (.int (1 : Int32))] [(.int av)])) ?_ (fun t_ k_ => XS.iload X99.here hx rfl (hb hby at_319) rfl k_)
              refine Goes.on (T' := T99) (g' := (mkF m 323 #[.val (.int ya0), .val (.int ya1), .val (.int ya2), .val (.int ya3), .val (.int ya4), .val (.int (3 : Int32)), .val (.int c0), .val (.int c1), .val (.int c2), .val (.int c3), .val (.ref b66), .val (.int av), .val (.int (0 : Int32)), .val (.int (1 : Int32)), .val (.int (1 : Int32))] [(.int (0 : Int32)), (.int av)])) ?_ (fun t_ k_ => XS.iload X99.here hx rfl (hb hby at_321) rfl k_)
              refine Goes.on (T' := T99) (g' := (mkF m 326 #[.val (.int ya0), .val (.int ya1), .val (.int ya2), .val (.int ya3), .val (.int ya4), .val (.int (3 : Int32)), .val (.int c0), .val (.int c1), .val (.int c2), .val (.int c3), .val (.ref b66), .val (.int av), .val (.int (0 : Int32)), .val (.int (1 : Int32)), .val (.int (1 : Int32))] [])) ?_ (fun t_ k_ => XS.icmpNo X99.here hx rfl (hb hby at_323) rfl (teq (show av = (0 : Int32) from by rw [hav, own_ivn3]; simp only [eq_false hc219, eq_true hc232, eq_true hc278, eq_true hc285, eq_true hc292, if_true, if_false, ↓reduceIte, not_true_eq_false, not_false_eq_true, true_and, and_true, false_and, and_false, or_true, true_or, or_false, false_or, and_self, or_self])).2 k_)
              refine Goes.on (T' := T99) (g' := (mkF m 327 #[.val (.int ya0), .val (.int ya1), .val (.int ya2), .val (.int ya3), .val (.int ya4), .val (.int (3 : Int32)), .val (.int c0), .val (.int c1), .val (.int c2), .val (.int c3), .val (.ref b66), .val (.int av), .val (.int (0 : Int32)), .val (.int (1 : Int32)), .val (.int (1 : Int32))] [(.int (1 : Int32))])) ?_ (fun t_ k_ => XS.iconst X99.here hx rfl (hb hby at_326) k_)
              refine Goes.on (T' := T99) (g' := (mkF m 331 #[.val (.int ya0), .val (.int ya1), .val (.int ya2), .val (.int ya3), .val (.int ya4), .val (.int (3 : Int32)), .val (.int c0), .val (.int c1), .val (.int c2), .val (.int c3), .val (.ref b66), .val (.int av), .val (.int (0 : Int32)), .val (.int (1 : Int32)), .val (.int (1 : Int32))] [(.int (1 : Int32))])) ?_ (fun t_ k_ => XS.goto X99.here hx rfl (pc0 := 327) (pc' := 331) rfl (hb hby at_327) (by decide) (by decide) k_)
              rw [hWd]
              exact Goes.retnW X99 hS99 (Nat.le_refl _) (v := some (.int (nar .boolean (1 : Int32)))) (fun fs hr => retN X99 hx (t := .boolean) Bd.returns (by simp) (hb hby at_331) hr) (fun h => by rw [Bd.returns] at h; cases h) Bd.notSynchronized (by decide) (by decide) ⟨rfl, N99⟩
      · show Goes p e below W T99 (mkF m 235 #[.val (.int ya0), .val (.int ya1), .val (.int ya2), .val (.int ya3), .val (.int ya4), .val (.int (3 : Int32)), .val (.int c0), .val (.int c1), .val (.int c2), .val (.int c3), .val (.ref b66), .val (.int av), .unset, .unset, .unset] [])
        refine Goes.on (T' := T99) (g' := (mkF m 237 #[.val (.int ya0), .val (.int ya1), .val (.int ya2), .val (.int ya3), .val (.int ya4), .val (.int (3 : Int32)), .val (.int c0), .val (.int c1), .val (.int c2), .val (.int c3), .val (.ref b66), .val (.int av), .unset, .unset, .unset] [(.int (3 : Int32))])) ?_ (fun t_ k_ => XS.iload X99.here hx rfl (hb hby at_235) rfl k_)
        refine Goes.on (T' := T99) (g' := (mkF m 238 #[.val (.int ya0), .val (.int ya1), .val (.int ya2), .val (.int ya3), .val (.int ya4), .val (.int (3 : Int32)), .val (.int c0), .val (.int c1), .val (.int c2), .val (.int c3), .val (.ref b66), .val (.int av), .unset, .unset, .unset] [(.int (3 : Int32)), (.int (3 : Int32))])) ?_ (fun t_ k_ => XS.iconst X99.here hx rfl (hb hby at_237) k_)
        refine Goes.on (T' := T99) (g' := (mkF m 241 #[.val (.int ya0), .val (.int ya1), .val (.int ya2), .val (.int ya3), .val (.int ya4), .val (.int (3 : Int32)), .val (.int c0), .val (.int c1), .val (.int c2), .val (.int c3), .val (.ref b66), .val (.int av), .unset, .unset, .unset] [])) ?_ (fun t_ k_ => XS.icmpNo X99.here hx rfl (hb hby at_238) rfl (by decide) k_)
        refine Goes.on (T' := T99) (g' := (mkF m 243 #[.val (.int ya0), .val (.int ya1), .val (.int ya2), .val (.int ya3), .val (.int ya4), .val (.int (3 : Int32)), .val (.int c0), .val (.int c1), .val (.int c2), .val (.int c3), .val (.ref b66), .val (.int av), .unset, .unset, .unset] [(.int c2)])) ?_ (fun t_ k_ => XS.iload X99.here hx rfl (hb hby at_241) rfl k_)
        refine Goes.on (T' := T99) (g' := (mkF m 245 #[.val (.int ya0), .val (.int ya1), .val (.int ya2), .val (.int ya3), .val (.int ya4), .val (.int (3 : Int32)), .val (.int c0), .val (.int c1), .val (.int c2), .val (.int c3), .val (.ref b66), .val (.int av), .unset, .unset, .unset] [(.int (47 : Int32)), (.int c2)])) ?_ (fun t_ k_ => XS.bipush X99.here hx rfl (hb hby at_243) k_)
        refine Goes.icmpP X99 hx rfl (pc0 := 245) (pc' := 261) rfl (hb hby at_245) rfl (by decide) (by decide) (P := c2 = (47 : Int32)) (cmp_eq _ _) (fun hc245 => ?_) (fun hc245 => ?_)
        · show Goes p e below W T99 (mkF m 261 #[.val (.int ya0), .val (.int ya1), .val (.int ya2), .val (.int ya3), .val (.int ya4), .val (.int (3 : Int32)), .val (.int c0), .val (.int c1), .val (.int c2), .val (.int c3), .val (.ref b66), .val (.int av), .unset, .unset, .unset] [])
          refine Goes.on (T' := T99) (g' := (mkF m 262 #[.val (.int ya0), .val (.int ya1), .val (.int ya2), .val (.int ya3), .val (.int ya4), .val (.int (3 : Int32)), .val (.int c0), .val (.int c1), .val (.int c2), .val (.int c3), .val (.ref b66), .val (.int av), .unset, .unset, .unset] [(.int (1 : Int32))])) ?_ (fun t_ k_ => XS.iconst X99.here hx rfl (hb hby at_261) k_)
          refine Goes.on (T' := T99) (g' := (mkF m 266 #[.val (.int ya0), .val (.int ya1), .val (.int ya2), .val (.int ya3), .val (.int ya4), .val (.int (3 : Int32)), .val (.int c0), .val (.int c1), .val (.int c2), .val (.int c3), .val (.ref b66), .val (.int av), .unset, .unset, .unset] [(.int (1 : Int32))])) ?_ (fun t_ k_ => XS.goto X99.here hx rfl (pc0 := 262) (pc' := 266) rfl (hb hby at_262) (by decide) (by decide) k_)
          refine Goes.on (T' := T99) (g' := (mkF m 268 #[.val (.int ya0), .val (.int ya1), .val (.int ya2), .val (.int ya3), .val (.int ya4), .val (.int (3 : Int32)), .val (.int c0), .val (.int c1), .val (.int c2), .val (.int c3), .val (.ref b66), .val (.int av), .unset, .val (.int (1 : Int32)), .unset] [])) ?_ (fun t_ k_ => XS.istore X99.here hx rfl (hb hby at_266) rfl (l' := #[.val (.int ya0), .val (.int ya1), .val (.int ya2), .val (.int ya3), .val (.int ya4), .val (.int (3 : Int32)), .val (.int c0), .val (.int c1), .val (.int c2), .val (.int c3), .val (.ref b66), .val (.int av), .unset, .val (.int (1 : Int32)), .unset]) rfl k_)
          refine Goes.on (T' := T99) (g' := (mkF m 270 #[.val (.int ya0), .val (.int ya1), .val (.int ya2), .val (.int ya3), .val (.int ya4), .val (.int (3 : Int32)), .val (.int c0), .val (.int c1), .val (.int c2), .val (.int c3), .val (.ref b66), .val (.int av), .unset, .val (.int (1 : Int32)), .unset] [(.int (3 : Int32))])) ?_ (fun t_ k_ => XS.iload X99.here hx rfl (hb hby at_268) rfl k_)
          refine Goes.on (T' := T99) (g' := (mkF m 271 #[.val (.int ya0), .val (.int ya1), .val (.int ya2), .val (.int ya3), .val (.int ya4), .val (.int (3 : Int32)), .val (.int c0), .val (.int c1), .val (.int c2), .val (.int c3), .val (.ref b66), .val (.int av), .unset, .val (.int (1 : Int32)), .unset] [(.int (3 : Int32)), (.int (3 : Int32))])) ?_ (fun t_ k_ => XS.iconst X99.here hx rfl (hb hby at_270) k_)
          refine Goes.on (T' := T99) (g' := (mkF m 274 #[.val (.int ya0), .val (.int ya1), .val (.int ya2), .val (.int ya3), .val (.int ya4), .val (.int (3 : Int32)), .val (.int c0), .val (.int c1), .val (.int c2), .val (.int c3), .val (.ref b66), .val (.int av), .unset, .val (.int (1 : Int32)), .unset] [])) ?_ (fun t_ k_ => XS.icmpNo X99.here hx rfl (hb hby at_271) rfl (by decide) k_)
          refine Goes.on (T' := T99) (g' := (mkF m 276 #[.val (.int ya0), .val (.int ya1), .val (.int ya2), .val (.int ya3), .val (.int ya4), .val (.int (3 : Int32)), .val (.int c0), .val (.int c1), .val (.int c2), .val (.int c3), .val (.ref b66), .val (.int av), .unset, .val (.int (1 : Int32)), .unset] [(.int c0)])) ?_ (fun t_ k_ => XS.iload X99.here hx rfl (hb hby at_274) rfl k_)
          refine Goes.on (T' := T99) (g' := (mkF m 278 #[.val (.int ya0), .val (.int ya1), .val (.int ya2), .val (.int ya3), .val (.int ya4), .val (.int (3 : Int32)), .val (.int c0), .val (.int c1), .val (.int c2), .val (.int c3), .val (.ref b66), .val (.int av), .unset, .val (.int (1 : Int32)), .unset] [(.int (58 : Int32)), (.int c0)])) ?_ (fun t_ k_ => XS.bipush X99.here hx rfl (hb hby at_276) k_)
          refine Goes.icmpN X99 hx rfl (pc0 := 278) (pc' := 299) rfl (hb hby at_278) rfl (by decide) (by decide) (P := c0 = (58 : Int32)) (cmp_ne _ _) (fun hc278 => ?_) (fun hc278 => ?_)
          · show Goes p e below W T99 (mkF m 299 #[.val (.int ya0), .val (.int ya1), .val (.int ya2), .val (.int ya3), .val (.int ya4), .val (.int (3 : Int32)), .val (.int c0), .val (.int c1), .val (.int c2), .val (.int c3), .val (.ref b66), .val (.int av), .unset, .val (.int (1 : Int32)), .unset] [])
            refine Goes.on (T' := T99) (g' := (mkF m 300 #[.val (.int ya0), .val (.int ya1), .val (.int ya2), .val (.int ya3), .val (.int ya4), .val (.int (3 : Int32)), .val (.int c0), .val (.int c1), .val (.int c2), .val (.int c3), .val (.ref b66), .val (.int av), .unset, .val (.int (1 : Int32)), .unset] [(.int (0 : Int32))])) ?_ (fun t_ k_ => XS.iconst X99.here hx rfl (hb hby at_299) k_)
            refine Goes.on (T' := T99) (g' := (mkF m 302 #[.val (.int ya0), .val (.int ya1), .val (.int ya2), .val (.int ya3), .val (.int ya4), .val (.int (3 : Int32)), .val (.int c0), .val (.int c1), .val (.int c2), .val (.int c3), .val (.ref b66), .val (.int av), .unset, .val (.int (1 : Int32)), .val (.int (0 : Int32))] [])) ?_ (fun t_ k_ => XS.istore X99.here hx rfl (hb hby at_300) rfl (l' := #[.val (.int ya0), .val (.int ya1), .val (.int ya2), .val (.int ya3), .val (.int ya4), .val (.int (3 : Int32)), .val (.int c0), .val (.int c1), .val (.int c2), .val (.int c3), .val (.ref b66), .val (.int av), .unset, .val (.int (1 : Int32)), .val (.int (0 : Int32))]) rfl k_)
            refine Goes.on (T' := T99) (g' := (mkF m 304 #[.val (.int ya0), .val (.int ya1), .val (.int ya2), .val (.int ya3), .val (.int ya4), .val (.int (3 : Int32)), .val (.int c0), .val (.int c1), .val (.int c2), .val (.int c3), .val (.ref b66), .val (.int av), .unset, .val (.int (1 : Int32)), .val (.int (0 : Int32))] [(.int (1 : Int32))])) ?_ (fun t_ k_ => XS.iload X99.here hx rfl (hb hby at_302) rfl k_)
            refine Goes.on (T' := T99) (g' := (mkF m 316 #[.val (.int ya0), .val (.int ya1), .val (.int ya2), .val (.int ya3), .val (.int ya4), .val (.int (3 : Int32)), .val (.int c0), .val (.int c1), .val (.int c2), .val (.int c3), .val (.ref b66), .val (.int av), .unset, .val (.int (1 : Int32)), .val (.int (0 : Int32))] [])) ?_ (fun t_ k_ => XS.ifYes X99.here hx rfl (pc0 := 304) (pc' := 316) rfl (hb hby at_304) rfl (by decide) (by decide) (by decide) k_)
            refine Goes.on (T' := T99) (g' := (mkF m 317 #[.val (.int ya0), .val (.int ya1), .val (.int ya2), .val (.int ya3), .val (.int ya4), .val (.int (3 : Int32)), .val (.int c0), .val (.int c1), .val (.int c2), .val (.int c3), .val (.ref b66), .val (.int av), .unset, .val (.int (1 : Int32)), .val (.int (0 : Int32))] [(.int (0 : Int32))])) ?_ (fun t_ k_ => XS.iconst X99.here hx rfl (hb hby at_316) k_)
            refine Goes.on (T' := T99) (g' := (mkF m 319 #[.val (.int ya0), .val (.int ya1), .val (.int ya2), .val (.int ya3), .val (.int ya4), .val (.int (3 : Int32)), .val (.int c0), .val (.int c1), .val (.int c2), .val (.int c3), .val (.ref b66), .val (.int av), .val (.int (0 : Int32)), .val (.int (1 : Int32)), .val (.int (0 : Int32))] [])) ?_ (fun t_ k_ => XS.istore X99.here hx rfl (hb hby at_317) rfl (l' := #[.val (.int ya0), .val (.int ya1), .val (.int ya2), .val (.int ya3), .val (.int ya4), .val (.int (3 : Int32)), .val (.int c0), .val (.int c1), .val (.int c2), .val (.int c3), .val (.ref b66), .val (.int av), .val (.int (0 : Int32)), .val (.int (1 : Int32)), .val (.int (0 : Int32))]) rfl k_)
            refine Goes.on (T' := T99) (g' := (mkF m 321 #[.val (.int ya0), .val (.int ya1), .val (.int ya2), .val (.int ya3), .val (.int ya4), .val (.int (3 : Int32)), .val (.int c0), .val (.int c1), .val (.int c2), .val (.int c3), .val (.ref b66), .val (.int av), .val (.int (0 : Int32)), .val (.int (1 : Int32)), .val (.int (0 : Int32))] [(.int av)])) ?_ (fun t_ k_ => XS.iload X99.here hx rfl (hb hby at_319) rfl k_)
            refine Goes.on (T' := T99) (g' := (mkF m 323 #[.val (.int ya0), .val (.int ya1), .val (.int ya2), .val (.int ya3), .val (.int ya4), .val (.int (3 : Int32)), .val (.int c0), .val (.int c1), .val (.int c2), .val (.int c3), .val (.ref b66), .val (.int av), .val (.int (0 : Int32)), .val (.int (1 : Int32)), .val (.int (0 : Int32))] [(.int (0 : Int32)), (.int av)])) ?_ (fun t_ k_ => XS.iload X99.here hx rfl (hb hby at_321) rfl k_)
            refine Goes.on (T' := T99) (g' := (mkF m 326 #[.val (.int ya0), .val (.int ya1), .val (.int ya2), .val (.int ya3), .val (.int ya4), .val (.int (3 : Int32)), .val (.int c0), .val (.int c1), .val (.int c2), .val (.int c3), .val (.ref b66), .val (.int av), .val (.int (0 : Int32)), .val (.int (1 : Int32)), .val (.int (0 : Int32))] [])) ?_ (fun t_ k_ => XS.icmpNo X99.here hx rfl (hb hby at_323) rfl (teq (show av = (0 : Int32) from by rw [hav, own_ivn3]; simp only [eq_false hc219, eq_false hc232, eq_true hc245, eq_false hc278, if_true, if_false, ↓reduceIte, not_true_eq_false, not_false_eq_true, true_and, and_true, false_and, and_false, or_true, true_or, or_false, false_or, and_self, or_self])).2 k_)
            refine Goes.on (T' := T99) (g' := (mkF m 327 #[.val (.int ya0), .val (.int ya1), .val (.int ya2), .val (.int ya3), .val (.int ya4), .val (.int (3 : Int32)), .val (.int c0), .val (.int c1), .val (.int c2), .val (.int c3), .val (.ref b66), .val (.int av), .val (.int (0 : Int32)), .val (.int (1 : Int32)), .val (.int (0 : Int32))] [(.int (1 : Int32))])) ?_ (fun t_ k_ => XS.iconst X99.here hx rfl (hb hby at_326) k_)
            refine Goes.on (T' := T99) (g' := (mkF m 331 #[.val (.int ya0), .val (.int ya1), .val (.int ya2), .val (.int ya3), .val (.int ya4), .val (.int (3 : Int32)), .val (.int c0), .val (.int c1), .val (.int c2), .val (.int c3), .val (.ref b66), .val (.int av), .val (.int (0 : Int32)), .val (.int (1 : Int32)), .val (.int (0 : Int32))] [(.int (1 : Int32))])) ?_ (fun t_ k_ => XS.goto X99.here hx rfl (pc0 := 327) (pc' := 331) rfl (hb hby at_327) (by decide) (by decide) k_)
            rw [hWd]
            exact Goes.retnW X99 hS99 (Nat.le_refl _) (v := some (.int (nar .boolean (1 : Int32)))) (fun fs hr => retN X99 hx (t := .boolean) Bd.returns (by simp) (hb hby at_331) hr) (fun h => by rw [Bd.returns] at h; cases h) Bd.notSynchronized (by decide) (by decide) ⟨rfl, N99⟩
          · show Goes p e below W T99 (mkF m 281 #[.val (.int ya0), .val (.int ya1), .val (.int ya2), .val (.int ya3), .val (.int ya4), .val (.int (3 : Int32)), .val (.int c0), .val (.int c1), .val (.int c2), .val (.int c3), .val (.ref b66), .val (.int av), .unset, .val (.int (1 : Int32)), .unset] [])
            refine Goes.on (T' := T99) (g' := (mkF m 283 #[.val (.int ya0), .val (.int ya1), .val (.int ya2), .val (.int ya3), .val (.int ya4), .val (.int (3 : Int32)), .val (.int c0), .val (.int c1), .val (.int c2), .val (.int c3), .val (.ref b66), .val (.int av), .unset, .val (.int (1 : Int32)), .unset] [(.int c1)])) ?_ (fun t_ k_ => XS.iload X99.here hx rfl (hb hby at_281) rfl k_)
            refine Goes.on (T' := T99) (g' := (mkF m 285 #[.val (.int ya0), .val (.int ya1), .val (.int ya2), .val (.int ya3), .val (.int ya4), .val (.int (3 : Int32)), .val (.int c0), .val (.int c1), .val (.int c2), .val (.int c3), .val (.ref b66), .val (.int av), .unset, .val (.int (1 : Int32)), .unset] [(.int (105 : Int32)), (.int c1)])) ?_ (fun t_ k_ => XS.bipush X99.here hx rfl (hb hby at_283) k_)
            refine Goes.icmpN X99 hx rfl (pc0 := 285) (pc' := 299) rfl (hb hby at_285) rfl (by decide) (by decide) (P := c1 = (105 : Int32)) (cmp_ne _ _) (fun hc285 => ?_) (fun hc285 => ?_)
            · show Goes p e below W T99 (mkF m 299 #[.val (.int ya0), .val (.int ya1), .val (.int ya2), .val (.int ya3), .val (.int ya4), .val (.int (3 : Int32)), .val (.int c0), .val (.int c1), .val (.int c2), .val (.int c3), .val (.ref b66), .val (.int av), .unset, .val (.int (1 : Int32)), .unset] [])
              refine Goes.on (T' := T99) (g' := (mkF m 300 #[.val (.int ya0), .val (.int ya1), .val (.int ya2), .val (.int ya3), .val (.int ya4), .val (.int (3 : Int32)), .val (.int c0), .val (.int c1), .val (.int c2), .val (.int c3), .val (.ref b66), .val (.int av), .unset, .val (.int (1 : Int32)), .unset] [(.int (0 : Int32))])) ?_ (fun t_ k_ => XS.iconst X99.here hx rfl (hb hby at_299) k_)
              refine Goes.on (T' := T99) (g' := (mkF m 302 #[.val (.int ya0), .val (.int ya1), .val (.int ya2), .val (.int ya3), .val (.int ya4), .val (.int (3 : Int32)), .val (.int c0), .val (.int c1), .val (.int c2), .val (.int c3), .val (.ref b66), .val (.int av), .unset, .val (.int (1 : Int32)), .val (.int (0 : Int32))] [])) ?_ (fun t_ k_ => XS.istore X99.here hx rfl (hb hby at_300) rfl (l' := #[.val (.int ya0), .val (.int ya1), .val (.int ya2), .val (.int ya3), .val (.int ya4), .val (.int (3 : Int32)), .val (.int c0), .val (.int c1), .val (.int c2), .val (.int c3), .val (.ref b66), .val (.int av), .unset, .val (.int (1 : Int32)), .val (.int (0 : Int32))]) rfl k_)
              refine Goes.on (T' := T99) (g' := (mkF m 304 #[.val (.int ya0), .val (.int ya1), .val (.int ya2), .val (.int ya3), .val (.int ya4), .val (.int (3 : Int32)), .val (.int c0), .val (.int c1), .val (.int c2), .val (.int c3), .val (.ref b66), .val (.int av), .unset, .val (.int (1 : Int32)), .val (.int (0 : Int32))] [(.int (1 : Int32))])) ?_ (fun t_ k_ => XS.iload X99.here hx rfl (hb hby at_302) rfl k_)
              refine Goes.on (T' := T99) (g' := (mkF m 316 #[.val (.int ya0), .val (.int ya1), .val (.int ya2), .val (.int ya3), .val (.int ya4), .val (.int (3 : Int32)), .val (.int c0), .val (.int c1), .val (.int c2), .val (.int c3), .val (.ref b66), .val (.int av), .unset, .val (.int (1 : Int32)), .val (.int (0 : Int32))] [])) ?_ (fun t_ k_ => XS.ifYes X99.here hx rfl (pc0 := 304) (pc' := 316) rfl (hb hby at_304) rfl (by decide) (by decide) (by decide) k_)
              refine Goes.on (T' := T99) (g' := (mkF m 317 #[.val (.int ya0), .val (.int ya1), .val (.int ya2), .val (.int ya3), .val (.int ya4), .val (.int (3 : Int32)), .val (.int c0), .val (.int c1), .val (.int c2), .val (.int c3), .val (.ref b66), .val (.int av), .unset, .val (.int (1 : Int32)), .val (.int (0 : Int32))] [(.int (0 : Int32))])) ?_ (fun t_ k_ => XS.iconst X99.here hx rfl (hb hby at_316) k_)
              refine Goes.on (T' := T99) (g' := (mkF m 319 #[.val (.int ya0), .val (.int ya1), .val (.int ya2), .val (.int ya3), .val (.int ya4), .val (.int (3 : Int32)), .val (.int c0), .val (.int c1), .val (.int c2), .val (.int c3), .val (.ref b66), .val (.int av), .val (.int (0 : Int32)), .val (.int (1 : Int32)), .val (.int (0 : Int32))] [])) ?_ (fun t_ k_ => XS.istore X99.here hx rfl (hb hby at_317) rfl (l' := #[.val (.int ya0), .val (.int ya1), .val (.int ya2), .val (.int ya3), .val (.int ya4), .val (.int (3 : Int32)), .val (.int c0), .val (.int c1), .val (.int c2), .val (.int c3), .val (.ref b66), .val (.int av), .val (.int (0 : Int32)), .val (.int (1 : Int32)), .val (.int (0 : Int32))]) rfl k_)
              refine Goes.on (T' := T99) (g' := (mkF m 321 #[.val (.int ya0), .val (.int ya1), .val (.int ya2), .val (.int ya3), .val (.int ya4), .val (.int (3 : Int32)), .val (.int c0), .val (.int c1), .val (.int c2), .val (.int c3), .val (.ref b66), .val (.int av), .val (.int (0 : Int32)), .val (.int (1 : Int32)), .val (.int (0 : Int32))] [(.int av)])) ?_ (fun t_ k_ => XS.iload X99.here hx rfl (hb hby at_319) rfl k_)
              refine Goes.on (T' := T99) (g' := (mkF m 323 #[.val (.int ya0), .val (.int ya1), .val (.int ya2), .val (.int ya3), .val (.int ya4), .val (.int (3 : Int32)), .val (.int c0), .val (.int c1), .val (.int c2), .val (.int c3), .val (.ref b66), .val (.int av), .val (.int (0 : Int32)), .val (.int (1 : Int32)), .val (.int (0 : Int32))] [(.int (0 : Int32)), (.int av)])) ?_ (fun t_ k_ => XS.iload X99.here hx rfl (hb hby at_321) rfl k_)
              refine Goes.on (T' := T99) (g' := (mkF m 326 #[.val (.int ya0), .val (.int ya1), .val (.int ya2), .val (.int ya3), .val (.int ya4), .val (.int (3 : Int32)), .val (.int c0), .val (.int c1), .val (.int c2), .val (.int c3), .val (.ref b66), .val (.int av), .val (.int (0 : Int32)), .val (.int (1 : Int32)), .val (.int (0 : Int32))] [])) ?_ (fun t_ k_ => XS.icmpNo X99.here hx rfl (hb hby at_323) rfl (teq (show av = (0 : Int32) from by rw [hav, own_ivn3]; simp only [eq_false hc219, eq_false hc232, eq_true hc245, eq_true hc278, eq_false hc285, if_true, if_false, ↓reduceIte, not_true_eq_false, not_false_eq_true, true_and, and_true, false_and, and_false, or_true, true_or, or_false, false_or, and_self, or_self])).2 k_)
              refine Goes.on (T' := T99) (g' := (mkF m 327 #[.val (.int ya0), .val (.int ya1), .val (.int ya2), .val (.int ya3), .val (.int ya4), .val (.int (3 : Int32)), .val (.int c0), .val (.int c1), .val (.int c2), .val (.int c3), .val (.ref b66), .val (.int av), .val (.int (0 : Int32)), .val (.int (1 : Int32)), .val (.int (0 : Int32))] [(.int (1 : Int32))])) ?_ (fun t_ k_ => XS.iconst X99.here hx rfl (hb hby at_326) k_)
              refine Goes.on (T' := T99) (g' := (mkF m 331 #[.val (.int ya0), .val (.int ya1), .val (.int ya2), .val (.int ya3), .val (.int ya4), .val (.int (3 : Int32)), .val (.int c0), .val (.int c1), .val (.int c2), .val (.int c3), .val (.ref b66), .val (.int av), .val (.int (0 : Int32)), .val (.int (1 : Int32)), .val (.int (0 : Int32))] [(.int (1 : Int32))])) ?_ (fun t_ k_ => XS.goto X99.here hx rfl (pc0 := 327) (pc' := 331) rfl (hb hby at_327) (by decide) (by decide) k_)
              rw [hWd]
              exact Goes.retnW X99 hS99 (Nat.le_refl _) (v := some (.int (nar .boolean (1 : Int32)))) (fun fs hr => retN X99 hx (t := .boolean) Bd.returns (by simp) (hb hby at_331) hr) (fun h => by rw [Bd.returns] at h; cases h) Bd.notSynchronized (by decide) (by decide) ⟨rfl, N99⟩
            · show Goes p e below W T99 (mkF m 288 #[.val (.int ya0), .val (.int ya1), .val (.int ya2), .val (.int ya3), .val (.int ya4), .val (.int (3 : Int32)), .val (.int c0), .val (.int c1), .val (.int c2), .val (.int c3), .val (.ref b66), .val (.int av), .unset, .val (.int (1 : Int32)), .unset] [])
              refine Goes.on (T' := T99) (g' := (mkF m 290 #[.val (.int ya0), .val (.int ya1), .val (.int ya2), .val (.int ya3), .val (.int ya4), .val (.int (3 : Int32)), .val (.int c0), .val (.int c1), .val (.int c2), .val (.int c3), .val (.ref b66), .val (.int av), .unset, .val (.int (1 : Int32)), .unset] [(.int c2)])) ?_ (fun t_ k_ => XS.iload X99.here hx rfl (hb hby at_288) rfl k_)
              refine Goes.on (T' := T99) (g' := (mkF m 292 #[.val (.int ya0), .val (.int ya1), .val (.int ya2), .val (.int ya3), .val (.int ya4), .val (.int (3 : Int32)), .val (.int c0), .val (.int c1), .val (.int c2), .val (.int c3), .val (.ref b66), .val (.int av), .unset, .val (.int (1 : Int32)), .unset] [(.int (100 : Int32)), (.int c2)])) ?_ (fun t_ k_ => XS.bipush X99.here hx rfl (hb hby at_290) k_)
              refine Goes.icmpN X99 hx rfl (pc0 := 292) (pc' := 299) rfl (hb hby at_292) rfl (by decide) (by decide) (P := c2 = (100 : Int32)) (cmp_ne _ _) (fun hc292 => ?_) (fun hc292 => ?_)
              · show Goes p e below W T99 (mkF m 299 #[.val (.int ya0), .val (.int ya1), .val (.int ya2), .val (.int ya3), .val (.int ya4), .val (.int (3 : Int32)), .val (.int c0), .val (.int c1), .val (.int c2), .val (.int c3), .val (.ref b66), .val (.int av), .unset, .val (.int (1 : Int32)), .unset] [])
                refine Goes.on (T' := T99) (g' := (mkF m 300 #[.val (.int ya0), .val (.int ya1), .val (.int ya2), .val (.int ya3), .val (.int ya4), .val (.int (3 : Int32)), .val (.int c0), .val (.int c1), .val (.int c2), .val (.int c3), .val (.ref b66), .val (.int av), .unset, .val (.int (1 : Int32)), .unset] [(.int (0 : Int32))])) ?_ (fun t_ k_ => XS.iconst X99.here hx rfl (hb hby at_299) k_)
                refine Goes.on (T' := T99) (g' := (mkF m 302 #[.val (.int ya0), .val (.int ya1), .val (.int ya2), .val (.int ya3), .val (.int ya4), .val (.int (3 : Int32)), .val (.int c0), .val (.int c1), .val (.int c2), .val (.int c3), .val (.ref b66), .val (.int av), .unset, .val (.int (1 : Int32)), .val (.int (0 : Int32))] [])) ?_ (fun t_ k_ => XS.istore X99.here hx rfl (hb hby at_300) rfl (l' := #[.val (.int ya0), .val (.int ya1), .val (.int ya2), .val (.int ya3), .val (.int ya4), .val (.int (3 : Int32)), .val (.int c0), .val (.int c1), .val (.int c2), .val (.int c3), .val (.ref b66), .val (.int av), .unset, .val (.int (1 : Int32)), .val (.int (0 : Int32))]) rfl k_)
                refine Goes.on (T' := T99) (g' := (mkF m 304 #[.val (.int ya0), .val (.int ya1), .val (.int ya2), .val (.int ya3), .val (.int ya4), .val (.int (3 : Int32)), .val (.int c0), .val (.int c1), .val (.int c2), .val (.int c3), .val (.ref b66), .val (.int av), .unset, .val (.int (1 : Int32)), .val (.int (0 : Int32))] [(.int (1 : Int32))])) ?_ (fun t_ k_ => XS.iload X99.here hx rfl (hb hby at_302) rfl k_)
                refine Goes.on (T' := T99) (g' := (mkF m 316 #[.val (.int ya0), .val (.int ya1), .val (.int ya2), .val (.int ya3), .val (.int ya4), .val (.int (3 : Int32)), .val (.int c0), .val (.int c1), .val (.int c2), .val (.int c3), .val (.ref b66), .val (.int av), .unset, .val (.int (1 : Int32)), .val (.int (0 : Int32))] [])) ?_ (fun t_ k_ => XS.ifYes X99.here hx rfl (pc0 := 304) (pc' := 316) rfl (hb hby at_304) rfl (by decide) (by decide) (by decide) k_)
                refine Goes.on (T' := T99) (g' := (mkF m 317 #[.val (.int ya0), .val (.int ya1), .val (.int ya2), .val (.int ya3), .val (.int ya4), .val (.int (3 : Int32)), .val (.int c0), .val (.int c1), .val (.int c2), .val (.int c3), .val (.ref b66), .val (.int av), .unset, .val (.int (1 : Int32)), .val (.int (0 : Int32))] [(.int (0 : Int32))])) ?_ (fun t_ k_ => XS.iconst X99.here hx rfl (hb hby at_316) k_)
                refine Goes.on (T' := T99) (g' := (mkF m 319 #[.val (.int ya0), .val (.int ya1), .val (.int ya2), .val (.int ya3), .val (.int ya4), .val (.int (3 : Int32)), .val (.int c0), .val (.int c1), .val (.int c2), .val (.int c3), .val (.ref b66), .val (.int av), .val (.int (0 : Int32)), .val (.int (1 : Int32)), .val (.int (0 : Int32))] [])) ?_ (fun t_ k_ => XS.istore X99.here hx rfl (hb hby at_317) rfl (l' := #[.val (.int ya0), .val (.int ya1), .val (.int ya2), .val (.int ya3), .val (.int ya4), .val (.int (3 : Int32)), .val (.int c0), .val (.int c1), .val (.int c2), .val (.int c3), .val (.ref b66), .val (.int av), .val (.int (0 : Int32)), .val (.int (1 : Int32)), .val (.int (0 : Int32))]) rfl k_)
                refine Goes.on (T' := T99) (g' := (mkF m 321 #[.val (.int ya0), .val (.int ya1), .val (.int ya2), .val (.int ya3), .val (.int ya4), .val (.int (3 : Int32)), .val (.int c0), .val (.int c1), .val (.int c2), .val (.int c3), .val (.ref b66), .val (.int av), .val (.int (0 : Int32)), .val (.int (1 : Int32)), .val (.int (0 : Int32))] [(.int av)])) ?_ (fun t_ k_ => XS.iload X99.here hx rfl (hb hby at_319) rfl k_)
                refine Goes.on (T' := T99) (g' := (mkF m 323 #[.val (.int ya0), .val (.int ya1), .val (.int ya2), .val (.int ya3), .val (.int ya4), .val (.int (3 : Int32)), .val (.int c0), .val (.int c1), .val (.int c2), .val (.int c3), .val (.ref b66), .val (.int av), .val (.int (0 : Int32)), .val (.int (1 : Int32)), .val (.int (0 : Int32))] [(.int (0 : Int32)), (.int av)])) ?_ (fun t_ k_ => XS.iload X99.here hx rfl (hb hby at_321) rfl k_)
                refine Goes.on (T' := T99) (g' := (mkF m 326 #[.val (.int ya0), .val (.int ya1), .val (.int ya2), .val (.int ya3), .val (.int ya4), .val (.int (3 : Int32)), .val (.int c0), .val (.int c1), .val (.int c2), .val (.int c3), .val (.ref b66), .val (.int av), .val (.int (0 : Int32)), .val (.int (1 : Int32)), .val (.int (0 : Int32))] [])) ?_ (fun t_ k_ => XS.icmpNo X99.here hx rfl (hb hby at_323) rfl (teq (show av = (0 : Int32) from by rw [hav, own_ivn3]; simp only [eq_false hc219, eq_false hc232, eq_true hc245, eq_true hc278, eq_true hc285, eq_false hc292, if_true, if_false, ↓reduceIte, not_true_eq_false, not_false_eq_true, true_and, and_true, false_and, and_false, or_true, true_or, or_false, false_or, and_self, or_self])).2 k_)
                refine Goes.on (T' := T99) (g' := (mkF m 327 #[.val (.int ya0), .val (.int ya1), .val (.int ya2), .val (.int ya3), .val (.int ya4), .val (.int (3 : Int32)), .val (.int c0), .val (.int c1), .val (.int c2), .val (.int c3), .val (.ref b66), .val (.int av), .val (.int (0 : Int32)), .val (.int (1 : Int32)), .val (.int (0 : Int32))] [(.int (1 : Int32))])) ?_ (fun t_ k_ => XS.iconst X99.here hx rfl (hb hby at_326) k_)
                refine Goes.on (T' := T99) (g' := (mkF m 331 #[.val (.int ya0), .val (.int ya1), .val (.int ya2), .val (.int ya3), .val (.int ya4), .val (.int (3 : Int32)), .val (.int c0), .val (.int c1), .val (.int c2), .val (.int c3), .val (.ref b66), .val (.int av), .val (.int (0 : Int32)), .val (.int (1 : Int32)), .val (.int (0 : Int32))] [(.int (1 : Int32))])) ?_ (fun t_ k_ => XS.goto X99.here hx rfl (pc0 := 327) (pc' := 331) rfl (hb hby at_327) (by decide) (by decide) k_)
                rw [hWd]
                exact Goes.retnW X99 hS99 (Nat.le_refl _) (v := some (.int (nar .boolean (1 : Int32)))) (fun fs hr => retN X99 hx (t := .boolean) Bd.returns (by simp) (hb hby at_331) hr) (fun h => by rw [Bd.returns] at h; cases h) Bd.notSynchronized (by decide) (by decide) ⟨rfl, N99⟩
              · show Goes p e below W T99 (mkF m 295 #[.val (.int ya0), .val (.int ya1), .val (.int ya2), .val (.int ya3), .val (.int ya4), .val (.int (3 : Int32)), .val (.int c0), .val (.int c1), .val (.int c2), .val (.int c3), .val (.ref b66), .val (.int av), .unset, .val (.int (1 : Int32)), .unset] [])
                refine Goes.on (T' := T99) (g' := (mkF m 296 #[.val (.int ya0), .val (.int ya1), .val (.int ya2), .val (.int ya3), .val (.int ya4), .val (.int (3 : Int32)), .val (.int c0), .val (.int c1), .val (.int c2), .val (.int c3), .val (.ref b66), .val (.int av), .unset, .val (.int (1 : Int32)), .unset] [(.int (1 : Int32))])) ?_ (fun t_ k_ => XS.iconst X99.here hx rfl (hb hby at_295) k_)
                refine Goes.on (T' := T99) (g' := (mkF m 300 #[.val (.int ya0), .val (.int ya1), .val (.int ya2), .val (.int ya3), .val (.int ya4), .val (.int (3 : Int32)), .val (.int c0), .val (.int c1), .val (.int c2), .val (.int c3), .val (.ref b66), .val (.int av), .unset, .val (.int (1 : Int32)), .unset] [(.int (1 : Int32))])) ?_ (fun t_ k_ => XS.goto X99.here hx rfl (pc0 := 296) (pc' := 300) rfl (hb hby at_296) (by decide) (by decide) k_)
                refine Goes.on (T' := T99) (g' := (mkF m 302 #[.val (.int ya0), .val (.int ya1), .val (.int ya2), .val (.int ya3), .val (.int ya4), .val (.int (3 : Int32)), .val (.int c0), .val (.int c1), .val (.int c2), .val (.int c3), .val (.ref b66), .val (.int av), .unset, .val (.int (1 : Int32)), .val (.int (1 : Int32))] [])) ?_ (fun t_ k_ => XS.istore X99.here hx rfl (hb hby at_300) rfl (l' := #[.val (.int ya0), .val (.int ya1), .val (.int ya2), .val (.int ya3), .val (.int ya4), .val (.int (3 : Int32)), .val (.int c0), .val (.int c1), .val (.int c2), .val (.int c3), .val (.ref b66), .val (.int av), .unset, .val (.int (1 : Int32)), .val (.int (1 : Int32))]) rfl k_)
                refine Goes.on (T' := T99) (g' := (mkF m 304 #[.val (.int ya0), .val (.int ya1), .val (.int ya2), .val (.int ya3), .val (.int ya4), .val (.int (3 : Int32)), .val (.int c0), .val (.int c1), .val (.int c2), .val (.int c3), .val (.ref b66), .val (.int av), .unset, .val (.int (1 : Int32)), .val (.int (1 : Int32))] [(.int (1 : Int32))])) ?_ (fun t_ k_ => XS.iload X99.here hx rfl (hb hby at_302) rfl k_)
                refine Goes.on (T' := T99) (g' := (mkF m 316 #[.val (.int ya0), .val (.int ya1), .val (.int ya2), .val (.int ya3), .val (.int ya4), .val (.int (3 : Int32)), .val (.int c0), .val (.int c1), .val (.int c2), .val (.int c3), .val (.ref b66), .val (.int av), .unset, .val (.int (1 : Int32)), .val (.int (1 : Int32))] [])) ?_ (fun t_ k_ => XS.ifYes X99.here hx rfl (pc0 := 304) (pc' := 316) rfl (hb hby at_304) rfl (by decide) (by decide) (by decide) k_)
                refine Goes.on (T' := T99) (g' := (mkF m 317 #[.val (.int ya0), .val (.int ya1), .val (.int ya2), .val (.int ya3), .val (.int ya4), .val (.int (3 : Int32)), .val (.int c0), .val (.int c1), .val (.int c2), .val (.int c3), .val (.ref b66), .val (.int av), .unset, .val (.int (1 : Int32)), .val (.int (1 : Int32))] [(.int (0 : Int32))])) ?_ (fun t_ k_ => XS.iconst X99.here hx rfl (hb hby at_316) k_)
                refine Goes.on (T' := T99) (g' := (mkF m 319 #[.val (.int ya0), .val (.int ya1), .val (.int ya2), .val (.int ya3), .val (.int ya4), .val (.int (3 : Int32)), .val (.int c0), .val (.int c1), .val (.int c2), .val (.int c3), .val (.ref b66), .val (.int av), .val (.int (0 : Int32)), .val (.int (1 : Int32)), .val (.int (1 : Int32))] [])) ?_ (fun t_ k_ => XS.istore X99.here hx rfl (hb hby at_317) rfl (l' := #[.val (.int ya0), .val (.int ya1), .val (.int ya2), .val (.int ya3), .val (.int ya4), .val (.int (3 : Int32)), .val (.int c0), .val (.int c1), .val (.int c2), .val (.int c3), .val (.ref b66), .val (.int av), .val (.int (0 : Int32)), .val (.int (1 : Int32)), .val (.int (1 : Int32))]) rfl k_)
                refine Goes.on (T' := T99) (g' := (mkF m 321 #[.val (.int ya0), .val (.int ya1), .val (.int ya2), .val (.int ya3), .val (.int ya4), .val (.int (3 : Int32)), .val (.int c0), .val (.int c1), .val (.int c2), .val (.int c3), .val (.ref b66), .val (.int av), .val (.int (0 : Int32)), .val (.int (1 : Int32)), .val (.int (1 : Int32))] [(.int av)])) ?_ (fun t_ k_ => XS.iload X99.here hx rfl (hb hby at_319) rfl k_)
                refine Goes.on (T' := T99) (g' := (mkF m 323 #[.val (.int ya0), .val (.int ya1), .val (.int ya2), .val (.int ya3), .val (.int ya4), .val (.int (3 : Int32)), .val (.int c0), .val (.int c1), .val (.int c2), .val (.int c3), .val (.ref b66), .val (.int av), .val (.int (0 : Int32)), .val (.int (1 : Int32)), .val (.int (1 : Int32))] [(.int (0 : Int32)), (.int av)])) ?_ (fun t_ k_ => XS.iload X99.here hx rfl (hb hby at_321) rfl k_)
                refine Goes.on (T' := T99) (g' := (mkF m 326 #[.val (.int ya0), .val (.int ya1), .val (.int ya2), .val (.int ya3), .val (.int ya4), .val (.int (3 : Int32)), .val (.int c0), .val (.int c1), .val (.int c2), .val (.int c3), .val (.ref b66), .val (.int av), .val (.int (0 : Int32)), .val (.int (1 : Int32)), .val (.int (1 : Int32))] [])) ?_ (fun t_ k_ => XS.icmpNo X99.here hx rfl (hb hby at_323) rfl (teq (show av = (0 : Int32) from by rw [hav, own_ivn3]; simp only [eq_false hc219, eq_false hc232, eq_true hc245, eq_true hc278, eq_true hc285, eq_true hc292, if_true, if_false, ↓reduceIte, not_true_eq_false, not_false_eq_true, true_and, and_true, false_and, and_false, or_true, true_or, or_false, false_or, and_self, or_self])).2 k_)
                refine Goes.on (T' := T99) (g' := (mkF m 327 #[.val (.int ya0), .val (.int ya1), .val (.int ya2), .val (.int ya3), .val (.int ya4), .val (.int (3 : Int32)), .val (.int c0), .val (.int c1), .val (.int c2), .val (.int c3), .val (.ref b66), .val (.int av), .val (.int (0 : Int32)), .val (.int (1 : Int32)), .val (.int (1 : Int32))] [(.int (1 : Int32))])) ?_ (fun t_ k_ => XS.iconst X99.here hx rfl (hb hby at_326) k_)
                refine Goes.on (T' := T99) (g' := (mkF m 331 #[.val (.int ya0), .val (.int ya1), .val (.int ya2), .val (.int ya3), .val (.int ya4), .val (.int (3 : Int32)), .val (.int c0), .val (.int c1), .val (.int c2), .val (.int c3), .val (.ref b66), .val (.int av), .val (.int (0 : Int32)), .val (.int (1 : Int32)), .val (.int (1 : Int32))] [(.int (1 : Int32))])) ?_ (fun t_ k_ => XS.goto X99.here hx rfl (pc0 := 327) (pc' := 331) rfl (hb hby at_327) (by decide) (by decide) k_)
                rw [hWd]
                exact Goes.retnW X99 hS99 (Nat.le_refl _) (v := some (.int (nar .boolean (1 : Int32)))) (fun fs hr => retN X99 hx (t := .boolean) Bd.returns (by simp) (hb hby at_331) hr) (fun h => by rw [Bd.returns] at h; cases h) Bd.notSynchronized (by decide) (by decide) ⟨rfl, N99⟩
        · show Goes p e below W T99 (mkF m 248 #[.val (.int ya0), .val (.int ya1), .val (.int ya2), .val (.int ya3), .val (.int ya4), .val (.int (3 : Int32)), .val (.int c0), .val (.int c1), .val (.int c2), .val (.int c3), .val (.ref b66), .val (.int av), .unset, .unset, .unset] [])
          refine Goes.on (T' := T99) (g' := (mkF m 250 #[.val (.int ya0), .val (.int ya1), .val (.int ya2), .val (.int ya3), .val (.int ya4), .val (.int (3 : Int32)), .val (.int c0), .val (.int c1), .val (.int c2), .val (.int c3), .val (.ref b66), .val (.int av), .unset, .unset, .unset] [(.int (3 : Int32))])) ?_ (fun t_ k_ => XS.iload X99.here hx rfl (hb hby at_248) rfl k_)
          refine Goes.on (T' := T99) (g' := (mkF m 251 #[.val (.int ya0), .val (.int ya1), .val (.int ya2), .val (.int ya3), .val (.int ya4), .val (.int (3 : Int32)), .val (.int c0), .val (.int c1), .val (.int c2), .val (.int c3), .val (.ref b66), .val (.int av), .unset, .unset, .unset] [(.int (4 : Int32)), (.int (3 : Int32))])) ?_ (fun t_ k_ => XS.iconst X99.here hx rfl (hb hby at_250) k_)
          refine Goes.on (T' := T99) (g' := (mkF m 265 #[.val (.int ya0), .val (.int ya1), .val (.int ya2), .val (.int ya3), .val (.int ya4), .val (.int (3 : Int32)), .val (.int c0), .val (.int c1), .val (.int c2), .val (.int c3), .val (.ref b66), .val (.int av), .unset, .unset, .unset] [])) ?_ (fun t_ k_ => XS.icmpYes X99.here hx rfl (pc0 := 251) (pc' := 265) rfl (hb hby at_251) rfl (by decide) (by decide) (by decide) k_)
          refine Goes.on (T' := T99) (g' := (mkF m 266 #[.val (.int ya0), .val (.int ya1), .val (.int ya2), .val (.int ya3), .val (.int ya4), .val (.int (3 : Int32)), .val (.int c0), .val (.int c1), .val (.int c2), .val (.int c3), .val (.ref b66), .val (.int av), .unset, .unset, .unset] [(.int (0 : Int32))])) ?_ (fun t_ k_ => XS.iconst X99.here hx rfl (hb hby at_265) k_)
          refine Goes.on (T' := T99) (g' := (mkF m 268 #[.val (.int ya0), .val (.int ya1), .val (.int ya2), .val (.int ya3), .val (.int ya4), .val (.int (3 : Int32)), .val (.int c0), .val (.int c1), .val (.int c2), .val (.int c3), .val (.ref b66), .val (.int av), .unset, .val (.int (0 : Int32)), .unset] [])) ?_ (fun t_ k_ => XS.istore X99.here hx rfl (hb hby at_266) rfl (l' := #[.val (.int ya0), .val (.int ya1), .val (.int ya2), .val (.int ya3), .val (.int ya4), .val (.int (3 : Int32)), .val (.int c0), .val (.int c1), .val (.int c2), .val (.int c3), .val (.ref b66), .val (.int av), .unset, .val (.int (0 : Int32)), .unset]) rfl k_)
          refine Goes.on (T' := T99) (g' := (mkF m 270 #[.val (.int ya0), .val (.int ya1), .val (.int ya2), .val (.int ya3), .val (.int ya4), .val (.int (3 : Int32)), .val (.int c0), .val (.int c1), .val (.int c2), .val (.int c3), .val (.ref b66), .val (.int av), .unset, .val (.int (0 : Int32)), .unset] [(.int (3 : Int32))])) ?_ (fun t_ k_ => XS.iload X99.here hx rfl (hb hby at_268) rfl k_)
          refine Goes.on (T' := T99) (g' := (mkF m 271 #[.val (.int ya0), .val (.int ya1), .val (.int ya2), .val (.int ya3), .val (.int ya4), .val (.int (3 : Int32)), .val (.int c0), .val (.int c1), .val (.int c2), .val (.int c3), .val (.ref b66), .val (.int av), .unset, .val (.int (0 : Int32)), .unset] [(.int (3 : Int32)), (.int (3 : Int32))])) ?_ (fun t_ k_ => XS.iconst X99.here hx rfl (hb hby at_270) k_)
          refine Goes.on (T' := T99) (g' := (mkF m 274 #[.val (.int ya0), .val (.int ya1), .val (.int ya2), .val (.int ya3), .val (.int ya4), .val (.int (3 : Int32)), .val (.int c0), .val (.int c1), .val (.int c2), .val (.int c3), .val (.ref b66), .val (.int av), .unset, .val (.int (0 : Int32)), .unset] [])) ?_ (fun t_ k_ => XS.icmpNo X99.here hx rfl (hb hby at_271) rfl (by decide) k_)
          refine Goes.on (T' := T99) (g' := (mkF m 276 #[.val (.int ya0), .val (.int ya1), .val (.int ya2), .val (.int ya3), .val (.int ya4), .val (.int (3 : Int32)), .val (.int c0), .val (.int c1), .val (.int c2), .val (.int c3), .val (.ref b66), .val (.int av), .unset, .val (.int (0 : Int32)), .unset] [(.int c0)])) ?_ (fun t_ k_ => XS.iload X99.here hx rfl (hb hby at_274) rfl k_)
          refine Goes.on (T' := T99) (g' := (mkF m 278 #[.val (.int ya0), .val (.int ya1), .val (.int ya2), .val (.int ya3), .val (.int ya4), .val (.int (3 : Int32)), .val (.int c0), .val (.int c1), .val (.int c2), .val (.int c3), .val (.ref b66), .val (.int av), .unset, .val (.int (0 : Int32)), .unset] [(.int (58 : Int32)), (.int c0)])) ?_ (fun t_ k_ => XS.bipush X99.here hx rfl (hb hby at_276) k_)
          refine Goes.icmpN X99 hx rfl (pc0 := 278) (pc' := 299) rfl (hb hby at_278) rfl (by decide) (by decide) (P := c0 = (58 : Int32)) (cmp_ne _ _) (fun hc278 => ?_) (fun hc278 => ?_)
          · show Goes p e below W T99 (mkF m 299 #[.val (.int ya0), .val (.int ya1), .val (.int ya2), .val (.int ya3), .val (.int ya4), .val (.int (3 : Int32)), .val (.int c0), .val (.int c1), .val (.int c2), .val (.int c3), .val (.ref b66), .val (.int av), .unset, .val (.int (0 : Int32)), .unset] [])
            refine Goes.on (T' := T99) (g' := (mkF m 300 #[.val (.int ya0), .val (.int ya1), .val (.int ya2), .val (.int ya3), .val (.int ya4), .val (.int (3 : Int32)), .val (.int c0), .val (.int c1), .val (.int c2), .val (.int c3), .val (.ref b66), .val (.int av), .unset, .val (.int (0 : Int32)), .unset] [(.int (0 : Int32))])) ?_ (fun t_ k_ => XS.iconst X99.here hx rfl (hb hby at_299) k_)
            refine Goes.on (T' := T99) (g' := (mkF m 302 #[.val (.int ya0), .val (.int ya1), .val (.int ya2), .val (.int ya3), .val (.int ya4), .val (.int (3 : Int32)), .val (.int c0), .val (.int c1), .val (.int c2), .val (.int c3), .val (.ref b66), .val (.int av), .unset, .val (.int (0 : Int32)), .val (.int (0 : Int32))] [])) ?_ (fun t_ k_ => XS.istore X99.here hx rfl (hb hby at_300) rfl (l' := #[.val (.int ya0), .val (.int ya1), .val (.int ya2), .val (.int ya3), .val (.int ya4), .val (.int (3 : Int32)), .val (.int c0), .val (.int c1), .val (.int c2), .val (.int c3), .val (.ref b66), .val (.int av), .unset, .val (.int (0 : Int32)), .val (.int (0 : Int32))]) rfl k_)
            refine Goes.on (T' := T99) (g' := (mkF m 304 #[.val (.int ya0), .val (.int ya1), .val (.int ya2), .val (.int ya3), .val (.int ya4), .val (.int (3 : Int32)), .val (.int c0), .val (.int c1), .val (.int c2), .val (.int c3), .val (.ref b66), .val (.int av), .unset, .val (.int (0 : Int32)), .val (.int (0 : Int32))] [(.int (0 : Int32))])) ?_ (fun t_ k_ => XS.iload X99.here hx rfl (hb hby at_302) rfl k_)
            refine Goes.on (T' := T99) (g' := (mkF m 307 #[.val (.int ya0), .val (.int ya1), .val (.int ya2), .val (.int ya3), .val (.int ya4), .val (.int (3 : Int32)), .val (.int c0), .val (.int c1), .val (.int c2), .val (.int c3), .val (.ref b66), .val (.int av), .unset, .val (.int (0 : Int32)), .val (.int (0 : Int32))] [])) ?_ (fun t_ k_ => XS.ifNo X99.here hx rfl (hb hby at_304) rfl (by decide) k_)
            refine Goes.on (T' := T99) (g' := (mkF m 309 #[.val (.int ya0), .val (.int ya1), .val (.int ya2), .val (.int ya3), .val (.int ya4), .val (.int (3 : Int32)), .val (.int c0), .val (.int c1), .val (.int c2), .val (.int c3), .val (.ref b66), .val (.int av), .unset, .val (.int (0 : Int32)), .val (.int (0 : Int32))] [(.int (0 : Int32))])) ?_ (fun t_ k_ => XS.iload X99.here hx rfl (hb hby at_307) rfl k_)
            refine Goes.on (T' := T99) (g' := (mkF m 312 #[.val (.int ya0), .val (.int ya1), .val (.int ya2), .val (.int ya3), .val (.int ya4), .val (.int (3 : Int32)), .val (.int c0), .val (.int c1), .val (.int c2), .val (.int c3), .val (.ref b66), .val (.int av), .unset, .val (.int (0 : Int32)), .val (.int (0 : Int32))] [])) ?_ (fun t_ k_ => XS.ifNo X99.here hx rfl (hb hby at_309) rfl (by decide) k_)
            refine Goes.on (T' := T99) (g' := (mkF m 313 #[.val (.int ya0), .val (.int ya1), .val (.int ya2), .val (.int ya3), .val (.int ya4), .val (.int (3 : Int32)), .val (.int c0), .val (.int c1), .val (.int c2), .val (.int c3), .val (.ref b66), .val (.int av), .unset, .val (.int (0 : Int32)), .val (.int (0 : Int32))] [(.int (1 : Int32))])) ?_ (fun t_ k_ => XS.iconst X99.here hx rfl (hb hby at_312) k_)
            refine Goes.on (T' := T99) (g' := (mkF m 317 #[.val (.int ya0), .val (.int ya1), .val (.int ya2), .val (.int ya3), .val (.int ya4), .val (.int (3 : Int32)), .val (.int c0), .val (.int c1), .val (.int c2), .val (.int c3), .val (.ref b66), .val (.int av), .unset, .val (.int (0 : Int32)), .val (.int (0 : Int32))] [(.int (1 : Int32))])) ?_ (fun t_ k_ => XS.goto X99.here hx rfl (pc0 := 313) (pc' := 317) rfl (hb hby at_313) (by decide) (by decide) k_)
            refine Goes.on (T' := T99) (g' := (mkF m 319 #[.val (.int ya0), .val (.int ya1), .val (.int ya2), .val (.int ya3), .val (.int ya4), .val (.int (3 : Int32)), .val (.int c0), .val (.int c1), .val (.int c2), .val (.int c3), .val (.ref b66), .val (.int av), .val (.int (1 : Int32)), .val (.int (0 : Int32)), .val (.int (0 : Int32))] [])) ?_ (fun t_ k_ => XS.istore X99.here hx rfl (hb hby at_317) rfl (l' := #[.val (.int ya0), .val (.int ya1), .val (.int ya2), .val (.int ya3), .val (.int ya4), .val (.int (3 : Int32)), .val (.int c0), .val (.int c1), .val (.int c2), .val (.int c3), .val (.ref b66), .val (.int av), .val (.int (1 : Int32)), .val (.int (0 : Int32)), .val (.int (0 : Int32))]) rfl k_)
            refine Goes.on (T' := T99) (g' := (mkF m 321 #[.val (.int ya0), .val (.int ya1), .val (.int ya2), .val (.int ya3), .val (.int ya4), .val (.int (3 : Int32)), .val (.int c0), .val (.int c1), .val (.int c2), .val (.int c3), .val (.ref b66), .val (.int av), .val (.int (1 : Int32)), .val (.int (0 : Int32)), .val (.int (0 : Int32))] [(.int av)])) ?_ (fun t_ k_ => XS.iload X99.here hx rfl (hb hby at_319) rfl k_)
            refine Goes.on (T' := T99) (g' := (mkF m 323 #[.val (.int ya0), .val (.int ya1), .val (.int ya2), .val (.int ya3), .val (.int ya4), .val (.int (3 : Int32)), .val (.int c0), .val (.int c1), .val (.int c2), .val (.int c3), .val (.ref b66), .val (.int av), .val (.int (1 : Int32)), .val (.int (0 : Int32)), .val (.int (0 : Int32))] [(.int (1 : Int32)), (.int av)])) ?_ (fun t_ k_ => XS.iload X99.here hx rfl (hb hby at_321) rfl k_)
            refine Goes.on (T' := T99) (g' := (mkF m 326 #[.val (.int ya0), .val (.int ya1), .val (.int ya2), .val (.int ya3), .val (.int ya4), .val (.int (3 : Int32)), .val (.int c0), .val (.int c1), .val (.int c2), .val (.int c3), .val (.ref b66), .val (.int av), .val (.int (1 : Int32)), .val (.int (0 : Int32)), .val (.int (0 : Int32))] [])) ?_ (fun t_ k_ => XS.icmpNo X99.here hx rfl (hb hby at_323) rfl (teq (show av = (1 : Int32) from by rw [hav, own_ivn3]; simp only [eq_false hc219, eq_false hc232, eq_false hc245, eq_false hc278, if_true, if_false, ↓reduceIte, not_true_eq_false, not_false_eq_true, true_and, and_true, false_and, and_false, or_true, true_or, or_false, false_or, and_self, or_self])).2 k_)
            refine Goes.on (T' := T99) (g' := (mkF m 327 #[.val (.int ya0), .val (.int ya1), .val (.int ya2), .val (.int ya3), .val (.int ya4), .val (.int (3 : Int32)), .val (.int c0), .val (.int c1), .val (.int c2), .val (.int c3), .val (.ref b66), .val (.int av), .val (.int (1 : Int32)), .val (.int (0 : Int32)), .val (.int (0 : Int32))] [(.int (1 : Int32))])) ?_ (fun t_ k_ => XS.iconst X99.here hx rfl (hb hby at_326) k_)
            refine Goes.on (T' := T99) (g' := (mkF m 331 #[.val (.int ya0), .val (.int ya1), .val (.int ya2), .val (.int ya3), .val (.int ya4), .val (.int (3 : Int32)), .val (.int c0), .val (.int c1), .val (.int c2), .val (.int c3), .val (.ref b66), .val (.int av), .val (.int (1 : Int32)), .val (.int (0 : Int32)), .val (.int (0 : Int32))] [(.int (1 : Int32))])) ?_ (fun t_ k_ => XS.goto X99.here hx rfl (pc0 := 327) (pc' := 331) rfl (hb hby at_327) (by decide) (by decide) k_)
            rw [hWd]
            exact Goes.retnW X99 hS99 (Nat.le_refl _) (v := some (.int (nar .boolean (1 : Int32)))) (fun fs hr => retN X99 hx (t := .boolean) Bd.returns (by simp) (hb hby at_331) hr) (fun h => by rw [Bd.returns] at h; cases h) Bd.notSynchronized (by decide) (by decide) ⟨rfl, N99⟩
          · show Goes p e below W T99 (mkF m 281 #[.val (.int ya0), .val (.int ya1), .val (.int ya2), .val (.int ya3), .val (.int ya4), .val (.int (3 : Int32)), .val (.int c0), .val (.int c1), .val (.int c2), .val (.int c3), .val (.ref b66), .val (.int av), .unset, .val (.int (0 : Int32)), .unset] [])
            refine Goes.on (T' := T99) (g' := (mkF m 283 #[.val (.int ya0), .val (.int ya1), .val (.int ya2), .val (.int ya3), .val (.int ya4), .val (.int (3 : Int32)), .val (.int c0), .val (.int c1), .val (.int c2), .val (.int c3), .val (.ref b66), .val (.int av), .unset, .val (.int (0 : Int32)), .unset] [(.int c1)])) ?_ (fun t_ k_ => XS.iload X99.here hx rfl (hb hby at_281) rfl k_)
            refine Goes.on (T' := T99) (g' := (mkF m 285 #[.val (.int ya0), .val (.int ya1), .val (.int ya2), .val (.int ya3), .val (.int ya4), .val (.int (3 : Int32)), .val (.int c0), .val (.int c1), .val (.int c2), .val (.int c3), .val (.ref b66), .val (.int av), .unset, .val (.int (0 : Int32)), .unset] [(.int (105 : Int32)), (.int c1)])) ?_ (fun t_ k_ => XS.bipush X99.here hx rfl (hb hby at_283) k_)
            refine Goes.icmpN X99 hx rfl (pc0 := 285) (pc' := 299) rfl (hb hby at_285) rfl (by decide) (by decide) (P := c1 = (105 : Int32)) (cmp_ne _ _) (fun hc285 => ?_) (fun hc285 => ?_)
            · show Goes p e below W T99 (mkF m 299 #[.val (.int ya0), .val (.int ya1), .val (.int ya2), .val (.int ya3), .val (.int ya4), .val (.int (3 : Int32)), .val (.int c0), .val (.int c1), .val (.int c2), .val (.int c3), .val (.ref b66), .val (.int av), .unset, .val (.int (0 : Int32)), .unset] [])
              refine Goes.on (T' := T99) (g' := (mkF m 300 #[.val (.int ya0), .val (.int ya1), .val (.int ya2), .val (.int ya3), .val (.int ya4), .val (.int (3 : Int32)), .val (.int c0), .val (.int c1), .val (.int c2), .val (.int c3), .val (.ref b66), .val (.int av), .unset, .val (.int (0 : Int32)), .unset] [(.int (0 : Int32))])) ?_ (fun t_ k_ => XS.iconst X99.here hx rfl (hb hby at_299) k_)
              refine Goes.on (T' := T99) (g' := (mkF m 302 #[.val (.int ya0), .val (.int ya1), .val (.int ya2), .val (.int ya3), .val (.int ya4), .val (.int (3 : Int32)), .val (.int c0), .val (.int c1), .val (.int c2), .val (.int c3), .val (.ref b66), .val (.int av), .unset, .val (.int (0 : Int32)), .val (.int (0 : Int32))] [])) ?_ (fun t_ k_ => XS.istore X99.here hx rfl (hb hby at_300) rfl (l' := #[.val (.int ya0), .val (.int ya1), .val (.int ya2), .val (.int ya3), .val (.int ya4), .val (.int (3 : Int32)), .val (.int c0), .val (.int c1), .val (.int c2), .val (.int c3), .val (.ref b66), .val (.int av), .unset, .val (.int (0 : Int32)), .val (.int (0 : Int32))]) rfl k_)
              refine Goes.on (T' := T99) (g' := (mkF m 304 #[.val (.int ya0), .val (.int ya1), .val (.int ya2), .val (.int ya3), .val (.int ya4), .val (.int (3 : Int32)), .val (.int c0), .val (.int c1), .val (.int c2), .val (.int c3), .val (.ref b66), .val (.int av), .unset, .val (.int (0 : Int32)), .val (.int (0 : Int32))] [(.int (0 : Int32))])) ?_ (fun t_ k_ => XS.iload X99.here hx rfl (hb hby at_302) rfl k_)
              refine Goes.on (T' := T99) (g' := (mkF m 307 #[.val (.int ya0), .val (.int ya1), .val (.int ya2), .val (.int ya3), .val (.int ya4), .val (.int (3 : Int32)), .val (.int c0), .val (.int c1), .val (.int c2), .val (.int c3), .val (.ref b66), .val (.int av), .unset, .val (.int (0 : Int32)), .val (.int (0 : Int32))] [])) ?_ (fun t_ k_ => XS.ifNo X99.here hx rfl (hb hby at_304) rfl (by decide) k_)
              refine Goes.on (T' := T99) (g' := (mkF m 309 #[.val (.int ya0), .val (.int ya1), .val (.int ya2), .val (.int ya3), .val (.int ya4), .val (.int (3 : Int32)), .val (.int c0), .val (.int c1), .val (.int c2), .val (.int c3), .val (.ref b66), .val (.int av), .unset, .val (.int (0 : Int32)), .val (.int (0 : Int32))] [(.int (0 : Int32))])) ?_ (fun t_ k_ => XS.iload X99.here hx rfl (hb hby at_307) rfl k_)
              refine Goes.on (T' := T99) (g' := (mkF m 312 #[.val (.int ya0), .val (.int ya1), .val (.int ya2), .val (.int ya3), .val (.int ya4), .val (.int (3 : Int32)), .val (.int c0), .val (.int c1), .val (.int c2), .val (.int c3), .val (.ref b66), .val (.int av), .unset, .val (.int (0 : Int32)), .val (.int (0 : Int32))] [])) ?_ (fun t_ k_ => XS.ifNo X99.here hx rfl (hb hby at_309) rfl (by decide) k_)
              refine Goes.on (T' := T99) (g' := (mkF m 313 #[.val (.int ya0), .val (.int ya1), .val (.int ya2), .val (.int ya3), .val (.int ya4), .val (.int (3 : Int32)), .val (.int c0), .val (.int c1), .val (.int c2), .val (.int c3), .val (.ref b66), .val (.int av), .unset, .val (.int (0 : Int32)), .val (.int (0 : Int32))] [(.int (1 : Int32))])) ?_ (fun t_ k_ => XS.iconst X99.here hx rfl (hb hby at_312) k_)
              refine Goes.on (T' := T99) (g' := (mkF m 317 #[.val (.int ya0), .val (.int ya1), .val (.int ya2), .val (.int ya3), .val (.int ya4), .val (.int (3 : Int32)), .val (.int c0), .val (.int c1), .val (.int c2), .val (.int c3), .val (.ref b66), .val (.int av), .unset, .val (.int (0 : Int32)), .val (.int (0 : Int32))] [(.int (1 : Int32))])) ?_ (fun t_ k_ => XS.goto X99.here hx rfl (pc0 := 313) (pc' := 317) rfl (hb hby at_313) (by decide) (by decide) k_)
              refine Goes.on (T' := T99) (g' := (mkF m 319 #[.val (.int ya0), .val (.int ya1), .val (.int ya2), .val (.int ya3), .val (.int ya4), .val (.int (3 : Int32)), .val (.int c0), .val (.int c1), .val (.int c2), .val (.int c3), .val (.ref b66), .val (.int av), .val (.int (1 : Int32)), .val (.int (0 : Int32)), .val (.int (0 : Int32))] [])) ?_ (fun t_ k_ => XS.istore X99.here hx rfl (hb hby at_317) rfl (l' := #[.val (.int ya0), .val (.int ya1), .val (.int ya2), .val (.int ya3), .val (.int ya4), .val (.int (3 : Int32)), .val (.int c0), .val (.int c1), .val (.int c2), .val (.int c3), .val (.ref b66), .val (.int av), .val (.int (1 : Int32)), .val (.int (0 : Int32)), .val (.int (0 : Int32))]) rfl k_)
              refine Goes.on (T' := T99) (g' := (mkF m 321 #[.val (.int ya0), .val (.int ya1), .val (.int ya2), .val (.int ya3), .val (.int ya4), .val (.int (3 : Int32)), .val (.int c0), .val (.int c1), .val (.int c2), .val (.int c3), .val (.ref b66), .val (.int av), .val (.int (1 : Int32)), .val (.int (0 : Int32)), .val (.int (0 : Int32))] [(.int av)])) ?_ (fun t_ k_ => XS.iload X99.here hx rfl (hb hby at_319) rfl k_)
              refine Goes.on (T' := T99) (g' := (mkF m 323 #[.val (.int ya0), .val (.int ya1), .val (.int ya2), .val (.int ya3), .val (.int ya4), .val (.int (3 : Int32)), .val (.int c0), .val (.int c1), .val (.int c2), .val (.int c3), .val (.ref b66), .val (.int av), .val (.int (1 : Int32)), .val (.int (0 : Int32)), .val (.int (0 : Int32))] [(.int (1 : Int32)), (.int av)])) ?_ (fun t_ k_ => XS.iload X99.here hx rfl (hb hby at_321) rfl k_)
              refine Goes.on (T' := T99) (g' := (mkF m 326 #[.val (.int ya0), .val (.int ya1), .val (.int ya2), .val (.int ya3), .val (.int ya4), .val (.int (3 : Int32)), .val (.int c0), .val (.int c1), .val (.int c2), .val (.int c3), .val (.ref b66), .val (.int av), .val (.int (1 : Int32)), .val (.int (0 : Int32)), .val (.int (0 : Int32))] [])) ?_ (fun t_ k_ => XS.icmpNo X99.here hx rfl (hb hby at_323) rfl (teq (show av = (1 : Int32) from by rw [hav, own_ivn3]; simp only [eq_false hc219, eq_false hc232, eq_false hc245, eq_true hc278, eq_false hc285, if_true, if_false, ↓reduceIte, not_true_eq_false, not_false_eq_true, true_and, and_true, false_and, and_false, or_true, true_or, or_false, false_or, and_self, or_self])).2 k_)
              refine Goes.on (T' := T99) (g' := (mkF m 327 #[.val (.int ya0), .val (.int ya1), .val (.int ya2), .val (.int ya3), .val (.int ya4), .val (.int (3 : Int32)), .val (.int c0), .val (.int c1), .val (.int c2), .val (.int c3), .val (.ref b66), .val (.int av), .val (.int (1 : Int32)), .val (.int (0 : Int32)), .val (.int (0 : Int32))] [(.int (1 : Int32))])) ?_ (fun t_ k_ => XS.iconst X99.here hx rfl (hb hby at_326) k_)
              refine Goes.on (T' := T99) (g' := (mkF m 331 #[.val (.int ya0), .val (.int ya1), .val (.int ya2), .val (.int ya3), .val (.int ya4), .val (.int (3 : Int32)), .val (.int c0), .val (.int c1), .val (.int c2), .val (.int c3), .val (.ref b66), .val (.int av), .val (.int (1 : Int32)), .val (.int (0 : Int32)), .val (.int (0 : Int32))] [(.int (1 : Int32))])) ?_ (fun t_ k_ => XS.goto X99.here hx rfl (pc0 := 327) (pc' := 331) rfl (hb hby at_327) (by decide) (by decide) k_)
              rw [hWd]
              exact Goes.retnW X99 hS99 (Nat.le_refl _) (v := some (.int (nar .boolean (1 : Int32)))) (fun fs hr => retN X99 hx (t := .boolean) Bd.returns (by simp) (hb hby at_331) hr) (fun h => by rw [Bd.returns] at h; cases h) Bd.notSynchronized (by decide) (by decide) ⟨rfl, N99⟩
            · show Goes p e below W T99 (mkF m 288 #[.val (.int ya0), .val (.int ya1), .val (.int ya2), .val (.int ya3), .val (.int ya4), .val (.int (3 : Int32)), .val (.int c0), .val (.int c1), .val (.int c2), .val (.int c3), .val (.ref b66), .val (.int av), .unset, .val (.int (0 : Int32)), .unset] [])
              refine Goes.on (T' := T99) (g' := (mkF m 290 #[.val (.int ya0), .val (.int ya1), .val (.int ya2), .val (.int ya3), .val (.int ya4), .val (.int (3 : Int32)), .val (.int c0), .val (.int c1), .val (.int c2), .val (.int c3), .val (.ref b66), .val (.int av), .unset, .val (.int (0 : Int32)), .unset] [(.int c2)])) ?_ (fun t_ k_ => XS.iload X99.here hx rfl (hb hby at_288) rfl k_)
              refine Goes.on (T' := T99) (g' := (mkF m 292 #[.val (.int ya0), .val (.int ya1), .val (.int ya2), .val (.int ya3), .val (.int ya4), .val (.int (3 : Int32)), .val (.int c0), .val (.int c1), .val (.int c2), .val (.int c3), .val (.ref b66), .val (.int av), .unset, .val (.int (0 : Int32)), .unset] [(.int (100 : Int32)), (.int c2)])) ?_ (fun t_ k_ => XS.bipush X99.here hx rfl (hb hby at_290) k_)
              refine Goes.icmpN X99 hx rfl (pc0 := 292) (pc' := 299) rfl (hb hby at_292) rfl (by decide) (by decide) (P := c2 = (100 : Int32)) (cmp_ne _ _) (fun hc292 => ?_) (fun hc292 => ?_)
              · show Goes p e below W T99 (mkF m 299 #[.val (.int ya0), .val (.int ya1), .val (.int ya2), .val (.int ya3), .val (.int ya4), .val (.int (3 : Int32)), .val (.int c0), .val (.int c1), .val (.int c2), .val (.int c3), .val (.ref b66), .val (.int av), .unset, .val (.int (0 : Int32)), .unset] [])
                refine Goes.on (T' := T99) (g' := (mkF m 300 #[.val (.int ya0), .val (.int ya1), .val (.int ya2), .val (.int ya3), .val (.int ya4), .val (.int (3 : Int32)), .val (.int c0), .val (.int c1), .val (.int c2), .val (.int c3), .val (.ref b66), .val (.int av), .unset, .val (.int (0 : Int32)), .unset] [(.int (0 : Int32))])) ?_ (fun t_ k_ => XS.iconst X99.here hx rfl (hb hby at_299) k_)
                refine Goes.on (T' := T99) (g' := (mkF m 302 #[.val (.int ya0), .val (.int ya1), .val (.int ya2), .val (.int ya3), .val (.int ya4), .val (.int (3 : Int32)), .val (.int c0), .val (.int c1), .val (.int c2), .val (.int c3), .val (.ref b66), .val (.int av), .unset, .val (.int (0 : Int32)), .val (.int (0 : Int32))] [])) ?_ (fun t_ k_ => XS.istore X99.here hx rfl (hb hby at_300) rfl (l' := #[.val (.int ya0), .val (.int ya1), .val (.int ya2), .val (.int ya3), .val (.int ya4), .val (.int (3 : Int32)), .val (.int c0), .val (.int c1), .val (.int c2), .val (.int c3), .val (.ref b66), .val (.int av), .unset, .val (.int (0 : Int32)), .val (.int (0 : Int32))]) rfl k_)
                refine Goes.on (T' := T99) (g' := (mkF m 304 #[.val (.int ya0), .val (.int ya1), .val (.int ya2), .val (.int ya3), .val (.int ya4), .val (.int (3 : Int32)), .val (.int c0), .val (.int c1), .val (.int c2), .val (.int c3), .val (.ref b66), .val (.int av), .unset, .val (.int (0 : Int32)), .val (.int (0 : Int32))] [(.int (0 : Int32))])) ?_ (fun t_ k_ => XS.iload X99.here hx rfl (hb hby at_302) rfl k_)
                refine Goes.on (T' := T99) (g' := (mkF m 307 #[.val (.int ya0), .val (.int ya1), .val (.int ya2), .val (.int ya3), .val (.int ya4), .val (.int (3 : Int32)), .val (.int c0), .val (.int c1), .val (.int c2), .val (.int c3), .val (.ref b66), .val (.int av), .unset, .val (.int (0 : Int32)), .val (.int (0 : Int32))] [])) ?_ (fun t_ k_ => XS.ifNo X99.here hx rfl (hb hby at_304) rfl (by decide) k_)
                refine Goes.on (T' := T99) (g' := (mkF m 309 #[.val (.int ya0), .val (.int ya1), .val (.int ya2), .val (.int ya3), .val (.int ya4), .val (.int (3 : Int32)), .val (.int c0), .val (.int c1), .val (.int c2), .val (.int c3), .val (.ref b66), .val (.int av), .unset, .val (.int (0 : Int32)), .val (.int (0 : Int32))] [(.int (0 : Int32))])) ?_ (fun t_ k_ => XS.iload X99.here hx rfl (hb hby at_307) rfl k_)
                refine Goes.on (T' := T99) (g' := (mkF m 312 #[.val (.int ya0), .val (.int ya1), .val (.int ya2), .val (.int ya3), .val (.int ya4), .val (.int (3 : Int32)), .val (.int c0), .val (.int c1), .val (.int c2), .val (.int c3), .val (.ref b66), .val (.int av), .unset, .val (.int (0 : Int32)), .val (.int (0 : Int32))] [])) ?_ (fun t_ k_ => XS.ifNo X99.here hx rfl (hb hby at_309) rfl (by decide) k_)
                refine Goes.on (T' := T99) (g' := (mkF m 313 #[.val (.int ya0), .val (.int ya1), .val (.int ya2), .val (.int ya3), .val (.int ya4), .val (.int (3 : Int32)), .val (.int c0), .val (.int c1), .val (.int c2), .val (.int c3), .val (.ref b66), .val (.int av), .unset, .val (.int (0 : Int32)), .val (.int (0 : Int32))] [(.int (1 : Int32))])) ?_ (fun t_ k_ => XS.iconst X99.here hx rfl (hb hby at_312) k_)
                refine Goes.on (T' := T99) (g' := (mkF m 317 #[.val (.int ya0), .val (.int ya1), .val (.int ya2), .val (.int ya3), .val (.int ya4), .val (.int (3 : Int32)), .val (.int c0), .val (.int c1), .val (.int c2), .val (.int c3), .val (.ref b66), .val (.int av), .unset, .val (.int (0 : Int32)), .val (.int (0 : Int32))] [(.int (1 : Int32))])) ?_ (fun t_ k_ => XS.goto X99.here hx rfl (pc0 := 313) (pc' := 317) rfl (hb hby at_313) (by decide) (by decide) k_)
                refine Goes.on (T' := T99) (g' := (mkF m 319 #[.val (.int ya0), .val (.int ya1), .val (.int ya2), .val (.int ya3), .val (.int ya4), .val (.int (3 : Int32)), .val (.int c0), .val (.int c1), .val (.int c2), .val (.int c3), .val (.ref b66), .val (.int av), .val (.int (1 : Int32)), .val (.int (0 : Int32)), .val (.int (0 : Int32))] [])) ?_ (fun t_ k_ => XS.istore X99.here hx rfl (hb hby at_317) rfl (l' := #[.val (.int ya0), .val (.int ya1), .val (.int ya2), .val (.int ya3), .val (.int ya4), .val (.int (3 : Int32)), .val (.int c0), .val (.int c1), .val (.int c2), .val (.int c3), .val (.ref b66), .val (.int av), .val (.int (1 : Int32)), .val (.int (0 : Int32)), .val (.int (0 : Int32))]) rfl k_)
                refine Goes.on (T' := T99) (g' := (mkF m 321 #[.val (.int ya0), .val (.int ya1), .val (.int ya2), .val (.int ya3), .val (.int ya4), .val (.int (3 : Int32)), .val (.int c0), .val (.int c1), .val (.int c2), .val (.int c3), .val (.ref b66), .val (.int av), .val (.int (1 : Int32)), .val (.int (0 : Int32)), .val (.int (0 : Int32))] [(.int av)])) ?_ (fun t_ k_ => XS.iload X99.here hx rfl (hb hby at_319) rfl k_)
                refine Goes.on (T' := T99) (g' := (mkF m 323 #[.val (.int ya0), .val (.int ya1), .val (.int ya2), .val (.int ya3), .val (.int ya4), .val (.int (3 : Int32)), .val (.int c0), .val (.int c1), .val (.int c2), .val (.int c3), .val (.ref b66), .val (.int av), .val (.int (1 : Int32)), .val (.int (0 : Int32)), .val (.int (0 : Int32))] [(.int (1 : Int32)), (.int av)])) ?_ (fun t_ k_ => XS.iload X99.here hx rfl (hb hby at_321) rfl k_)
                refine Goes.on (T' := T99) (g' := (mkF m 326 #[.val (.int ya0), .val (.int ya1), .val (.int ya2), .val (.int ya3), .val (.int ya4), .val (.int (3 : Int32)), .val (.int c0), .val (.int c1), .val (.int c2), .val (.int c3), .val (.ref b66), .val (.int av), .val (.int (1 : Int32)), .val (.int (0 : Int32)), .val (.int (0 : Int32))] [])) ?_ (fun t_ k_ => XS.icmpNo X99.here hx rfl (hb hby at_323) rfl (teq (show av = (1 : Int32) from by rw [hav, own_ivn3]; simp only [eq_false hc219, eq_false hc232, eq_false hc245, eq_true hc278, eq_true hc285, eq_false hc292, if_true, if_false, ↓reduceIte, not_true_eq_false, not_false_eq_true, true_and, and_true, false_and, and_false, or_true, true_or, or_false, false_or, and_self, or_self])).2 k_)
                refine Goes.on (T' := T99) (g' := (mkF m 327 #[.val (.int ya0), .val (.int ya1), .val (.int ya2), .val (.int ya3), .val (.int ya4), .val (.int (3 : Int32)), .val (.int c0), .val (.int c1), .val (.int c2), .val (.int c3), .val (.ref b66), .val (.int av), .val (.int (1 : Int32)), .val (.int (0 : Int32)), .val (.int (0 : Int32))] [(.int (1 : Int32))])) ?_ (fun t_ k_ => XS.iconst X99.here hx rfl (hb hby at_326) k_)
                refine Goes.on (T' := T99) (g' := (mkF m 331 #[.val (.int ya0), .val (.int ya1), .val (.int ya2), .val (.int ya3), .val (.int ya4), .val (.int (3 : Int32)), .val (.int c0), .val (.int c1), .val (.int c2), .val (.int c3), .val (.ref b66), .val (.int av), .val (.int (1 : Int32)), .val (.int (0 : Int32)), .val (.int (0 : Int32))] [(.int (1 : Int32))])) ?_ (fun t_ k_ => XS.goto X99.here hx rfl (pc0 := 327) (pc' := 331) rfl (hb hby at_327) (by decide) (by decide) k_)
                rw [hWd]
                exact Goes.retnW X99 hS99 (Nat.le_refl _) (v := some (.int (nar .boolean (1 : Int32)))) (fun fs hr => retN X99 hx (t := .boolean) Bd.returns (by simp) (hb hby at_331) hr) (fun h => by rw [Bd.returns] at h; cases h) Bd.notSynchronized (by decide) (by decide) ⟨rfl, N99⟩
              · show Goes p e below W T99 (mkF m 295 #[.val (.int ya0), .val (.int ya1), .val (.int ya2), .val (.int ya3), .val (.int ya4), .val (.int (3 : Int32)), .val (.int c0), .val (.int c1), .val (.int c2), .val (.int c3), .val (.ref b66), .val (.int av), .unset, .val (.int (0 : Int32)), .unset] [])
                refine Goes.on (T' := T99) (g' := (mkF m 296 #[.val (.int ya0), .val (.int ya1), .val (.int ya2), .val (.int ya3), .val (.int ya4), .val (.int (3 : Int32)), .val (.int c0), .val (.int c1), .val (.int c2), .val (.int c3), .val (.ref b66), .val (.int av), .unset, .val (.int (0 : Int32)), .unset] [(.int (1 : Int32))])) ?_ (fun t_ k_ => XS.iconst X99.here hx rfl (hb hby at_295) k_)
                refine Goes.on (T' := T99) (g' := (mkF m 300 #[.val (.int ya0), .val (.int ya1), .val (.int ya2), .val (.int ya3), .val (.int ya4), .val (.int (3 : Int32)), .val (.int c0), .val (.int c1), .val (.int c2), .val (.int c3), .val (.ref b66), .val (.int av), .unset, .val (.int (0 : Int32)), .unset] [(.int (1 : Int32))])) ?_ (fun t_ k_ => XS.goto X99.here hx rfl (pc0 := 296) (pc' := 300) rfl (hb hby at_296) (by decide) (by decide) k_)
                refine Goes.on (T' := T99) (g' := (mkF m 302 #[.val (.int ya0), .val (.int ya1), .val (.int ya2), .val (.int ya3), .val (.int ya4), .val (.int (3 : Int32)), .val (.int c0), .val (.int c1), .val (.int c2), .val (.int c3), .val (.ref b66), .val (.int av), .unset, .val (.int (0 : Int32)), .val (.int (1 : Int32))] [])) ?_ (fun t_ k_ => XS.istore X99.here hx rfl (hb hby at_300) rfl (l' := #[.val (.int ya0), .val (.int ya1), .val (.int ya2), .val (.int ya3), .val (.int ya4), .val (.int (3 : Int32)), .val (.int c0), .val (.int c1), .val (.int c2), .val (.int c3), .val (.ref b66), .val (.int av), .unset, .val (.int (0 : Int32)), .val (.int (1 : Int32))]) rfl k_)
                refine Goes.on (T' := T99) (g' := (mkF m 304 #[.val (.int ya0), .val (.int ya1), .val (.int ya2), .val (.int ya3), .val (.int ya4), .val (.int (3 : Int32)), .val (.int c0), .val (.int c1), .val (.int c2), .val (.int c3), .val (.ref b66), .val (.int av), .unset, .val (.int (0 : Int32)), .val (.int (1 : Int32))] [(.int (0 : Int32))])) ?_ (fun t_ k_ => XS.iload X99.here hx rfl (hb hby at_302) rfl k_)
                refine Goes.on (T' := T99) (g' := (mkF m 307 #[.val (.int ya0), .val (.int ya1), .val (.int ya2), .val (.int ya3), .val (.int ya4), .val (.int (3 : Int32)), .val (.int c0), .val (.int c1), .val (.int c2), .val (.int c3), .val (.ref b66), .val (.int av), .unset, .val (.int (0 : Int32)), .val (.int (1 : Int32))] [])) ?_ (fun t_ k_ => XS.ifNo X99.here hx rfl (hb hby at_304) rfl (by decide) k_)
                refine Goes.on (T' := T99) (g' := (mkF m 309 #[.val (.int ya0), .val (.int ya1), .val (.int ya2), .val (.int ya3), .val (.int ya4), .val (.int (3 : Int32)), .val (.int c0), .val (.int c1), .val (.int c2), .val (.int c3), .val (.ref b66), .val (.int av), .unset, .val (.int (0 : Int32)), .val (.int (1 : Int32))] [(.int (1 : Int32))])) ?_ (fun t_ k_ => XS.iload X99.here hx rfl (hb hby at_307) rfl k_)
                refine Goes.on (T' := T99) (g' := (mkF m 316 #[.val (.int ya0), .val (.int ya1), .val (.int ya2), .val (.int ya3), .val (.int ya4), .val (.int (3 : Int32)), .val (.int c0), .val (.int c1), .val (.int c2), .val (.int c3), .val (.ref b66), .val (.int av), .unset, .val (.int (0 : Int32)), .val (.int (1 : Int32))] [])) ?_ (fun t_ k_ => XS.ifYes X99.here hx rfl (pc0 := 309) (pc' := 316) rfl (hb hby at_309) rfl (by decide) (by decide) (by decide) k_)
                refine Goes.on (T' := T99) (g' := (mkF m 317 #[.val (.int ya0), .val (.int ya1), .val (.int ya2), .val (.int ya3), .val (.int ya4), .val (.int (3 : Int32)), .val (.int c0), .val (.int c1), .val (.int c2), .val (.int c3), .val (.ref b66), .val (.int av), .unset, .val (.int (0 : Int32)), .val (.int (1 : Int32))] [(.int (0 : Int32))])) ?_ (fun t_ k_ => XS.iconst X99.here hx rfl (hb hby at_316) k_)
                refine Goes.on (T' := T99) (g' := (mkF m 319 #[.val (.int ya0), .val (.int ya1), .val (.int ya2), .val (.int ya3), .val (.int ya4), .val (.int (3 : Int32)), .val (.int c0), .val (.int c1), .val (.int c2), .val (.int c3), .val (.ref b66), .val (.int av), .val (.int (0 : Int32)), .val (.int (0 : Int32)), .val (.int (1 : Int32))] [])) ?_ (fun t_ k_ => XS.istore X99.here hx rfl (hb hby at_317) rfl (l' := #[.val (.int ya0), .val (.int ya1), .val (.int ya2), .val (.int ya3), .val (.int ya4), .val (.int (3 : Int32)), .val (.int c0), .val (.int c1), .val (.int c2), .val (.int c3), .val (.ref b66), .val (.int av), .val (.int (0 : Int32)), .val (.int (0 : Int32)), .val (.int (1 : Int32))]) rfl k_)
                refine Goes.on (T' := T99) (g' := (mkF m 321 #[.val (.int ya0), .val (.int ya1), .val (.int ya2), .val (.int ya3), .val (.int ya4), .val (.int (3 : Int32)), .val (.int c0), .val (.int c1), .val (.int c2), .val (.int c3), .val (.ref b66), .val (.int av), .val (.int (0 : Int32)), .val (.int (0 : Int32)), .val (.int (1 : Int32))] [(.int av)])) ?_ (fun t_ k_ => XS.iload X99.here hx rfl (hb hby at_319) rfl k_)
                refine Goes.on (T' := T99) (g' := (mkF m 323 #[.val (.int ya0), .val (.int ya1), .val (.int ya2), .val (.int ya3), .val (.int ya4), .val (.int (3 : Int32)), .val (.int c0), .val (.int c1), .val (.int c2), .val (.int c3), .val (.ref b66), .val (.int av), .val (.int (0 : Int32)), .val (.int (0 : Int32)), .val (.int (1 : Int32))] [(.int (0 : Int32)), (.int av)])) ?_ (fun t_ k_ => XS.iload X99.here hx rfl (hb hby at_321) rfl k_)
                refine Goes.on (T' := T99) (g' := (mkF m 326 #[.val (.int ya0), .val (.int ya1), .val (.int ya2), .val (.int ya3), .val (.int ya4), .val (.int (3 : Int32)), .val (.int c0), .val (.int c1), .val (.int c2), .val (.int c3), .val (.ref b66), .val (.int av), .val (.int (0 : Int32)), .val (.int (0 : Int32)), .val (.int (1 : Int32))] [])) ?_ (fun t_ k_ => XS.icmpNo X99.here hx rfl (hb hby at_323) rfl (teq (show av = (0 : Int32) from by rw [hav, own_ivn3]; simp only [eq_false hc219, eq_false hc232, eq_false hc245, eq_true hc278, eq_true hc285, eq_true hc292, if_true, if_false, ↓reduceIte, not_true_eq_false, not_false_eq_true, true_and, and_true, false_and, and_false, or_true, true_or, or_false, false_or, and_self, or_self])).2 k_)
                refine Goes.on (T' := T99) (g' := (mkF m 327 #[.val (.int ya0), .val (.int ya1), .val (.int ya2), .val (.int ya3), .val (.int ya4), .val (.int (3 : Int32)), .val (.int c0), .val (.int c1), .val (.int c2), .val (.int c3), .val (.ref b66), .val (.int av), .val (.int (0 : Int32)), .val (.int (0 : Int32)), .val (.int (1 : Int32))] [(.int (1 : Int32))])) ?_ (fun t_ k_ => XS.iconst X99.here hx rfl (hb hby at_326) k_)
                refine Goes.on (T' := T99) (g' := (mkF m 331 #[.val (.int ya0), .val (.int ya1), .val (.int ya2), .val (.int ya3), .val (.int ya4), .val (.int (3 : Int32)), .val (.int c0), .val (.int c1), .val (.int c2), .val (.int c3), .val (.ref b66), .val (.int av), .val (.int (0 : Int32)), .val (.int (0 : Int32)), .val (.int (1 : Int32))] [(.int (1 : Int32))])) ?_ (fun t_ k_ => XS.goto X99.here hx rfl (pc0 := 327) (pc' := 331) rfl (hb hby at_327) (by decide) (by decide) k_)
                rw [hWd]
                exact Goes.retnW X99 hS99 (Nat.le_refl _) (v := some (.int (nar .boolean (1 : Int32)))) (fun fs hr => retN X99 hx (t := .boolean) Bd.returns (by simp) (hb hby at_331) hr) (fun h => by rw [Bd.returns] at h; cases h) Bd.notSynchronized (by decide) (by decide) ⟨rfl, N99⟩
  · show Goes p e below W T4 (mkF m 34 #[.val (.int ya0), .val (.int ya1), .val (.int ya2), .val (.int ya3), .val (.int ya4), .val (.int (4 : Int32)), .val (.int c0), .val (.int c1), .val (.int c2), .val (.int c3), .unset, .unset, .unset, .unset, .unset] [])
    refine Goes.on (T' := T4) (g' := (mkF m 36 #[.val (.int ya0), .val (.int ya1), .val (.int ya2), .val (.int ya3), .val (.int ya4), .val (.int (4 : Int32)), .val (.int c0), .val (.int c1), .val (.int c2), .val (.int c3), .unset, .unset, .unset, .unset, .unset] [(.int (4 : Int32))])) ?_ (fun t_ k_ => XS.iload X4.here hx rfl (hb hby at_34) rfl k_)
    refine Goes.on (T' := T4) (g' := (mkF m 37 #[.val (.int ya0), .val (.int ya1), .val (.int ya2), .val (.int ya3), .val (.int ya4), .val (.int (4 : Int32)), .val (.int c0), .val (.int c1), .val (.int c2), .val (.int c3), .unset, .unset, .unset, .unset, .unset] [(.int (5 : Int32)), (.int (4 : Int32))])) ?_ (fun t_ k_ => XS.iconst X4.here hx rfl (hb hby at_36) k_)
    refine Goes.on (T' := T4) (g' := (mkF m 46 #[.val (.int ya0), .val (.int ya1), .val (.int ya2), .val (.int ya3), .val (.int ya4), .val (.int (4 : Int32)), .val (.int c0), .val (.int c1), .val (.int c2), .val (.int c3), .unset, .unset, .unset, .unset, .unset] [])) ?_ (fun t_ k_ => XS.icmpYes X4.here hx rfl (pc0 := 37) (pc' := 46) rfl (hb hby at_37) rfl (by decide) (by decide) (by decide) k_)
    refine Goes.on (T' := T4) (g' := (mkF m 48 #[.val (.int ya0), .val (.int ya1), .val (.int ya2), .val (.int ya3), .val (.int ya4), .val (.int (4 : Int32)), .val (.int c0), .val (.int c1), .val (.int c2), .val (.int c3), .unset, .unset, .unset, .unset, .unset] [(.int (4 : Int32))])) ?_ (fun t_ k_ => XS.iload X4.here hx rfl (hb hby at_46) rfl k_)
    refine Goes.on (T' := T4) (g' := (mkF m 66 #[.val (.int ya0), .val (.int ya1), .val (.int ya2), .val (.int ya3), .val (.int ya4), .val (.int (4 : Int32)), .val (.int c0), .val (.int c1), .val (.int c2), .val (.int c3), .unset, .unset, .unset, .unset, .unset] [])) ?_ (fun t_ k_ => XS.ifYes X4.here hx rfl (pc0 := 48) (pc' := 66) rfl (hb hby at_48) rfl (by decide) (by decide) (by decide) k_)
    refine Goes.on (T' := T4) (g' := (mkF m 68 #[.val (.int ya0), .val (.int ya1), .val (.int ya2), .val (.int ya3), .val (.int ya4), .val (.int (4 : Int32)), .val (.int c0), .val (.int c1), .val (.int c2), .val (.int c3), .unset, .unset, .unset, .unset, .unset] [(.int (4 : Int32))])) ?_ (fun t_ k_ => XS.iload X4.here hx rfl (hb hby at_66) rfl k_)
    refine Goes.on (T' := T4) (g' := (mkF m 69 #[.val (.int ya0), .val (.int ya1), .val (.int ya2), .val (.int ya3), .val (.int ya4), .val (.int (4 : Int32)), .val (.int c0), .val (.int c1), .val (.int c2), .val (.int c3), .unset, .unset, .unset, .unset, .unset] [(.int (1 : Int32)), (.int (4 : Int32))])) ?_ (fun t_ k_ => XS.iconst X4.here hx rfl (hb hby at_68) k_)
    refine Goes.on (T' := T4) (g' := (mkF m 92 #[.val (.int ya0), .val (.int ya1), .val (.int ya2), .val (.int ya3), .val (.int ya4), .val (.int (4 : Int32)), .val (.int c0), .val (.int c1), .val (.int c2), .val (.int c3), .unset, .unset, .unset, .unset, .unset] [])) ?_ (fun t_ k_ => XS.icmpYes X4.here hx rfl (pc0 := 69) (pc' := 92) rfl (hb hby at_69) rfl (by decide) (by decide) (by decide) k_)
    refine Goes.on (T' := T4) (g' := (mkF m 94 #[.val (.int ya0), .val (.int ya1), .val (.int ya2), .val (.int ya3), .val (.int ya4), .val (.int (4 : Int32)), .val (.int c0), .val (.int c1), .val (.int c2), .val (.int c3), .unset, .unset, .unset, .unset, .unset] [(.int (4 : Int32))])) ?_ (fun t_ k_ => XS.iload X4.here hx rfl (hb hby at_92) rfl k_)
    refine Goes.on (T' := T4) (g' := (mkF m 95 #[.val (.int ya0), .val (.int ya1), .val (.int ya2), .val (.int ya3), .val (.int ya4), .val (.int (4 : Int32)), .val (.int c0), .val (.int c1), .val (.int c2), .val (.int c3), .unset, .unset, .unset, .unset, .unset] [(.int (2 : Int32)), (.int (4 : Int32))])) ?_ (fun t_ k_ => XS.iconst X4.here hx rfl (hb hby at_94) k_)
    refine Goes.on (T' := T4) (g' := (mkF m 123 #[.val (.int ya0), .val (.int ya1), .val (.int ya2), .val (.int ya3), .val (.int ya4), .val (.int (4 : Int32)), .val (.int c0), .val (.int c1), .val (.int c2), .val (.int c3), .unset, .unset, .unset, .unset, .unset] [])) ?_ (fun t_ k_ => XS.icmpYes X4.here hx rfl (pc0 := 95) (pc' := 123) rfl (hb hby at_95) rfl (by decide) (by decide) (by decide) k_)
    refine Goes.on (T' := T4) (g' := (mkF m 125 #[.val (.int ya0), .val (.int ya1), .val (.int ya2), .val (.int ya3), .val (.int ya4), .val (.int (4 : Int32)), .val (.int c0), .val (.int c1), .val (.int c2), .val (.int c3), .unset, .unset, .unset, .unset, .unset] [(.int (4 : Int32))])) ?_ (fun t_ k_ => XS.iload X4.here hx rfl (hb hby at_123) rfl k_)
    refine Goes.on (T' := T4) (g' := (mkF m 126 #[.val (.int ya0), .val (.int ya1), .val (.int ya2), .val (.int ya3), .val (.int ya4), .val (.int (4 : Int32)), .val (.int c0), .val (.int c1), .val (.int c2), .val (.int c3), .unset, .unset, .unset, .unset, .unset] [(.int (3 : Int32)), (.int (4 : Int32))])) ?_ (fun t_ k_ => XS.iconst X4.here hx rfl (hb hby at_125) k_)
    refine Goes.on (T' := T4) (g' := (mkF m 159 #[.val (.int ya0), .val (.int ya1), .val (.int ya2), .val (.int ya3), .val (.int ya4), .val (.int (4 : Int32)), .val (.int c0), .val (.int c1), .val (.int c2), .val (.int c3), .unset, .unset, .unset, .unset, .unset] [])) ?_ (fun t_ k_ => XS.icmpYes X4.here hx rfl (pc0 := 126) (pc' := 159) rfl (hb hby at_126) rfl (by decide) (by decide) (by decide) k_)
    obtain ⟨T101, h101, X101, e101, E101, A101, D101, -, st101⟩ := newO X4 hx hZ hown (hw _ (List.mem_of_getElem? (i := 5) rfl)) (hw _ (List.mem_of_getElem? (i := 6) rfl)) (hw _ (List.mem_of_getElem? (i := 7) rfl)) eh4 (g := (mkF m 159 #[.val (.int ya0), .val (.int ya1), .val (.int ya2), .val (.int ya3), .val (.int ya4), .val (.int (4 : Int32)), .val (.int c0), .val (.int c1), .val (.int c2), .val (.int c3), .unset, .unset, .unset, .unset, .unset] [])) rfl (hb hby at_159) (by decide) (by decide)
    obtain ⟨b101, gb101⟩ : ∃ z, z = h0.size := ⟨_, rfl⟩
    rw [← gb101] at A101 D101 st101
    have Z101 : n0 ≤ h101.size := Nat.le_trans Z0 E101.1
    have g_b101 : n0 ≤ b101 := Nat.le_trans Z0 (Nat.le_of_eq gb101.symm)
    refine Goes.on (T' := T101) (g' := (mkF m 162 #[.val (.int ya0), .val (.int ya1), .val (.int ya2), .val (.int ya3), .val (.int ya4), .val (.int (4 : Int32)), .val (.int c0), .val (.int c1), .val (.int c2), .val (.int c3), .unset, .unset, .unset, .unset, .unset] [(.ref b101)])) ?_ st101
    have F101_value : Fld Z h101 b101 "java/lang/String" "value" "[B" .null := D101 (Or.inr (hw _ (List.mem_of_getElem? (i := 21) rfl))) (ty := (.array .byte)) (by decide)
    have F101_coder : Fld Z h101 b101 "java/lang/String" "coder" "B" (.int (0 : Int32)) := D101 (Or.inr (hw _ (List.mem_of_getElem? (i := 22) rfl))) (ty := .byte) (by decide)
    have Sf101 : Safe Z consts_1 s.vm h0 b101 := Safe.new (Nat.le_of_eq gb101.symm)
    have Sf102_b101 := Sf101.ext E101 C0.1
    have C103 := C0.trans (CHr.ext E101 C0.1)
    refine Goes.on (T' := T101) (g' := (mkF m 163 #[.val (.int ya0), .val (.int ya1), .val (.int ya2), .val (.int ya3), .val (.int ya4), .val (.int (4 : Int32)), .val (.int c0), .val (.int c1), .val (.int c2), .val (.int c3), .unset, .unset, .unset, .unset, .unset] [(.ref b101), (.ref b101)])) ?_ (fun t_ k_ => XS.dup X101.here hx rfl (hb hby at_162) rfl rfl k_)
    refine Goes.on (T' := T101) (g' := (mkF m 164 #[.val (.int ya0), .val (.int ya1), .val (.int ya2), .val (.int ya3), .val (.int ya4), .val (.int (4 : Int32)), .val (.int c0), .val (.int c1), .val (.int c2), .val (.int c3), .unset, .unset, .unset, .unset, .unset] [(.int (4 : Int32)), (.ref b101), (.ref b101)])) ?_ (fun t_ k_ => XS.iconst X101.here hx rfl (hb hby at_163) k_)
    obtain ⟨T104, h104, k104, X104, e104, E104, A104, st104⟩ := newP X101 hx hZ (hw _ (List.mem_of_getElem? (i := 8) rfl)) e101 (g := (mkF m 164 #[.val (.int ya0), .val (.int ya1), .val (.int ya2), .val (.int ya3), .val (.int ya4), .val (.int (4 : Int32)), .val (.int c0), .val (.int c1), .val (.int c2), .val (.int c3), .unset, .unset, .unset, .unset, .unset] [(.int (4 : Int32)), (.ref b101), (.ref b101)])) rfl (hb hby at_164) rfl (by decide) (cap := 4) (by decide) (by decide) (by decide) (by decide)
    obtain ⟨b104, gb104⟩ : ∃ z, z = h101.size := ⟨_, rfl⟩
    rw [← gb104] at A104 st104
    have V104 := Arv.new A104 (by decide)
    have Z104 : n0 ≤ h104.size := Nat.le_trans Z101 E104.1
    have g_b104 : n0 ≤ b104 := Nat.le_trans Z101 (Nat.le_of_eq gb104.symm)
    refine Goes.on (T' := T104) (g' := (mkF m 166 #[.val (.int ya0), .val (.int ya1), .val (.int ya2), .val (.int ya3), .val (.int ya4), .val (.int (4 : Int32)), .val (.int c0), .val (.int c1), .val (.int c2), .val (.int c3), .unset, .unset, .unset, .unset, .unset] [(.ref b104), (.ref b101), (.ref b101)])) ?_ st104
    have fx105 := F101_value.ext E104
    have fx106 := F101_coder.ext E104
    have fx107 := A101.ext E104
    have Sf108_b101 := Sf102_b101.ext E104 C103.1
    have C109 := C103.trans (CHr.ext E104 C103.1)
    have nex104 : b104 ≠ b101 := Ne.symm (Nat.ne_of_lt (Nat.lt_of_lt_of_le A101.lt (Nat.le_of_eq gb104.symm)))
    have VV104 : Arv Z h104 b104 k104 .char (4 : Int32) [.int 0, .int 0, .int 0, .int 0] (.int 0) := V104.pad (pad_rep [] (.int 0) 4)
    refine Goes.on (T' := T104) (g' := (mkF m 167 #[.val (.int ya0), .val (.int ya1), .val (.int ya2), .val (.int ya3), .val (.int ya4), .val (.int (4 : Int32)), .val (.int c0), .val (.int c1), .val (.int c2), .val (.int c3), .unset, .unset, .unset, .unset, .unset] [(.ref b104), (.ref b104), (.ref b101), (.ref b101)])) ?_ (fun t_ k_ => XS.dup X104.here hx rfl (hb hby at_166) rfl rfl k_)
    refine Goes.on (T' := T104) (g' := (mkF m 168 #[.val (.int ya0), .val (.int ya1), .val (.int ya2), .val (.int ya3), .val (.int ya4), .val (.int (4 : Int32)), .val (.int c0), .val (.int c1), .val (.int c2), .val (.int c3), .unset, .unset, .unset, .unset, .unset] [(.int (0 : Int32)), (.ref b104), (.ref b104), (.ref b101), (.ref b101)])) ?_ (fun t_ k_ => XS.iconst X104.here hx rfl (hb hby at_167) k_)
    refine Goes.on (T' := T104) (g' := (mkF m 170 #[.val (.int ya0), .val (.int ya1), .val (.int ya2), .val (.int ya3), .val (.int ya4), .val (.int (4 : Int32)), .val (.int c0), .val (.int c1), .val (.int c2), .val (.int c3), .unset, .unset, .unset, .unset, .unset] [(.int c0), (.int (0 : Int32)), (.ref b104), (.ref b104), (.ref b101), (.ref b101)])) ?_ (fun t_ k_ => XS.iload X104.here hx rfl (hb hby at_168) rfl k_)
    obtain ⟨cc110, A110, q110, S110, M110, H110, G110⟩ := VV104
    obtain ⟨T111, h111, X111, e111, W111, st111⟩ := stC X104 hx hZ e104 A110 (j := (0 : Int32)) (inb_of S110 ⟨by decide, by decide⟩) (g := (mkF m 170 #[.val (.int ya0), .val (.int ya1), .val (.int ya2), .val (.int ya3), .val (.int ya4), .val (.int (4 : Int32)), .val (.int c0), .val (.int c1), .val (.int c2), .val (.int c3), .unset, .unset, .unset, .unset, .unset] [(.int c0), (.int (0 : Int32)), (.ref b104), (.ref b104), (.ref b101), (.ref b101)])) rfl rfl (hb hby at_170)
    have N111 := Fr.snoc X111 N4 g_b104
    have Z111 : n0 ≤ h111.size := Nat.le_trans Z104 (Nat.le_of_eq W111.size.symm)
    refine Goes.on (T' := T111) (g' := (mkF m 171 #[.val (.int ya0), .val (.int ya1), .val (.int ya2), .val (.int ya3), .val (.int ya4), .val (.int (4 : Int32)), .val (.int c0), .val (.int c1), .val (.int c2), .val (.int c3), .unset, .unset, .unset, .unset, .unset] [(.ref b104), (.ref b101), (.ref b101)])) ?_ st111
    have fx112 := fx105.other W111 (Or.inl (Ne.symm nex104))
    have fx113 := fx106.other W111 (Or.inl (Ne.symm nex104))
    have fx114 := fx107.wr W111
    have Sf115_b101 := Safe.wr W111 (Safe.arr hZ.alike A110 (fun q => nomatch q)) C109.1 Sf108_b101
    have C116 := C109.trans (CHr.wr W111 (Safe.arr hZ.alike A110 (fun q => nomatch q)) C109.1)
    have V111 : Arv Z h111 b104 k104 .char (4 : Int32) [.int c0, .int 0, .int 0, .int 0] (.int 0) := by have q := Arv.set A110 q110 S110 M110 H110 G110 (fits_nar_char _) W111 0 rfl (Nat.le_of_ble_eq_true rfl); rw [own_narc ⟨hpa0, hpb0⟩] at q; exact q
    refine Goes.on (T' := T111) (g' := (mkF m 172 #[.val (.int ya0), .val (.int ya1), .val (.int ya2), .val (.int ya3), .val (.int ya4), .val (.int (4 : Int32)), .val (.int c0), .val (.int c1), .val (.int c2), .val (.int c3), .unset, .unset, .unset, .unset, .unset] [(.ref b104), (.ref b104), (.ref b101), (.ref b101)])) ?_ (fun t_ k_ => XS.dup X111.here hx rfl (hb hby at_171) rfl rfl k_)
    refine Goes.on (T' := T111) (g' := (mkF m 173 #[.val (.int ya0), .val (.int ya1), .val (.int ya2), .val (.int ya3), .val (.int ya4), .val (.int (4 : Int32)), .val (.int c0), .val (.int c1), .val (.int c2), .val (.int c3), .unset, .unset, .unset, .unset, .unset] [(.int (1 : Int32)), (.ref b104), (.ref b104), (.ref b101), (.ref b101)])) ?_ (fun t_ k_ => XS.iconst X111.here hx rfl (hb hby at_172) k_)
    refine Goes.on (T' := T111) (g' := (mkF m 175 #[.val (.int ya0), .val (.int ya1), .val (.int ya2), .val (.int ya3), .val (.int ya4), .val (.int (4 : Int32)), .val (.int c0), .val (.int c1), .val (.int c2), .val (.int c3), .unset, .unset, .unset, .unset, .unset] [(.int c1), (.int (1 : Int32)), (.ref b104), (.ref b104), (.ref b101), (.ref b101)])) ?_ (fun t_ k_ => XS.iload X111.here hx rfl (hb hby at_173) rfl k_)
    obtain ⟨cc117, A117, q117, S117, M117, H117, G117⟩ := V111
    obtain ⟨T118, h118, X118, e118, W118, st118⟩ := stC X111 hx hZ e111 A117 (j := (1 : Int32)) (inb_of S117 ⟨by decide, by decide⟩) (g := (mkF m 175 #[.val (.int ya0), .val (.int ya1), .val (.int ya2), .val (.int ya3), .val (.int ya4), .val (.int (4 : Int32)), .val (.int c0), .val (.int c1), .val (.int c2), .val (.int c3), .unset, .unset, .unset, .unset, .unset] [(.int c1), (.int (1 : Int32)), (.ref b104), (.ref b104), (.ref b101), (.ref b101)])) rfl rfl (hb hby at_175)
    have N118 := Fr.snoc X118 N111 g_b104
    have Z118 : n0 ≤ h118.size := Nat.le_trans Z111 (Nat.le_of_eq W118.size.symm)
    refine Goes.on (T' := T118) (g' := (mkF m 176 #[.val (.int ya0), .val (.int ya1), .val (.int ya2), .val (.int ya3), .val (.int ya4), .val (.int (4 : Int32)), .val (.int c0), .val (.int c1), .val (.int c2), .val (.int c3), .unset, .unset, .unset, .unset, .unset] [(.ref b104), (.ref b101), (.ref b101)])) ?_ st118
    have fx119 := fx112.other W118 (Or.inl (Ne.symm nex104))
    have fx120 := fx113.other W118 (Or.inl (Ne.symm nex104))
    have fx121 := fx114.wr W118
    have Sf122_b101 := Safe.wr W118 (Safe.arr hZ.alike A117 (fun q => nomatch q)) C116.1 Sf115_b101
    have C123 := C116.trans (CHr.wr W118 (Safe.arr hZ.alike A117 (fun q => nomatch q)) C116.1)
    have V118 : Arv Z h118 b104 k104 .char (4 : Int32) [.int c0, .int c1, .int 0, .int 0] (.int 0) := by have q := Arv.set A117 q117 S117 M117 H117 G117 (fits_nar_char _) W118 1 rfl (Nat.le_of_ble_eq_true rfl); rw [own_narc ⟨hpa1, hpb1⟩] at q; exact q
    refine Goes.on (T' := T118) (g' := (mkF m 177 #[.val (.int ya0), .val (.int ya1), .val (.int ya2), .val (.int ya3), .val (.int ya4), .val (.int (4 : Int32)), .val (.int c0), .val (.int c1), .val (.int c2), .val (.int c3), .unset, .unset, .unset, .unset, .unset] [(.ref b104), (.ref b104), (.ref b101), (.ref b101)])) ?_ (fun t_ k_ => XS.dup X118.here hx rfl (hb hby at_176) rfl rfl k_)
    refine Goes.on (T' := T118) (g' := (mkF m 178 #[.val (.int ya0), .val (.int ya1), .val (.int ya2), .val (.int ya3), .val (.int ya4), .val (.int (4 : Int32)), .val (.int c0), .val (.int c1), .val (.int c2), .val (.int c3), .unset, .unset, .unset, .unset, .unset] [(.int (2 : Int32)), (.ref b104), (.ref b104), (.ref b101), (.ref b101)])) ?_ (fun t_ k_ => XS.iconst X118.here hx rfl (hb hby at_177) k_)
    refine Goes.on (T' := T118) (g' := (mkF m 180 #[.val (.int ya0), .val (.int ya1), .val (.int ya2), .val (.int ya3), .val (.int ya4), .val (.int (4 : Int32)), .val (.int c0), .val (.int c1), .val (.int c2), .val (.int c3), .unset, .unset, .unset, .unset, .unset] [(.int c2), (.int (2 : Int32)), (.ref b104), (.ref b104), (.ref b101), (.ref b101)])) ?_ (fun t_ k_ => XS.iload X118.here hx rfl (hb hby at_178) rfl k_)
    obtain ⟨cc124, A124, q124, S124, M124, H124, G124⟩ := V118
    obtain ⟨T125, h125, X125, e125, W125, st125⟩ := stC X118 hx hZ e118 A124 (j := (2 : Int32)) (inb_of S124 ⟨by decide, by decide⟩) (g := (mkF m 180 #[.val (.int ya0), .val (.int ya1), .val (.int ya2), .val (.int ya3), .val (.int ya4), .val (.int (4 : Int32)), .val (.int c0), .val (.int c1), .val (.int c2), .val (.int c3), .unset, .unset, .unset, .unset, .unset] [(.int c2), (.int (2 : Int32)), (.ref b104), (.ref b104), (.ref b101), (.ref b101)])) rfl rfl (hb hby at_180)
    have N125 := Fr.snoc X125 N118 g_b104
    have Z125 : n0 ≤ h125.size := Nat.le_trans Z118 (Nat.le_of_eq W125.size.symm)
    refine Goes.on (T' := T125) (g' := (mkF m 181 #[.val (.int ya0), .val (.int ya1), .val (.int ya2), .val (.int ya3), .val (.int ya4), .val (.int (4 : Int32)), .val (.int c0), .val (.int c1), .val (.int c2), .val (.int c3), .unset, .unset, .unset, .unset, .unset] [(.ref b104), (.ref b101), (.ref b101)])) ?_ st125
    have fx126 := fx119.other W125 (Or.inl (Ne.symm nex104))
    have fx127 := fx120.other W125 (Or.inl (Ne.symm nex104))
    have fx128 := fx121.wr W125
    have Sf129_b101 := Safe.wr W125 (Safe.arr hZ.alike A124 (fun q => nomatch q)) C123.1 Sf122_b101
    have C130 := C123.trans (CHr.wr W125 (Safe.arr hZ.alike A124 (fun q => nomatch q)) C123.1)
    have V125 : Arv Z h125 b104 k104 .char (4 : Int32) [.int c0, .int c1, .int c2, .int 0] (.int 0) := by have q := Arv.set A124 q124 S124 M124 H124 G124 (fits_nar_char _) W125 2 rfl (Nat.le_of_ble_eq_true rfl); rw [own_narc ⟨hpa2, hpb2⟩] at q; exact q
    refine Goes.on (T' := T125) (g' := (mkF m 182 #[.val (.int ya0), .val (.int ya1), .val (.int ya2), .val (.int ya3), .val (.int ya4), .val (.int (4 : Int32)), .val (.int c0), .val (.int c1), .val (.int c2), .val (.int c3), .unset, .unset, .unset, .unset, .unset] [(.ref b104), (.ref b104), (.ref b101), (.ref b101)])) ?_ (fun t_ k_ => XS.dup X125.here hx rfl (hb hby at_181) rfl rfl k_)
    refine Goes.on (T' := T125) (g' := (mkF m 183 #[.val (.int ya0), .val (.int ya1), .val (.int ya2), .val (.int ya3), .val (.int ya4), .val (.int (4 : Int32)), .val (.int c0), .val (.int c1), .val (.int c2), .val (.int c3), .unset, .unset, .unset, .unset, .unset] [(.int (3 : Int32)), (.ref b104), (.ref b104), (.ref b101), (.ref b101)])) ?_ (fun t_ k_ => XS.iconst X125.here hx rfl (hb hby at_182) k_)
    refine Goes.on (T' := T125) (g' := (mkF m 185 #[.val (.int ya0), .val (.int ya1), .val (.int ya2), .val (.int ya3), .val (.int ya4), .val (.int (4 : Int32)), .val (.int c0), .val (.int c1), .val (.int c2), .val (.int c3), .unset, .unset, .unset, .unset, .unset] [(.int c3), (.int (3 : Int32)), (.ref b104), (.ref b104), (.ref b101), (.ref b101)])) ?_ (fun t_ k_ => XS.iload X125.here hx rfl (hb hby at_183) rfl k_)
    obtain ⟨cc131, A131, q131, S131, M131, H131, G131⟩ := V125
    obtain ⟨T132, h132, X132, e132, W132, st132⟩ := stC X125 hx hZ e125 A131 (j := (3 : Int32)) (inb_of S131 ⟨by decide, by decide⟩) (g := (mkF m 185 #[.val (.int ya0), .val (.int ya1), .val (.int ya2), .val (.int ya3), .val (.int ya4), .val (.int (4 : Int32)), .val (.int c0), .val (.int c1), .val (.int c2), .val (.int c3), .unset, .unset, .unset, .unset, .unset] [(.int c3), (.int (3 : Int32)), (.ref b104), (.ref b104), (.ref b101), (.ref b101)])) rfl rfl (hb hby at_185)
    have N132 := Fr.snoc X132 N125 g_b104
    have Z132 : n0 ≤ h132.size := Nat.le_trans Z125 (Nat.le_of_eq W132.size.symm)
    refine Goes.on (T' := T132) (g' := (mkF m 186 #[.val (.int ya0), .val (.int ya1), .val (.int ya2), .val (.int ya3), .val (.int ya4), .val (.int (4 : Int32)), .val (.int c0), .val (.int c1), .val (.int c2), .val (.int c3), .unset, .unset, .unset, .unset, .unset] [(.ref b104), (.ref b101), (.ref b101)])) ?_ st132
    have fx133 := fx126.other W132 (Or.inl (Ne.symm nex104))
    have fx134 := fx127.other W132 (Or.inl (Ne.symm nex104))
    have fx135 := fx128.wr W132
    have Sf136_b101 := Safe.wr W132 (Safe.arr hZ.alike A131 (fun q => nomatch q)) C130.1 Sf129_b101
    have C137 := C130.trans (CHr.wr W132 (Safe.arr hZ.alike A131 (fun q => nomatch q)) C130.1)
    have V132 : Arv Z h132 b104 k104 .char (4 : Int32) [.int c0, .int c1, .int c2, .int c3] (.int 0) := by have q := Arv.set A131 q131 S131 M131 H131 G131 (fits_nar_char _) W132 3 rfl (Nat.le_of_ble_eq_true rfl); rw [own_narc ⟨hpa3, hpb3⟩] at q; exact q
    have hp : ∀ c ∈ ([c0, c1, c2, c3] : List Int32), ¬ c < 0 ∧ ¬ (65535 : Int32) < c := by intro c hc; simp only [List.mem_cons, List.not_mem_nil, or_false] at hc; rcases hc with rfl | rfl | rfl | rfl <;> exact ⟨by assumption, by assumption⟩
    have hl : ([c0, c1, c2, c3] : List Int32).length ≤ 16 := by show (4 : Nat) ≤ 16; decide
    have hl0 : 0 < ([c0, c1, c2, c3] : List Int32).length := Nat.succ_pos _
    have XO : Old Z n0 h132 := ((((((X0_.ext E101).ext E104).wr W111 g_b104).wr W118 g_b104).wr W125 g_b104).wr W132 g_b104)
    obtain ⟨_, _, ⟨T138, Lq_138, kq_138, nq_138⟩, -, X138, ⟨Lc138, hQ138, l138, y138, z138⟩, st138⟩ := X132.specialBack hx (y := (⟨"java/lang/String", "<init>", "([C)V"⟩ : MethodName)) rfl hown (mvT hZ (hw _ (List.mem_of_getElem? (i := 9) rfl))) (mvT hZ (hw _ (List.mem_of_getElem? (i := 10) rfl))) (mvT hZ (hw _ (List.mem_of_getElem? (i := 11) rfl))) (by decide) (backOf (W := 1) (rmI1 l Z a0 hw [] b101 b104 k104 [c0, c1, c2, c3] zc h132 n0 Z132 fx135 fx133 fx134 g_b101 (by exact V132) hp hl hl0 CS hzc AD HB LB XO) hZ (hw _ (List.mem_of_getElem? (i := 11) rfl)) (hw _ (List.mem_of_getElem? (i := 7) rfl)) (by decide) (by decide)) (g := (mkF m 186 #[.val (.int ya0), .val (.int ya1), .val (.int ya2), .val (.int ya3), .val (.int ya4), .val (.int (4 : Int32)), .val (.int c0), .val (.int c1), .val (.int c2), .val (.int c3), .unset, .unset, .unset, .unset, .unset] [(.ref b104), (.ref b101), (.ref b101)])) rfl (by rw [hml]; rfl) (Steps.refl _) (a := b101) (argsL := [(.ref b104)]) (rest := [(.ref b101)]) (lenOf pd_21 rfl) rfl (by show 2 * 0 + _ ≤ _; exact Nat.le_of_eq rfl) (hb hby at_186) (fun _ _ => ⟨rfl, e132, (by decide : 2 + 2 ≤ _), (by decide : 8 + 48 ≤ _)⟩)
    dsimp only [Pt.U, Pt.locs, Pt.cells, Pt.slots] at X138 l138 y138 z138 st138 hQ138
    rw [l138, y138, z138] at X138
    change Stand p l e _ _ m _ below meth c T138 _ 4 56 at X138
    obtain ⟨rfl, N138q, K138, ⟨tt, kt, cd, szt, TX⟩⟩ := hQ138
    have N138 := Fr.app N132 N138q
    refine Goes.on (T' := T138) (g' := (mkF m 189 #[.val (.int ya0), .val (.int ya1), .val (.int ya2), .val (.int ya3), .val (.int ya4), .val (.int (4 : Int32)), .val (.int c0), .val (.int c1), .val (.int c2), .val (.int c3), .unset, .unset, .unset, .unset, .unset] [(.ref b101)])) ?_ (fun t => st138.trans)
    have ZS : n0 ≤ T138.heap.size := Nat.le_trans Z132 K138.1
    have XS_ : Old Z n0 T138.heap := XO.keep K138 (allS g_b101 all0)
    have hs139 := (own_sfC (P := fun y => Safe Z consts_1 s.vm _ y) Sf136_b101 (fun y hy => absurd hy List.not_mem_nil))
    have Sf139_b101 := Safe.keep K138 hs139 C137.1 Sf136_b101
    have C140 := C137.trans (CHr.keep K138 hs139 C137.1)
    have ltx : b101 < T138.heap.size := TX.1.lt
    refine Goes.on (T' := T138) (g' := (mkF m 191 #[.val (.int ya0), .val (.int ya1), .val (.int ya2), .val (.int ya3), .val (.int ya4), .val (.int (4 : Int32)), .val (.int c0), .val (.int c1), .val (.int c2), .val (.int c3), .val (.ref b101), .unset, .unset, .unset, .unset] [])) ?_ (fun t_ k_ => XS.astore X138.here hx rfl (hb hby at_189) rfl rfl (l' := #[.val (.int ya0), .val (.int ya1), .val (.int ya2), .val (.int ya3), .val (.int ya4), .val (.int (4 : Int32)), .val (.int c0), .val (.int c1), .val (.int c2), .val (.int c3), .val (.ref b101), .unset, .unset, .unset, .unset]) rfl k_)
    refine Goes.on (T' := T138) (g' := (mkF m 193 #[.val (.int ya0), .val (.int ya1), .val (.int ya2), .val (.int ya3), .val (.int ya4), .val (.int (4 : Int32)), .val (.int c0), .val (.int c1), .val (.int c2), .val (.int c3), .val (.ref b101), .unset, .unset, .unset, .unset] [(.ref b101)])) ?_ (fun t_ k_ => XS.aload X138.here hx rfl (hb hby at_191) rfl rfl k_)
    obtain ⟨_, _, ⟨T141, Lq_141, kq_141, nq_141⟩, -, X141a, S141a, G141a, ⟨Lc141, hQ141, l141, y141, z141, D141⟩, st141⟩ := Jvm.RoadKit.callSS (s := s.setVm s.vm) X138 hx (y := (⟨"com/example/regraft/regraft/core/Node", "isValidName", "(Ljava/lang/String;)Z"⟩ : MethodName)) hown (mvT hZ (hw _ (List.mem_of_getElem? (i := 27) rfl))) (mvT hZ (hw _ (List.mem_of_getElem? (i := 28) rfl))) (mvT hZ (hw _ (List.mem_of_getElem? (i := 29) rfl))) (mvT hZ (hw _ (List.mem_of_getElem? (i := 30) rfl))) (by decide) (backSH (s := s) (vm0 := s.vm) (W := 0) (xs := []) (rmVT l Z a0 hw [] b101 tt kt [c0, c1, c2, c3] cd zc vf T138.heap n0 ZS hEL TX CS hzc hp hl hl0 XS_ AD HB LB SO rG) hZ (hw _ (List.mem_of_getElem? (i := 30) rfl)) (hw _ (List.mem_of_getElem? (i := 29) rfl)) (by decide) (by decide) hEL C140.1 (fun y hy => absurd hy List.not_mem_nil)) (g := (mkF m 193 #[.val (.int ya0), .val (.int ya1), .val (.int ya2), .val (.int ya3), .val (.int ya4), .val (.int (4 : Int32)), .val (.int c0), .val (.int c1), .val (.int c2), .val (.int c3), .val (.ref b101), .unset, .unset, .unset, .unset] [(.ref b101)])) rfl (by rw [hml]; rfl) (argsL := [(.ref b101)]) (rest := []) (lenOf pd_22 rfl) rfl (by show 2 * 0 + _ ≤ _; exact Nat.le_of_eq rfl) (hb hby at_193) (fun _ _ => ⟨rfl, rfl, (by decide : 4 + 2 ≤ _), (by decide : 56 + 16 ≤ _)⟩)
    dsimp only [Pt.U, Pt.locs, Pt.cells, Pt.slots] at X141a S141a G141a l141 y141 z141 st141 hQ141 D141
    rw [l141, y141, z141] at X141a
    obtain ⟨X141, hS141, hZ, hown⟩ := rebS (s := s) (vm0 := s.vm) hS0 (Nat.le_trans (Nat.le_trans (Nat.le_trans (Nat.le_trans (Nat.le_trans (Nat.le_trans (Nat.le_trans (Nat.le_refl _) E101.1) E104.1) (Nat.le_of_eq W111.size.symm)) (Nat.le_of_eq W118.size.symm)) (Nat.le_of_eq W125.size.symm)) (Nat.le_of_eq W132.size.symm)) K138.1) X141a S141a G141a hZ hown
    change Stand p l e _ _ m _ below meth c T141 _ 6 72 at X141
    obtain ⟨rfl, N141q⟩ := hQ141
    have N141 := Fr.app N138 N141q
    have Sf141_b101 := D141.safe ltx Sf139_b101
    have Z141 : n0 ≤ T141.heap.size := Nat.le_trans ZS D141.2.1
    have C142 := C140.trans D141
    refine Goes.on (T' := T141) (g' := (mkF m 196 #[.val (.int ya0), .val (.int ya1), .val (.int ya2), .val (.int ya3), .val (.int ya4), .val (.int (4 : Int32)), .val (.int c0), .val (.int c1), .val (.int c2), .val (.int c3), .val (.ref b101), .unset, .unset, .unset, .unset] [(.int (own_ivn [c0, c1, c2, c3]))])) ?_ (fun t => st141.trans)
    obtain ⟨av, hav⟩ : ∃ z, z = own_ivn [c0, c1, c2, c3] := ⟨_, rfl⟩
    rw [← hav]
    refine Goes.on (T' := T141) (g' := (mkF m 198 #[.val (.int ya0), .val (.int ya1), .val (.int ya2), .val (.int ya3), .val (.int ya4), .val (.int (4 : Int32)), .val (.int c0), .val (.int c1), .val (.int c2), .val (.int c3), .val (.ref b101), .val (.int av), .unset, .unset, .unset] [])) ?_ (fun t_ k_ => XS.istore X141.here hx rfl (hb hby at_196) rfl (l' := #[.val (.int ya0), .val (.int ya1), .val (.int ya2), .val (.int ya3), .val (.int ya4), .val (.int (4 : Int32)), .val (.int c0), .val (.int c1), .val (.int c2), .val (.int c3), .val (.ref b101), .val (.int av), .unset, .unset, .unset]) rfl k_)
    refine Goes.on (T' := T141) (g' := (mkF m 200 #[.val (.int ya0), .val (.int ya1), .val (.int ya2), .val (.int ya3), .val (.int ya4), .val (.int (4 : Int32)), .val (.int c0), .val (.int c1), .val (.int c2), .val (.int c3), .val (.ref b101), .val (.int av), .unset, .unset, .unset] [(.int (4 : Int32))])) ?_ (fun t_ k_ => XS.iload X141.here hx rfl (hb hby at_198) rfl k_)
    refine Goes.on (T' := T141) (g' := (mkF m 201 #[.val (.int ya0), .val (.int ya1), .val (.int ya2), .val (.int ya3), .val (.int ya4), .val (.int (4 : Int32)), .val (.int c0), .val (.int c1), .val (.int c2), .val (.int c3), .val (.ref b101), .val (.int av), .unset, .unset, .unset] [(.int (5 : Int32)), (.int (4 : Int32))])) ?_ (fun t_ k_ => XS.iconst X141.here hx rfl (hb hby at_200) k_)
    refine Goes.on (T' := T141) (g' := (mkF m 204 #[.val (.int ya0), .val (.int ya1), .val (.int ya2), .val (.int ya3), .val (.int ya4), .val (.int (4 : Int32)), .val (.int c0), .val (.int c1), .val (.int c2), .val (.int c3), .val (.ref b101), .val (.int av), .unset, .unset, .unset] [])) ?_ (fun t_ k_ => XS.icmpNo X141.here hx rfl (hb hby at_201) rfl (by decide) k_)
    refine Goes.on (T' := T141) (g' := (mkF m 206 #[.val (.int ya0), .val (.int ya1), .val (.int ya2), .val (.int ya3), .val (.int ya4), .val (.int (4 : Int32)), .val (.int c0), .val (.int c1), .val (.int c2), .val (.int c3), .val (.ref b101), .val (.int av), .unset, .unset, .unset] [(.int (4 : Int32))])) ?_ (fun t_ k_ => XS.iload X141.here hx rfl (hb hby at_204) rfl k_)
    refine Goes.on (T' := T141) (g' := (mkF m 215 #[.val (.int ya0), .val (.int ya1), .val (.int ya2), .val (.int ya3), .val (.int ya4), .val (.int (4 : Int32)), .val (.int c0), .val (.int c1), .val (.int c2), .val (.int c3), .val (.ref b101), .val (.int av), .unset, .unset, .unset] [])) ?_ (fun t_ k_ => XS.ifYes X141.here hx rfl (pc0 := 206) (pc' := 215) rfl (hb hby at_206) rfl (by decide) (by decide) (by decide) k_)
    refine Goes.on (T' := T141) (g' := (mkF m 217 #[.val (.int ya0), .val (.int ya1), .val (.int ya2), .val (.int ya3), .val (.int ya4), .val (.int (4 : Int32)), .val (.int c0), .val (.int c1), .val (.int c2), .val (.int c3), .val (.ref b101), .val (.int av), .unset, .unset, .unset] [(.int c0)])) ?_ (fun t_ k_ => XS.iload X141.here hx rfl (hb hby at_215) rfl k_)
    refine Goes.on (T' := T141) (g' := (mkF m 219 #[.val (.int ya0), .val (.int ya1), .val (.int ya2), .val (.int ya3), .val (.int ya4), .val (.int (4 : Int32)), .val (.int c0), .val (.int c1), .val (.int c2), .val (.int c3), .val (.ref b101), .val (.int av), .unset, .unset, .unset] [(.int (47 : Int32)), (.int c0)])) ?_ (fun t_ k_ => XS.bipush X141.here hx rfl (hb hby at_217) k_)
    refine Goes.icmpP X141 hx rfl (pc0 := 219) (pc' := 261) rfl (hb hby at_219) rfl (by decide) (by decide) (P := c0 = (47 : Int32)) (cmp_eq _ _) (fun hc219 => ?_) (fun hc219 => ?_)
    · show Goes p e below W T141 (mkF m 261 #[.val (.int ya0), .val (.int ya1), .val (.int ya2), .val (.int ya3), .val (.int ya4), .val (.int (4 : Int32)), .val (.int c0), .val (.int c1), .val (.int c2), .val (.int c3), .val (.ref b101), .val (.int av), .unset, .unset, .unset] [])
      refine Goes.on (T' := T141) (g' := (mkF m 262 #[.val (.int ya0), .val (.int ya1), .val (.int ya2), .val (.int ya3), .val (.int ya4), .val (.int (4 : Int32)), .val (.int c0), .val (.int c1), .val (.int c2), .val (.int c3), .val (.ref b101), .val (.int av), .unset, .unset, .unset] [(.int (1 : Int32))])) ?_ (fun t_ k_ => XS.iconst X141.here hx rfl (hb hby at_261) k_)
      refine Goes.on (T' := T141) (g' := (mkF m 266 #[.val (.int ya0), .val (.int ya1), .val (.int ya2), .val (.int ya3), .val (.int ya4), .val (.int (4 : Int32)), .val (.int c0), .val (.int c1), .val (.int c2), .val (.int c3), .val (.ref b101), .val (.int av), .unset, .unset, .unset] [(.int (1 : Int32))])) ?_ (fun t_ k_ => XS.goto X141.here hx rfl (pc0 := 262) (pc' := 266) rfl (hb hby at_262) (by decide) (by decide) k_)
      refine Goes.on (T' := T141) (g' := (mkF m 268 #[.val (.int ya0), .val (.int ya1), .val (.int ya2), .val (.int ya3), .val (.int ya4), .val (.int (4 : Int32)), .val (.int c0), .val (.int c1), .val (.int c2), .val (.int c3), .val (.ref b101), .val (.int av), .unset, .val (.int (1 : Int32)), .unset] [])) ?_ (fun t_ k_ => XS.istore X141.here hx rfl (hb hby at_266) rfl (l' := #[.val (.int ya0), .val (.int ya1), .val (.int ya2), .val (.int ya3), .val (.int ya4), .val (.int (4 : Int32)), .val (.int c0), .val (.int c1), .val (.int c2), .val (.int c3), .val (.ref b101), .val (.int av), .unset, .val (.int (1 : Int32)), .unset]) rfl k_)
      refine Goes.on (T' := T141) (g' := (mkF m 270 #[.val (.int ya0), .val (.int ya1), .val (.int ya2), .val (.int ya3), .val (.int ya4), .val (.int (4 : Int32)), .val (.int c0), .val (.int c1), .val (.int c2), .val (.int c3), .val (.ref b101), .val (.int av), .unset, .val (.int (1 : Int32)), .unset] [(.int (4 : Int32))])) ?_ (fun t_ k_ => XS.iload X141.here hx rfl (hb hby at_268) rfl k_)
      refine Goes.on (T' := T141) (g' := (mkF m 271 #[.val (.int ya0), .val (.int ya1), .val (.int ya2), .val (.int ya3), .val (.int ya4), .val (.int (4 : Int32)), .val (.int c0), .val (.int c1), .val (.int c2), .val (.int c3), .val (.ref b101), .val (.int av), .unset, .val (.int (1 : Int32)), .unset] [(.int (3 : Int32)), (.int (4 : Int32))])) ?_ (fun t_ k_ => XS.iconst X141.here hx rfl (hb hby at_270) k_)
      refine Goes.on (T' := T141) (g' := (mkF m 299 #[.val (.int ya0), .val (.int ya1), .val (.int ya2), .val (.int ya3), .val (.int ya4), .val (.int (4 : Int32)), .val (.int c0), .val (.int c1), .val (.int c2), .val (.int c3), .val (.ref b101), .val (.int av), .unset, .val (.int (1 : Int32)), .unset] [])) ?_ (fun t_ k_ => XS.icmpYes X141.here hx rfl (pc0 := 271) (pc' := 299) rfl (hb hby at_271) rfl (by decide) (by decide) (by decide) k_)
      refine Goes.on (T' := T141) (g' := (mkF m 300 #[.val (.int ya0), .val (.int ya1), .val (.int ya2), .val (.int ya3), .val (.int ya4), .val (.int (4 : Int32)), .val (.int c0), .val (.int c1), .val (.int c2), .val (.int c3), .val (.ref b101), .val (.int av), .unset, .val (.int (1 : Int32)), .unset] [(.int (0 : Int32))])) ?_ (fun t_ k_ => XS.iconst X141.here hx rfl (hb hby at_299) k_)
      refine Goes.on (T' := T141) (g' := (mkF m 302 #[.val (.int ya0), .val (.int ya1), .val (.int ya2), .val (.int ya3), .val (.int ya4), .val (.int (4 : Int32)), .val (.int c0), .val (.int c1), .val (.int c2), .val (.int c3), .val (.ref b101), .val (.int av), .unset, .val (.int (1 : Int32)), .val (.int (0 : Int32))] [])) ?_ (fun t_ k_ => XS.istore X141.here hx rfl (hb hby at_300) rfl (l' := #[.val (.int ya0), .val (.int ya1), .val (.int ya2), .val (.int ya3), .val (.int ya4), .val (.int (4 : Int32)), .val (.int c0), .val (.int c1), .val (.int c2), .val (.int c3), .val (.ref b101), .val (.int av), .unset, .val (.int (1 : Int32)), .val (.int (0 : Int32))]) rfl k_)
      refine Goes.on (T' := T141) (g' := (mkF m 304 #[.val (.int ya0), .val (.int ya1), .val (.int ya2), .val (.int ya3), .val (.int ya4), .val (.int (4 : Int32)), .val (.int c0), .val (.int c1), .val (.int c2), .val (.int c3), .val (.ref b101), .val (.int av), .unset, .val (.int (1 : Int32)), .val (.int (0 : Int32))] [(.int (1 : Int32))])) ?_ (fun t_ k_ => XS.iload X141.here hx rfl (hb hby at_302) rfl k_)
      refine Goes.on (T' := T141) (g' := (mkF m 316 #[.val (.int ya0), .val (.int ya1), .val (.int ya2), .val (.int ya3), .val (.int ya4), .val (.int (4 : Int32)), .val (.int c0), .val (.int c1), .val (.int c2), .val (.int c3), .val (.ref b101), .val (.int av), .unset, .val (.int (1 : Int32)), .val (.int (0 : Int32))] [])) ?_ (fun t_ k_ => XS.ifYes X141.here hx rfl (pc0 := 304) (pc' := 316) rfl (hb hby at_304) rfl (by decide) (by decide) (by decide) k_)
      refine Goes.on (T' := T141) (g' := (mkF m 317 #[.val (.int ya0), .val (.int ya1), .val (.int ya2), .val (.int ya3), .val (.int ya4), .val (.int (4 : Int32)), .val (.int c0), .val (.int c1), .val (.int c2), .val (.int c3), .val (.ref b101), .val (.int av), .unset, .val (.int (1 : Int32)), .val (.int (0 : Int32))] [(.int (0 : Int32))])) ?_ (fun t_ k_ => XS.iconst X141.here hx rfl (hb hby at_316) k_)
      refine Goes.on (T' := T141) (g' := (mkF m 319 #[.val (.int ya0), .val (.int ya1), .val (.int ya2), .val (.int ya3), .val (.int ya4), .val (.int (4 : Int32)), .val (.int c0), .val (.int c1), .val (.int c2), .val (.int c3), .val (.ref b101), .val (.int av), .val (.int (0 : Int32)), .val (.int (1 : Int32)), .val (.int (0 : Int32))] [])) ?_ (fun t_ k_ => XS.istore X141.here hx rfl (hb hby at_317) rfl (l' := #[.val (.int ya0), .val (.int ya1), .val (.int ya2), .val (.int ya3), .val (.int ya4), .val (.int (4 : Int32)), .val (.int c0), .val (.int c1), .val (.int c2), .val (.int c3), .val (.ref b101), .val (.int av), .val (.int (0 : Int32)), .val (.int (1 : Int32)), .val (.int (0 : Int32))]) rfl k_)
      refine Goes.on (T' := T141) (g' := (mkF m 321 #[.val (.int ya0), .val (.int ya1), .val (.int ya2), .val (.int ya3), .val (.int ya4), .val (.int (4 : Int32)), .val (.int c0), .val (.int c1), .val (.int c2), .val (.int c3), .val (.ref b101), .val (.int av), .val (.int (0 : Int32)), .val (.int (1 : Int32)), .val (.int (0 : Int32))] [(.int av)])) ?_ (fun t_ k_ => XS.iload X141.here hx rfl (hb hby at_319) rfl k_)
      refine Goes.on (T' := T141) (g' := (mkF m 323 #[.val (.int ya0), .val (.int ya1), .val (.int ya2), .val (.int ya3), .val (.int ya4), .val (.int (4 : Int32)), .val (.int c0), .val (.int c1), .val (.int c2), .val (.int c3), .val (.ref b101), .val (.int av), .val (.int (0 : Int32)), .val (.int (1 : Int32)), .val (.int (0 : Int32))] [(.int (0 : Int32)), (.int av)])) ?_ (fun t_ k_ => XS.iload X141.here hx rfl (hb hby at_321) rfl k_)
      refine Goes.on (T' := T141) (g' := (mkF m 326 #[.val (.int ya0), .val (.int ya1), .val (.int ya2), .val (.int ya3), .val (.int ya4), .val (.int (4 : Int32)), .val (.int c0), .val (.int c1), .val (.int c2), .val (.int c3), .val (.ref b101), .val (.int av), .val (.int (0 : Int32)), .val (.int (1 : Int32)), .val (.int (0 : Int32))] [])) ?_ (fun t_ k_ => XS.icmpNo X141.here hx rfl (hb hby at_323) rfl (teq (show av = (0 : Int32) from by rw [hav, own_ivn4]; simp only [eq_true hc219, if_true, if_false, ↓reduceIte, not_true_eq_false, not_false_eq_true, true_and, and_true, false_and, and_false, or_true, true_or, or_false, false_or, and_self, or_self])).2 k_)
      refine Goes.on (T' := T141) (g' := (mkF m 327 #[.val (.int ya0), .val (.int ya1), .val (.int ya2), .val (.int ya3), .val (.int ya4), .val (.int (4 : Int32)), .val (.int c0), .val (.int c1), .val (.int c2), .val (.int c3), .val (.ref b101), .val (.int av), .val (.int (0 : Int32)), .val (.int (1 : Int32)), .val (.int (0 : Int32))] [(.int (1 : Int32))])) ?_ (fun t_ k_ => XS.iconst X141.here hx rfl (hb hby at_326) k_)
      refine Goes.on (T' := T141) (g' := (mkF m 331 #[.val (.int ya0), .val (.int ya1), .val (.int ya2), .val (.int ya3), .val (.int ya4), .val (.int (4 : Int32)), .val (.int c0), .val (.int c1), .val (.int c2), .val (.int c3), .val (.ref b101), .val (.int av), .val (.int (0 : Int32)), .val (.int (1 : Int32)), .val (.int (0 : Int32))] [(.int (1 : Int32))])) ?_ (fun t_ k_ => XS.goto X141.here hx rfl (pc0 := 327) (pc' := 331) rfl (hb hby at_327) (by decide) (by decide) k_)
      rw [hWd]
      exact Goes.retnW X141 hS141 (Nat.le_refl _) (v := some (.int (nar .boolean (1 : Int32)))) (fun fs hr => retN X141 hx (t := .boolean) Bd.returns (by simp) (hb hby at_331) hr) (fun h => by rw [Bd.returns] at h; cases h) Bd.notSynchronized (by decide) (by decide) ⟨rfl, N141⟩
    · show Goes p e below W T141 (mkF m 222 #[.val (.int ya0), .val (.int ya1), .val (.int ya2), .val (.int ya3), .val (.int ya4), .val (.int (4 : Int32)), .val (.int c0), .val (.int c1), .val (.int c2), .val (.int c3), .val (.ref b101), .val (.int av), .unset, .unset, .unset] [])
      refine Goes.on (T' := T141) (g' := (mkF m 224 #[.val (.int ya0), .val (.int ya1), .val (.int ya2), .val (.int ya3), .val (.int ya4), .val (.int (4 : Int32)), .val (.int c0), .val (.int c1), .val (.int c2), .val (.int c3), .val (.ref b101), .val (.int av), .unset, .unset, .unset] [(.int (4 : Int32))])) ?_ (fun t_ k_ => XS.iload X141.here hx rfl (hb hby at_222) rfl k_)
      refine Goes.on (T' := T141) (g' := (mkF m 225 #[.val (.int ya0), .val (.int ya1), .val (.int ya2), .val (.int ya3), .val (.int ya4), .val (.int (4 : Int32)), .val (.int c0), .val (.int c1), .val (.int c2), .val (.int c3), .val (.ref b101), .val (.int av), .unset, .unset, .unset] [(.int (2 : Int32)), (.int (4 : Int32))])) ?_ (fun t_ k_ => XS.iconst X141.here hx rfl (hb hby at_224) k_)
      refine Goes.on (T' := T141) (g' := (mkF m 228 #[.val (.int ya0), .val (.int ya1), .val (.int ya2), .val (.int ya3), .val (.int ya4), .val (.int (4 : Int32)), .val (.int c0), .val (.int c1), .val (.int c2), .val (.int c3), .val (.ref b101), .val (.int av), .unset, .unset, .unset] [])) ?_ (fun t_ k_ => XS.icmpNo X141.here hx rfl (hb hby at_225) rfl (by decide) k_)
      refine Goes.on (T' := T141) (g' := (mkF m 230 #[.val (.int ya0), .val (.int ya1), .val (.int ya2), .val (.int ya3), .val (.int ya4), .val (.int (4 : Int32)), .val (.int c0), .val (.int c1), .val (.int c2), .val (.int c3), .val (.ref b101), .val (.int av), .unset, .unset, .unset] [(.int c1)])) ?_ (fun t_ k_ => XS.iload X141.here hx rfl (hb hby at_228) rfl k_)
      refine Goes.on (T' := T141) (g' := (mkF m 232 #[.val (.int ya0), .val (.int ya1), .val (.int ya2), .val (.int ya3), .val (.int ya4), .val (.int (4 : Int32)), .val (.int c0), .val (.int c1), .val (.int c2), .val (.int c3), .val (.ref b101), .val (.int av), .unset, .unset, .unset] [(.int (47 : Int32)), (.int c1)])) ?_ (fun t_ k_ => XS.bipush X141.here hx rfl (hb hby at_230) k_)
      refine Goes.icmpP X141 hx rfl (pc0 := 232) (pc' := 261) rfl (hb hby at_232) rfl (by decide) (by decide) (P := c1 = (47 : Int32)) (cmp_eq _ _) (fun hc232 => ?_) (fun hc232 => ?_)
      · show Goes p e below W T141 (mkF m 261 #[.val (.int ya0), .val (.int ya1), .val (.int ya2), .val (.int ya3), .val (.int ya4), .val (.int (4 : Int32)), .val (.int c0), .val (.int c1), .val (.int c2), .val (.int c3), .val (.ref b101), .val (.int av), .unset, .unset, .unset] [])
        refine Goes.on (T' := T141) (g' := (mkF m 262 #[.val (.int ya0), .val (.int ya1), .val (.int ya2), .val (.int ya3), .val (.int ya4), .val (.int (4 : Int32)), .val (.int c0), .val (.int c1), .val (.int c2), .val (.int c3), .val (.ref b101), .val (.int av), .unset, .unset, .unset] [(.int (1 : Int32))])) ?_ (fun t_ k_ => XS.iconst X141.here hx rfl (hb hby at_261) k_)
        refine Goes.on (T' := T141) (g' := (mkF m 266 #[.val (.int ya0), .val (.int ya1), .val (.int ya2), .val (.int ya3), .val (.int ya4), .val (.int (4 : Int32)), .val (.int c0), .val (.int c1), .val (.int c2), .val (.int c3), .val (.ref b101), .val (.int av), .unset, .unset, .unset] [(.int (1 : Int32))])) ?_ (fun t_ k_ => XS.goto X141.here hx rfl (pc0 := 262) (pc' := 266) rfl (hb hby at_262) (by decide) (by decide) k_)
        refine Goes.on (T' := T141) (g' := (mkF m 268 #[.val (.int ya0), .val (.int ya1), .val (.int ya2), .val (.int ya3), .val (.int ya4), .val (.int (4 : Int32)), .val (.int c0), .val (.int c1), .val (.int c2), .val (.int c3), .val (.ref b101), .val (.int av), .unset, .val (.int (1 : Int32)), .unset] [])) ?_ (fun t_ k_ => XS.istore X141.here hx rfl (hb hby at_266) rfl (l' := #[.val (.int ya0), .val (.int ya1), .val (.int ya2), .val (.int ya3), .val (.int ya4), .val (.int (4 : Int32)), .val (.int c0), .val (.int c1), .val (.int c2), .val (.int c3), .val (.ref b101), .val (.int av), .unset, .val (.int (1 : Int32)), .unset]) rfl k_)
        refine Goes.on (T' := T141) (g' := (mkF m 270 #[.val (.int ya0), .val (.int ya1), .val (.int ya2), .val (.int ya3), .val (.int ya4), .val (.int (4 : Int32)), .val (.int c0), .val (.int c1), .val (.int c2), .val (.int c3), .val (.ref b101), .val (.int av), .unset, .val (.int (1 : Int32)), .unset] [(.int (4 : Int32))])) ?_ (fun t_ k_ => XS.iload X141.here hx rfl (hb hby at_268) rfl k_)
        refine Goes.on (T' := T141) (g' := (mkF m 271 #[.val (.int ya0), .val (.int ya1), .val (.int ya2), .val (.int ya3), .val (.int ya4), .val (.int (4 : Int32)), .val (.int c0), .val (.int c1), .val (.int c2), .val (.int c3), .val (.ref b101), .val (.int av), .unset, .val (.int (1 : Int32)), .unset] [(.int (3 : Int32)), (.int (4 : Int32))])) ?_ (fun t_ k_ => XS.iconst X141.here hx rfl (hb hby at_270) k_)
        refine Goes.on (T' := T141) (g' := (mkF m 299 #[.val (.int ya0), .val (.int ya1), .val (.int ya2), .val (.int ya3), .val (.int ya4), .val (.int (4 : Int32)), .val (.int c0), .val (.int c1), .val (.int c2), .val (.int c3), .val (.ref b101), .val (.int av), .unset, .val (.int (1 : Int32)), .unset] [])) ?_ (fun t_ k_ => XS.icmpYes X141.here hx rfl (pc0 := 271) (pc' := 299) rfl (hb hby at_271) rfl (by decide) (by decide) (by decide) k_)
        refine Goes.on (T' := T141) (g' := (mkF m 300 #[.val (.int ya0), .val (.int ya1), .val (.int ya2), .val (.int ya3), .val (.int ya4), .val (.int (4 : Int32)), .val (.int c0), .val (.int c1), .val (.int c2), .val (.int c3), .val (.ref b101), .val (.int av), .unset, .val (.int (1 : Int32)), .unset] [(.int (0 : Int32))])) ?_ (fun t_ k_ => XS.iconst X141.here hx rfl (hb hby at_299) k_)
        refine Goes.on (T' := T141) (g' := (mkF m 302 #[.val (.int ya0), .val (.int ya1), .val (.int ya2), .val (.int ya3), .val (.int ya4), .val (.int (4 : Int32)), .val (.int c0), .val (.int c1), .val (.int c2), .val (.int c3), .val (.ref b101), .val (.int av), .unset, .val (.int (1 : Int32)), .val (.int (0 : Int32))] [])) ?_ (fun t_ k_ => XS.istore X141.here hx rfl (hb hby at_300) rfl (l' := #[.val (.int ya0), .val (.int ya1), .val (.int ya2), .val (.int ya3), .val (.int ya4), .val (.int (4 : Int32)), .val (.int c0), .val (.int c1), .val (.int c2), .val (.int c3), .val (.ref b101), .val (.int av), .unset, .val (.int (1 : Int32)), .val (.int (0 : Int32))]) rfl k_)
        refine Goes.on (T' := T141) (g' := (mkF m 304 #[.val (.int ya0), .val (.int ya1), .val (.int ya2), .val (.int ya3), .val (.int ya4), .val (.int (4 : Int32)), .val (.int c0), .val (.int c1), .val (.int c2), .val (.int c3), .val (.ref b101), .val (.int av), .unset, .val (.int (1 : Int32)), .val (.int (0 : Int32))] [(.int (1 : Int32))])) ?_ (fun t_ k_ => XS.iload X141.here hx rfl (hb hby at_302) rfl k_)
        refine Goes.on (T' := T141) (g' := (mkF m 316 #[.val (.int ya0), .val (.int ya1), .val (.int ya2), .val (.int ya3), .val (.int ya4), .val (.int (4 : Int32)), .val (.int c0), .val (.int c1), .val (.int c2), .val (.int c3), .val (.ref b101), .val (.int av), .unset, .val (.int (1 : Int32)), .val (.int (0 : Int32))] [])) ?_ (fun t_ k_ => XS.ifYes X141.here hx rfl (pc0 := 304) (pc' := 316) rfl (hb hby at_304) rfl (by decide) (by decide) (by decide) k_)
        refine Goes.on (T' := T141) (g' := (mkF m 317 #[.val (.int ya0), .val (.int ya1), .val (.int ya2), .val (.int ya3), .val (.int ya4), .val (.int (4 : Int32)), .val (.int c0), .val (.int c1), .val (.int c2), .val (.int c3), .val (.ref b101), .val (.int av), .unset, .val (.int (1 : Int32)), .val (.int (0 : Int32))] [(.int (0 : Int32))])) ?_ (fun t_ k_ => XS.iconst X141.here hx rfl (hb hby at_316) k_)
        refine Goes.on (T' := T141) (g' := (mkF m 319 #[.val (.int ya0), .val (.int ya1), .val (.int ya2), .val (.int ya3), .val (.int ya4), .val (.int (4 : Int32)), .val (.int c0), .val (.int c1), .val (.int c2), .val (.int c3), .val (.ref b101), .val (.int av), .val (.int (0 : Int32)), .val (.int (1 : Int32)), .val (.int (0 : Int32))] [])) ?_ (fun t_ k_ => XS.istore X141.here hx rfl (hb hby at_317) rfl (l' := #[.val (.int ya0), .val (.int ya1), .val (.int ya2), .val (.int ya3), .val (.int ya4), .val (.int (4 : Int32)), .val (.int c0), .val (.int c1), .val (.int c2), .val (.int c3), .val (.ref b101), .val (.int av), .val (.int (0 : Int32)), .val (.int (1 : Int32)), .val (.int (0 : Int32))]) rfl k_)
        refine Goes.on (T' := T141) (g' := (mkF m 321 #[.val (.int ya0), .val (.int ya1), .val (.int ya2), .val (.int ya3), .val (.int ya4), .val (.int (4 : Int32)), .val (.int c0), .val (.int c1), .val (.int c2), .val (.int c3), .val (.ref b101), .val (.int av), .val (.int (0 : Int32)), .val (.int (1 : Int32)), .val (.int (0 : Int32))] [(.int av)])) ?_ (fun t_ k_ => XS.iload X141.here hx rfl (hb hby at_319) rfl k_)
        refine Goes.on (T' := T141) (g' := (mkF m 323 #[.val (.int ya0), .val (.int ya1), .val (.int ya2), .val (.int ya3), .val (.int ya4), .val (.int (4 : Int32)), .val (.int c0), .val (.int c1), .val (.int c2), .val (.int c3), .val (.ref b101), .val (.int av), .val (.int (0 : Int32)), .val (.int (1 : Int32)), .val (.int (0 : Int32))] [(.int (0 : Int32)), (.int av)])) ?_ (fun t_ k_ => XS.iload X141.here hx rfl (hb hby at_321) rfl k_)
        refine Goes.on (T' := T141) (g' := (mkF m 326 #[.val (.int ya0), .val (.int ya1), .val (.int ya2), .val (.int ya3), .val (.int ya4), .val (.int (4 : Int32)), .val (.int c0), .val (.int c1), .val (.int c2), .val (.int c3), .val (.ref b101), .val (.int av), .val (.int (0 : Int32)), .val (.int (1 : Int32)), .val (.int (0 : Int32))] [])) ?_ (fun t_ k_ => XS.icmpNo X141.here hx rfl (hb hby at_323) rfl (teq (show av = (0 : Int32) from by rw [hav, own_ivn4]; simp only [eq_false hc219, eq_true hc232, if_true, if_false, ↓reduceIte, not_true_eq_false, not_false_eq_true, true_and, and_true, false_and, and_false, or_true, true_or, or_false, false_or, and_self, or_self])).2 k_)
        refine Goes.on (T' := T141) (g' := (mkF m 327 #[.val (.int ya0), .val (.int ya1), .val (.int ya2), .val (.int ya3), .val (.int ya4), .val (.int (4 : Int32)), .val (.int c0), .val (.int c1), .val (.int c2), .val (.int c3), .val (.ref b101), .val (.int av), .val (.int (0 : Int32)), .val (.int (1 : Int32)), .val (.int (0 : Int32))] [(.int (1 : Int32))])) ?_ (fun t_ k_ => XS.iconst X141.here hx rfl (hb hby at_326) k_)
        refine Goes.on (T' := T141) (g' := (mkF m 331 #[.val (.int ya0), .val (.int ya1), .val (.int ya2), .val (.int ya3), .val (.int ya4), .val (.int (4 : Int32)), .val (.int c0), .val (.int c1), .val (.int c2), .val (.int c3), .val (.ref b101), .val (.int av), .val (.int (0 : Int32)), .val (.int (1 : Int32)), .val (.int (0 : Int32))] [(.int (1 : Int32))])) ?_ (fun t_ k_ => XS.goto X141.here hx rfl (pc0 := 327) (pc' := 331) rfl (hb hby at_327) (by decide) (by decide) k_)
        rw [hWd]
        exact Goes.retnW X141 hS141 (Nat.le_refl _) (v := some (.int (nar .boolean (1 : Int32)))) (fun fs hr => retN X141 hx (t := .boolean) Bd.returns (by simp) (hb hby at_331) hr) (fun h => by rw [Bd.returns] at h; cases h) Bd.notSynchronized (by decide) (by decide) ⟨rfl, N141⟩
      · show Goes p e below W T141 (mkF m 235 #[.val (.int ya0), .val (.int ya1), .val (.int ya2), .val (.int ya3), .val (.int ya4), .val (.int (4 : Int32)), .val (.int c0), .val (.int c1), .val (.int c2), .val (.int c3), .val (.ref b101), .val (.int av), .unset, .unset, .unset] [])
        refine Goes.on (T' := T141) (g' := (mkF m 237 #[.val (.int ya0), .val (.int ya1), .val (.int ya2), .val (.int ya3), .val (.int ya4), .val (.int (4 : Int32)), .val (.int c0), .val (.int c1), .val (.int c2), .val (.int c3), .val (.ref b101), .val (.int av), .unset, .unset, .unset] [(.int (4 : Int32))])) ?_ (fun t_ k_ => XS.iload X141.here hx rfl (hb hby at_235) rfl k_)
        refine Goes.on (T' := T141) (g' := (mkF m 238 #[.val (.int ya0), .val (.int ya1), .val (.int ya2), .val (.int ya3), .val (.int ya4), .val (.int (4 : Int32)), .val (.int c0), .val (.int c1), .val (.int c2), .val (.int c3), .val (.ref b101), .val (.int av), .unset, .unset, .unset] [(.int (3 : Int32)), (.int (4 : Int32))])) ?_ (fun t_ k_ => XS.iconst X141.here hx rfl (hb hby at_237) k_)
        refine Goes.on (T' := T141) (g' := (mkF m 241 #[.val (.int ya0), .val (.int ya1), .val (.int ya2), .val (.int ya3), .val (.int ya4), .val (.int (4 : Int32)), .val (.int c0), .val (.int c1), .val (.int c2), .val (.int c3), .val (.ref b101), .val (.int av), .unset, .unset, .unset] [])) ?_ (fun t_ k_ => XS.icmpNo X141.here hx rfl (hb hby at_238) rfl (by decide) k_)
        refine Goes.on (T' := T141) (g' := (mkF m 243 #[.val (.int ya0), .val (.int ya1), .val (.int ya2), .val (.int ya3), .val (.int ya4), .val (.int (4 : Int32)), .val (.int c0), .val (.int c1), .val (.int c2), .val (.int c3), .val (.ref b101), .val (.int av), .unset, .unset, .unset] [(.int c2)])) ?_ (fun t_ k_ => XS.iload X141.here hx rfl (hb hby at_241) rfl k_)
        refine Goes.on (T' := T141) (g' := (mkF m 245 #[.val (.int ya0), .val (.int ya1), .val (.int ya2), .val (.int ya3), .val (.int ya4), .val (.int (4 : Int32)), .val (.int c0), .val (.int c1), .val (.int c2), .val (.int c3), .val (.ref b101), .val (.int av), .unset, .unset, .unset] [(.int (47 : Int32)), (.int c2)])) ?_ (fun t_ k_ => XS.bipush X141.here hx rfl (hb hby at_243) k_)
        refine Goes.icmpP X141 hx rfl (pc0 := 245) (pc' := 261) rfl (hb hby at_245) rfl (by decide) (by decide) (P := c2 = (47 : Int32)) (cmp_eq _ _) (fun hc245 => ?_) (fun hc245 => ?_)
        · show Goes p e below W T141 (mkF m 261 #[.val (.int ya0), .val (.int ya1), .val (.int ya2), .val (.int ya3), .val (.int ya4), .val (.int (4 : Int32)), .val (.int c0), .val (.int c1), .val (.int c2), .val (.int c3), .val (.ref b101), .val (.int av), .unset, .unset, .unset] [])
          refine Goes.on (T' := T141) (g' := (mkF m 262 #[.val (.int ya0), .val (.int ya1), .val (.int ya2), .val (.int ya3), .val (.int ya4), .val (.int (4 : Int32)), .val (.int c0), .val (.int c1), .val (.int c2), .val (.int c3), .val (.ref b101), .val (.int av), .unset, .unset, .unset] [(.int (1 : Int32))])) ?_ (fun t_ k_ => XS.iconst X141.here hx rfl (hb hby at_261) k_)
          refine Goes.on (T' := T141) (g' := (mkF m 266 #[.val (.int ya0), .val (.int ya1), .val (.int ya2), .val (.int ya3), .val (.int ya4), .val (.int (4 : Int32)), .val (.int c0), .val (.int c1), .val (.int c2), .val (.int c3), .val (.ref b101), .val (.int av), .unset, .unset, .unset] [(.int (1 : Int32))])) ?_ (fun t_ k_ => XS.goto X141.here hx rfl (pc0 := 262) (pc' := 266) rfl (hb hby at_262) (by decide) (by decide) k_)
          refine Goes.on (T' := T141) (g' := (mkF m 268 #[.val (.int ya0), .val (.int ya1), .val (.int ya2), .val (.int ya3), .val (.int ya4), .val (.int (4 : Int32)), .val (.int c0), .val (.int c1), .val (.int c2), .val (.int c3), .val (.ref b101), .val (.int av), .unset, .val (.int (1 : Int32)), .unset] [])) ?_ (fun t_ k_ => XS.istore X141.here hx rfl (hb hby at_266) rfl (l' := #[.val (.int ya0), .val (.int ya1), .val (.int ya2), .val (.int ya3), .val (.int ya4), .val (.int (4 : Int32)), .val (.int c0), .val (.int c1), .val (.int c2), .val (.int c3), .val (.ref b101), .val (.int av), .unset, .val (.int (1 : Int32)), .unset]) rfl k_)
          refine Goes.on (T' := T141) (g' := (mkF m 270 #[.val (.int ya0), .val (.int ya1), .val (.int ya2), .val (.int ya3), .val (.int ya4), .val (.int (4 : Int32)), .val (.int c0), .val (.int c1), .val (.int c2), .val (.int c3), .val (.ref b101), .val (.int av), .unset, .val (.int (1 : Int32)), .unset] [(.int (4 : Int32))])) ?_ (fun t_ k_ => XS.iload X141.here hx rfl (hb hby at_268) rfl k_)
          refine Goes.on (T' := T141) (g' := (mkF m 271 #[.val (.int ya0), .val (.int ya1), .val (.int ya2), .val (.int ya3), .val (.int ya4), .val (.int (4 : Int32)), .val (.int c0), .val (.int c1), .val (.int c2), .val (.int c3), .val (.ref b101), .val (.int av), .unset, .val (.int (1 : Int32)), .unset] [(.int (3 : Int32)), (.int (4 : Int32))])) ?_ (fun t_ k_ => XS.iconst X141.here hx rfl (hb hby at_270) k_)
          refine Goes.on (T' := T141) (g' := (mkF m 299 #[.val (.int ya0), .val (.int ya1), .val (.int ya2), .val (.int ya3), .val (.int ya4), .val (.int (4 : Int32)), .val (.int c0), .val (.int c1), .val (.int c2), .val (.int c3), .val (.ref b101), .val (.int av), .unset, .val (.int (1 : Int32)), .unset] [])) ?_ (fun t_ k_ => XS.icmpYes X141.here hx rfl (pc0 := 271) (pc' := 299) rfl (hb hby at_271) rfl (by decide) (by decide) (by decide) k_)
          refine Goes.on (T' := T141) (g' := (mkF m 300 #[.val (.int ya0), .val (.int ya1), .val (.int ya2), .val (.int ya3), .val (.int ya4), .val (.int (4 : Int32)), .val (.int c0), .val (.int c1), .val (.int c2), .val (.int c3), .val (.ref b101), .val (.int av), .unset, .val (.int (1 : Int32)), .unset] [(.int (0 : Int32))])) ?_ (fun t_ k_ => XS.iconst X141.here hx rfl (hb hby at_299) k_)
          refine Goes.on (T' := T141) (g' := (mkF m 302 #[.val (.int ya0), .val (.int ya1), .val (.int ya2), .val (.int ya3), .val (.int ya4), .val (.int (4 : Int32)), .val (.int c0), .val (.int c1), .val (.int c2), .val (.int c3), .val (.ref b101), .val (.int av), .unset, .val (.int (1 : Int32)), .val (.int (0 : Int32))] [])) ?_ (fun t_ k_ => XS.istore X141.here hx rfl (hb hby at_300) rfl (l' := #[.val (.int ya0), .val (.int ya1), .val (.int ya2), .val (.int ya3), .val (.int ya4), .val (.int (4 : Int32)), .val (.int c0), .val (.int c1), .val (.int c2), .val (.int c3), .val (.ref b101), .val (.int av), .unset, .val (.int (1 : Int32)), .val (.int (0 : Int32))]) rfl k_)
          refine Goes.on (T' := T141) (g' := (mkF m 304 #[.val (.int ya0), .val (.int ya1), .val (.int ya2), .val (.int ya3), .val (.int ya4), .val (.int (4 : Int32)), .val (.int c0), .val (.int c1), .val (.int c2), .val (.int c3), .val (.ref b101), .val (.int av), .unset, .val (.int (1 : Int32)), .val (.int (0 : Int32))] [(.int (1 : Int32))])) ?_ (fun t_ k_ => XS.iload X141.here hx rfl (hb hby at_302) rfl k_)
          refine Goes.on (T' := T141) (g' := (mkF m 316 #[.val (.int ya0), .val (.int ya1), .val (.int ya2), .val (.int ya3), .val (.int ya4), .val (.int (4 : Int32)), .val (.int c0), .val (.int c1), .val (.int c2), .val (.int c3), .val (.ref b101), .val (.int av), .unset, .val (.int (1 : Int32)), .val (.int (0 : Int32))] [])) ?_ (fun t_ k_ => XS.ifYes X141.here hx rfl (pc0 := 304) (pc' := 316) rfl (hb hby at_304) rfl (by decide) (by decide) (by decide) k_)
          refine Goes.on (T' := T141) (g' := (mkF m 317 #[.val (.int ya0), .val (.int ya1), .val (.int ya2), .val (.int ya3), .val (.int ya4), .val (.int (4 : Int32)), .val (.int c0), .val (.int c1), .val (.int c2), .val (.int c3), .val (.ref b101), .val (.int av), .unset, .val (.int (1 : Int32)), .val (.int (0 : Int32))] [(.int (0 : Int32))])) ?_ (fun t_ k_ => XS.iconst X141.here hx rfl (hb hby at_316) k_)
          refine Goes.on (T' := T141) (g' := (mkF m 319 #[.val (.int ya0), .val (.int ya1), .val (.int ya2), .val (.int ya3), .val (.int ya4), .val (.int (4 : Int32)), .val (.int c0), .val (.int c1), .val (.int c2), .val (.int c3), .val (.ref b101), .val (.int av), .val (.int (0 : Int32)), .val (.int (1 : Int32)), .val (.int (0 : Int32))] [])) ?_ (fun t_ k_ => XS.istore X141.here hx rfl (hb hby at_317) rfl (l' := #[.val (.int ya0), .val (.int ya1), .val (.int ya2), .val (.int ya3), .val (.int ya4), .val (.int (4 : Int32)), .val (.int c0), .val (.int c1), .val (.int c2), .val (.int c3), .val (.ref b101), .val (.int av), .val (.int (0 : Int32)), .val (.int (1 : Int32)), .val (.int (0 : Int32))]) rfl k_)
          refine Goes.on (T' := T141) (g' := (mkF m 321 #[.val (.int ya0), .val (.int ya1), .val (.int ya2), .val (.int ya3), .val (.int ya4), .val (.int (4 : Int32)), .val (.int c0), .val (.int c1), .val (.int c2), .val (.int c3), .val (.ref b101), .val (.int av), .val (.int (0 : Int32)), .val (.int (1 : Int32)), .val (.int (0 : Int32))] [(.int av)])) ?_ (fun t_ k_ => XS.iload X141.here hx rfl (hb hby at_319) rfl k_)
          refine Goes.on (T' := T141) (g' := (mkF m 323 #[.val (.int ya0), .val (.int ya1), .val (.int ya2), .val (.int ya3), .val (.int ya4), .val (.int (4 : Int32)), .val (.int c0), .val (.int c1), .val (.int c2), .val (.int c3), .val (.ref b101), .val (.int av), .val (.int (0 : Int32)), .val (.int (1 : Int32)), .val (.int (0 : Int32))] [(.int (0 : Int32)), (.int av)])) ?_ (fun t_ k_ => XS.iload X141.here hx rfl (hb hby at_321) rfl k_)
          refine Goes.on (T' := T141) (g' := (mkF m 326 #[.val (.int ya0), .val (.int ya1), .val (.int ya2), .val (.int ya3), .val (.int ya4), .val (.int (4 : Int32)), .val (.int c0), .val (.int c1), .val (.int c2), .val (.int c3), .val (.ref b101), .val (.int av), .val (.int (0 : Int32)), .val (.int (1 : Int32)), .val (.int (0 : Int32))] [])) ?_ (fun t_ k_ => XS.icmpNo X141.here hx rfl (hb hby at_323) rfl (teq (show av = (0 : Int32) from by rw [hav, own_ivn4]; simp only [eq_false hc219, eq_false hc232, eq_true hc245, if_true, if_false, ↓reduceIte, not_true_eq_false, not_false_eq_true, true_and, and_true, false_and, and_false, or_true, true_or, or_false, false_or, and_self, or_self])).2 k_)
          refine Goes.on (T' := T141) (g' := (mkF m 327 #[.val (.int ya0), .val (.int ya1), .val (.int ya2), .val (.int ya3), .val (.int ya4), .val (.int (4 : Int32)), .val (.int c0), .val (.int c1), .val (.int c2), .val (.int c3), .val (.ref b101), .val (.int av), .val (.int (0 : Int32)), .val (.int (1 : Int32)), .val (.int (0 : Int32))] [(.int (1 : Int32))])) ?_ (fun t_ k_ => XS.iconst X141.here hx rfl (hb hby at_326) k_)
          refine Goes.on (T' := T141) (g' := (mkF m 331 #[.val (.int ya0), .val (.int ya1), .val (.int ya2), .val (.int ya3), .val (.int ya4), .val (.int (4 : Int32)), .val (.int c0), .val (.int c1), .val (.int c2), .val (.int c3), .val (.ref b101), .val (.int av), .val (.int (0 : Int32)), .val (.int (1 : Int32)), .val (.int (0 : Int32))] [(.int (1 : Int32))])) ?_ (fun t_ k_ => XS.goto X141.here hx rfl (pc0 := 327) (pc' := 331) rfl (hb hby at_327) (by decide) (by decide) k_)
          rw [hWd]
          exact Goes.retnW X141 hS141 (Nat.le_refl _) (v := some (.int (nar .boolean (1 : Int32)))) (fun fs hr => retN X141 hx (t := .boolean) Bd.returns (by simp) (hb hby at_331) hr) (fun h => by rw [Bd.returns] at h; cases h) Bd.notSynchronized (by decide) (by decide) ⟨rfl, N141⟩
        · show Goes p e below W T141 (mkF m 248 #[.val (.int ya0), .val (.int ya1), .val (.int ya2), .val (.int ya3), .val (.int ya4), .val (.int (4 : Int32)), .val (.int c0), .val (.int c1), .val (.int c2), .val (.int c3), .val (.ref b101), .val (.int av), .unset, .unset, .unset] [])
          refine Goes.on (T' := T141) (g' := (mkF m 250 #[.val (.int ya0), .val (.int ya1), .val (.int ya2), .val (.int ya3), .val (.int ya4), .val (.int (4 : Int32)), .val (.int c0), .val (.int c1), .val (.int c2), .val (.int c3), .val (.ref b101), .val (.int av), .unset, .unset, .unset] [(.int (4 : Int32))])) ?_ (fun t_ k_ => XS.iload X141.here hx rfl (hb hby at_248) rfl k_)
          refine Goes.on (T' := T141) (g' := (mkF m 251 #[.val (.int ya0), .val (.int ya1), .val (.int ya2), .val (.int ya3), .val (.int ya4), .val (.int (4 : Int32)), .val (.int c0), .val (.int c1), .val (.int c2), .val (.int c3), .val (.ref b101), .val (.int av), .unset, .unset, .unset] [(.int (4 : Int32)), (.int (4 : Int32))])) ?_ (fun t_ k_ => XS.iconst X141.here hx rfl (hb hby at_250) k_)
          refine Goes.on (T' := T141) (g' := (mkF m 254 #[.val (.int ya0), .val (.int ya1), .val (.int ya2), .val (.int ya3), .val (.int ya4), .val (.int (4 : Int32)), .val (.int c0), .val (.int c1), .val (.int c2), .val (.int c3), .val (.ref b101), .val (.int av), .unset, .unset, .unset] [])) ?_ (fun t_ k_ => XS.icmpNo X141.here hx rfl (hb hby at_251) rfl (by decide) k_)
          refine Goes.on (T' := T141) (g' := (mkF m 256 #[.val (.int ya0), .val (.int ya1), .val (.int ya2), .val (.int ya3), .val (.int ya4), .val (.int (4 : Int32)), .val (.int c0), .val (.int c1), .val (.int c2), .val (.int c3), .val (.ref b101), .val (.int av), .unset, .unset, .unset] [(.int c3)])) ?_ (fun t_ k_ => XS.iload X141.here hx rfl (hb hby at_254) rfl k_)
          refine Goes.on (T' := T141) (g' := (mkF m 258 #[.val (.int ya0), .val (.int ya1), .val (.int ya2), .val (.int ya3), .val (.int ya4), .val (.int (4 : Int32)), .val (.int c0), .val (.int c1), .val (.int c2), .val (.int c3), .val (.ref b101), .val (.int av), .unset, .unset, .unset] [(.int (47 : Int32)), (.int c3)])) ?_ (fun t_ k_ => XS.bipush X141.here hx rfl (hb hby at_256) k_)
          refine Goes.icmpN X141 hx rfl (pc0 := 258) (pc' := 265) rfl (hb hby at_258) rfl (by decide) (by decide) (P := c3 = (47 : Int32)) (cmp_ne _ _) (fun hc258 => ?_) (fun hc258 => ?_)
          · show Goes p e below W T141 (mkF m 265 #[.val (.int ya0), .val (.int ya1), .val (.int ya2), .val (.int ya3), .val (.int ya4), .val (.int (4 : Int32)), .val (.int c0), .val (.int c1), .val (.int c2), .val (.int c3), .val (.ref b101), .val (.int av), .unset, .unset, .unset] [])
            refine Goes.on (T' := T141) (g' := (mkF m 266 #[.val (.int ya0), .val (.int ya1), .val (.int ya2), .val (.int ya3), .val (.int ya4), .val (.int (4 : Int32)), .val (.int c0), .val (.int c1), .val (.int c2), .val (.int c3), .val (.ref b101), .val (.int av), .unset, .unset, .unset] [(.int (0 : Int32))])) ?_ (fun t_ k_ => XS.iconst X141.here hx rfl (hb hby at_265) k_)
            refine Goes.on (T' := T141) (g' := (mkF m 268 #[.val (.int ya0), .val (.int ya1), .val (.int ya2), .val (.int ya3), .val (.int ya4), .val (.int (4 : Int32)), .val (.int c0), .val (.int c1), .val (.int c2), .val (.int c3), .val (.ref b101), .val (.int av), .unset, .val (.int (0 : Int32)), .unset] [])) ?_ (fun t_ k_ => XS.istore X141.here hx rfl (hb hby at_266) rfl (l' := #[.val (.int ya0), .val (.int ya1), .val (.int ya2), .val (.int ya3), .val (.int ya4), .val (.int (4 : Int32)), .val (.int c0), .val (.int c1), .val (.int c2), .val (.int c3), .val (.ref b101), .val (.int av), .unset, .val (.int (0 : Int32)), .unset]) rfl k_)
            refine Goes.on (T' := T141) (g' := (mkF m 270 #[.val (.int ya0), .val (.int ya1), .val (.int ya2), .val (.int ya3), .val (.int ya4), .val (.int (4 : Int32)), .val (.int c0), .val (.int c1), .val (.int c2), .val (.int c3), .val (.ref b101), .val (.int av), .unset, .val (.int (0 : Int32)), .unset] [(.int (4 : Int32))])) ?_ (fun t_ k_ => XS.iload X141.here hx rfl (hb hby at_268) rfl k_)
            refine Goes.on (T' := T141) (g' := (mkF m 271 #[.val (.int ya0), .val (.int ya1), .val (.int ya2), .val (.int ya3), .val (.int ya4), .val (.int (4 : Int32)), .val (.int c0), .val (.int c1), .val (.int c2), .val (.int c3), .val (.ref b101), .val (.int av), .unset, .val (.int (0 : Int32)), .unset] [(.int (3 : Int32)), (.int (4 : Int32))])) ?_ (fun t_ k_ => XS.iconst X141.here hx rfl (hb hby at_270) k_)
            refine Goes.on (T' := T141) (g' := (mkF m 299 #[.val (.int ya0), .val (.int ya1), .val (.int ya2), .val (.int ya3), .val (.int ya4), .val (.int (4 : Int32)), .val (.int c0), .val (.int c1), .val (.int c2), .val (.int c3), .val (.ref b101), .val (.int av), .unset, .val (.int (0 : Int32)), .unset] [])) ?_ (fun t_ k_ => XS.icmpYes X141.here hx rfl (pc0 := 271) (pc' := 299) rfl (hb hby at_271) rfl (by decide) (by decide) (by decide) k_)
            refine Goes.on (T' := T141) (g' := (mkF m 300 #[.val (.int ya0), .val (.int ya1), .val (.int ya2), .val (.int ya3), .val (.int ya4), .val (.int (4 : Int32)), .val (.int c0), .val (.int c1), .val (.int c2), .val (.int c3), .val (.ref b101), .val (.int av), .unset, .val (.int (0 : Int32)), .unset] [(.int (0 : Int32))])) ?_ (fun t_ k_ => XS.iconst X141.here hx rfl (hb hby at_299) k_)
            refine Goes.on (T' := T141) (g' := (mkF m 302 #[.val (.int ya0), .val (.int ya1), .val (.int ya2), .val (.int ya3), .val (.int ya4), .val (.int (4 : Int32)), .val (.int c0), .val (.int c1), .val (.int c2), .val (.int c3), .val (.ref b101), .val (.int av), .unset, .val (.int (0 : Int32)), .val (.int (0 : Int32))] [])) ?_ (fun t_ k_ => XS.istore X141.here hx rfl (hb hby at_300) rfl (l' := #[.val (.int ya0), .val (.int ya1), .val (.int ya2), .val (.int ya3), .val (.int ya4), .val (.int (4 : Int32)), .val (.int c0), .val (.int c1), .val (.int c2), .val (.int c3), .val (.ref b101), .val (.int av), .unset, .val (.int (0 : Int32)), .val (.int (0 : Int32))]) rfl k_)
            refine Goes.on (T' := T141) (g' := (mkF m 304 #[.val (.int ya0), .val (.int ya1), .val (.int ya2), .val (.int ya3), .val (.int ya4), .val (.int (4 : Int32)), .val (.int c0), .val (.int c1), .val (.int c2), .val (.int c3), .val (.ref b101), .val (.int av), .unset, .val (.int (0 : Int32)), .val (.int (0 : Int32))] [(.int (0 : Int32))])) ?_ (fun t_ k_ => XS.iload X141.here hx rfl (hb hby at_302) rfl k_)
            refine Goes.on (T' := T141) (g' := (mkF m 307 #[.val (.int ya0), .val (.int ya1), .val (.int ya2), .val (.int ya3), .val (.int ya4), .val (.int (4 : Int32)), .val (.int c0), .val (.int c1), .val (.int c2), .val (.int c3), .val (.ref b101), .val (.int av), .unset, .val (.int (0 : Int32)), .val (.int (0 : Int32))] [])) ?_ (fun t_ k_ => XS.ifNo X141.here hx rfl (hb hby at_304) rfl (by decide) k_)
            refine Goes.on (T' := T141) (g' := (mkF m 309 #[.val (.int ya0), .val (.int ya1), .val (.int ya2), .val (.int ya3), .val (.int ya4), .val (.int (4 : Int32)), .val (.int c0), .val (.int c1), .val (.int c2), .val (.int c3), .val (.ref b101), .val (.int av), .unset, .val (.int (0 : Int32)), .val (.int (0 : Int32))] [(.int (0 : Int32))])) ?_ (fun t_ k_ => XS.iload X141.here hx rfl (hb hby at_307) rfl k_)
            refine Goes.on (T' := T141) (g' := (mkF m 312 #[.val (.int ya0), .val (.int ya1), .val (.int ya2), .val (.int ya3), .val (.int ya4), .val (.int (4 : Int32)), .val (.int c0), .val (.int c1), .val (.int c2), .val (.int c3), .val (.ref b101), .val (.int av), .unset, .val (.int (0 : Int32)), .val (.int (0 : Int32))] [])) ?_ (fun t_ k_ => XS.ifNo X141.here hx rfl (hb hby at_309) rfl (by decide) k_)
            refine Goes.on (T' := T141) (g' := (mkF m 313 #[.val (.int ya0), .val (.int ya1), .val (.int ya2), .val (.int ya3), .val (.int ya4), .val (.int (4 : Int32)), .val (.int c0), .val (.int c1), .val (.int c2), .val (.int c3), .val (.ref b101), .val (.int av), .unset, .val (.int (0 : Int32)), .val (.int (0 : Int32))] [(.int (1 : Int32))])) ?_ (fun t_ k_ => XS.iconst X141.here hx rfl (hb hby at_312) k_)
            refine Goes.on (T' := T141) (g' := (mkF m 317 #[.val (.int ya0), .val (.int ya1), .val (.int ya2), .val (.int ya3), .val (.int ya4), .val (.int (4 : Int32)), .val (.int c0), .val (.int c1), .val (.int c2), .val (.int c3), .val (.ref b101), .val (.int av), .unset, .val (.int (0 : Int32)), .val (.int (0 : Int32))] [(.int (1 : Int32))])) ?_ (fun t_ k_ => XS.goto X141.here hx rfl (pc0 := 313) (pc' := 317) rfl (hb hby at_313) (by decide) (by decide) k_)
            refine Goes.on (T' := T141) (g' := (mkF m 319 #[.val (.int ya0), .val (.int ya1), .val (.int ya2), .val (.int ya3), .val (.int ya4), .val (.int (4 : Int32)), .val (.int c0), .val (.int c1), .val (.int c2), .val (.int c3), .val (.ref b101), .val (.int av), .val (.int (1 : Int32)), .val (.int (0 : Int32)), .val (.int (0 : Int32))] [])) ?_ (fun t_ k_ => XS.istore X141.here hx rfl (hb hby at_317) rfl (l' := #[.val (.int ya0), .val (.int ya1), .val (.int ya2), .val (.int ya3), .val (.int ya4), .val (.int (4 : Int32)), .val (.int c0), .val (.int c1), .val (.int c2), .val (.int c3), .val (.ref b101), .val (.int av), .val (.int (1 : Int32)), .val (.int (0 : Int32)), .val (.int (0 : Int32))]) rfl k_)
            refine Goes.on (T' := T141) (g' := (mkF m 321 #[.val (.int ya0), .val (.int ya1), .val (.int ya2), .val (.int ya3), .val (.int ya4), .val (.int (4 : Int32)), .val (.int c0), .val (.int c1), .val (.int c2), .val (.int c3), .val (.ref b101), .val (.int av), .val (.int (1 : Int32)), .val (.int (0 : Int32)), .val (.int (0 : Int32))] [(.int av)])) ?_ (fun t_ k_ => XS.iload X141.here hx rfl (hb hby at_319) rfl k_)
            refine Goes.on (T' := T141) (g' := (mkF m 323 #[.val (.int ya0), .val (.int ya1), .val (.int ya2), .val (.int ya3), .val (.int ya4), .val (.int (4 : Int32)), .val (.int c0), .val (.int c1), .val (.int c2), .val (.int c3), .val (.ref b101), .val (.int av), .val (.int (1 : Int32)), .val (.int (0 : Int32)), .val (.int (0 : Int32))] [(.int (1 : Int32)), (.int av)])) ?_ (fun t_ k_ => XS.iload X141.here hx rfl (hb hby at_321) rfl k_)
            refine Goes.on (T' := T141) (g' := (mkF m 326 #[.val (.int ya0), .val (.int ya1), .val (.int ya2), .val (.int ya3), .val (.int ya4), .val (.int (4 : Int32)), .val (.int c0), .val (.int c1), .val (.int c2), .val (.int c3), .val (.ref b101), .val (.int av), .val (.int (1 : Int32)), .val (.int (0 : Int32)), .val (.int (0 : Int32))] [])) ?_ (fun t_ k_ => XS.icmpNo X141.here hx rfl (hb hby at_323) rfl (teq (show av = (1 : Int32) from by rw [hav, own_ivn4]; simp only [eq_false hc219, eq_false hc232, eq_false hc245, eq_false hc258, if_true, if_false, ↓reduceIte, not_true_eq_false, not_false_eq_true, true_and, and_true, false_and, and_false, or_true, true_or, or_false, false_or, and_self, or_self])).2 k_)
            refine Goes.on (T' := T141) (g' := (mkF m 327 #[.val (.int ya0), .val (.int ya1), .val (.int ya2), .val (.int ya3), .val (.int ya4), .val (.int (4 : Int32)), .val (.int c0), .val (.int c1), .val (.int c2), .val (.int c3), .val (.ref b101), .val (.int av), .val (.int (1 : Int32)), .val (.int (0 : Int32)), .val (.int (0 : Int32))] [(.int (1 : Int32))])) ?_ (fun t_ k_ => XS.iconst X141.here hx rfl (hb hby at_326) k_)
            refine Goes.on (T' := T141) (g' := (mkF m 331 #[.val (.int ya0), .val (.int ya1), .val (.int ya2), .val (.int ya3), .val (.int ya4), .val (.int (4 : Int32)), .val (.int c0), .val (.int c1), .val (.int c2), .val (.int c3), .val (.ref b101), .val (.int av), .val (.int (1 : Int32)), .val (.int (0 : Int32)), .val (.int (0 : Int32))] [(.int (1 : Int32))])) ?_ (fun t_ k_ => XS.goto X141.here hx rfl (pc0 := 327) (pc' := 331) rfl (hb hby at_327) (by decide) (by decide) k_)
            rw [hWd]
            exact Goes.retnW X141 hS141 (Nat.le_refl _) (v := some (.int (nar .boolean (1 : Int32)))) (fun fs hr => retN X141 hx (t := .boolean) Bd.returns (by simp) (hb hby at_331) hr) (fun h => by rw [Bd.returns] at h; cases h) Bd.notSynchronized (by decide) (by decide) ⟨rfl, N141⟩
          · show Goes p e below W T141 (mkF m 261 #[.val (.int ya0), .val (.int ya1), .val (.int ya2), .val (.int ya3), .val (.int ya4), .val (.int (4 : Int32)), .val (.int c0), .val (.int c1), .val (.int c2), .val (.int c3), .val (.ref b101), .val (.int av), .unset, .unset, .unset] [])
            refine Goes.on (T' := T141) (g' := (mkF m 262 #[.val (.int ya0), .val (.int ya1), .val (.int ya2), .val (.int ya3), .val (.int ya4), .val (.int (4 : Int32)), .val (.int c0), .val (.int c1), .val (.int c2), .val (.int c3), .val (.ref b101), .val (.int av), .unset, .unset, .unset] [(.int (1 : Int32))])) ?_ (fun t_ k_ => XS.iconst X141.here hx rfl (hb hby at_261) k_)
            refine Goes.on (T' := T141) (g' := (mkF m 266 #[.val (.int ya0), .val (.int ya1), .val (.int ya2), .val (.int ya3), .val (.int ya4), .val (.int (4 : Int32)), .val (.int c0), .val (.int c1), .val (.int c2), .val (.int c3), .val (.ref b101), .val (.int av), .unset, .unset, .unset] [(.int (1 : Int32))])) ?_ (fun t_ k_ => XS.goto X141.here hx rfl (pc0 := 262) (pc' := 266) rfl (hb hby at_262) (by decide) (by decide) k_)
            refine Goes.on (T' := T141) (g' := (mkF m 268 #[.val (.int ya0), .val (.int ya1), .val (.int ya2), .val (.int ya3), .val (.int ya4), .val (.int (4 : Int32)), .val (.int c0), .val (.int c1), .val (.int c2), .val (.int c3), .val (.ref b101), .val (.int av), .unset, .val (.int (1 : Int32)), .unset] [])) ?_ (fun t_ k_ => XS.istore X141.here hx rfl (hb hby at_266) rfl (l' := #[.val (.int ya0), .val (.int ya1), .val (.int ya2), .val (.int ya3), .val (.int ya4), .val (.int (4 : Int32)), .val (.int c0), .val (.int c1), .val (.int c2), .val (.int c3), .val (.ref b101), .val (.int av), .unset, .val (.int (1 : Int32)), .unset]) rfl k_)
            refine Goes.on (T' := T141) (g' := (mkF m 270 #[.val (.int ya0), .val (.int ya1), .val (.int ya2), .val (.int ya3), .val (.int ya4), .val (.int (4 : Int32)), .val (.int c0), .val (.int c1), .val (.int c2), .val (.int c3), .val (.ref b101), .val (.int av), .unset, .val (.int (1 : Int32)), .unset] [(.int (4 : Int32))])) ?_ (fun t_ k_ => XS.iload X141.here hx rfl (hb hby at_268) rfl k_)
            refine Goes.on (T' := T141) (g' := (mkF m 271 #[.val (.int ya0), .val (.int ya1), .val (.int ya2), .val (.int ya3), .val (.int ya4), .val (.int (4 : Int32)), .val (.int c0), .val (.int c1), .val (.int c2), .val (.int c3), .val (.ref b101), .val (.int av), .unset, .val (.int (1 : Int32)), .unset] [(.int (3 : Int32)), (.int (4 : Int32))])) ?_ (fun t_ k_ => XS.iconst X141.here hx rfl (hb hby at_270) k_)
            refine Goes.on (T' := T141) (g' := (mkF m 299 #[.val (.int ya0), .val (.int ya1), .val (.int ya2), .val (.int ya3), .val (.int ya4), .val (.int (4 : Int32)), .val (.int c0), .val (.int c1), .val (.int c2), .val (.int c3), .val (.ref b101), .val (.int av), .unset, .val (.int (1 : Int32)), .unset] [])) ?_ (fun t_ k_ => XS.icmpYes X141.here hx rfl (pc0 := 271) (pc' := 299) rfl (hb hby at_271) rfl (by decide) (by decide) (by decide) k_)
            refine Goes.on (T' := T141) (g' := (mkF m 300 #[.val (.int ya0), .val (.int ya1), .val (.int ya2), .val (.int ya3), .val (.int ya4), .val (.int (4 : Int32)), .val (.int c0), .val (.int c1), .val (.int c2), .val (.int c3), .val (.ref b101), .val (.int av), .unset, .val (.int (1 : Int32)), .unset] [(.int (0 : Int32))])) ?_ (fun t_ k_ => XS.iconst X141.here hx rfl (hb hby at_299) k_)
            refine Goes.on (T' := T141) (g' := (mkF m 302 #[.val (.int ya0), .val (.int ya1), .val (.int ya2), .val (.int ya3), .val (.int ya4), .val (.int (4 : Int32)), .val (.int c0), .val (.int c1), .val (.int c2), .val (.int c3), .val (.ref b101), .val (.int av), .unset, .val (.int (1 : Int32)), .val (.int (0 : Int32))] [])) ?_ (fun t_ k_ => XS.istore X141.here hx rfl (hb hby at_300) rfl (l' := #[.val (.int ya0), .val (.int ya1), .val (.int ya2), .val (.int ya3), .val (.int ya4), .val (.int (4 : Int32)), .val (.int c0), .val (.int c1), .val (.int c2), .val (.int c3), .val (.ref b101), .val (.int av), .unset, .val (.int (1 : Int32)), .val (.int (0 : Int32))]) rfl k_)
            refine Goes.on (T' := T141) (g' := (mkF m 304 #[.val (.int ya0), .val (.int ya1), .val (.int ya2), .val (.int ya3), .val (.int ya4), .val (.int (4 : Int32)), .val (.int c0), .val (.int c1), .val (.int c2), .val (.int c3), .val (.ref b101), .val (.int av), .unset, .val (.int (1 : Int32)), .val (.int (0 : Int32))] [(.int (1 : Int32))])) ?_ (fun t_ k_ => XS.iload X141.here hx rfl (hb hby at_302) rfl k_)
            refine Goes.on (T' := T141) (g' := (mkF m 316 #[.val (.int ya0), .val (.int ya1), .val (.int ya2), .val (.int ya3), .val (.int ya4), .val (.int (4 : Int32)), .val (.int c0), .val (.int c1), .val (.int c2), .val (.int c3), .val (.ref b101), .val (.int av), .unset, .val (.int (1 : Int32)), .val (.int (0 : Int32))] [])) ?_ (fun t_ k_ => XS.ifYes X141.here hx rfl (pc0 := 304) (pc' := 316) rfl (hb hby at_304) rfl (by decide) (by decide) (by decide) k_)
            refine Goes.on (T' := T141) (g' := (mkF m 317 #[.val (.int ya0), .val (.int ya1), .val (.int ya2), .val (.int ya3), .val (.int ya4), .val (.int (4 : Int32)), .val (.int c0), .val (.int c1), .val (.int c2), .val (.int c3), .val (.ref b101), .val (.int av), .unset, .val (.int (1 : Int32)), .val (.int (0 : Int32))] [(.int (0 : Int32))])) ?_ (fun t_ k_ => XS.iconst X141.here hx rfl (hb hby at_316) k_)
            refine Goes.on (T' := T141) (g' := (mkF m 319 #[.val (.int ya0), .val (.int ya1), .val (.int ya2), .val (.int ya3), .val (.int ya4), .val (.int (4 : Int32)), .val (.int c0), .val (.int c1), .val (.int c2), .val (.int c3), .val (.ref b101), .val (.int av), .val (.int (0 : Int32)), .val (.int (1 : Int32)), .val (.int (0 : Int32))] [])) ?_ (fun t_ k_ => XS.istore X141.here hx rfl (hb hby at_317) rfl (l' := #[.val (.int ya0), .val (.int ya1), .val (.int ya2), .val (.int ya3), .val (.int ya4), .val (.int (4 : Int32)), .val (.int c0), .val (.int c1), .val (.int c2), .val (.int c3), .val (.ref b101), .val (.int av), .val (.int (0 : Int32)), .val (.int (1 : Int32)), .val (.int (0 : Int32))]) rfl k_)
            refine Goes.on (T' := T141) (g' := (mkF m 321 #[.val (.int ya0), .val (.int ya1), .val (.int ya2), .val (.int ya3), .val (.int ya4), .val (.int (4 : Int32)), .val (.int c0), .val (.int c1), .val (.int c2), .val (.int c3), .val (.ref b101), .val (.int av), .val (.int (0 : Int32)), .val (.int (1 : Int32)), .val (.int (0 : Int32))] [(.int av)])) ?_ (fun t_ k_ => XS.iload X141.here hx rfl (hb hby at_319) rfl k_)
            refine Goes.on (T' := T141) (g' := (mkF m 323 #[.val (.int ya0), .val (.int ya1), .val (.int ya2), .val (.int ya3), .val (.int ya4), .val (.int (4 : Int32)), .val (.int c0), .val (.int c1), .val (.int c2), .val (.int c3), .val (.ref b101), .val (.int av), .val (.int (0 : Int32)), .val (.int (1 : Int32)), .val (.int (0 : Int32))] [(.int (0 : Int32)), (.int av)])) ?_ (fun t_ k_ => XS.iload X141.here hx rfl (hb hby at_321) rfl k_)
            refine Goes.on (T' := T141) (g' := (mkF m 326 #[.val (.int ya0), .val (.int ya1), .val (.int ya2), .val (.int ya3), .val (.int ya4), .val (.int (4 : Int32)), .val (.int c0), .val (.int c1), .val (.int c2), .val (.int c3), .val (.ref b101), .val (.int av), .val (.int (0 : Int32)), .val (.int (1 : Int32)), .val (.int (0 : Int32))] [])) ?_ (fun t_ k_ => XS.icmpNo X141.here hx rfl (hb hby at_323) rfl (teq (show av = (0 : Int32) from by rw [hav, own_ivn4]; simp only [eq_false hc219, eq_false hc232, eq_false hc245, eq_true hc258, if_true, if_false, ↓reduceIte, not_true_eq_false, not_false_eq_true, true_and, and_true, false_and, and_false, or_true, true_or, or_false, false_or, and_self, or_self])).2 k_)
            refine Goes.on (T' := T141) (g' := (mkF m 327 #[.val (.int ya0), .val (.int ya1), .val (.int ya2), .val (.int ya3), .val (.int ya4), .val (.int (4 : Int32)), .val (.int c0), .val (.int c1), .val (.int c2), .val (.int c3), .val (.ref b101), .val (.int av), .val (.int (0 : Int32)), .val (.int (1 : Int32)), .val (.int (0 : Int32))] [(.int (1 : Int32))])) ?_ (fun t_ k_ => XS.iconst X141.here hx rfl (hb hby at_326) k_)
            refine Goes.on (T' := T141) (g' := (mkF m 331 #[.val (.int ya0), .val (.int ya1), .val (.int ya2), .val (.int ya3), .val (.int ya4), .val (.int (4 : Int32)), .val (.int c0), .val (.int c1), .val (.int c2), .val (.int c3), .val (.ref b101), .val (.int av), .val (.int (0 : Int32)), .val (.int (1 : Int32)), .val (.int (0 : Int32))] [(.int (1 : Int32))])) ?_ (fun t_ k_ => XS.goto X141.here hx rfl (pc0 := 327) (pc' := 331) rfl (hb hby at_327) (by decide) (by decide) k_)
            rw [hWd]
            exact Goes.retnW X141 hS141 (Nat.le_refl _) (v := some (.int (nar .boolean (1 : Int32)))) (fun fs hr => retN X141 hx (t := .boolean) Bd.returns (by simp) (hb hby at_331) hr) (fun h => by rw [Bd.returns] at h; cases h) Bd.notSynchronized (by decide) (by decide) ⟨rfl, N141⟩
  · show Goes p e below W T4 (mkF m 34 #[.val (.int ya0), .val (.int ya1), .val (.int ya2), .val (.int ya3), .val (.int ya4), .val (.int (5 : Int32)), .val (.int c0), .val (.int c1), .val (.int c2), .val (.int c3), .unset, .unset, .unset, .unset, .unset] [])
    refine Goes.on (T' := T4) (g' := (mkF m 36 #[.val (.int ya0), .val (.int ya1), .val (.int ya2), .val (.int ya3), .val (.int ya4), .val (.int (5 : Int32)), .val (.int c0), .val (.int c1), .val (.int c2), .val (.int c3), .unset, .unset, .unset, .unset, .unset] [(.int (5 : Int32))])) ?_ (fun t_ k_ => XS.iload X4.here hx rfl (hb hby at_34) rfl k_)
    refine Goes.on (T' := T4) (g' := (mkF m 37 #[.val (.int ya0), .val (.int ya1), .val (.int ya2), .val (.int ya3), .val (.int ya4), .val (.int (5 : Int32)), .val (.int c0), .val (.int c1), .val (.int c2), .val (.int c3), .unset, .unset, .unset, .unset, .unset] [(.int (5 : Int32)), (.int (5 : Int32))])) ?_ (fun t_ k_ => XS.iconst X4.here hx rfl (hb hby at_36) k_)
    refine Goes.on (T' := T4) (g' := (mkF m 40 #[.val (.int ya0), .val (.int ya1), .val (.int ya2), .val (.int ya3), .val (.int ya4), .val (.int (5 : Int32)), .val (.int c0), .val (.int c1), .val (.int c2), .val (.int c3), .unset, .unset, .unset, .unset, .unset] [])) ?_ (fun t_ k_ => XS.icmpNo X4.here hx rfl (hb hby at_37) rfl (by decide) k_)
    refine Goes.on (T' := T4) (g' := (mkF m 41 #[.val (.int ya0), .val (.int ya1), .val (.int ya2), .val (.int ya3), .val (.int ya4), .val (.int (5 : Int32)), .val (.int c0), .val (.int c1), .val (.int c2), .val (.int c3), .unset, .unset, .unset, .unset, .unset] [.null])) ?_ (fun t_ k_ => XS.aconstNull X4.here hx rfl (hb hby at_40) k_)
    refine Goes.on (T' := T4) (g' := (mkF m 43 #[.val (.int ya0), .val (.int ya1), .val (.int ya2), .val (.int ya3), .val (.int ya4), .val (.int (5 : Int32)), .val (.int c0), .val (.int c1), .val (.int c2), .val (.int c3), .val .null, .unset, .unset, .unset, .unset] [])) ?_ (fun t_ k_ => XS.astore X4.here hx rfl (hb hby at_41) rfl rfl (l' := #[.val (.int ya0), .val (.int ya1), .val (.int ya2), .val (.int ya3), .val (.int ya4), .val (.int (5 : Int32)), .val (.int c0), .val (.int c1), .val (.int c2), .val (.int c3), .val .null, .unset, .unset, .unset, .unset]) rfl k_)
    refine Goes.on (T' := T4) (g' := (mkF m 191 #[.val (.int ya0), .val (.int ya1), .val (.int ya2), .val (.int ya3), .val (.int ya4), .val (.int (5 : Int32)), .val (.int c0), .val (.int c1), .val (.int c2), .val (.int c3), .val .null, .unset, .unset, .unset, .unset] [])) ?_ (fun t_ k_ => XS.goto X4.here hx rfl (pc0 := 43) (pc' := 191) rfl (hb hby at_43) (by decide) (by decide) k_)
    refine Goes.on (T' := T4) (g' := (mkF m 193 #[.val (.int ya0), .val (.int ya1), .val (.int ya2), .val (.int ya3), .val (.int ya4), .val (.int (5 : Int32)), .val (.int c0), .val (.int c1), .val (.int c2), .val (.int c3), .val .null, .unset, .unset, .unset, .unset] [.null])) ?_ (fun t_ k_ => XS.aload X4.here hx rfl (hb hby at_191) rfl rfl k_)
    obtain ⟨_, _, ⟨T143, Lq_143, kq_143, nq_143⟩, -, X143, ⟨Lc143, hQ143, l143, y143, z143⟩, st143⟩ := Jvm.LawKit.callS X4 hx (y := (⟨"com/example/regraft/regraft/core/Node", "isValidName", "(Ljava/lang/String;)Z"⟩ : MethodName)) hown (mvT hZ (hw _ (List.mem_of_getElem? (i := 27) rfl))) (mvT hZ (hw _ (List.mem_of_getElem? (i := 28) rfl))) (mvT hZ (hw _ (List.mem_of_getElem? (i := 29) rfl))) (mvT hZ (hw _ (List.mem_of_getElem? (i := 30) rfl))) (by decide) (backOf (W := 0) (rmVN l Z a0 hw [] h0 n0 Z0) hZ (hw _ (List.mem_of_getElem? (i := 30) rfl)) (hw _ (List.mem_of_getElem? (i := 29) rfl)) (by decide) (by decide)) (g := (mkF m 193 #[.val (.int ya0), .val (.int ya1), .val (.int ya2), .val (.int ya3), .val (.int ya4), .val (.int (5 : Int32)), .val (.int c0), .val (.int c1), .val (.int c2), .val (.int c3), .val .null, .unset, .unset, .unset, .unset] [.null])) rfl (by rw [hml]; rfl) (argsL := [.null]) (rest := []) (lenOf pd_22 rfl) rfl (by show 2 * 0 + _ ≤ _; exact Nat.le_of_eq rfl) (hb hby at_193) (fun _ _ => ⟨rfl, eh4, (by decide : 0 + 0 ≤ _), (by decide : 0 + 0 ≤ _)⟩)
    dsimp only [Pt.U, Pt.locs, Pt.cells, Pt.slots] at X143 l143 y143 z143 st143 hQ143
    rw [l143, y143, z143] at X143
    change Stand p l e _ _ m _ below meth c T143 _ 0 0 at X143
    obtain ⟨rfl, N143q, eh143⟩ := hQ143
    have N143 := Fr.app N4 N143q
    refine Goes.on (T' := T143) (g' := (mkF m 196 #[.val (.int ya0), .val (.int ya1), .val (.int ya2), .val (.int ya3), .val (.int ya4), .val (.int (5 : Int32)), .val (.int c0), .val (.int c1), .val (.int c2), .val (.int c3), .val .null, .unset, .unset, .unset, .unset] [(.int (0 : Int32))])) ?_ st143
    refine Goes.on (T' := T143) (g' := (mkF m 198 #[.val (.int ya0), .val (.int ya1), .val (.int ya2), .val (.int ya3), .val (.int ya4), .val (.int (5 : Int32)), .val (.int c0), .val (.int c1), .val (.int c2), .val (.int c3), .val .null, .val (.int (0 : Int32)), .unset, .unset, .unset] [])) ?_ (fun t_ k_ => XS.istore X143.here hx rfl (hb hby at_196) rfl (l' := #[.val (.int ya0), .val (.int ya1), .val (.int ya2), .val (.int ya3), .val (.int ya4), .val (.int (5 : Int32)), .val (.int c0), .val (.int c1), .val (.int c2), .val (.int c3), .val .null, .val (.int (0 : Int32)), .unset, .unset, .unset]) rfl k_)
    refine Goes.on (T' := T143) (g' := (mkF m 200 #[.val (.int ya0), .val (.int ya1), .val (.int ya2), .val (.int ya3), .val (.int ya4), .val (.int (5 : Int32)), .val (.int c0), .val (.int c1), .val (.int c2), .val (.int c3), .val .null, .val (.int (0 : Int32)), .unset, .unset, .unset] [(.int (5 : Int32))])) ?_ (fun t_ k_ => XS.iload X143.here hx rfl (hb hby at_198) rfl k_)
    refine Goes.on (T' := T143) (g' := (mkF m 201 #[.val (.int ya0), .val (.int ya1), .val (.int ya2), .val (.int ya3), .val (.int ya4), .val (.int (5 : Int32)), .val (.int c0), .val (.int c1), .val (.int c2), .val (.int c3), .val .null, .val (.int (0 : Int32)), .unset, .unset, .unset] [(.int (5 : Int32)), (.int (5 : Int32))])) ?_ (fun t_ k_ => XS.iconst X143.here hx rfl (hb hby at_200) k_)
    refine Goes.on (T' := T143) (g' := (mkF m 209 #[.val (.int ya0), .val (.int ya1), .val (.int ya2), .val (.int ya3), .val (.int ya4), .val (.int (5 : Int32)), .val (.int c0), .val (.int c1), .val (.int c2), .val (.int c3), .val .null, .val (.int (0 : Int32)), .unset, .unset, .unset] [])) ?_ (fun t_ k_ => XS.icmpYes X143.here hx rfl (pc0 := 201) (pc' := 209) rfl (hb hby at_201) rfl (by decide) (by decide) (by decide) k_)
    refine Goes.on (T' := T143) (g' := (mkF m 210 #[.val (.int ya0), .val (.int ya1), .val (.int ya2), .val (.int ya3), .val (.int ya4), .val (.int (5 : Int32)), .val (.int c0), .val (.int c1), .val (.int c2), .val (.int c3), .val .null, .val (.int (0 : Int32)), .unset, .unset, .unset] [(.int (0 : Int32))])) ?_ (fun t_ k_ => XS.iconst X143.here hx rfl (hb hby at_209) k_)
    refine Goes.on (T' := T143) (g' := (mkF m 212 #[.val (.int ya0), .val (.int ya1), .val (.int ya2), .val (.int ya3), .val (.int ya4), .val (.int (5 : Int32)), .val (.int c0), .val (.int c1), .val (.int c2), .val (.int c3), .val .null, .val (.int (0 : Int32)), .val (.int (0 : Int32)), .unset, .unset] [])) ?_ (fun t_ k_ => XS.istore X143.here hx rfl (hb hby at_210) rfl (l' := #[.val (.int ya0), .val (.int ya1), .val (.int ya2), .val (.int ya3), .val (.int ya4), .val (.int (5 : Int32)), .val (.int c0), .val (.int c1), .val (.int c2), .val (.int c3), .val .null, .val (.int (0 : Int32)), .val (.int (0 : Int32)), .unset, .unset]) rfl k_)
    refine Goes.on (T' := T143) (g' := (mkF m 319 #[.val (.int ya0), .val (.int ya1), .val (.int ya2), .val (.int ya3), .val (.int ya4), .val (.int (5 : Int32)), .val (.int c0), .val (.int c1), .val (.int c2), .val (.int c3), .val .null, .val (.int (0 : Int32)), .val (.int (0 : Int32)), .unset, .unset] [])) ?_ (fun t_ k_ => XS.goto X143.here hx rfl (pc0 := 212) (pc' := 319) rfl (hb hby at_212) (by decide) (by decide) k_)
    refine Goes.on (T' := T143) (g' := (mkF m 321 #[.val (.int ya0), .val (.int ya1), .val (.int ya2), .val (.int ya3), .val (.int ya4), .val (.int (5 : Int32)), .val (.int c0), .val (.int c1), .val (.int c2), .val (.int c3), .val .null, .val (.int (0 : Int32)), .val (.int (0 : Int32)), .unset, .unset] [(.int (0 : Int32))])) ?_ (fun t_ k_ => XS.iload X143.here hx rfl (hb hby at_319) rfl k_)
    refine Goes.on (T' := T143) (g' := (mkF m 323 #[.val (.int ya0), .val (.int ya1), .val (.int ya2), .val (.int ya3), .val (.int ya4), .val (.int (5 : Int32)), .val (.int c0), .val (.int c1), .val (.int c2), .val (.int c3), .val .null, .val (.int (0 : Int32)), .val (.int (0 : Int32)), .unset, .unset] [(.int (0 : Int32)), (.int (0 : Int32))])) ?_ (fun t_ k_ => XS.iload X143.here hx rfl (hb hby at_321) rfl k_)
    refine Goes.on (T' := T143) (g' := (mkF m 326 #[.val (.int ya0), .val (.int ya1), .val (.int ya2), .val (.int ya3), .val (.int ya4), .val (.int (5 : Int32)), .val (.int c0), .val (.int c1), .val (.int c2), .val (.int c3), .val .null, .val (.int (0 : Int32)), .val (.int (0 : Int32)), .unset, .unset] [])) ?_ (fun t_ k_ => XS.icmpNo X143.here hx rfl (hb hby at_323) rfl (by decide) k_)
    refine Goes.on (T' := T143) (g' := (mkF m 327 #[.val (.int ya0), .val (.int ya1), .val (.int ya2), .val (.int ya3), .val (.int ya4), .val (.int (5 : Int32)), .val (.int c0), .val (.int c1), .val (.int c2), .val (.int c3), .val .null, .val (.int (0 : Int32)), .val (.int (0 : Int32)), .unset, .unset] [(.int (1 : Int32))])) ?_ (fun t_ k_ => XS.iconst X143.here hx rfl (hb hby at_326) k_)
    refine Goes.on (T' := T143) (g' := (mkF m 331 #[.val (.int ya0), .val (.int ya1), .val (.int ya2), .val (.int ya3), .val (.int ya4), .val (.int (5 : Int32)), .val (.int c0), .val (.int c1), .val (.int c2), .val (.int c3), .val .null, .val (.int (0 : Int32)), .val (.int (0 : Int32)), .unset, .unset] [(.int (1 : Int32))])) ?_ (fun t_ k_ => XS.goto X143.here hx rfl (pc0 := 327) (pc' := 331) rfl (hb hby at_327) (by decide) (by decide) k_)
    rw [hWd]
    exact Goes.retnW X143 hS0 (by rw [eh143]; exact (Nat.le_refl _)) (v := some (.int (nar .boolean (1 : Int32)))) (fun fs hr => retN X143 hx (t := .boolean) Bd.returns (by simp) (hb hby at_331) hr) (fun h => by rw [Bd.returns] at h; cases h) Bd.notSynchronized (by decide) (by decide) (by rw [eh143]; exact ⟨rfl, N143⟩)
set_option maxRecDepth 65536 in
set_option maxHeartbeats 40000000 in
theorem comes_1 {Post : Tables → Env → Array Value → State → Outcome → State → Prop} (hpost : ∀ tb e args s v u, (limb_1_1.after args s (.returned v) u = true ∧ limb_1_2.after args s (.returned v) u = true ∧ True) → ReturnedEndW s (.returned v) u (Jvm.fieldLocs frame_1_writes args s ++ Jvm.arrayLocs frame_1_arrays args s ++ Jvm.staticLocs frame_1_statics s) 24 2176 → Post tb e args s (.returned v) u) :
    ArmFor flags0 classFile x code maxLocals ret World_1 tables_1 room_1 Calls_1 rest_1 Pre_1 Post := by
  intro l hfl _ _ p e ha hc hk s m args below hf hA hF happ hP
  obtain ⟨hcalls, hrest, hpre⟩ := hP
  obtain ⟨-, -, -, hnamed, -, -, -, hat⟩ := (Spec.applies_iff hf).mp happ
  obtain ⟨hg, hn⟩ := and_e (Cond.before_iff.mp (show (Jvm.Cond.and given_1 narrow_1).before args s = true from hpre))
  obtain ⟨hcount, hq0⟩ := and_e hg
  obtain ⟨ha0, hq1⟩ := and_e hq0
  obtain ⟨ha1, hq2⟩ := and_e hq1
  obtain ⟨ha2, hq3⟩ := and_e hq2
  obtain ⟨ha3, hq4⟩ := and_e hq3
  have ha4 := hq4
  obtain ⟨w0, w1, w2, w3, w4, rfl⟩ : ∃ w0 w1 w2 w3 w4 : Value, args = #[w0, w1, w2, w3, w4] := by
    have hs : args.size = 5 := by simpa [Cond.value, given_1] using hcount
    obtain ⟨L⟩ := args
    match L, hs with
    | [w0, w1, w2, w3, w4], _ => exact ⟨w0, w1, w2, w3, w4, rfl⟩
  have hw := fun d (hd : d ∈ tables_1) => atoms_spec (ws := Jvm.Cond.code x code maxLocals ret :: tables_1) hat d (List.mem_cons_of_mem _ hd)
  obtain ⟨hsets, hown0⟩ := atoms_of _ (rest_1_c_eq ▸ (show rest_1_c.before _ s = true from hrest))
  have hfit : Fit s := fun {y c} hc i hi => by
    obtain ⟨ha, rfl⟩ := Array.getElem?_eq_some_iff.mp hc
    have q := List.all_eq_true.mp ((Array.all_eq_true_iff_forall_mem.mp hF) _ (Array.getElem_mem ha)) i (List.mem_range.mpr hi)
    simpa [Array.getElem?_eq_getElem hi] using q
  obtain ⟨i0, ea0⟩ := is_v ha0
  obtain rfl : w0 = (.int i0) := Option.some.inj ea0
  obtain ⟨i1, ea1⟩ := is_v ha1
  obtain rfl : w1 = (.int i1) := Option.some.inj ea1
  obtain ⟨i2, ea2⟩ := is_v ha2
  obtain rfl : w2 = (.int i2) := Option.some.inj ea2
  obtain ⟨i3, ea3⟩ := is_v ha3
  obtain rfl : w3 = (.int i3) := Option.some.inj ea3
  obtain ⟨i4, ea4⟩ := is_v ha4
  obtain rfl : w4 = (.int i4) := Option.some.inj ea4
  obtain ⟨zc, ecz⟩ := is_v (Cond.before_iff.mp (hsets _ (List.mem_of_getElem? (i := 1) rfl)))
  have CS : Sta s s.heap "java/lang/String" "COMPACT_STRINGS" "Z" (.int zc) := Sta.start ecz (Or.inl (hsets _ (List.mem_of_getElem? (i := 0) rfl)))
  have hzc : ¬ zc = (0 : Int32) := gotF (Cond.eq_ints ecz (Term.int_eval (0))) (not_v (Cond.before_iff.mp (hsets _ (List.mem_of_getElem? (i := 2) rfl))))
  obtain ⟨vf, evf, rG⟩ := isR_v (Cond.before_iff.mp (hsets _ (List.mem_of_getElem? (i := 8) rfl)))
  have SO : Sta s s.heap "jdk/internal/util/Preconditions" "SIOOBE_FORMATTER" "Ljava/util/function/BiFunction;" vf := Sta.start evf (Or.inl (hsets _ (List.mem_of_getElem? (i := 7) rfl)))
  have hCH0 : CHv s consts_1 s.vm s.heap := CHv.start (own_EW hw) (fun p hp => hcalls.1 p hp) (hsets _ (List.mem_of_getElem? (i := 2) rfl)) (hw _ (List.mem_of_getElem? (i := 20) rfl)) (hw _ (List.mem_of_getElem? (i := 6) rfl))
  have AD : Sta s s.heap "java/lang/StringUTF16" "$assertionsDisabled" "Z" (.int (1 : Int32)) := Sta.start (eqv_i (Term.int_eval (1)) (Cond.before_iff.mp (hsets _ (List.mem_of_getElem? (i := 12) rfl)))) (Or.inl (hsets _ (List.mem_of_getElem? (i := 11) rfl)))
  have HB : Sta s s.heap "java/lang/StringUTF16" "HI_BYTE_SHIFT" "I" (.int (0 : Int32)) := Sta.start (eqv_i (Term.int_eval (0)) (Cond.before_iff.mp (hsets _ (List.mem_of_getElem? (i := 15) rfl)))) (Or.inl (hsets _ (List.mem_of_getElem? (i := 14) rfl)))
  have LB : Sta s s.heap "java/lang/StringUTF16" "LO_BYTE_SHIFT" "I" (.int (8 : Int32)) := Sta.start (eqv_i (Term.int_eval (8)) (Cond.before_iff.mp (hsets _ (List.mem_of_getElem? (i := 18) rfl)))) (Or.inl (hsets _ (List.mem_of_getElem? (i := 17) rfl)))
  obtain ⟨n, o, h1, h2, h3, _, L, rfl, ⟨rfl, N⟩, hq⟩ := rm0 l s _ hw tables_1 i0 i1 i2 i3 i4 zc vf s.heap s.heap.size (Nat.le_refl _) rfl rfl hCH0 CS hzc AD HB LB SO rG (Old.start s) p e ha hc hk s m _ below hf ((Spec.applies_iff_loose hf).mp happ).1 ⟨rfl, rfl⟩ trivial
  refine ⟨n, _, h1, h2, h3, hpost _ _ _ _ _ _ ⟨Cond.after_iff.mpr rfl, Cond.after_iff.mpr (eq_i res_at (Term.int_eval (1)) rfl), trivial⟩ ⟨hq.1, hq.2.1, hq.2.2.1, (hq.2.2.2.sift fun y hy => Or.inr (N y hy)).mono (by decide) (by decide)⟩⟩
theorem main_1_1 : Claimed_1_1 := comes_1 fun _ _ _ _ _ _ h hF => ⟨h.1, hF⟩
theorem main_1_2 : Claimed_1_2 := comes_1 fun _ _ _ _ _ _ h hF => ⟨h.2.1, hF⟩
end Jvm.Pilot.@@N@@
namespace Jvm.Pilot.@@N@@
open Jvm Jvm.ClassFile Sem Op Lib Jvm.Free Jvm.Stand Jvm.Pilot.@@N@@.Jvm.D
/-! MADE BY PROGRAM (witnessworld.py) out of the Statement's table words and the real class files: 21 classes; the members and pool entries that the words name. The judged class is class 1, her method 2. -/
namespace start1
open Jvm.ClassFile
def u (s : String) : CpInfo := .utf8 (stringToUtf16 s)
/-- a pool by its gaps: so many unusable entries, then the entry; so many at the end -/
def gap : Nat → List CpInfo → List CpInfo
  | 0, r => r
  | n + 1, r => .unusable :: gap n r
def poolList (es : List (Nat × CpInfo)) (last : Nat) : List CpInfo := es.foldr (fun e r => gap e.1 (e.2 :: r)) (gap last [])
def pool (es : List (Nat × CpInfo)) (last : Nat) : Array CpInfo := ⟨poolList es last⟩
def fileOf (pool : Array CpInfo) (this : Nat) (attrs : Array Attribute := #[]) (ms : Array MethodInfo := #[]) (fl : Nat := 33) (sup : Nat := 0) (ifs : Array Nat := #[]) (fds : Array FieldInfo := #[]) : ClassFile where
  minorVersion := 0
  majorVersion := 65
  constantPool := pool
  accessFlags := fl
  thisClass := this
  superClass := sup
  interfaces := ifs
  fields := fds
  methods := ms
  attributes := attrs
def plain (name : String) (sup : Option ClassId) : Class where
  name := name
  kind := .ordinary
  loader := none
  accessFlags := 33
  super := sup
  interfaces := #[]
  cf := none
  fields := #[]
  methods := #[]
  instanceTypes := #[]
  staticTypes := #[]
  resolved := #[]
  callSites := []
  init := .initialized
  statics := none
  mirror := none

def pool0 : Array CpInfo := pool [(5, u "<init>"), (0, u "()V"), (1, .class_ 10), (1, u "java/lang/Object")] 113

def k0c0 : Code := { maxStack := 0, maxLocals := 1, code := object_method_1_code, exceptionTable := #[], attributes := #[] }
def k0m0 : Method := { name := "<init>", desc := "()V", sig := { parameters := [], returnType := none }, accessFlags := 1, code := some k0c0 }
/-- java/lang/Object -/
def k0 : Class := { plain "java/lang/Object" none with
  accessFlags := 33
  interfaces := #[]
  cf := some (fileOf pool0 8 #[] #[{ accessFlags := 1, nameIndex := 5, descriptorIndex := 6, attributes := #[] }] 33 0 #[] #[])
  fields := #[]
  methods := #[k0m0]
  instanceTypes := #[]
  staticTypes := #[]
  resolved := Array.replicate 124 none
  statics := none }

def pool1 : Array CpInfo := pool [(2, .class_ 4), (1, u "java/lang/Object"), (0, u "<init>"), (0, u "()V"), (0, .integer 2147483647), (0, .methodref 9 10), (0, .class_ 11), (0, .nameAndType 12 13), (0, u "com/example/regraft/regraft/core/NodeIsValidNamePinLaw"), (0, u "draw"), (0, u "(I)C"), (0, .class_ 15), (0, u "java/lang/String"), (0, .methodref 14 17), (0, .nameAndType 5 18), (0, u "([C)V"), (0, .methodref 20 21), (0, .class_ 22), (0, .nameAndType 23 24), (0, u "com/example/regraft/regraft/core/Node"), (0, u "isValidName"), (0, u "(Ljava/lang/String;)Z"), (3, u "law"), (0, u "(IIIII)Z")] 2

def k1m0 : Method := { name := "<init>", desc := "()V", sig := { parameters := [], returnType := none }, accessFlags := 1, code := none }
def k1c1 : Code := { maxStack := 2, maxLocals := 2, code := method_2_code, exceptionTable := #[], attributes := #[] }
def k1m1 : Method := { name := "draw", desc := "(I)C", sig := { parameters := [.int], returnType := some .char }, accessFlags := 10, code := some k1c1 }
def k1c2 : Code := { maxStack := 6, maxLocals := 15, code := code, exceptionTable := #[], attributes := #[] }
def k1m2 : Method := { name := "law", desc := "(IIIII)Z", sig := { parameters := [.int, .int, .int, .int, .int], returnType := some .boolean }, accessFlags := 9, code := some k1c2 }
/-- com/example/regraft/regraft/core/NodeIsValidNamePinLaw -/
def k1 : Class := { plain "com/example/regraft/regraft/core/NodeIsValidNamePinLaw" (some 0) with
  accessFlags := 49
  interfaces := #[]
  cf := some (fileOf pool1 9 #[] #[{ accessFlags := 1, nameIndex := 5, descriptorIndex := 6, attributes := #[] }, { accessFlags := 10, nameIndex := 12, descriptorIndex := 13, attributes := #[] }, { accessFlags := 9, nameIndex := 28, descriptorIndex := 29, attributes := #[] }] 49 2 #[] #[])
  fields := #[]
  methods := #[k1m0, k1m1, k1m2]
  instanceTypes := #[]
  staticTypes := #[]
  resolved := Array.replicate 32 none
  statics := none }

def pool2 : Array CpInfo := pool [(1, .class_ 2), (0, u "java/io/Serializable"), (0, .class_ 4), (0, u "java/lang/Object")] 2

/-- java/io/Serializable -/
def k2 : Class := { plain "java/io/Serializable" (some 0) with
  accessFlags := 1537
  interfaces := #[]
  cf := some (fileOf pool2 1 #[] #[] 1537 3 #[] #[])
  fields := #[]
  methods := #[]
  instanceTypes := #[]
  staticTypes := #[]
  resolved := Array.replicate 7 none
  statics := none }

def pool3 : Array CpInfo := pool [(1, .class_ 2), (0, u "java/lang/Comparable"), (0, .class_ 4), (0, u "java/lang/Object")] 7

/-- java/lang/Comparable -/
def k3 : Class := { plain "java/lang/Comparable" (some 0) with
  accessFlags := 1537
  interfaces := #[]
  cf := some (fileOf pool3 1 #[] #[] 1537 3 #[] #[])
  fields := #[]
  methods := #[]
  instanceTypes := #[]
  staticTypes := #[]
  resolved := Array.replicate 12 none
  statics := none }

def pool4 : Array CpInfo := pool [(2, .class_ 4), (1, u "java/lang/CharSequence"), (42, .class_ 48), (0, u "java/lang/CharSequence$1CodePointIterator"), (10, .class_ 60), (0, u "java/lang/CharSequence$1CharIterator"), (5, .class_ 67), (0, u "java/lang/Object")] 63

/-- java/lang/CharSequence -/
def k4 : Class := { plain "java/lang/CharSequence" (some 0) with
  accessFlags := 1537
  interfaces := #[]
  cf := some (fileOf pool4 2 #[.nestMembers #[47, 59]] #[] 1537 66 #[] #[])
  fields := #[]
  methods := #[]
  instanceTypes := #[]
  staticTypes := #[]
  resolved := Array.replicate 131 none
  statics := none }

def pool5 : Array CpInfo := pool [(1, .class_ 2), (0, u "java/lang/constant/Constable"), (0, .class_ 4), (0, u "java/lang/Object")] 6

/-- java/lang/constant/Constable -/
def k5 : Class := { plain "java/lang/constant/Constable" (some 0) with
  accessFlags := 1537
  interfaces := #[]
  cf := some (fileOf pool5 1 #[] #[] 1537 3 #[] #[])
  fields := #[]
  methods := #[]
  instanceTypes := #[]
  staticTypes := #[]
  resolved := Array.replicate 11 none
  statics := none }

def pool6 : Array CpInfo := pool [(1, .class_ 2), (0, u "java/lang/constant/ConstantDesc"), (0, .class_ 4), (0, u "java/lang/Object")] 32

/-- java/lang/constant/ConstantDesc -/
def k6 : Class := { plain "java/lang/constant/ConstantDesc" (some 0) with
  accessFlags := 1537
  interfaces := #[]
  cf := some (fileOf pool6 1 #[] #[] 1537 3 #[] #[])
  fields := #[]
  methods := #[]
  instanceTypes := #[]
  staticTypes := #[]
  resolved := Array.replicate 37 none
  statics := none }

def pool7 : Array CpInfo := pool [(1, .methodref 2 3), (0, .class_ 4), (0, .nameAndType 5 6), (0, u "java/lang/Object"), (0, u "<init>"), (0, u "()V"), (0, .string 8), (0, u ""), (0, .fieldref 10 11), (0, .class_ 12), (0, .nameAndType 13 14), (0, u "java/lang/String"), (0, u "value"), (0, u "[B"), (0, .fieldref 10 16), (0, .nameAndType 17 18), (0, u "coder"), (0, u "B"), (2, u "hash"), (0, u "I"), (2, u "hashIsZero"), (0, u "Z"), (0, .methodref 10 28), (0, .nameAndType 5 29), (0, u "([CIILjava/lang/Void;)V"), (8, .fieldref 10 39), (0, .nameAndType 40 26), (0, u "COMPACT_STRINGS"), (1, .class_ 44), (1, u "java/lang/StringUTF16"), (0, u "compress"), (1, .methodref 42 48), (0, .nameAndType 49 50), (0, u "coderFromArrayLen"), (0, u "([BI)B"), (56, .class_ 109), (1, u "java/lang/StringLatin1"), (32, u "()Z"), (34, .methodref 42 178), (0, .nameAndType 45 179), (0, u "([CII)[B"), (154, u "()I"), (0, .methodref 10 336), (0, .nameAndType 17 337), (0, u "()B"), (154, .methodref 10 493), (0, .nameAndType 494 142), (0, u "isLatin1"), (10, .methodref 10 506), (0, .nameAndType 507 334), (0, u "length"), (5, u "checkFromToIndex"), (9, u "checkBoundsBeginEnd"), (0, u "(III)V"), (16, .methodref 107 542), (0, .nameAndType 543 544), (0, u "equals"), (0, u "([B[B)Z"), (28, u "(Ljava/lang/Object;)Z"), (1, .class_ 576), (0, u "java/lang/CharSequence"), (22, u "CASE_INSENSITIVE_ORDER"), (0, u "Ljava/util/Comparator;"), (32, .methodref 10 634), (0, .nameAndType 635 636), (0, u "indexOf"), (0, u "(II)I"), (0, .methodref 107 638), (0, .nameAndType 635 639), (0, u "([BIII)I"), (0, .methodref 42 638), (51, u "isEmpty"), (72, u "(I)I"), (244, u "([C)V"), (42, .fieldref 1054 1055), (0, .class_ 1056), (0, .nameAndType 1057 1058), (0, u "jdk/internal/util/Preconditions"), (0, u "SIOOBE_FORMATTER"), (0, u "Ljava/util/function/BiFunction;"), (3, .methodref 1054 1063), (0, .nameAndType 513 1064), (0, u "(IIILjava/util/function/BiFunction;)I"), (36, u "serialPersistentFields"), (0, u "[Ljava/io/ObjectStreamField;"), (0, .class_ 1104), (0, u "java/lang/String$CaseInsensitiveComparator"), (1, .class_ 1107), (0, u "java/io/Serializable"), (0, .class_ 1109), (0, u "java/lang/Comparable"), (0, .class_ 1111), (0, u "java/lang/constant/Constable"), (0, .class_ 1113), (0, u "java/lang/constant/ConstantDesc"), (2, u "serialVersionUID"), (0, u "J"), (3, u "REPL"), (0, u "C"), (2, u "LATIN1"), (1, u "UTF16")] 323

def k7m0 : Method := { name := "<init>", desc := "()V", sig := { parameters := [], returnType := none }, accessFlags := 1, code := none }
def k7c1 : Code := { maxStack := 5, maxLocals := 2, code := jdk_42_method_3_code, exceptionTable := #[], attributes := #[] }
def k7m1 : Method := { name := "<init>", desc := "([C)V", sig := { parameters := [(.array .char)], returnType := none }, accessFlags := 1, code := some k7c1 }
def k7c2 : Code := { maxStack := 2, maxLocals := 1, code := jdk_42_method_54_code, exceptionTable := #[], attributes := #[] }
def k7m2 : Method := { name := "length", desc := "()I", sig := { parameters := [], returnType := some .int }, accessFlags := 1, code := some k7c2 }
def k7c3 : Code := { maxStack := 1, maxLocals := 1, code := jdk_42_method_55_code, exceptionTable := #[], attributes := #[] }
def k7m3 : Method := { name := "isEmpty", desc := "()Z", sig := { parameters := [], returnType := some .boolean }, accessFlags := 1, code := some k7c3 }
def k7c4 : Code := { maxStack := 2, maxLocals := 3, code := jdk_42_method_66_code, exceptionTable := #[], attributes := #[] }
def k7m4 : Method := { name := "equals", desc := "(Ljava/lang/Object;)Z", sig := { parameters := [(.object "java/lang/Object")], returnType := some .boolean }, accessFlags := 1, code := some k7c4 }
def k7c5 : Code := { maxStack := 3, maxLocals := 2, code := jdk_42_method_79_code, exceptionTable := #[], attributes := #[] }
def k7m5 : Method := { name := "indexOf", desc := "(I)I", sig := { parameters := [.int], returnType := some .int }, accessFlags := 1, code := some k7c5 }
def k7c6 : Code := { maxStack := 4, maxLocals := 3, code := jdk_42_method_80_code, exceptionTable := #[], attributes := #[] }
def k7m6 : Method := { name := "indexOf", desc := "(II)I", sig := { parameters := [.int, .int], returnType := some .int }, accessFlags := 1, code := some k7c6 }
def k7c7 : Code := { maxStack := 4, maxLocals := 6, code := jdk_42_method_149_code, exceptionTable := #[], attributes := #[] }
def k7m7 : Method := { name := "<init>", desc := "([CIILjava/lang/Void;)V", sig := { parameters := [(.array .char), .int, .int, (.object "java/lang/Void")], returnType := none }, accessFlags := 2, code := some k7c7 }
def k7c8 : Code := { maxStack := 1, maxLocals := 1, code := jdk_42_method_152_code, exceptionTable := #[], attributes := #[] }
def k7m8 : Method := { name := "coder", desc := "()B", sig := { parameters := [], returnType := some .byte }, accessFlags := 0, code := some k7c8 }
def k7c9 : Code := { maxStack := 1, maxLocals := 1, code := jdk_42_method_154_code, exceptionTable := #[], attributes := #[] }
def k7m9 : Method := { name := "isLatin1", desc := "()Z", sig := { parameters := [], returnType := some .boolean }, accessFlags := 0, code := some k7c9 }
def k7c10 : Code := { maxStack := 4, maxLocals := 3, code := jdk_42_method_158_code, exceptionTable := #[], attributes := #[] }
def k7m10 : Method := { name := "checkBoundsBeginEnd", desc := "(III)V", sig := { parameters := [.int, .int, .int], returnType := none }, accessFlags := 8, code := some k7c10 }
/-- java/lang/String -/
def k7 : Class := { plain "java/lang/String" (some 0) with
  accessFlags := 49
  interfaces := #[2, 3, 4, 5, 6]
  cf := some (fileOf pool7 10 #[.nestMembers #[1103]] #[{ accessFlags := 1, nameIndex := 5, descriptorIndex := 6, attributes := #[] }, { accessFlags := 1, nameIndex := 5, descriptorIndex := 1010, attributes := #[] }, { accessFlags := 1, nameIndex := 507, descriptorIndex := 334, attributes := #[] }, { accessFlags := 1, nameIndex := 692, descriptorIndex := 142, attributes := #[] }, { accessFlags := 1, nameIndex := 543, descriptorIndex := 573, attributes := #[] }, { accessFlags := 1, nameIndex := 635, descriptorIndex := 765, attributes := #[] }, { accessFlags := 1, nameIndex := 635, descriptorIndex := 636, attributes := #[] }, { accessFlags := 2, nameIndex := 5, descriptorIndex := 29, attributes := #[] }, { accessFlags := 0, nameIndex := 17, descriptorIndex := 337, attributes := #[] }, { accessFlags := 0, nameIndex := 494, descriptorIndex := 142, attributes := #[] }, { accessFlags := 8, nameIndex := 523, descriptorIndex := 524, attributes := #[] }] 49 2 #[1106, 1108, 575, 1110, 1112] #[{ accessFlags := 18, nameIndex := 13, descriptorIndex := 14, attributes := #[] }, { accessFlags := 18, nameIndex := 17, descriptorIndex := 18, attributes := #[] }, { accessFlags := 2, nameIndex := 21, descriptorIndex := 22, attributes := #[] }, { accessFlags := 2, nameIndex := 25, descriptorIndex := 26, attributes := #[] }, { accessFlags := 26, nameIndex := 1116, descriptorIndex := 1117, attributes := #[] }, { accessFlags := 24, nameIndex := 40, descriptorIndex := 26, attributes := #[] }, { accessFlags := 26, nameIndex := 1101, descriptorIndex := 1102, attributes := #[] }, { accessFlags := 26, nameIndex := 1121, descriptorIndex := 1122, attributes := #[] }, { accessFlags := 25, nameIndex := 599, descriptorIndex := 600, attributes := #[] }, { accessFlags := 24, nameIndex := 1125, descriptorIndex := 18, attributes := #[] }, { accessFlags := 24, nameIndex := 1127, descriptorIndex := 18, attributes := #[] }])
  fields := #[{ name := "value", type := (.array .byte), accessFlags := 18, slot := 0, constantValue := 0 }, { name := "coder", type := .byte, accessFlags := 18, slot := 1, constantValue := 0 }, { name := "hash", type := .int, accessFlags := 2, slot := 2, constantValue := 0 }, { name := "hashIsZero", type := .boolean, accessFlags := 2, slot := 3, constantValue := 0 }, { name := "serialVersionUID", type := .long, accessFlags := 26, slot := 0, constantValue := 0 }, { name := "COMPACT_STRINGS", type := .boolean, accessFlags := 24, slot := 1, constantValue := 0 }, { name := "serialPersistentFields", type := (.array (.object "java/io/ObjectStreamField")), accessFlags := 26, slot := 2, constantValue := 0 }, { name := "REPL", type := .char, accessFlags := 26, slot := 3, constantValue := 0 }, { name := "CASE_INSENSITIVE_ORDER", type := (.object "java/util/Comparator"), accessFlags := 25, slot := 4, constantValue := 0 }, { name := "LATIN1", type := .byte, accessFlags := 24, slot := 5, constantValue := 0 }, { name := "UTF16", type := .byte, accessFlags := 24, slot := 6, constantValue := 0 }]
  methods := #[k7m0, k7m1, k7m2, k7m3, k7m4, k7m5, k7m6, k7m7, k7m8, k7m9, k7m10]
  instanceTypes := #[(.array .byte), .byte, .int, .boolean]
  staticTypes := #[.long, .boolean, (.array (.object "java/io/ObjectStreamField")), .char, (.object "java/util/Comparator"), .byte, .byte]
  resolved := Array.replicate 1451 none
  statics := some 0 }

def pool8 : Array CpInfo := pool [(2, .class_ 4), (1, u "java/lang/Object"), (0, u "<init>"), (0, u "()V"), (1, .class_ 10), (1, u "com/example/regraft/regraft/core/Node"), (0, u "NO_SLOTS"), (0, u "[Ljava/lang/Object;"), (2, u "slots"), (0, .methodref 17 18), (0, .class_ 19), (0, .nameAndType 20 21), (0, u "java/lang/String"), (0, u "isEmpty"), (0, u "()Z"), (0, .methodref 17 23), (0, .nameAndType 24 25), (0, u "indexOf"), (0, u "(I)I"), (0, .string 27), (0, u ":id"), (0, .methodref 17 29), (0, .nameAndType 30 31), (0, u "equals"), (0, u "(Ljava/lang/Object;)Z"), (2, u "identity"), (0, u "Ljava/lang/String;"), (0, .class_ 37), (0, u "com/example/regraft/regraft/core/Node$Names"), (22, .class_ 62), (1, u "com/example/regraft/regraft/core/Node$Member"), (4, u "used"), (0, u "I"), (0, .class_ 70), (0, u "com/example/regraft/regraft/core/Node$InOrder"), (45, u "table"), (0, u "[I"), (6, u "removed"), (12, .class_ 138), (0, u "com/example/regraft/regraft/core/Node$Copying"), (33, u "isValidName"), (0, u "(Ljava/lang/String;)Z"), (19, .class_ 194), (0, u "com/example/regraft/regraft/core/Node$1"), (1, u "IDENTITY_MARKER"), (1, u "SCANNED"), (37, .class_ 237), (0, u "com/example/regraft/regraft/core/Node$Walk"), (0, .class_ 239), (0, u "com/example/regraft/regraft/core/Node$Names$1")] 41

def k8m0 : Method := { name := "<init>", desc := "()V", sig := { parameters := [], returnType := none }, accessFlags := 1, code := none }
def k8c1 : Code := { maxStack := 2, maxLocals := 1, code := prog_21_method_2_code, exceptionTable := #[], attributes := #[] }
def k8m1 : Method := { name := "isValidName", desc := "(Ljava/lang/String;)Z", sig := { parameters := [(.object "java/lang/String")], returnType := some .boolean }, accessFlags := 9, code := some k8c1 }
/-- com/example/regraft/regraft/core/Node -/
def k8 : Class := { plain "com/example/regraft/regraft/core/Node" (some 0) with
  accessFlags := 49
  interfaces := #[]
  cf := some (fileOf pool8 8 #[.nestMembers #[236, 36, 238, 137, 69, 60, 193]] #[{ accessFlags := 1, nameIndex := 5, descriptorIndex := 6, attributes := #[] }, { accessFlags := 9, nameIndex := 172, descriptorIndex := 173, attributes := #[] }] 49 2 #[] #[{ accessFlags := 25, nameIndex := 196, descriptorIndex := 35, attributes := #[] }, { accessFlags := 26, nameIndex := 198, descriptorIndex := 68, attributes := #[] }, { accessFlags := 26, nameIndex := 11, descriptorIndex := 12, attributes := #[] }, { accessFlags := 2, nameIndex := 15, descriptorIndex := 12, attributes := #[] }, { accessFlags := 2, nameIndex := 67, descriptorIndex := 68, attributes := #[] }, { accessFlags := 2, nameIndex := 124, descriptorIndex := 68, attributes := #[] }, { accessFlags := 2, nameIndex := 116, descriptorIndex := 117, attributes := #[] }, { accessFlags := 2, nameIndex := 34, descriptorIndex := 35, attributes := #[] }])
  fields := #[{ name := "IDENTITY_MARKER", type := (.object "java/lang/String"), accessFlags := 25, slot := 0, constantValue := 0 }, { name := "SCANNED", type := .int, accessFlags := 26, slot := 1, constantValue := 0 }, { name := "NO_SLOTS", type := (.array (.object "java/lang/Object")), accessFlags := 26, slot := 2, constantValue := 0 }, { name := "slots", type := (.array (.object "java/lang/Object")), accessFlags := 2, slot := 0, constantValue := 0 }, { name := "used", type := .int, accessFlags := 2, slot := 1, constantValue := 0 }, { name := "removed", type := .int, accessFlags := 2, slot := 2, constantValue := 0 }, { name := "table", type := (.array .int), accessFlags := 2, slot := 3, constantValue := 0 }, { name := "identity", type := (.object "java/lang/String"), accessFlags := 2, slot := 4, constantValue := 0 }]
  methods := #[k8m0, k8m1]
  instanceTypes := #[(.array (.object "java/lang/Object")), .int, .int, (.array .int), (.object "java/lang/String")]
  staticTypes := #[(.object "java/lang/String"), .int, (.array (.object "java/lang/Object"))]
  resolved := Array.replicate 281 none
  statics := none }

def pool9 : Array CpInfo := pool [(3, .class_ 4), (0, u "java/lang/String"), (1, .class_ 8), (1, u "java/lang/Object"), (0, u "<init>"), (0, u "()V"), (0, .methodref 12 13), (0, .class_ 14), (0, .nameAndType 15 16), (0, u "java/lang/StringUTF16"), (0, u "newBytesLength"), (0, u "(I)I"), (3, .integer 1073741823), (23, .fieldref 12 45), (0, .nameAndType 46 47), (0, u "$assertionsDisabled"), (0, u "Z"), (0, .methodref 12 49), (0, .nameAndType 50 51), (0, u "length"), (0, u "([B)I"), (7, .fieldref 12 60), (0, .nameAndType 61 62), (0, u "HI_BYTE_SHIFT"), (0, u "I"), (0, .fieldref 12 64), (0, .nameAndType 65 62), (0, u "LO_BYTE_SHIFT"), (5, .methodref 12 72), (0, .nameAndType 73 74), (0, u "getChar"), (0, u "([BI)C"), (21, .methodref 12 97), (0, .nameAndType 98 99), (0, u "checkBoundsBeginEnd"), (0, u "(II[B)V"), (7, .methodref 12 108), (0, .nameAndType 109 110), (0, u "newBytesFor"), (0, u "(I)[B"), (0, .methodref 12 112), (0, .nameAndType 113 114), (0, u "putChar"), (0, u "([BII)V"), (0, .methodref 12 116), (0, .nameAndType 117 118), (0, u "compress"), (0, u "([CI[BII)I"), (0, .methodref 12 120), (0, .nameAndType 121 122), (0, u "toBytes"), (0, u "([CII)[B"), (60, .methodref 184 185), (0, .class_ 186), (0, .nameAndType 187 188), (0, u "java/lang/Math"), (0, u "min"), (0, u "(II)I"), (35, .methodref 184 225), (0, .nameAndType 226 188), (0, u "max"), (0, .integer 65536), (0, .methodref 12 229), (0, .nameAndType 230 231), (0, u "indexOfChar"), (0, u "([BIII)I"), (9, .methodref 3 242), (0, .nameAndType 98 243), (0, u "(III)V"), (0, .methodref 12 245), (0, .nameAndType 246 231), (0, u "indexOfCharUnsafe"), (14, u "coderFromArrayLen"), (0, u "([BI)B"), (5, u "indexOf"), (100, .class_ 371), (1, u "java/lang/StringUTF16$LinesSpliterator"), (58, u "MAX_LENGTH"), (196, .class_ 628), (0, u "java/lang/StringUTF16$CodePointsSpliterator"), (0, .class_ 630), (0, u "java/lang/StringUTF16$CharsSpliterator")] 4

def k9m0 : Method := { name := "<init>", desc := "()V", sig := { parameters := [], returnType := none }, accessFlags := 0, code := none }
def k9c1 : Code := { maxStack := 1, maxLocals := 1, code := jdk_52_method_2_code, exceptionTable := #[], attributes := #[] }
def k9m1 : Method := { name := "newBytesFor", desc := "(I)[B", sig := { parameters := [.int], returnType := some (.array .byte) }, accessFlags := 9, code := some k9c1 }
def k9c2 : Code := { maxStack := 4, maxLocals := 1, code := jdk_52_method_3_code, exceptionTable := #[], attributes := #[] }
def k9m2 : Method := { name := "newBytesLength", desc := "(I)I", sig := { parameters := [.int], returnType := some .int }, accessFlags := 9, code := some k9c2 }
def k9c3 : Code := { maxStack := 4, maxLocals := 3, code := jdk_52_method_4_code, exceptionTable := #[], attributes := #[] }
def k9m3 : Method := { name := "putChar", desc := "([BII)V", sig := { parameters := [(.array .byte), .int, .int], returnType := none }, accessFlags := 8, code := some k9c3 }
def k9c4 : Code := { maxStack := 3, maxLocals := 2, code := jdk_52_method_5_code, exceptionTable := #[], attributes := #[] }
def k9m4 : Method := { name := "getChar", desc := "([BI)C", sig := { parameters := [(.array .byte), .int], returnType := some .char }, accessFlags := 8, code := some k9c4 }
def k9c5 : Code := { maxStack := 2, maxLocals := 1, code := jdk_52_method_6_code, exceptionTable := #[], attributes := #[] }
def k9m5 : Method := { name := "length", desc := "([B)I", sig := { parameters := [(.array .byte)], returnType := some .int }, accessFlags := 9, code := some k9c5 }
def k9c6 : Code := { maxStack := 4, maxLocals := 5, code := jdk_52_method_14_code, exceptionTable := #[], attributes := #[] }
def k9m6 : Method := { name := "toBytes", desc := "([CII)[B", sig := { parameters := [(.array .char), .int, .int], returnType := some (.array .byte) }, accessFlags := 9, code := some k9c6 }
def k9c7 : Code := { maxStack := 2, maxLocals := 2, code := jdk_52_method_15_code, exceptionTable := #[], attributes := #[] }
def k9m7 : Method := { name := "coderFromArrayLen", desc := "([BI)B", sig := { parameters := [(.array .byte), .int], returnType := some .byte }, accessFlags := 8, code := some k9c7 }
def k9c8 : Code := { maxStack := 5, maxLocals := 6, code := jdk_52_method_16_code, exceptionTable := #[], attributes := #[] }
def k9m8 : Method := { name := "compress", desc := "([CII)[B", sig := { parameters := [(.array .char), .int, .int], returnType := some (.array .byte) }, accessFlags := 9, code := some k9c8 }
def k9c9 : Code := { maxStack := 3, maxLocals := 7, code := jdk_52_method_21_code, exceptionTable := #[], attributes := #[] }
def k9m9 : Method := { name := "compress", desc := "([CI[BII)I", sig := { parameters := [(.array .char), .int, (.array .byte), .int, .int], returnType := some .int }, accessFlags := 9, code := some k9c9 }
def k9c10 : Code := { maxStack := 4, maxLocals := 4, code := jdk_52_method_40_code, exceptionTable := #[], attributes := #[] }
def k9m10 : Method := { name := "indexOf", desc := "([BIII)I", sig := { parameters := [(.array .byte), .int, .int, .int], returnType := some .int }, accessFlags := 9, code := some k9c10 }
def k9c11 : Code := { maxStack := 4, maxLocals := 4, code := jdk_52_method_47_code, exceptionTable := #[], attributes := #[] }
def k9m11 : Method := { name := "indexOfChar", desc := "([BIII)I", sig := { parameters := [(.array .byte), .int, .int, .int], returnType := some .int }, accessFlags := 10, code := some k9c11 }
def k9c12 : Code := { maxStack := 2, maxLocals := 5, code := jdk_52_method_48_code, exceptionTable := #[], attributes := #[] }
def k9m12 : Method := { name := "indexOfCharUnsafe", desc := "([BIII)I", sig := { parameters := [(.array .byte), .int, .int, .int], returnType := some .int }, accessFlags := 10, code := some k9c12 }
def k9c13 : Code := { maxStack := 3, maxLocals := 3, code := jdk_52_method_93_code, exceptionTable := #[], attributes := #[] }
def k9m13 : Method := { name := "checkBoundsBeginEnd", desc := "(II[B)V", sig := { parameters := [.int, .int, (.array .byte)], returnType := none }, accessFlags := 9, code := some k9c13 }
/-- java/lang/StringUTF16 -/
def k9 : Class := { plain "java/lang/StringUTF16" (some 0) with
  accessFlags := 48
  interfaces := #[]
  cf := some (fileOf pool9 12 #[.nestMembers #[627, 629, 369]] #[{ accessFlags := 0, nameIndex := 9, descriptorIndex := 10, attributes := #[] }, { accessFlags := 9, nameIndex := 109, descriptorIndex := 110, attributes := #[] }, { accessFlags := 9, nameIndex := 15, descriptorIndex := 16, attributes := #[] }, { accessFlags := 8, nameIndex := 113, descriptorIndex := 114, attributes := #[] }, { accessFlags := 8, nameIndex := 73, descriptorIndex := 74, attributes := #[] }, { accessFlags := 9, nameIndex := 50, descriptorIndex := 51, attributes := #[] }, { accessFlags := 9, nameIndex := 121, descriptorIndex := 122, attributes := #[] }, { accessFlags := 8, nameIndex := 261, descriptorIndex := 262, attributes := #[] }, { accessFlags := 9, nameIndex := 117, descriptorIndex := 122, attributes := #[] }, { accessFlags := 9, nameIndex := 117, descriptorIndex := 118, attributes := #[] }, { accessFlags := 9, nameIndex := 268, descriptorIndex := 231, attributes := #[] }, { accessFlags := 10, nameIndex := 230, descriptorIndex := 231, attributes := #[] }, { accessFlags := 10, nameIndex := 246, descriptorIndex := 231, attributes := #[] }, { accessFlags := 9, nameIndex := 98, descriptorIndex := 99, attributes := #[] }] 48 6 #[] #[{ accessFlags := 26, nameIndex := 61, descriptorIndex := 62, attributes := #[] }, { accessFlags := 26, nameIndex := 65, descriptorIndex := 62, attributes := #[] }, { accessFlags := 24, nameIndex := 430, descriptorIndex := 62, attributes := #[] }, { accessFlags := 4120, nameIndex := 46, descriptorIndex := 47, attributes := #[] }])
  fields := #[{ name := "HI_BYTE_SHIFT", type := .int, accessFlags := 26, slot := 0, constantValue := 0 }, { name := "LO_BYTE_SHIFT", type := .int, accessFlags := 26, slot := 1, constantValue := 0 }, { name := "MAX_LENGTH", type := .int, accessFlags := 24, slot := 2, constantValue := 0 }, { name := "$assertionsDisabled", type := .boolean, accessFlags := 4120, slot := 3, constantValue := 0 }]
  methods := #[k9m0, k9m1, k9m2, k9m3, k9m4, k9m5, k9m6, k9m7, k9m8, k9m9, k9m10, k9m11, k9m12, k9m13]
  instanceTypes := #[]
  staticTypes := #[.int, .int, .int, .boolean]
  resolved := Array.replicate 635 none
  statics := some 1 }

def pool10 : Array CpInfo := pool [(4, .class_ 6), (1, u "java/lang/Object"), (0, u "<init>"), (0, u "()V"), (5, .class_ 16), (1, u "java/lang/StringLatin1"), (21, .methodref 39 40), (0, .class_ 41), (0, .nameAndType 42 43), (0, u "java/lang/Math"), (0, u "min"), (0, u "(II)I"), (44, .methodref 14 89), (0, .nameAndType 90 91), (0, u "canEncode"), (0, u "(I)Z"), (0, .methodref 39 93), (0, .nameAndType 94 43), (0, u "max"), (0, .methodref 14 96), (0, .nameAndType 97 98), (0, u "indexOfChar"), (0, u "([BIII)I"), (2, u "indexOf"), (19, u "$assertionsDisabled"), (0, u "Z"), (98, .class_ 223), (1, u "java/lang/StringLatin1$LinesSpliterator"), (57, u "equals"), (0, u "([B[B)Z"), (107, .class_ 391), (0, u "java/lang/StringLatin1$CharsSpliterator")] 3

def k10m0 : Method := { name := "<init>", desc := "()V", sig := { parameters := [], returnType := none }, accessFlags := 0, code := none }
def k10c1 : Code := { maxStack := 2, maxLocals := 1, code := jdk_43_method_4_code, exceptionTable := #[], attributes := #[] }
def k10m1 : Method := { name := "canEncode", desc := "(I)Z", sig := { parameters := [.int], returnType := some .boolean }, accessFlags := 9, code := some k10c1 }
def k10c2 : Code := { maxStack := 3, maxLocals := 3, code := jdk_43_method_13_code, exceptionTable := #[], attributes := #[] }
def k10m2 : Method := { name := "equals", desc := "([B[B)Z", sig := { parameters := [(.array .byte), (.array .byte)], returnType := some .boolean }, accessFlags := 9, code := some k10c2 }
def k10c3 : Code := { maxStack := 4, maxLocals := 4, code := jdk_43_method_22_code, exceptionTable := #[], attributes := #[] }
def k10m3 : Method := { name := "indexOf", desc := "([BIII)I", sig := { parameters := [(.array .byte), .int, .int, .int], returnType := some .int }, accessFlags := 9, code := some k10c3 }
def k10c4 : Code := { maxStack := 2, maxLocals := 6, code := jdk_43_method_23_code, exceptionTable := #[], attributes := #[] }
def k10m4 : Method := { name := "indexOfChar", desc := "([BIII)I", sig := { parameters := [(.array .byte), .int, .int, .int], returnType := some .int }, accessFlags := 10, code := some k10c4 }
/-- java/lang/StringLatin1 -/
def k10 : Class := { plain "java/lang/StringLatin1" (some 0) with
  accessFlags := 48
  interfaces := #[]
  cf := some (fileOf pool10 14 #[.nestMembers #[390, 221]] #[{ accessFlags := 0, nameIndex := 7, descriptorIndex := 8, attributes := #[] }, { accessFlags := 9, nameIndex := 90, descriptorIndex := 91, attributes := #[] }, { accessFlags := 9, nameIndex := 281, descriptorIndex := 282, attributes := #[] }, { accessFlags := 9, nameIndex := 101, descriptorIndex := 98, attributes := #[] }, { accessFlags := 10, nameIndex := 97, descriptorIndex := 98, attributes := #[] }] 48 4 #[] #[{ accessFlags := 4120, nameIndex := 121, descriptorIndex := 122, attributes := #[] }])
  fields := #[{ name := "$assertionsDisabled", type := .boolean, accessFlags := 4120, slot := 0, constantValue := 0 }]
  methods := #[k10m0, k10m1, k10m2, k10m3, k10m4]
  instanceTypes := #[]
  staticTypes := #[.boolean]
  resolved := Array.replicate 395 none
  statics := none }

def pool11 : Array CpInfo := pool [(1, .class_ 2), (0, u "java/lang/Math"), (1, .class_ 6), (1, u "java/lang/Object"), (0, u "<init>"), (0, u "()V"), (89, .class_ 100), (1, u "java/lang/Math$RandomNumberGeneratorHolder"), (71, u "negativeZeroFloatBits"), (0, u "J"), (2, u "negativeZeroDoubleBits"), (21, u "max"), (2, u "min"), (43, u "$assertionsDisabled"), (0, u "Z"), (88, u "(II)I"), (2, u "twoToTheDoubleScaleDown"), (0, u "D"), (4, u "twoToTheDoubleScaleUp"), (9, u "E"), (3, u "PI"), (2, u "TAU"), (2, u "DEGREES_TO_RADIANS"), (0, u "RADIANS_TO_DEGREES")] 94

def k11m0 : Method := { name := "<init>", desc := "()V", sig := { parameters := [], returnType := none }, accessFlags := 2, code := none }
def k11c1 : Code := { maxStack := 2, maxLocals := 2, code := jdk_29_method_65_code, exceptionTable := #[], attributes := #[] }
def k11m1 : Method := { name := "max", desc := "(II)I", sig := { parameters := [.int, .int], returnType := some .int }, accessFlags := 9, code := some k11c1 }
def k11c2 : Code := { maxStack := 2, maxLocals := 2, code := jdk_29_method_69_code, exceptionTable := #[], attributes := #[] }
def k11m2 : Method := { name := "min", desc := "(II)I", sig := { parameters := [.int, .int], returnType := some .int }, accessFlags := 9, code := some k11c2 }
/-- java/lang/Math -/
def k11 : Class := { plain "java/lang/Math" (some 0) with
  accessFlags := 49
  interfaces := #[]
  cf := some (fileOf pool11 1 #[.nestMembers #[98]] #[{ accessFlags := 2, nameIndex := 7, descriptorIndex := 8, attributes := #[] }, { accessFlags := 9, nameIndex := 198, descriptorIndex := 335, attributes := #[] }, { accessFlags := 9, nameIndex := 201, descriptorIndex := 335, attributes := #[] }] 49 4 #[] #[{ accessFlags := 25, nameIndex := 354, descriptorIndex := 339, attributes := #[] }, { accessFlags := 25, nameIndex := 358, descriptorIndex := 339, attributes := #[] }, { accessFlags := 25, nameIndex := 361, descriptorIndex := 339, attributes := #[] }, { accessFlags := 26, nameIndex := 364, descriptorIndex := 339, attributes := #[] }, { accessFlags := 26, nameIndex := 365, descriptorIndex := 339, attributes := #[] }, { accessFlags := 26, nameIndex := 172, descriptorIndex := 173, attributes := #[] }, { accessFlags := 26, nameIndex := 176, descriptorIndex := 173, attributes := #[] }, { accessFlags := 8, nameIndex := 344, descriptorIndex := 339, attributes := #[] }, { accessFlags := 8, nameIndex := 338, descriptorIndex := 339, attributes := #[] }, { accessFlags := 4120, nameIndex := 245, descriptorIndex := 246, attributes := #[] }])
  fields := #[{ name := "E", type := .double, accessFlags := 25, slot := 0, constantValue := 0 }, { name := "PI", type := .double, accessFlags := 25, slot := 1, constantValue := 0 }, { name := "TAU", type := .double, accessFlags := 25, slot := 2, constantValue := 0 }, { name := "DEGREES_TO_RADIANS", type := .double, accessFlags := 26, slot := 3, constantValue := 0 }, { name := "RADIANS_TO_DEGREES", type := .double, accessFlags := 26, slot := 4, constantValue := 0 }, { name := "negativeZeroFloatBits", type := .long, accessFlags := 26, slot := 5, constantValue := 0 }, { name := "negativeZeroDoubleBits", type := .long, accessFlags := 26, slot := 6, constantValue := 0 }, { name := "twoToTheDoubleScaleUp", type := .double, accessFlags := 8, slot := 7, constantValue := 0 }, { name := "twoToTheDoubleScaleDown", type := .double, accessFlags := 8, slot := 8, constantValue := 0 }, { name := "$assertionsDisabled", type := .boolean, accessFlags := 4120, slot := 9, constantValue := 0 }]
  methods := #[k11m0, k11m1, k11m2]
  instanceTypes := #[]
  staticTypes := #[.double, .double, .double, .double, .double, .long, .long, .double, .double, .boolean]
  resolved := Array.replicate 460 none
  statics := none }

def pool12 : Array CpInfo := pool [(2, .class_ 4), (1, u "java/lang/Object"), (0, u "<init>"), (0, u "()V"), (17, .class_ 26), (1, u "jdk/internal/util/Preconditions"), (20, u "checkFromToIndex"), (7, .class_ 56), (0, u "jdk/internal/util/Preconditions$4"), (57, .class_ 115), (0, u "jdk/internal/util/Preconditions$1"), (7, u "SIOOBE_FORMATTER"), (0, u "Ljava/util/function/BiFunction;"), (0, .class_ 126), (0, u "jdk/internal/util/Preconditions$2"), (3, u "AIOOBE_FORMATTER"), (0, .class_ 132), (0, u "jdk/internal/util/Preconditions$3"), (3, u "IOOBE_FORMATTER"), (46, u "(IIILjava/util/function/BiFunction;)I")] 10

def k12m0 : Method := { name := "<init>", desc := "()V", sig := { parameters := [], returnType := none }, accessFlags := 1, code := none }
def k12c1 : Code := { maxStack := 4, maxLocals := 4, code := jdk_41_method_12_code, exceptionTable := #[], attributes := #[] }
def k12m1 : Method := { name := "checkFromToIndex", desc := "(IIILjava/util/function/BiFunction;)I", sig := { parameters := [.int, .int, .int, (.object "java/util/function/BiFunction")], returnType := some .int }, accessFlags := 9, code := some k12c1 }
/-- jdk/internal/util/Preconditions -/
def k12 : Class := { plain "jdk/internal/util/Preconditions" (some 0) with
  accessFlags := 33
  interfaces := #[]
  cf := some (fileOf pool12 24 #[.nestMembers #[55, 131, 125, 114]] #[{ accessFlags := 1, nameIndex := 5, descriptorIndex := 6, attributes := #[] }, { accessFlags := 9, nameIndex := 47, descriptorIndex := 183, attributes := #[] }] 33 2 #[] #[{ accessFlags := 25, nameIndex := 123, descriptorIndex := 124, attributes := #[] }, { accessFlags := 25, nameIndex := 130, descriptorIndex := 124, attributes := #[] }, { accessFlags := 25, nameIndex := 136, descriptorIndex := 124, attributes := #[] }])
  fields := #[{ name := "SIOOBE_FORMATTER", type := (.object "java/util/function/BiFunction"), accessFlags := 25, slot := 0, constantValue := 0 }, { name := "AIOOBE_FORMATTER", type := (.object "java/util/function/BiFunction"), accessFlags := 25, slot := 1, constantValue := 0 }, { name := "IOOBE_FORMATTER", type := (.object "java/util/function/BiFunction"), accessFlags := 25, slot := 2, constantValue := 0 }]
  methods := #[k12m0, k12m1]
  instanceTypes := #[]
  staticTypes := #[(.object "java/util/function/BiFunction"), (.object "java/util/function/BiFunction"), (.object "java/util/function/BiFunction")]
  resolved := Array.replicate 194 none
  statics := some 2 }

def pool13 : Array CpInfo := pool [(9, u "<init>"), (6, .class_ 18), (1, u "java/lang/Object"), (0, u "()V"), (1, .class_ 23), (1, u "jdk/internal/util/ArraysSupport"), (0, u "LOG2_ARRAY_LONG_INDEX_SCALE"), (0, u "I"), (2, u "U"), (0, u "Ljdk/internal/misc/Unsafe;"), (8, u "BIG_ENDIAN"), (0, u "Z"), (8, u "LOG2_BYTE_BIT_SIZE"), (4, u "LOG2_ARRAY_INT_INDEX_SCALE"), (54, u "JLA"), (0, u "Ljdk/internal/access/JavaLangAccess;"), (11, u "LOG2_ARRAY_BOOLEAN_INDEX_SCALE"), (9, u "LOG2_ARRAY_BYTE_INDEX_SCALE"), (5, u "LOG2_ARRAY_CHAR_INDEX_SCALE"), (5, u "LOG2_ARRAY_SHORT_INDEX_SCALE"), (18, u "LOG2_ARRAY_FLOAT_INDEX_SCALE"), (24, u "LOG2_ARRAY_DOUBLE_INDEX_SCALE"), (89, u "T_BOOLEAN"), (2, u "T_CHAR"), (1, u "T_FLOAT"), (1, u "T_DOUBLE"), (1, u "T_BYTE"), (1, u "T_SHORT"), (1, u "T_INT"), (1, u "T_LONG"), (1, u "SOFT_MAX_ARRAY_LENGTH")] 83

def k13m0 : Method := { name := "<init>", desc := "()V", sig := { parameters := [], returnType := none }, accessFlags := 2, code := none }
/-- jdk/internal/util/ArraysSupport -/
def k13 : Class := { plain "jdk/internal/util/ArraysSupport" (some 0) with
  accessFlags := 33
  interfaces := #[]
  cf := some (fileOf pool13 21 #[] #[{ accessFlags := 2, nameIndex := 9, descriptorIndex := 19, attributes := #[] }] 33 16 #[] #[{ accessFlags := 24, nameIndex := 28, descriptorIndex := 29, attributes := #[] }, { accessFlags := 26, nameIndex := 38, descriptorIndex := 39, attributes := #[] }, { accessFlags := 25, nameIndex := 121, descriptorIndex := 25, attributes := #[] }, { accessFlags := 25, nameIndex := 131, descriptorIndex := 25, attributes := #[] }, { accessFlags := 25, nameIndex := 137, descriptorIndex := 25, attributes := #[] }, { accessFlags := 25, nameIndex := 143, descriptorIndex := 25, attributes := #[] }, { accessFlags := 25, nameIndex := 53, descriptorIndex := 25, attributes := #[] }, { accessFlags := 25, nameIndex := 24, descriptorIndex := 25, attributes := #[] }, { accessFlags := 25, nameIndex := 162, descriptorIndex := 25, attributes := #[] }, { accessFlags := 25, nameIndex := 187, descriptorIndex := 25, attributes := #[] }, { accessFlags := 26, nameIndex := 48, descriptorIndex := 25, attributes := #[] }, { accessFlags := 25, nameIndex := 277, descriptorIndex := 25, attributes := #[] }, { accessFlags := 25, nameIndex := 280, descriptorIndex := 25, attributes := #[] }, { accessFlags := 25, nameIndex := 282, descriptorIndex := 25, attributes := #[] }, { accessFlags := 25, nameIndex := 284, descriptorIndex := 25, attributes := #[] }, { accessFlags := 25, nameIndex := 286, descriptorIndex := 25, attributes := #[] }, { accessFlags := 25, nameIndex := 288, descriptorIndex := 25, attributes := #[] }, { accessFlags := 25, nameIndex := 290, descriptorIndex := 25, attributes := #[] }, { accessFlags := 25, nameIndex := 292, descriptorIndex := 25, attributes := #[] }, { accessFlags := 26, nameIndex := 108, descriptorIndex := 109, attributes := #[] }, { accessFlags := 25, nameIndex := 294, descriptorIndex := 25, attributes := #[] }])
  fields := #[{ name := "U", type := (.object "jdk/internal/misc/Unsafe"), accessFlags := 24, slot := 0, constantValue := 0 }, { name := "BIG_ENDIAN", type := .boolean, accessFlags := 26, slot := 1, constantValue := 0 }, { name := "LOG2_ARRAY_BOOLEAN_INDEX_SCALE", type := .int, accessFlags := 25, slot := 2, constantValue := 0 }, { name := "LOG2_ARRAY_BYTE_INDEX_SCALE", type := .int, accessFlags := 25, slot := 3, constantValue := 0 }, { name := "LOG2_ARRAY_CHAR_INDEX_SCALE", type := .int, accessFlags := 25, slot := 4, constantValue := 0 }, { name := "LOG2_ARRAY_SHORT_INDEX_SCALE", type := .int, accessFlags := 25, slot := 5, constantValue := 0 }, { name := "LOG2_ARRAY_INT_INDEX_SCALE", type := .int, accessFlags := 25, slot := 6, constantValue := 0 }, { name := "LOG2_ARRAY_LONG_INDEX_SCALE", type := .int, accessFlags := 25, slot := 7, constantValue := 0 }, { name := "LOG2_ARRAY_FLOAT_INDEX_SCALE", type := .int, accessFlags := 25, slot := 8, constantValue := 0 }, { name := "LOG2_ARRAY_DOUBLE_INDEX_SCALE", type := .int, accessFlags := 25, slot := 9, constantValue := 0 }, { name := "LOG2_BYTE_BIT_SIZE", type := .int, accessFlags := 26, slot := 10, constantValue := 0 }, { name := "T_BOOLEAN", type := .int, accessFlags := 25, slot := 11, constantValue := 0 }, { name := "T_CHAR", type := .int, accessFlags := 25, slot := 12, constantValue := 0 }, { name := "T_FLOAT", type := .int, accessFlags := 25, slot := 13, constantValue := 0 }, { name := "T_DOUBLE", type := .int, accessFlags := 25, slot := 14, constantValue := 0 }, { name := "T_BYTE", type := .int, accessFlags := 25, slot := 15, constantValue := 0 }, { name := "T_SHORT", type := .int, accessFlags := 25, slot := 16, constantValue := 0 }, { name := "T_INT", type := .int, accessFlags := 25, slot := 17, constantValue := 0 }, { name := "T_LONG", type := .int, accessFlags := 25, slot := 18, constantValue := 0 }, { name := "JLA", type := (.object "jdk/internal/access/JavaLangAccess"), accessFlags := 26, slot := 19, constantValue := 0 }, { name := "SOFT_MAX_ARRAY_LENGTH", type := .int, accessFlags := 25, slot := 20, constantValue := 0 }]
  methods := #[k13m0]
  instanceTypes := #[]
  staticTypes := #[(.object "jdk/internal/misc/Unsafe"), .boolean, .int, .int, .int, .int, .int, .int, .int, .int, .int, .int, .int, .int, .int, .int, .int, .int, .int, (.object "jdk/internal/access/JavaLangAccess"), .int]
  resolved := Array.replicate 378 none
  statics := none }

def pool14 : Array CpInfo := pool [(1, u "java/lang/Cloneable"), (0, .class_ 1), (0, u "java/lang/Object"), (0, .class_ 3)] 3

/-- java/lang/Cloneable -/
def k14 : Class := { plain "java/lang/Cloneable" (some 0) with
  accessFlags := 1537
  interfaces := #[]
  cf := some (fileOf pool14 2 #[] #[] 1537 4 #[] #[])
  fields := #[]
  methods := #[]
  instanceTypes := #[]
  staticTypes := #[]
  resolved := Array.replicate 8 none
  statics := none }

/-- the primitive byte -/
def k15 : Class := { plain "byte" none with kind := .primitive 'B', accessFlags := 0x411 }
/-- [B -/
def k16 : Class := { plain "[B" (some 0) with kind := .array 15 .byte, interfaces := #[14, 2], accessFlags := 1041 }

/-- the primitive char -/
def k17 : Class := { plain "char" none with kind := .primitive 'C', accessFlags := 0x411 }
/-- [C -/
def k18 : Class := { plain "[C" (some 0) with kind := .array 17 .char, interfaces := #[14, 2], accessFlags := 1041 }

/-- the primitive int -/
def k19 : Class := { plain "int" none with kind := .primitive 'I', accessFlags := 0x411 }
/-- [I -/
def k20 : Class := { plain "[I" (some 0) with kind := .array 19 .int, interfaces := #[14, 2], accessFlags := 1041 }

def heap : Heap := #[{ cls := 7, slots := #[.long 0, .int 1, .null, .int 0, .null, .int 0, .int 0], vm := .statics 7 },
  { cls := 9, slots := #[.int 0, .int 8, .int 0, .int 1], vm := .statics 9 },
  { cls := 12, slots := #[.null, .null, .null], vm := .statics 12 }]
def classes : Array Class := #[k0, k1, k2, k3, k4, k5, k6, k7, k8, k9, k10, k11, k12, k13, k14, k15, k16, k17, k18, k19, k20]
def interned : List (Array UInt16 × Addr) := []
def slotsUsed : Nat := 14
def theMethod : MethodId := ⟨1, 2⟩
def args0 : Array Value := #[.int 5, .int 1, .int 2, .int 3, .int 4]
def aboutOver (below : List Frame) : State where
  vm := { classes := classes, interned := interned.toArray }
  heap := heap
  slotsUsed := slotsUsed
  threads := #[{ frames := .invoking theMethod args0 :: below }]
def below0 : List Frame := [.native { method := ⟨0, 0⟩, args := #[] }]
def about1 : State := aboutOver below0
def p0 : Program := .bare "" "" ""
def e0 : Env := launch0.env 0 0 0
theorem w_frames : about1.frames = Frame.invoking theMethod args0 :: below0 := rfl
set_option maxRecDepth 65536 in
theorem w_args : argsFit about1.vm theMethod args0 = true := by decide +kernel
set_option maxRecDepth 65536 in
theorem w_heap : heapFits about1 = true := by decide +kernel
set_option maxRecDepth 65536 in
theorem w_runnable : about1.curStatus? = some .runnable := by decide +kernel
set_option maxRecDepth 65536 in
theorem w_alone : about1.alone = true := by decide +kernel
set_option maxRecDepth 65536 in
theorem w_named : about1.methodNamed? x = some theMethod := by decide +kernel
set_option maxRecDepth 65536 in
theorem w_hears : about1.hears theMethod below0 = true := by decide +kernel
set_option maxRecDepth 65536 in
theorem w_ripe : about1.ripe theMethod args0 below0 = true := by decide +kernel
theorem w_running : about1.status = .running := rfl
set_option maxRecDepth 65536 in
theorem w_room : about1.hasRoom e0.platform room_1 = true :=
  launch0.hasRoom_least _ room_1 (by decide +kernel) (by decide +kernel) (by decide +kernel) (by decide +kernel) (by decide +kernel) (by decide +kernel)
theorem allAtoms_all (ts : List Jvm.Cond) (a : Array Jvm.Value) (st : Jvm.State) : (allAtoms ts).before a st = ts.all (fun c => c.before a st) := by
  induction ts with
  | nil => rfl
  | cons c t ih =>
    show (Jvm.Cond.and c (allAtoms t)).before a st = _
    rw [Jvm.Cond.before_and, ih, List.all_cons]
def words1 : List Jvm.Cond := Jvm.Cond.code x code maxLocals ret :: tables_1
/-- a 'code' word, met by the world's own term for the bytes: nothing is compared byte by byte -/
theorem code_word {y : MethodName} {bytes : ByteArray} {mx : Nat} {rt : Option FieldType} {a : Array Value} {s : State} {m : MethodId} {meth : Method} {c : Code} (h1 : s.methodNamed? y = some m) (h2 : s.vm.method? m = some meth) (h3 : meth.code = some c) (h4 : c.code = bytes)
    (h5 : (c.maxLocals == mx && c.exceptionTable.isEmpty && decide (c.maxStack ≤ mostOperands) && decide (meth.sig.returnType = rt) && !meth.locks && decide (parseMethodDescriptor y.desc = some meth.sig)) = true) : (Jvm.Cond.code y bytes mx rt).before a s = true := by
  simp only [Bool.and_eq_true, beq_iff_eq, Bool.not_eq_true', decide_eq_true_eq] at h5
  obtain ⟨⟨⟨⟨⟨g1, g2⟩, g3⟩, g4⟩, g5⟩, g6⟩ := h5
  simp [Cond.before, Cond.holds, Cond.value, h1, h2, h3, h4, g1, g2, g3, g4, g5, g6]
def isCode : Jvm.Cond → Bool
  | .code _ _ _ _ => true
  | _ => false
theorem all_split {L : List Jvm.Cond} {P : Jvm.Cond → Bool} (h1 : L.all (fun c => isCode c || P c) = true) (h2 : ∀ c ∈ L.filter isCode, P c = true) : L.all P = true := by
  refine List.all_eq_true.mpr fun c hc => ?_
  have h := List.all_eq_true.mp h1 c hc
  rcases Bool.eq_false_or_eq_true (isCode c) with hi | hi
  · exact h2 c (List.mem_filter.mpr ⟨hc, hi⟩)
  · simpa [hi] using h
set_option maxRecDepth 65536 in
theorem w_c0 : (Jvm.Cond.code x code maxLocals ret).before args0 about1 = true := code_word (m := ⟨1, 2⟩) (meth := k1m2) (c := k1c2) (by decide +kernel) rfl rfl rfl (by decide +kernel)
set_option maxRecDepth 65536 in
theorem w_c1 : (Jvm.Cond.code ({ cls := "com/example/regraft/regraft/core/NodeIsValidNamePinLaw", name := "draw", desc := "(I)C" } : Jvm.MethodName) method_2_code (2 : Nat) (Option.some Jvm.ClassFile.FieldType.char)).before args0 about1 = true := code_word (m := ⟨1, 1⟩) (meth := k1m1) (c := k1c1) (by decide +kernel) rfl rfl rfl (by decide +kernel)
set_option maxRecDepth 65536 in
theorem w_c2 : (Jvm.Cond.code ({ cls := "java/lang/String", name := "<init>", desc := "([C)V" } : Jvm.MethodName) jdk_42_method_3_code (2 : Nat) (Option.none : Option Jvm.ClassFile.FieldType)).before args0 about1 = true := code_word (m := ⟨7, 1⟩) (meth := k7m1) (c := k7c1) (by decide +kernel) rfl rfl rfl (by decide +kernel)
set_option maxRecDepth 65536 in
theorem w_c3 : (Jvm.Cond.code ({ cls := "java/lang/String", name := "<init>", desc := "([CIILjava/lang/Void;)V" } : Jvm.MethodName) jdk_42_method_149_code (6 : Nat) (Option.none : Option Jvm.ClassFile.FieldType)).before args0 about1 = true := code_word (m := ⟨7, 7⟩) (meth := k7m7) (c := k7c7) (by decide +kernel) rfl rfl rfl (by decide +kernel)
set_option maxRecDepth 65536 in
theorem w_c4 : (Jvm.Cond.code ({ cls := "java/lang/Object", name := "<init>", desc := "()V" } : Jvm.MethodName) object_method_1_code (1 : Nat) (Option.none : Option Jvm.ClassFile.FieldType)).before args0 about1 = true := code_word (m := ⟨0, 0⟩) (meth := k0m0) (c := k0c0) (by decide +kernel) rfl rfl rfl (by decide +kernel)
set_option maxRecDepth 65536 in
theorem w_c5 : (Jvm.Cond.code ({ cls := "com/example/regraft/regraft/core/Node", name := "isValidName", desc := "(Ljava/lang/String;)Z" } : Jvm.MethodName) prog_21_method_2_code (1 : Nat) (Option.some Jvm.ClassFile.FieldType.boolean)).before args0 about1 = true := code_word (m := ⟨8, 1⟩) (meth := k8m1) (c := k8c1) (by decide +kernel) rfl rfl rfl (by decide +kernel)
set_option maxRecDepth 65536 in
theorem w_c6 : (Jvm.Cond.code ({ cls := "java/lang/String", name := "isEmpty", desc := "()Z" } : Jvm.MethodName) jdk_42_method_55_code (1 : Nat) (Option.some Jvm.ClassFile.FieldType.boolean)).before args0 about1 = true := code_word (m := ⟨7, 3⟩) (meth := k7m3) (c := k7c3) (by decide +kernel) rfl rfl rfl (by decide +kernel)
set_option maxRecDepth 65536 in
theorem w_c7 : (Jvm.Cond.code ({ cls := "java/lang/StringUTF16", name := "compress", desc := "([CII)[B" } : Jvm.MethodName) jdk_52_method_16_code (6 : Nat) (Option.some (Jvm.ClassFile.FieldType.array Jvm.ClassFile.FieldType.byte))).before args0 about1 = true := code_word (m := ⟨9, 8⟩) (meth := k9m8) (c := k9c8) (by decide +kernel) rfl rfl rfl (by decide +kernel)
set_option maxRecDepth 65536 in
theorem w_c8 : (Jvm.Cond.code ({ cls := "java/lang/StringUTF16", name := "compress", desc := "([CI[BII)I" } : Jvm.MethodName) jdk_52_method_21_code (7 : Nat) (Option.some Jvm.ClassFile.FieldType.int)).before args0 about1 = true := code_word (m := ⟨9, 9⟩) (meth := k9m9) (c := k9c9) (by decide +kernel) rfl rfl rfl (by decide +kernel)
set_option maxRecDepth 65536 in
theorem w_c9 : (Jvm.Cond.code ({ cls := "java/lang/StringUTF16", name := "coderFromArrayLen", desc := "([BI)B" } : Jvm.MethodName) jdk_52_method_15_code (2 : Nat) (Option.some Jvm.ClassFile.FieldType.byte)).before args0 about1 = true := code_word (m := ⟨9, 7⟩) (meth := k9m7) (c := k9c7) (by decide +kernel) rfl rfl rfl (by decide +kernel)
set_option maxRecDepth 65536 in
theorem w_c10 : (Jvm.Cond.code ({ cls := "java/lang/String", name := "indexOf", desc := "(I)I" } : Jvm.MethodName) jdk_42_method_79_code (2 : Nat) (Option.some Jvm.ClassFile.FieldType.int)).before args0 about1 = true := code_word (m := ⟨7, 5⟩) (meth := k7m5) (c := k7c5) (by decide +kernel) rfl rfl rfl (by decide +kernel)
set_option maxRecDepth 65536 in
theorem w_c11 : (Jvm.Cond.code ({ cls := "java/lang/String", name := "indexOf", desc := "(II)I" } : Jvm.MethodName) jdk_42_method_80_code (3 : Nat) (Option.some Jvm.ClassFile.FieldType.int)).before args0 about1 = true := code_word (m := ⟨7, 6⟩) (meth := k7m6) (c := k7c6) (by decide +kernel) rfl rfl rfl (by decide +kernel)
set_option maxRecDepth 65536 in
theorem w_c12 : (Jvm.Cond.code ({ cls := "java/lang/String", name := "isLatin1", desc := "()Z" } : Jvm.MethodName) jdk_42_method_154_code (1 : Nat) (Option.some Jvm.ClassFile.FieldType.boolean)).before args0 about1 = true := code_word (m := ⟨7, 9⟩) (meth := k7m9) (c := k7c9) (by decide +kernel) rfl rfl rfl (by decide +kernel)
set_option maxRecDepth 65536 in
theorem w_c13 : (Jvm.Cond.code ({ cls := "java/lang/String", name := "length", desc := "()I" } : Jvm.MethodName) jdk_42_method_54_code (1 : Nat) (Option.some Jvm.ClassFile.FieldType.int)).before args0 about1 = true := code_word (m := ⟨7, 2⟩) (meth := k7m2) (c := k7c2) (by decide +kernel) rfl rfl rfl (by decide +kernel)
set_option maxRecDepth 65536 in
theorem w_c14 : (Jvm.Cond.code ({ cls := "java/lang/String", name := "coder", desc := "()B" } : Jvm.MethodName) jdk_42_method_152_code (1 : Nat) (Option.some Jvm.ClassFile.FieldType.byte)).before args0 about1 = true := code_word (m := ⟨7, 8⟩) (meth := k7m8) (c := k7c8) (by decide +kernel) rfl rfl rfl (by decide +kernel)
set_option maxRecDepth 65536 in
theorem w_c15 : (Jvm.Cond.code ({ cls := "java/lang/StringLatin1", name := "indexOf", desc := "([BIII)I" } : Jvm.MethodName) jdk_43_method_22_code (4 : Nat) (Option.some Jvm.ClassFile.FieldType.int)).before args0 about1 = true := code_word (m := ⟨10, 3⟩) (meth := k10m3) (c := k10c3) (by decide +kernel) rfl rfl rfl (by decide +kernel)
set_option maxRecDepth 65536 in
theorem w_c16 : (Jvm.Cond.code ({ cls := "java/lang/StringLatin1", name := "canEncode", desc := "(I)Z" } : Jvm.MethodName) jdk_43_method_4_code (1 : Nat) (Option.some Jvm.ClassFile.FieldType.boolean)).before args0 about1 = true := code_word (m := ⟨10, 1⟩) (meth := k10m1) (c := k10c1) (by decide +kernel) rfl rfl rfl (by decide +kernel)
set_option maxRecDepth 65536 in
theorem w_c17 : (Jvm.Cond.code ({ cls := "java/lang/Math", name := "max", desc := "(II)I" } : Jvm.MethodName) jdk_29_method_65_code (2 : Nat) (Option.some Jvm.ClassFile.FieldType.int)).before args0 about1 = true := code_word (m := ⟨11, 1⟩) (meth := k11m1) (c := k11c1) (by decide +kernel) rfl rfl rfl (by decide +kernel)
set_option maxRecDepth 65536 in
theorem w_c18 : (Jvm.Cond.code ({ cls := "java/lang/Math", name := "min", desc := "(II)I" } : Jvm.MethodName) jdk_29_method_69_code (2 : Nat) (Option.some Jvm.ClassFile.FieldType.int)).before args0 about1 = true := code_word (m := ⟨11, 2⟩) (meth := k11m2) (c := k11c2) (by decide +kernel) rfl rfl rfl (by decide +kernel)
set_option maxRecDepth 65536 in
theorem w_c19 : (Jvm.Cond.code ({ cls := "java/lang/StringLatin1", name := "indexOfChar", desc := "([BIII)I" } : Jvm.MethodName) jdk_43_method_23_code (6 : Nat) (Option.some Jvm.ClassFile.FieldType.int)).before args0 about1 = true := code_word (m := ⟨10, 4⟩) (meth := k10m4) (c := k10c4) (by decide +kernel) rfl rfl rfl (by decide +kernel)
set_option maxRecDepth 65536 in
theorem w_c20 : (Jvm.Cond.code ({ cls := "java/lang/StringUTF16", name := "toBytes", desc := "([CII)[B" } : Jvm.MethodName) jdk_52_method_14_code (5 : Nat) (Option.some (Jvm.ClassFile.FieldType.array Jvm.ClassFile.FieldType.byte))).before args0 about1 = true := code_word (m := ⟨9, 6⟩) (meth := k9m6) (c := k9c6) (by decide +kernel) rfl rfl rfl (by decide +kernel)
set_option maxRecDepth 65536 in
theorem w_c21 : (Jvm.Cond.code ({ cls := "java/lang/StringUTF16", name := "newBytesFor", desc := "(I)[B" } : Jvm.MethodName) jdk_52_method_2_code (1 : Nat) (Option.some (Jvm.ClassFile.FieldType.array Jvm.ClassFile.FieldType.byte))).before args0 about1 = true := code_word (m := ⟨9, 1⟩) (meth := k9m1) (c := k9c1) (by decide +kernel) rfl rfl rfl (by decide +kernel)
set_option maxRecDepth 65536 in
theorem w_c22 : (Jvm.Cond.code ({ cls := "java/lang/StringUTF16", name := "newBytesLength", desc := "(I)I" } : Jvm.MethodName) jdk_52_method_3_code (1 : Nat) (Option.some Jvm.ClassFile.FieldType.int)).before args0 about1 = true := code_word (m := ⟨9, 2⟩) (meth := k9m2) (c := k9c2) (by decide +kernel) rfl rfl rfl (by decide +kernel)
set_option maxRecDepth 65536 in
theorem w_c23 : (Jvm.Cond.code ({ cls := "java/lang/StringUTF16", name := "putChar", desc := "([BII)V" } : Jvm.MethodName) jdk_52_method_4_code (3 : Nat) (Option.none : Option Jvm.ClassFile.FieldType)).before args0 about1 = true := code_word (m := ⟨9, 3⟩) (meth := k9m3) (c := k9c3) (by decide +kernel) rfl rfl rfl (by decide +kernel)
set_option maxRecDepth 65536 in
theorem w_c24 : (Jvm.Cond.code ({ cls := "java/lang/StringUTF16", name := "getChar", desc := "([BI)C" } : Jvm.MethodName) jdk_52_method_5_code (2 : Nat) (Option.some Jvm.ClassFile.FieldType.char)).before args0 about1 = true := code_word (m := ⟨9, 4⟩) (meth := k9m4) (c := k9c4) (by decide +kernel) rfl rfl rfl (by decide +kernel)
set_option maxRecDepth 65536 in
theorem w_c25 : (Jvm.Cond.code ({ cls := "java/lang/StringUTF16", name := "indexOf", desc := "([BIII)I" } : Jvm.MethodName) jdk_52_method_40_code (4 : Nat) (Option.some Jvm.ClassFile.FieldType.int)).before args0 about1 = true := code_word (m := ⟨9, 10⟩) (meth := k9m10) (c := k9c10) (by decide +kernel) rfl rfl rfl (by decide +kernel)
set_option maxRecDepth 65536 in
theorem w_c26 : (Jvm.Cond.code ({ cls := "java/lang/StringUTF16", name := "indexOfChar", desc := "([BIII)I" } : Jvm.MethodName) jdk_52_method_47_code (4 : Nat) (Option.some Jvm.ClassFile.FieldType.int)).before args0 about1 = true := code_word (m := ⟨9, 11⟩) (meth := k9m11) (c := k9c11) (by decide +kernel) rfl rfl rfl (by decide +kernel)
set_option maxRecDepth 65536 in
theorem w_c27 : (Jvm.Cond.code ({ cls := "java/lang/StringUTF16", name := "checkBoundsBeginEnd", desc := "(II[B)V" } : Jvm.MethodName) jdk_52_method_93_code (3 : Nat) (Option.none : Option Jvm.ClassFile.FieldType)).before args0 about1 = true := code_word (m := ⟨9, 13⟩) (meth := k9m13) (c := k9c13) (by decide +kernel) rfl rfl rfl (by decide +kernel)
set_option maxRecDepth 65536 in
theorem w_c28 : (Jvm.Cond.code ({ cls := "java/lang/StringUTF16", name := "length", desc := "([B)I" } : Jvm.MethodName) jdk_52_method_6_code (1 : Nat) (Option.some Jvm.ClassFile.FieldType.int)).before args0 about1 = true := code_word (m := ⟨9, 5⟩) (meth := k9m5) (c := k9c5) (by decide +kernel) rfl rfl rfl (by decide +kernel)
set_option maxRecDepth 65536 in
theorem w_c29 : (Jvm.Cond.code ({ cls := "java/lang/String", name := "checkBoundsBeginEnd", desc := "(III)V" } : Jvm.MethodName) jdk_42_method_158_code (3 : Nat) (Option.none : Option Jvm.ClassFile.FieldType)).before args0 about1 = true := code_word (m := ⟨7, 10⟩) (meth := k7m10) (c := k7c10) (by decide +kernel) rfl rfl rfl (by decide +kernel)
set_option maxRecDepth 65536 in
theorem w_c30 : (Jvm.Cond.code ({ cls := "jdk/internal/util/Preconditions", name := "checkFromToIndex", desc := "(IIILjava/util/function/BiFunction;)I" } : Jvm.MethodName) jdk_41_method_12_code (4 : Nat) (Option.some Jvm.ClassFile.FieldType.int)).before args0 about1 = true := code_word (m := ⟨12, 1⟩) (meth := k12m1) (c := k12c1) (by decide +kernel) rfl rfl rfl (by decide +kernel)
set_option maxRecDepth 65536 in
theorem w_c31 : (Jvm.Cond.code ({ cls := "java/lang/StringUTF16", name := "indexOfCharUnsafe", desc := "([BIII)I" } : Jvm.MethodName) jdk_52_method_48_code (5 : Nat) (Option.some Jvm.ClassFile.FieldType.int)).before args0 about1 = true := code_word (m := ⟨9, 12⟩) (meth := k9m12) (c := k9c12) (by decide +kernel) rfl rfl rfl (by decide +kernel)
set_option maxRecDepth 65536 in
theorem w_c32 : (Jvm.Cond.code ({ cls := "java/lang/String", name := "equals", desc := "(Ljava/lang/Object;)Z" } : Jvm.MethodName) jdk_42_method_66_code (3 : Nat) (Option.some Jvm.ClassFile.FieldType.boolean)).before args0 about1 = true := code_word (m := ⟨7, 4⟩) (meth := k7m4) (c := k7c4) (by decide +kernel) rfl rfl rfl (by decide +kernel)
set_option maxRecDepth 65536 in
theorem w_c33 : (Jvm.Cond.code ({ cls := "java/lang/StringLatin1", name := "equals", desc := "([B[B)Z" } : Jvm.MethodName) jdk_43_method_13_code (3 : Nat) (Option.some Jvm.ClassFile.FieldType.boolean)).before args0 about1 = true := code_word (m := ⟨10, 2⟩) (meth := k10m2) (c := k10c2) (by decide +kernel) rfl rfl rfl (by decide +kernel)
def codes1 : List Jvm.Cond := [Jvm.Cond.code x code maxLocals ret, Jvm.Cond.code ({ cls := "com/example/regraft/regraft/core/NodeIsValidNamePinLaw", name := "draw", desc := "(I)C" } : Jvm.MethodName) method_2_code (2 : Nat) (Option.some Jvm.ClassFile.FieldType.char), Jvm.Cond.code ({ cls := "java/lang/String", name := "<init>", desc := "([C)V" } : Jvm.MethodName) jdk_42_method_3_code (2 : Nat) (Option.none : Option Jvm.ClassFile.FieldType), Jvm.Cond.code ({ cls := "java/lang/String", name := "<init>", desc := "([CIILjava/lang/Void;)V" } : Jvm.MethodName) jdk_42_method_149_code (6 : Nat) (Option.none : Option Jvm.ClassFile.FieldType), Jvm.Cond.code ({ cls := "java/lang/Object", name := "<init>", desc := "()V" } : Jvm.MethodName) object_method_1_code (1 : Nat) (Option.none : Option Jvm.ClassFile.FieldType), Jvm.Cond.code ({ cls := "com/example/regraft/regraft/core/Node", name := "isValidName", desc := "(Ljava/lang/String;)Z" } : Jvm.MethodName) prog_21_method_2_code (1 : Nat) (Option.some Jvm.ClassFile.FieldType.boolean), Jvm.Cond.code ({ cls := "java/lang/String", name := "isEmpty", desc := "()Z" } : Jvm.MethodName) jdk_42_method_55_code (1 : Nat) (Option.some Jvm.ClassFile.FieldType.boolean), Jvm.Cond.code ({ cls := "java/lang/StringUTF16", name := "compress", desc := "([CII)[B" } : Jvm.MethodName) jdk_52_method_16_code (6 : Nat) (Option.some (Jvm.ClassFile.FieldType.array Jvm.ClassFile.FieldType.byte)), Jvm.Cond.code ({ cls := "java/lang/StringUTF16", name := "compress", desc := "([CI[BII)I" } : Jvm.MethodName) jdk_52_method_21_code (7 : Nat) (Option.some Jvm.ClassFile.FieldType.int), Jvm.Cond.code ({ cls := "java/lang/StringUTF16", name := "coderFromArrayLen", desc := "([BI)B" } : Jvm.MethodName) jdk_52_method_15_code (2 : Nat) (Option.some Jvm.ClassFile.FieldType.byte), Jvm.Cond.code ({ cls := "java/lang/String", name := "indexOf", desc := "(I)I" } : Jvm.MethodName) jdk_42_method_79_code (2 : Nat) (Option.some Jvm.ClassFile.FieldType.int), Jvm.Cond.code ({ cls := "java/lang/String", name := "indexOf", desc := "(II)I" } : Jvm.MethodName) jdk_42_method_80_code (3 : Nat) (Option.some Jvm.ClassFile.FieldType.int), Jvm.Cond.code ({ cls := "java/lang/String", name := "isLatin1", desc := "()Z" } : Jvm.MethodName) jdk_42_method_154_code (1 : Nat) (Option.some Jvm.ClassFile.FieldType.boolean), Jvm.Cond.code ({ cls := "java/lang/String", name := "length", desc := "()I" } : Jvm.MethodName) jdk_42_method_54_code (1 : Nat) (Option.some Jvm.ClassFile.FieldType.int), Jvm.Cond.code ({ cls := "java/lang/String", name := "coder", desc := "()B" } : Jvm.MethodName) jdk_42_method_152_code (1 : Nat) (Option.some Jvm.ClassFile.FieldType.byte), Jvm.Cond.code ({ cls := "java/lang/StringLatin1", name := "indexOf", desc := "([BIII)I" } : Jvm.MethodName) jdk_43_method_22_code (4 : Nat) (Option.some Jvm.ClassFile.FieldType.int), Jvm.Cond.code ({ cls := "java/lang/StringLatin1", name := "canEncode", desc := "(I)Z" } : Jvm.MethodName) jdk_43_method_4_code (1 : Nat) (Option.some Jvm.ClassFile.FieldType.boolean), Jvm.Cond.code ({ cls := "java/lang/Math", name := "max", desc := "(II)I" } : Jvm.MethodName) jdk_29_method_65_code (2 : Nat) (Option.some Jvm.ClassFile.FieldType.int), Jvm.Cond.code ({ cls := "java/lang/Math", name := "min", desc := "(II)I" } : Jvm.MethodName) jdk_29_method_69_code (2 : Nat) (Option.some Jvm.ClassFile.FieldType.int), Jvm.Cond.code ({ cls := "java/lang/StringLatin1", name := "indexOfChar", desc := "([BIII)I" } : Jvm.MethodName) jdk_43_method_23_code (6 : Nat) (Option.some Jvm.ClassFile.FieldType.int), Jvm.Cond.code ({ cls := "java/lang/StringUTF16", name := "toBytes", desc := "([CII)[B" } : Jvm.MethodName) jdk_52_method_14_code (5 : Nat) (Option.some (Jvm.ClassFile.FieldType.array Jvm.ClassFile.FieldType.byte)), Jvm.Cond.code ({ cls := "java/lang/StringUTF16", name := "newBytesFor", desc := "(I)[B" } : Jvm.MethodName) jdk_52_method_2_code (1 : Nat) (Option.some (Jvm.ClassFile.FieldType.array Jvm.ClassFile.FieldType.byte)), Jvm.Cond.code ({ cls := "java/lang/StringUTF16", name := "newBytesLength", desc := "(I)I" } : Jvm.MethodName) jdk_52_method_3_code (1 : Nat) (Option.some Jvm.ClassFile.FieldType.int), Jvm.Cond.code ({ cls := "java/lang/StringUTF16", name := "putChar", desc := "([BII)V" } : Jvm.MethodName) jdk_52_method_4_code (3 : Nat) (Option.none : Option Jvm.ClassFile.FieldType), Jvm.Cond.code ({ cls := "java/lang/StringUTF16", name := "getChar", desc := "([BI)C" } : Jvm.MethodName) jdk_52_method_5_code (2 : Nat) (Option.some Jvm.ClassFile.FieldType.char), Jvm.Cond.code ({ cls := "java/lang/StringUTF16", name := "indexOf", desc := "([BIII)I" } : Jvm.MethodName) jdk_52_method_40_code (4 : Nat) (Option.some Jvm.ClassFile.FieldType.int), Jvm.Cond.code ({ cls := "java/lang/StringUTF16", name := "indexOfChar", desc := "([BIII)I" } : Jvm.MethodName) jdk_52_method_47_code (4 : Nat) (Option.some Jvm.ClassFile.FieldType.int), Jvm.Cond.code ({ cls := "java/lang/StringUTF16", name := "checkBoundsBeginEnd", desc := "(II[B)V" } : Jvm.MethodName) jdk_52_method_93_code (3 : Nat) (Option.none : Option Jvm.ClassFile.FieldType), Jvm.Cond.code ({ cls := "java/lang/StringUTF16", name := "length", desc := "([B)I" } : Jvm.MethodName) jdk_52_method_6_code (1 : Nat) (Option.some Jvm.ClassFile.FieldType.int), Jvm.Cond.code ({ cls := "java/lang/String", name := "checkBoundsBeginEnd", desc := "(III)V" } : Jvm.MethodName) jdk_42_method_158_code (3 : Nat) (Option.none : Option Jvm.ClassFile.FieldType), Jvm.Cond.code ({ cls := "jdk/internal/util/Preconditions", name := "checkFromToIndex", desc := "(IIILjava/util/function/BiFunction;)I" } : Jvm.MethodName) jdk_41_method_12_code (4 : Nat) (Option.some Jvm.ClassFile.FieldType.int), Jvm.Cond.code ({ cls := "java/lang/StringUTF16", name := "indexOfCharUnsafe", desc := "([BIII)I" } : Jvm.MethodName) jdk_52_method_48_code (5 : Nat) (Option.some Jvm.ClassFile.FieldType.int), Jvm.Cond.code ({ cls := "java/lang/String", name := "equals", desc := "(Ljava/lang/Object;)Z" } : Jvm.MethodName) jdk_42_method_66_code (3 : Nat) (Option.some Jvm.ClassFile.FieldType.boolean), Jvm.Cond.code ({ cls := "java/lang/StringLatin1", name := "equals", desc := "([B[B)Z" } : Jvm.MethodName) jdk_43_method_13_code (3 : Nat) (Option.some Jvm.ClassFile.FieldType.boolean)]
set_option maxRecDepth 65536 in
theorem codes_eq : words1.filter isCode = codes1 := rfl
theorem w_codes : ∀ c ∈ words1.filter isCode, c.before args0 about1 = true := by
  rw [codes_eq]
  intro c hc
  simp only [codes1, List.mem_cons, List.not_mem_nil, or_false] at hc
  rcases hc with rfl | rfl | rfl | rfl | rfl | rfl | rfl | rfl | rfl | rfl | rfl | rfl | rfl | rfl | rfl | rfl | rfl | rfl | rfl | rfl | rfl | rfl | rfl | rfl | rfl | rfl | rfl | rfl | rfl | rfl | rfl | rfl | rfl | rfl
  · exact w_c0
  · exact w_c1
  · exact w_c2
  · exact w_c3
  · exact w_c4
  · exact w_c5
  · exact w_c6
  · exact w_c7
  · exact w_c8
  · exact w_c9
  · exact w_c10
  · exact w_c11
  · exact w_c12
  · exact w_c13
  · exact w_c14
  · exact w_c15
  · exact w_c16
  · exact w_c17
  · exact w_c18
  · exact w_c19
  · exact w_c20
  · exact w_c21
  · exact w_c22
  · exact w_c23
  · exact w_c24
  · exact w_c25
  · exact w_c26
  · exact w_c27
  · exact w_c28
  · exact w_c29
  · exact w_c30
  · exact w_c31
  · exact w_c32
  · exact w_c33
set_option maxRecDepth 65536 in
theorem w_t1 : (words1.take 24).all (fun c => isCode c || c.before args0 about1) = true := by decide +kernel
set_option maxRecDepth 65536 in
theorem w_t2 : ((words1.drop 24).take 24).all (fun c => isCode c || c.before args0 about1) = true := by decide +kernel
set_option maxRecDepth 65536 in
theorem w_t3 : (((words1.drop 24).drop 24).take 24).all (fun c => isCode c || c.before args0 about1) = true := by decide +kernel
set_option maxRecDepth 65536 in
theorem w_t4 : ((((words1.drop 24).drop 24).drop 24).take 24).all (fun c => isCode c || c.before args0 about1) = true := by decide +kernel
set_option maxRecDepth 65536 in
theorem w_t5 : (((((words1.drop 24).drop 24).drop 24).drop 24).take 24).all (fun c => isCode c || c.before args0 about1) = true := by decide +kernel
set_option maxRecDepth 65536 in
theorem w_t6 : ((((((words1.drop 24).drop 24).drop 24).drop 24).drop 24).take 24).all (fun c => isCode c || c.before args0 about1) = true := by decide +kernel
set_option maxRecDepth 65536 in
theorem w_t7 : ((((((words1.drop 24).drop 24).drop 24).drop 24).drop 24).drop 24).all (fun c => isCode c || c.before args0 about1) = true := by decide +kernel
theorem w_tables : (allAtoms (Jvm.Cond.code x code maxLocals ret :: tables_1)).before args0 about1 = true := by
  rw [allAtoms_all]
  show words1.all (fun c => c.before args0 about1) = true
  refine all_split ?_ w_codes
  rw [← List.take_append_drop 24 words1, List.all_append, w_t1, ← List.take_append_drop 24 (words1.drop 24), List.all_append, w_t2, ← List.take_append_drop 24 ((words1.drop 24).drop 24), List.all_append, w_t3, ← List.take_append_drop 24 (((words1.drop 24).drop 24).drop 24), List.all_append, w_t4, ← List.take_append_drop 24 ((((words1.drop 24).drop 24).drop 24).drop 24), List.all_append, w_t5, ← List.take_append_drop 24 (((((words1.drop 24).drop 24).drop 24).drop 24).drop 24), List.all_append, w_t6, w_t7]
  rfl
set_option maxRecDepth 65536 in
theorem w_rest : rest_1_c.before args0 about1 = true := by decide +kernel
set_option maxRecDepth 65536 in
theorem w_case : (Jvm.Cond.and given_1 narrow_1).before args0 about1 = true := by decide +kernel
set_option maxRecDepth 65536 in
theorem w_consts : constsHeld consts_1 about1 := Jvm.Lit.constsHeldB_iff.mp (by decide +kernel)
theorem w_applies : (headSpec (Jvm.Cond.code x code maxLocals ret :: tables_1) room_1).applies x e0.platform about1 = true :=
  (Spec.applies_iff w_frames).mpr ⟨w_running, w_runnable, w_alone, w_named, w_hears, w_ripe, w_room, w_tables⟩
theorem atStart : AtStart classFile x code maxLocals ret World_1 tables_1 room_1 Calls_1 rest_1 Pre_1 launch0 p0 e0 about1 theMethod args0 below0 :=
  ⟨lists_1, trivial, launch0.admits_env _ _ _, launch0.least_env, fairChoices_fair.cas, fairChoices_fair.clock, w_frames, w_args, w_heap, w_applies, ⟨w_consts, trivial⟩, w_rest, w_case⟩
end start1
theorem witness_1 : WitnessClaimed_1 := ⟨start1.p0, start1.e0, start1.about1, start1.theMethod, start1.args0, start1.below0, start1.atStart⟩
end Jvm.Pilot.@@N@@
