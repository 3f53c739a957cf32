import JvmDerived
import JvmDerived.Pilot.@@N@@Statement
import JvmDerived.Pilot.@@N@@Code
set_option linter.unusedVariables false
set_option linter.unusedSimpArgs false
@@BLOCK:NumsL.lean.txt@@
namespace Jvm.RoadKit
open Sem ClassFile Op Lib Jvm.Stand Jvm.Free Jvm.LawKit
section New
variable {p : Program} {l : Launch} {e : Env} {R : Room} {s : State} {m : MethodId} {args : Array Value} {below : List Frame} {meth : Method} {c : Code} {T T' : State} {locs : List Loc} {cells slots : Nat}
theorem retI (X : Stand p l e R s m args below meth c T locs cells slots) (hx : p.tables.exec = Jvm.exec) {pc : Nat} {Ls : Array Slot} {z : Int32} {rest : List Value} (hret : meth.sig.returnType = some .int) (hd : decode c.code pc = .ok (.ireturn, 1)) {fs : List Frame}
    (hl : ∀ (f : JFrame) (acts : List Action), f.method = m → f.locked = none → f.entered = [] → (doReturn e (T.setTop f) acts (some (.int z))).1 = T.setFrames fs) : Steps p.tables e below (T.setTop (mkF m pc Ls (.int z :: rest))) (T.setFrames fs) :=
  retOut X hx hret rfl (Or.inl ⟨rfl, Or.inl rfl, _, rfl⟩) hd hl
theorem retL (X : Stand p l e R s m args below meth c T locs cells slots) (hx : p.tables.exec = Jvm.exec) {pc : Nat} {Ls : Array Slot} {z : Int64} {rest : List Value} (hret : meth.sig.returnType = some .long) (hd : decode c.code pc = .ok (.lreturn, 1)) {fs : List Frame}
    (hl : ∀ (f : JFrame) (acts : List Action), f.method = m → f.locked = none → f.entered = [] → (doReturn e (T.setTop f) acts (some (.long z))).1 = T.setFrames fs) : Steps p.tables e below (T.setTop (mkF m pc Ls (.long z :: rest))) (T.setFrames fs) :=
  retOut X hx hret rfl (Or.inr (Or.inl ⟨rfl, rfl, _, rfl⟩)) hd hl
theorem retA (X : Stand p l e R s m args below meth c T locs cells slots) (hx : p.tables.exec = Jvm.exec) {pc : Nat} {Ls : Array Slot} {w : Value} {t : FieldType} {rest : List Value} (hret : meth.sig.returnType = some t) (ht : t.isReference = true) (hw : w.isRef = true) (hd : decode c.code pc = .ok (.areturn, 1)) {fs : List Frame}
    (hl : ∀ (f : JFrame) (acts : List Action), f.method = m → f.locked = none → f.entered = [] → (doReturn e (T.setTop f) acts (some w)).1 = T.setFrames fs) : Steps p.tables e below (T.setTop (mkF m pc Ls (w :: rest))) (T.setFrames fs) :=
  retOut X hx hret (by rcases ref_cases hw with rfl | ⟨a, rfl⟩ <;> cases t <;> first | rfl | cases ht) (Or.inr (Or.inr (Or.inr (Or.inr ⟨rfl, ht, hw⟩)))) hd hl
theorem mvMN {Z : State} {a0 args : Array Value} {own host : String} {y : MethodName} {index : Nat} (hZ : Z.Warmed39 s.vm) (w : (Cond.methodLinkNest own index y host).before a0 Z = true) : (Cond.methodLinkNest own index y host).before args s = true := (Cond.methodLinkNest_wide hZ w :)
/-! the walk by continuations -/
variable {W : State → Prop} {g g' : JFrame}
def Goes (p : Program) (e : Env) (below : List Frame) (W : State → Prop) (T : State) (g : JFrame) : Prop := ∃ t, Steps p.tables e below (T.setTop g) t ∧ W t
def EndW (s : State) (below : List Frame) (Q : Option Value → Heap → List Loc → Prop) (k n : Nat) (t : State) : Prop := t.status = .running ∧ ∃ o, Ended t below o ∧ ∃ v L, o = .returned v ∧ Q v t.heap L ∧ FrameEnd s o t L k n
theorem Goes.on (k : Goes p e below W T' g') (h : ∀ t, Steps p.tables e below (T'.setTop g') t → Steps p.tables e below (T.setTop g) t) : Goes p e below W T g := by
  obtain ⟨t, h1, h2⟩ := k; exact ⟨t, h t h1, h2⟩
theorem Goes.done {Q : Option Value → Heap → List Loc → Prop} {k n : Nat} (h : Goes p e below (EndW s below Q k n) T g) :
    ∃ s₂ o, Steps p.tables e below (T.setTop g) s₂ ∧ s₂.status = .running ∧ Ended s₂ below o ∧ ∃ v L, o = .returned v ∧ Q v s₂.heap L ∧ FrameEnd s o s₂ L k n := by
  obtain ⟨t, h1, h2, o, h3, h4⟩ := h; exact ⟨t, o, h1, h2, h3, h4⟩
theorem Goes.retn {Q : Option Value → Heap → List Loc → Prop} {k n : Nat} (X : Stand p l e R s m args below meth c T locs cells slots) {v : Option Value}
    (st : ∀ fs, (∀ (f : JFrame) (acts : List Action), f.method = m → f.locked = none → f.entered = [] → (doReturn e (T.setTop f) acts v).1 = T.setFrames fs) → Steps p.tables e below (T.setTop g) (T.setFrames fs))
    (hv : meth.sig.returnType = none → v = none) (hlocks : meth.locks = false) (hk : cells ≤ k) (hn : slots ≤ n) (hQ : Q v T.heap locs) : Goes p e below (EndW s below Q k n) T g := by
  obtain ⟨fs, hr, hrun, hended, hW, hsame⟩ := X.leave hv hlocks
  exact ⟨_, st fs hr, hrun, _, hended, _, _, rfl, hQ, ⟨_, rfl⟩, hW, hsame.mono hk hn⟩
theorem cmp_eq (x y : Int32) : if_icmp.holds .eq x y = decide (x = y) := by by_cases h : x = y <;> simp [h, (teq · |>.1), (feq · |>.1)]
theorem cmp_ne (x y : Int32) : if_icmp.holds .ne x y = !decide (x = y) := by by_cases h : x = y <;> simp [h, (teq · |>.2), (feq · |>.2)]
theorem cmp_lt (x y : Int32) : if_icmp.holds .lt x y = decide (x < y) := by simp [if_icmp.holds]
theorem cmp_ge (x y : Int32) : if_icmp.holds .ge x y = !decide (x < y) := by by_cases h : x < y <;> simp [h, (tlt · |>.2.1), (flt · |>.2.1)]
theorem cmp_gt (x y : Int32) : if_icmp.holds .gt x y = decide (y < x) := by by_cases h : y < x <;> simp [h, (tlt · |>.2.2.1), (flt · |>.2.2.1)]
theorem cmp_le (x y : Int32) : if_icmp.holds .le x y = !decide (y < x) := by by_cases h : y < x <;> simp [h, (tlt · |>.2.2.2), (flt · |>.2.2.2)]
theorem ifc_eq (x y : Int32) (h : y = 0 := by rfl) : ifCond.holds .eq x = decide (x = y) := by subst h; rw [if0, cmp_eq]
theorem ifc_ne (x y : Int32) (h : y = 0 := by rfl) : ifCond.holds .ne x = !decide (x = y) := by subst h; rw [if0, cmp_ne]
theorem ifc_lt (x y : Int32) (h : y = 0 := by rfl) : ifCond.holds .lt x = decide (x < y) := by subst h; rw [if0, cmp_lt]
theorem ifc_ge (x y : Int32) (h : y = 0 := by rfl) : ifCond.holds .ge x = !decide (x < y) := by subst h; rw [if0, cmp_ge]
theorem ifc_gt (x y : Int32) (h : y = 0 := by rfl) : ifCond.holds .gt x = decide (y < x) := by subst h; rw [if0, cmp_gt]
theorem ifc_le (x y : Int32) (h : y = 0 := by rfl) : ifCond.holds .le x = !decide (y < x) := by subst h; rw [if0, cmp_le]
theorem Goes.icmpP (X : Stand p l e R s m args below meth c T locs cells slots) (hx : p.tables.exec = Jvm.exec) (hg : g.method = m) {cd : ClassFile.Cond} {o : Int} {x y : Int32} {rest : List Value} {pc0 pc' : Nat} (hpc : g.pc = pc0) (hd : decode c.code g.pc = .ok (.if_icmp cd o, 3)) (hs : g.stack = .int y :: .int x :: rest) (ho : 0 ≤ (pc0 : Int) + o) (hp : ((pc0 : Int) + o).toNat = pc') {P : Prop} [Decidable P] (hP : if_icmp.holds cd x y = decide P)
    (yes : P → Goes p e below W T { g with pc := pc', stack := rest }) (no : ¬ P → Goes p e below W T { g with pc := g.pc + 3, stack := rest }) : Goes p e below W T g := by
  by_cases h : P
  · exact (yes h).on fun t k => XS.icmpYes X.here hx hg hpc hd hs (by rw [hP]; exact decide_eq_true h) ho hp k
  · exact (no h).on fun t k => XS.icmpNo X.here hx hg hd hs (by rw [hP]; exact decide_eq_false h) k
theorem Goes.icmpN (X : Stand p l e R s m args below meth c T locs cells slots) (hx : p.tables.exec = Jvm.exec) (hg : g.method = m) {cd : ClassFile.Cond} {o : Int} {x y : Int32} {rest : List Value} {pc0 pc' : Nat} (hpc : g.pc = pc0) (hd : decode c.code g.pc = .ok (.if_icmp cd o, 3)) (hs : g.stack = .int y :: .int x :: rest) (ho : 0 ≤ (pc0 : Int) + o) (hp : ((pc0 : Int) + o).toNat = pc') {P : Prop} [Decidable P] (hP : if_icmp.holds cd x y = !decide P)
    (yes : ¬ P → Goes p e below W T { g with pc := pc', stack := rest }) (no : P → Goes p e below W T { g with pc := g.pc + 3, stack := rest }) : Goes p e below W T g := by
  by_cases h : P
  · exact (no h).on fun t k => XS.icmpNo X.here hx hg hd hs (by rw [hP, decide_eq_true h]; rfl) k
  · exact (yes h).on fun t k => XS.icmpYes X.here hx hg hpc hd hs (by rw [hP, decide_eq_false h]; rfl) ho hp k
theorem Goes.ifP (X : Stand p l e R s m args below meth c T locs cells slots) (hx : p.tables.exec = Jvm.exec) (hg : g.method = m) {cd : ClassFile.Cond} {o : Int} {x : Int32} {rest : List Value} {pc0 pc' : Nat} (hpc : g.pc = pc0) (hd : decode c.code g.pc = .ok (.ifCond cd o, 3)) (hs : g.stack = .int x :: rest) (ho : 0 ≤ (pc0 : Int) + o) (hp : ((pc0 : Int) + o).toNat = pc') {P : Prop} [Decidable P] (hP : ifCond.holds cd x = decide P)
    (yes : P → Goes p e below W T { g with pc := pc', stack := rest }) (no : ¬ P → Goes p e below W T { g with pc := g.pc + 3, stack := rest }) : Goes p e below W T g := by
  by_cases h : P
  · exact (yes h).on fun t k => XS.ifYes X.here hx hg hpc hd hs (by rw [hP]; exact decide_eq_true h) ho hp k
  · exact (no h).on fun t k => XS.ifNo X.here hx hg hd hs (by rw [hP]; exact decide_eq_false h) k
theorem Goes.ifN (X : Stand p l e R s m args below meth c T locs cells slots) (hx : p.tables.exec = Jvm.exec) (hg : g.method = m) {cd : ClassFile.Cond} {o : Int} {x : Int32} {rest : List Value} {pc0 pc' : Nat} (hpc : g.pc = pc0) (hd : decode c.code g.pc = .ok (.ifCond cd o, 3)) (hs : g.stack = .int x :: rest) (ho : 0 ≤ (pc0 : Int) + o) (hp : ((pc0 : Int) + o).toNat = pc') {P : Prop} [Decidable P] (hP : ifCond.holds cd x = !decide P)
    (yes : ¬ P → Goes p e below W T { g with pc := pc', stack := rest }) (no : P → Goes p e below W T { g with pc := g.pc + 3, stack := rest }) : Goes p e below W T g := by
  by_cases h : P
  · exact (no h).on fun t k => XS.ifNo X.here hx hg hd hs (by rw [hP, decide_eq_true h]; rfl) k
  · exact (yes h).on fun t k => XS.ifYes X.here hx hg hpc hd hs (by rw [hP, decide_eq_false h]; rfl) ho hp k
theorem Goes.acmpR (X : Stand p l e R s m args below meth c T locs cells slots) (hx : p.tables.exec = Jvm.exec) (hg : g.method = m) {cd : ACond} {o : Int} {a b : Addr} {rest : List Value} {pc0 pcE pcN : Nat} (hpc : g.pc = pc0) (hd : decode c.code g.pc = .ok (.if_acmp cd o, 3)) (hs : g.stack = .ref b :: .ref a :: rest) (ho : 0 ≤ (pc0 : Int) + o)
    (hE : pcE = if acV cd true = true then ((pc0 : Int) + o).toNat else pc0 + 3) (hN : pcN = if acV cd false = true then ((pc0 : Int) + o).toNat else pc0 + 3)
    (eq : a = b → Goes p e below W T { g with pc := pcE, stack := rest }) (ne : ¬ a = b → Goes p e below W T { g with pc := pcN, stack := rest }) : Goes p e below W T g := by
  by_cases h : a = b
  · exact (eq h).on fun t k => Jvm.RoadKit.acmp X hx hg rfl rfl hpc hd hs (decide_eq_true (congrArg Value.ref h)) ho hE k
  · exact (ne h).on fun t k => Jvm.RoadKit.acmp X hx hg rfl rfl hpc hd hs (decide_eq_false fun q => h (Value.ref.inj q)) ho hN k
/-! the same where String constants may be loaded cold -/
def EndWW (s : State) (below : List Frame) (Q : Option Value → Heap → List Loc → Prop) (k n : Nat) (t : State) : Prop := t.status = .running ∧ ∃ o, Ended t below o ∧ ∃ v L, o = .returned v ∧ Q v t.heap L ∧ ReturnedEndW s o t L k n
theorem Goes.doneW {Q : Option Value → Heap → List Loc → Prop} {k n : Nat} (h : Goes p e below (EndWW s below Q k n) T g) :
    ∃ s₂ o, Steps p.tables e below (T.setTop g) s₂ ∧ s₂.status = .running ∧ Ended s₂ below o ∧ ∃ v L, o = .returned v ∧ Q v s₂.heap L ∧ ReturnedEndW s o s₂ L k n := by
  obtain ⟨t, h1, h2, o, h3, h4⟩ := h; exact ⟨t, o, h1, h2, h3, h4⟩
theorem Goes.retnW {Q : Option Value → Heap → List Loc → Prop} {k n n1 : Nat} {vm₁ : Vm} (X : Stand p l e R (s.setVm vm₁) m args below meth c T locs cells slots) (hS : s.Since vm₁ n1) (hle : n1 ≤ T.heap.size) {v : Option Value}
    (st : ∀ fs, (∀ (f : JFrame) (acts : List Action), f.method = m → f.locked = none → f.entered = [] → (doReturn e (T.setTop f) acts v).1 = T.setFrames fs) → Steps p.tables e below (T.setTop g) (T.setFrames fs))
    (hv : meth.sig.returnType = none → v = none) (hlocks : meth.locks = false) (hk : cells ≤ k) (hn : slots ≤ n) (hQ : Q v T.heap locs) : Goes p e below (EndWW s below Q k n) T g := by
  obtain ⟨fs, hr, hrun, hended, hW⟩ := X.leaveW hS hle hv hlocks
  exact ⟨_, st fs hr, hrun, _, hended, _, _, rfl, hQ, hW.1, hW.2.1, hW.2.2.1, hW.2.2.2.mono hk hn⟩
/-! the same in a callee whose start may have interned: the invariant of the constants held goes with it -/
def EndWH (Z : State) (EL : List (String × Nat)) (s : State) (below : List Frame) (Q : Option Value → Heap → List Loc → Prop) (k n : Nat) (t : State) : Prop := t.status = .running ∧ ∃ o, Ended t below o ∧ ∃ v L, o = .returned v ∧ Q v t.heap L ∧ CHr Z EL s.vm s.heap t.vm t.heap ∧ ReturnedEndW s o t L k n
theorem Goes.doneH {Z : State} {EL : List (String × Nat)} {Q : Option Value → Heap → List Loc → Prop} {k n : Nat} (h : Goes p e below (EndWH Z EL s below Q k n) T g) :
    ∃ s₂ o, Steps p.tables e below (T.setTop g) s₂ ∧ s₂.status = .running ∧ Ended s₂ below o ∧ ∃ v L, o = .returned v ∧ Q v s₂.heap L ∧ CHr Z EL s.vm s.heap s₂.vm s₂.heap ∧ ReturnedEndW s o s₂ L k n := by
  obtain ⟨t, h1, h2, o, h3, h4⟩ := h; exact ⟨t, o, h1, h2, h3, h4⟩
theorem Goes.retnH {Z : State} {a0 : Array Value} {EL : List (String × Nat)} {h0 h : Heap} {Q : Option Value → Heap → List Loc → Prop} {k n n1 : Nat} {vm₁ : Vm} (X : Stand p l e R (s.setVm vm₁) m args below meth c T locs cells slots) (hS : s.Since vm₁ n1) (eT : T.heap = h) (hle : n1 ≤ h.size) (hZ : Z.Warmed39 vm₁) (hEL : EW Z a0 EL) (hh : s.heap = h0) (C : CHr Z EL s.vm h0 vm₁ h) {v : Option Value}
    (st : ∀ fs, (∀ (f : JFrame) (acts : List Action), f.method = m → f.locked = none → f.entered = [] → (doReturn e (T.setTop f) acts v).1 = T.setFrames fs) → Steps p.tables e below (T.setTop g) (T.setFrames fs))
    (hv : meth.sig.returnType = none → v = none) (hlocks : meth.locks = false) (hk : cells ≤ k) (hn : slots ≤ n) (hQ : Q v T.heap locs) : Goes p e below (EndWH Z EL s below Q k n) T g := by
  subst eT
  obtain ⟨fs, hr, hrun, hended, hW⟩ := X.leaveW hS hle hv hlocks
  exact ⟨_, st fs hr, hrun, _, hended, _, _, rfl, hQ, by rw [hh]; have q := C.trans (CHv.at X hZ hEL C.1); exact q, hW.1, hW.2.1, hW.2.2.1, hW.2.2.2.mono hk hn⟩
/-- a contract that keeps the invariant, as a way back; xs: what must be no constant's -/
theorem backSH {Z : State} {a0 : Array Value} {EL : List (String × Nat)} {h : Heap} {vm0 : Vm} {y : MethodName} {bytes : ByteArray} {maxL : Nat} {ret : Option FieldType} {rm : Room} {len W : Nat} {as' : Array Value} {xs : List Addr} {Q : Option Value → Heap → List Loc → Prop}
    (hM : MetFree l y (head1 [Cond.code y bytes maxL ret] rm) (fun a U => a = as' ∧ Z.Warmed39 U.vm ∧ U.heap = h ∧ CHv Z EL U.vm h ∧ ∀ y ∈ xs, Safe Z EL U.vm h y) (fun _ _ _ _ _ => True) (fun _ U o U' => ∃ v L, o = .returned v ∧ Q v U'.heap L ∧ CHr Z EL U.vm U.heap U'.vm U'.heap ∧ ReturnedEndW U o U' L rm.cells rm.slots))
    (hZ : Z.Warmed39 vm0) (wc : (Cond.code y bytes maxL ret).before a0 Z = true) (wz : (Cond.initialized y.cls).before a0 Z = true) (hf : rm.frames + 1 ≤ R.frames) (hl : W + (maxL + 11) + rm.locals ≤ R.locals) (hEL : EW Z a0 EL) (H : CHv Z EL vm0 h) (hs : ∀ y ∈ xs, y < h.size ∧ Safe Z EL vm0 h y) :
    BackS l R p e below (s.setVm vm0) args y len W (fun A a => a = as' ∧ A.U.heap = h ∧ A.cells + rm.cells ≤ R.cells ∧ A.slots + rm.slots ≤ R.slots)
      (fun A _ v B => ∃ L, Q v B.U.heap L ∧ B.locs = A.locs ++ L ∧ B.cells = A.cells + rm.cells ∧ B.slots = A.slots + rm.slots ∧ CHr Z EL vm0 h B.U.vm B.U.heap) :=
  BackS.of_freeW (bytes := bytes) (maxL := maxL) (ret := ret) (E := fun _ first o t L k n => k = rm.cells ∧ n = rm.slots ∧ (∃ v, o = .returned v ∧ Q v t.heap L) ∧ CHr Z EL first.vm first.heap t.vm t.heap) hM hf hl
    (fun m meth c A a Y hp => have hU : Z.Warmed39 A.U.vm := wtrans (s := s.setVm vm0) hZ Y.warmed
      ⟨by show (Cond.and _ .tt).before a A.U = true; rw [Cond.before_and, mv hU wc]; rfl, mv hU wc, mv hU wz, hp.2.2.1, hp.2.2.2⟩)
    (fun m meth c A a g mk Y hp => ⟨hp.1, wtrans (s := s.setVm vm0) hZ Y.warmed, hp.2.1, (CHv.at Y hZ hEL H).1, fun y hy => (CHv.at Y hZ hEL H).safe (hs y hy).1 (hs y hy).2⟩) (fun _ _ _ _ _ _ _ _ _ => trivial)
    (fun _ _ _ _ ⟨v, L, h1, h2, h3, h4⟩ => ⟨L, _, _, h4, rfl, rfl, ⟨v, h1, h2⟩, h3⟩)
    (fun m meth c A a g mk v t L k n Y hp _ _ ⟨e1, e2, ⟨v', e3, e4⟩, e5⟩ => by
      cases e3; subst e1 e2
      refine ⟨L, e4, rfl, rfl, rfl, (CHv.at Y hZ hEL H).trans ?_⟩
      rw [← hp.2.1]; exact e5)
theorem own_sfC {P : Addr → Prop} {x : Addr} {xs : List Addr} (h : P x) (k : ∀ y ∈ xs, P y) : ∀ y ∈ x :: xs, P y := fun y hy => by
  rcases List.mem_cons.mp hy with rfl | hy
  · exact h
  · exact k y hy
end New
end Jvm.RoadKit
namespace Jvm.Pilot.@@N@@
open Jvm Jvm.ClassFile Sem Op Lib Jvm.Free Jvm.Stand Jvm.LawKit Jvm.RoadKit Bundle Jvm.Pilot.@@N@@.Jvm.D
theorem wq {Z : State} {a0 : Array Value} (hw : ∀ d ∈ tables_1, d.before a0 Z = true) (i : Nat) {d : Jvm.Cond} (h : tables_1[i]? = some d) : d.before a0 Z = true := hw d (List.mem_of_getElem? h)
theorem Go {p : Program} {e : Env} {below : List Frame} {W : State → Prop} {T : State} {g : JFrame} (T' : State) (g' : JFrame) (k : Goes p e below W T' g') (h : ∀ t, Steps p.tables e below (T'.setTop g') t → Steps p.tables e below (T.setTop g) t) : Goes p e below W T g := k.on h
abbrev vR (a : Addr) : Slot := .val (.ref a)
abbrev vI (z : Int32) : Slot := .val (.int z)
abbrev mN0 : MethodName := ⟨"java/lang/StringLatin1", "canEncode", "(C)Z"⟩
abbrev mN1 : MethodName := ⟨"java/lang/StringLatin1", "toBytes", "(C)[B"⟩
abbrev mN2 : MethodName := ⟨"java/lang/String", "<init>", "([BB)V"⟩
abbrev mN3 : MethodName := ⟨"java/lang/String", "valueOf", "(C)Ljava/lang/String;"⟩
abbrev mN4 : MethodName := ⟨"java/util/Objects", "requireNonNull", "(Ljava/lang/Object;Ljava/lang/String;)Ljava/lang/Object;"⟩
abbrev mN5 : MethodName := ⟨"java/lang/StringLatin1", "equals", "([B[B)Z"⟩
abbrev mN6 : MethodName := ⟨"java/lang/String", "equals", "(Ljava/lang/Object;)Z"⟩
abbrev mN7 : MethodName := ⟨"java/lang/String", "isLatin1", "()Z"⟩
abbrev mN8 : MethodName := ⟨"java/lang/StringLatin1", "hashCode", "([B)I"⟩
abbrev mN9 : MethodName := ⟨"java/lang/String", "hashCode", "()I"⟩
abbrev mN10 : MethodName := ⟨"com/example/entitlement/entitlement/Subject", "<init>", "(Ljava/lang/String;Ljava/lang/String;Ljava/lang/String;)V"⟩
abbrev mN11 : MethodName := ⟨"com/example/entitlement/entitlement/Subject", "userset", "(Ljava/lang/String;Ljava/lang/String;Ljava/lang/String;)Lcom/example/entitlement/entitlement/Subject;"⟩
abbrev mN12 : MethodName := ⟨"com/example/entitlement/entitlement/ObjectRef", "<init>", "(Ljava/lang/String;Ljava/lang/String;)V"⟩
abbrev mN13 : MethodName := ⟨"com/example/entitlement/entitlement/Tally", "home", "(I)I"⟩
abbrev mN14 : MethodName := ⟨"com/example/entitlement/entitlement/Tally", "isEmpty", "()Z"⟩
abbrev mN15 : MethodName := ⟨"com/example/entitlement/entitlement/Tally", "find", "(Ljava/lang/Object;I)I"⟩
abbrev mN16 : MethodName := ⟨"com/example/entitlement/entitlement/Tally", "place", "(IILjava/lang/Object;I)V"⟩
abbrev mN17 : MethodName := ⟨"com/example/entitlement/entitlement/Tally", "empty", "(I)V"⟩
abbrev mN18 : MethodName := ⟨"com/example/entitlement/entitlement/Tally", "<init>", "()V"⟩
abbrev mN19 : MethodName := ⟨"java/util/Arrays", "hashCode", "([Ljava/lang/Object;)I"⟩
abbrev mN20 : MethodName := ⟨"java/lang/Object", "hashCode", "()I"⟩
abbrev mN21 : MethodName := ⟨"java/util/Objects", "hash", "([Ljava/lang/Object;)I"⟩
abbrev mN22 : MethodName := ⟨"com/example/entitlement/entitlement/Subject", "hashCode", "()I"⟩
abbrev mN23 : MethodName := ⟨"com/example/entitlement/entitlement/ObjectRef", "hashCode", "()I"⟩
abbrev mN24 : MethodName := ⟨"com/example/entitlement/entitlement/Tally", "add", "(Ljava/lang/Object;)V"⟩
abbrev mN25 : MethodName := ⟨"com/example/entitlement/entitlement/Tally", "remove", "(Ljava/lang/Object;)Z"⟩
abbrev mN26 : MethodName := ⟨"com/example/entitlement/entitlement/CountedHolders", "addOne", "(Lcom/example/entitlement/entitlement/Tally;Ljava/lang/Object;)Lcom/example/entitlement/entitlement/Tally;"⟩
abbrev mN27 : MethodName := ⟨"com/example/entitlement/entitlement/CountedHolders", "removeOne", "(Lcom/example/entitlement/entitlement/Tally;Ljava/lang/Object;)Lcom/example/entitlement/entitlement/Tally;"⟩
abbrev mN28 : MethodName := ⟨"com/example/entitlement/entitlement/CountedHolders", "add", "(Ljava/lang/Object;)V"⟩
abbrev mN29 : MethodName := ⟨"com/example/entitlement/entitlement/CountedHolders", "remove", "(Ljava/lang/Object;)V"⟩
abbrev mN30 : MethodName := ⟨"com/example/entitlement/entitlement/CountedHolders", "isEmpty", "()Z"⟩
abbrev mN31 : MethodName := ⟨"com/example/entitlement/entitlement/Holders", "<init>", "()V"⟩
abbrev mN32 : MethodName := ⟨"com/example/entitlement/entitlement/CountedHolders", "<init>", "()V"⟩
abbrev mN33 : MethodName := ⟨"com/example/entitlement/entitlement/CountedHoldersIsEmptyPinLaw", "step", "(Lcom/example/entitlement/entitlement/CountedHolders;[Ljava/lang/Object;[II)Z"⟩
abbrev cD0 : ByteArray := jdk_42_method_139_code
abbrev cD1 : ByteArray := jdk_43_method_3_code
abbrev cD2 : ByteArray := jdk_43_method_46_code
abbrev cD3 : ByteArray := jdk_42_method_151_code
abbrev cD4 : ByteArray := prog_35_method_3_code
abbrev cD5 : ByteArray := jdk_31_method_11_code
abbrev cD6 : ByteArray := jdk_42_method_66_code
abbrev cD7 : ByteArray := jdk_43_method_13_code
abbrev cD8 : ByteArray := prog_35_method_1_code
abbrev cD9 : ByteArray := prog_20_method_1_code
abbrev cD10 : ByteArray := jdk_42_method_78_code
abbrev cD11 : ByteArray := jdk_42_method_154_code
abbrev cD12 : ByteArray := jdk_43_method_21_code
abbrev cD13 : ByteArray := prog_5_method_1_code
abbrev cD14 : ByteArray := prog_10_method_1_code
abbrev cD15 : ByteArray := prog_5_method_7_code
abbrev cD16 : ByteArray := prog_5_method_3_code
abbrev cD17 : ByteArray := prog_5_method_12_code
abbrev cD18 : ByteArray := prog_5_method_2_code
abbrev cD19 : ByteArray := prog_5_method_11_code
abbrev cD20 : ByteArray := prog_38_method_1_code
abbrev cD21 : ByteArray := prog_38_method_2_code
abbrev cD22 : ByteArray := prog_38_method_9_code
abbrev cD23 : ByteArray := prog_38_method_10_code
abbrev cD24 : ByteArray := prog_38_method_11_code
abbrev cD25 : ByteArray := prog_38_method_3_code
abbrev cD26 : ByteArray := prog_38_method_12_code
abbrev cD27 : ByteArray := prog_38_method_6_code
abbrev cD28 : ByteArray := prog_20_method_5_code
abbrev cD29 : ByteArray := prog_35_method_11_code
abbrev cD30 : ByteArray := jdk_31_method_5_code
abbrev cD31 : ByteArray := jdk_65_method_157_code
theorem d1_0 : decode cD0 0 = .ok (.getstatic 38, 3) := by decide +kernel
theorem d1_3 : decode cD0 3 = .ok (.ifCond .eq 23, 3) := by decide +kernel
theorem d1_6 : decode cD0 6 = .ok (.iload_n 0, 1) := by decide +kernel
theorem d1_7 : decode cD0 7 = .ok (.invokestatic 1015, 3) := by decide +kernel
theorem d1_10 : decode cD0 10 = .ok (.ifCond .eq 16, 3) := by decide +kernel
theorem d1_13 : decode cD0 13 = .ok (.new 10, 3) := by decide +kernel
theorem d1_16 : decode cD0 16 = .ok (.dup, 1) := by decide +kernel
theorem d1_17 : decode cD0 17 = .ok (.iload_n 0, 1) := by decide +kernel
theorem d1_18 : decode cD0 18 = .ok (.invokestatic 1018, 3) := by decide +kernel
theorem d1_21 : decode cD0 21 = .ok (.iconst 0, 1) := by decide +kernel
theorem d1_22 : decode cD0 22 = .ok (.invokespecial 209, 3) := by decide +kernel
theorem d1_25 : decode cD0 25 = .ok (.areturn, 1) := by decide +kernel
theorem d2_0 : decode cD1 0 = .ok (.iload_n 0, 1) := by decide +kernel
theorem d2_1 : decode cD1 1 = .ok (.sipush 255, 3) := by decide +kernel
theorem d2_4 : decode cD1 4 = .ok (.if_icmp .gt 7, 3) := by decide +kernel
theorem d2_7 : decode cD1 7 = .ok (.iconst 1, 1) := by decide +kernel
theorem d2_8 : decode cD1 8 = .ok (.goto 4, 3) := by decide +kernel
theorem d2_12 : decode cD1 12 = .ok (.ireturn, 1) := by decide +kernel
theorem d3_0 : decode cD2 0 = .ok (.iconst 1, 1) := by decide +kernel
theorem d3_1 : decode cD2 1 = .ok (.newarray .byte, 2) := by decide +kernel
theorem d3_3 : decode cD2 3 = .ok (.dup, 1) := by decide +kernel
theorem d3_4 : decode cD2 4 = .ok (.iconst 0, 1) := by decide +kernel
theorem d3_5 : decode cD2 5 = .ok (.iload_n 0, 1) := by decide +kernel
theorem d3_6 : decode cD2 6 = .ok (.i2b, 1) := by decide +kernel
theorem d3_7 : decode cD2 7 = .ok (.bastore, 1) := by decide +kernel
theorem d3_8 : decode cD2 8 = .ok (.areturn, 1) := by decide +kernel
theorem d4_0 : decode cD3 0 = .ok (.aload_n 0, 1) := by decide +kernel
theorem d4_1 : decode cD3 1 = .ok (.invokespecial 1, 3) := by decide +kernel
theorem d4_4 : decode cD3 4 = .ok (.aload_n 0, 1) := by decide +kernel
theorem d4_5 : decode cD3 5 = .ok (.aload_n 1, 1) := by decide +kernel
theorem d4_6 : decode cD3 6 = .ok (.putfield 9, 3) := by decide +kernel
theorem d4_9 : decode cD3 9 = .ok (.aload_n 0, 1) := by decide +kernel
theorem d4_10 : decode cD3 10 = .ok (.iload_n 2, 1) := by decide +kernel
theorem d4_11 : decode cD3 11 = .ok (.putfield 15, 3) := by decide +kernel
theorem d4_14 : decode cD3 14 = .ok (.return_, 1) := by decide +kernel
theorem d6_0 : decode cD4 0 = .ok (.aload_n 2, 1) := by decide +kernel
theorem d6_1 : decode cD4 1 = .ok (.ldc 32, 2) := by decide +kernel
theorem d6_3 : decode cD4 3 = .ok (.invokestatic 9, 3) := by decide +kernel
theorem d6_6 : decode cD4 6 = .ok (.pop, 1) := by decide +kernel
theorem d6_7 : decode cD4 7 = .ok (.ldc 33, 2) := by decide +kernel
theorem d6_9 : decode cD4 9 = .ok (.aload_n 1, 1) := by decide +kernel
theorem d6_10 : decode cD4 10 = .ok (.invokevirtual 35, 3) := by decide +kernel
theorem d6_13 : decode cD4 13 = .ok (.ifCond .eq 17, 3) := by decide +kernel
theorem d6_30 : decode cD4 30 = .ok (.new 18, 3) := by decide +kernel
theorem d6_33 : decode cD4 33 = .ok (.dup, 1) := by decide +kernel
theorem d6_34 : decode cD4 34 = .ok (.aload_n 0, 1) := by decide +kernel
theorem d6_35 : decode cD4 35 = .ok (.aload_n 1, 1) := by decide +kernel
theorem d6_36 : decode cD4 36 = .ok (.aload_n 2, 1) := by decide +kernel
theorem d6_37 : decode cD4 37 = .ok (.invokespecial 29, 3) := by decide +kernel
theorem d6_40 : decode cD4 40 = .ok (.areturn, 1) := by decide +kernel
theorem d7_0 : decode cD5 0 = .ok (.aload_n 0, 1) := by decide +kernel
theorem d7_1 : decode cD5 1 = .ok (.ifnonnull 12, 3) := by decide +kernel
theorem d7_13 : decode cD5 13 = .ok (.aload_n 0, 1) := by decide +kernel
theorem d7_14 : decode cD5 14 = .ok (.areturn, 1) := by decide +kernel
theorem d8_0 : decode cD6 0 = .ok (.aload_n 0, 1) := by decide +kernel
theorem d8_1 : decode cD6 1 = .ok (.aload_n 1, 1) := by decide +kernel
theorem d8_2 : decode cD6 2 = .ok (.if_acmp .ne 5, 3) := by decide +kernel
theorem d8_5 : decode cD6 5 = .ok (.iconst 1, 1) := by decide +kernel
theorem d8_6 : decode cD6 6 = .ok (.ireturn, 1) := by decide +kernel
theorem d8_7 : decode cD6 7 = .ok (.aload_n 1, 1) := by decide +kernel
theorem d8_8 : decode cD6 8 = .ok (.instanceof 10, 3) := by decide +kernel
theorem d8_11 : decode cD6 11 = .ok (.ifCond .eq 43, 3) := by decide +kernel
theorem d8_14 : decode cD6 14 = .ok (.aload_n 1, 1) := by decide +kernel
theorem d8_15 : decode cD6 15 = .ok (.checkcast 10, 3) := by decide +kernel
theorem d8_18 : decode cD6 18 = .ok (.astore_n 2, 1) := by decide +kernel
theorem d8_19 : decode cD6 19 = .ok (.getstatic 38, 3) := by decide +kernel
theorem d8_22 : decode cD6 22 = .ok (.ifCond .eq 14, 3) := by decide +kernel
theorem d8_25 : decode cD6 25 = .ok (.aload_n 0, 1) := by decide +kernel
theorem d8_26 : decode cD6 26 = .ok (.getfield 15, 3) := by decide +kernel
theorem d8_29 : decode cD6 29 = .ok (.aload_n 2, 1) := by decide +kernel
theorem d8_30 : decode cD6 30 = .ok (.getfield 15, 3) := by decide +kernel
theorem d8_33 : decode cD6 33 = .ok (.if_icmp .ne 21, 3) := by decide +kernel
theorem d8_36 : decode cD6 36 = .ok (.aload_n 0, 1) := by decide +kernel
theorem d8_37 : decode cD6 37 = .ok (.getfield 9, 3) := by decide +kernel
theorem d8_40 : decode cD6 40 = .ok (.aload_n 2, 1) := by decide +kernel
theorem d8_41 : decode cD6 41 = .ok (.getfield 9, 3) := by decide +kernel
theorem d8_44 : decode cD6 44 = .ok (.invokestatic 541, 3) := by decide +kernel
theorem d8_47 : decode cD6 47 = .ok (.ifCond .eq 7, 3) := by decide +kernel
theorem d8_50 : decode cD6 50 = .ok (.iconst 1, 1) := by decide +kernel
theorem d8_51 : decode cD6 51 = .ok (.goto 4, 3) := by decide +kernel
theorem d8_54 : decode cD6 54 = .ok (.iconst 0, 1) := by decide +kernel
theorem d8_55 : decode cD6 55 = .ok (.ireturn, 1) := by decide +kernel
theorem d9_0 : decode cD7 0 = .ok (.aload_n 0, 1) := by decide +kernel
theorem d9_1 : decode cD7 1 = .ok (.arraylength, 1) := by decide +kernel
theorem d9_2 : decode cD7 2 = .ok (.aload_n 1, 1) := by decide +kernel
theorem d9_3 : decode cD7 3 = .ok (.arraylength, 1) := by decide +kernel
theorem d9_4 : decode cD7 4 = .ok (.if_icmp .ne 30, 3) := by decide +kernel
theorem d9_7 : decode cD7 7 = .ok (.iconst 0, 1) := by decide +kernel
theorem d9_8 : decode cD7 8 = .ok (.istore_n 2, 1) := by decide +kernel
theorem d9_9 : decode cD7 9 = .ok (.iload_n 2, 1) := by decide +kernel
theorem d9_10 : decode cD7 10 = .ok (.aload_n 0, 1) := by decide +kernel
theorem d9_11 : decode cD7 11 = .ok (.arraylength, 1) := by decide +kernel
theorem d9_12 : decode cD7 12 = .ok (.if_icmp .ge 20, 3) := by decide +kernel
theorem d9_15 : decode cD7 15 = .ok (.aload_n 0, 1) := by decide +kernel
theorem d9_16 : decode cD7 16 = .ok (.iload_n 2, 1) := by decide +kernel
theorem d9_17 : decode cD7 17 = .ok (.baload, 1) := by decide +kernel
theorem d9_18 : decode cD7 18 = .ok (.aload_n 1, 1) := by decide +kernel
theorem d9_19 : decode cD7 19 = .ok (.iload_n 2, 1) := by decide +kernel
theorem d9_20 : decode cD7 20 = .ok (.baload, 1) := by decide +kernel
theorem d9_21 : decode cD7 21 = .ok (.if_icmp .eq 5, 3) := by decide +kernel
theorem d9_24 : decode cD7 24 = .ok (.iconst 0, 1) := by decide +kernel
theorem d9_25 : decode cD7 25 = .ok (.ireturn, 1) := by decide +kernel
theorem d9_26 : decode cD7 26 = .ok (.iinc 2 1, 3) := by decide +kernel
theorem d9_29 : decode cD7 29 = .ok (.goto (-20), 3) := by decide +kernel
theorem d9_32 : decode cD7 32 = .ok (.iconst 1, 1) := by decide +kernel
theorem d9_33 : decode cD7 33 = .ok (.ireturn, 1) := by decide +kernel
theorem d9_34 : decode cD7 34 = .ok (.iconst 0, 1) := by decide +kernel
theorem d9_35 : decode cD7 35 = .ok (.ireturn, 1) := by decide +kernel
theorem d10_0 : decode cD8 0 = .ok (.aload_n 0, 1) := by decide +kernel
theorem d10_1 : decode cD8 1 = .ok (.invokespecial 1, 3) := by decide +kernel
theorem d10_4 : decode cD8 4 = .ok (.aload_n 0, 1) := by decide +kernel
theorem d10_5 : decode cD8 5 = .ok (.aload_n 1, 1) := by decide +kernel
theorem d10_6 : decode cD8 6 = .ok (.ldc 7, 2) := by decide +kernel
theorem d10_8 : decode cD8 8 = .ok (.invokestatic 9, 3) := by decide +kernel
theorem d10_11 : decode cD8 11 = .ok (.checkcast 15, 3) := by decide +kernel
theorem d10_14 : decode cD8 14 = .ok (.putfield 17, 3) := by decide +kernel
theorem d10_17 : decode cD8 17 = .ok (.aload_n 0, 1) := by decide +kernel
theorem d10_18 : decode cD8 18 = .ok (.aload_n 2, 1) := by decide +kernel
theorem d10_19 : decode cD8 19 = .ok (.ldc 22, 2) := by decide +kernel
theorem d10_21 : decode cD8 21 = .ok (.invokestatic 9, 3) := by decide +kernel
theorem d10_24 : decode cD8 24 = .ok (.checkcast 15, 3) := by decide +kernel
theorem d10_27 : decode cD8 27 = .ok (.putfield 24, 3) := by decide +kernel
theorem d10_30 : decode cD8 30 = .ok (.aload_n 0, 1) := by decide +kernel
theorem d10_31 : decode cD8 31 = .ok (.aload_n 3, 1) := by decide +kernel
theorem d10_32 : decode cD8 32 = .ok (.putfield 26, 3) := by decide +kernel
theorem d10_35 : decode cD8 35 = .ok (.return_, 1) := by decide +kernel
theorem d11_0 : decode cD9 0 = .ok (.aload_n 0, 1) := by decide +kernel
theorem d11_1 : decode cD9 1 = .ok (.invokespecial 1, 3) := by decide +kernel
theorem d11_4 : decode cD9 4 = .ok (.aload_n 0, 1) := by decide +kernel
theorem d11_5 : decode cD9 5 = .ok (.aload_n 1, 1) := by decide +kernel
theorem d11_6 : decode cD9 6 = .ok (.ldc 7, 2) := by decide +kernel
theorem d11_8 : decode cD9 8 = .ok (.invokestatic 9, 3) := by decide +kernel
theorem d11_11 : decode cD9 11 = .ok (.checkcast 15, 3) := by decide +kernel
theorem d11_14 : decode cD9 14 = .ok (.putfield 17, 3) := by decide +kernel
theorem d11_17 : decode cD9 17 = .ok (.aload_n 0, 1) := by decide +kernel
theorem d11_18 : decode cD9 18 = .ok (.aload_n 2, 1) := by decide +kernel
theorem d11_19 : decode cD9 19 = .ok (.ldc 22, 2) := by decide +kernel
theorem d11_21 : decode cD9 21 = .ok (.invokestatic 9, 3) := by decide +kernel
theorem d11_24 : decode cD9 24 = .ok (.checkcast 15, 3) := by decide +kernel
theorem d11_27 : decode cD9 27 = .ok (.putfield 24, 3) := by decide +kernel
theorem d11_30 : decode cD9 30 = .ok (.aload_n 0, 1) := by decide +kernel
theorem d11_31 : decode cD9 31 = .ok (.bipush 31, 2) := by decide +kernel
theorem d11_33 : decode cD9 33 = .ok (.aload_n 1, 1) := by decide +kernel
theorem d11_34 : decode cD9 34 = .ok (.invokevirtual 26, 3) := by decide +kernel
theorem d11_37 : decode cD9 37 = .ok (.imul, 1) := by decide +kernel
theorem d11_38 : decode cD9 38 = .ok (.aload_n 2, 1) := by decide +kernel
theorem d11_39 : decode cD9 39 = .ok (.invokevirtual 26, 3) := by decide +kernel
theorem d11_42 : decode cD9 42 = .ok (.iadd, 1) := by decide +kernel
theorem d11_43 : decode cD9 43 = .ok (.putfield 30, 3) := by decide +kernel
theorem d11_46 : decode cD9 46 = .ok (.return_, 1) := by decide +kernel
theorem d12_0 : decode cD10 0 = .ok (.aload_n 0, 1) := by decide +kernel
theorem d12_1 : decode cD10 1 = .ok (.getfield 19, 3) := by decide +kernel
theorem d12_4 : decode cD10 4 = .ok (.istore_n 1, 1) := by decide +kernel
theorem d12_5 : decode cD10 5 = .ok (.iload_n 1, 1) := by decide +kernel
theorem d12_6 : decode cD10 6 = .ok (.ifCond .ne 52, 3) := by decide +kernel
theorem d12_9 : decode cD10 9 = .ok (.aload_n 0, 1) := by decide +kernel
theorem d12_10 : decode cD10 10 = .ok (.getfield 23, 3) := by decide +kernel
theorem d12_13 : decode cD10 13 = .ok (.ifCond .ne 45, 3) := by decide +kernel
theorem d12_16 : decode cD10 16 = .ok (.aload_n 0, 1) := by decide +kernel
theorem d12_17 : decode cD10 17 = .ok (.invokevirtual 492, 3) := by decide +kernel
theorem d12_20 : decode cD10 20 = .ok (.ifCond .eq 13, 3) := by decide +kernel
theorem d12_23 : decode cD10 23 = .ok (.aload_n 0, 1) := by decide +kernel
theorem d12_24 : decode cD10 24 = .ok (.getfield 9, 3) := by decide +kernel
theorem d12_27 : decode cD10 27 = .ok (.invokestatic 628, 3) := by decide +kernel
theorem d12_30 : decode cD10 30 = .ok (.goto 10, 3) := by decide +kernel
theorem d12_40 : decode cD10 40 = .ok (.istore_n 1, 1) := by decide +kernel
theorem d12_41 : decode cD10 41 = .ok (.iload_n 1, 1) := by decide +kernel
theorem d12_42 : decode cD10 42 = .ok (.ifCond .ne 11, 3) := by decide +kernel
theorem d12_45 : decode cD10 45 = .ok (.aload_n 0, 1) := by decide +kernel
theorem d12_46 : decode cD10 46 = .ok (.iconst 1, 1) := by decide +kernel
theorem d12_47 : decode cD10 47 = .ok (.putfield 23, 3) := by decide +kernel
theorem d12_50 : decode cD10 50 = .ok (.goto 8, 3) := by decide +kernel
theorem d12_53 : decode cD10 53 = .ok (.aload_n 0, 1) := by decide +kernel
theorem d12_54 : decode cD10 54 = .ok (.iload_n 1, 1) := by decide +kernel
theorem d12_55 : decode cD10 55 = .ok (.putfield 19, 3) := by decide +kernel
theorem d12_58 : decode cD10 58 = .ok (.iload_n 1, 1) := by decide +kernel
theorem d12_59 : decode cD10 59 = .ok (.ireturn, 1) := by decide +kernel
theorem d13_0 : decode cD11 0 = .ok (.getstatic 38, 3) := by decide +kernel
theorem d13_3 : decode cD11 3 = .ok (.ifCond .eq 14, 3) := by decide +kernel
theorem d13_6 : decode cD11 6 = .ok (.aload_n 0, 1) := by decide +kernel
theorem d13_7 : decode cD11 7 = .ok (.getfield 15, 3) := by decide +kernel
theorem d13_10 : decode cD11 10 = .ok (.ifCond .ne 7, 3) := by decide +kernel
theorem d13_13 : decode cD11 13 = .ok (.iconst 1, 1) := by decide +kernel
theorem d13_14 : decode cD11 14 = .ok (.goto 4, 3) := by decide +kernel
theorem d13_18 : decode cD11 18 = .ok (.ireturn, 1) := by decide +kernel
theorem d14_0 : decode cD12 0 = .ok (.aload_n 0, 1) := by decide +kernel
theorem d14_1 : decode cD12 1 = .ok (.arraylength, 1) := by decide +kernel
theorem d14_2 : decode cD12 2 = .ok (.lookupswitch 40 #[(0, 26), (1, 30)], 26) := by decide +kernel
theorem d14_32 : decode cD12 32 = .ok (.aload_n 0, 1) := by decide +kernel
theorem d14_33 : decode cD12 33 = .ok (.iconst 0, 1) := by decide +kernel
theorem d14_34 : decode cD12 34 = .ok (.baload, 1) := by decide +kernel
theorem d14_35 : decode cD12 35 = .ok (.sipush 255, 3) := by decide +kernel
theorem d14_38 : decode cD12 38 = .ok (.iand, 1) := by decide +kernel
theorem d14_39 : decode cD12 39 = .ok (.goto 12, 3) := by decide +kernel
theorem d14_51 : decode cD12 51 = .ok (.ireturn, 1) := by decide +kernel
theorem d15_0 : decode cD13 0 = .ok (.aload_n 0, 1) := by decide +kernel
theorem d15_1 : decode cD13 1 = .ok (.invokespecial 1, 3) := by decide +kernel
theorem d15_4 : decode cD13 4 = .ok (.return_, 1) := by decide +kernel
theorem d16_0 : decode cD14 0 = .ok (.aload_n 0, 1) := by decide +kernel
theorem d16_1 : decode cD14 1 = .ok (.invokespecial 1, 3) := by decide +kernel
theorem d16_4 : decode cD14 4 = .ok (.return_, 1) := by decide +kernel
theorem d17_0 : decode cD15 0 = .ok (.aload_n 0, 1) := by decide +kernel
theorem d17_1 : decode cD15 1 = .ok (.getfield 24, 3) := by decide +kernel
theorem d17_4 : decode cD15 4 = .ok (.ifnonnull 21, 3) := by decide +kernel
theorem d17_7 : decode cD15 7 = .ok (.aload_n 0, 1) := by decide +kernel
theorem d17_8 : decode cD15 8 = .ok (.getfield 21, 3) := by decide +kernel
theorem d17_11 : decode cD15 11 = .ok (.ifnonnull 14, 3) := by decide +kernel
theorem d17_14 : decode cD15 14 = .ok (.aload_n 0, 1) := by decide +kernel
theorem d17_15 : decode cD15 15 = .ok (.getfield 9, 3) := by decide +kernel
theorem d17_18 : decode cD15 18 = .ok (.ifnonnull 7, 3) := by decide +kernel
theorem d17_21 : decode cD15 21 = .ok (.iconst 1, 1) := by decide +kernel
theorem d17_22 : decode cD15 22 = .ok (.goto 4, 3) := by decide +kernel
theorem d17_25 : decode cD15 25 = .ok (.iconst 0, 1) := by decide +kernel
theorem d17_26 : decode cD15 26 = .ok (.ireturn, 1) := by decide +kernel
theorem d18_0 : decode method_3_code 0 = .ok (.iload_n 3, 1) := by decide +kernel
theorem d18_1 : decode method_3_code 1 = .ok (.iconst 3, 1) := by decide +kernel
theorem d18_2 : decode method_3_code 2 = .ok (.iand, 1) := by decide +kernel
theorem d18_3 : decode method_3_code 3 = .ok (.iconst 3, 1) := by decide +kernel
theorem d18_4 : decode method_3_code 4 = .ok (.irem, 1) := by decide +kernel
theorem d18_5 : decode method_3_code 5 = .ok (.istore 4, 2) := by decide +kernel
theorem d18_7 : decode method_3_code 7 = .ok (.iload_n 3, 1) := by decide +kernel
theorem d18_8 : decode method_3_code 8 = .ok (.iconst 4, 1) := by decide +kernel
theorem d18_9 : decode method_3_code 9 = .ok (.iand, 1) := by decide +kernel
theorem d18_10 : decode method_3_code 10 = .ok (.ifCond .eq 24, 3) := by decide +kernel
theorem d18_13 : decode method_3_code 13 = .ok (.aload_n 0, 1) := by decide +kernel
theorem d18_14 : decode method_3_code 14 = .ok (.aload_n 1, 1) := by decide +kernel
theorem d18_15 : decode method_3_code 15 = .ok (.iload 4, 2) := by decide +kernel
theorem d18_17 : decode method_3_code 17 = .ok (.aaload, 1) := by decide +kernel
theorem d18_18 : decode method_3_code 18 = .ok (.invokevirtual 37, 3) := by decide +kernel
theorem d18_21 : decode method_3_code 21 = .ok (.aload_n 2, 1) := by decide +kernel
theorem d18_22 : decode method_3_code 22 = .ok (.iload 4, 2) := by decide +kernel
theorem d18_24 : decode method_3_code 24 = .ok (.aload_n 2, 1) := by decide +kernel
theorem d18_25 : decode method_3_code 25 = .ok (.iload 4, 2) := by decide +kernel
theorem d18_27 : decode method_3_code 27 = .ok (.iaload, 1) := by decide +kernel
theorem d18_28 : decode method_3_code 28 = .ok (.iconst 1, 1) := by decide +kernel
theorem d18_29 : decode method_3_code 29 = .ok (.iadd, 1) := by decide +kernel
theorem d18_30 : decode method_3_code 30 = .ok (.iastore, 1) := by decide +kernel
theorem d18_31 : decode method_3_code 31 = .ok (.goto 28, 3) := by decide +kernel
theorem d18_34 : decode method_3_code 34 = .ok (.aload_n 0, 1) := by decide +kernel
theorem d18_35 : decode method_3_code 35 = .ok (.aload_n 1, 1) := by decide +kernel
theorem d18_36 : decode method_3_code 36 = .ok (.iload 4, 2) := by decide +kernel
theorem d18_38 : decode method_3_code 38 = .ok (.aaload, 1) := by decide +kernel
theorem d18_39 : decode method_3_code 39 = .ok (.invokevirtual 41, 3) := by decide +kernel
theorem d18_42 : decode method_3_code 42 = .ok (.aload_n 2, 1) := by decide +kernel
theorem d18_43 : decode method_3_code 43 = .ok (.iload 4, 2) := by decide +kernel
theorem d18_45 : decode method_3_code 45 = .ok (.iaload, 1) := by decide +kernel
theorem d18_46 : decode method_3_code 46 = .ok (.ifCond .le 13, 3) := by decide +kernel
theorem d18_49 : decode method_3_code 49 = .ok (.aload_n 2, 1) := by decide +kernel
theorem d18_50 : decode method_3_code 50 = .ok (.iload 4, 2) := by decide +kernel
theorem d18_52 : decode method_3_code 52 = .ok (.aload_n 2, 1) := by decide +kernel
theorem d18_53 : decode method_3_code 53 = .ok (.iload 4, 2) := by decide +kernel
theorem d18_55 : decode method_3_code 55 = .ok (.iaload, 1) := by decide +kernel
theorem d18_56 : decode method_3_code 56 = .ok (.iconst 1, 1) := by decide +kernel
theorem d18_57 : decode method_3_code 57 = .ok (.isub, 1) := by decide +kernel
theorem d18_58 : decode method_3_code 58 = .ok (.iastore, 1) := by decide +kernel
theorem d18_59 : decode method_3_code 59 = .ok (.aload_n 2, 1) := by decide +kernel
theorem d18_60 : decode method_3_code 60 = .ok (.iconst 0, 1) := by decide +kernel
theorem d18_61 : decode method_3_code 61 = .ok (.iaload, 1) := by decide +kernel
theorem d18_62 : decode method_3_code 62 = .ok (.ifCond .ne 19, 3) := by decide +kernel
theorem d18_65 : decode method_3_code 65 = .ok (.aload_n 2, 1) := by decide +kernel
theorem d18_66 : decode method_3_code 66 = .ok (.iconst 1, 1) := by decide +kernel
theorem d18_67 : decode method_3_code 67 = .ok (.iaload, 1) := by decide +kernel
theorem d18_68 : decode method_3_code 68 = .ok (.ifCond .ne 13, 3) := by decide +kernel
theorem d18_71 : decode method_3_code 71 = .ok (.aload_n 2, 1) := by decide +kernel
theorem d18_72 : decode method_3_code 72 = .ok (.iconst 2, 1) := by decide +kernel
theorem d18_73 : decode method_3_code 73 = .ok (.iaload, 1) := by decide +kernel
theorem d18_74 : decode method_3_code 74 = .ok (.ifCond .ne 7, 3) := by decide +kernel
theorem d18_77 : decode method_3_code 77 = .ok (.iconst 1, 1) := by decide +kernel
theorem d18_78 : decode method_3_code 78 = .ok (.goto 4, 3) := by decide +kernel
theorem d18_81 : decode method_3_code 81 = .ok (.iconst 0, 1) := by decide +kernel
theorem d18_82 : decode method_3_code 82 = .ok (.istore 5, 2) := by decide +kernel
theorem d18_84 : decode method_3_code 84 = .ok (.aload_n 0, 1) := by decide +kernel
theorem d18_85 : decode method_3_code 85 = .ok (.invokevirtual 27, 3) := by decide +kernel
theorem d18_88 : decode method_3_code 88 = .ok (.iload 5, 2) := by decide +kernel
theorem d18_90 : decode method_3_code 90 = .ok (.if_icmp .ne 7, 3) := by decide +kernel
theorem d18_93 : decode method_3_code 93 = .ok (.iconst 1, 1) := by decide +kernel
theorem d18_94 : decode method_3_code 94 = .ok (.goto 4, 3) := by decide +kernel
theorem d18_98 : decode method_3_code 98 = .ok (.ireturn, 1) := by decide +kernel
theorem d19_0 : decode cD16 0 = .ok (.aload_n 1, 1) := by decide +kernel
theorem d19_1 : decode cD16 1 = .ok (.instanceof 7, 3) := by decide +kernel
theorem d19_4 : decode cD16 4 = .ok (.ifCond .eq 23, 3) := by decide +kernel
theorem d19_7 : decode cD16 7 = .ok (.aload_n 1, 1) := by decide +kernel
theorem d19_8 : decode cD16 8 = .ok (.checkcast 7, 3) := by decide +kernel
theorem d19_11 : decode cD16 11 = .ok (.astore_n 2, 1) := by decide +kernel
theorem d19_12 : decode cD16 12 = .ok (.aload_n 0, 1) := by decide +kernel
theorem d19_13 : decode cD16 13 = .ok (.aload_n 0, 1) := by decide +kernel
theorem d19_14 : decode cD16 14 = .ok (.getfield 9, 3) := by decide +kernel
theorem d19_17 : decode cD16 17 = .ok (.aload_n 2, 1) := by decide +kernel
theorem d19_18 : decode cD16 18 = .ok (.invokestatic 29, 3) := by decide +kernel
theorem d19_21 : decode cD16 21 = .ok (.putfield 9, 3) := by decide +kernel
theorem d19_24 : decode cD16 24 = .ok (.goto 45, 3) := by decide +kernel
theorem d19_27 : decode cD16 27 = .ok (.aload_n 1, 1) := by decide +kernel
theorem d19_28 : decode cD16 28 = .ok (.instanceof 19, 3) := by decide +kernel
theorem d19_31 : decode cD16 31 = .ok (.ifCond .eq 23, 3) := by decide +kernel
theorem d19_34 : decode cD16 34 = .ok (.aload_n 1, 1) := by decide +kernel
theorem d19_35 : decode cD16 35 = .ok (.checkcast 19, 3) := by decide +kernel
theorem d19_38 : decode cD16 38 = .ok (.astore_n 3, 1) := by decide +kernel
theorem d19_39 : decode cD16 39 = .ok (.aload_n 0, 1) := by decide +kernel
theorem d19_40 : decode cD16 40 = .ok (.aload_n 0, 1) := by decide +kernel
theorem d19_41 : decode cD16 41 = .ok (.getfield 21, 3) := by decide +kernel
theorem d19_44 : decode cD16 44 = .ok (.aload_n 3, 1) := by decide +kernel
theorem d19_45 : decode cD16 45 = .ok (.invokestatic 29, 3) := by decide +kernel
theorem d19_48 : decode cD16 48 = .ok (.putfield 21, 3) := by decide +kernel
theorem d19_51 : decode cD16 51 = .ok (.goto 18, 3) := by decide +kernel
theorem d19_54 : decode cD16 54 = .ok (.aload_n 0, 1) := by decide +kernel
theorem d19_55 : decode cD16 55 = .ok (.aload_n 0, 1) := by decide +kernel
theorem d19_56 : decode cD16 56 = .ok (.getfield 24, 3) := by decide +kernel
theorem d19_59 : decode cD16 59 = .ok (.aload_n 1, 1) := by decide +kernel
theorem d19_60 : decode cD16 60 = .ok (.checkcast 27, 3) := by decide +kernel
theorem d19_63 : decode cD16 63 = .ok (.invokestatic 29, 3) := by decide +kernel
theorem d19_66 : decode cD16 66 = .ok (.putfield 24, 3) := by decide +kernel
theorem d19_69 : decode cD16 69 = .ok (.return_, 1) := by decide +kernel
theorem d20_0 : decode cD17 0 = .ok (.aload_n 0, 1) := by decide +kernel
theorem d20_1 : decode cD17 1 = .ok (.astore_n 2, 1) := by decide +kernel
theorem d20_2 : decode cD17 2 = .ok (.aload_n 2, 1) := by decide +kernel
theorem d20_3 : decode cD17 3 = .ok (.ifnull 18, 3) := by decide +kernel
theorem d20_6 : decode cD17 6 = .ok (.aload_n 2, 1) := by decide +kernel
theorem d20_7 : decode cD17 7 = .ok (.aload_n 1, 1) := by decide +kernel
theorem d20_8 : decode cD17 8 = .ok (.invokevirtual 67, 3) := by decide +kernel
theorem d20_11 : decode cD17 11 = .ok (.pop, 1) := by decide +kernel
theorem d20_12 : decode cD17 12 = .ok (.aload_n 2, 1) := by decide +kernel
theorem d20_13 : decode cD17 13 = .ok (.invokevirtual 71, 3) := by decide +kernel
theorem d20_16 : decode cD17 16 = .ok (.ifCond .eq 5, 3) := by decide +kernel
theorem d20_19 : decode cD17 19 = .ok (.aconst_null, 1) := by decide +kernel
theorem d20_20 : decode cD17 20 = .ok (.astore_n 2, 1) := by decide +kernel
theorem d20_21 : decode cD17 21 = .ok (.aload_n 2, 1) := by decide +kernel
theorem d20_22 : decode cD17 22 = .ok (.areturn, 1) := by decide +kernel
theorem d21_0 : decode cD18 0 = .ok (.aload_n 1, 1) := by decide +kernel
theorem d21_1 : decode cD18 1 = .ok (.instanceof 7, 3) := by decide +kernel
theorem d21_4 : decode cD18 4 = .ok (.ifCond .eq 23, 3) := by decide +kernel
theorem d21_7 : decode cD18 7 = .ok (.aload_n 1, 1) := by decide +kernel
theorem d21_8 : decode cD18 8 = .ok (.checkcast 7, 3) := by decide +kernel
theorem d21_11 : decode cD18 11 = .ok (.astore_n 2, 1) := by decide +kernel
theorem d21_12 : decode cD18 12 = .ok (.aload_n 0, 1) := by decide +kernel
theorem d21_13 : decode cD18 13 = .ok (.aload_n 0, 1) := by decide +kernel
theorem d21_14 : decode cD18 14 = .ok (.getfield 9, 3) := by decide +kernel
theorem d21_17 : decode cD18 17 = .ok (.aload_n 2, 1) := by decide +kernel
theorem d21_18 : decode cD18 18 = .ok (.invokestatic 15, 3) := by decide +kernel
theorem d21_21 : decode cD18 21 = .ok (.putfield 9, 3) := by decide +kernel
theorem d21_24 : decode cD18 24 = .ok (.goto 45, 3) := by decide +kernel
theorem d21_27 : decode cD18 27 = .ok (.aload_n 1, 1) := by decide +kernel
theorem d21_28 : decode cD18 28 = .ok (.instanceof 19, 3) := by decide +kernel
theorem d21_31 : decode cD18 31 = .ok (.ifCond .eq 23, 3) := by decide +kernel
theorem d21_34 : decode cD18 34 = .ok (.aload_n 1, 1) := by decide +kernel
theorem d21_35 : decode cD18 35 = .ok (.checkcast 19, 3) := by decide +kernel
theorem d21_38 : decode cD18 38 = .ok (.astore_n 3, 1) := by decide +kernel
theorem d21_39 : decode cD18 39 = .ok (.aload_n 0, 1) := by decide +kernel
theorem d21_40 : decode cD18 40 = .ok (.aload_n 0, 1) := by decide +kernel
theorem d21_41 : decode cD18 41 = .ok (.getfield 21, 3) := by decide +kernel
theorem d21_44 : decode cD18 44 = .ok (.aload_n 3, 1) := by decide +kernel
theorem d21_45 : decode cD18 45 = .ok (.invokestatic 15, 3) := by decide +kernel
theorem d21_48 : decode cD18 48 = .ok (.putfield 21, 3) := by decide +kernel
theorem d21_51 : decode cD18 51 = .ok (.goto 18, 3) := by decide +kernel
theorem d21_54 : decode cD18 54 = .ok (.aload_n 0, 1) := by decide +kernel
theorem d21_55 : decode cD18 55 = .ok (.aload_n 0, 1) := by decide +kernel
theorem d21_56 : decode cD18 56 = .ok (.getfield 24, 3) := by decide +kernel
theorem d21_59 : decode cD18 59 = .ok (.aload_n 1, 1) := by decide +kernel
theorem d21_60 : decode cD18 60 = .ok (.checkcast 27, 3) := by decide +kernel
theorem d21_63 : decode cD18 63 = .ok (.invokestatic 15, 3) := by decide +kernel
theorem d21_66 : decode cD18 66 = .ok (.putfield 24, 3) := by decide +kernel
theorem d21_69 : decode cD18 69 = .ok (.return_, 1) := by decide +kernel
theorem d22_0 : decode cD19 0 = .ok (.aload_n 0, 1) := by decide +kernel
theorem d22_1 : decode cD19 1 = .ok (.astore_n 2, 1) := by decide +kernel
theorem d22_2 : decode cD19 2 = .ok (.aload_n 2, 1) := by decide +kernel
theorem d22_3 : decode cD19 3 = .ok (.ifnonnull 11, 3) := by decide +kernel
theorem d22_6 : decode cD19 6 = .ok (.new 49, 3) := by decide +kernel
theorem d22_9 : decode cD19 9 = .ok (.dup, 1) := by decide +kernel
theorem d22_10 : decode cD19 10 = .ok (.invokespecial 62, 3) := by decide +kernel
theorem d22_13 : decode cD19 13 = .ok (.astore_n 2, 1) := by decide +kernel
theorem d22_14 : decode cD19 14 = .ok (.aload_n 2, 1) := by decide +kernel
theorem d22_15 : decode cD19 15 = .ok (.aload_n 1, 1) := by decide +kernel
theorem d22_16 : decode cD19 16 = .ok (.invokevirtual 63, 3) := by decide +kernel
theorem d22_19 : decode cD19 19 = .ok (.aload_n 2, 1) := by decide +kernel
theorem d22_20 : decode cD19 20 = .ok (.areturn, 1) := by decide +kernel
theorem d23_0 : decode cD20 0 = .ok (.aload_n 0, 1) := by decide +kernel
theorem d23_1 : decode cD20 1 = .ok (.invokespecial 1, 3) := by decide +kernel
theorem d23_4 : decode cD20 4 = .ok (.aload_n 0, 1) := by decide +kernel
theorem d23_5 : decode cD20 5 = .ok (.iconst 4, 1) := by decide +kernel
theorem d23_6 : decode cD20 6 = .ok (.newarray .int, 2) := by decide +kernel
theorem d23_8 : decode cD20 8 = .ok (.putfield 7, 3) := by decide +kernel
theorem d23_11 : decode cD20 11 = .ok (.aload_n 0, 1) := by decide +kernel
theorem d23_12 : decode cD20 12 = .ok (.iconst 2, 1) := by decide +kernel
theorem d23_13 : decode cD20 13 = .ok (.anewarray 2, 3) := by decide +kernel
theorem d23_16 : decode cD20 16 = .ok (.putfield 13, 3) := by decide +kernel
theorem d23_19 : decode cD20 19 = .ok (.aload_n 0, 1) := by decide +kernel
theorem d23_20 : decode cD20 20 = .ok (.bipush 31, 2) := by decide +kernel
theorem d23_22 : decode cD20 22 = .ok (.putfield 17, 3) := by decide +kernel
theorem d23_25 : decode cD20 25 = .ok (.return_, 1) := by decide +kernel
theorem d24_0 : decode cD21 0 = .ok (.aload_n 1, 1) := by decide +kernel
theorem d24_1 : decode cD21 1 = .ok (.invokevirtual 21, 3) := by decide +kernel
theorem d24_4 : decode cD21 4 = .ok (.istore_n 2, 1) := by decide +kernel
theorem d24_5 : decode cD21 5 = .ok (.aload_n 0, 1) := by decide +kernel
theorem d24_6 : decode cD21 6 = .ok (.aload_n 1, 1) := by decide +kernel
theorem d24_7 : decode cD21 7 = .ok (.iload_n 2, 1) := by decide +kernel
theorem d24_8 : decode cD21 8 = .ok (.invokevirtual 25, 3) := by decide +kernel
theorem d24_11 : decode cD21 11 = .ok (.istore_n 3, 1) := by decide +kernel
theorem d24_12 : decode cD21 12 = .ok (.iload_n 3, 1) := by decide +kernel
theorem d24_13 : decode cD21 13 = .ok (.ifCond .lt 18, 3) := by decide +kernel
theorem d24_16 : decode cD21 16 = .ok (.aload_n 0, 1) := by decide +kernel
theorem d24_17 : decode cD21 17 = .ok (.getfield 7, 3) := by decide +kernel
theorem d24_20 : decode cD21 20 = .ok (.iconst 2, 1) := by decide +kernel
theorem d24_21 : decode cD21 21 = .ok (.iload_n 3, 1) := by decide +kernel
theorem d24_22 : decode cD21 22 = .ok (.imul, 1) := by decide +kernel
theorem d24_23 : decode cD21 23 = .ok (.iconst 1, 1) := by decide +kernel
theorem d24_24 : decode cD21 24 = .ok (.iadd, 1) := by decide +kernel
theorem d24_25 : decode cD21 25 = .ok (.dup2, 1) := by decide +kernel
theorem d24_26 : decode cD21 26 = .ok (.iaload, 1) := by decide +kernel
theorem d24_27 : decode cD21 27 = .ok (.iconst 1, 1) := by decide +kernel
theorem d24_28 : decode cD21 28 = .ok (.iadd, 1) := by decide +kernel
theorem d24_29 : decode cD21 29 = .ok (.iastore, 1) := by decide +kernel
theorem d24_30 : decode cD21 30 = .ok (.return_, 1) := by decide +kernel
theorem d24_31 : decode cD21 31 = .ok (.iconst 2, 1) := by decide +kernel
theorem d24_32 : decode cD21 32 = .ok (.aload_n 0, 1) := by decide +kernel
theorem d24_33 : decode cD21 33 = .ok (.getfield 29, 3) := by decide +kernel
theorem d24_36 : decode cD21 36 = .ok (.iconst 1, 1) := by decide +kernel
theorem d24_37 : decode cD21 37 = .ok (.iadd, 1) := by decide +kernel
theorem d24_38 : decode cD21 38 = .ok (.imul, 1) := by decide +kernel
theorem d24_39 : decode cD21 39 = .ok (.aload_n 0, 1) := by decide +kernel
theorem d24_40 : decode cD21 40 = .ok (.getfield 13, 3) := by decide +kernel
theorem d24_43 : decode cD21 43 = .ok (.arraylength, 1) := by decide +kernel
theorem d24_44 : decode cD21 44 = .ok (.if_icmp .le 14, 3) := by decide +kernel
theorem d24_58 : decode cD21 58 = .ok (.aload_n 0, 1) := by decide +kernel
theorem d24_59 : decode cD21 59 = .ok (.iconst (-1), 1) := by decide +kernel
theorem d24_60 : decode cD21 60 = .ok (.iload_n 3, 1) := by decide +kernel
theorem d24_61 : decode cD21 61 = .ok (.isub, 1) := by decide +kernel
theorem d24_62 : decode cD21 62 = .ok (.iload_n 2, 1) := by decide +kernel
theorem d24_63 : decode cD21 63 = .ok (.aload_n 1, 1) := by decide +kernel
theorem d24_64 : decode cD21 64 = .ok (.iconst 1, 1) := by decide +kernel
theorem d24_65 : decode cD21 65 = .ok (.invokevirtual 35, 3) := by decide +kernel
theorem d24_68 : decode cD21 68 = .ok (.aload_n 0, 1) := by decide +kernel
theorem d24_69 : decode cD21 69 = .ok (.dup, 1) := by decide +kernel
theorem d24_70 : decode cD21 70 = .ok (.getfield 29, 3) := by decide +kernel
theorem d24_73 : decode cD21 73 = .ok (.iconst 1, 1) := by decide +kernel
theorem d24_74 : decode cD21 74 = .ok (.iadd, 1) := by decide +kernel
theorem d24_75 : decode cD21 75 = .ok (.putfield 29, 3) := by decide +kernel
theorem d24_78 : decode cD21 78 = .ok (.return_, 1) := by decide +kernel
theorem d25_0 : decode cD22 0 = .ok (.aload_n 0, 1) := by decide +kernel
theorem d25_1 : decode cD22 1 = .ok (.getfield 13, 3) := by decide +kernel
theorem d25_4 : decode cD22 4 = .ok (.arraylength, 1) := by decide +kernel
theorem d25_5 : decode cD22 5 = .ok (.iconst 1, 1) := by decide +kernel
theorem d25_6 : decode cD22 6 = .ok (.isub, 1) := by decide +kernel
theorem d25_7 : decode cD22 7 = .ok (.istore_n 3, 1) := by decide +kernel
theorem d25_8 : decode cD22 8 = .ok (.aload_n 0, 1) := by decide +kernel
theorem d25_9 : decode cD22 9 = .ok (.iload_n 2, 1) := by decide +kernel
theorem d25_10 : decode cD22 10 = .ok (.invokevirtual 56, 3) := by decide +kernel
theorem d25_13 : decode cD22 13 = .ok (.istore 4, 2) := by decide +kernel
theorem d25_15 : decode cD22 15 = .ok (.aload_n 0, 1) := by decide +kernel
theorem d25_16 : decode cD22 16 = .ok (.getfield 7, 3) := by decide +kernel
theorem d25_19 : decode cD22 19 = .ok (.iconst 2, 1) := by decide +kernel
theorem d25_20 : decode cD22 20 = .ok (.iload 4, 2) := by decide +kernel
theorem d25_22 : decode cD22 22 = .ok (.imul, 1) := by decide +kernel
theorem d25_23 : decode cD22 23 = .ok (.iconst 1, 1) := by decide +kernel
theorem d25_24 : decode cD22 24 = .ok (.iadd, 1) := by decide +kernel
theorem d25_25 : decode cD22 25 = .ok (.iaload, 1) := by decide +kernel
theorem d25_26 : decode cD22 26 = .ok (.ifCond .eq 54, 3) := by decide +kernel
theorem d25_29 : decode cD22 29 = .ok (.aload_n 0, 1) := by decide +kernel
theorem d25_30 : decode cD22 30 = .ok (.getfield 7, 3) := by decide +kernel
theorem d25_33 : decode cD22 33 = .ok (.iconst 2, 1) := by decide +kernel
theorem d25_34 : decode cD22 34 = .ok (.iload 4, 2) := by decide +kernel
theorem d25_36 : decode cD22 36 = .ok (.imul, 1) := by decide +kernel
theorem d25_37 : decode cD22 37 = .ok (.iaload, 1) := by decide +kernel
theorem d25_38 : decode cD22 38 = .ok (.iload_n 2, 1) := by decide +kernel
theorem d25_39 : decode cD22 39 = .ok (.if_icmp .ne 30, 3) := by decide +kernel
theorem d25_42 : decode cD22 42 = .ok (.aload_n 0, 1) := by decide +kernel
theorem d25_43 : decode cD22 43 = .ok (.getfield 13, 3) := by decide +kernel
theorem d25_46 : decode cD22 46 = .ok (.iload 4, 2) := by decide +kernel
theorem d25_48 : decode cD22 48 = .ok (.aaload, 1) := by decide +kernel
theorem d25_49 : decode cD22 49 = .ok (.astore 5, 2) := by decide +kernel
theorem d25_51 : decode cD22 51 = .ok (.aload 5, 2) := by decide +kernel
theorem d25_53 : decode cD22 53 = .ok (.aload_n 1, 1) := by decide +kernel
theorem d25_54 : decode cD22 54 = .ok (.if_acmp .eq 12, 3) := by decide +kernel
theorem d25_66 : decode cD22 66 = .ok (.iload 4, 2) := by decide +kernel
theorem d25_68 : decode cD22 68 = .ok (.ireturn, 1) := by decide +kernel
theorem d25_80 : decode cD22 80 = .ok (.iconst (-1), 1) := by decide +kernel
theorem d25_81 : decode cD22 81 = .ok (.iload 4, 2) := by decide +kernel
theorem d25_83 : decode cD22 83 = .ok (.isub, 1) := by decide +kernel
theorem d25_84 : decode cD22 84 = .ok (.ireturn, 1) := by decide +kernel
theorem d26_0 : decode cD23 0 = .ok (.iload_n 1, 1) := by decide +kernel
theorem d26_1 : decode cD23 1 = .ok (.ldc 63, 2) := by decide +kernel
theorem d26_3 : decode cD23 3 = .ok (.imul, 1) := by decide +kernel
theorem d26_4 : decode cD23 4 = .ok (.aload_n 0, 1) := by decide +kernel
theorem d26_5 : decode cD23 5 = .ok (.getfield 17, 3) := by decide +kernel
theorem d26_8 : decode cD23 8 = .ok (.iushr, 1) := by decide +kernel
theorem d26_9 : decode cD23 9 = .ok (.ireturn, 1) := by decide +kernel
theorem d27_0 : decode cD24 0 = .ok (.aload_n 0, 1) := by decide +kernel
theorem d27_1 : decode cD24 1 = .ok (.getfield 7, 3) := by decide +kernel
theorem d27_4 : decode cD24 4 = .ok (.iconst 2, 1) := by decide +kernel
theorem d27_5 : decode cD24 5 = .ok (.iload_n 1, 1) := by decide +kernel
theorem d27_6 : decode cD24 6 = .ok (.imul, 1) := by decide +kernel
theorem d27_7 : decode cD24 7 = .ok (.iload_n 2, 1) := by decide +kernel
theorem d27_8 : decode cD24 8 = .ok (.iastore, 1) := by decide +kernel
theorem d27_9 : decode cD24 9 = .ok (.aload_n 0, 1) := by decide +kernel
theorem d27_10 : decode cD24 10 = .ok (.getfield 7, 3) := by decide +kernel
theorem d27_13 : decode cD24 13 = .ok (.iconst 2, 1) := by decide +kernel
theorem d27_14 : decode cD24 14 = .ok (.iload_n 1, 1) := by decide +kernel
theorem d27_15 : decode cD24 15 = .ok (.imul, 1) := by decide +kernel
theorem d27_16 : decode cD24 16 = .ok (.iconst 1, 1) := by decide +kernel
theorem d27_17 : decode cD24 17 = .ok (.iadd, 1) := by decide +kernel
theorem d27_18 : decode cD24 18 = .ok (.iload 4, 2) := by decide +kernel
theorem d27_20 : decode cD24 20 = .ok (.iastore, 1) := by decide +kernel
theorem d27_21 : decode cD24 21 = .ok (.aload_n 0, 1) := by decide +kernel
theorem d27_22 : decode cD24 22 = .ok (.getfield 13, 3) := by decide +kernel
theorem d27_25 : decode cD24 25 = .ok (.iload_n 1, 1) := by decide +kernel
theorem d27_26 : decode cD24 26 = .ok (.aload_n 3, 1) := by decide +kernel
theorem d27_27 : decode cD24 27 = .ok (.aastore, 1) := by decide +kernel
theorem d27_28 : decode cD24 28 = .ok (.return_, 1) := by decide +kernel
theorem d28_0 : decode cD25 0 = .ok (.aload_n 0, 1) := by decide +kernel
theorem d28_1 : decode cD25 1 = .ok (.aload_n 1, 1) := by decide +kernel
theorem d28_2 : decode cD25 2 = .ok (.aload_n 1, 1) := by decide +kernel
theorem d28_3 : decode cD25 3 = .ok (.invokevirtual 21, 3) := by decide +kernel
theorem d28_6 : decode cD25 6 = .ok (.invokevirtual 25, 3) := by decide +kernel
theorem d28_9 : decode cD25 9 = .ok (.istore_n 2, 1) := by decide +kernel
theorem d28_10 : decode cD25 10 = .ok (.iload_n 2, 1) := by decide +kernel
theorem d28_11 : decode cD25 11 = .ok (.ifCond .ge 5, 3) := by decide +kernel
theorem d28_16 : decode cD25 16 = .ok (.aload_n 0, 1) := by decide +kernel
theorem d28_17 : decode cD25 17 = .ok (.getfield 7, 3) := by decide +kernel
theorem d28_20 : decode cD25 20 = .ok (.iconst 2, 1) := by decide +kernel
theorem d28_21 : decode cD25 21 = .ok (.iload_n 2, 1) := by decide +kernel
theorem d28_22 : decode cD25 22 = .ok (.imul, 1) := by decide +kernel
theorem d28_23 : decode cD25 23 = .ok (.iconst 1, 1) := by decide +kernel
theorem d28_24 : decode cD25 24 = .ok (.iadd, 1) := by decide +kernel
theorem d28_25 : decode cD25 25 = .ok (.dup2, 1) := by decide +kernel
theorem d28_26 : decode cD25 26 = .ok (.iaload, 1) := by decide +kernel
theorem d28_27 : decode cD25 27 = .ok (.iconst 1, 1) := by decide +kernel
theorem d28_28 : decode cD25 28 = .ok (.isub, 1) := by decide +kernel
theorem d28_29 : decode cD25 29 = .ok (.iastore, 1) := by decide +kernel
theorem d28_30 : decode cD25 30 = .ok (.aload_n 0, 1) := by decide +kernel
theorem d28_31 : decode cD25 31 = .ok (.getfield 7, 3) := by decide +kernel
theorem d28_34 : decode cD25 34 = .ok (.iconst 2, 1) := by decide +kernel
theorem d28_35 : decode cD25 35 = .ok (.iload_n 2, 1) := by decide +kernel
theorem d28_36 : decode cD25 36 = .ok (.imul, 1) := by decide +kernel
theorem d28_37 : decode cD25 37 = .ok (.iconst 1, 1) := by decide +kernel
theorem d28_38 : decode cD25 38 = .ok (.iadd, 1) := by decide +kernel
theorem d28_39 : decode cD25 39 = .ok (.iaload, 1) := by decide +kernel
theorem d28_40 : decode cD25 40 = .ok (.ifCond .ne 7, 3) := by decide +kernel
theorem d28_43 : decode cD25 43 = .ok (.iconst 1, 1) := by decide +kernel
theorem d28_44 : decode cD25 44 = .ok (.goto 4, 3) := by decide +kernel
theorem d28_47 : decode cD25 47 = .ok (.iconst 0, 1) := by decide +kernel
theorem d28_48 : decode cD25 48 = .ok (.istore_n 3, 1) := by decide +kernel
theorem d28_49 : decode cD25 49 = .ok (.iload_n 3, 1) := by decide +kernel
theorem d28_50 : decode cD25 50 = .ok (.ifCond .eq 18, 3) := by decide +kernel
theorem d28_53 : decode cD25 53 = .ok (.aload_n 0, 1) := by decide +kernel
theorem d28_54 : decode cD25 54 = .ok (.iload_n 2, 1) := by decide +kernel
theorem d28_55 : decode cD25 55 = .ok (.invokevirtual 39, 3) := by decide +kernel
theorem d28_58 : decode cD25 58 = .ok (.aload_n 0, 1) := by decide +kernel
theorem d28_59 : decode cD25 59 = .ok (.dup, 1) := by decide +kernel
theorem d28_60 : decode cD25 60 = .ok (.getfield 29, 3) := by decide +kernel
theorem d28_63 : decode cD25 63 = .ok (.iconst 1, 1) := by decide +kernel
theorem d28_64 : decode cD25 64 = .ok (.isub, 1) := by decide +kernel
theorem d28_65 : decode cD25 65 = .ok (.putfield 29, 3) := by decide +kernel
theorem d28_68 : decode cD25 68 = .ok (.iload_n 3, 1) := by decide +kernel
theorem d28_69 : decode cD25 69 = .ok (.ireturn, 1) := by decide +kernel
theorem d29_0 : decode cD26 0 = .ok (.aload_n 0, 1) := by decide +kernel
theorem d29_1 : decode cD26 1 = .ok (.getfield 13, 3) := by decide +kernel
theorem d29_4 : decode cD26 4 = .ok (.arraylength, 1) := by decide +kernel
theorem d29_5 : decode cD26 5 = .ok (.iconst 1, 1) := by decide +kernel
theorem d29_6 : decode cD26 6 = .ok (.isub, 1) := by decide +kernel
theorem d29_7 : decode cD26 7 = .ok (.istore_n 2, 1) := by decide +kernel
theorem d29_8 : decode cD26 8 = .ok (.iload_n 1, 1) := by decide +kernel
theorem d29_9 : decode cD26 9 = .ok (.istore_n 3, 1) := by decide +kernel
theorem d29_10 : decode cD26 10 = .ok (.iload_n 3, 1) := by decide +kernel
theorem d29_11 : decode cD26 11 = .ok (.iconst 1, 1) := by decide +kernel
theorem d29_12 : decode cD26 12 = .ok (.iadd, 1) := by decide +kernel
theorem d29_13 : decode cD26 13 = .ok (.iload_n 2, 1) := by decide +kernel
theorem d29_14 : decode cD26 14 = .ok (.iand, 1) := by decide +kernel
theorem d29_15 : decode cD26 15 = .ok (.istore 4, 2) := by decide +kernel
theorem d29_17 : decode cD26 17 = .ok (.aload_n 0, 1) := by decide +kernel
theorem d29_18 : decode cD26 18 = .ok (.getfield 7, 3) := by decide +kernel
theorem d29_21 : decode cD26 21 = .ok (.iconst 2, 1) := by decide +kernel
theorem d29_22 : decode cD26 22 = .ok (.iload 4, 2) := by decide +kernel
theorem d29_24 : decode cD26 24 = .ok (.imul, 1) := by decide +kernel
theorem d29_25 : decode cD26 25 = .ok (.iconst 1, 1) := by decide +kernel
theorem d29_26 : decode cD26 26 = .ok (.iadd, 1) := by decide +kernel
theorem d29_27 : decode cD26 27 = .ok (.iaload, 1) := by decide +kernel
theorem d29_28 : decode cD26 28 = .ok (.ifCond .eq 73, 3) := by decide +kernel
theorem d29_101 : decode cD26 101 = .ok (.aload_n 0, 1) := by decide +kernel
theorem d29_102 : decode cD26 102 = .ok (.iload_n 3, 1) := by decide +kernel
theorem d29_103 : decode cD26 103 = .ok (.iconst 0, 1) := by decide +kernel
theorem d29_104 : decode cD26 104 = .ok (.aconst_null, 1) := by decide +kernel
theorem d29_105 : decode cD26 105 = .ok (.iconst 0, 1) := by decide +kernel
theorem d29_106 : decode cD26 106 = .ok (.invokevirtual 35, 3) := by decide +kernel
theorem d29_109 : decode cD26 109 = .ok (.return_, 1) := by decide +kernel
theorem d30_0 : decode cD27 0 = .ok (.aload_n 0, 1) := by decide +kernel
theorem d30_1 : decode cD27 1 = .ok (.getfield 29, 3) := by decide +kernel
theorem d30_4 : decode cD27 4 = .ok (.ifCond .ne 7, 3) := by decide +kernel
theorem d30_7 : decode cD27 7 = .ok (.iconst 1, 1) := by decide +kernel
theorem d30_8 : decode cD27 8 = .ok (.goto 4, 3) := by decide +kernel
theorem d30_11 : decode cD27 11 = .ok (.iconst 0, 1) := by decide +kernel
theorem d30_12 : decode cD27 12 = .ok (.ireturn, 1) := by decide +kernel
theorem d31_0 : decode cD28 0 = .ok (.aload_n 0, 1) := by decide +kernel
theorem d31_1 : decode cD28 1 = .ok (.getfield 30, 3) := by decide +kernel
theorem d31_4 : decode cD28 4 = .ok (.ireturn, 1) := by decide +kernel
theorem d32_0 : decode cD29 0 = .ok (.iconst 3, 1) := by decide +kernel
theorem d32_1 : decode cD29 1 = .ok (.anewarray 2, 3) := by decide +kernel
theorem d32_4 : decode cD29 4 = .ok (.dup, 1) := by decide +kernel
theorem d32_5 : decode cD29 5 = .ok (.iconst 0, 1) := by decide +kernel
theorem d32_6 : decode cD29 6 = .ok (.aload_n 0, 1) := by decide +kernel
theorem d32_7 : decode cD29 7 = .ok (.getfield 17, 3) := by decide +kernel
theorem d32_10 : decode cD29 10 = .ok (.aastore, 1) := by decide +kernel
theorem d32_11 : decode cD29 11 = .ok (.dup, 1) := by decide +kernel
theorem d32_12 : decode cD29 12 = .ok (.iconst 1, 1) := by decide +kernel
theorem d32_13 : decode cD29 13 = .ok (.aload_n 0, 1) := by decide +kernel
theorem d32_14 : decode cD29 14 = .ok (.getfield 24, 3) := by decide +kernel
theorem d32_17 : decode cD29 17 = .ok (.aastore, 1) := by decide +kernel
theorem d32_18 : decode cD29 18 = .ok (.dup, 1) := by decide +kernel
theorem d32_19 : decode cD29 19 = .ok (.iconst 2, 1) := by decide +kernel
theorem d32_20 : decode cD29 20 = .ok (.aload_n 0, 1) := by decide +kernel
theorem d32_21 : decode cD29 21 = .ok (.getfield 26, 3) := by decide +kernel
theorem d32_24 : decode cD29 24 = .ok (.aastore, 1) := by decide +kernel
theorem d32_25 : decode cD29 25 = .ok (.invokestatic 62, 3) := by decide +kernel
theorem d32_28 : decode cD29 28 = .ok (.ireturn, 1) := by decide +kernel
theorem d33_0 : decode cD30 0 = .ok (.aload_n 0, 1) := by decide +kernel
theorem d33_1 : decode cD30 1 = .ok (.invokestatic 28, 3) := by decide +kernel
theorem d33_4 : decode cD30 4 = .ok (.ireturn, 1) := by decide +kernel
theorem d34_0 : decode cD31 0 = .ok (.aload_n 0, 1) := by decide +kernel
theorem d34_1 : decode cD31 1 = .ok (.ifnonnull 5, 3) := by decide +kernel
theorem d34_6 : decode cD31 6 = .ok (.iconst 1, 1) := by decide +kernel
theorem d34_7 : decode cD31 7 = .ok (.istore_n 1, 1) := by decide +kernel
theorem d34_8 : decode cD31 8 = .ok (.aload_n 0, 1) := by decide +kernel
theorem d34_9 : decode cD31 9 = .ok (.astore_n 2, 1) := by decide +kernel
theorem d34_10 : decode cD31 10 = .ok (.aload_n 2, 1) := by decide +kernel
theorem d34_11 : decode cD31 11 = .ok (.arraylength, 1) := by decide +kernel
theorem d34_12 : decode cD31 12 = .ok (.istore_n 3, 1) := by decide +kernel
theorem d34_13 : decode cD31 13 = .ok (.iconst 0, 1) := by decide +kernel
theorem d34_14 : decode cD31 14 = .ok (.istore 4, 2) := by decide +kernel
theorem d34_16 : decode cD31 16 = .ok (.iload 4, 2) := by decide +kernel
theorem d34_18 : decode cD31 18 = .ok (.iload_n 3, 1) := by decide +kernel
theorem d34_19 : decode cD31 19 = .ok (.if_icmp .ge 35, 3) := by decide +kernel
theorem d34_22 : decode cD31 22 = .ok (.aload_n 2, 1) := by decide +kernel
theorem d34_23 : decode cD31 23 = .ok (.iload 4, 2) := by decide +kernel
theorem d34_25 : decode cD31 25 = .ok (.aaload, 1) := by decide +kernel
theorem d34_26 : decode cD31 26 = .ok (.astore 5, 2) := by decide +kernel
theorem d34_28 : decode cD31 28 = .ok (.bipush 31, 2) := by decide +kernel
theorem d34_30 : decode cD31 30 = .ok (.iload_n 1, 1) := by decide +kernel
theorem d34_31 : decode cD31 31 = .ok (.imul, 1) := by decide +kernel
theorem d34_32 : decode cD31 32 = .ok (.aload 5, 2) := by decide +kernel
theorem d34_34 : decode cD31 34 = .ok (.ifnonnull 7, 3) := by decide +kernel
theorem d34_41 : decode cD31 41 = .ok (.aload 5, 2) := by decide +kernel
theorem d34_43 : decode cD31 43 = .ok (.invokevirtual 383, 3) := by decide +kernel
theorem d34_46 : decode cD31 46 = .ok (.iadd, 1) := by decide +kernel
theorem d34_47 : decode cD31 47 = .ok (.istore_n 1, 1) := by decide +kernel
theorem d34_48 : decode cD31 48 = .ok (.iinc 4 1, 3) := by decide +kernel
theorem d34_51 : decode cD31 51 = .ok (.goto (-35), 3) := by decide +kernel
theorem d34_54 : decode cD31 54 = .ok (.iload_n 1, 1) := by decide +kernel
theorem d34_55 : decode cD31 55 = .ok (.ireturn, 1) := by decide +kernel
theorem pn_0 : plainName "java/lang/StringLatin1" = true := by first | (simp [plainName, overriddenIn]; done) | decide +kernel
theorem pn_1 : plainName "java/lang/String" = true := by first | (simp [plainName, overriddenIn]; done) | decide +kernel
theorem pd_0 : parseMethodDescriptor "(C)Z" = some ⟨[.char], some .boolean⟩ := by decide +kernel
theorem pd_1 : parseMethodDescriptor "(C)[B" = some ⟨[.char], some (.array .byte)⟩ := by decide +kernel
theorem pd_2 : parseMethodDescriptor "([BB)V" = some ⟨[(.array .byte), .byte], none⟩ := by decide +kernel
theorem pn_2 : plainName "java/util/Objects" = true := by first | (simp [plainName, overriddenIn]; done) | decide +kernel
theorem pd_3 : parseMethodDescriptor "([B[B)Z" = some ⟨[(.array .byte), (.array .byte)], some .boolean⟩ := by decide +kernel
theorem pd_4 : parseMethodDescriptor "()Z" = some ⟨[], some .boolean⟩ := by decide +kernel
theorem pd_5 : parseMethodDescriptor "([B)I" = some ⟨[(.array .byte)], some .int⟩ := by decide +kernel
theorem pn_3 : plainName "com/example/entitlement/entitlement/Subject" = true := by first | (simp [plainName, overriddenIn]; done) | decide +kernel
theorem pd_6 : parseMethodDescriptor "(Ljava/lang/Object;Ljava/lang/String;)Ljava/lang/Object;" = some ⟨[(.object "java/lang/Object"), (.object "java/lang/String")], some (.object "java/lang/Object")⟩ := by decide +kernel
theorem pd_7 : parseMethodDescriptor "(Ljava/lang/Object;)Z" = some ⟨[(.object "java/lang/Object")], some .boolean⟩ := by decide +kernel
theorem pd_8 : parseMethodDescriptor "(Ljava/lang/String;Ljava/lang/String;Ljava/lang/String;)V" = some ⟨[(.object "java/lang/String"), (.object "java/lang/String"), (.object "java/lang/String")], none⟩ := by decide +kernel
theorem pn_4 : plainName "com/example/entitlement/entitlement/ObjectRef" = true := by first | (simp [plainName, overriddenIn]; done) | decide +kernel
theorem pd_9 : parseMethodDescriptor "()I" = some ⟨[], some .int⟩ := by decide +kernel
theorem pn_5 : plainName "com/example/entitlement/entitlement/Tally" = true := by first | (simp [plainName, overriddenIn]; done) | decide +kernel
theorem pd_10 : parseMethodDescriptor "(I)I" = some ⟨[.int], some .int⟩ := by decide +kernel
theorem pd_11 : parseMethodDescriptor "(IILjava/lang/Object;I)V" = some ⟨[.int, .int, (.object "java/lang/Object"), .int], none⟩ := by decide +kernel
theorem pn_6 : plainName "java/util/Arrays" = true := by first | (simp [plainName, overriddenIn]; done) | decide +kernel
theorem pd_12 : parseMethodDescriptor "([Ljava/lang/Object;)I" = some ⟨[(.array (.object "java/lang/Object"))], some .int⟩ := by decide +kernel
theorem pd_13 : parseMethodDescriptor "(Ljava/lang/Object;I)I" = some ⟨[(.object "java/lang/Object"), .int], some .int⟩ := by decide +kernel
theorem pd_14 : parseMethodDescriptor "(I)V" = some ⟨[.int], none⟩ := by decide +kernel
theorem pn_7 : plainName "com/example/entitlement/entitlement/CountedHolders" = true := by first | (simp [plainName, overriddenIn]; done) | decide +kernel
theorem pd_15 : parseMethodDescriptor "()V" = some ⟨[], none⟩ := by decide +kernel
theorem pd_16 : parseMethodDescriptor "(Ljava/lang/Object;)V" = some ⟨[(.object "java/lang/Object")], none⟩ := by decide +kernel
theorem pd_17 : parseMethodDescriptor "(Lcom/example/entitlement/entitlement/Tally;Ljava/lang/Object;)Lcom/example/entitlement/entitlement/Tally;" = some ⟨[(.object "com/example/entitlement/entitlement/Tally"), (.object "java/lang/Object")], some (.object "com/example/entitlement/entitlement/Tally")⟩ := by decide +kernel
theorem pn_8 : plainName "com/example/entitlement/entitlement/Holders" = true := by first | (simp [plainName, overriddenIn]; done) | decide +kernel
theorem pn_9 : plainName "com/example/entitlement/entitlement/CountedHoldersIsEmptyPinLaw" = true := by first | (simp [plainName, overriddenIn]; done) | decide +kernel
theorem pd_18 : parseMethodDescriptor "(C)Ljava/lang/String;" = some ⟨[.char], some (.object "java/lang/String")⟩ := by decide +kernel
theorem pd_19 : parseMethodDescriptor "(Ljava/lang/String;Ljava/lang/String;Ljava/lang/String;)Lcom/example/entitlement/entitlement/Subject;" = some ⟨[(.object "java/lang/String"), (.object "java/lang/String"), (.object "java/lang/String")], some (.object "com/example/entitlement/entitlement/Subject")⟩ := by decide +kernel
theorem pd_20 : parseMethodDescriptor "(Ljava/lang/String;Ljava/lang/String;)V" = some ⟨[(.object "java/lang/String"), (.object "java/lang/String")], none⟩ := by decide +kernel
theorem pd_21 : parseMethodDescriptor "(Lcom/example/entitlement/entitlement/CountedHolders;[Ljava/lang/Object;[II)Z" = some ⟨[(.object "com/example/entitlement/entitlement/CountedHolders"), (.array (.object "java/lang/Object")), (.array .int), .int], some .boolean⟩ := by decide +kernel
theorem own_nat {n : Nat} (h : n < 2147483648) : (Int32.ofNat n).toInt = n := Int32.toInt_ofNat_small h
theorem own_clamp {n : Nat} (h : n < 2147483648) : (Int32.ofNat n).toNatClampNeg = n := by simp only [Int32.toNatClampNeg, own_nat h]; rfl
theorem own_nlt {i n : Nat} (hi : i < 2147483648) (hn : n < 2147483648) : Int32.ofNat i < Int32.ofNat n ↔ i < n := by rw [Int32.lt_iff_toInt_lt, own_nat hi, own_nat hn]; omega
theorem own_ninj {i n : Nat} (hi : i < 2147483648) (hn : n < 2147483648) : Int32.ofNat i = Int32.ofNat n ↔ i = n := by rw [← Int32.toInt_inj, own_nat hi, own_nat hn]; omega
theorem own_succ {i : Nat} : Int32.ofNat i + (1 : Int32) = Int32.ofNat (i + 1) := by rw [Int32.ofNat_add]; rfl
theorem own_nn {n : Nat} (h : n < 2147483648) : ¬ Int32.ofNat n < 0 := by rw [Int32.lt_iff_toInt_lt, own_nat h]; show ¬ (n : Int) < 0; omega
def own_lo (c : Int32) : Int32 := c.toInt8.toInt32
def own_hi (c : Int32) : Int32 := own_lo (c >>> ((8 : Int32) &&& 31))
def own_pair (u v : Int32) : Int32 := (((u &&& 255) <<< ((0 : Int32) &&& 31)) ||| ((v &&& 255) <<< ((8 : Int32) &&& 31))).toUInt32.toUInt16.toUInt32.toInt32
theorem own_255 : ∀ i : Nat, i < 32 → (255 : Int32).toBitVec.getLsbD i = decide (i < 8) := by decide
theorem own_and_lo (x : Int32) : own_lo x &&& 255 = x &&& 255 := by
  apply Int32.toBitVec_inj.mp
  simp only [own_lo, Int32.toBitVec_and, Int8.toBitVec_toInt32, Int32.toBitVec_toInt8]
  apply BitVec.eq_of_getLsbD_eq
  intro i hi
  simp only [BitVec.getLsbD_and, own_255 i hi]
  by_cases h : i < 8
  · simp only [h, decide_true, Bool.and_true, BitVec.getLsbD_signExtend, BitVec.getLsbD_setWidth, if_true, hi, Bool.true_and]
  · simp [h]
theorem own_pair_eq {c : Int32} (h0 : ¬ c < 0) (h1 : ¬ 65535 < c) : own_pair (own_lo (c >>> ((0 : Int32) &&& 31))) (own_hi c) = c := by
  have hb : c.toBitVec.toNat < 2 ^ 16 := by
    rw [Int32.lt_iff_toInt_lt] at h0 h1
    have z0 : (0 : Int32).toInt = 0 := rfl
    have z1 : (65535 : Int32).toInt = 65535 := rfl
    have q : c.toInt = c.toBitVec.toInt := rfl
    rw [z0, q, BitVec.toInt_eq_toNat_cond] at h0
    rw [z1, q, BitVec.toInt_eq_toNat_cond] at h1
    split at h0 <;> split at h1 <;> omega
  have e0 : c >>> ((0 : Int32) &&& 31) = c := by
    apply Int32.toBitVec_inj.mp
    simp
  unfold own_pair own_hi
  rw [own_and_lo, own_and_lo, e0]
  apply Int32.toBitVec_inj.mp
  apply BitVec.eq_of_getLsbD_eq
  intro i hi
  have big : 16 ≤ i → c.toBitVec.getLsbD i = false := fun q => by
    rw [← BitVec.testBit_toNat]
    exact Nat.testBit_lt_two_pow (Nat.lt_of_lt_of_le hb (Nat.pow_le_pow_right (by decide) q))
  have s0 : ∀ y : Int32, y <<< ((0 : Int32) &&& 31) = y := fun y => by apply Int32.toBitVec_inj.mp; simp
  have s8 : ∀ y : Int32, (y <<< ((8 : Int32) &&& 31)).toBitVec = y.toBitVec <<< 8 := fun y => by simp
  have r8 : ∀ y : Int32, (y >>> ((8 : Int32) &&& 31)).toBitVec = y.toBitVec.sshiftRight 8 := fun y => by simp
  have t16 : ∀ y : Int32, y.toUInt32.toUInt16.toUInt32.toInt32.toBitVec = (y.toBitVec.setWidth 16).setWidth 32 := fun y => rfl
  rw [s0, t16]
  simp only [Int32.toBitVec_or, Int32.toBitVec_and, s8, r8, BitVec.getLsbD_setWidth, BitVec.getLsbD_or, BitVec.getLsbD_and, BitVec.getLsbD_shiftLeft, BitVec.getLsbD_sshiftRight, hi]
  have q1 : (255#32).getLsbD i = decide (i < 8) := own_255 i hi
  have q2 : (255#32).getLsbD (i - 8) = decide (i - 8 < 8) := own_255 (i - 8) (by omega)
  by_cases h8 : i < 8
  · simp [h8, q1, show i < 16 by omega]
  · by_cases h16 : i < 16
    · simp [h8, h16, q1, q2, show i - 8 < 8 by omega, show 8 + (i - 8) = i by omega, show ¬ 32 ≤ i - 8 by omega, hi]
      intro a _; exact a
    · simp [h16, big (by omega)]
theorem own_shr0 (c : Int32) : c >>> ((0 : Int32) &&& 31) = c := by apply Int32.toBitVec_inj.mp; simp
theorem own_lolo (c : Int32) : own_lo (own_lo c) = own_lo c := by simp only [own_lo, Int8.toInt8_toInt32]
def own_fit : List Int32 → Nat
  | [] => 0
  | c :: cs => if 255 < c then 0 else own_fit cs + 1
def own_u16 : List Int32 → List Int32
  | [] => []
  | c :: cs => own_lo c :: own_hi c :: own_u16 cs
theorem own_fit_le (cs : List Int32) : own_fit cs ≤ cs.length := by
  induction cs with
  | nil => exact Nat.le_refl _
  | cons c cs ih => unfold own_fit; split <;> simp <;> omega
theorem own_fit_all (cs : List Int32) (h : own_fit cs = cs.length) : ∀ c ∈ cs, ¬ (255 : Int32) < c := by
  induction cs with
  | nil => intro c hc; cases hc
  | cons d cs ih =>
    unfold own_fit at h
    split at h
    · simp at h
    · rename_i hd
      intro c hc
      rcases List.mem_cons.mp hc with rfl | hc
      · exact hd
      · exact ih (by simpa using h) c hc
theorem own_fit_at (cs : List Int32) (h : own_fit cs < cs.length) : (255 : Int32) < cs.getD (own_fit cs) 0 := by
  induction cs with
  | nil => exact absurd h (Nat.lt_irrefl _)
  | cons d cs ih =>
    unfold own_fit at h ⊢
    split
    · rename_i hd; simpa using hd
    · rename_i hd
      rw [if_neg hd] at h
      have := ih (by simpa using h)
      simpa using this
theorem own_u16_len (cs : List Int32) : (own_u16 cs).length = 2 * cs.length := by
  induction cs with
  | nil => rfl
  | cons c cs ih => simp only [own_u16, List.length_cons, ih]; omega
theorem own_u16_app (cs ds : List Int32) : own_u16 (cs ++ ds) = own_u16 cs ++ own_u16 ds := by
  induction cs with
  | nil => rfl
  | cons c cs ih => simp only [List.cons_append, own_u16, ih]
theorem own_u16_get (cs : List Int32) : ∀ i, i < cs.length → (own_u16 cs).getD (2 * i) 0 = own_lo (cs.getD i 0) ∧ (own_u16 cs).getD (2 * i + 1) 0 = own_hi (cs.getD i 0) := by
  induction cs with
  | nil => intro i h; exact absurd h (Nat.not_lt_zero i)
  | cons c cs ih =>
    intro i h
    cases i with
    | zero => exact ⟨rfl, rfl⟩
    | succ i =>
      have e1 : 2 * (i + 1) = 2 * i + 1 + 1 := by omega
      have := ih i (by simpa using h)
      simp only [own_u16, e1, List.getD_cons_succ]
      exact this
theorem own_take_succ (cs : List Int32) (i : Nat) (h : i < cs.length) : cs.take (i + 1) = cs.take i ++ [cs.getD i 0] := by
  rw [List.take_add_one, List.getElem?_eq_getElem h, List.getD_eq_getElem?_getD, List.getElem?_eq_getElem h]; rfl
theorem own_drop_succ (cs : List Int32) (i : Nat) (h : i < cs.length) : cs.drop i = cs.getD i 0 :: cs.drop (i + 1) := by
  rw [List.getD_eq_getElem?_getD, List.getElem?_eq_getElem h]; exact List.drop_eq_getElem_cons h
theorem own_bget (bs : List Int32) (j : Nat) : (bs.map Value.int).getD j (.int 0) = .int (bs.getD j 0) := by
  simp only [List.getD_eq_getElem?_getD, List.getElem?_map]
  cases bs[j]? <;> rfl
/-- a byte stored behind the ones that stand -/
theorem own_pushB {Z : State} {h h' : Heap} {a : Addr} {k : ClassId} {z v : Int32} {xs : List Int32} {j : Nat} (A : Arv Z h a k .byte z (xs.map Value.int) (.int 0)) (hj : j = xs.length) (W : Wr h h' a j (.int (own_lo v))) : Arv Z h' a k .byte z ((xs ++ [own_lo v]).map Value.int) (.int 0) := by
  have P : Arv Z h a k .byte z (xs.map Value.int ++ [.int 0]) (.int 0) := A.pad (pad_rep _ _ 1)
  obtain ⟨c', A', r1, r2, r3, r4, r5⟩ := P
  by_cases hn : xs.length < 2147483648
  · have e := Arv.set A' r1 r2 r3 r4 r5 (v := .int (own_lo v)) (fits_nar_byte _) (j := Int32.ofNat xs.length) (by rw [own_clamp hn, ← hj]; exact W) xs.length (own_clamp hn) (by simp)
    have e2 : (xs.map Value.int ++ [Value.int 0]).set xs.length (.int (own_lo v)) = (xs ++ [own_lo v]).map Value.int := by
      rw [List.map_append, List.set_append_right _ _ (by simp)]; simp
    rw [e2] at e; exact e
  · exfalso
    obtain ⟨c, hc, -, hlt, -⟩ := W
    have q : c' = c := by have := A'.1.symm.trans hc; simpa using this
    subst q
    have : z.toNatClampNeg < 2147483648 := by have := z.toInt_lt; have e : z.toNatClampNeg = z.toInt.toNat := rfl; omega
    omega
theorem own_one (v : Int32) : One (vI v) := Or.inr ⟨_, rfl, rfl⟩
theorem own_os6c {a d : Addr} {b e f g v : Int32} {s6 : Slot} (h : One s6) : storeLocals #[vR a, vI b, vR d, vI e, vI f, vI g, s6] 6 (.int v) = some #[vR a, vI b, vR d, vI e, vI f, vI g, vI v] := by
  rcases h with rfl | ⟨w, rfl, hw⟩
  · rfl
  · cases w <;> first | rfl | (simp [Value.category] at hw)
theorem own_dbl_all : ∀ n : Fin 17, Int32.ofNat n.val <<< ((1 : Int32) &&& 31) = Int32.ofNat (2 * n.val) := by decide +kernel
theorem own_dbl {n : Nat} (h : n ≤ 16) : Int32.ofNat n <<< ((1 : Int32) &&& 31) = Int32.ofNat (2 * n) := own_dbl_all ⟨n, by omega⟩
theorem own_hlf_all : ∀ n : Fin 17, Int32.ofNat (2 * n.val) >>> ((1 : Int32) &&& 31) = Int32.ofNat n.val := by decide +kernel
theorem own_hlf {n : Nat} (h : n ≤ 16) : Int32.ofNat (2 * n) >>> ((1 : Int32) &&& 31) = Int32.ofNat n := own_hlf_all ⟨n, by omega⟩
def own_cdr (n z : Int32) : Int32 := nar .byte ((((n - z).toUInt32 >>> ((31 : Int32) &&& 31).toUInt32).toInt32).toInt8.toInt32)
theorem own_cdr0 (n : Int32) : own_cdr n n = 0 := by unfold own_cdr; rw [Int32.sub_self]; rfl
theorem own_cdr1_all : ∀ n : Fin 17, 0 < n.val → own_cdr (Int32.ofNat n.val) (Int32.ofNat (2 * n.val)) = 1 := by decide +kernel
theorem own_cdr1 {n : Nat} (h0 : 0 < n) (h : n ≤ 16) : own_cdr (Int32.ofNat n) (Int32.ofNat (2 * n)) = 1 := own_cdr1_all ⟨n, by omega⟩ h0
theorem own_narc {c : Int32} (h : ¬ c < 0 ∧ ¬ (65535 : Int32) < c) : nar .char c = c := by
  have q := own_pair_eq h.1 h.2
  show c.toUInt32.toUInt16.toUInt32.toInt32 = c
  rw [← q]; unfold own_pair
  have t16 : ∀ y : Int32, y.toUInt32.toUInt16.toUInt32.toInt32.toBitVec = (y.toBitVec.setWidth 16).setWidth 32 := fun y => rfl
  apply Int32.toBitVec_inj.mp
  rw [t16, t16]
  apply BitVec.eq_of_getLsbD_eq
  intro i hi
  simp only [BitVec.getLsbD_setWidth]
  by_cases h16 : i < 16 <;> simp [h16, hi]
theorem own_mem (cs : List Int32) (i : Nat) (h : i < cs.length) : cs.getD i 0 ∈ cs := by
  rw [List.getD_eq_getElem?_getD, List.getElem?_eq_getElem h]; exact List.getElem_mem h
theorem own_u16_ch (cs : List Int32) (i : Nat) (h : i < cs.length) (hp : ¬ cs.getD i 0 < 0 ∧ ¬ (65535 : Int32) < cs.getD i 0) : nar .char (own_pair ((own_u16 cs).getD (2 * i) 0) ((own_u16 cs).getD (2 * i + 1) 0)) = cs.getD i 0 := by
  obtain ⟨e1, e2⟩ := own_u16_get cs i h
  have q := own_pair_eq hp.1 hp.2
  rw [own_shr0] at q
  rw [e1, e2, q, own_narc hp]
theorem own_logetD (cs : List Int32) (i : Nat) (h : i < cs.length) : (cs.map own_lo).getD i 0 = own_lo (cs.getD i 0) := by
  rw [List.getD_eq_getElem?_getD, List.getD_eq_getElem?_getD, List.getElem?_map, List.getElem?_eq_getElem h]; rfl
theorem own_and255 {c : Int32} (h0 : ¬ c < 0) (h1 : ¬ (255 : Int32) < c) : c &&& 255 = c := by
  have hb : c.toBitVec.toNat < 2 ^ 8 := by
    rw [Int32.lt_iff_toInt_lt] at h0 h1
    have z0 : (0 : Int32).toInt = 0 := rfl
    have z1 : (255 : Int32).toInt = 255 := rfl
    have q : c.toInt = c.toBitVec.toInt := rfl
    rw [z0, q, BitVec.toInt_eq_toNat_cond] at h0
    rw [z1, q, BitVec.toInt_eq_toNat_cond] at h1
    split at h0 <;> split at h1 <;> omega
  apply Int32.toBitVec_inj.mp
  apply BitVec.eq_of_getLsbD_eq
  intro i hi
  have q1 : (255#32).getLsbD i = decide (i < 8) := own_255 i hi
  rw [Int32.toBitVec_and, BitVec.getLsbD_and]
  show (c.toBitVec.getLsbD i && (255#32).getLsbD i) = _
  rw [q1]
  by_cases h8 : i < 8
  · simp [h8]
  · have : c.toBitVec.getLsbD i = false := by
      rw [← BitVec.testBit_toNat]
      exact Nat.testBit_lt_two_pow (Nat.lt_of_lt_of_le hb (Nat.pow_le_pow_right (by decide) (by omega)))
    simp [this]
theorem own_l1 {c : Int32} (h : ¬ c < 0 ∧ ¬ (65535 : Int32) < c) (h1 : ¬ (255 : Int32) < c) : nar .char ((own_lo c &&& (255 : Int32)).toUInt32.toUInt16.toUInt32.toInt32) = c := by
  have e : own_lo c &&& (255 : Int32) = c := by rw [own_and_lo, own_and255 h.1 h1]
  rw [e]
  have q := own_narc h
  rw [show c.toUInt32.toUInt16.toUInt32.toInt32 = nar .char c from rfl, q, q]
theorem own_ncb (y : Int32) : ¬ nar .char y < 0 ∧ ¬ (65535 : Int32) < nar .char y := by
  have t16 : (nar .char y).toBitVec = (y.toBitVec.setWidth 16).setWidth 32 := rfl
  have hb : (nar .char y).toBitVec.toNat < 65536 := by
    rw [t16, BitVec.toNat_setWidth, BitVec.toNat_setWidth]
    exact Nat.lt_of_le_of_lt (Nat.mod_le _ _) (Nat.mod_lt _ (by decide))
  have q : (nar .char y).toInt = (nar .char y).toBitVec.toInt := rfl
  rw [BitVec.toInt_eq_toNat_cond] at q
  have z0 : (0 : Int32).toInt = 0 := rfl
  have z1 : (65535 : Int32).toInt = 65535 := rfl
  rw [Int32.lt_iff_toInt_lt, Int32.lt_iff_toInt_lt, z0, z1, q]
  split <;> omega
theorem own_from (a : Int32) : ∃ f : Nat, f ≤ 5 ∧ (a &&& (2147483647 : Int32)) % (6 : Int32) = Int32.ofNat f := by
  have e1 : (a &&& (2147483647 : Int32)).toInt = a.toInt % 2 ^ 31 := Jvm.Kit.i32_mask a _ (k := 31) (by decide) (by decide)
  have h0 : (0 : Int) ≤ (a &&& (2147483647 : Int32)).toInt := by rw [e1]; omega
  have e2 := Jvm.Kit.i32_rem_nonneg (x := a &&& (2147483647 : Int32)) (y := (6 : Int32)) h0
  have e3 : (6 : Int32).toInt = 6 := rfl
  rw [e3] at e2
  exact ⟨((a &&& (2147483647 : Int32)) % (6 : Int32)).toInt.toNat, by omega, by rw [← Int32.toInt_inj, own_nat (by omega)]; omega⟩
theorem own_bext {bs ds : List Int32} (hl : bs.length = ds.length) (h : ∀ j, j < bs.length → bs.getD j 0 = ds.getD j 0) : bs = ds := by
  apply List.ext_getElem hl
  intro j h1 h2
  have q := h j h1
  simp only [List.getD_eq_getElem?_getD, List.getElem?_eq_getElem h1, List.getElem?_eq_getElem h2, Option.getD_some] at q
  exact q
/-- a Latin-1 String: its class, coder, value array, and the bytes in it -/
def Lat (Z : State) (h : Heap) (x : Addr) (t : Addr) (kb : ClassId) (bs : List Int32) : Prop := Exa Z h x "java/lang/String" ∧ Fld Z h x "java/lang/String" "coder" "B" (.int 0) ∧ Fld Z h x "java/lang/String" "value" "[B" (.ref t) ∧ Arv Z h t kb .byte (Int32.ofNat bs.length) (bs.map Value.int) (.int 0) ∧ bs.length ≤ 4000
theorem own_arveq {Z : State} {h : Heap} {t : Addr} {kb kb' : ClassId} {bs ds : List Int32} (K : Arv Z h t kb .byte (Int32.ofNat bs.length) (bs.map Value.int) (.int 0)) (K' : Arv Z h t kb' .byte (Int32.ofNat ds.length) (ds.map Value.int) (.int 0)) (l1 : bs.length ≤ 4000) (l2 : ds.length ≤ 4000) : bs = ds := by
  obtain ⟨c1, A1, -, S1, -, H1, -⟩ := K
  obtain ⟨c2, A2, -, S2, -, H2, -⟩ := K'
  cases A1.1.symm.trans A2.1
  rw [own_clamp (by omega)] at S1 S2
  refine own_bext (S1.symm.trans S2) fun j hj => ?_
  have q := (H1 j (by omega)).symm.trans (H2 j (by omega))
  rw [own_bget, own_bget] at q
  simpa using q
theorem Lat.same {Z : State} {h : Heap} {x t t' : Addr} {kb kb' : ClassId} {bs ds : List Int32} (A : Lat Z h x t kb bs) (B : Lat Z h x t' kb' ds) : bs = ds := by
  by_cases q : t = t'
  · subst q; exact own_arveq A.2.2.2.1 B.2.2.2.1 A.2.2.2.2 B.2.2.2.2
  · exact absurd rfl (A.2.2.1.ne B.2.2.1 (fun e => q (Value.ref.inj e)))
theorem Lat.ext {Z : State} {h h' : Heap} {x t : Addr} {kb : ClassId} {bs : List Int32} (A : Lat Z h x t kb bs) (E : Ext h h') : Lat Z h' x t kb bs := ⟨A.1.ext E, A.2.1.ext E, A.2.2.1.ext E, A.2.2.2.1.ext E, A.2.2.2.2⟩
theorem Lat.keep {Z : State} {h h' : Heap} {x t : Addr} {kb : ClassId} {bs : List Int32} {ws : List Addr} (A : Lat Z h x t kb bs) (K : Keep h h' ws) (q1 : x ∉ ws) (q2 : t ∉ ws) : Lat Z h' x t kb bs := ⟨A.1.keep K, A.2.1.keep K q1, A.2.2.1.keep K q1, A.2.2.2.1.keep K q2, A.2.2.2.2⟩
/-- a String of one sign, its hash at rest or known -/
def S1 (Z : State) (h : Heap) (x t : Addr) (kt : ClassId) (c : Int32) : Prop := Lat Z h x t kt [own_lo c] ∧ ∃ hv zv : Int32, Fld Z h x "java/lang/String" "hash" "I" (.int hv) ∧ Fld Z h x "java/lang/String" "hashIsZero" "Z" (.int zv) ∧ (hv = 0 ∨ hv = c) ∧ (zv = 0 ∨ (c = 0 ∧ hv = 0))
theorem S1.keep {Z : State} {h h' : Heap} {x t : Addr} {kt : ClassId} {c : Int32} {ws : List Addr} (A : S1 Z h x t kt c) (K : Keep h h' ws) (q1 : x ∉ ws) (q2 : t ∉ ws) : S1 Z h' x t kt c := by
  obtain ⟨L, hv, zv, f1, f2, r⟩ := A
  exact ⟨L.keep K q1 q2, hv, zv, f1.keep K q1, f2.keep K q1, r⟩
theorem S1.ext {Z : State} {h h' : Heap} {x t : Addr} {kt : ClassId} {c : Int32} (A : S1 Z h x t kt c) (E : Ext h h') : S1 Z h' x t kt c := by
  obtain ⟨L, hv, zv, f1, f2, r⟩ := A
  exact ⟨L.ext E, hv, zv, f1.ext E, f2.ext E, r⟩
theorem S1.exa {Z : State} {h : Heap} {x t : Addr} {kt : ClassId} {c : Int32} (A : S1 Z h x t kt c) : Exa Z h x "java/lang/String" := A.1.1
theorem S1.arv {Z : State} {h : Heap} {x t : Addr} {kt : ClassId} {c : Int32} (A : S1 Z h x t kt c) : Arv Z h t kt .byte (Int32.ofNat [own_lo c].length) ([own_lo c].map Value.int) (.int 0) := A.1.2.2.2.1
theorem own_c255 (y : Int32) : ∃ c : Int32, (y &&& (255 : Int32)).toUInt32.toUInt16.toUInt32.toInt32 = c ∧ ¬ c < 0 ∧ ¬ (255 : Int32) < c := by
  have e1 : (y &&& (255 : Int32)).toInt = y.toInt % 2 ^ 8 := Jvm.Kit.i32_mask y _ (k := 8) (by decide) (by decide)
  have z0 : (0 : Int32).toInt = 0 := rfl
  have z1 : (255 : Int32).toInt = 255 := rfl
  have z2 : (65535 : Int32).toInt = 65535 := rfl
  have b1 : ¬ (y &&& (255 : Int32)) < 0 := by rw [Int32.lt_iff_toInt_lt, e1, z0]; omega
  have b2 : ¬ (255 : Int32) < (y &&& (255 : Int32)) := by rw [Int32.lt_iff_toInt_lt, e1, z1]; omega
  have b3 : ¬ (65535 : Int32) < (y &&& (255 : Int32)) := by rw [Int32.lt_iff_toInt_lt, e1, z2]; omega
  exact ⟨y &&& 255, own_narc ⟨b1, b3⟩, b1, b2⟩
theorem own_arvne {Z : State} {h : Heap} {a b : Addr} {k k' : ClassId} {ty ty' : FieldType} {z z' : Int32} {vs vs' : List Value} {d d' : Value} (A : Arv Z h a k ty z vs d) (B : Arv Z h b k' ty' z' vs' d') (hne : ty ≠ ty') : a ≠ b := fun q => by
  subst q
  obtain ⟨c, A1, -⟩ := A
  obtain ⟨c', B1, -⟩ := B
  cases A1.1.symm.trans B1.1
  obtain ⟨-, kA, hkA, compA, hkindA⟩ := A1.2.1
  obtain ⟨-, kB, hkB, compB, hkindB⟩ := B1.2.1
  cases hkA.symm.trans hkB
  have := hkindA.symm.trans hkindB
  injection this with _ e
  exact hne e
theorem own_nfO {Z s : State} {a0 : Array Value} {y : MethodName} (hZ : Z.Warmed39 s.vm) (w0 : (Cond.noSuperclass "java/lang/Object").before a0 Z = true) (hy : y.cls = "java/lang/Object") : NotFace s y := fun r0 h0 => by
  obtain ⟨c, k, h1, h2, -, -, h5⟩ := Cond.noSuperclass_spec w0
  have hf := findClass_of_methodNamed h0
  rw [hy, hZ.alike.findClass, h1] at hf
  cases hf
  obtain ⟨k', q1, q2⟩ := hZ.alike.2.2 _ _ h2
  exact ⟨k', q1, by rw [q2]; exact h5⟩
theorem own_selP {Z : State} {a0 : Array Value} {y : MethodName} {n : Nat} (wi : (Cond.instantiable y.cls n).before a0 Z = true) (wp : (Cond.privateMethod y).before a0 Z = true) (wm : (Cond.instanceMethod y).before a0 Z = true) (hy : y.cls ≠ "java/lang/invoke/MethodHandle" ∧ y.cls ≠ "java/lang/invoke/VarHandle") : (Cond.selects y.cls y y).before a0 Z = true := by
  obtain ⟨c, k, h1, h2, -, h4, -⟩ := Cond.instantiable_spec wi
  have hni : k.isInterface = false := by
    cases hq : k.isInterface with
    | false => rfl
    | true => rw [hq] at h4; simp at h4
  exact selects_self_of_private h1 h2 hni (Cond.privateMethod_at wp) wm hy
/-- an instance of C, a class right below Object, is no instance of the ordinary class K -/
theorem own_nosub {Z : State} {a0 : Array Value} {C K : String} {n : Nat} (w0 : (Cond.noSuperclass "java/lang/Object").before a0 Z = true) (w : (Cond.superclass C "java/lang/Object").before a0 Z = true) (wk : (Cond.instantiable K n).before a0 Z = true) (hn : C ≠ K) (ho : "java/lang/Object" ≠ K) : ∃ c t, Z.vm.findClass C = some c ∧ Z.vm.findClass K = some t ∧ Z.vm.assignable c t = false := by
  obtain ⟨t, kt, g1, g2, g3, g4, -⟩ := Cond.instantiable_spec wk
  have gi : kt.isInterface = false := by
    cases hq : kt.isInterface with
    | false => rfl
    | true => rw [hq] at g4; simp at g4
  have n0 : NS Z "java/lang/Object" K := by
    obtain ⟨c, k, h1, h2, h3, -, -⟩ := Cond.noSuperclass_spec w0
    have ne := ids_ne h1 g1 ho
    refine ⟨c, t, h1, g1, fun fuel => ?_⟩
    cases fuel with
    | zero => rfl
    | succ f => simp [Vm.isSubclassAux, ne, h2, h3]
  obtain ⟨c, t', h0, g0, n3⟩ := NS.step w n0 hn
  cases g1.symm.trans g0
  obtain ⟨p, k, kp, h1, h2, h3, h4, h5, -, h7⟩ := Cond.superclass_spec h0 w
  have ne := ids_ne h0 g1 hn
  refine ⟨c, t, h0, g1, ?_⟩
  show Z.vm.assignableAux (255 + 1) c t = false
  simp [Vm.assignableAux, ne, h2, g2, h5, g3, gi, Vm.isSubclass, n3]
def own_home (w : Int32) : Int32 := (((w * (-1640531527 : Int32)).toUInt32 >>> ((31 : Int32) &&& 31).toUInt32).toInt32)
theorem own_u31 (u : UInt32) : (u >>> (31 : UInt32)).toInt32 = 0 ∨ (u >>> (31 : UInt32)).toInt32 = 1 := by
  have e : (u >>> (31 : UInt32)).toNat = u.toNat / 2 ^ 31 := by rw [UInt32.toNat_shiftRight]; rw [Nat.shiftRight_eq_div_pow]; rfl
  have hlt := u.toNat_lt
  have : (u >>> (31 : UInt32)).toNat = 0 ∨ (u >>> (31 : UInt32)).toNat = 1 := by rw [e]; omega
  rcases this with q | q
  · left; rw [show u >>> (31 : UInt32) = 0 from UInt32.toNat_inj.mp q]; rfl
  · right; rw [show u >>> (31 : UInt32) = 1 from UInt32.toNat_inj.mp q]; rfl
theorem own_home_b (w : Int32) : own_home w = 0 ∨ own_home w = 1 := own_u31 _
def own_hs (b w m : Int32) : List Value := if b = 0 then [.int w, .int m, .int 0, .int 0] else [.int 0, .int 0, .int w, .int m]
def own_ks (b : Int32) (k : Addr) : List Value := if b = 0 then [.ref k, .null] else [.null, .ref k]
theorem own_hs0 (w m : Int32) : own_hs 0 w m = [.int w, .int m, .int 0, .int 0] := rfl
theorem own_hs1 (w m : Int32) : own_hs 1 w m = [.int 0, .int 0, .int w, .int m] := rfl
theorem own_ks0 (k : Addr) : own_ks 0 k = [.ref k, .null] := rfl
theorem own_ks1 (k : Addr) : own_ks 1 k = [.null, .ref k] := rfl
abbrev cSt : String := "java/lang/String"
abbrev cSu : String := "com/example/entitlement/entitlement/Subject"
abbrev cOr : String := "com/example/entitlement/entitlement/ObjectRef"
abbrev cTa : String := "com/example/entitlement/entitlement/Tally"
/-- what is said of the keys' places and signs -/
def KD (n0 B : Nat) (t tt i ti r tr k1 k2 : Addr) (ct ci cr : Int32) : Prop := (t ≠ i) ∧ (t ≠ r) ∧ (i ≠ r) ∧ (ti ≠ t) ∧ (tr ≠ t) ∧ (tt ≠ i) ∧ (tr ≠ i) ∧ (tt ≠ r) ∧ (ti ≠ r) ∧ (k1 ≠ t) ∧ (k1 ≠ i) ∧ (k1 ≠ r) ∧ (k2 ≠ t) ∧ (k2 ≠ i) ∧ (k2 ≠ r) ∧ (n0 ≤ t) ∧ (n0 ≤ i) ∧ (n0 ≤ r) ∧ (t < B) ∧ (tt < B) ∧ (i < B) ∧ (ti < B) ∧ (r < B) ∧ (tr < B) ∧ (k1 < B) ∧ (k2 < B) ∧ (¬ ct < 0) ∧ (¬ (255 : Int32) < ct) ∧ (¬ ci < 0) ∧ (¬ (255 : Int32) < ci) ∧ (¬ cr < 0) ∧ (¬ (255 : Int32) < cr)
theorem KD.d1 {n0 B : Nat} {t tt i ti r tr k1 k2 : Addr} {ct ci cr : Int32} (q_ : KD n0 B t tt i ti r tr k1 k2 ct ci cr) : t ≠ i := q_.1
theorem KD.d2 {n0 B : Nat} {t tt i ti r tr k1 k2 : Addr} {ct ci cr : Int32} (q_ : KD n0 B t tt i ti r tr k1 k2 ct ci cr) : t ≠ r := q_.2.1
theorem KD.d3 {n0 B : Nat} {t tt i ti r tr k1 k2 : Addr} {ct ci cr : Int32} (q_ : KD n0 B t tt i ti r tr k1 k2 ct ci cr) : i ≠ r := q_.2.2.1
theorem KD.e1 {n0 B : Nat} {t tt i ti r tr k1 k2 : Addr} {ct ci cr : Int32} (q_ : KD n0 B t tt i ti r tr k1 k2 ct ci cr) : ti ≠ t := q_.2.2.2.1
theorem KD.e2 {n0 B : Nat} {t tt i ti r tr k1 k2 : Addr} {ct ci cr : Int32} (q_ : KD n0 B t tt i ti r tr k1 k2 ct ci cr) : tr ≠ t := q_.2.2.2.2.1
theorem KD.e3 {n0 B : Nat} {t tt i ti r tr k1 k2 : Addr} {ct ci cr : Int32} (q_ : KD n0 B t tt i ti r tr k1 k2 ct ci cr) : tt ≠ i := q_.2.2.2.2.2.1
theorem KD.e4 {n0 B : Nat} {t tt i ti r tr k1 k2 : Addr} {ct ci cr : Int32} (q_ : KD n0 B t tt i ti r tr k1 k2 ct ci cr) : tr ≠ i := q_.2.2.2.2.2.2.1
theorem KD.e5 {n0 B : Nat} {t tt i ti r tr k1 k2 : Addr} {ct ci cr : Int32} (q_ : KD n0 B t tt i ti r tr k1 k2 ct ci cr) : tt ≠ r := q_.2.2.2.2.2.2.2.1
theorem KD.e6 {n0 B : Nat} {t tt i ti r tr k1 k2 : Addr} {ct ci cr : Int32} (q_ : KD n0 B t tt i ti r tr k1 k2 ct ci cr) : ti ≠ r := q_.2.2.2.2.2.2.2.2.1
theorem KD.f1 {n0 B : Nat} {t tt i ti r tr k1 k2 : Addr} {ct ci cr : Int32} (q_ : KD n0 B t tt i ti r tr k1 k2 ct ci cr) : k1 ≠ t := q_.2.2.2.2.2.2.2.2.2.1
theorem KD.f2 {n0 B : Nat} {t tt i ti r tr k1 k2 : Addr} {ct ci cr : Int32} (q_ : KD n0 B t tt i ti r tr k1 k2 ct ci cr) : k1 ≠ i := q_.2.2.2.2.2.2.2.2.2.2.1
theorem KD.f3 {n0 B : Nat} {t tt i ti r tr k1 k2 : Addr} {ct ci cr : Int32} (q_ : KD n0 B t tt i ti r tr k1 k2 ct ci cr) : k1 ≠ r := q_.2.2.2.2.2.2.2.2.2.2.2.1
theorem KD.f4 {n0 B : Nat} {t tt i ti r tr k1 k2 : Addr} {ct ci cr : Int32} (q_ : KD n0 B t tt i ti r tr k1 k2 ct ci cr) : k2 ≠ t := q_.2.2.2.2.2.2.2.2.2.2.2.2.1
theorem KD.f5 {n0 B : Nat} {t tt i ti r tr k1 k2 : Addr} {ct ci cr : Int32} (q_ : KD n0 B t tt i ti r tr k1 k2 ct ci cr) : k2 ≠ i := q_.2.2.2.2.2.2.2.2.2.2.2.2.2.1
theorem KD.f6 {n0 B : Nat} {t tt i ti r tr k1 k2 : Addr} {ct ci cr : Int32} (q_ : KD n0 B t tt i ti r tr k1 k2 ct ci cr) : k2 ≠ r := q_.2.2.2.2.2.2.2.2.2.2.2.2.2.2.1
theorem KD.g1 {n0 B : Nat} {t tt i ti r tr k1 k2 : Addr} {ct ci cr : Int32} (q_ : KD n0 B t tt i ti r tr k1 k2 ct ci cr) : n0 ≤ t := q_.2.2.2.2.2.2.2.2.2.2.2.2.2.2.2.1
theorem KD.g2 {n0 B : Nat} {t tt i ti r tr k1 k2 : Addr} {ct ci cr : Int32} (q_ : KD n0 B t tt i ti r tr k1 k2 ct ci cr) : n0 ≤ i := q_.2.2.2.2.2.2.2.2.2.2.2.2.2.2.2.2.1
theorem KD.g3 {n0 B : Nat} {t tt i ti r tr k1 k2 : Addr} {ct ci cr : Int32} (q_ : KD n0 B t tt i ti r tr k1 k2 ct ci cr) : n0 ≤ r := q_.2.2.2.2.2.2.2.2.2.2.2.2.2.2.2.2.2.1
theorem KD.l1 {n0 B : Nat} {t tt i ti r tr k1 k2 : Addr} {ct ci cr : Int32} (q_ : KD n0 B t tt i ti r tr k1 k2 ct ci cr) : t < B := q_.2.2.2.2.2.2.2.2.2.2.2.2.2.2.2.2.2.2.1
theorem KD.l2 {n0 B : Nat} {t tt i ti r tr k1 k2 : Addr} {ct ci cr : Int32} (q_ : KD n0 B t tt i ti r tr k1 k2 ct ci cr) : tt < B := q_.2.2.2.2.2.2.2.2.2.2.2.2.2.2.2.2.2.2.2.1
theorem KD.l3 {n0 B : Nat} {t tt i ti r tr k1 k2 : Addr} {ct ci cr : Int32} (q_ : KD n0 B t tt i ti r tr k1 k2 ct ci cr) : i < B := q_.2.2.2.2.2.2.2.2.2.2.2.2.2.2.2.2.2.2.2.2.1
theorem KD.l4 {n0 B : Nat} {t tt i ti r tr k1 k2 : Addr} {ct ci cr : Int32} (q_ : KD n0 B t tt i ti r tr k1 k2 ct ci cr) : ti < B := q_.2.2.2.2.2.2.2.2.2.2.2.2.2.2.2.2.2.2.2.2.2.1
theorem KD.l5 {n0 B : Nat} {t tt i ti r tr k1 k2 : Addr} {ct ci cr : Int32} (q_ : KD n0 B t tt i ti r tr k1 k2 ct ci cr) : r < B := q_.2.2.2.2.2.2.2.2.2.2.2.2.2.2.2.2.2.2.2.2.2.2.1
theorem KD.l6 {n0 B : Nat} {t tt i ti r tr k1 k2 : Addr} {ct ci cr : Int32} (q_ : KD n0 B t tt i ti r tr k1 k2 ct ci cr) : tr < B := q_.2.2.2.2.2.2.2.2.2.2.2.2.2.2.2.2.2.2.2.2.2.2.2.1
theorem KD.l7 {n0 B : Nat} {t tt i ti r tr k1 k2 : Addr} {ct ci cr : Int32} (q_ : KD n0 B t tt i ti r tr k1 k2 ct ci cr) : k1 < B := q_.2.2.2.2.2.2.2.2.2.2.2.2.2.2.2.2.2.2.2.2.2.2.2.2.1
theorem KD.l8 {n0 B : Nat} {t tt i ti r tr k1 k2 : Addr} {ct ci cr : Int32} (q_ : KD n0 B t tt i ti r tr k1 k2 ct ci cr) : k2 < B := q_.2.2.2.2.2.2.2.2.2.2.2.2.2.2.2.2.2.2.2.2.2.2.2.2.2.1
theorem KD.b1 {n0 B : Nat} {t tt i ti r tr k1 k2 : Addr} {ct ci cr : Int32} (q_ : KD n0 B t tt i ti r tr k1 k2 ct ci cr) : ¬ ct < 0 := q_.2.2.2.2.2.2.2.2.2.2.2.2.2.2.2.2.2.2.2.2.2.2.2.2.2.2.1
theorem KD.b2 {n0 B : Nat} {t tt i ti r tr k1 k2 : Addr} {ct ci cr : Int32} (q_ : KD n0 B t tt i ti r tr k1 k2 ct ci cr) : ¬ (255 : Int32) < ct := q_.2.2.2.2.2.2.2.2.2.2.2.2.2.2.2.2.2.2.2.2.2.2.2.2.2.2.2.1
theorem KD.b3 {n0 B : Nat} {t tt i ti r tr k1 k2 : Addr} {ct ci cr : Int32} (q_ : KD n0 B t tt i ti r tr k1 k2 ct ci cr) : ¬ ci < 0 := q_.2.2.2.2.2.2.2.2.2.2.2.2.2.2.2.2.2.2.2.2.2.2.2.2.2.2.2.2.1
theorem KD.b4 {n0 B : Nat} {t tt i ti r tr k1 k2 : Addr} {ct ci cr : Int32} (q_ : KD n0 B t tt i ti r tr k1 k2 ct ci cr) : ¬ (255 : Int32) < ci := q_.2.2.2.2.2.2.2.2.2.2.2.2.2.2.2.2.2.2.2.2.2.2.2.2.2.2.2.2.2.1
theorem KD.b5 {n0 B : Nat} {t tt i ti r tr k1 k2 : Addr} {ct ci cr : Int32} (q_ : KD n0 B t tt i ti r tr k1 k2 ct ci cr) : ¬ cr < 0 := q_.2.2.2.2.2.2.2.2.2.2.2.2.2.2.2.2.2.2.2.2.2.2.2.2.2.2.2.2.2.2.1
theorem KD.b6 {n0 B : Nat} {t tt i ti r tr k1 k2 : Addr} {ct ci cr : Int32} (q_ : KD n0 B t tt i ti r tr k1 k2 ct ci cr) : ¬ (255 : Int32) < cr := q_.2.2.2.2.2.2.2.2.2.2.2.2.2.2.2.2.2.2.2.2.2.2.2.2.2.2.2.2.2.2.2
/-- the three keys: a String, a Subject of three Strings, an ObjectRef -/
def KA (Z : State) (h : Heap) (t tt i ti r tr k1 k2 : Addr) (kt ki kr : ClassId) (ct ci cr w2 : Int32) : Prop := (S1 Z h t tt kt ct) ∧ (S1 Z h i ti ki ci) ∧ (S1 Z h r tr kr cr) ∧ (Exa Z h k1 cSu) ∧ (Fld Z h k1 cSu "type" "Ljava/lang/String;" (.ref t)) ∧ (Fld Z h k1 cSu "id" "Ljava/lang/String;" (.ref i)) ∧ (Fld Z h k1 cSu "relation" "Ljava/lang/String;" (.ref r)) ∧ (Exa Z h k2 cOr) ∧ (Fld Z h k2 cOr "hash" "I" (.int w2))
theorem KA.s1 {Z : State} {h : Heap} {t tt i ti r tr k1 k2 : Addr} {kt ki kr : ClassId} {ct ci cr w2 : Int32} (q_ : KA Z h t tt i ti r tr k1 k2 kt ki kr ct ci cr w2) : S1 Z h t tt kt ct := q_.1
theorem KA.s2 {Z : State} {h : Heap} {t tt i ti r tr k1 k2 : Addr} {kt ki kr : ClassId} {ct ci cr w2 : Int32} (q_ : KA Z h t tt i ti r tr k1 k2 kt ki kr ct ci cr w2) : S1 Z h i ti ki ci := q_.2.1
theorem KA.s3 {Z : State} {h : Heap} {t tt i ti r tr k1 k2 : Addr} {kt ki kr : ClassId} {ct ci cr w2 : Int32} (q_ : KA Z h t tt i ti r tr k1 k2 kt ki kr ct ci cr w2) : S1 Z h r tr kr cr := q_.2.2.1
theorem KA.u0 {Z : State} {h : Heap} {t tt i ti r tr k1 k2 : Addr} {kt ki kr : ClassId} {ct ci cr w2 : Int32} (q_ : KA Z h t tt i ti r tr k1 k2 kt ki kr ct ci cr w2) : Exa Z h k1 cSu := q_.2.2.2.1
theorem KA.u1 {Z : State} {h : Heap} {t tt i ti r tr k1 k2 : Addr} {kt ki kr : ClassId} {ct ci cr w2 : Int32} (q_ : KA Z h t tt i ti r tr k1 k2 kt ki kr ct ci cr w2) : Fld Z h k1 cSu "type" "Ljava/lang/String;" (.ref t) := q_.2.2.2.2.1
theorem KA.u2 {Z : State} {h : Heap} {t tt i ti r tr k1 k2 : Addr} {kt ki kr : ClassId} {ct ci cr w2 : Int32} (q_ : KA Z h t tt i ti r tr k1 k2 kt ki kr ct ci cr w2) : Fld Z h k1 cSu "id" "Ljava/lang/String;" (.ref i) := q_.2.2.2.2.2.1
theorem KA.u3 {Z : State} {h : Heap} {t tt i ti r tr k1 k2 : Addr} {kt ki kr : ClassId} {ct ci cr w2 : Int32} (q_ : KA Z h t tt i ti r tr k1 k2 kt ki kr ct ci cr w2) : Fld Z h k1 cSu "relation" "Ljava/lang/String;" (.ref r) := q_.2.2.2.2.2.2.1
theorem KA.o0 {Z : State} {h : Heap} {t tt i ti r tr k1 k2 : Addr} {kt ki kr : ClassId} {ct ci cr w2 : Int32} (q_ : KA Z h t tt i ti r tr k1 k2 kt ki kr ct ci cr w2) : Exa Z h k2 cOr := q_.2.2.2.2.2.2.2.1
theorem KA.o1 {Z : State} {h : Heap} {t tt i ti r tr k1 k2 : Addr} {kt ki kr : ClassId} {ct ci cr w2 : Int32} (q_ : KA Z h t tt i ti r tr k1 k2 kt ki kr ct ci cr w2) : Fld Z h k2 cOr "hash" "I" (.int w2) := q_.2.2.2.2.2.2.2.2
section
variable {Z : State} {h h' : Heap} {n0 B : Nat} {t tt i ti r tr k1 k2 : Addr} {kt ki kr : ClassId} {ct ci cr w2 : Int32} {ws : List Addr}
theorem KD.lt (D : KD n0 B t tt i ti r tr k1 k2 ct ci cr) : ∀ y ∈ [t, i, r], y < B := own_sfC D.l1 (own_sfC D.l3 (own_sfC D.l5 (fun y hy => absurd hy List.not_mem_nil)))
theorem KD.ge (D : KD n0 B t tt i ti r tr k1 k2 ct ci cr) : ∀ y ∈ [t, i, r], n0 ≤ y := own_sfC D.g1 (own_sfC D.g2 (own_sfC D.g3 (fun y hy => absurd hy List.not_mem_nil)))
theorem own_nlo {y : Addr} (hy : y < B) (hw : ∀ z ∈ ws, B ≤ z) : y ∉ ws := fun q => absurd (hw y q) (Nat.not_le.mpr hy)
theorem own_nhi {y : Addr} (hy : B ≤ y) (hw : ∀ z ∈ ws, z < B) : y ∉ ws := fun q => absurd (hw y q) (Nat.not_lt.mpr hy)
theorem KA.keep (A : KA Z h t tt i ti r tr k1 k2 kt ki kr ct ci cr w2) (D : KD n0 B t tt i ti r tr k1 k2 ct ci cr) (K : Keep h h' ws) (hw : ∀ z ∈ ws, B ≤ z) : KA Z h' t tt i ti r tr k1 k2 kt ki kr ct ci cr w2 :=
  ⟨A.s1.keep K (own_nlo D.l1 hw) (own_nlo D.l2 hw), A.s2.keep K (own_nlo D.l3 hw) (own_nlo D.l4 hw), A.s3.keep K (own_nlo D.l5 hw) (own_nlo D.l6 hw), A.u0.keep K, A.u1.keep K (own_nlo D.l7 hw), A.u2.keep K (own_nlo D.l7 hw), A.u3.keep K (own_nlo D.l7 hw), A.o0.keep K, A.o1.keep K (own_nlo D.l8 hw)⟩
theorem KA.put1 (A : KA Z h t tt i ti r tr k1 k2 kt ki kr ct ci cr w2) (D : KD n0 B t tt i ti r tr k1 k2 ct ci cr) (K : Keep h h' [t]) (s : S1 Z h' t tt kt ct) : KA Z h' t tt i ti r tr k1 k2 kt ki kr ct ci cr w2 :=
  ⟨s, A.s2.keep K (ninS D.d1.symm nin0) (ninS D.e1 nin0), A.s3.keep K (ninS D.d2.symm nin0) (ninS D.e2 nin0), A.u0.keep K, A.u1.keep K (ninS D.f1 nin0), A.u2.keep K (ninS D.f1 nin0), A.u3.keep K (ninS D.f1 nin0), A.o0.keep K, A.o1.keep K (ninS D.f4 nin0)⟩
theorem KA.put2 (A : KA Z h t tt i ti r tr k1 k2 kt ki kr ct ci cr w2) (D : KD n0 B t tt i ti r tr k1 k2 ct ci cr) (K : Keep h h' [i]) (s : S1 Z h' i ti ki ci) : KA Z h' t tt i ti r tr k1 k2 kt ki kr ct ci cr w2 :=
  ⟨A.s1.keep K (ninS D.d1 nin0) (ninS D.e3 nin0), s, A.s3.keep K (ninS D.d3.symm nin0) (ninS D.e4 nin0), A.u0.keep K, A.u1.keep K (ninS D.f2 nin0), A.u2.keep K (ninS D.f2 nin0), A.u3.keep K (ninS D.f2 nin0), A.o0.keep K, A.o1.keep K (ninS D.f5 nin0)⟩
theorem KA.put3 (A : KA Z h t tt i ti r tr k1 k2 kt ki kr ct ci cr w2) (D : KD n0 B t tt i ti r tr k1 k2 ct ci cr) (K : Keep h h' [r]) (s : S1 Z h' r tr kr cr) : KA Z h' t tt i ti r tr k1 k2 kt ki kr ct ci cr w2 :=
  ⟨A.s1.keep K (ninS D.d2 nin0) (ninS D.e5 nin0), A.s2.keep K (ninS D.d3 nin0) (ninS D.e6 nin0), s, A.u0.keep K, A.u1.keep K (ninS D.f3 nin0), A.u2.keep K (ninS D.f3 nin0), A.u3.keep K (ninS D.f3 nin0), A.o0.keep K, A.o1.keep K (ninS D.f6 nin0)⟩
end
def own_sh (ct ci cr : Int32) : Int32 := (31 : Int32) * ((31 : Int32) * ((31 : Int32) + ct) + ci) + cr
/-- a Tally of the one key k, of hash w, counted m times; its three cells lie from B on -/
def Tly (Z : State) (h : Heap) (B : Nat) (a hc ks : Addr) (kh kk : ClassId) (k : Addr) (w m : Int32) : Prop := (Exa Z h a cTa) ∧ (Fld Z h a cTa "hashesAndCounts" "[I" (.ref hc)) ∧ (Fld Z h a cTa "keys" "[Ljava/lang/Object;" (.ref ks)) ∧ (Fld Z h a cTa "shift" "I" (.int 31)) ∧ (Fld Z h a cTa "size" "I" (.int 1)) ∧ (Arv Z h hc kh .int 4 (own_hs (own_home w) w m) (.int 0)) ∧ (Arv Z h ks kk (.object "java/lang/Object") (2 : Int32) (own_ks (own_home w) k) .null) ∧ (Ovr Z kk "java/lang/Object") ∧ (hc ≠ ks) ∧ (B ≤ a) ∧ (B ≤ hc) ∧ (B ≤ ks)
theorem Tly.E {Z : State} {h : Heap} {B : Nat} {a hc ks : Addr} {kh kk : ClassId} {k : Addr} {w m : Int32} (q_ : Tly Z h B a hc ks kh kk k w m) : Exa Z h a cTa := q_.1
theorem Tly.FH {Z : State} {h : Heap} {B : Nat} {a hc ks : Addr} {kh kk : ClassId} {k : Addr} {w m : Int32} (q_ : Tly Z h B a hc ks kh kk k w m) : Fld Z h a cTa "hashesAndCounts" "[I" (.ref hc) := q_.2.1
theorem Tly.FK {Z : State} {h : Heap} {B : Nat} {a hc ks : Addr} {kh kk : ClassId} {k : Addr} {w m : Int32} (q_ : Tly Z h B a hc ks kh kk k w m) : Fld Z h a cTa "keys" "[Ljava/lang/Object;" (.ref ks) := q_.2.2.1
theorem Tly.FS {Z : State} {h : Heap} {B : Nat} {a hc ks : Addr} {kh kk : ClassId} {k : Addr} {w m : Int32} (q_ : Tly Z h B a hc ks kh kk k w m) : Fld Z h a cTa "shift" "I" (.int 31) := q_.2.2.2.1
theorem Tly.FZ {Z : State} {h : Heap} {B : Nat} {a hc ks : Addr} {kh kk : ClassId} {k : Addr} {w m : Int32} (q_ : Tly Z h B a hc ks kh kk k w m) : Fld Z h a cTa "size" "I" (.int 1) := q_.2.2.2.2.1
theorem Tly.VH {Z : State} {h : Heap} {B : Nat} {a hc ks : Addr} {kh kk : ClassId} {k : Addr} {w m : Int32} (q_ : Tly Z h B a hc ks kh kk k w m) : Arv Z h hc kh .int 4 (own_hs (own_home w) w m) (.int 0) := q_.2.2.2.2.2.1
theorem Tly.VK {Z : State} {h : Heap} {B : Nat} {a hc ks : Addr} {kh kk : ClassId} {k : Addr} {w m : Int32} (q_ : Tly Z h B a hc ks kh kk k w m) : Arv Z h ks kk (.object "java/lang/Object") (2 : Int32) (own_ks (own_home w) k) .null := q_.2.2.2.2.2.2.1
theorem Tly.OV {Z : State} {h : Heap} {B : Nat} {a hc ks : Addr} {kh kk : ClassId} {k : Addr} {w m : Int32} (q_ : Tly Z h B a hc ks kh kk k w m) : Ovr Z kk "java/lang/Object" := q_.2.2.2.2.2.2.2.1
theorem Tly.hne {Z : State} {h : Heap} {B : Nat} {a hc ks : Addr} {kh kk : ClassId} {k : Addr} {w m : Int32} (q_ : Tly Z h B a hc ks kh kk k w m) : hc ≠ ks := q_.2.2.2.2.2.2.2.2.1
theorem Tly.ba {Z : State} {h : Heap} {B : Nat} {a hc ks : Addr} {kh kk : ClassId} {k : Addr} {w m : Int32} (q_ : Tly Z h B a hc ks kh kk k w m) : B ≤ a := q_.2.2.2.2.2.2.2.2.2.1
theorem Tly.bh {Z : State} {h : Heap} {B : Nat} {a hc ks : Addr} {kh kk : ClassId} {k : Addr} {w m : Int32} (q_ : Tly Z h B a hc ks kh kk k w m) : B ≤ hc := q_.2.2.2.2.2.2.2.2.2.2.1
theorem Tly.bk {Z : State} {h : Heap} {B : Nat} {a hc ks : Addr} {kh kk : ClassId} {k : Addr} {w m : Int32} (q_ : Tly Z h B a hc ks kh kk k w m) : B ≤ ks := q_.2.2.2.2.2.2.2.2.2.2.2
def TlyE (Z : State) (h : Heap) (B : Nat) (a hc ks : Addr) (kh kk : ClassId) : Prop := (Exa Z h a cTa) ∧ (Fld Z h a cTa "hashesAndCounts" "[I" (.ref hc)) ∧ (Fld Z h a cTa "keys" "[Ljava/lang/Object;" (.ref ks)) ∧ (Fld Z h a cTa "shift" "I" (.int 31)) ∧ (Fld Z h a cTa "size" "I" (.int 0)) ∧ (Arv Z h hc kh .int 4 [] (.int 0)) ∧ (Arv Z h ks kk (.object "java/lang/Object") (2 : Int32) [] .null) ∧ (Ovr Z kk "java/lang/Object") ∧ (hc ≠ ks) ∧ (B ≤ a) ∧ (B ≤ hc) ∧ (B ≤ ks)
theorem TlyE.E {Z : State} {h : Heap} {B : Nat} {a hc ks : Addr} {kh kk : ClassId} (q_ : TlyE Z h B a hc ks kh kk) : Exa Z h a cTa := q_.1
theorem TlyE.FH {Z : State} {h : Heap} {B : Nat} {a hc ks : Addr} {kh kk : ClassId} (q_ : TlyE Z h B a hc ks kh kk) : Fld Z h a cTa "hashesAndCounts" "[I" (.ref hc) := q_.2.1
theorem TlyE.FK {Z : State} {h : Heap} {B : Nat} {a hc ks : Addr} {kh kk : ClassId} (q_ : TlyE Z h B a hc ks kh kk) : Fld Z h a cTa "keys" "[Ljava/lang/Object;" (.ref ks) := q_.2.2.1
theorem TlyE.FS {Z : State} {h : Heap} {B : Nat} {a hc ks : Addr} {kh kk : ClassId} (q_ : TlyE Z h B a hc ks kh kk) : Fld Z h a cTa "shift" "I" (.int 31) := q_.2.2.2.1
theorem TlyE.FZ {Z : State} {h : Heap} {B : Nat} {a hc ks : Addr} {kh kk : ClassId} (q_ : TlyE Z h B a hc ks kh kk) : Fld Z h a cTa "size" "I" (.int 0) := q_.2.2.2.2.1
theorem TlyE.VH {Z : State} {h : Heap} {B : Nat} {a hc ks : Addr} {kh kk : ClassId} (q_ : TlyE Z h B a hc ks kh kk) : Arv Z h hc kh .int 4 [] (.int 0) := q_.2.2.2.2.2.1
theorem TlyE.VK {Z : State} {h : Heap} {B : Nat} {a hc ks : Addr} {kh kk : ClassId} (q_ : TlyE Z h B a hc ks kh kk) : Arv Z h ks kk (.object "java/lang/Object") (2 : Int32) [] .null := q_.2.2.2.2.2.2.1
theorem TlyE.OV {Z : State} {h : Heap} {B : Nat} {a hc ks : Addr} {kh kk : ClassId} (q_ : TlyE Z h B a hc ks kh kk) : Ovr Z kk "java/lang/Object" := q_.2.2.2.2.2.2.2.1
theorem TlyE.hne {Z : State} {h : Heap} {B : Nat} {a hc ks : Addr} {kh kk : ClassId} (q_ : TlyE Z h B a hc ks kh kk) : hc ≠ ks := q_.2.2.2.2.2.2.2.2.1
theorem TlyE.ba {Z : State} {h : Heap} {B : Nat} {a hc ks : Addr} {kh kk : ClassId} (q_ : TlyE Z h B a hc ks kh kk) : B ≤ a := q_.2.2.2.2.2.2.2.2.2.1
theorem TlyE.bh {Z : State} {h : Heap} {B : Nat} {a hc ks : Addr} {kh kk : ClassId} (q_ : TlyE Z h B a hc ks kh kk) : B ≤ hc := q_.2.2.2.2.2.2.2.2.2.2.1
theorem TlyE.bk {Z : State} {h : Heap} {B : Nat} {a hc ks : Addr} {kh kk : ClassId} (q_ : TlyE Z h B a hc ks kh kk) : B ≤ ks := q_.2.2.2.2.2.2.2.2.2.2.2
section
variable {Z : State} {h h' : Heap} {B : Nat} {a hc ks k : Addr} {kh kk : ClassId} {w m : Int32} {ws : List Addr} {T : List Addr} {v : Value} {n : Nat}
theorem Tly.keep (A : Tly Z h B a hc ks kh kk k w m) (K : Keep h h' ws) (q1 : a ∉ ws) (q2 : hc ∉ ws) (q3 : ks ∉ ws) : Tly Z h' B a hc ks kh kk k w m := ⟨A.E.keep K, A.FH.keep K q1, A.FK.keep K q1, A.FS.keep K q1, A.FZ.keep K q1, A.VH.keep K q2, A.VK.keep K q3, A.OV, A.hne, A.ba, A.bh, A.bk⟩
theorem TlyE.keep (A : TlyE Z h B a hc ks kh kk) (K : Keep h h' ws) (q1 : a ∉ ws) (q2 : hc ∉ ws) (q3 : ks ∉ ws) : TlyE Z h' B a hc ks kh kk := ⟨A.E.keep K, A.FH.keep K q1, A.FK.keep K q1, A.FS.keep K q1, A.FZ.keep K q1, A.VH.keep K q2, A.VK.keep K q3, A.OV, A.hne, A.ba, A.bh, A.bk⟩
/-- what a field of the holder bears: null, or a Tally whose cells are T -/
def HF (Z : State) (h : Heap) (B : Nat) (v : Value) (k : Addr) (w : Int32) (n : Nat) (T : List Addr) : Prop := (n = 0 ∧ v = .null ∧ T = []) ∨ (0 < n ∧ ∃ a hc ks kh kk, v = .ref a ∧ T = [a, hc, ks] ∧ Tly Z h B a hc ks kh kk k w (Int32.ofNat n))
theorem HF.keep (F : HF Z h B v k w n T) (K : Keep h h' ws) (q : ∀ y ∈ T, y ∉ ws) : HF Z h' B v k w n T := by
  rcases F with F | ⟨hn, a, hc, ks, kh, kk, e1, e2, F⟩
  · exact Or.inl F
  · subst e2
    exact Or.inr ⟨hn, a, hc, ks, kh, kk, e1, rfl, F.keep K (q a (by simp)) (q hc (by simp)) (q ks (by simp))⟩
theorem HF.bd (F : HF Z h B v k w n T) : ∀ y ∈ T, B ≤ y ∧ y < h.size := by
  rcases F with ⟨-, -, rfl⟩ | ⟨hn, a, hc, ks, kh, kk, e1, rfl, F⟩
  · exact fun y hy => absurd hy List.not_mem_nil
  · exact own_sfC (P := fun y => B ≤ y ∧ y < h.size) ⟨F.ba, F.E.lt⟩ (own_sfC ⟨F.bh, F.VH.lt⟩ (own_sfC ⟨F.bk, F.VK.lt⟩ (fun y hy => absurd hy List.not_mem_nil)))
theorem HF.ref (F : HF Z h B v k w n T) : v.isRef = true := by
  rcases F with ⟨-, rfl, -⟩ | ⟨-, a, -, -, -, -, rfl, -⟩ <;> rfl
theorem HF.nul (F : HF Z h B v k w n T) : (v = .null) = (n = 0) := by
  rcases F with ⟨rfl, rfl, -⟩ | ⟨hn, a, -, -, -, -, rfl, -⟩
  · simp
  · refine propext ⟨fun q => ?_, fun q => absurd q (Nat.pos_iff_ne_zero.mp hn)⟩
    cases q
end
def Dis (S T : List Addr) : Prop := ∀ y ∈ S, y ∉ T
theorem own_p1 {n : Nat} : Int32.ofNat n + (1 : Int32) = Int32.ofNat (n + 1) := own_succ
theorem own_m1 {n : Nat} (h : 0 < n) (h5 : n ≤ 9) : Int32.ofNat n - (1 : Int32) = Int32.ofNat (n - 1) := by
  have t : ∀ k : Fin 10, 0 < k.val → Int32.ofNat k.val - (1 : Int32) = Int32.ofNat (k.val - 1) := by decide +kernel
  exact t ⟨n, by omega⟩ h
theorem own_nz0 {n : Nat} (h : 0 < n) (h5 : n ≤ 9) : ¬ Int32.ofNat n = 0 := fun q => by
  have := (own_ninj (i := n) (n := 0) (by omega) (by omega)).mp q; omega
section
variable {Z : State} {h h' : Heap} {n0 B : Nat} {t tt i ti r tr k1 k2 y : Addr} {kt ki kr : ClassId} {ct ci cr w2 : Int32}
theorem KA.keep1 (A : KA Z h t tt i ti r tr k1 k2 kt ki kr ct ci cr w2) (K : Keep h h' [y]) (q : y ∉ [t, tt, i, ti, r, tr, k1, k2]) : KA Z h' t tt i ti r tr k1 k2 kt ki kr ct ci cr w2 := by
  simp only [List.mem_cons, List.not_mem_nil, or_false, not_or] at q
  obtain ⟨q1, q2, q3, q4, q5, q6, q7, q8⟩ := q
  exact ⟨A.s1.keep K (ninS (Ne.symm q1) nin0) (ninS (Ne.symm q2) nin0), A.s2.keep K (ninS (Ne.symm q3) nin0) (ninS (Ne.symm q4) nin0), A.s3.keep K (ninS (Ne.symm q5) nin0) (ninS (Ne.symm q6) nin0), A.u0.keep K, A.u1.keep K (ninS (Ne.symm q7) nin0), A.u2.keep K (ninS (Ne.symm q7) nin0), A.u3.keep K (ninS (Ne.symm q7) nin0), A.o0.keep K, A.o1.keep K (ninS (Ne.symm q8) nin0)⟩
end
theorem own_ninA {x : Addr} {S T : List Addr} (h1 : x ∉ S) (h2 : x ∉ T) : x ∉ S ++ T := fun q => (List.mem_append.mp q).elim h1 h2
theorem own_sub3 {x t tt i ti r tr k1 k2 : Addr} (q : x ∉ [t, tt, i, ti, r, tr, k1, k2]) : x ∉ [t, i, r] := by
  simp only [List.mem_cons, List.not_mem_nil, or_false, not_or] at q ⊢
  exact ⟨q.1, q.2.2.1, q.2.2.2.2.1⟩
theorem own_nin4 {x t i r ho : Addr} (q : x ∉ [t, i, r]) (q4 : x ≠ ho) : x ∉ [t, i, r, ho] := by
  simp only [List.mem_cons, List.not_mem_nil, or_false, not_or] at q ⊢
  exact ⟨q.1, q.2.1, q.2.2, q4⟩
theorem own_gn {v : Value} {C : String} (h : v.isRef = true) : narrow (.object C) v = v := by rcases ref_cases h with rfl | ⟨a, rfl⟩ <;> rfl
theorem own_gf {v : Value} {C : String} (h : v.isRef = true) : fits (.object C) v = true := by rcases ref_cases h with rfl | ⟨a, rfl⟩ <;> rfl
def own_emp (a b c : Value) : Int32 := if a = .null then (if b = .null then (if c = .null then 1 else 0) else 0) else 0
abbrev cCh : String := "com/example/entitlement/entitlement/CountedHolders"
abbrev dTa : String := "Lcom/example/entitlement/entitlement/Tally;"
/-- what is said of the holder's place and of the two arrays' -/
def SD (n0 B : Nat) (t tt i ti r tr k1 k2 ho kA cA : Addr) : Prop := (ho ∉ [t, tt, i, ti, r, tr, k1, k2]) ∧ (kA ∉ [t, tt, i, ti, r, tr, k1, k2]) ∧ (cA ∉ [t, tt, i, ti, r, tr, k1, k2]) ∧ (ho < B) ∧ (kA < B) ∧ (cA < B) ∧ (kA ≠ ho) ∧ (cA ≠ ho) ∧ (kA ≠ cA) ∧ (n0 ≤ ho) ∧ (n0 ≤ cA)
theorem SD.a1 {n0 B : Nat} {t tt i ti r tr k1 k2 ho kA cA : Addr} (q_ : SD n0 B t tt i ti r tr k1 k2 ho kA cA) : ho ∉ [t, tt, i, ti, r, tr, k1, k2] := q_.1
theorem SD.a2 {n0 B : Nat} {t tt i ti r tr k1 k2 ho kA cA : Addr} (q_ : SD n0 B t tt i ti r tr k1 k2 ho kA cA) : kA ∉ [t, tt, i, ti, r, tr, k1, k2] := q_.2.1
theorem SD.a3 {n0 B : Nat} {t tt i ti r tr k1 k2 ho kA cA : Addr} (q_ : SD n0 B t tt i ti r tr k1 k2 ho kA cA) : cA ∉ [t, tt, i, ti, r, tr, k1, k2] := q_.2.2.1
theorem SD.b1 {n0 B : Nat} {t tt i ti r tr k1 k2 ho kA cA : Addr} (q_ : SD n0 B t tt i ti r tr k1 k2 ho kA cA) : ho < B := q_.2.2.2.1
theorem SD.b2 {n0 B : Nat} {t tt i ti r tr k1 k2 ho kA cA : Addr} (q_ : SD n0 B t tt i ti r tr k1 k2 ho kA cA) : kA < B := q_.2.2.2.2.1
theorem SD.b3 {n0 B : Nat} {t tt i ti r tr k1 k2 ho kA cA : Addr} (q_ : SD n0 B t tt i ti r tr k1 k2 ho kA cA) : cA < B := q_.2.2.2.2.2.1
theorem SD.c1 {n0 B : Nat} {t tt i ti r tr k1 k2 ho kA cA : Addr} (q_ : SD n0 B t tt i ti r tr k1 k2 ho kA cA) : kA ≠ ho := q_.2.2.2.2.2.2.1
theorem SD.c2 {n0 B : Nat} {t tt i ti r tr k1 k2 ho kA cA : Addr} (q_ : SD n0 B t tt i ti r tr k1 k2 ho kA cA) : cA ≠ ho := q_.2.2.2.2.2.2.2.1
theorem SD.c3 {n0 B : Nat} {t tt i ti r tr k1 k2 ho kA cA : Addr} (q_ : SD n0 B t tt i ti r tr k1 k2 ho kA cA) : kA ≠ cA := q_.2.2.2.2.2.2.2.2.1
theorem SD.g1 {n0 B : Nat} {t tt i ti r tr k1 k2 ho kA cA : Addr} (q_ : SD n0 B t tt i ti r tr k1 k2 ho kA cA) : n0 ≤ ho := q_.2.2.2.2.2.2.2.2.2.1
theorem SD.g3 {n0 B : Nat} {t tt i ti r tr k1 k2 ho kA cA : Addr} (q_ : SD n0 B t tt i ti r tr k1 k2 ho kA cA) : n0 ≤ cA := q_.2.2.2.2.2.2.2.2.2.2
/-- the holder, the keys and the counts -/
def HSt (Z : State) (h : Heap) (B : Nat) (t tt i ti r tr k1 k2 : Addr) (kt ki kr : ClassId) (ct ci cr w2 : Int32) (ho kA cA : Addr) (ka kc : ClassId) (m0 m1 m2 : Nat) : Prop :=
  KA Z h t tt i ti r tr k1 k2 kt ki kr ct ci cr w2 ∧ Exa Z h ho cCh ∧ Arv Z h kA ka (.object "java/lang/Object") (3 : Int32) [.ref t, .ref k1, .ref k2] .null ∧ Arv Z h cA kc .int 3 [.int (Int32.ofNat m0), .int (Int32.ofNat m1), .int (Int32.ofNat m2)] (.int 0) ∧
  ∃ (v0 v1 v2 : Value) (T0 T1 T2 : List Addr), Fld Z h ho cCh "wildcardTypes" dTa v0 ∧ Fld Z h ho cCh "usersets" dTa v1 ∧ Fld Z h ho cCh "objects" dTa v2 ∧ HF Z h B v0 t ct m0 T0 ∧ HF Z h B v1 k1 (own_sh ct ci cr) m1 T1 ∧ HF Z h B v2 k2 w2 m2 T2 ∧ Dis T0 T1 ∧ Dis T0 T2 ∧ Dis T1 T2
theorem Dis.symm {S T : List Addr} (d : Dis S T) : Dis T S := fun y h q => d y q h
theorem Dis.grow {S S' T : List Addr} {n : Nat} (d : Dis S T) (h : ∀ y ∈ S', y ∈ S ∨ n ≤ y) (hT : ∀ y ∈ T, y < n) : Dis S' T := fun y hy q => by
  rcases h y hy with r | r
  · exact d y r q
  · exact absurd (hT y q) (Nat.not_lt.mpr r)
theorem own_hfk {Z : State} {h h' : Heap} {B : Nat} {v : Value} {k : Addr} {w : Int32} {n : Nat} {T S : List Addr} {t i r ho : Addr} (F : HF Z h B v k w n T) (K : Keep h h' ([t, i, r, ho] ++ S)) (lt : ∀ y ∈ [t, i, r], y < B) (lh : ho < B) (d : Dis T S) : HF Z h' B v k w n T := by
  refine F.keep K fun y hy => own_ninA ?_ (d y hy)
  have b := (F.bd y hy).1
  refine own_nin4 (own_nhi b lt) ?_
  intro q; subst q; exact absurd lh (Nat.not_lt.mpr b)
theorem own_kind (op : Int32) : (op &&& (3 : Int32)) % (3 : Int32) = 0 ∨ (op &&& (3 : Int32)) % (3 : Int32) = 1 ∨ (op &&& (3 : Int32)) % (3 : Int32) = 2 := by
  have e1 : (op &&& (3 : Int32)).toInt = op.toInt % 2 ^ 2 := Jvm.Kit.i32_mask op _ (k := 2) (by decide) (by decide)
  have h0 : (0 : Int) ≤ (op &&& (3 : Int32)).toInt := by rw [e1]; omega
  have e2 := Jvm.Kit.i32_rem_nonneg (x := op &&& (3 : Int32)) (y := (3 : Int32)) h0
  have e3 : (3 : Int32).toInt = 3 := rfl
  rw [e3] at e2
  have z0 : (0 : Int32).toInt = 0 := rfl
  have z1 : (1 : Int32).toInt = 1 := rfl
  have z2 : (2 : Int32).toInt = 2 := rfl
  rw [← Int32.toInt_inj, ← Int32.toInt_inj, ← Int32.toInt_inj, z0, z1, z2]
  omega
theorem own_ge {n : Nat} (h : n ≤ 9) : (Int32.ofNat n = (0 : Int32)) = (n = 0) := propext (own_ninj (i := n) (n := 0) (by omega) (by omega))
theorem own_pos {n : Nat} (h : n ≤ 9) : ((0 : Int32) < Int32.ofNat n) = (0 < n) := propext (own_nlt (i := 0) (n := n) (by omega) (by omega))
theorem own_not42 {c : Int32} (h0 : ¬ c < 0) (h1 : ¬ (255 : Int32) < c) (h : ¬ c = 42) : ¬ [(42 : Int32)] = [own_lo c] := fun q => by
  have e : (42 : Int32) = own_lo c := by simpa using q
  have e2 : own_lo c &&& (255 : Int32) = c := by rw [own_and_lo, own_and255 h0 h1]
  rw [← e] at e2; exact h e2.symm
theorem own_EW {Z : State} {a0 : Array Value} (hw : ∀ d ∈ tables_1, d.before a0 Z = true) : EW Z a0 consts_1 := (EW.cons (wq hw 72 rfl) (by decide) (EW.cons (wq hw 77 rfl) (by decide) (EW.cons (wq hw 55 rfl) (by decide) (EW.cons (wq hw 59 rfl) (by decide) (EW.cons (wq hw 33 rfl) (by decide) (EW.cons (wq hw 40 rfl) (by decide) EW.nil))))))
theorem own_wS {Z : State} {a0 : Array Value} (hw : ∀ d ∈ tables_1, d.before a0 Z = true) : ∀ d ∈ Bundle.stringAtoms, d.before a0 Z = true := fun d hd => hw d ((by decide +kernel : ∀ d ∈ Bundle.stringAtoms, d ∈ tables_1) d hd)
def QCE (Z : State) (c_ : Int32) (h0 : Heap) (n0 : Nat) (v : Option Value) (h : Heap) (L : List Loc) : Prop := v = some (.int (1)) ∧ Fr n0 L ∧ h = h0
set_option maxRecDepth 65536 in
set_option maxHeartbeats 40000000 in
theorem rmCE (l : Launch) (Z : State) (a0 : Array Value) (hw : ∀ d ∈ tables_1, d.before a0 Z = true) (ws : List Jvm.Cond) (c_ : Int32) (h0 : Heap) (n0 : Nat) (Z0 : n0 ≤ h0.size) (hc : ¬ (255 : Int32) < c_) :
    MetFree l mN0 (head1 (Jvm.Cond.code mN0 cD1 1 (some .boolean) :: ws) ({ frames := 0, cells := 0, slots := 0, locals := 0 } : Room)) (fun a_ U => a_ = #[(.int c_)] ∧ Z.Warmed39 U.vm ∧ U.heap = h0) (fun _ _ _ _ _ => True) (fun _ U o U' => ∃ v L, o = .returned v ∧ QCE Z c_ h0 n0 v U'.heap L ∧ FrameEnd U o U' L ({ frames := 0, cells := 0, slots := 0, locals := 0 } : Room).cells ({ frames := 0, cells := 0, slots := 0, locals := 0 } : Room).slots) := by
  refine MetFree.of_bodySF (plainFor_of_name pn_0) hisR ?_
  intro p e s m args below meth c s₁ Bd hml0 hP hK
  obtain ⟨rfl, hZ, hh⟩ := hP
  have hx := Bd.exec
  have hby := Bd.bytes
  have hml : c.maxLocals = 1 := hml0
  have hown : s.vm.findClass "java/lang/StringLatin1" = some m.cls := findClass_of_methodNamed Bd.named
  have hnm := (name_of_methodNamed Bd.named Bd.method).1
  have X0 : Stand p l e ({ frames := 0, cells := 0, slots := 0, locals := 0 } : Room) s m #[(.int c_)] below meth c s₁ [] 0 0 := Stand.of_body Bd
  have e0 : s₁.heap = h0 := by rw [← hh, Bd.state]; rfl
  have N0 := Fr.nil n0
  refine Goes.done ?_
  obtain ⟨W, hWd⟩ : ∃ W : State → Prop, W = EndW s below (QCE Z c_ h0 n0) ({ frames := 0, cells := 0, slots := 0, locals := 0 } : Room).cells ({ frames := 0, cells := 0, slots := 0, locals := 0 } : Room).slots := ⟨_, rfl⟩
  rw [← hWd]
  have hef : entryFrame m #[(.int c_)] 1 = (mkF m 0 #[vI c_] []) := by first | (simp [entryFrame, mkF, argsToLocals, Value.category]; done) | rfl
  rw [hef]
  refine Go s₁ (mkF m 1 #[vI c_] [(.int c_)]) ?_ (fun t_ k_ => XS.iloadN X0.here hx rfl (hb hby d2_0) rfl k_)
  refine Go s₁ (mkF m 4 #[vI c_] [(.int 255), (.int c_)]) ?_ (fun t_ k_ => XS.sipush X0.here hx rfl (hb hby d2_1) k_)
  refine Go s₁ (mkF m 7 #[vI c_] []) ?_ (fun t_ k_ => XS.icmpNo X0.here hx rfl (hb hby d2_4) rfl (flt hc).2.2.1 k_)
  refine Go s₁ (mkF m 8 #[vI c_] [(.int 1)]) ?_ (fun t_ k_ => XS.iconst X0.here hx rfl (hb hby d2_7) k_)
  refine Go s₁ (mkF m 12 #[vI c_] [(.int 1)]) ?_ (fun t_ k_ => XS.goto X0.here hx rfl (pc0 := 8) (pc' := 12) rfl (hb hby d2_8) (by decide) (by decide) k_)
  rw [hWd]
  exact Goes.retn X0 (v := some (.int (nar .boolean (1 : Int32)))) (fun fs hr => retN X0 hx (t := .boolean) Bd.returns (by simp) (hb hby d2_12) hr) (fun h => by rw [Bd.returns] at h; cases h) Bd.notSynchronized (by decide) (by decide) (by rw [e0]; exact ⟨rfl, N0, rfl⟩)
def QTB (Z : State) (c_ : Int32) (h0 : Heap) (n0 : Nat) (v : Option Value) (h : Heap) (L : List Loc) : Prop := v = some (.ref h0.size) ∧ Fr n0 L ∧ Keep h0 h [] ∧ ∃ kb, Arv Z h h0.size kb .byte (1 : Int32) ([own_lo c_].map Value.int) (.int 0)
set_option maxRecDepth 65536 in
set_option maxHeartbeats 40000000 in
theorem rmTB (l : Launch) (Z : State) (a0 : Array Value) (hw : ∀ d ∈ tables_1, d.before a0 Z = true) (ws : List Jvm.Cond) (c_ : Int32) (h0 : Heap) (n0 : Nat) (Z0 : n0 ≤ h0.size)  :
    MetFree l mN1 (head1 (Jvm.Cond.code mN1 cD2 1 (some (.array .byte)) :: ws) ({ frames := 0, cells := 1, slots := 1, locals := 0 } : Room)) (fun a_ U => a_ = #[(.int c_)] ∧ Z.Warmed39 U.vm ∧ U.heap = h0) (fun _ _ _ _ _ => True) (fun _ U o U' => ∃ v L, o = .returned v ∧ QTB Z c_ h0 n0 v U'.heap L ∧ FrameEnd U o U' L ({ frames := 0, cells := 1, slots := 1, locals := 0 } : Room).cells ({ frames := 0, cells := 1, slots := 1, locals := 0 } : Room).slots) := by
  refine MetFree.of_bodySF (plainFor_of_name pn_0) hisR ?_
  intro p e s m args below meth c s₁ Bd hml0 hP hK
  obtain ⟨rfl, hZ, hh⟩ := hP
  have hx := Bd.exec
  have hby := Bd.bytes
  have hml : c.maxLocals = 1 := hml0
  have hown : s.vm.findClass "java/lang/StringLatin1" = some m.cls := findClass_of_methodNamed Bd.named
  have hnm := (name_of_methodNamed Bd.named Bd.method).1
  have X0 : Stand p l e ({ frames := 0, cells := 1, slots := 1, locals := 0 } : Room) s m #[(.int c_)] below meth c s₁ [] 0 0 := Stand.of_body Bd
  have e0 : s₁.heap = h0 := by rw [← hh, Bd.state]; rfl
  have N0 := Fr.nil n0
  refine Goes.done ?_
  obtain ⟨W, hWd⟩ : ∃ W : State → Prop, W = EndW s below (QTB Z c_ h0 n0) ({ frames := 0, cells := 1, slots := 1, locals := 0 } : Room).cells ({ frames := 0, cells := 1, slots := 1, locals := 0 } : Room).slots := ⟨_, rfl⟩
  rw [← hWd]
  have hef : entryFrame m #[(.int c_)] 1 = (mkF m 0 #[vI c_] []) := by first | (simp [entryFrame, mkF, argsToLocals, Value.category]; done) | rfl
  rw [hef]
  refine Go s₁ (mkF m 1 #[vI c_] [(.int 1)]) ?_ (fun t_ k_ => XS.iconst X0.here hx rfl (hb hby d3_0) k_)
  obtain ⟨T1, h1, k1, X1, e1, E1, A1, st1⟩ := newP X0 hx hZ (wq hw 14 rfl) e0 (g := (mkF m 1 #[vI c_] [(.int 1)])) rfl (hb hby d3_1) rfl (by decide) (cap := 1) (by decide) (by decide) (by decide) (by decide)
  obtain ⟨b1, gb1⟩ : ∃ z, z = h0.size := ⟨_, rfl⟩
  rw [← gb1] at A1 st1
  have V1 := Arv.new A1 (by decide)
  have Z1 : n0 ≤ h1.size := Nat.le_trans Z0 E1.1
  have g_b1 : n0 ≤ b1 := Nat.le_trans Z0 (Nat.le_of_eq gb1.symm)
  refine Go T1 (mkF m 3 #[vI c_] [(.ref b1)]) ?_ st1
  obtain ⟨cc, A1, -, S1_, -, -, -⟩ := id V1
  refine Go T1 (mkF m 4 #[vI c_] [(.ref b1), (.ref b1)]) ?_ (fun t_ k_ => XS.dup X1.here hx rfl (hb hby d3_3) rfl rfl k_)
  refine Go T1 (mkF m 5 #[vI c_] [(.int 0), (.ref b1), (.ref b1)]) ?_ (fun t_ k_ => XS.iconst X1.here hx rfl (hb hby d3_4) k_)
  refine Go T1 (mkF m 6 #[vI c_] [(.int c_), (.int 0), (.ref b1), (.ref b1)]) ?_ (fun t_ k_ => XS.iloadN X1.here hx rfl (hb hby d3_5) rfl k_)
  refine Go T1 (mkF m 7 #[vI c_] [(.int (c_.toInt8.toInt32)), (.int 0), (.ref b1), (.ref b1)]) ?_ (fun t_ k_ => XS.i2b X1.here hx rfl (hb hby d3_6) rfl k_)
  obtain ⟨T2, h2, X2, e2, W2, st2⟩ := stB X1 hx hZ e1 A1 (j := (0 : Int32)) (inb_of S1_ ⟨by decide, by decide⟩) (g := (mkF m 7 #[vI c_] [(.int (c_.toInt8.toInt32)), (.int 0), (.ref b1), (.ref b1)])) rfl rfl (hb hby d3_7)
  have N2 := Fr.snoc X2 N0 g_b1
  have Z2 : n0 ≤ h2.size := Nat.le_trans Z1 (Nat.le_of_eq W2.size.symm)
  refine Go T2 (mkF m 8 #[vI c_] [(.ref b1)]) ?_ st2
  have elo : nar .byte c_.toInt8.toInt32 = own_lo c_ := own_lolo _
  have BB := own_pushB (xs := []) (v := c_) (j := 0) V1 rfl (by have q := W2; rw [elo] at q; exact q)
  have kx1 : Keep h0 h2 [b1] := ((Keep.refl h0 _).ext E1).wr W2 (Or.inl (List.mem_cons_self ..))
  have kx2 : Keep h0 h2 [] := (Keep.refl h0 []).trans kx1 (allS (Or.inr (Nat.le_of_eq gb1.symm)) all0)
  rw [hWd]
  exact Goes.retn X2 (v := some (.ref b1)) (fun fs hr => retA X2 hx Bd.returns rfl rfl (hb hby d3_8) hr) (fun h => by rw [Bd.returns] at h; cases h) Bd.notSynchronized (by decide) (by decide) (by rw [e2]; exact ⟨by rw [gb1], N2, kx2, k1, by rw [← gb1]; exact BB⟩)
def QIB (Z : State) (x t : Addr) (h0 : Heap) (n0 : Nat) (v : Option Value) (h : Heap) (L : List Loc) : Prop := v = none ∧ Fr n0 L ∧ Keep h0 h [x] ∧ Exa Z h x "java/lang/String" ∧ Fld Z h x "java/lang/String" "value" "[B" (.ref t) ∧ Fld Z h x "java/lang/String" "coder" "B" (.int 0) ∧ Fld Z h x "java/lang/String" "hash" "I" (.int 0) ∧ Fld Z h x "java/lang/String" "hashIsZero" "Z" (.int 0)
set_option maxRecDepth 65536 in
set_option maxHeartbeats 40000000 in
theorem rmIB (l : Launch) (Z : State) (a0 : Array Value) (hw : ∀ d ∈ tables_1, d.before a0 Z = true) (ws : List Jvm.Cond) (x t : Addr) (h0 : Heap) (n0 : Nat) (Z0 : n0 ≤ h0.size) (E : Exa Z h0 x "java/lang/String") (ga : n0 ≤ x) (FV : Fld Z h0 x "java/lang/String" "value" "[B" .null) (FC : Fld Z h0 x "java/lang/String" "coder" "B" (.int 0)) (FH : Fld Z h0 x "java/lang/String" "hash" "I" (.int 0)) (FZ : Fld Z h0 x "java/lang/String" "hashIsZero" "Z" (.int 0)) :
    MetFree l mN2 (head1 (Jvm.Cond.code mN2 cD3 3 none :: ws) ({ frames := 1, cells := 0, slots := 0, locals := 12 } : Room)) (fun a_ U => a_ = #[(.ref x), (.ref t), (.int 0)] ∧ Z.Warmed39 U.vm ∧ U.heap = h0) (fun _ _ _ _ _ => True) (fun _ U o U' => ∃ v L, o = .returned v ∧ QIB Z x t h0 n0 v U'.heap L ∧ FrameEnd U o U' L ({ frames := 1, cells := 0, slots := 0, locals := 12 } : Room).cells ({ frames := 1, cells := 0, slots := 0, locals := 12 } : Room).slots) := by
  refine MetFree.of_bodySF (plainFor_of_name pn_1) hisR ?_
  intro p e s m args below meth c s₁ Bd hml0 hP hK
  obtain ⟨rfl, hZ, hh⟩ := hP
  have hx := Bd.exec
  have hby := Bd.bytes
  have hml : c.maxLocals = 3 := hml0
  have hown : s.vm.findClass "java/lang/String" = some m.cls := findClass_of_methodNamed Bd.named
  have hnm := (name_of_methodNamed Bd.named Bd.method).1
  have X0 : Stand p l e ({ frames := 1, cells := 0, slots := 0, locals := 12 } : Room) s m #[(.ref x), (.ref t), (.int 0)] below meth c s₁ [] 0 0 := Stand.of_body Bd
  have e0 : s₁.heap = h0 := by rw [← hh, Bd.state]; rfl
  have N0 := Fr.nil n0
  refine Goes.done ?_
  obtain ⟨W, hWd⟩ : ∃ W : State → Prop, W = EndW s below (QIB Z x t h0 n0) ({ frames := 1, cells := 0, slots := 0, locals := 12 } : Room).cells ({ frames := 1, cells := 0, slots := 0, locals := 12 } : Room).slots := ⟨_, rfl⟩
  rw [← hWd]
  have hef : entryFrame m #[(.ref x), (.ref t), (.int 0)] 3 = (mkF m 0 #[vR x, vR t, vI 0] []) := by first | (simp [entryFrame, mkF, argsToLocals, Value.category]; done) | rfl
  rw [hef]
  refine Go s₁ (mkF m 1 #[vR x, vR t, vI 0] [(.ref x)]) ?_ (fun t_ k_ => XS.aloadN X0.here hx rfl (hb hby d4_0) rfl rfl k_)
  obtain ⟨T1, X1, e1, st1⟩ := initO X0 hx hZ hown (wq hw 19 rfl) (wq hw 20 rfl) (wq hw 21 rfl) e0 (g := (mkF m 1 #[vR x, vR t, vI 0] [(.ref x)])) rfl (by rw [hml]; rfl) rfl (hb hby d4_1) (by decide) (W := 0) (by show 2 * 0 + _ ≤ _; exact Nat.le_of_eq rfl) (by decide)
  refine Go T1 (mkF m 4 #[vR x, vR t, vI 0] []) ?_ st1
  refine Go T1 (mkF m 5 #[vR x, vR t, vI 0] [(.ref x)]) ?_ (fun t_ k_ => XS.aloadN X1.here hx rfl (hb hby d4_4) rfl rfl k_)
  refine Go T1 (mkF m 6 #[vR x, vR t, vI 0] [(.ref t), (.ref x)]) ?_ (fun t_ k_ => XS.aloadN X1.here hx rfl (hb hby d4_5) rfl rfl k_)
  obtain ⟨T2, h2, X2, e2, W2, st2⟩ := putF X1 hx hZ hown (host := "") (Or.inl (wq hw 22 rfl)) Via.refl e1 FV E (Or.inr ⟨(wq hw 23 rfl), rfl, hnm⟩) (wq hw 10 rfl) (ty := (.array .byte)) (by decide) rfl rfl (g := (mkF m 6 #[vR x, vR t, vI 0] [(.ref t), (.ref x)])) rfl rfl (hb hby d4_6)
  have N2 := Fr.snoc X2 N0 ga
  have Z2 : n0 ≤ h2.size := Nat.le_trans Z0 (Nat.le_of_eq W2.size.symm)
  refine Go T2 (mkF m 9 #[vR x, vR t, vI 0] []) ?_ st2
  have fx3 := FV.same W2
  have fx4 := FC.other W2 (Or.inr (slot_ne (Or.inr (wq hw 25 rfl)) (Or.inr (wq hw 23 rfl)) (by decide) (t := .byte) (t' := (.array .byte)) (by decide) (by decide)))
  have fx5 := FH.other W2 (Or.inr (slot_ne (Or.inl (wq hw 86 rfl)) (Or.inr (wq hw 23 rfl)) (by decide) (t := .int) (t' := (.array .byte)) (by decide) (by decide)))
  have fx6 := FZ.other W2 (Or.inr (slot_ne (Or.inl (wq hw 88 rfl)) (Or.inr (wq hw 23 rfl)) (by decide) (t := .boolean) (t' := (.array .byte)) (by decide) (by decide)))
  have fx7 := E.wr W2
  have kp8 := (Keep.refl h0 [x]).wr W2 (Or.inl (by simp))
  refine Go T2 (mkF m 10 #[vR x, vR t, vI 0] [(.ref x)]) ?_ (fun t_ k_ => XS.aloadN X2.here hx rfl (hb hby d4_9) rfl rfl k_)
  refine Go T2 (mkF m 11 #[vR x, vR t, vI 0] [(.int 0), (.ref x)]) ?_ (fun t_ k_ => XS.iloadN X2.here hx rfl (hb hby d4_10) rfl k_)
  obtain ⟨T9, h9, X9, e9, W9, st9⟩ := putF X2 hx hZ hown (host := "") (Or.inl (wq hw 24 rfl)) Via.refl e2 fx4 fx7 (Or.inr ⟨(wq hw 25 rfl), rfl, hnm⟩) (wq hw 10 rfl) (ty := .byte) (by decide) rfl rfl (g := (mkF m 11 #[vR x, vR t, vI 0] [(.int 0), (.ref x)])) rfl rfl (hb hby d4_11)
  have N9 := Fr.snoc X9 N2 ga
  have Z9 : n0 ≤ h9.size := Nat.le_trans Z2 (Nat.le_of_eq W9.size.symm)
  refine Go T9 (mkF m 14 #[vR x, vR t, vI 0] []) ?_ st9
  have fx10 := fx3.other W9 (Or.inr (slot_ne (Or.inr (wq hw 23 rfl)) (Or.inr (wq hw 25 rfl)) (by decide) (t := (.array .byte)) (t' := .byte) (by decide) (by decide)))
  have fx11 := fx4.same W9
  have fx12 := fx5.other W9 (Or.inr (slot_ne (Or.inl (wq hw 86 rfl)) (Or.inr (wq hw 25 rfl)) (by decide) (t := .int) (t' := .byte) (by decide) (by decide)))
  have fx13 := fx6.other W9 (Or.inr (slot_ne (Or.inl (wq hw 88 rfl)) (Or.inr (wq hw 25 rfl)) (by decide) (t := .boolean) (t' := .byte) (by decide) (by decide)))
  have fx14 := fx7.wr W9
  have kp15 := kp8.wr W9 (Or.inl (by simp))
  rw [hWd]
  exact Goes.retn X9 (v := none) (fun fs hr => X9.returnOut hx Bd.returns (hb hby d4_14) hr) (fun _ => rfl) Bd.notSynchronized (by decide) (by decide) (by rw [e9]; exact ⟨rfl, N9, kp15, fx14, fx10, fx11, fx12, fx13⟩)
def QVO (Z : State) (c_ : Int32) (zc : Int32) (h0 : Heap) (n0 : Nat) (v : Option Value) (h : Heap) (L : List Loc) : Prop := ∃ x t kt, v = some (.ref x) ∧ Fr n0 L ∧ Keep h0 h [] ∧ h0.size ≤ x ∧ h0.size ≤ t ∧ S1 Z h x t kt c_
set_option maxRecDepth 65536 in
set_option maxHeartbeats 40000000 in
theorem rmVO (l : Launch) (Z : State) (a0 : Array Value) (hw : ∀ d ∈ tables_1, d.before a0 Z = true) (ws : List Jvm.Cond) (c_ : Int32) (zc : Int32) (h0 : Heap) (n0 : Nat) (Z0 : n0 ≤ h0.size) (hca : ¬ c_ < 0) (hcb : ¬ (255 : Int32) < c_) (CS : Sta Z Z.heap "java/lang/String" "COMPACT_STRINGS" "Z" (.int zc)) (hzc : ¬ zc = (0 : Int32)) (X0_ : Old Z n0 h0) :
    MetFree l mN3 (head1 (Jvm.Cond.code mN3 cD0 1 (some (.object "java/lang/String")) :: ws) ({ frames := 2, cells := 2, slots := 5, locals := 28 } : Room)) (fun a_ U => a_ = #[(.int c_)] ∧ Z.Warmed39 U.vm ∧ U.heap = h0) (fun _ _ _ _ _ => True) (fun _ U o U' => ∃ v L, o = .returned v ∧ QVO Z c_ zc h0 n0 v U'.heap L ∧ FrameEnd U o U' L ({ frames := 2, cells := 2, slots := 5, locals := 28 } : Room).cells ({ frames := 2, cells := 2, slots := 5, locals := 28 } : Room).slots) := by
  refine MetFree.of_bodySF (plainFor_of_name pn_1) hisR ?_
  intro p e s m args below meth c s₁ Bd hml0 hP hK
  obtain ⟨rfl, hZ, hh⟩ := hP
  have hx := Bd.exec
  have hby := Bd.bytes
  have hml : c.maxLocals = 1 := hml0
  have hown : s.vm.findClass "java/lang/String" = some m.cls := findClass_of_methodNamed Bd.named
  have hnm := (name_of_methodNamed Bd.named Bd.method).1
  have X0 : Stand p l e ({ frames := 2, cells := 2, slots := 5, locals := 28 } : Room) s m #[(.int c_)] below meth c s₁ [] 0 0 := Stand.of_body Bd
  have e0 : s₁.heap = h0 := by rw [← hh, Bd.state]; rfl
  have N0 := Fr.nil n0
  refine Goes.done ?_
  obtain ⟨W, hWd⟩ : ∃ W : State → Prop, W = EndW s below (QVO Z c_ zc h0 n0) ({ frames := 2, cells := 2, slots := 5, locals := 28 } : Room).cells ({ frames := 2, cells := 2, slots := 5, locals := 28 } : Room).slots := ⟨_, rfl⟩
  rw [← hWd]
  have hef : entryFrame m #[(.int c_)] 1 = (mkF m 0 #[vI c_] []) := by first | (simp [entryFrame, mkF, argsToLocals, Value.category]; done) | rfl
  rw [hef]
  obtain ⟨T1, X1, e1, st1⟩ := getS2 X0 hx hZ hown (host := "") (Or.inl (wq hw 4 rfl)) Via.refl e0 (CS.ext X0_.2) (g := (mkF m 0 #[vI c_] [])) rfl (hb hby d1_0)
  refine Go T1 (mkF m 3 #[vI c_] [(.int zc)]) ?_ st1
  refine Go T1 (mkF m 6 #[vI c_] []) ?_ (fun t_ k_ => XS.ifNo X1.here hx rfl (hb hby d1_3) rfl ((if0 _ _).trans (feq hzc).1) k_)
  refine Go T1 (mkF m 7 #[vI c_] [(.int c_)]) ?_ (fun t_ k_ => XS.iloadN X1.here hx rfl (hb hby d1_6) rfl k_)
  obtain ⟨_, _, ⟨T2, Lq_2, kq_2, nq_2⟩, -, X2, ⟨Lc2, hQ2, l2, y2, z2⟩, st2⟩ := Jvm.LawKit.callS X1 hx (y := mN0) hown (mvT hZ (wq hw 5 rfl)) (mvT hZ (wq hw 6 rfl)) (mvT hZ (wq hw 7 rfl)) (mvT hZ (wq hw 8 rfl)) (by decide) (backOf (W := 0) (rmCE l Z a0 hw [] c_ h0 n0 Z0 hcb) hZ (wq hw 8 rfl) (wq hw 7 rfl) (by decide) (by decide)) (g := (mkF m 7 #[vI c_] [(.int c_)])) rfl (by rw [hml]; rfl) (argsL := [(.int c_)]) (rest := []) (lenOf pd_0 rfl) rfl (by show 2 * 0 + _ ≤ _; exact Nat.le_of_eq rfl) (hb hby d1_7) (fun _ _ => ⟨rfl, e1, (by decide : 0 + 0 ≤ _), (by decide : 0 + 0 ≤ _)⟩)
  dsimp only [Pt.U, Pt.locs, Pt.cells, Pt.slots] at X2 l2 y2 z2 st2 hQ2
  rw [l2, y2, z2] at X2
  change Stand p l e _ _ m _ below meth c T2 _ 0 0 at X2
  obtain ⟨rfl, N2q, eh2⟩ := hQ2
  have N2 := Fr.app N0 N2q
  refine Go T2 (mkF m 10 #[vI c_] [(.int 1)]) ?_ st2
  refine Go T2 (mkF m 13 #[vI c_] []) ?_ (fun t_ k_ => XS.ifNo X2.here hx rfl (hb hby d1_10) rfl (by decide) k_)
  obtain ⟨T3, h3, X3, e3, E3, A3, D3, -, st3⟩ := newO X2 hx hZ hown (wq hw 9 rfl) (wq hw 10 rfl) (wq hw 2 rfl) eh2 (g := (mkF m 13 #[vI c_] [])) rfl (hb hby d1_13) (by decide) (by decide)
  obtain ⟨b3, gb3⟩ : ∃ z, z = h0.size := ⟨_, rfl⟩
  rw [← gb3] at A3 D3 st3
  have Z3 : n0 ≤ h3.size := Nat.le_trans Z0 E3.1
  have g_b3 : n0 ≤ b3 := Nat.le_trans Z0 (Nat.le_of_eq gb3.symm)
  refine Go T3 (mkF m 16 #[vI c_] [(.ref b3)]) ?_ st3
  have F3_value : Fld Z h3 b3 "java/lang/String" "value" "[B" .null := D3 (Or.inr (wq hw 23 rfl)) (ty := (.array .byte)) (by decide)
  have F3_coder : Fld Z h3 b3 "java/lang/String" "coder" "B" (.int 0) := D3 (Or.inr (wq hw 25 rfl)) (ty := .byte) (by decide)
  have F3_hash : Fld Z h3 b3 "java/lang/String" "hash" "I" (.int 0) := D3 (Or.inl (wq hw 86 rfl)) (ty := .int) (by decide)
  have F3_hashIsZero : Fld Z h3 b3 "java/lang/String" "hashIsZero" "Z" (.int 0) := D3 (Or.inl (wq hw 88 rfl)) (ty := .boolean) (by decide)
  have kp4 := (Keep.refl h0 []).ext E3
  refine Go T3 (mkF m 17 #[vI c_] [(.ref b3), (.ref b3)]) ?_ (fun t_ k_ => XS.dup X3.here hx rfl (hb hby d1_16) rfl rfl k_)
  refine Go T3 (mkF m 18 #[vI c_] [(.int c_), (.ref b3), (.ref b3)]) ?_ (fun t_ k_ => XS.iloadN X3.here hx rfl (hb hby d1_17) rfl k_)
  obtain ⟨_, _, ⟨T5, Lq_5, kq_5, nq_5⟩, -, X5, ⟨Lc5, hQ5, l5, y5, z5⟩, st5⟩ := Jvm.LawKit.callS X3 hx (y := mN1) hown (mvT hZ (wq hw 11 rfl)) (mvT hZ (wq hw 12 rfl)) (mvT hZ (wq hw 7 rfl)) (mvT hZ (wq hw 13 rfl)) (by decide) (backOf (W := 2) (rmTB l Z a0 hw [] c_ h3 n0 Z3) hZ (wq hw 13 rfl) (wq hw 7 rfl) (by decide) (by decide)) (g := (mkF m 18 #[vI c_] [(.int c_), (.ref b3), (.ref b3)])) rfl (by rw [hml]; rfl) (argsL := [(.int c_)]) (rest := [(.ref b3), (.ref b3)]) (lenOf pd_1 rfl) rfl (by show 2 * 0 + _ ≤ _; exact Nat.le_of_eq rfl) (hb hby d1_18) (fun _ _ => ⟨rfl, e3, (by decide : 1 + 1 ≤ _), (by decide : 4 + 1 ≤ _)⟩)
  dsimp only [Pt.U, Pt.locs, Pt.cells, Pt.slots] at X5 l5 y5 z5 st5 hQ5
  rw [l5, y5, z5] at X5
  change Stand p l e _ _ m _ below meth c T5 _ 2 5 at X5
  obtain ⟨rfl, N5q, K5, ⟨kb, B5⟩⟩ := hQ5
  have N5 := Fr.app N2 N5q
  refine Go T5 (mkF m 21 #[vI c_] [(.ref h3.size), (.ref b3), (.ref b3)]) ?_ st5
  have fx6 := F3_value.keep K5 nin0
  have fx7 := F3_coder.keep K5 nin0
  have fx8 := F3_hash.keep K5 nin0
  have fx9 := F3_hashIsZero.keep K5 nin0
  have fx10 := A3.keep K5
  have kp11 := kp4.trans K5 all0
  have Zt : n0 ≤ T5.heap.size := Nat.le_trans Z3 K5.1
  obtain ⟨tt, ett⟩ : ∃ z, z = h3.size := ⟨_, rfl⟩
  rw [← ett] at B5 ⊢
  have szt : h0.size ≤ tt := Nat.le_trans E3.1 (Nat.le_of_eq ett.symm)
  have tx : tt ≠ b3 := Ne.symm (Nat.ne_of_lt (Nat.lt_of_lt_of_le A3.lt (Nat.le_of_eq ett.symm)))
  refine Go T5 (mkF m 22 #[vI c_] [(.int 0), (.ref tt), (.ref b3), (.ref b3)]) ?_ (fun t_ k_ => XS.iconst X5.here hx rfl (hb hby d1_21) k_)
  obtain ⟨_, _, ⟨T12, Lq_12, kq_12, nq_12⟩, -, X12, ⟨Lc12, hQ12, l12, y12, z12⟩, st12⟩ := X5.specialBack hx (y := mN2) rfl hown (mvT hZ (wq hw 15 rfl)) (mvT hZ (wq hw 16 rfl)) (mvT hZ (wq hw 18 rfl)) (by decide) (backOf (W := 1) (rmIB l Z a0 hw [] b3 tt T5.heap n0 Zt fx10 g_b3 fx6 fx7 fx8 fx9) hZ (wq hw 18 rfl) (wq hw 2 rfl) (by decide) (by decide)) (g := (mkF m 22 #[vI c_] [(.int 0), (.ref tt), (.ref b3), (.ref b3)])) rfl (by rw [hml]; rfl) (Steps.refl _) (a := b3) (argsL := [(.ref tt), (.int 0)]) (rest := [(.ref b3)]) (lenOf pd_2 rfl) rfl (by show 2 * 0 + _ ≤ _; exact Nat.le_of_eq rfl) (hb hby d1_22) (fun _ _ => ⟨rfl, rfl, (by decide : 2 + 0 ≤ _), (by decide : 5 + 0 ≤ _)⟩)
  dsimp only [Pt.U, Pt.locs, Pt.cells, Pt.slots] at X12 l12 y12 z12 st12 hQ12
  rw [l12, y12, z12] at X12
  change Stand p l e _ _ m _ below meth c T12 _ 2 5 at X12
  obtain ⟨rfl, N12q, K12, EX, GV, GC, GH, GZ⟩ := hQ12
  have N12 := Fr.app N5 N12q
  refine Go T12 (mkF m 25 #[vI c_] [(.ref b3)]) ?_ (fun t => st12.trans)
  have kp13 := kp11.trans K12 (allS (Or.inr (Nat.le_of_eq gb3.symm)) all0)
  have SS : S1 Z T12.heap b3 tt kb c_ := ⟨⟨EX, GC, GV, B5.keep K12 (ninS tx nin0), (by show (1 : Nat) ≤ 4000; decide)⟩, 0, 0, GH, GZ, Or.inl rfl, Or.inl rfl⟩
  rw [hWd]
  exact Goes.retn X12 (v := some (.ref b3)) (fun fs hr => retA X12 hx Bd.returns rfl rfl (hb hby d1_25) hr) (fun h => by rw [Bd.returns] at h; cases h) Bd.notSynchronized (by decide) (by decide) ⟨b3, tt, kb, rfl, N12, kp13, Nat.le_of_eq gb3.symm, szt, SS⟩
def QRN (Z : State) (a u : Addr) (h0 : Heap) (n0 : Nat) (v : Option Value) (h : Heap) (L : List Loc) : Prop := v = some (.ref a) ∧ Fr n0 L ∧ h = h0
set_option maxRecDepth 65536 in
set_option maxHeartbeats 40000000 in
theorem rmRN (l : Launch) (Z : State) (a0 : Array Value) (hw : ∀ d ∈ tables_1, d.before a0 Z = true) (ws : List Jvm.Cond) (a u : Addr) (h0 : Heap) (n0 : Nat) (Z0 : n0 ≤ h0.size)  :
    MetFree l mN4 (head1 (Jvm.Cond.code mN4 cD5 2 (some (.object "java/lang/Object")) :: ws) ({ frames := 0, cells := 0, slots := 0, locals := 0 } : Room)) (fun a_ U => a_ = #[(.ref a), (.ref u)] ∧ Z.Warmed39 U.vm ∧ U.heap = h0) (fun _ _ _ _ _ => True) (fun _ U o U' => ∃ v L, o = .returned v ∧ QRN Z a u h0 n0 v U'.heap L ∧ FrameEnd U o U' L ({ frames := 0, cells := 0, slots := 0, locals := 0 } : Room).cells ({ frames := 0, cells := 0, slots := 0, locals := 0 } : Room).slots) := by
  refine MetFree.of_bodySF (plainFor_of_name pn_2) hisR ?_
  intro p e s m args below meth c s₁ Bd hml0 hP hK
  obtain ⟨rfl, hZ, hh⟩ := hP
  have hx := Bd.exec
  have hby := Bd.bytes
  have hml : c.maxLocals = 2 := hml0
  have hown : s.vm.findClass "java/util/Objects" = some m.cls := findClass_of_methodNamed Bd.named
  have hnm := (name_of_methodNamed Bd.named Bd.method).1
  have X0 : Stand p l e ({ frames := 0, cells := 0, slots := 0, locals := 0 } : Room) s m #[(.ref a), (.ref u)] below meth c s₁ [] 0 0 := Stand.of_body Bd
  have e0 : s₁.heap = h0 := by rw [← hh, Bd.state]; rfl
  have N0 := Fr.nil n0
  refine Goes.done ?_
  obtain ⟨W, hWd⟩ : ∃ W : State → Prop, W = EndW s below (QRN Z a u h0 n0) ({ frames := 0, cells := 0, slots := 0, locals := 0 } : Room).cells ({ frames := 0, cells := 0, slots := 0, locals := 0 } : Room).slots := ⟨_, rfl⟩
  rw [← hWd]
  have hef : entryFrame m #[(.ref a), (.ref u)] 2 = (mkF m 0 #[vR a, vR u] []) := by first | (simp [entryFrame, mkF, argsToLocals, Value.category]; done) | rfl
  rw [hef]
  refine Go s₁ (mkF m 1 #[vR a, vR u] [(.ref a)]) ?_ (fun t_ k_ => XS.aloadN X0.here hx rfl (hb hby d7_0) rfl rfl k_)
  refine Go s₁ (mkF m 13 #[vR a, vR u] []) ?_ (fun t_ k_ => XS.ifnonnullYes X0.here hx rfl (pc0 := 1) (pc' := 13) rfl (hb hby d7_1) rfl (by decide) (by decide) k_)
  refine Go s₁ (mkF m 14 #[vR a, vR u] [(.ref a)]) ?_ (fun t_ k_ => XS.aloadN X0.here hx rfl (hb hby d7_13) rfl rfl k_)
  rw [hWd]
  exact Goes.retn X0 (v := some (.ref a)) (fun fs hr => retA X0 hx Bd.returns rfl rfl (hb hby d7_14) hr) (fun h => by rw [Bd.returns] at h; cases h) Bd.notSynchronized (by decide) (by decide) (by rw [e0]; exact ⟨rfl, N0, rfl⟩)
def QLE (Z : State) (t t' : Addr) (bs ds : List Int32) (h0 : Heap) (n0 : Nat) (v : Option Value) (h : Heap) (L : List Loc) : Prop := v = some (.int (if bs = ds then 1 else 0)) ∧ Fr n0 L ∧ h = h0
set_option maxRecDepth 65536 in
set_option maxHeartbeats 40000000 in
theorem rmLE (l : Launch) (Z : State) (a0 : Array Value) (hw : ∀ d ∈ tables_1, d.before a0 Z = true) (ws : List Jvm.Cond) (t t' : Addr) (kb kb' : ClassId) (bs ds : List Int32) (h0 : Heap) (n0 : Nat) (Z0 : n0 ≤ h0.size) (K : Arv Z h0 t kb .byte (Int32.ofNat bs.length) (bs.map Value.int) (.int 0)) (K' : Arv Z h0 t' kb' .byte (Int32.ofNat ds.length) (ds.map Value.int) (.int 0)) (l1 : bs.length ≤ 4000) (l2 : ds.length ≤ 4000) :
    MetFree l mN5 (head1 (Jvm.Cond.code mN5 cD7 3 (some .boolean) :: ws) ({ frames := 0, cells := 0, slots := 0, locals := 0 } : Room)) (fun a_ U => a_ = #[(.ref t), (.ref t')] ∧ Z.Warmed39 U.vm ∧ U.heap = h0) (fun _ _ _ _ _ => True) (fun _ U o U' => ∃ v L, o = .returned v ∧ QLE Z t t' bs ds h0 n0 v U'.heap L ∧ FrameEnd U o U' L ({ frames := 0, cells := 0, slots := 0, locals := 0 } : Room).cells ({ frames := 0, cells := 0, slots := 0, locals := 0 } : Room).slots) := by
  refine MetFree.of_bodySF (plainFor_of_name pn_0) hisR ?_
  intro p e s m args below meth c s₁ Bd hml0 hP hK
  obtain ⟨rfl, hZ, hh⟩ := hP
  have hx := Bd.exec
  have hby := Bd.bytes
  have hml : c.maxLocals = 3 := hml0
  have hown : s.vm.findClass "java/lang/StringLatin1" = some m.cls := findClass_of_methodNamed Bd.named
  have hnm := (name_of_methodNamed Bd.named Bd.method).1
  have X0 : Stand p l e ({ frames := 0, cells := 0, slots := 0, locals := 0 } : Room) s m #[(.ref t), (.ref t')] below meth c s₁ [] 0 0 := Stand.of_body Bd
  have e0 : s₁.heap = h0 := by rw [← hh, Bd.state]; rfl
  have N0 := Fr.nil n0
  refine Goes.done ?_
  obtain ⟨W, hWd⟩ : ∃ W : State → Prop, W = EndW s below (QLE Z t t' bs ds h0 n0) ({ frames := 0, cells := 0, slots := 0, locals := 0 } : Room).cells ({ frames := 0, cells := 0, slots := 0, locals := 0 } : Room).slots := ⟨_, rfl⟩
  rw [← hWd]
  have hef : entryFrame m #[(.ref t), (.ref t')] 3 = (mkF m 0 #[vR t, vR t', .unset] []) := by first | (simp [entryFrame, mkF, argsToLocals, Value.category]; done) | rfl
  rw [hef]
  obtain ⟨c1, A1, -, S1, M1, H1, -⟩ := K
  obtain ⟨c2, A2, -, S2, M2, H2, -⟩ := K'
  have S1n : c1.slots.size = bs.length := by rw [S1, own_clamp (by omega)]
  have S2n : c2.slots.size = ds.length := by rw [S2, own_clamp (by omega)]
  have K9 : bs.length = ds.length → ∀ d i : Nat, i + d = bs.length → (∀ j, j < i → bs.getD j 0 = ds.getD j 0) → Goes p e below W s₁ (mkF m 9 #[vR t, vR t', vI (Int32.ofNat i)] []) := by
    intro hln d
    induction d with
    | zero =>
      intro i hi hpre
      have hge : ¬ (Int32.ofNat i < Int32.ofNat bs.length) := by rw [own_nlt (by omega) (by omega)]; omega
      refine Go s₁ (mkF m 10 #[vR t, vR t', vI (Int32.ofNat i)] [(.int (Int32.ofNat i))]) ?_ (fun t_ k_ => XS.iloadN X0.here hx rfl (hb hby d9_9) rfl k_)
      refine Go s₁ (mkF m 11 #[vR t, vR t', vI (Int32.ofNat i)] [(.ref t), (.int (Int32.ofNat i))]) ?_ (fun t_ k_ => XS.aloadN X0.here hx rfl (hb hby d9_10) rfl rfl k_)
      refine Go s₁ (mkF m 12 #[vR t, vR t', vI (Int32.ofNat i)] [(.int c1.slots.size.toInt32), (.int (Int32.ofNat i))]) ?_ (X0.arraylength hx (by rw [e0]; exact A1.1) (State.isArrayOf_alike hZ.alike A1.2.1) (g := (mkF m 11 #[vR t, vR t', vI (Int32.ofNat i)] [(.ref t), (.int (Int32.ofNat i))])) rfl rfl (hb hby d9_11))
      rw [len_of S1 M1]
      refine Go s₁ (mkF m 32 #[vR t, vR t', vI (Int32.ofNat i)] []) ?_ (fun t_ k_ => XS.icmpYes X0.here hx rfl (pc0 := 12) (pc' := 32) rfl (hb hby d9_12) rfl (flt hge).2.1 (by decide) (by decide) k_)
      refine Go s₁ (mkF m 33 #[vR t, vR t', vI (Int32.ofNat i)] [(.int 1)]) ?_ (fun t_ k_ => XS.iconst X0.here hx rfl (hb hby d9_32) k_)
      rw [hWd]
      exact Goes.retn X0 (v := some (.int (nar .boolean (1 : Int32)))) (fun fs hr => retN X0 hx (t := .boolean) Bd.returns (by simp) (hb hby d9_33) hr) (fun h => by rw [Bd.returns] at h; cases h) Bd.notSynchronized (by decide) (by decide) (by rw [e0]; exact ⟨by rw [if_pos (own_bext hln (fun j hj => hpre j (by omega)))]; rfl, N0, rfl⟩)
    | succ d ih =>
      intro i hi hpre
      have hlt : Int32.ofNat i < Int32.ofNat bs.length := by rw [own_nlt (by omega) (by omega)]; omega
      have hc : (Int32.ofNat i).toNatClampNeg = i := own_clamp (by omega)
      have in1 : ¬ ((Int32.ofNat i) < 0 ∨ c1.slots.size ≤ (Int32.ofNat i).toNatClampNeg) := by rw [hc, S1n]; intro q; rcases q with q | q; exact own_nn (by omega) q; omega
      have in2 : ¬ ((Int32.ofNat i) < 0 ∨ c2.slots.size ≤ (Int32.ofNat i).toNatClampNeg) := by rw [hc, S2n]; intro q; rcases q with q | q; exact own_nn (by omega) q; omega
      have at1 : c1.slots[(Int32.ofNat i).toNatClampNeg]? = some (.int (bs.getD i 0)) := by rw [hc, H1 i (by omega), own_bget]
      have at2 : c2.slots[(Int32.ofNat i).toNatClampNeg]? = some (.int (ds.getD i 0)) := by rw [hc, H2 i (by omega), own_bget]
      refine Go s₁ (mkF m 10 #[vR t, vR t', vI (Int32.ofNat i)] [(.int (Int32.ofNat i))]) ?_ (fun t_ k_ => XS.iloadN X0.here hx rfl (hb hby d9_9) rfl k_)
      refine Go s₁ (mkF m 11 #[vR t, vR t', vI (Int32.ofNat i)] [(.ref t), (.int (Int32.ofNat i))]) ?_ (fun t_ k_ => XS.aloadN X0.here hx rfl (hb hby d9_10) rfl rfl k_)
      refine Go s₁ (mkF m 12 #[vR t, vR t', vI (Int32.ofNat i)] [(.int c1.slots.size.toInt32), (.int (Int32.ofNat i))]) ?_ (X0.arraylength hx (by rw [e0]; exact A1.1) (State.isArrayOf_alike hZ.alike A1.2.1) (g := (mkF m 11 #[vR t, vR t', vI (Int32.ofNat i)] [(.ref t), (.int (Int32.ofNat i))])) rfl rfl (hb hby d9_11))
      rw [len_of S1 M1]
      refine Go s₁ (mkF m 15 #[vR t, vR t', vI (Int32.ofNat i)] []) ?_ (fun t_ k_ => XS.icmpNo X0.here hx rfl (hb hby d9_12) rfl (tlt hlt).2.1 k_)
      refine Go s₁ (mkF m 16 #[vR t, vR t', vI (Int32.ofNat i)] [(.ref t)]) ?_ (fun t_ k_ => XS.aloadN X0.here hx rfl (hb hby d9_15) rfl rfl k_)
      refine Go s₁ (mkF m 17 #[vR t, vR t', vI (Int32.ofNat i)] [(.int (Int32.ofNat i)), (.ref t)]) ?_ (fun t_ k_ => XS.iloadN X0.here hx rfl (hb hby d9_16) rfl k_)
      refine Go s₁ (mkF m 18 #[vR t, vR t', vI (Int32.ofNat i)] [(.int (bs.getD i 0))]) ?_ (X0.baloadBytes hx (j := (Int32.ofNat i)) (v := (.int (bs.getD i 0))) (by rw [e0]; exact A1.1) (State.isArrayOf_alike hZ.alike A1.2.1) A1.2.2 in1 at1 (g := (mkF m 17 #[vR t, vR t', vI (Int32.ofNat i)] [(.int (Int32.ofNat i)), (.ref t)])) rfl rfl (hb hby d9_17))
      refine Go s₁ (mkF m 19 #[vR t, vR t', vI (Int32.ofNat i)] [(.ref t'), (.int (bs.getD i 0))]) ?_ (fun t_ k_ => XS.aloadN X0.here hx rfl (hb hby d9_18) rfl rfl k_)
      refine Go s₁ (mkF m 20 #[vR t, vR t', vI (Int32.ofNat i)] [(.int (Int32.ofNat i)), (.ref t'), (.int (bs.getD i 0))]) ?_ (fun t_ k_ => XS.iloadN X0.here hx rfl (hb hby d9_19) rfl k_)
      refine Go s₁ (mkF m 21 #[vR t, vR t', vI (Int32.ofNat i)] [(.int (ds.getD i 0)), (.int (bs.getD i 0))]) ?_ (X0.baloadBytes hx (j := (Int32.ofNat i)) (v := (.int (ds.getD i 0))) (by rw [e0]; exact A2.1) (State.isArrayOf_alike hZ.alike A2.2.1) A2.2.2 in2 at2 (g := (mkF m 20 #[vR t, vR t', vI (Int32.ofNat i)] [(.int (Int32.ofNat i)), (.ref t'), (.int (bs.getD i 0))])) rfl rfl (hb hby d9_20))
      refine Goes.icmpP X0 hx rfl (pc0 := 21) (pc' := 26) rfl (hb hby d9_21) rfl (by decide) (by decide) (P := (bs.getD i 0) = (ds.getD i 0)) (cmp_eq _ _) (fun hc21 => ?_) (fun hc21 => ?_)
      · show Goes p e below W s₁ (mkF m 26 #[vR t, vR t', vI (Int32.ofNat i)] [])
        refine Go s₁ (mkF m 29 #[vR t, vR t', vI ((Int32.ofNat i) + (1 : Int32))] []) ?_ (fun t_ k_ => XS.iinc X0.here hx rfl (hb hby d9_26) rfl (l' := #[vR t, vR t', vI ((Int32.ofNat i) + (1 : Int32))]) rfl k_)
        refine Go s₁ (mkF m 9 #[vR t, vR t', vI ((Int32.ofNat i) + (1 : Int32))] []) ?_ (fun t_ k_ => XS.goto X0.here hx rfl (pc0 := 29) (pc' := 9) rfl (hb hby d9_29) (by decide) (by decide) k_)
        rw [own_succ]
        exact ih (i + 1) (by omega) (fun j hj => by rcases Nat.lt_succ_iff_lt_or_eq.mp hj with q | q; exact hpre j q; rw [q]; exact hc21)
      · show Goes p e below W s₁ (mkF m 24 #[vR t, vR t', vI (Int32.ofNat i)] [])
        refine Go s₁ (mkF m 25 #[vR t, vR t', vI (Int32.ofNat i)] [(.int 0)]) ?_ (fun t_ k_ => XS.iconst X0.here hx rfl (hb hby d9_24) k_)
        rw [hWd]
        exact Goes.retn X0 (v := some (.int (nar .boolean (0 : Int32)))) (fun fs hr => retN X0 hx (t := .boolean) Bd.returns (by simp) (hb hby d9_25) hr) (fun h => by rw [Bd.returns] at h; cases h) Bd.notSynchronized (by decide) (by decide) (by rw [e0]; exact ⟨by rw [if_neg (fun q => hc21 (by rw [q]))]; rfl, N0, rfl⟩)
  refine Go s₁ (mkF m 1 #[vR t, vR t', .unset] [(.ref t)]) ?_ (fun t_ k_ => XS.aloadN X0.here hx rfl (hb hby d9_0) rfl rfl k_)
  refine Go s₁ (mkF m 2 #[vR t, vR t', .unset] [(.int c1.slots.size.toInt32)]) ?_ (X0.arraylength hx (by rw [e0]; exact A1.1) (State.isArrayOf_alike hZ.alike A1.2.1) (g := (mkF m 1 #[vR t, vR t', .unset] [(.ref t)])) rfl rfl (hb hby d9_1))
  rw [len_of S1 M1]
  refine Go s₁ (mkF m 3 #[vR t, vR t', .unset] [(.ref t'), (.int (Int32.ofNat bs.length))]) ?_ (fun t_ k_ => XS.aloadN X0.here hx rfl (hb hby d9_2) rfl rfl k_)
  refine Go s₁ (mkF m 4 #[vR t, vR t', .unset] [(.int c2.slots.size.toInt32), (.int (Int32.ofNat bs.length))]) ?_ (X0.arraylength hx (by rw [e0]; exact A2.1) (State.isArrayOf_alike hZ.alike A2.2.1) (g := (mkF m 3 #[vR t, vR t', .unset] [(.ref t'), (.int (Int32.ofNat bs.length))])) rfl rfl (hb hby d9_3))
  rw [len_of S2 M2]
  refine Goes.icmpN X0 hx rfl (pc0 := 4) (pc' := 34) rfl (hb hby d9_4) rfl (by decide) (by decide) (P := (Int32.ofNat bs.length) = (Int32.ofNat ds.length)) (cmp_ne _ _) (fun hc4 => ?_) (fun hc4 => ?_)
  · show Goes p e below W s₁ (mkF m 34 #[vR t, vR t', .unset] [])
    refine Go s₁ (mkF m 35 #[vR t, vR t', .unset] [(.int 0)]) ?_ (fun t_ k_ => XS.iconst X0.here hx rfl (hb hby d9_34) k_)
    rw [hWd]
    exact Goes.retn X0 (v := some (.int (nar .boolean (0 : Int32)))) (fun fs hr => retN X0 hx (t := .boolean) Bd.returns (by simp) (hb hby d9_35) hr) (fun h => by rw [Bd.returns] at h; cases h) Bd.notSynchronized (by decide) (by decide) (by rw [e0]; exact ⟨by rw [if_neg (fun q => hc4 (by rw [q]))]; rfl, N0, rfl⟩)
  · show Goes p e below W s₁ (mkF m 7 #[vR t, vR t', .unset] [])
    refine Go s₁ (mkF m 8 #[vR t, vR t', .unset] [(.int 0)]) ?_ (fun t_ k_ => XS.iconst X0.here hx rfl (hb hby d9_7) k_)
    refine Go s₁ (mkF m 9 #[vR t, vR t', vI 0] []) ?_ (fun t_ k_ => XS.istoreN X0.here hx rfl (hb hby d9_8) rfl (l' := #[vR t, vR t', vI 0]) rfl k_)
    have hln : bs.length = ds.length := (own_ninj (by omega) (by omega)).mp hc4
    exact K9 hln bs.length 0 (by omega) (fun j hj => absurd hj (Nat.not_lt_zero j))
def QSE (Z : State) (x y : Addr) (bs ds : List Int32) (h0 : Heap) (n0 : Nat) (v : Option Value) (h : Heap) (L : List Loc) : Prop := v = some (.int (if bs = ds then 1 else 0)) ∧ Fr n0 L ∧ h = h0
set_option maxRecDepth 65536 in
set_option maxHeartbeats 40000000 in
theorem rmSE (l : Launch) (Z : State) (a0 : Array Value) (hw : ∀ d ∈ tables_1, d.before a0 Z = true) (ws : List Jvm.Cond) (x y t t' : Addr) (kb kb' : ClassId) (bs ds : List Int32) (cz : Int32) (h0 : Heap) (n0 : Nat) (Z0 : n0 ≤ h0.size) (A : Lat Z h0 x t kb bs) (B : Lat Z h0 y t' kb' ds) (CS : Sta Z h0 "java/lang/String" "COMPACT_STRINGS" "Z" (.int cz)) (hcz : ¬ cz = (0 : Int32)) :
    MetFree l mN6 (head1 (Jvm.Cond.code mN6 cD6 3 (some .boolean) :: ws) ({ frames := 1, cells := 0, slots := 0, locals := 14 } : Room)) (fun a_ U => a_ = #[(.ref x), (.ref y)] ∧ Z.Warmed39 U.vm ∧ U.heap = h0) (fun _ _ _ _ _ => True) (fun _ U o U' => ∃ v L, o = .returned v ∧ QSE Z x y bs ds h0 n0 v U'.heap L ∧ FrameEnd U o U' L ({ frames := 1, cells := 0, slots := 0, locals := 14 } : Room).cells ({ frames := 1, cells := 0, slots := 0, locals := 14 } : Room).slots) := by
  refine MetFree.of_bodySF (plainFor_of_name pn_1) hisR ?_
  intro p e s m args below meth c s₁ Bd hml0 hP hK
  obtain ⟨rfl, hZ, hh⟩ := hP
  have hx := Bd.exec
  have hby := Bd.bytes
  have hml : c.maxLocals = 3 := hml0
  have hown : s.vm.findClass "java/lang/String" = some m.cls := findClass_of_methodNamed Bd.named
  have hnm := (name_of_methodNamed Bd.named Bd.method).1
  have X0 : Stand p l e ({ frames := 1, cells := 0, slots := 0, locals := 14 } : Room) s m #[(.ref x), (.ref y)] below meth c s₁ [] 0 0 := Stand.of_body Bd
  have e0 : s₁.heap = h0 := by rw [← hh, Bd.state]; rfl
  have N0 := Fr.nil n0
  refine Goes.done ?_
  obtain ⟨W, hWd⟩ : ∃ W : State → Prop, W = EndW s below (QSE Z x y bs ds h0 n0) ({ frames := 1, cells := 0, slots := 0, locals := 14 } : Room).cells ({ frames := 1, cells := 0, slots := 0, locals := 14 } : Room).slots := ⟨_, rfl⟩
  rw [← hWd]
  have hef : entryFrame m #[(.ref x), (.ref y)] 3 = (mkF m 0 #[vR x, vR y, .unset] []) := by first | (simp [entryFrame, mkF, argsToLocals, Value.category]; done) | rfl
  rw [hef]
  refine Go s₁ (mkF m 1 #[vR x, vR y, .unset] [(.ref x)]) ?_ (fun t_ k_ => XS.aloadN X0.here hx rfl (hb hby d8_0) rfl rfl k_)
  refine Go s₁ (mkF m 2 #[vR x, vR y, .unset] [(.ref y), (.ref x)]) ?_ (fun t_ k_ => XS.aloadN X0.here hx rfl (hb hby d8_1) rfl rfl k_)
  refine Goes.acmpR X0 hx rfl (pc0 := 2) (pcE := 5) (pcN := 7) rfl (hb hby d8_2) rfl (by decide) (by decide) (by decide) (fun hc2 => ?_) (fun hc2 => ?_)
  · show Goes p e below W s₁ (mkF m 5 #[vR x, vR y, .unset] [])
    refine Go s₁ (mkF m 6 #[vR x, vR y, .unset] [(.int 1)]) ?_ (fun t_ k_ => XS.iconst X0.here hx rfl (hb hby d8_5) k_)
    rw [hWd]
    exact Goes.retn X0 (v := some (.int (nar .boolean (1 : Int32)))) (fun fs hr => retN X0 hx (t := .boolean) Bd.returns (by simp) (hb hby d8_6) hr) (fun h => by rw [Bd.returns] at h; cases h) Bd.notSynchronized (by decide) (by decide) (by rw [e0]; exact ⟨by subst hc2; rw [if_pos (A.same B)]; rfl, N0, rfl⟩)
  · show Goes p e below W s₁ (mkF m 7 #[vR x, vR y, .unset] [])
    refine Go s₁ (mkF m 8 #[vR x, vR y, .unset] [(.ref y)]) ?_ (fun t_ k_ => XS.aloadN X0.here hx rfl (hb hby d8_7) rfl rfl k_)
    obtain ⟨T1, X1, e1, st1⟩ := instY X0 hx hZ hown (wq hw 9 rfl) e0 (Ins.self B.1) (g := (mkF m 8 #[vR x, vR y, .unset] [(.ref y)])) rfl rfl (hb hby d8_8)
    refine Go T1 (mkF m 11 #[vR x, vR y, .unset] [(.int 1)]) ?_ st1
    refine Go T1 (mkF m 14 #[vR x, vR y, .unset] []) ?_ (fun t_ k_ => XS.ifNo X1.here hx rfl (hb hby d8_11) rfl (by decide) k_)
    refine Go T1 (mkF m 15 #[vR x, vR y, .unset] [(.ref y)]) ?_ (fun t_ k_ => XS.aloadN X1.here hx rfl (hb hby d8_14) rfl rfl k_)
    obtain ⟨T2, X2, e2, st2⟩ := castY X1 hx hZ hown (wq hw 9 rfl) e1 (Ins.self B.1) (g := (mkF m 15 #[vR x, vR y, .unset] [(.ref y)])) rfl rfl (hb hby d8_15)
    refine Go T2 (mkF m 18 #[vR x, vR y, .unset] [(.ref y)]) ?_ st2
    refine Go T2 (mkF m 19 #[vR x, vR y, vR y] []) ?_ (fun t_ k_ => XS.astoreN X2.here hx rfl (hb hby d8_18) rfl rfl (l' := #[vR x, vR y, vR y]) rfl k_)
    obtain ⟨T3, X3, e3, st3⟩ := getS2 X2 hx hZ hown (host := "") (Or.inl (wq hw 4 rfl)) Via.refl e2 CS (g := (mkF m 19 #[vR x, vR y, vR y] [])) rfl (hb hby d8_19)
    refine Go T3 (mkF m 22 #[vR x, vR y, vR y] [(.int cz)]) ?_ st3
    refine Go T3 (mkF m 25 #[vR x, vR y, vR y] []) ?_ (fun t_ k_ => XS.ifNo X3.here hx rfl (hb hby d8_22) rfl ((if0 _ _).trans (feq hcz).1) k_)
    refine Go T3 (mkF m 26 #[vR x, vR y, vR y] [(.ref x)]) ?_ (fun t_ k_ => XS.aloadN X3.here hx rfl (hb hby d8_25) rfl rfl k_)
    obtain ⟨T4, X4, e4, st4⟩ := getF X3 hx hZ hown (host := "") (Or.inl (wq hw 24 rfl)) Via.refl e3 A.2.1 (g := (mkF m 26 #[vR x, vR y, vR y] [(.ref x)])) rfl rfl (hb hby d8_26)
    refine Go T4 (mkF m 29 #[vR x, vR y, vR y] [(.int 0)]) ?_ st4
    refine Go T4 (mkF m 30 #[vR x, vR y, vR y] [(.ref y), (.int 0)]) ?_ (fun t_ k_ => XS.aloadN X4.here hx rfl (hb hby d8_29) rfl rfl k_)
    obtain ⟨T5, X5, e5, st5⟩ := getF X4 hx hZ hown (host := "") (Or.inl (wq hw 24 rfl)) Via.refl e4 B.2.1 (g := (mkF m 30 #[vR x, vR y, vR y] [(.ref y), (.int 0)])) rfl rfl (hb hby d8_30)
    refine Go T5 (mkF m 33 #[vR x, vR y, vR y] [(.int 0), (.int 0)]) ?_ st5
    refine Go T5 (mkF m 36 #[vR x, vR y, vR y] []) ?_ (fun t_ k_ => XS.icmpNo X5.here hx rfl (hb hby d8_33) rfl (by decide) k_)
    refine Go T5 (mkF m 37 #[vR x, vR y, vR y] [(.ref x)]) ?_ (fun t_ k_ => XS.aloadN X5.here hx rfl (hb hby d8_36) rfl rfl k_)
    obtain ⟨T6, X6, e6, st6⟩ := getF X5 hx hZ hown (host := "") (Or.inl (wq hw 22 rfl)) Via.refl e5 A.2.2.1 (g := (mkF m 37 #[vR x, vR y, vR y] [(.ref x)])) rfl rfl (hb hby d8_37)
    refine Go T6 (mkF m 40 #[vR x, vR y, vR y] [(.ref t)]) ?_ st6
    refine Go T6 (mkF m 41 #[vR x, vR y, vR y] [(.ref y), (.ref t)]) ?_ (fun t_ k_ => XS.aloadN X6.here hx rfl (hb hby d8_40) rfl rfl k_)
    obtain ⟨T7, X7, e7, st7⟩ := getF X6 hx hZ hown (host := "") (Or.inl (wq hw 22 rfl)) Via.refl e6 B.2.2.1 (g := (mkF m 41 #[vR x, vR y, vR y] [(.ref y), (.ref t)])) rfl rfl (hb hby d8_41)
    refine Go T7 (mkF m 44 #[vR x, vR y, vR y] [(.ref t'), (.ref t)]) ?_ st7
    obtain ⟨_, _, ⟨T8, Lq_8, kq_8, nq_8⟩, -, X8, ⟨Lc8, hQ8, l8, y8, z8⟩, st8⟩ := Jvm.LawKit.callS X7 hx (y := mN5) hown (mvT hZ (wq hw 46 rfl)) (mvT hZ (wq hw 47 rfl)) (mvT hZ (wq hw 7 rfl)) (mvT hZ (wq hw 48 rfl)) (by decide) (backOf (W := 0) (rmLE l Z a0 hw [] t t' kb kb' bs ds h0 n0 Z0 A.2.2.2.1 B.2.2.2.1 A.2.2.2.2 B.2.2.2.2) hZ (wq hw 48 rfl) (wq hw 7 rfl) (by decide) (by decide)) (g := (mkF m 44 #[vR x, vR y, vR y] [(.ref t'), (.ref t)])) rfl (by rw [hml]; rfl) (argsL := [(.ref t), (.ref t')]) (rest := []) (lenOf pd_3 rfl) rfl (by show 2 * 0 + _ ≤ _; exact Nat.le_of_eq rfl) (hb hby d8_44) (fun _ _ => ⟨rfl, e7, (by decide : 0 + 0 ≤ _), (by decide : 0 + 0 ≤ _)⟩)
    dsimp only [Pt.U, Pt.locs, Pt.cells, Pt.slots] at X8 l8 y8 z8 st8 hQ8
    rw [l8, y8, z8] at X8
    change Stand p l e _ _ m _ below meth c T8 _ 0 0 at X8
    obtain ⟨rfl, N8q, eh8⟩ := hQ8
    have N8 := Fr.app N0 N8q
    refine Go T8 (mkF m 47 #[vR x, vR y, vR y] [(.int (if bs = ds then 1 else 0))]) ?_ st8
    refine Goes.ifP X8 hx rfl (pc0 := 47) (pc' := 54) rfl (hb hby d8_47) rfl (by decide) (by decide) (P := (if bs = ds then 1 else 0) = (0 : Int32)) (ifc_eq _ _) (fun hc47 => ?_) (fun hc47 => ?_)
    · show Goes p e below W T8 (mkF m 54 #[vR x, vR y, vR y] [])
      refine Go T8 (mkF m 55 #[vR x, vR y, vR y] [(.int 0)]) ?_ (fun t_ k_ => XS.iconst X8.here hx rfl (hb hby d8_54) k_)
      rw [hWd]
      exact Goes.retn X8 (v := some (.int (nar .boolean (0 : Int32)))) (fun fs hr => retN X8 hx (t := .boolean) Bd.returns (by simp) (hb hby d8_55) hr) (fun h => by rw [Bd.returns] at h; cases h) Bd.notSynchronized (by decide) (by decide) (by rw [eh8]; exact ⟨by split at hc47; exact absurd hc47 (by decide); rw [if_neg (by assumption)]; rfl, N8, rfl⟩)
    · show Goes p e below W T8 (mkF m 50 #[vR x, vR y, vR y] [])
      refine Go T8 (mkF m 51 #[vR x, vR y, vR y] [(.int 1)]) ?_ (fun t_ k_ => XS.iconst X8.here hx rfl (hb hby d8_50) k_)
      refine Go T8 (mkF m 55 #[vR x, vR y, vR y] [(.int 1)]) ?_ (fun t_ k_ => XS.goto X8.here hx rfl (pc0 := 51) (pc' := 55) rfl (hb hby d8_51) (by decide) (by decide) k_)
      rw [hWd]
      exact Goes.retn X8 (v := some (.int (nar .boolean (1 : Int32)))) (fun fs hr => retN X8 hx (t := .boolean) Bd.returns (by simp) (hb hby d8_55) hr) (fun h => by rw [Bd.returns] at h; cases h) Bd.notSynchronized (by decide) (by decide) (by rw [eh8]; exact ⟨by split at hc47; rw [if_pos (by assumption)]; rfl; exact absurd rfl hc47, N8, rfl⟩)
def QLA (Z : State) (x : Addr) (zc : Int32) (h0 : Heap) (n0 : Nat) (v : Option Value) (h : Heap) (L : List Loc) : Prop := v = some (.int (1)) ∧ Fr n0 L ∧ h = h0
set_option maxRecDepth 65536 in
set_option maxHeartbeats 40000000 in
theorem rmLA (l : Launch) (Z : State) (a0 : Array Value) (hw : ∀ d ∈ tables_1, d.before a0 Z = true) (ws : List Jvm.Cond) (x : Addr) (zc : Int32) (h0 : Heap) (n0 : Nat) (Z0 : n0 ≤ h0.size) (FC : Fld Z h0 x "java/lang/String" "coder" "B" (.int 0)) (CS : Sta Z Z.heap "java/lang/String" "COMPACT_STRINGS" "Z" (.int zc)) (hzc : ¬ zc = (0 : Int32)) (X0_ : Old Z n0 h0) :
    MetFree l mN7 (head1 (Jvm.Cond.code mN7 cD11 1 (some .boolean) :: ws) ({ frames := 0, cells := 0, slots := 0, locals := 0 } : Room)) (fun a_ U => a_ = #[(.ref x)] ∧ Z.Warmed39 U.vm ∧ U.heap = h0) (fun _ _ _ _ _ => True) (fun _ U o U' => ∃ v L, o = .returned v ∧ QLA Z x zc h0 n0 v U'.heap L ∧ FrameEnd U o U' L ({ frames := 0, cells := 0, slots := 0, locals := 0 } : Room).cells ({ frames := 0, cells := 0, slots := 0, locals := 0 } : Room).slots) := by
  refine MetFree.of_bodySF (plainFor_of_name pn_1) hisR ?_
  intro p e s m args below meth c s₁ Bd hml0 hP hK
  obtain ⟨rfl, hZ, hh⟩ := hP
  have hx := Bd.exec
  have hby := Bd.bytes
  have hml : c.maxLocals = 1 := hml0
  have hown : s.vm.findClass "java/lang/String" = some m.cls := findClass_of_methodNamed Bd.named
  have hnm := (name_of_methodNamed Bd.named Bd.method).1
  have X0 : Stand p l e ({ frames := 0, cells := 0, slots := 0, locals := 0 } : Room) s m #[(.ref x)] below meth c s₁ [] 0 0 := Stand.of_body Bd
  have e0 : s₁.heap = h0 := by rw [← hh, Bd.state]; rfl
  have N0 := Fr.nil n0
  refine Goes.done ?_
  obtain ⟨W, hWd⟩ : ∃ W : State → Prop, W = EndW s below (QLA Z x zc h0 n0) ({ frames := 0, cells := 0, slots := 0, locals := 0 } : Room).cells ({ frames := 0, cells := 0, slots := 0, locals := 0 } : Room).slots := ⟨_, rfl⟩
  rw [← hWd]
  have hef : entryFrame m #[(.ref x)] 1 = (mkF m 0 #[vR x] []) := by first | (simp [entryFrame, mkF, argsToLocals, Value.category]; done) | rfl
  rw [hef]
  obtain ⟨T1, X1, e1, st1⟩ := getS2 X0 hx hZ hown (host := "") (Or.inl (wq hw 4 rfl)) Via.refl e0 (CS.ext X0_.2) (g := (mkF m 0 #[vR x] [])) rfl (hb hby d13_0)
  refine Go T1 (mkF m 3 #[vR x] [(.int zc)]) ?_ st1
  refine Go T1 (mkF m 6 #[vR x] []) ?_ (fun t_ k_ => XS.ifNo X1.here hx rfl (hb hby d13_3) rfl ((if0 _ _).trans (feq hzc).1) k_)
  refine Go T1 (mkF m 7 #[vR x] [(.ref x)]) ?_ (fun t_ k_ => XS.aloadN X1.here hx rfl (hb hby d13_6) rfl rfl k_)
  obtain ⟨T2, X2, e2, st2⟩ := getF X1 hx hZ hown (host := "") (Or.inl (wq hw 24 rfl)) Via.refl e1 FC (g := (mkF m 7 #[vR x] [(.ref x)])) rfl rfl (hb hby d13_7)
  refine Go T2 (mkF m 10 #[vR x] [(.int 0)]) ?_ st2
  refine Go T2 (mkF m 13 #[vR x] []) ?_ (fun t_ k_ => XS.ifNo X2.here hx rfl (hb hby d13_10) rfl (by decide) k_)
  refine Go T2 (mkF m 14 #[vR x] [(.int 1)]) ?_ (fun t_ k_ => XS.iconst X2.here hx rfl (hb hby d13_13) k_)
  refine Go T2 (mkF m 18 #[vR x] [(.int 1)]) ?_ (fun t_ k_ => XS.goto X2.here hx rfl (pc0 := 14) (pc' := 18) rfl (hb hby d13_14) (by decide) (by decide) k_)
  rw [hWd]
  exact Goes.retn X2 (v := some (.int (nar .boolean (1 : Int32)))) (fun fs hr => retN X2 hx (t := .boolean) Bd.returns (by simp) (hb hby d13_18) hr) (fun h => by rw [Bd.returns] at h; cases h) Bd.notSynchronized (by decide) (by decide) (by rw [e2]; exact ⟨rfl, N0, rfl⟩)
def QLH (Z : State) (t : Addr) (kt : ClassId) (c_ : Int32) (h0 : Heap) (n0 : Nat) (v : Option Value) (h : Heap) (L : List Loc) : Prop := v = some (.int (c_)) ∧ Fr n0 L ∧ h = h0
set_option maxRecDepth 65536 in
set_option maxHeartbeats 40000000 in
theorem rmLH (l : Launch) (Z : State) (a0 : Array Value) (hw : ∀ d ∈ tables_1, d.before a0 Z = true) (ws : List Jvm.Cond) (t : Addr) (kt : ClassId) (c_ : Int32) (h0 : Heap) (n0 : Nat) (Z0 : n0 ≤ h0.size) (B : Arv Z h0 t kt .byte (Int32.ofNat [own_lo c_].length) ([own_lo c_].map Value.int) (.int 0)) (hca : ¬ c_ < 0) (hcb : ¬ (255 : Int32) < c_) :
    MetFree l mN8 (head1 (Jvm.Cond.code mN8 cD12 1 (some .int) :: ws) ({ frames := 0, cells := 0, slots := 0, locals := 0 } : Room)) (fun a_ U => a_ = #[(.ref t)] ∧ Z.Warmed39 U.vm ∧ U.heap = h0) (fun _ _ _ _ _ => True) (fun _ U o U' => ∃ v L, o = .returned v ∧ QLH Z t kt c_ h0 n0 v U'.heap L ∧ FrameEnd U o U' L ({ frames := 0, cells := 0, slots := 0, locals := 0 } : Room).cells ({ frames := 0, cells := 0, slots := 0, locals := 0 } : Room).slots) := by
  refine MetFree.of_bodySF (plainFor_of_name pn_0) hisR ?_
  intro p e s m args below meth c s₁ Bd hml0 hP hK
  obtain ⟨rfl, hZ, hh⟩ := hP
  have hx := Bd.exec
  have hby := Bd.bytes
  have hml : c.maxLocals = 1 := hml0
  have hown : s.vm.findClass "java/lang/StringLatin1" = some m.cls := findClass_of_methodNamed Bd.named
  have hnm := (name_of_methodNamed Bd.named Bd.method).1
  have X0 : Stand p l e ({ frames := 0, cells := 0, slots := 0, locals := 0 } : Room) s m #[(.ref t)] below meth c s₁ [] 0 0 := Stand.of_body Bd
  have e0 : s₁.heap = h0 := by rw [← hh, Bd.state]; rfl
  have N0 := Fr.nil n0
  refine Goes.done ?_
  obtain ⟨W, hWd⟩ : ∃ W : State → Prop, W = EndW s below (QLH Z t kt c_ h0 n0) ({ frames := 0, cells := 0, slots := 0, locals := 0 } : Room).cells ({ frames := 0, cells := 0, slots := 0, locals := 0 } : Room).slots := ⟨_, rfl⟩
  rw [← hWd]
  have hef : entryFrame m #[(.ref t)] 1 = (mkF m 0 #[vR t] []) := by first | (simp [entryFrame, mkF, argsToLocals, Value.category]; done) | rfl
  rw [hef]
  have B1 : Arv Z h0 t kt .byte (1 : Int32) [.int (own_lo c_)] (.int 0) := B
  obtain ⟨cc, A1, -, S1_, M1, H1, -⟩ := id B1
  refine Go s₁ (mkF m 1 #[vR t] [(.ref t)]) ?_ (fun t_ k_ => XS.aloadN X0.here hx rfl (hb hby d14_0) rfl rfl k_)
  refine Go s₁ (mkF m 2 #[vR t] [(.int cc.slots.size.toInt32)]) ?_ (X0.arraylength hx (by rw [e0]; exact A1.1) (State.isArrayOf_alike hZ.alike A1.2.1) (g := (mkF m 1 #[vR t] [(.ref t)])) rfl rfl (hb hby d14_1))
  rw [len_of S1_ M1]
  refine Go s₁ (mkF m 32 #[vR t] []) ?_ (fun t_ => X0.lookupswitchHit hx (g := (mkF m 2 #[vR t] [(.int 1)])) rfl (k := (1 : Int32)) rfl (hb hby d14_2) (by decide) (a := 1) (off := 30) (by decide) (by show (0 : Int) ≤ ((2 : Nat) : Int) + 30; decide) t_)
  refine Go s₁ (mkF m 33 #[vR t] [(.ref t)]) ?_ (fun t_ k_ => XS.aloadN X0.here hx rfl (hb hby d14_32) rfl rfl k_)
  refine Go s₁ (mkF m 34 #[vR t] [(.int 0), (.ref t)]) ?_ (fun t_ k_ => XS.iconst X0.here hx rfl (hb hby d14_33) k_)
  refine Go s₁ (mkF m 35 #[vR t] [(.int (own_lo c_))]) ?_ (X0.baloadBytes hx (j := (0 : Int32)) (v := (.int (own_lo c_))) (by rw [e0]; exact A1.1) (State.isArrayOf_alike hZ.alike A1.2.1) A1.2.2 (inb_of S1_ ⟨by decide, by decide⟩) (by have q := H1 0 (by rw [S1_]; decide); exact q) (g := (mkF m 34 #[vR t] [(.int 0), (.ref t)])) rfl rfl (hb hby d14_34))
  refine Go s₁ (mkF m 38 #[vR t] [(.int 255), (.int (own_lo c_))]) ?_ (fun t_ k_ => XS.sipush X0.here hx rfl (hb hby d14_35) k_)
  refine Go s₁ (mkF m 39 #[vR t] [(.int ((own_lo c_) &&& (255 : Int32)))]) ?_ (fun t_ k_ => XS.iand X0.here hx rfl (hb hby d14_38) rfl k_)
  refine Go s₁ (mkF m 51 #[vR t] [(.int ((own_lo c_) &&& (255 : Int32)))]) ?_ (fun t_ k_ => XS.goto X0.here hx rfl (pc0 := 39) (pc' := 51) rfl (hb hby d14_39) (by decide) (by decide) k_)
  rw [hWd]
  exact Goes.retn X0 (v := some (.int ((own_lo c_) &&& (255 : Int32)))) (fun fs hr => retI X0 hx Bd.returns (hb hby d14_51) hr) (fun h => by rw [Bd.returns] at h; cases h) Bd.notSynchronized (by decide) (by decide) (by rw [e0]; exact ⟨by rw [own_and_lo, own_and255 hca hcb], N0, rfl⟩)
def QSH (Z : State) (x t : Addr) (kt : ClassId) (c_ : Int32) (zc : Int32) (h0 : Heap) (n0 : Nat) (v : Option Value) (h : Heap) (L : List Loc) : Prop := v = some (.int c_) ∧ Fr n0 L ∧ Keep h0 h [x] ∧ S1 Z h x t kt c_
set_option maxRecDepth 65536 in
set_option maxHeartbeats 40000000 in
theorem rmSH (l : Launch) (Z : State) (a0 : Array Value) (hw : ∀ d ∈ tables_1, d.before a0 Z = true) (ws : List Jvm.Cond) (x t : Addr) (kt : ClassId) (c_ : Int32) (zc : Int32) (h0 : Heap) (n0 : Nat) (Z0 : n0 ≤ h0.size) (A : S1 Z h0 x t kt c_) (ga : n0 ≤ x) (hca : ¬ c_ < 0) (hcb : ¬ (255 : Int32) < c_) (CS : Sta Z Z.heap "java/lang/String" "COMPACT_STRINGS" "Z" (.int zc)) (hzc : ¬ zc = (0 : Int32)) (X0_ : Old Z n0 h0) :
    MetFree l mN9 (head1 (Jvm.Cond.code mN9 cD10 2 (some .int) :: ws) ({ frames := 1, cells := 0, slots := 0, locals := 12 } : Room)) (fun a_ U => a_ = #[(.ref x)] ∧ Z.Warmed39 U.vm ∧ U.heap = h0) (fun _ _ _ _ _ => True) (fun _ U o U' => ∃ v L, o = .returned v ∧ QSH Z x t kt c_ zc h0 n0 v U'.heap L ∧ FrameEnd U o U' L ({ frames := 1, cells := 0, slots := 0, locals := 12 } : Room).cells ({ frames := 1, cells := 0, slots := 0, locals := 12 } : Room).slots) := by
  refine MetFree.of_bodySF (plainFor_of_name pn_1) hisR ?_
  intro p e s m args below meth c s₁ Bd hml0 hP hK
  obtain ⟨rfl, hZ, hh⟩ := hP
  have hx := Bd.exec
  have hby := Bd.bytes
  have hml : c.maxLocals = 2 := hml0
  have hown : s.vm.findClass "java/lang/String" = some m.cls := findClass_of_methodNamed Bd.named
  have hnm := (name_of_methodNamed Bd.named Bd.method).1
  have X0 : Stand p l e ({ frames := 1, cells := 0, slots := 0, locals := 12 } : Room) s m #[(.ref x)] below meth c s₁ [] 0 0 := Stand.of_body Bd
  have e0 : s₁.heap = h0 := by rw [← hh, Bd.state]; rfl
  have N0 := Fr.nil n0
  refine Goes.done ?_
  obtain ⟨W, hWd⟩ : ∃ W : State → Prop, W = EndW s below (QSH Z x t kt c_ zc h0 n0) ({ frames := 1, cells := 0, slots := 0, locals := 12 } : Room).cells ({ frames := 1, cells := 0, slots := 0, locals := 12 } : Room).slots := ⟨_, rfl⟩
  rw [← hWd]
  have hef : entryFrame m #[(.ref x)] 2 = (mkF m 0 #[vR x, .unset] []) := by first | (simp [entryFrame, mkF, argsToLocals, Value.category]; done) | rfl
  rw [hef]
  obtain ⟨⟨E, FC, FV, B, l4⟩, hv, zv, FH, FZ, hh1, hz1⟩ := id A
  have tx : t ≠ x := Ne.symm (Exa.neArv E B (wq hw 10 rfl))
  refine Go s₁ (mkF m 1 #[vR x, .unset] [(.ref x)]) ?_ (fun t_ k_ => XS.aloadN X0.here hx rfl (hb hby d12_0) rfl rfl k_)
  obtain ⟨T1, X1, e1, st1⟩ := getF X0 hx hZ hown (host := "") (Or.inl (wq hw 85 rfl)) Via.refl e0 FH (g := (mkF m 1 #[vR x, .unset] [(.ref x)])) rfl rfl (hb hby d12_1)
  refine Go T1 (mkF m 4 #[vR x, .unset] [(.int hv)]) ?_ st1
  refine Go T1 (mkF m 5 #[vR x, vI hv] []) ?_ (fun t_ k_ => XS.istoreN X1.here hx rfl (hb hby d12_4) rfl (l' := #[vR x, vI hv]) rfl k_)
  refine Go T1 (mkF m 6 #[vR x, vI hv] [(.int hv)]) ?_ (fun t_ k_ => XS.iloadN X1.here hx rfl (hb hby d12_5) rfl k_)
  refine Goes.ifN X1 hx rfl (pc0 := 6) (pc' := 58) rfl (hb hby d12_6) rfl (by decide) (by decide) (P := hv = (0 : Int32)) (ifc_ne _ _) (fun hc6 => ?_) (fun hc6 => ?_)
  · show Goes p e below W T1 (mkF m 58 #[vR x, vI hv] [])
    refine Go T1 (mkF m 59 #[vR x, vI hv] [(.int hv)]) ?_ (fun t_ k_ => XS.iloadN X1.here hx rfl (hb hby d12_58) rfl k_)
    rw [hWd]
    exact Goes.retn X1 (v := some (.int hv)) (fun fs hr => retI X1 hx Bd.returns (hb hby d12_59) hr) (fun h => by rw [Bd.returns] at h; cases h) Bd.notSynchronized (by decide) (by decide) (by rw [e1]; exact ⟨by rw [hh1.resolve_left hc6], N0, Keep.refl _ _, A⟩)
  · show Goes p e below W T1 (mkF m 9 #[vR x, vI hv] [])
    refine Go T1 (mkF m 10 #[vR x, vI hv] [(.ref x)]) ?_ (fun t_ k_ => XS.aloadN X1.here hx rfl (hb hby d12_9) rfl rfl k_)
    obtain ⟨T2, X2, e2, st2⟩ := getF X1 hx hZ hown (host := "") (Or.inl (wq hw 87 rfl)) Via.refl e1 FZ (g := (mkF m 10 #[vR x, vI hv] [(.ref x)])) rfl rfl (hb hby d12_10)
    refine Go T2 (mkF m 13 #[vR x, vI hv] [(.int zv)]) ?_ st2
    refine Goes.ifN X2 hx rfl (pc0 := 13) (pc' := 58) rfl (hb hby d12_13) rfl (by decide) (by decide) (P := zv = (0 : Int32)) (ifc_ne _ _) (fun hc13 => ?_) (fun hc13 => ?_)
    · show Goes p e below W T2 (mkF m 58 #[vR x, vI hv] [])
      refine Go T2 (mkF m 59 #[vR x, vI hv] [(.int hv)]) ?_ (fun t_ k_ => XS.iloadN X2.here hx rfl (hb hby d12_58) rfl k_)
      rw [hWd]
      exact Goes.retn X2 (v := some (.int hv)) (fun fs hr => retI X2 hx Bd.returns (hb hby d12_59) hr) (fun h => by rw [Bd.returns] at h; cases h) Bd.notSynchronized (by decide) (by decide) (by rw [e2]; exact ⟨by rw [hc6, (hz1.resolve_left hc13).1], N0, Keep.refl _ _, A⟩)
    · show Goes p e below W T2 (mkF m 16 #[vR x, vI hv] [])
      refine Go T2 (mkF m 17 #[vR x, vI hv] [(.ref x)]) ?_ (fun t_ k_ => XS.aloadN X2.here hx rfl (hb hby d12_16) rfl rfl k_)
      obtain ⟨cq3, kq3, q3a, q3b, q3c⟩ := isOf hZ e2 E
      obtain ⟨_, _, ⟨T3, Lq_3, kq_3, nq_3⟩, -, X3, ⟨Lc3, hQ3, l3, y3, z3⟩, st3⟩ := X2.virtualBack hx (y := mN7) (z := mN7) hown (mvT hZ (wq hw 89 rfl)) (mvT hZ (wq hw 90 rfl)) (notFace_of_selects (args := #[]) (mvT hZ (wq hw 92 rfl))) (mvT hZ (wq hw 92 rfl)) (mvT hZ (wq hw 91 rfl)) (by decide) (backOf (W := 0) (rmLA l Z a0 hw [] x zc h0 n0 Z0 FC CS hzc X0_) hZ (wq hw 93 rfl) (wq hw 2 rfl) (by decide) (by decide)) q3a q3c (g := (mkF m 17 #[vR x, vI hv] [(.ref x)])) rfl (by rw [hml]; rfl) (Steps.refl _) (argsL := []) (rest := []) (lenOf pd_4 rfl) rfl (by show 2 * 0 + _ ≤ _; exact Nat.le_of_eq rfl) (hb hby d12_17) (fun _ _ => ⟨rfl, e2, (by decide : 0 + 0 ≤ _), (by decide : 0 + 0 ≤ _)⟩)
      dsimp only [Pt.U, Pt.locs, Pt.cells, Pt.slots] at X3 l3 y3 z3 st3 hQ3
      rw [l3, y3, z3] at X3
      change Stand p l e _ _ m _ below meth c T3 _ 0 0 at X3
      obtain ⟨rfl, N3q, eh3⟩ := hQ3
      have N3 := Fr.app N0 N3q
      refine Go T3 (mkF m 20 #[vR x, vI hv] [(.int 1)]) ?_ (fun t => st3.trans)
      refine Go T3 (mkF m 23 #[vR x, vI hv] []) ?_ (fun t_ k_ => XS.ifNo X3.here hx rfl (hb hby d12_20) rfl (by decide) k_)
      refine Go T3 (mkF m 24 #[vR x, vI hv] [(.ref x)]) ?_ (fun t_ k_ => XS.aloadN X3.here hx rfl (hb hby d12_23) rfl rfl k_)
      obtain ⟨T4, X4, e4, st4⟩ := getF X3 hx hZ hown (host := "") (Or.inl (wq hw 22 rfl)) Via.refl eh3 FV (g := (mkF m 24 #[vR x, vI hv] [(.ref x)])) rfl rfl (hb hby d12_24)
      refine Go T4 (mkF m 27 #[vR x, vI hv] [(.ref t)]) ?_ st4
      obtain ⟨_, _, ⟨T5, Lq_5, kq_5, nq_5⟩, -, X5, ⟨Lc5, hQ5, l5, y5, z5⟩, st5⟩ := Jvm.LawKit.callS X4 hx (y := mN8) hown (mvT hZ (wq hw 94 rfl)) (mvT hZ (wq hw 95 rfl)) (mvT hZ (wq hw 7 rfl)) (mvT hZ (wq hw 96 rfl)) (by decide) (backOf (W := 0) (rmLH l Z a0 hw [] t kt c_ h0 n0 Z0 B hca hcb) hZ (wq hw 96 rfl) (wq hw 7 rfl) (by decide) (by decide)) (g := (mkF m 27 #[vR x, vI hv] [(.ref t)])) rfl (by rw [hml]; rfl) (argsL := [(.ref t)]) (rest := []) (lenOf pd_5 rfl) rfl (by show 2 * 0 + _ ≤ _; exact Nat.le_of_eq rfl) (hb hby d12_27) (fun _ _ => ⟨rfl, e4, (by decide : 0 + 0 ≤ _), (by decide : 0 + 0 ≤ _)⟩)
      dsimp only [Pt.U, Pt.locs, Pt.cells, Pt.slots] at X5 l5 y5 z5 st5 hQ5
      rw [l5, y5, z5] at X5
      change Stand p l e _ _ m _ below meth c T5 _ 0 0 at X5
      obtain ⟨rfl, N5q, eh5⟩ := hQ5
      have N5 := Fr.app N3 N5q
      refine Go T5 (mkF m 30 #[vR x, vI hv] [(.int c_)]) ?_ st5
      refine Go T5 (mkF m 40 #[vR x, vI hv] [(.int c_)]) ?_ (fun t_ k_ => XS.goto X5.here hx rfl (pc0 := 30) (pc' := 40) rfl (hb hby d12_30) (by decide) (by decide) k_)
      refine Go T5 (mkF m 41 #[vR x, vI c_] []) ?_ (fun t_ k_ => XS.istoreN X5.here hx rfl (hb hby d12_40) rfl (l' := #[vR x, vI c_]) rfl k_)
      refine Go T5 (mkF m 42 #[vR x, vI c_] [(.int c_)]) ?_ (fun t_ k_ => XS.iloadN X5.here hx rfl (hb hby d12_41) rfl k_)
      refine Goes.ifN X5 hx rfl (pc0 := 42) (pc' := 53) rfl (hb hby d12_42) rfl (by decide) (by decide) (P := c_ = (0 : Int32)) (ifc_ne _ _) (fun hc42 => ?_) (fun hc42 => ?_)
      · show Goes p e below W T5 (mkF m 53 #[vR x, vI c_] [])
        refine Go T5 (mkF m 54 #[vR x, vI c_] [(.ref x)]) ?_ (fun t_ k_ => XS.aloadN X5.here hx rfl (hb hby d12_53) rfl rfl k_)
        refine Go T5 (mkF m 55 #[vR x, vI c_] [(.int c_), (.ref x)]) ?_ (fun t_ k_ => XS.iloadN X5.here hx rfl (hb hby d12_54) rfl k_)
        obtain ⟨T6, h6, X6, e6, W6, st6⟩ := putF X5 hx hZ hown (host := "") (Or.inl (wq hw 85 rfl)) Via.refl eh5 FH E (Or.inl (wq hw 86 rfl)) (wq hw 10 rfl) (ty := .int) (by decide) rfl rfl (g := (mkF m 55 #[vR x, vI c_] [(.int c_), (.ref x)])) rfl rfl (hb hby d12_55)
        have N6 := Fr.snoc X6 N5 ga
        have Z6 : n0 ≤ h6.size := Nat.le_trans Z0 (Nat.le_of_eq W6.size.symm)
        refine Go T6 (mkF m 58 #[vR x, vI c_] []) ?_ st6
        have fx7 := FV.other W6 (Or.inr (slot_ne (Or.inr (wq hw 23 rfl)) (Or.inl (wq hw 86 rfl)) (by decide) (t := (.array .byte)) (t' := .int) (by decide) (by decide)))
        have fx8 := FC.other W6 (Or.inr (slot_ne (Or.inr (wq hw 25 rfl)) (Or.inl (wq hw 86 rfl)) (by decide) (t := .byte) (t' := .int) (by decide) (by decide)))
        have fx9 := FH.same W6
        have fx10 := FZ.other W6 (Or.inr (slot_ne (Or.inl (wq hw 88 rfl)) (Or.inl (wq hw 86 rfl)) (by decide) (t := .boolean) (t' := .int) (by decide) (by decide)))
        have fx11 := E.wr W6
        have fx12 := B.other W6 tx
        refine Go T6 (mkF m 59 #[vR x, vI c_] [(.int c_)]) ?_ (fun t_ k_ => XS.iloadN X6.here hx rfl (hb hby d12_58) rfl k_)
        rw [hWd]
        exact Goes.retn X6 (v := some (.int c_)) (fun fs hr => retI X6 hx Bd.returns (hb hby d12_59) hr) (fun h => by rw [Bd.returns] at h; cases h) Bd.notSynchronized (by decide) (by decide) (by rw [e6]; exact ⟨rfl, N6, ((Keep.refl h0 [x]).wr W6 (Or.inl (List.mem_cons_self ..))), ⟨fx11, fx8, fx7, fx12, l4⟩, c_, zv, fx9, fx10, Or.inr rfl, Or.inl hc13⟩)
      · show Goes p e below W T5 (mkF m 45 #[vR x, vI c_] [])
        refine Go T5 (mkF m 46 #[vR x, vI c_] [(.ref x)]) ?_ (fun t_ k_ => XS.aloadN X5.here hx rfl (hb hby d12_45) rfl rfl k_)
        refine Go T5 (mkF m 47 #[vR x, vI c_] [(.int 1), (.ref x)]) ?_ (fun t_ k_ => XS.iconst X5.here hx rfl (hb hby d12_46) k_)
        obtain ⟨T13, h13, X13, e13, W13, st13⟩ := putF X5 hx hZ hown (host := "") (Or.inl (wq hw 87 rfl)) Via.refl eh5 FZ E (Or.inl (wq hw 88 rfl)) (wq hw 10 rfl) (ty := .boolean) (by decide) rfl rfl (g := (mkF m 47 #[vR x, vI c_] [(.int 1), (.ref x)])) rfl rfl (hb hby d12_47)
        have N13 := Fr.snoc X13 N5 ga
        have Z13 : n0 ≤ h13.size := Nat.le_trans Z0 (Nat.le_of_eq W13.size.symm)
        refine Go T13 (mkF m 50 #[vR x, vI c_] []) ?_ st13
        have fx14 := FV.other W13 (Or.inr (slot_ne (Or.inr (wq hw 23 rfl)) (Or.inl (wq hw 88 rfl)) (by decide) (t := (.array .byte)) (t' := .boolean) (by decide) (by decide)))
        have fx15 := FC.other W13 (Or.inr (slot_ne (Or.inr (wq hw 25 rfl)) (Or.inl (wq hw 88 rfl)) (by decide) (t := .byte) (t' := .boolean) (by decide) (by decide)))
        have fx16 := FH.other W13 (Or.inr (slot_ne (Or.inl (wq hw 86 rfl)) (Or.inl (wq hw 88 rfl)) (by decide) (t := .int) (t' := .boolean) (by decide) (by decide)))
        have fx17 := FZ.same W13
        have fx18 := E.wr W13
        have fx19 := B.other W13 tx
        refine Go T13 (mkF m 58 #[vR x, vI c_] []) ?_ (fun t_ k_ => XS.goto X13.here hx rfl (pc0 := 50) (pc' := 58) rfl (hb hby d12_50) (by decide) (by decide) k_)
        refine Go T13 (mkF m 59 #[vR x, vI c_] [(.int c_)]) ?_ (fun t_ k_ => XS.iloadN X13.here hx rfl (hb hby d12_58) rfl k_)
        rw [hWd]
        exact Goes.retn X13 (v := some (.int c_)) (fun fs hr => retI X13 hx Bd.returns (hb hby d12_59) hr) (fun h => by rw [Bd.returns] at h; cases h) Bd.notSynchronized (by decide) (by decide) (by rw [e13]; exact ⟨rfl, N13, ((Keep.refl h0 [x]).wr W13 (Or.inl (List.mem_cons_self ..))), ⟨fx18, fx15, fx14, fx19, l4⟩, hv, 1, fx16, fx17, hh1, Or.inr ⟨hc42, hc6⟩⟩)
def QSI (Z : State) (x t i r : Addr) (h0 : Heap) (n0 : Nat) (v : Option Value) (h : Heap) (L : List Loc) : Prop := v = none ∧ Fr n0 L ∧ Keep h0 h [x] ∧ Exa Z h x "com/example/entitlement/entitlement/Subject" ∧ Fld Z h x "com/example/entitlement/entitlement/Subject" "type" "Ljava/lang/String;" (.ref t) ∧ Fld Z h x "com/example/entitlement/entitlement/Subject" "id" "Ljava/lang/String;" (.ref i) ∧ Fld Z h x "com/example/entitlement/entitlement/Subject" "relation" "Ljava/lang/String;" (.ref r)
set_option maxRecDepth 65536 in
set_option maxHeartbeats 40000000 in
theorem rmSI (l : Launch) (Z : State) (a0 : Array Value) (hw : ∀ d ∈ tables_1, d.before a0 Z = true) (ws : List Jvm.Cond) (x t i r : Addr) (h0 : Heap) (n0 : Nat) (Z0 : n0 ≤ h0.size) (hEL : EW Z a0 consts_1) (E : Exa Z h0 x "com/example/entitlement/entitlement/Subject") (FT : Fld Z h0 x "com/example/entitlement/entitlement/Subject" "type" "Ljava/lang/String;" .null) (FI : Fld Z h0 x "com/example/entitlement/entitlement/Subject" "id" "Ljava/lang/String;" .null) (FR : Fld Z h0 x "com/example/entitlement/entitlement/Subject" "relation" "Ljava/lang/String;" .null) (ga : n0 ≤ x) (Et : Exa Z h0 t "java/lang/String") (Ei : Exa Z h0 i "java/lang/String") :
    MetFree l mN10 (head1 (Jvm.Cond.code mN10 cD8 4 none :: ws) ({ frames := 1, cells := 4, slots := 32, locals := 14 } : Room)) (fun a_ U => a_ = #[(.ref x), (.ref t), (.ref i), (.ref r)] ∧ Z.Warmed39 U.vm ∧ U.heap = h0 ∧ CHv Z consts_1 U.vm h0 ∧ ∀ y ∈ ([] : List Addr), Safe Z consts_1 U.vm h0 y) (fun _ _ _ _ _ => True) (fun _ U o U' => ∃ v L, o = .returned v ∧ QSI Z x t i r h0 n0 v U'.heap L ∧ CHr Z consts_1 U.vm U.heap U'.vm U'.heap ∧ ReturnedEndW U o U' L ({ frames := 1, cells := 4, slots := 32, locals := 14 } : Room).cells ({ frames := 1, cells := 4, slots := 32, locals := 14 } : Room).slots) := by
  refine MetFree.of_bodySF (plainFor_of_name pn_3) hisR ?_
  intro p e s m args below meth c s₁ Bd hml0 hP hK
  obtain ⟨rfl, hZ, hh, hCH, hSf⟩ := hP
  have C0 : CHr Z consts_1 s.vm h0 s.vm h0 := CHr.refl hCH
  have hS0 : s.Since s.vm h0.size := (State.WarmedH.refl s).since _
  have hx := Bd.exec
  have hby := Bd.bytes
  have hml : c.maxLocals = 4 := hml0
  have hown : s.vm.findClass "com/example/entitlement/entitlement/Subject" = some m.cls := findClass_of_methodNamed Bd.named
  have hnm := (name_of_methodNamed Bd.named Bd.method).1
  have X0 : Stand p l e ({ frames := 1, cells := 4, slots := 32, locals := 14 } : Room) s m #[(.ref x), (.ref t), (.ref i), (.ref r)] below meth c s₁ [] 0 0 := Stand.of_body Bd
  have e0 : s₁.heap = h0 := by rw [← hh, Bd.state]; rfl
  have N0 := Fr.nil n0
  refine Goes.doneH ?_
  obtain ⟨W, hWd⟩ : ∃ W : State → Prop, W = EndWH Z consts_1 s below (QSI Z x t i r h0 n0) ({ frames := 1, cells := 4, slots := 32, locals := 14 } : Room).cells ({ frames := 1, cells := 4, slots := 32, locals := 14 } : Room).slots := ⟨_, rfl⟩
  rw [← hWd]
  have hef : entryFrame m #[(.ref x), (.ref t), (.ref i), (.ref r)] 4 = (mkF m 0 #[vR x, vR t, vR i, vR r] []) := by first | (simp [entryFrame, mkF, argsToLocals, Value.category]; done) | rfl
  rw [hef]
  have hwS := own_wS hw
  refine Go s₁ (mkF m 1 #[vR x, vR t, vR i, vR r] [(.ref x)]) ?_ (fun t_ k_ => XS.aloadN X0.here hx rfl (hb hby d10_0) rfl rfl k_)
  obtain ⟨T1, X1, e1, st1⟩ := initO X0 hx hZ hown (wq hw 54 rfl) (wq hw 20 rfl) (wq hw 21 rfl) e0 (g := (mkF m 1 #[vR x, vR t, vR i, vR r] [(.ref x)])) rfl (by rw [hml]; rfl) rfl (hb hby d10_1) (by decide) (W := 0) (by show 2 * 0 + _ ≤ _; exact Nat.le_of_eq rfl) (by decide)
  refine Go T1 (mkF m 4 #[vR x, vR t, vR i, vR r] []) ?_ st1
  refine Go T1 (mkF m 5 #[vR x, vR t, vR i, vR r] [(.ref x)]) ?_ (fun t_ k_ => XS.aloadN X1.here hx rfl (hb hby d10_4) rfl rfl k_)
  refine Go T1 (mkF m 6 #[vR x, vR t, vR i, vR r] [(.ref t), (.ref x)]) ?_ (fun t_ k_ => XS.aloadN X1.here hx rfl (hb hby d10_5) rfl rfl k_)
  obtain ⟨u2, T2, h2, q2, b2, kc2, X2, e2, E2, hS2, hk2, hZ, hown, Eu2, Cu2, Vu2, Ku2, lu2, lb2, D2, Li2, ne2, st2⟩ := ldcCH (s := s) (vm0 := s.vm) X1 hx hZ hown (wq hw 55 rfl) hwS e1 hS0 (Nat.le_refl _) hEL (by simp [consts_1]) C0.1 (vs := ([116, 121, 112, 101] : List Int32).map Value.int) (z := Int32.ofNat ([116, 121, 112, 101] : List Int32).length) ⟨by decide, by decide⟩ (by decide) (by decide) (g := (mkF m 6 #[vR x, vR t, vR i, vR r] [(.ref t), (.ref x)])) rfl (hb hby d10_6) (n := 16) (by decide) (by decide) (by decide) (by decide)
  have Z2 : n0 ≤ h2.size := Nat.le_trans Z0 E2.1
  have C3 := C0.trans D2
  refine Go T2 (mkF m 8 #[vR x, vR t, vR i, vR r] [(.ref u2), (.ref t), (.ref x)]) ?_ st2
  have fx4 := FT.ext E2
  have fx5 := FI.ext E2
  have fx6 := FR.ext E2
  have fx7 := E.ext E2
  have fx8 := Et.ext E2
  have fx9 := Ei.ext E2
  have kp10 := (Keep.refl h0 [x]).ext E2
  obtain ⟨_, _, ⟨T11, Lq_11, kq_11, nq_11⟩, -, X11, ⟨Lc11, hQ11, l11, y11, z11⟩, st11⟩ := Jvm.LawKit.callS X2 hx (y := mN4) hown (mvT hZ (wq hw 36 rfl)) (mvT hZ (wq hw 37 rfl)) (mvT hZ (wq hw 38 rfl)) (mvT hZ (wq hw 39 rfl)) (by decide) (backOf (W := 1) (rmRN l Z a0 hw [] t u2 h2 n0 Z2) hZ (wq hw 39 rfl) (wq hw 38 rfl) (by decide) (by decide)) (g := (mkF m 8 #[vR x, vR t, vR i, vR r] [(.ref u2), (.ref t), (.ref x)])) rfl (by rw [hml]; rfl) (argsL := [(.ref t), (.ref u2)]) (rest := [(.ref x)]) (lenOf pd_6 rfl) rfl (by show 2 * 0 + _ ≤ _; exact Nat.le_of_eq rfl) (hb hby d10_8) (fun _ _ => ⟨rfl, e2, (by decide : 2 + 0 ≤ _), (by decide : 20 + 0 ≤ _)⟩)
  dsimp only [Pt.U, Pt.locs, Pt.cells, Pt.slots] at X11 l11 y11 z11 st11 hQ11
  rw [l11, y11, z11] at X11
  change Stand p l e _ _ m _ below meth c T11 _ 2 20 at X11
  obtain ⟨rfl, N11q, eh11⟩ := hQ11
  have N11 := Fr.app N0 N11q
  refine Go T11 (mkF m 11 #[vR x, vR t, vR i, vR r] [(.ref t), (.ref x)]) ?_ st11
  obtain ⟨T12, X12, e12, st12⟩ := castY X11 hx hZ hown (wq hw 56 rfl) eh11 (Ins.self fx8) (g := (mkF m 11 #[vR x, vR t, vR i, vR r] [(.ref t), (.ref x)])) rfl rfl (hb hby d10_11)
  refine Go T12 (mkF m 14 #[vR x, vR t, vR i, vR r] [(.ref t), (.ref x)]) ?_ st12
  obtain ⟨T13, h13, X13, e13, W13, st13⟩ := putF X12 hx hZ hown (host := "") (Or.inl (wq hw 57 rfl)) Via.refl e12 fx4 fx7 (Or.inr ⟨(wq hw 58 rfl), rfl, hnm⟩) (wq hw 50 rfl) (ty := (.object "java/lang/String")) (by decide) rfl rfl (g := (mkF m 14 #[vR x, vR t, vR i, vR r] [(.ref t), (.ref x)])) rfl rfl (hb hby d10_14)
  have N13 := Fr.snoc X13 N11 ga
  have Z13 : n0 ≤ h13.size := Nat.le_trans Z2 (Nat.le_of_eq W13.size.symm)
  refine Go T13 (mkF m 17 #[vR x, vR t, vR i, vR r] []) ?_ st13
  have C15 := C3.trans (CHr.wr W13 (Safe.exa hZ.alike fx7 (by decide) (by decide)) C3.1)
  have fx16 := fx4.same W13
  have fx17 := fx5.other W13 (Or.inr (slot_ne (Or.inr (wq hw 61 rfl)) (Or.inr (wq hw 58 rfl)) (by decide) (t := (.object "java/lang/String")) (t' := (.object "java/lang/String")) (by decide) (by decide)))
  have fx18 := fx6.other W13 (Or.inr (slot_ne (Or.inr (wq hw 63 rfl)) (Or.inr (wq hw 58 rfl)) (by decide) (t := (.object "java/lang/String")) (t' := (.object "java/lang/String")) (by decide) (by decide)))
  have fx19 := fx7.wr W13
  have fx20 := fx8.wr W13
  have fx21 := fx9.wr W13
  have kp22 := kp10.wr W13 (Or.inl (by simp))
  refine Go T13 (mkF m 18 #[vR x, vR t, vR i, vR r] [(.ref x)]) ?_ (fun t_ k_ => XS.aloadN X13.here hx rfl (hb hby d10_17) rfl rfl k_)
  refine Go T13 (mkF m 19 #[vR x, vR t, vR i, vR r] [(.ref i), (.ref x)]) ?_ (fun t_ k_ => XS.aloadN X13.here hx rfl (hb hby d10_18) rfl rfl k_)
  obtain ⟨u23, T23, h23, q23, b23, kc23, X23, e23, E23, hS23, hk23, hZ, hown, Eu23, Cu23, Vu23, Ku23, lu23, lb23, D23, Li23, ne23, st23⟩ := ldcCH (s := s) (vm0 := T2.vm) X13 hx hZ hown (wq hw 59 rfl) hwS e13 hS2 (Nat.le_trans hk2 (Nat.le_of_eq W13.size.symm)) hEL (by simp [consts_1]) C15.1 (vs := ([105, 100] : List Int32).map Value.int) (z := Int32.ofNat ([105, 100] : List Int32).length) ⟨by decide, by decide⟩ (by decide) (by decide) (g := (mkF m 19 #[vR x, vR t, vR i, vR r] [(.ref i), (.ref x)])) rfl (hb hby d10_19) (n := 8) (by decide) (by decide) (by decide) (by decide)
  have Z23 : n0 ≤ h23.size := Nat.le_trans Z13 E23.1
  have C24 := C15.trans D23
  refine Go T23 (mkF m 21 #[vR x, vR t, vR i, vR r] [(.ref u23), (.ref i), (.ref x)]) ?_ st23
  have fx25 := fx16.ext E23
  have fx26 := fx17.ext E23
  have fx27 := fx18.ext E23
  have fx28 := fx19.ext E23
  have fx29 := fx20.ext E23
  have fx30 := fx21.ext E23
  have kp31 := kp22.ext E23
  obtain ⟨_, _, ⟨T32, Lq_32, kq_32, nq_32⟩, -, X32, ⟨Lc32, hQ32, l32, y32, z32⟩, st32⟩ := Jvm.LawKit.callS X23 hx (y := mN4) hown (mvT hZ (wq hw 36 rfl)) (mvT hZ (wq hw 37 rfl)) (mvT hZ (wq hw 38 rfl)) (mvT hZ (wq hw 39 rfl)) (by decide) (backOf (W := 1) (rmRN l Z a0 hw [] i u23 h23 n0 Z23) hZ (wq hw 39 rfl) (wq hw 38 rfl) (by decide) (by decide)) (g := (mkF m 21 #[vR x, vR t, vR i, vR r] [(.ref u23), (.ref i), (.ref x)])) rfl (by rw [hml]; rfl) (argsL := [(.ref i), (.ref u23)]) (rest := [(.ref x)]) (lenOf pd_6 rfl) rfl (by show 2 * 0 + _ ≤ _; exact Nat.le_of_eq rfl) (hb hby d10_21) (fun _ _ => ⟨rfl, e23, (by decide : 4 + 0 ≤ _), (by decide : 32 + 0 ≤ _)⟩)
  dsimp only [Pt.U, Pt.locs, Pt.cells, Pt.slots] at X32 l32 y32 z32 st32 hQ32
  rw [l32, y32, z32] at X32
  change Stand p l e _ _ m _ below meth c T32 _ 4 32 at X32
  obtain ⟨rfl, N32q, eh32⟩ := hQ32
  have N32 := Fr.app N13 N32q
  refine Go T32 (mkF m 24 #[vR x, vR t, vR i, vR r] [(.ref i), (.ref x)]) ?_ st32
  obtain ⟨T33, X33, e33, st33⟩ := castY X32 hx hZ hown (wq hw 56 rfl) eh32 (Ins.self fx30) (g := (mkF m 24 #[vR x, vR t, vR i, vR r] [(.ref i), (.ref x)])) rfl rfl (hb hby d10_24)
  refine Go T33 (mkF m 27 #[vR x, vR t, vR i, vR r] [(.ref i), (.ref x)]) ?_ st33
  obtain ⟨T34, h34, X34, e34, W34, st34⟩ := putF X33 hx hZ hown (host := "") (Or.inl (wq hw 60 rfl)) Via.refl e33 fx26 fx28 (Or.inr ⟨(wq hw 61 rfl), rfl, hnm⟩) (wq hw 50 rfl) (ty := (.object "java/lang/String")) (by decide) rfl rfl (g := (mkF m 27 #[vR x, vR t, vR i, vR r] [(.ref i), (.ref x)])) rfl rfl (hb hby d10_27)
  have N34 := Fr.snoc X34 N32 ga
  have Z34 : n0 ≤ h34.size := Nat.le_trans Z23 (Nat.le_of_eq W34.size.symm)
  refine Go T34 (mkF m 30 #[vR x, vR t, vR i, vR r] []) ?_ st34
  have C36 := C24.trans (CHr.wr W34 (Safe.exa hZ.alike fx28 (by decide) (by decide)) C24.1)
  have fx37 := fx25.other W34 (Or.inr (slot_ne (Or.inr (wq hw 58 rfl)) (Or.inr (wq hw 61 rfl)) (by decide) (t := (.object "java/lang/String")) (t' := (.object "java/lang/String")) (by decide) (by decide)))
  have fx38 := fx26.same W34
  have fx39 := fx27.other W34 (Or.inr (slot_ne (Or.inr (wq hw 63 rfl)) (Or.inr (wq hw 61 rfl)) (by decide) (t := (.object "java/lang/String")) (t' := (.object "java/lang/String")) (by decide) (by decide)))
  have fx40 := fx28.wr W34
  have fx41 := fx29.wr W34
  have fx42 := fx30.wr W34
  have kp43 := kp31.wr W34 (Or.inl (by simp))
  refine Go T34 (mkF m 31 #[vR x, vR t, vR i, vR r] [(.ref x)]) ?_ (fun t_ k_ => XS.aloadN X34.here hx rfl (hb hby d10_30) rfl rfl k_)
  refine Go T34 (mkF m 32 #[vR x, vR t, vR i, vR r] [(.ref r), (.ref x)]) ?_ (fun t_ k_ => XS.aloadN X34.here hx rfl (hb hby d10_31) rfl rfl k_)
  obtain ⟨T44, h44, X44, e44, W44, st44⟩ := putF X34 hx hZ hown (host := "") (Or.inl (wq hw 62 rfl)) Via.refl e34 fx39 fx40 (Or.inr ⟨(wq hw 63 rfl), rfl, hnm⟩) (wq hw 50 rfl) (ty := (.object "java/lang/String")) (by decide) rfl rfl (g := (mkF m 32 #[vR x, vR t, vR i, vR r] [(.ref r), (.ref x)])) rfl rfl (hb hby d10_32)
  have N44 := Fr.snoc X44 N34 ga
  have Z44 : n0 ≤ h44.size := Nat.le_trans Z34 (Nat.le_of_eq W44.size.symm)
  refine Go T44 (mkF m 35 #[vR x, vR t, vR i, vR r] []) ?_ st44
  have C46 := C36.trans (CHr.wr W44 (Safe.exa hZ.alike fx40 (by decide) (by decide)) C36.1)
  have fx47 := fx37.other W44 (Or.inr (slot_ne (Or.inr (wq hw 58 rfl)) (Or.inr (wq hw 63 rfl)) (by decide) (t := (.object "java/lang/String")) (t' := (.object "java/lang/String")) (by decide) (by decide)))
  have fx48 := fx38.other W44 (Or.inr (slot_ne (Or.inr (wq hw 61 rfl)) (Or.inr (wq hw 63 rfl)) (by decide) (t := (.object "java/lang/String")) (t' := (.object "java/lang/String")) (by decide) (by decide)))
  have fx49 := fx39.same W44
  have fx50 := fx40.wr W44
  have fx51 := fx41.wr W44
  have fx52 := fx42.wr W44
  have kp53 := kp43.wr W44 (Or.inl (by simp))
  rw [hWd]
  exact Goes.retnH X44 hS23 e44 (Nat.le_trans (Nat.le_trans hk23 (Nat.le_of_eq W34.size.symm)) (Nat.le_of_eq W44.size.symm)) hZ hEL hh C46 (v := none) (fun fs hr => X44.returnOut hx Bd.returns (hb hby d10_35) hr) (fun _ => rfl) Bd.notSynchronized (by decide) (by decide) (by rw [e44]; exact ⟨rfl, N44, kp53, fx50, fx47, fx48, fx49⟩)
def QUU (Z : State) (t i r ti : Addr) (ki : ClassId) (ci : Int32) (zc : Int32) (h0 : Heap) (n0 : Nat) (v : Option Value) (h : Heap) (L : List Loc) : Prop := ∃ b, v = some (.ref b) ∧ Fr n0 L ∧ Keep h0 h [] ∧ h0.size ≤ b ∧ Exa Z h b "com/example/entitlement/entitlement/Subject" ∧ Fld Z h b "com/example/entitlement/entitlement/Subject" "type" "Ljava/lang/String;" (.ref t) ∧ Fld Z h b "com/example/entitlement/entitlement/Subject" "id" "Ljava/lang/String;" (.ref i) ∧ Fld Z h b "com/example/entitlement/entitlement/Subject" "relation" "Ljava/lang/String;" (.ref r)
set_option maxRecDepth 65536 in
set_option maxHeartbeats 40000000 in
theorem rmUU (l : Launch) (Z : State) (a0 : Array Value) (hw : ∀ d ∈ tables_1, d.before a0 Z = true) (ws : List Jvm.Cond) (t i r ti : Addr) (ki : ClassId) (ci : Int32) (zc : Int32) (h0 : Heap) (n0 : Nat) (Z0 : n0 ≤ h0.size) (hEL : EW Z a0 consts_1) (Et : Exa Z h0 t "java/lang/String") (Li : Lat Z h0 i ti ki [own_lo ci]) (hci : ¬ [(42 : Int32)] = [own_lo ci]) (CS : Sta Z Z.heap "java/lang/String" "COMPACT_STRINGS" "Z" (.int zc)) (hzc : ¬ zc = (0 : Int32)) (X0_ : Old Z n0 h0) :
    MetFree l mN11 (head1 (Jvm.Cond.code mN11 cD4 3 (some (.object "com/example/entitlement/entitlement/Subject")) :: ws) ({ frames := 2, cells := 9, slots := 79, locals := 31 } : Room)) (fun a_ U => a_ = #[(.ref t), (.ref i), (.ref r)] ∧ Z.Warmed39 U.vm ∧ U.heap = h0 ∧ CHv Z consts_1 U.vm h0 ∧ ∀ y ∈ ([] : List Addr), Safe Z consts_1 U.vm h0 y) (fun _ _ _ _ _ => True) (fun _ U o U' => ∃ v L, o = .returned v ∧ QUU Z t i r ti ki ci zc h0 n0 v U'.heap L ∧ CHr Z consts_1 U.vm U.heap U'.vm U'.heap ∧ ReturnedEndW U o U' L ({ frames := 2, cells := 9, slots := 79, locals := 31 } : Room).cells ({ frames := 2, cells := 9, slots := 79, locals := 31 } : Room).slots) := by
  refine MetFree.of_bodySF (plainFor_of_name pn_3) hisR ?_
  intro p e s m args below meth c s₁ Bd hml0 hP hK
  obtain ⟨rfl, hZ, hh, hCH, hSf⟩ := hP
  have C0 : CHr Z consts_1 s.vm h0 s.vm h0 := CHr.refl hCH
  have hS0 : s.Since s.vm h0.size := (State.WarmedH.refl s).since _
  have hx := Bd.exec
  have hby := Bd.bytes
  have hml : c.maxLocals = 3 := hml0
  have hown : s.vm.findClass "com/example/entitlement/entitlement/Subject" = some m.cls := findClass_of_methodNamed Bd.named
  have hnm := (name_of_methodNamed Bd.named Bd.method).1
  have X0 : Stand p l e ({ frames := 2, cells := 9, slots := 79, locals := 31 } : Room) s m #[(.ref t), (.ref i), (.ref r)] below meth c s₁ [] 0 0 := Stand.of_body Bd
  have e0 : s₁.heap = h0 := by rw [← hh, Bd.state]; rfl
  have N0 := Fr.nil n0
  refine Goes.doneH ?_
  obtain ⟨W, hWd⟩ : ∃ W : State → Prop, W = EndWH Z consts_1 s below (QUU Z t i r ti ki ci zc h0 n0) ({ frames := 2, cells := 9, slots := 79, locals := 31 } : Room).cells ({ frames := 2, cells := 9, slots := 79, locals := 31 } : Room).slots := ⟨_, rfl⟩
  rw [← hWd]
  have hef : entryFrame m #[(.ref t), (.ref i), (.ref r)] 3 = (mkF m 0 #[vR t, vR i, vR r] []) := by first | (simp [entryFrame, mkF, argsToLocals, Value.category]; done) | rfl
  rw [hef]
  have hwS := own_wS hw
  refine Go s₁ (mkF m 1 #[vR t, vR i, vR r] [(.ref r)]) ?_ (fun t_ k_ => XS.aloadN X0.here hx rfl (hb hby d6_0) rfl rfl k_)
  obtain ⟨u1, T1, h1, q1, b1, kc1, X1, e1, E1, hS1, hk1, hZ, hown, Eu1, Cu1, Vu1, Ku1, lu1, lb1, D1, Li1, ne1, st1⟩ := ldcCH (s := s) (vm0 := s.vm) X0 hx hZ hown (wq hw 33 rfl) hwS e0 hS0 (Nat.le_refl _) hEL (by simp [consts_1]) C0.1 (vs := ([114, 101, 108, 97, 116, 105, 111, 110] : List Int32).map Value.int) (z := Int32.ofNat ([114, 101, 108, 97, 116, 105, 111, 110] : List Int32).length) ⟨by decide, by decide⟩ (by decide) (by decide) (g := (mkF m 1 #[vR t, vR i, vR r] [(.ref r)])) rfl (hb hby d6_1) (n := 32) (by decide) (by decide) (by decide) (by decide)
  have Z1 : n0 ≤ h1.size := Nat.le_trans Z0 E1.1
  have C2 := C0.trans D1
  refine Go T1 (mkF m 3 #[vR t, vR i, vR r] [(.ref u1), (.ref r)]) ?_ st1
  have fx3 := Et.ext E1
  have fx4 := Li.ext E1
  have fx5 := X0_.ext E1
  have kp6 := (Keep.refl h0 []).ext E1
  obtain ⟨_, _, ⟨T7, Lq_7, kq_7, nq_7⟩, -, X7, ⟨Lc7, hQ7, l7, y7, z7⟩, st7⟩ := Jvm.LawKit.callS X1 hx (y := mN4) hown (mvT hZ (wq hw 36 rfl)) (mvT hZ (wq hw 37 rfl)) (mvT hZ (wq hw 38 rfl)) (mvT hZ (wq hw 39 rfl)) (by decide) (backOf (W := 0) (rmRN l Z a0 hw [] r u1 h1 n0 Z1) hZ (wq hw 39 rfl) (wq hw 38 rfl) (by decide) (by decide)) (g := (mkF m 3 #[vR t, vR i, vR r] [(.ref u1), (.ref r)])) rfl (by rw [hml]; rfl) (argsL := [(.ref r), (.ref u1)]) (rest := []) (lenOf pd_6 rfl) rfl (by show 2 * 0 + _ ≤ _; exact Nat.le_of_eq rfl) (hb hby d6_3) (fun _ _ => ⟨rfl, e1, (by decide : 2 + 0 ≤ _), (by decide : 36 + 0 ≤ _)⟩)
  dsimp only [Pt.U, Pt.locs, Pt.cells, Pt.slots] at X7 l7 y7 z7 st7 hQ7
  rw [l7, y7, z7] at X7
  change Stand p l e _ _ m _ below meth c T7 _ 2 36 at X7
  obtain ⟨rfl, N7q, eh7⟩ := hQ7
  have N7 := Fr.app N0 N7q
  refine Go T7 (mkF m 6 #[vR t, vR i, vR r] [(.ref r)]) ?_ st7
  refine Go T7 (mkF m 7 #[vR t, vR i, vR r] []) ?_ (fun t_ k_ => XS.pop X7.here hx rfl (hb hby d6_6) rfl rfl k_)
  obtain ⟨u8, T8, h8, q8, b8, kc8, X8, e8, E8, hS8, hk8, hZ, hown, Eu8, Cu8, Vu8, Ku8, lu8, lb8, D8, Li8, ne8, st8⟩ := ldcCH (s := s) (vm0 := T1.vm) X7 hx hZ hown (wq hw 40 rfl) hwS eh7 hS1 hk1 hEL (by simp [consts_1]) C2.1 (vs := ([42] : List Int32).map Value.int) (z := Int32.ofNat ([42] : List Int32).length) ⟨by decide, by decide⟩ (by decide) (by decide) (g := (mkF m 7 #[vR t, vR i, vR r] [])) rfl (hb hby d6_7) (n := 4) (by decide) (by decide) (by decide) (by decide)
  have Z8 : n0 ≤ h8.size := Nat.le_trans Z1 E8.1
  have C9 := C2.trans D8
  refine Go T8 (mkF m 9 #[vR t, vR i, vR r] [(.ref u8)]) ?_ st8
  have fx10 := fx3.ext E8
  have fx11 := fx4.ext E8
  have fx12 := fx5.ext E8
  have kp13 := kp6.ext E8
  refine Go T8 (mkF m 10 #[vR t, vR i, vR r] [(.ref i), (.ref u8)]) ?_ (fun t_ k_ => XS.aloadN X8.here hx rfl (hb hby d6_9) rfl rfl k_)
  have Lu : Lat Z h8 u8 b8 kc8 [42] := ⟨Eu8, Cu8, Vu8, Ku8, by decide⟩
  obtain ⟨cq14, kq14, q14a, q14b, q14c⟩ := isOf hZ e8 Lu.1
  obtain ⟨_, _, ⟨T14, Lq_14, kq_14, nq_14⟩, -, X14, ⟨Lc14, hQ14, l14, y14, z14⟩, st14⟩ := X8.virtualBack hx (y := mN6) (z := mN6) hown (mvT hZ (wq hw 41 rfl)) (mvT hZ (wq hw 42 rfl)) (notFace_of_selects (args := #[]) (mvT hZ (wq hw 44 rfl))) (mvT hZ (wq hw 44 rfl)) (mvT hZ (wq hw 43 rfl)) (by decide) (backOf (W := 0) (rmSE l Z a0 hw [] u8 i b8 ti kc8 ki [42] [own_lo ci] zc h8 n0 Z8 Lu fx11 (CS.ext fx12.2) hzc) hZ (wq hw 45 rfl) (wq hw 2 rfl) (by decide) (by decide)) q14a q14c (g := (mkF m 10 #[vR t, vR i, vR r] [(.ref i), (.ref u8)])) rfl (by rw [hml]; rfl) (Steps.refl _) (argsL := [(.ref i)]) (rest := []) (lenOf pd_7 rfl) rfl (by show 2 * 0 + _ ≤ _; exact Nat.le_of_eq rfl) (hb hby d6_10) (fun _ _ => ⟨rfl, e8, (by decide : 4 + 0 ≤ _), (by decide : 44 + 0 ≤ _)⟩)
  dsimp only [Pt.U, Pt.locs, Pt.cells, Pt.slots] at X14 l14 y14 z14 st14 hQ14
  rw [l14, y14, z14] at X14
  change Stand p l e _ _ m _ below meth c T14 _ 4 44 at X14
  obtain ⟨rfl, N14q, eh14⟩ := hQ14
  have N14 := Fr.app N7 N14q
  refine Go T14 (mkF m 13 #[vR t, vR i, vR r] [(.int (if [42] = [own_lo ci] then 1 else 0))]) ?_ (fun t => st14.trans)
  rw [if_neg hci]
  refine Go T14 (mkF m 30 #[vR t, vR i, vR r] []) ?_ (fun t_ k_ => XS.ifYes X14.here hx rfl (pc0 := 13) (pc' := 30) rfl (hb hby d6_13) rfl (by decide) (by decide) (by decide) k_)
  obtain ⟨T15, h15, X15, e15, E15, A15, D15, -, st15⟩ := newO X14 hx hZ hown (wq hw 49 rfl) (wq hw 50 rfl) (wq hw 31 rfl) eh14 (g := (mkF m 30 #[vR t, vR i, vR r] [])) rfl (hb hby d6_30) (by decide) (by decide)
  obtain ⟨b15, gb15⟩ : ∃ z, z = h8.size := ⟨_, rfl⟩
  rw [← gb15] at A15 D15 st15
  have Z15 : n0 ≤ h15.size := Nat.le_trans Z8 E15.1
  have g_b15 : n0 ≤ b15 := Nat.le_trans Z8 (Nat.le_of_eq gb15.symm)
  refine Go T15 (mkF m 33 #[vR t, vR i, vR r] [(.ref b15)]) ?_ st15
  have C17 := C9.trans (CHr.ext E15 C9.1)
  have fx18 := fx10.ext E15
  have fx19 := fx11.ext E15
  have fx20 := fx12.ext E15
  have kp21 := kp13.ext E15
  have F15_type : Fld Z h15 b15 "com/example/entitlement/entitlement/Subject" "type" "Ljava/lang/String;" .null := D15 (Or.inr (wq hw 58 rfl)) (ty := (.object "java/lang/String")) (by decide)
  have F15_id : Fld Z h15 b15 "com/example/entitlement/entitlement/Subject" "id" "Ljava/lang/String;" .null := D15 (Or.inr (wq hw 61 rfl)) (ty := (.object "java/lang/String")) (by decide)
  have F15_relation : Fld Z h15 b15 "com/example/entitlement/entitlement/Subject" "relation" "Ljava/lang/String;" .null := D15 (Or.inr (wq hw 63 rfl)) (ty := (.object "java/lang/String")) (by decide)
  refine Go T15 (mkF m 34 #[vR t, vR i, vR r] [(.ref b15), (.ref b15)]) ?_ (fun t_ k_ => XS.dup X15.here hx rfl (hb hby d6_33) rfl rfl k_)
  refine Go T15 (mkF m 35 #[vR t, vR i, vR r] [(.ref t), (.ref b15), (.ref b15)]) ?_ (fun t_ k_ => XS.aloadN X15.here hx rfl (hb hby d6_34) rfl rfl k_)
  refine Go T15 (mkF m 36 #[vR t, vR i, vR r] [(.ref i), (.ref t), (.ref b15), (.ref b15)]) ?_ (fun t_ k_ => XS.aloadN X15.here hx rfl (hb hby d6_35) rfl rfl k_)
  refine Go T15 (mkF m 37 #[vR t, vR i, vR r] [(.ref r), (.ref i), (.ref t), (.ref b15), (.ref b15)]) ?_ (fun t_ k_ => XS.aloadN X15.here hx rfl (hb hby d6_36) rfl rfl k_)
  obtain ⟨_, _, ⟨T22, Lq_22, kq_22, nq_22⟩, -, X22a, S22a, G22a, ⟨Lc22, hQ22, l22, y22, z22, D22⟩, st22⟩ := Jvm.Stand.specialBackS (s := s.setVm T8.vm) X15 hx (y := mN10) rfl hown (mvT hZ (wq hw 51 rfl)) (mvT hZ (wq hw 52 rfl)) (mvT hZ (wq hw 53 rfl)) (by decide) (backSH (s := s) (vm0 := T8.vm) (W := 1) (xs := []) (rmSI l Z a0 hw [] b15 t i r h15 n0 Z15 hEL A15 F15_type F15_id F15_relation g_b15 fx18 fx19.1) hZ (wq hw 53 rfl) (wq hw 31 rfl) (by decide) (by decide) hEL C17.1 (fun y hy => absurd hy List.not_mem_nil)) (g := (mkF m 37 #[vR t, vR i, vR r] [(.ref r), (.ref i), (.ref t), (.ref b15), (.ref b15)])) rfl (by rw [hml]; rfl) (Steps.refl _) (a := b15) (argsL := [(.ref t), (.ref i), (.ref r)]) (rest := [(.ref b15)]) (lenOf pd_8 rfl) rfl (by show 2 * 0 + _ ≤ _; exact Nat.le_of_eq rfl) (hb hby d6_37) (fun _ _ => ⟨rfl, e15, (by decide : 5 + 4 ≤ _), (by decide : 47 + 32 ≤ _)⟩)
  dsimp only [Pt.U, Pt.locs, Pt.cells, Pt.slots] at X22a S22a G22a l22 y22 z22 st22 hQ22 D22
  rw [l22, y22, z22] at X22a
  obtain ⟨X22, hS22, hZ, hown⟩ := rebS (s := s) (vm0 := T8.vm) hS8 (by rw [e15]; exact (Nat.le_trans hk8 E15.1)) X22a S22a G22a hZ hown
  change Stand p l e _ _ m _ below meth c T22 _ 9 79 at X22
  obtain ⟨rfl, N22q, K22, EX, G1, G2, G3⟩ := hQ22
  have N22 := Fr.app N14 N22q
  have Z22 : n0 ≤ T22.heap.size := Nat.le_trans Z15 D22.2.1
  have C23 := C17.trans D22
  refine Go T22 (mkF m 40 #[vR t, vR i, vR r] [(.ref b15)]) ?_ (fun t => st22.trans)
  have szb : h0.size ≤ b15 := Nat.le_trans kp13.1 (Nat.le_of_eq gb15.symm)
  have kp24 := kp21.trans K22 (allS (Or.inr szb) all0)
  rw [hWd]
  exact Goes.retnH X22 hS22 rfl (Nat.le_refl _) hZ hEL hh C23 (v := some (.ref b15)) (fun fs hr => retA X22 hx Bd.returns rfl rfl (hb hby d6_40) hr) (fun h => by rw [Bd.returns] at h; cases h) Bd.notSynchronized (by decide) (by decide) ⟨b15, rfl, N22, kp24, szb, EX, G1, G2, G3⟩
def QOI (Z : State) (x t i tt ti : Addr) (kt ki : ClassId) (ct ci : Int32) (zc : Int32) (h0 : Heap) (n0 : Nat) (v : Option Value) (h : Heap) (L : List Loc) : Prop := v = none ∧ Fr n0 L ∧ Keep h0 h [x, t, i] ∧ Exa Z h x "com/example/entitlement/entitlement/ObjectRef" ∧ Fld Z h x "com/example/entitlement/entitlement/ObjectRef" "hash" "I" (.int ((31 : Int32) * ct + ci)) ∧ S1 Z h t tt kt ct
set_option maxRecDepth 65536 in
set_option maxHeartbeats 40000000 in
theorem rmOI (l : Launch) (Z : State) (a0 : Array Value) (hw : ∀ d ∈ tables_1, d.before a0 Z = true) (ws : List Jvm.Cond) (x t i tt ti : Addr) (kt ki : ClassId) (ct ci : Int32) (zc : Int32) (h0 : Heap) (n0 : Nat) (Z0 : n0 ≤ h0.size) (hEL : EW Z a0 consts_1) (E : Exa Z h0 x "com/example/entitlement/entitlement/ObjectRef") (FT : Fld Z h0 x "com/example/entitlement/entitlement/ObjectRef" "type" "Ljava/lang/String;" .null) (FI : Fld Z h0 x "com/example/entitlement/entitlement/ObjectRef" "id" "Ljava/lang/String;" .null) (FH : Fld Z h0 x "com/example/entitlement/entitlement/ObjectRef" "hash" "I" (.int 0)) (ga : n0 ≤ x) (At : S1 Z h0 t tt kt ct) (Ai : S1 Z h0 i ti ki ci) (gt : n0 ≤ t) (gi : n0 ≤ i) (hti : t ≠ i) (hta : ¬ ct < 0) (htb : ¬ (255 : Int32) < ct) (hia : ¬ ci < 0) (hib : ¬ (255 : Int32) < ci) (CS : Sta Z Z.heap "java/lang/String" "COMPACT_STRINGS" "Z" (.int zc)) (hzc : ¬ zc = (0 : Int32)) (X0_ : Old Z n0 h0) :
    MetFree l mN12 (head1 (Jvm.Cond.code mN12 cD9 3 none :: ws) ({ frames := 2, cells := 4, slots := 32, locals := 27 } : Room)) (fun a_ U => a_ = #[(.ref x), (.ref t), (.ref i)] ∧ Z.Warmed39 U.vm ∧ U.heap = h0 ∧ CHv Z consts_1 U.vm h0 ∧ ∀ y ∈ ([t, i] : List Addr), Safe Z consts_1 U.vm h0 y) (fun _ _ _ _ _ => True) (fun _ U o U' => ∃ v L, o = .returned v ∧ QOI Z x t i tt ti kt ki ct ci zc h0 n0 v U'.heap L ∧ CHr Z consts_1 U.vm U.heap U'.vm U'.heap ∧ ReturnedEndW U o U' L ({ frames := 2, cells := 4, slots := 32, locals := 27 } : Room).cells ({ frames := 2, cells := 4, slots := 32, locals := 27 } : Room).slots) := by
  refine MetFree.of_bodySF (plainFor_of_name pn_4) hisR ?_
  intro p e s m args below meth c s₁ Bd hml0 hP hK
  obtain ⟨rfl, hZ, hh, hCH, hSf⟩ := hP
  have C0 : CHr Z consts_1 s.vm h0 s.vm h0 := CHr.refl hCH
  have hS0 : s.Since s.vm h0.size := (State.WarmedH.refl s).since _
  have hx := Bd.exec
  have hby := Bd.bytes
  have hml : c.maxLocals = 3 := hml0
  have hown : s.vm.findClass "com/example/entitlement/entitlement/ObjectRef" = some m.cls := findClass_of_methodNamed Bd.named
  have hnm := (name_of_methodNamed Bd.named Bd.method).1
  have X0 : Stand p l e ({ frames := 2, cells := 4, slots := 32, locals := 27 } : Room) s m #[(.ref x), (.ref t), (.ref i)] below meth c s₁ [] 0 0 := Stand.of_body Bd
  have e0 : s₁.heap = h0 := by rw [← hh, Bd.state]; rfl
  have N0 := Fr.nil n0
  refine Goes.doneH ?_
  obtain ⟨W, hWd⟩ : ∃ W : State → Prop, W = EndWH Z consts_1 s below (QOI Z x t i tt ti kt ki ct ci zc h0 n0) ({ frames := 2, cells := 4, slots := 32, locals := 27 } : Room).cells ({ frames := 2, cells := 4, slots := 32, locals := 27 } : Room).slots := ⟨_, rfl⟩
  rw [← hWd]
  have hef : entryFrame m #[(.ref x), (.ref t), (.ref i)] 3 = (mkF m 0 #[vR x, vR t, vR i] []) := by first | (simp [entryFrame, mkF, argsToLocals, Value.category]; done) | rfl
  rw [hef]
  have Sf_t : Safe Z consts_1 s.vm h0 t := hSf t (by simp)
  have Sf_i : Safe Z consts_1 s.vm h0 i := hSf i (by simp)
  have hwS := own_wS hw
  have xt : x ≠ t := Exa.ne E At.exa (by decide)
  have xi : x ≠ i := Exa.ne E Ai.exa (by decide)
  have xtt : x ≠ tt := Exa.neArv E At.arv (wq hw 66 rfl)
  have xti : x ≠ ti := Exa.neArv E Ai.arv (wq hw 66 rfl)
  have itt : i ≠ tt := Exa.neArv Ai.exa At.arv (wq hw 10 rfl)
  have tti : t ≠ ti := Exa.neArv At.exa Ai.arv (wq hw 10 rfl)
  refine Go s₁ (mkF m 1 #[vR x, vR t, vR i] [(.ref x)]) ?_ (fun t_ k_ => XS.aloadN X0.here hx rfl (hb hby d11_0) rfl rfl k_)
  obtain ⟨T1, X1, e1, st1⟩ := initO X0 hx hZ hown (wq hw 71 rfl) (wq hw 20 rfl) (wq hw 21 rfl) e0 (g := (mkF m 1 #[vR x, vR t, vR i] [(.ref x)])) rfl (by rw [hml]; rfl) rfl (hb hby d11_1) (by decide) (W := 0) (by show 2 * 0 + _ ≤ _; exact Nat.le_of_eq rfl) (by decide)
  refine Go T1 (mkF m 4 #[vR x, vR t, vR i] []) ?_ st1
  refine Go T1 (mkF m 5 #[vR x, vR t, vR i] [(.ref x)]) ?_ (fun t_ k_ => XS.aloadN X1.here hx rfl (hb hby d11_4) rfl rfl k_)
  refine Go T1 (mkF m 6 #[vR x, vR t, vR i] [(.ref t), (.ref x)]) ?_ (fun t_ k_ => XS.aloadN X1.here hx rfl (hb hby d11_5) rfl rfl k_)
  obtain ⟨u2, T2, h2, q2, b2, kc2, X2, e2, E2, hS2, hk2, hZ, hown, Eu2, Cu2, Vu2, Ku2, lu2, lb2, D2, Li2, ne2, st2⟩ := ldcCH (s := s) (vm0 := s.vm) X1 hx hZ hown (wq hw 72 rfl) hwS e1 hS0 (Nat.le_refl _) hEL (by simp [consts_1]) C0.1 (vs := ([116, 121, 112, 101] : List Int32).map Value.int) (z := Int32.ofNat ([116, 121, 112, 101] : List Int32).length) ⟨by decide, by decide⟩ (by decide) (by decide) (g := (mkF m 6 #[vR x, vR t, vR i] [(.ref t), (.ref x)])) rfl (hb hby d11_6) (n := 16) (by decide) (by decide) (by decide) (by decide)
  have Sf2_t := D2.safe At.exa.lt Sf_t
  have Sf2_i := D2.safe Ai.exa.lt Sf_i
  have Z2 : n0 ≤ h2.size := Nat.le_trans Z0 E2.1
  have C3 := C0.trans D2
  refine Go T2 (mkF m 8 #[vR x, vR t, vR i] [(.ref u2), (.ref t), (.ref x)]) ?_ st2
  have fx4 := FT.ext E2
  have fx5 := FI.ext E2
  have fx6 := FH.ext E2
  have fx7 := E.ext E2
  have kp8 := (Keep.refl h0 [x, t, i]).ext E2
  have sx9_t := At.ext E2
  have sx9_i := Ai.ext E2
  have sx9_O := X0_.ext E2
  obtain ⟨_, _, ⟨T10, Lq_10, kq_10, nq_10⟩, -, X10, ⟨Lc10, hQ10, l10, y10, z10⟩, st10⟩ := Jvm.LawKit.callS X2 hx (y := mN4) hown (mvT hZ (wq hw 73 rfl)) (mvT hZ (wq hw 37 rfl)) (mvT hZ (wq hw 38 rfl)) (mvT hZ (wq hw 39 rfl)) (by decide) (backOf (W := 1) (rmRN l Z a0 hw [] t u2 h2 n0 Z2) hZ (wq hw 39 rfl) (wq hw 38 rfl) (by decide) (by decide)) (g := (mkF m 8 #[vR x, vR t, vR i] [(.ref u2), (.ref t), (.ref x)])) rfl (by rw [hml]; rfl) (argsL := [(.ref t), (.ref u2)]) (rest := [(.ref x)]) (lenOf pd_6 rfl) rfl (by show 2 * 0 + _ ≤ _; exact Nat.le_of_eq rfl) (hb hby d11_8) (fun _ _ => ⟨rfl, e2, (by decide : 2 + 0 ≤ _), (by decide : 20 + 0 ≤ _)⟩)
  dsimp only [Pt.U, Pt.locs, Pt.cells, Pt.slots] at X10 l10 y10 z10 st10 hQ10
  rw [l10, y10, z10] at X10
  change Stand p l e _ _ m _ below meth c T10 _ 2 20 at X10
  obtain ⟨rfl, N10q, eh10⟩ := hQ10
  have N10 := Fr.app N0 N10q
  refine Go T10 (mkF m 11 #[vR x, vR t, vR i] [(.ref t), (.ref x)]) ?_ st10
  obtain ⟨T11, X11, e11, st11⟩ := castY X10 hx hZ hown (wq hw 74 rfl) eh10 (Ins.self sx9_t.exa) (g := (mkF m 11 #[vR x, vR t, vR i] [(.ref t), (.ref x)])) rfl rfl (hb hby d11_11)
  refine Go T11 (mkF m 14 #[vR x, vR t, vR i] [(.ref t), (.ref x)]) ?_ st11
  obtain ⟨T12, h12, X12, e12, W12, st12⟩ := putF X11 hx hZ hown (host := "") (Or.inl (wq hw 75 rfl)) Via.refl e11 fx4 fx7 (Or.inr ⟨(wq hw 76 rfl), rfl, hnm⟩) (wq hw 66 rfl) (ty := (.object "java/lang/String")) (by decide) rfl rfl (g := (mkF m 14 #[vR x, vR t, vR i] [(.ref t), (.ref x)])) rfl rfl (hb hby d11_14)
  have N12 := Fr.snoc X12 N10 ga
  have Z12 : n0 ≤ h12.size := Nat.le_trans Z2 (Nat.le_of_eq W12.size.symm)
  refine Go T12 (mkF m 17 #[vR x, vR t, vR i] []) ?_ st12
  have Sf13_t := Safe.wr W12 (Safe.exa hZ.alike fx7 (by decide) (by decide)) C3.1 Sf2_t
  have Sf13_i := Safe.wr W12 (Safe.exa hZ.alike fx7 (by decide) (by decide)) C3.1 Sf2_i
  have C14 := C3.trans (CHr.wr W12 (Safe.exa hZ.alike fx7 (by decide) (by decide)) C3.1)
  have fx15 := fx4.same W12
  have fx16 := fx5.other W12 (Or.inr (slot_ne (Or.inr (wq hw 79 rfl)) (Or.inr (wq hw 76 rfl)) (by decide) (t := (.object "java/lang/String")) (t' := (.object "java/lang/String")) (by decide) (by decide)))
  have fx17 := fx6.other W12 (Or.inr (slot_ne (Or.inr (wq hw 98 rfl)) (Or.inr (wq hw 76 rfl)) (by decide) (t := .int) (t' := (.object "java/lang/String")) (by decide) (by decide)))
  have fx18 := fx7.wr W12
  have kp19 := kp8.wr W12 (Or.inl (by simp))
  have kq11 : Keep _ _ [x] := (Keep.refl _ [x]).wr W12 (Or.inl (List.mem_cons_self ..))
  have sx20_t := sx9_t.keep kq11 (ninS (Ne.symm xt) nin0) (ninS (Ne.symm xtt) nin0)
  have sx20_i := sx9_i.keep kq11 (ninS (Ne.symm xi) nin0) (ninS (Ne.symm xti) nin0)
  have sx20_O := sx9_O.wr W12 ga
  refine Go T12 (mkF m 18 #[vR x, vR t, vR i] [(.ref x)]) ?_ (fun t_ k_ => XS.aloadN X12.here hx rfl (hb hby d11_17) rfl rfl k_)
  refine Go T12 (mkF m 19 #[vR x, vR t, vR i] [(.ref i), (.ref x)]) ?_ (fun t_ k_ => XS.aloadN X12.here hx rfl (hb hby d11_18) rfl rfl k_)
  obtain ⟨u21, T21, h21, q21, b21, kc21, X21, e21, E21, hS21, hk21, hZ, hown, Eu21, Cu21, Vu21, Ku21, lu21, lb21, D21, Li21, ne21, st21⟩ := ldcCH (s := s) (vm0 := T2.vm) X12 hx hZ hown (wq hw 77 rfl) hwS e12 hS2 (Nat.le_trans hk2 (Nat.le_of_eq W12.size.symm)) hEL (by simp [consts_1]) C14.1 (vs := ([105, 100] : List Int32).map Value.int) (z := Int32.ofNat ([105, 100] : List Int32).length) ⟨by decide, by decide⟩ (by decide) (by decide) (g := (mkF m 19 #[vR x, vR t, vR i] [(.ref i), (.ref x)])) rfl (hb hby d11_19) (n := 8) (by decide) (by decide) (by decide) (by decide)
  have Sf21_t := D21.safe sx20_t.exa.lt Sf13_t
  have Sf21_i := D21.safe sx20_i.exa.lt Sf13_i
  have Z21 : n0 ≤ h21.size := Nat.le_trans Z12 E21.1
  have C22 := C14.trans D21
  refine Go T21 (mkF m 21 #[vR x, vR t, vR i] [(.ref u21), (.ref i), (.ref x)]) ?_ st21
  have fx23 := fx15.ext E21
  have fx24 := fx16.ext E21
  have fx25 := fx17.ext E21
  have fx26 := fx18.ext E21
  have kp27 := kp19.ext E21
  have sx28_t := sx20_t.ext E21
  have sx28_i := sx20_i.ext E21
  have sx28_O := sx20_O.ext E21
  obtain ⟨_, _, ⟨T29, Lq_29, kq_29, nq_29⟩, -, X29, ⟨Lc29, hQ29, l29, y29, z29⟩, st29⟩ := Jvm.LawKit.callS X21 hx (y := mN4) hown (mvT hZ (wq hw 73 rfl)) (mvT hZ (wq hw 37 rfl)) (mvT hZ (wq hw 38 rfl)) (mvT hZ (wq hw 39 rfl)) (by decide) (backOf (W := 1) (rmRN l Z a0 hw [] i u21 h21 n0 Z21) hZ (wq hw 39 rfl) (wq hw 38 rfl) (by decide) (by decide)) (g := (mkF m 21 #[vR x, vR t, vR i] [(.ref u21), (.ref i), (.ref x)])) rfl (by rw [hml]; rfl) (argsL := [(.ref i), (.ref u21)]) (rest := [(.ref x)]) (lenOf pd_6 rfl) rfl (by show 2 * 0 + _ ≤ _; exact Nat.le_of_eq rfl) (hb hby d11_21) (fun _ _ => ⟨rfl, e21, (by decide : 4 + 0 ≤ _), (by decide : 32 + 0 ≤ _)⟩)
  dsimp only [Pt.U, Pt.locs, Pt.cells, Pt.slots] at X29 l29 y29 z29 st29 hQ29
  rw [l29, y29, z29] at X29
  change Stand p l e _ _ m _ below meth c T29 _ 4 32 at X29
  obtain ⟨rfl, N29q, eh29⟩ := hQ29
  have N29 := Fr.app N12 N29q
  refine Go T29 (mkF m 24 #[vR x, vR t, vR i] [(.ref i), (.ref x)]) ?_ st29
  obtain ⟨T30, X30, e30, st30⟩ := castY X29 hx hZ hown (wq hw 74 rfl) eh29 (Ins.self sx28_i.exa) (g := (mkF m 24 #[vR x, vR t, vR i] [(.ref i), (.ref x)])) rfl rfl (hb hby d11_24)
  refine Go T30 (mkF m 27 #[vR x, vR t, vR i] [(.ref i), (.ref x)]) ?_ st30
  obtain ⟨T31, h31, X31, e31, W31, st31⟩ := putF X30 hx hZ hown (host := "") (Or.inl (wq hw 78 rfl)) Via.refl e30 fx24 fx26 (Or.inr ⟨(wq hw 79 rfl), rfl, hnm⟩) (wq hw 66 rfl) (ty := (.object "java/lang/String")) (by decide) rfl rfl (g := (mkF m 27 #[vR x, vR t, vR i] [(.ref i), (.ref x)])) rfl rfl (hb hby d11_27)
  have N31 := Fr.snoc X31 N29 ga
  have Z31 : n0 ≤ h31.size := Nat.le_trans Z21 (Nat.le_of_eq W31.size.symm)
  refine Go T31 (mkF m 30 #[vR x, vR t, vR i] []) ?_ st31
  have Sf32_t := Safe.wr W31 (Safe.exa hZ.alike fx26 (by decide) (by decide)) C22.1 Sf21_t
  have Sf32_i := Safe.wr W31 (Safe.exa hZ.alike fx26 (by decide) (by decide)) C22.1 Sf21_i
  have C33 := C22.trans (CHr.wr W31 (Safe.exa hZ.alike fx26 (by decide) (by decide)) C22.1)
  have fx34 := fx23.other W31 (Or.inr (slot_ne (Or.inr (wq hw 76 rfl)) (Or.inr (wq hw 79 rfl)) (by decide) (t := (.object "java/lang/String")) (t' := (.object "java/lang/String")) (by decide) (by decide)))
  have fx35 := fx24.same W31
  have fx36 := fx25.other W31 (Or.inr (slot_ne (Or.inr (wq hw 98 rfl)) (Or.inr (wq hw 79 rfl)) (by decide) (t := .int) (t' := (.object "java/lang/String")) (by decide) (by decide)))
  have fx37 := fx26.wr W31
  have kp38 := kp27.wr W31 (Or.inl (by simp))
  have kq30 : Keep _ _ [x] := (Keep.refl _ [x]).wr W31 (Or.inl (List.mem_cons_self ..))
  have sx39_t := sx28_t.keep kq30 (ninS (Ne.symm xt) nin0) (ninS (Ne.symm xtt) nin0)
  have sx39_i := sx28_i.keep kq30 (ninS (Ne.symm xi) nin0) (ninS (Ne.symm xti) nin0)
  have sx39_O := sx28_O.wr W31 ga
  refine Go T31 (mkF m 31 #[vR x, vR t, vR i] [(.ref x)]) ?_ (fun t_ k_ => XS.aloadN X31.here hx rfl (hb hby d11_30) rfl rfl k_)
  refine Go T31 (mkF m 33 #[vR x, vR t, vR i] [(.int 31), (.ref x)]) ?_ (fun t_ k_ => XS.bipush X31.here hx rfl (hb hby d11_31) k_)
  refine Go T31 (mkF m 34 #[vR x, vR t, vR i] [(.ref t), (.int 31), (.ref x)]) ?_ (fun t_ k_ => XS.aloadN X31.here hx rfl (hb hby d11_33) rfl rfl k_)
  obtain ⟨cq40, kq40, q40a, q40b, q40c⟩ := isOf hZ e31 sx39_t.exa
  obtain ⟨_, _, ⟨T40, Lq_40, kq_40, nq_40⟩, -, X40, ⟨Lc40, hQ40, l40, y40, z40⟩, st40⟩ := X31.virtualBack hx (y := mN9) (z := mN9) hown (mvT hZ (wq hw 80 rfl)) (mvT hZ (wq hw 81 rfl)) (notFace_of_selects (args := #[]) (mvT hZ (wq hw 83 rfl))) (mvT hZ (wq hw 83 rfl)) (mvT hZ (wq hw 82 rfl)) (by decide) (backOf (W := 2) (rmSH l Z a0 hw [] t tt kt ct zc h31 n0 Z31 sx39_t gt hta htb CS hzc sx39_O) hZ (wq hw 84 rfl) (wq hw 2 rfl) (by decide) (by decide)) q40a q40c (g := (mkF m 34 #[vR x, vR t, vR i] [(.ref t), (.int 31), (.ref x)])) rfl (by rw [hml]; rfl) (Steps.refl _) (argsL := []) (rest := [(.int 31), (.ref x)]) (lenOf pd_9 rfl) rfl (by show 2 * 0 + _ ≤ _; exact Nat.le_of_eq rfl) (hb hby d11_34) (fun _ _ => ⟨rfl, e31, (by decide : 4 + 0 ≤ _), (by decide : 32 + 0 ≤ _)⟩)
  dsimp only [Pt.U, Pt.locs, Pt.cells, Pt.slots] at X40 l40 y40 z40 st40 hQ40
  rw [l40, y40, z40] at X40
  change Stand p l e _ _ m _ below meth c T40 _ 4 32 at X40
  obtain ⟨rfl, N40q, K40, SN40⟩ := hQ40
  have N40 := Fr.app N31 N40q
  refine Go T40 (mkF m 37 #[vR x, vR t, vR i] [(.int ct), (.int 31), (.ref x)]) ?_ (fun t => st40.trans)
  have Zc40 : n0 ≤ T40.heap.size := Nat.le_trans Z31 K40.1
  have hs41 := (own_sfC (P := fun y => Safe Z consts_1 T21.vm _ y) Sf32_t (fun y hy => absurd hy List.not_mem_nil))
  have Sf41_t := Safe.keep K40 hs41 C33.1 Sf32_t
  have Sf41_i := Safe.keep K40 hs41 C33.1 Sf32_i
  have C42 := C33.trans (CHr.keep K40 hs41 C33.1)
  have fx43 := fx34.keep K40 (ninS xt nin0)
  have fx44 := fx35.keep K40 (ninS xt nin0)
  have fx45 := fx36.keep K40 (ninS xt nin0)
  have fx46 := fx37.keep K40
  have kp47 := kp38.trans K40 (allS (Or.inl (by simp)) all0)
  have sx48_t := SN40
  have sx48_i := sx39_i.keep K40 (ninS (Ne.symm hti) nin0) (ninS (Ne.symm tti) nin0)
  have sx48_O := sx39_O.keep K40 (allS gt all0)
  refine Go T40 (mkF m 38 #[vR x, vR t, vR i] [(.int ((31 : Int32) * ct)), (.ref x)]) ?_ (fun t_ k_ => XS.imul X40.here hx rfl (hb hby d11_37) rfl k_)
  refine Go T40 (mkF m 39 #[vR x, vR t, vR i] [(.ref i), (.int ((31 : Int32) * ct)), (.ref x)]) ?_ (fun t_ k_ => XS.aloadN X40.here hx rfl (hb hby d11_38) rfl rfl k_)
  obtain ⟨cq49, kq49, q49a, q49b, q49c⟩ := isOf hZ rfl sx48_i.exa
  obtain ⟨_, _, ⟨T49, Lq_49, kq_49, nq_49⟩, -, X49, ⟨Lc49, hQ49, l49, y49, z49⟩, st49⟩ := X40.virtualBack hx (y := mN9) (z := mN9) hown (mvT hZ (wq hw 80 rfl)) (mvT hZ (wq hw 81 rfl)) (notFace_of_selects (args := #[]) (mvT hZ (wq hw 83 rfl))) (mvT hZ (wq hw 83 rfl)) (mvT hZ (wq hw 82 rfl)) (by decide) (backOf (W := 2) (rmSH l Z a0 hw [] i ti ki ci zc T40.heap n0 Zc40 sx48_i gi hia hib CS hzc sx48_O) hZ (wq hw 84 rfl) (wq hw 2 rfl) (by decide) (by decide)) q49a q49c (g := (mkF m 39 #[vR x, vR t, vR i] [(.ref i), (.int ((31 : Int32) * ct)), (.ref x)])) rfl (by rw [hml]; rfl) (Steps.refl _) (argsL := []) (rest := [(.int ((31 : Int32) * ct)), (.ref x)]) (lenOf pd_9 rfl) rfl (by show 2 * 0 + _ ≤ _; exact Nat.le_of_eq rfl) (hb hby d11_39) (fun _ _ => ⟨rfl, rfl, (by decide : 4 + 0 ≤ _), (by decide : 32 + 0 ≤ _)⟩)
  dsimp only [Pt.U, Pt.locs, Pt.cells, Pt.slots] at X49 l49 y49 z49 st49 hQ49
  rw [l49, y49, z49] at X49
  change Stand p l e _ _ m _ below meth c T49 _ 4 32 at X49
  obtain ⟨rfl, N49q, K49, SN49⟩ := hQ49
  have N49 := Fr.app N40 N49q
  refine Go T49 (mkF m 42 #[vR x, vR t, vR i] [(.int ci), (.int ((31 : Int32) * ct)), (.ref x)]) ?_ (fun t => st49.trans)
  have Zc49 : n0 ≤ T49.heap.size := Nat.le_trans Zc40 K49.1
  have hs50 := (own_sfC (P := fun y => Safe Z consts_1 T21.vm _ y) Sf41_i (fun y hy => absurd hy List.not_mem_nil))
  have Sf50_t := Safe.keep K49 hs50 C42.1 Sf41_t
  have Sf50_i := Safe.keep K49 hs50 C42.1 Sf41_i
  have C51 := C42.trans (CHr.keep K49 hs50 C42.1)
  have fx52 := fx43.keep K49 (ninS xi nin0)
  have fx53 := fx44.keep K49 (ninS xi nin0)
  have fx54 := fx45.keep K49 (ninS xi nin0)
  have fx55 := fx46.keep K49
  have kp56 := kp47.trans K49 (allS (Or.inl (by simp)) all0)
  have sx57_t := sx48_t.keep K49 (ninS hti nin0) (ninS (Ne.symm itt) nin0)
  have sx57_i := SN49
  have sx57_O := sx48_O.keep K49 (allS gi all0)
  refine Go T49 (mkF m 43 #[vR x, vR t, vR i] [(.int (((31 : Int32) * ct) + ci)), (.ref x)]) ?_ (fun t_ k_ => XS.iadd X49.here hx rfl (hb hby d11_42) rfl k_)
  obtain ⟨T58, h58, X58, e58, W58, st58⟩ := putF X49 hx hZ hown (host := "") (Or.inl (wq hw 97 rfl)) Via.refl rfl fx54 fx55 (Or.inr ⟨(wq hw 98 rfl), rfl, hnm⟩) (wq hw 66 rfl) (ty := .int) (by decide) rfl rfl (g := (mkF m 43 #[vR x, vR t, vR i] [(.int (((31 : Int32) * ct) + ci)), (.ref x)])) rfl rfl (hb hby d11_43)
  have N58 := Fr.snoc X58 N49 ga
  have Z58 : n0 ≤ h58.size := Nat.le_trans Zc49 (Nat.le_of_eq W58.size.symm)
  refine Go T58 (mkF m 46 #[vR x, vR t, vR i] []) ?_ st58
  have Sf59_t := Safe.wr W58 (Safe.exa hZ.alike fx55 (by decide) (by decide)) C51.1 Sf50_t
  have Sf59_i := Safe.wr W58 (Safe.exa hZ.alike fx55 (by decide) (by decide)) C51.1 Sf50_i
  have C60 := C51.trans (CHr.wr W58 (Safe.exa hZ.alike fx55 (by decide) (by decide)) C51.1)
  have fx61 := fx52.other W58 (Or.inr (slot_ne (Or.inr (wq hw 76 rfl)) (Or.inr (wq hw 98 rfl)) (by decide) (t := (.object "java/lang/String")) (t' := .int) (by decide) (by decide)))
  have fx62 := fx53.other W58 (Or.inr (slot_ne (Or.inr (wq hw 79 rfl)) (Or.inr (wq hw 98 rfl)) (by decide) (t := (.object "java/lang/String")) (t' := .int) (by decide) (by decide)))
  have fx63 := fx54.same W58
  have fx64 := fx55.wr W58
  have kp65 := kp56.wr W58 (Or.inl (by simp))
  have kq57 : Keep _ _ [x] := (Keep.refl _ [x]).wr W58 (Or.inl (List.mem_cons_self ..))
  have sx66_t := sx57_t.keep kq57 (ninS (Ne.symm xt) nin0) (ninS (Ne.symm xtt) nin0)
  have sx66_i := sx57_i.keep kq57 (ninS (Ne.symm xi) nin0) (ninS (Ne.symm xti) nin0)
  have sx66_O := sx57_O.wr W58 ga
  rw [hWd]
  exact Goes.retnH X58 hS21 e58 (Nat.le_trans (Nat.le_trans (Nat.le_trans (Nat.le_trans hk21 (Nat.le_of_eq W31.size.symm)) K40.1) K49.1) (Nat.le_of_eq W58.size.symm)) hZ hEL hh C60 (v := none) (fun fs hr => X58.returnOut hx Bd.returns (hb hby d11_46) hr) (fun _ => rfl) Bd.notSynchronized (by decide) (by decide) (by rw [e58]; exact ⟨rfl, N58, kp65, fx64, fx63, sx66_t⟩)
def QHM (Z : State) (a : Addr) (w : Int32) (h0 : Heap) (n0 : Nat) (v : Option Value) (h : Heap) (L : List Loc) : Prop := v = some (.int (own_home w)) ∧ Fr n0 L ∧ h = h0
set_option maxRecDepth 65536 in
set_option maxHeartbeats 40000000 in
theorem rmHM (l : Launch) (Z : State) (a0 : Array Value) (hw : ∀ d ∈ tables_1, d.before a0 Z = true) (ws : List Jvm.Cond) (a : Addr) (w : Int32) (h0 : Heap) (n0 : Nat) (Z0 : n0 ≤ h0.size) (FS : Fld Z h0 a "com/example/entitlement/entitlement/Tally" "shift" "I" (.int 31)) :
    MetFree l mN13 (head1 (Jvm.Cond.code mN13 cD23 2 (some .int) :: ws) ({ frames := 0, cells := 0, slots := 0, locals := 0 } : Room)) (fun a_ U => a_ = #[(.ref a), (.int w)] ∧ Z.Warmed39 U.vm ∧ U.heap = h0) (fun _ _ _ _ _ => True) (fun _ U o U' => ∃ v L, o = .returned v ∧ QHM Z a w h0 n0 v U'.heap L ∧ FrameEnd U o U' L ({ frames := 0, cells := 0, slots := 0, locals := 0 } : Room).cells ({ frames := 0, cells := 0, slots := 0, locals := 0 } : Room).slots) := by
  refine MetFree.of_bodySF (plainFor_of_name pn_5) hisR ?_
  intro p e s m args below meth c s₁ Bd hml0 hP hK
  obtain ⟨rfl, hZ, hh⟩ := hP
  have hx := Bd.exec
  have hby := Bd.bytes
  have hml : c.maxLocals = 2 := hml0
  have hown : s.vm.findClass "com/example/entitlement/entitlement/Tally" = some m.cls := findClass_of_methodNamed Bd.named
  have hnm := (name_of_methodNamed Bd.named Bd.method).1
  have X0 : Stand p l e ({ frames := 0, cells := 0, slots := 0, locals := 0 } : Room) s m #[(.ref a), (.int w)] below meth c s₁ [] 0 0 := Stand.of_body Bd
  have e0 : s₁.heap = h0 := by rw [← hh, Bd.state]; rfl
  have N0 := Fr.nil n0
  refine Goes.done ?_
  obtain ⟨W, hWd⟩ : ∃ W : State → Prop, W = EndW s below (QHM Z a w h0 n0) ({ frames := 0, cells := 0, slots := 0, locals := 0 } : Room).cells ({ frames := 0, cells := 0, slots := 0, locals := 0 } : Room).slots := ⟨_, rfl⟩
  rw [← hWd]
  have hef : entryFrame m #[(.ref a), (.int w)] 2 = (mkF m 0 #[vR a, vI w] []) := by first | (simp [entryFrame, mkF, argsToLocals, Value.category]; done) | rfl
  rw [hef]
  refine Go s₁ (mkF m 1 #[vR a, vI w] [(.int w)]) ?_ (fun t_ k_ => XS.iloadN X0.here hx rfl (hb hby d26_0) rfl k_)
  refine Go s₁ (mkF m 3 #[vR a, vI w] [(.int (-1640531527)), (.int w)]) ?_ (X0.ldcInt hx hown (mvT hZ (wq hw 181 rfl)) (g := (mkF m 1 #[vR a, vI w] [(.int w)])) rfl (hb hby d26_1))
  refine Go s₁ (mkF m 4 #[vR a, vI w] [(.int (w * (-1640531527 : Int32)))]) ?_ (fun t_ k_ => XS.imul X0.here hx rfl (hb hby d26_3) rfl k_)
  refine Go s₁ (mkF m 5 #[vR a, vI w] [(.ref a), (.int (w * (-1640531527 : Int32)))]) ?_ (fun t_ k_ => XS.aloadN X0.here hx rfl (hb hby d26_4) rfl rfl k_)
  obtain ⟨T1, X1, e1, st1⟩ := getF X0 hx hZ hown (host := "") (Or.inl (wq hw 162 rfl)) Via.refl e0 FS (g := (mkF m 5 #[vR a, vI w] [(.ref a), (.int (w * (-1640531527 : Int32)))])) rfl rfl (hb hby d26_5)
  refine Go T1 (mkF m 8 #[vR a, vI w] [(.int 31), (.int (w * (-1640531527 : Int32)))]) ?_ st1
  refine Go T1 (mkF m 9 #[vR a, vI w] [(.int (((w * (-1640531527 : Int32)).toUInt32 >>> ((31 : Int32) &&& 31).toUInt32).toInt32))]) ?_ (fun t_ k_ => XS.iushr X1.here hx rfl (hb hby d26_8) rfl k_)
  rw [hWd]
  exact Goes.retn X1 (v := some (.int (((w * (-1640531527 : Int32)).toUInt32 >>> ((31 : Int32) &&& 31).toUInt32).toInt32))) (fun fs hr => retI X1 hx Bd.returns (hb hby d26_9) hr) (fun h => by rw [Bd.returns] at h; cases h) Bd.notSynchronized (by decide) (by decide) (by rw [e1]; exact ⟨rfl, N0, rfl⟩)
def QTE (Z : State) (a : Addr) (z : Int32) (h0 : Heap) (n0 : Nat) (v : Option Value) (h : Heap) (L : List Loc) : Prop := v = some (.int (if z = 0 then 1 else 0)) ∧ Fr n0 L ∧ h = h0
set_option maxRecDepth 65536 in
set_option maxHeartbeats 40000000 in
theorem rmTE (l : Launch) (Z : State) (a0 : Array Value) (hw : ∀ d ∈ tables_1, d.before a0 Z = true) (ws : List Jvm.Cond) (a : Addr) (z : Int32) (h0 : Heap) (n0 : Nat) (Z0 : n0 ≤ h0.size) (FZ : Fld Z h0 a "com/example/entitlement/entitlement/Tally" "size" "I" (.int z)) :
    MetFree l mN14 (head1 (Jvm.Cond.code mN14 cD27 1 (some .boolean) :: ws) ({ frames := 0, cells := 0, slots := 0, locals := 0 } : Room)) (fun a_ U => a_ = #[(.ref a)] ∧ Z.Warmed39 U.vm ∧ U.heap = h0) (fun _ _ _ _ _ => True) (fun _ U o U' => ∃ v L, o = .returned v ∧ QTE Z a z h0 n0 v U'.heap L ∧ FrameEnd U o U' L ({ frames := 0, cells := 0, slots := 0, locals := 0 } : Room).cells ({ frames := 0, cells := 0, slots := 0, locals := 0 } : Room).slots) := by
  refine MetFree.of_bodySF (plainFor_of_name pn_5) hisR ?_
  intro p e s m args below meth c s₁ Bd hml0 hP hK
  obtain ⟨rfl, hZ, hh⟩ := hP
  have hx := Bd.exec
  have hby := Bd.bytes
  have hml : c.maxLocals = 1 := hml0
  have hown : s.vm.findClass "com/example/entitlement/entitlement/Tally" = some m.cls := findClass_of_methodNamed Bd.named
  have hnm := (name_of_methodNamed Bd.named Bd.method).1
  have X0 : Stand p l e ({ frames := 0, cells := 0, slots := 0, locals := 0 } : Room) s m #[(.ref a)] below meth c s₁ [] 0 0 := Stand.of_body Bd
  have e0 : s₁.heap = h0 := by rw [← hh, Bd.state]; rfl
  have N0 := Fr.nil n0
  refine Goes.done ?_
  obtain ⟨W, hWd⟩ : ∃ W : State → Prop, W = EndW s below (QTE Z a z h0 n0) ({ frames := 0, cells := 0, slots := 0, locals := 0 } : Room).cells ({ frames := 0, cells := 0, slots := 0, locals := 0 } : Room).slots := ⟨_, rfl⟩
  rw [← hWd]
  have hef : entryFrame m #[(.ref a)] 1 = (mkF m 0 #[vR a] []) := by first | (simp [entryFrame, mkF, argsToLocals, Value.category]; done) | rfl
  rw [hef]
  refine Go s₁ (mkF m 1 #[vR a] [(.ref a)]) ?_ (fun t_ k_ => XS.aloadN X0.here hx rfl (hb hby d30_0) rfl rfl k_)
  obtain ⟨T1, X1, e1, st1⟩ := getF X0 hx hZ hown (host := "") (Or.inl (wq hw 182 rfl)) Via.refl e0 FZ (g := (mkF m 1 #[vR a] [(.ref a)])) rfl rfl (hb hby d30_1)
  refine Go T1 (mkF m 4 #[vR a] [(.int z)]) ?_ st1
  refine Goes.ifN X1 hx rfl (pc0 := 4) (pc' := 11) rfl (hb hby d30_4) rfl (by decide) (by decide) (P := z = (0 : Int32)) (ifc_ne _ _) (fun hc4 => ?_) (fun hc4 => ?_)
  · show Goes p e below W T1 (mkF m 11 #[vR a] [])
    refine Go T1 (mkF m 12 #[vR a] [(.int 0)]) ?_ (fun t_ k_ => XS.iconst X1.here hx rfl (hb hby d30_11) k_)
    rw [hWd]
    exact Goes.retn X1 (v := some (.int (nar .boolean (0 : Int32)))) (fun fs hr => retN X1 hx (t := .boolean) Bd.returns (by simp) (hb hby d30_12) hr) (fun h => by rw [Bd.returns] at h; cases h) Bd.notSynchronized (by decide) (by decide) (by rw [e1]; exact ⟨by rw [if_neg hc4]; rfl, N0, rfl⟩)
  · show Goes p e below W T1 (mkF m 7 #[vR a] [])
    refine Go T1 (mkF m 8 #[vR a] [(.int 1)]) ?_ (fun t_ k_ => XS.iconst X1.here hx rfl (hb hby d30_7) k_)
    refine Go T1 (mkF m 12 #[vR a] [(.int 1)]) ?_ (fun t_ k_ => XS.goto X1.here hx rfl (pc0 := 8) (pc' := 12) rfl (hb hby d30_8) (by decide) (by decide) k_)
    rw [hWd]
    exact Goes.retn X1 (v := some (.int (nar .boolean (1 : Int32)))) (fun fs hr => retN X1 hx (t := .boolean) Bd.returns (by simp) (hb hby d30_12) hr) (fun h => by rw [Bd.returns] at h; cases h) Bd.notSynchronized (by decide) (by decide) (by rw [e1]; exact ⟨by rw [if_pos hc4]; rfl, N0, rfl⟩)
def QF1 (Z : State) (B : Nat) (a hc ks : Addr) (kh kk : ClassId) (k : Addr) (w mc : Int32) (h0 : Heap) (n0 : Nat) (v : Option Value) (h : Heap) (L : List Loc) : Prop := v = some (.int (own_home w)) ∧ Fr n0 L ∧ h = h0
set_option maxRecDepth 65536 in
set_option maxHeartbeats 40000000 in
theorem rmF1 (l : Launch) (Z : State) (a0 : Array Value) (hw : ∀ d ∈ tables_1, d.before a0 Z = true) (ws : List Jvm.Cond) (B : Nat) (a hc ks : Addr) (kh kk : ClassId) (k : Addr) (w mc : Int32) (h0 : Heap) (n0 : Nat) (Z0 : n0 ≤ h0.size) (TL : Tly Z h0 B a hc ks kh kk k w mc) (hm : ¬ mc = 0) :
    MetFree l mN15 (head1 (Jvm.Cond.code mN15 cD22 6 (some .int) :: ws) ({ frames := 1, cells := 0, slots := 0, locals := 13 } : Room)) (fun a_ U => a_ = #[(.ref a), (.ref k), (.int w)] ∧ Z.Warmed39 U.vm ∧ U.heap = h0) (fun _ _ _ _ _ => True) (fun _ U o U' => ∃ v L, o = .returned v ∧ QF1 Z B a hc ks kh kk k w mc h0 n0 v U'.heap L ∧ FrameEnd U o U' L ({ frames := 1, cells := 0, slots := 0, locals := 13 } : Room).cells ({ frames := 1, cells := 0, slots := 0, locals := 13 } : Room).slots) := by
  refine MetFree.of_bodySF (plainFor_of_name pn_5) hisR ?_
  intro p e s m args below meth c s₁ Bd hml0 hP hK
  obtain ⟨rfl, hZ, hh⟩ := hP
  have hx := Bd.exec
  have hby := Bd.bytes
  have hml : c.maxLocals = 6 := hml0
  have hown : s.vm.findClass "com/example/entitlement/entitlement/Tally" = some m.cls := findClass_of_methodNamed Bd.named
  have hnm := (name_of_methodNamed Bd.named Bd.method).1
  have X0 : Stand p l e ({ frames := 1, cells := 0, slots := 0, locals := 13 } : Room) s m #[(.ref a), (.ref k), (.int w)] below meth c s₁ [] 0 0 := Stand.of_body Bd
  have e0 : s₁.heap = h0 := by rw [← hh, Bd.state]; rfl
  have N0 := Fr.nil n0
  refine Goes.done ?_
  obtain ⟨W, hWd⟩ : ∃ W : State → Prop, W = EndW s below (QF1 Z B a hc ks kh kk k w mc h0 n0) ({ frames := 1, cells := 0, slots := 0, locals := 13 } : Room).cells ({ frames := 1, cells := 0, slots := 0, locals := 13 } : Room).slots := ⟨_, rfl⟩
  rw [← hWd]
  have hef : entryFrame m #[(.ref a), (.ref k), (.int w)] 6 = (mkF m 0 #[vR a, vR k, vI w, .unset, .unset, .unset] []) := by first | (simp [entryFrame, mkF, argsToLocals, Value.category]; done) | rfl
  rw [hef]
  obtain ⟨cH, AH, -, SH_, MH, HH, -⟩ := id TL.VH
  obtain ⟨cK, AK, -, SK, MK, HK, -⟩ := id TL.VK
  refine Go s₁ (mkF m 1 #[vR a, vR k, vI w, .unset, .unset, .unset] [(.ref a)]) ?_ (fun t_ k_ => XS.aloadN X0.here hx rfl (hb hby d25_0) rfl rfl k_)
  obtain ⟨T1, X1, e1, st1⟩ := getF X0 hx hZ hown (host := "") (Or.inl (wq hw 160 rfl)) Via.refl e0 TL.FK (g := (mkF m 1 #[vR a, vR k, vI w, .unset, .unset, .unset] [(.ref a)])) rfl rfl (hb hby d25_1)
  refine Go T1 (mkF m 4 #[vR a, vR k, vI w, .unset, .unset, .unset] [(.ref ks)]) ?_ st1
  refine Go T1 (mkF m 5 #[vR a, vR k, vI w, .unset, .unset, .unset] [(.int cK.slots.size.toInt32)]) ?_ (X1.arraylength hx (by rw [e1]; exact AK.1) (State.isArrayOf_alike hZ.alike AK.2.1) (g := (mkF m 4 #[vR a, vR k, vI w, .unset, .unset, .unset] [(.ref ks)])) rfl rfl (hb hby d25_4))
  rw [len_of SK MK]
  refine Go T1 (mkF m 6 #[vR a, vR k, vI w, .unset, .unset, .unset] [(.int 1), (.int 2)]) ?_ (fun t_ k_ => XS.iconst X1.here hx rfl (hb hby d25_5) k_)
  refine Go T1 (mkF m 7 #[vR a, vR k, vI w, .unset, .unset, .unset] [(.int 1)]) ?_ (fun t_ k_ => XS.isub X1.here hx rfl (hb hby d25_6) rfl k_)
  refine Go T1 (mkF m 8 #[vR a, vR k, vI w, vI 1, .unset, .unset] []) ?_ (fun t_ k_ => XS.istoreN X1.here hx rfl (hb hby d25_7) rfl (l' := #[vR a, vR k, vI w, vI 1, .unset, .unset]) rfl k_)
  refine Go T1 (mkF m 9 #[vR a, vR k, vI w, vI 1, .unset, .unset] [(.ref a)]) ?_ (fun t_ k_ => XS.aloadN X1.here hx rfl (hb hby d25_8) rfl rfl k_)
  refine Go T1 (mkF m 10 #[vR a, vR k, vI w, vI 1, .unset, .unset] [(.int w), (.ref a)]) ?_ (fun t_ k_ => XS.iloadN X1.here hx rfl (hb hby d25_9) rfl k_)
  obtain ⟨cq2, q2, q2'⟩ := TL.E.cell
  obtain ⟨_, _, ⟨T2, Lq_2, kq_2, nq_2⟩, -, X2, ⟨Lc2, hQ2, l2, y2, z2⟩, st2⟩ := X1.privateBack hx (y := mN13) hown (mvT hZ (wq hw 177 rfl)) (mvT hZ (wq hw 178 rfl)) (mvT hZ (own_selP (y := mN13) (wq hw 151 rfl) (wq hw 179 rfl) (wq hw 178 rfl) (by decide))) (Cond.privateMethod_at (mvP hZ (wq hw 179 rfl) (args := #[]))) (mvT hZ (wq hw 180 rfl)) (by decide) (backOf (W := 0) (rmHM l Z a0 hw [] a w h0 n0 Z0 TL.FS) hZ (wq hw 180 rfl) (wq hw 152 rfl) (by decide) (by decide)) (g := (mkF m 10 #[vR a, vR k, vI w, vI 1, .unset, .unset] [(.int w), (.ref a)])) rfl (by rw [hml]; rfl) (Steps.refl _) (a := a) (by rw [e1]; exact q2) q2' (argsL := [(.int w)]) (rest := []) (lenOf pd_10 rfl) rfl (by show 2 * 0 + _ ≤ _; exact Nat.le_of_eq rfl) (hb hby d25_10) (fun _ _ => ⟨rfl, e1, (by decide : 0 + 0 ≤ _), (by decide : 0 + 0 ≤ _)⟩)
  dsimp only [Pt.U, Pt.locs, Pt.cells, Pt.slots] at X2 l2 y2 z2 st2 hQ2
  rw [l2, y2, z2] at X2
  change Stand p l e _ _ m _ below meth c T2 _ 0 0 at X2
  obtain ⟨rfl, N2q, eh2⟩ := hQ2
  have N2 := Fr.app N0 N2q
  refine Go T2 (mkF m 13 #[vR a, vR k, vI w, vI 1, .unset, .unset] [(.int (own_home w))]) ?_ (fun t => st2.trans)
  rcases own_home_b w with hbm | hbm
  · rw [hbm]
    have HHb := HH
    have HKb := HK
    rw [hbm, own_hs0] at HHb
    rw [hbm, own_ks0] at HKb
    refine Go T2 (mkF m 15 #[vR a, vR k, vI w, vI 1, vI 0, .unset] []) ?_ (fun t_ k_ => XS.istore X2.here hx rfl (hb hby d25_13) rfl (l' := #[vR a, vR k, vI w, vI 1, vI 0, .unset]) rfl k_)
    refine Go T2 (mkF m 16 #[vR a, vR k, vI w, vI 1, vI 0, .unset] [(.ref a)]) ?_ (fun t_ k_ => XS.aloadN X2.here hx rfl (hb hby d25_15) rfl rfl k_)
    obtain ⟨T3, X3, e3, st3⟩ := getF X2 hx hZ hown (host := "") (Or.inl (wq hw 157 rfl)) Via.refl eh2 TL.FH (g := (mkF m 16 #[vR a, vR k, vI w, vI 1, vI 0, .unset] [(.ref a)])) rfl rfl (hb hby d25_16)
    refine Go T3 (mkF m 19 #[vR a, vR k, vI w, vI 1, vI 0, .unset] [(.ref hc)]) ?_ st3
    refine Go T3 (mkF m 20 #[vR a, vR k, vI w, vI 1, vI 0, .unset] [(.int 2), (.ref hc)]) ?_ (fun t_ k_ => XS.iconst X3.here hx rfl (hb hby d25_19) k_)
    refine Go T3 (mkF m 22 #[vR a, vR k, vI w, vI 1, vI 0, .unset] [(.int 0), (.int 2), (.ref hc)]) ?_ (fun t_ k_ => XS.iload X3.here hx rfl (hb hby d25_20) rfl k_)
    refine Go T3 (mkF m 23 #[vR a, vR k, vI w, vI 1, vI 0, .unset] [(.int 0), (.ref hc)]) ?_ (fun t_ k_ => XS.imul X3.here hx rfl (hb hby d25_22) rfl k_)
    refine Go T3 (mkF m 24 #[vR a, vR k, vI w, vI 1, vI 0, .unset] [(.int 1), (.int 0), (.ref hc)]) ?_ (fun t_ k_ => XS.iconst X3.here hx rfl (hb hby d25_23) k_)
    refine Go T3 (mkF m 25 #[vR a, vR k, vI w, vI 1, vI 0, .unset] [(.int 1), (.ref hc)]) ?_ (fun t_ k_ => XS.iadd X3.here hx rfl (hb hby d25_24) rfl k_)
    refine Go T3 (mkF m 26 #[vR a, vR k, vI w, vI 1, vI 0, .unset] [(.int mc)]) ?_ (X3.iaload hx (j := (1 : Int32)) (v := (.int mc)) (by rw [e3]; exact AH.1) (State.isArrayOf_alike hZ.alike AH.2.1) AH.2.2 (inb_of SH_ ⟨by decide, by decide⟩) (by have q := HHb 1 (by rw [SH_]; decide); exact q) (g := (mkF m 25 #[vR a, vR k, vI w, vI 1, vI 0, .unset] [(.int 1), (.ref hc)])) rfl rfl (hb hby d25_25))
    refine Go T3 (mkF m 29 #[vR a, vR k, vI w, vI 1, vI 0, .unset] []) ?_ (fun t_ k_ => XS.ifNo X3.here hx rfl (hb hby d25_26) rfl ((if0 _ _).trans (feq hm).1) k_)
    refine Go T3 (mkF m 30 #[vR a, vR k, vI w, vI 1, vI 0, .unset] [(.ref a)]) ?_ (fun t_ k_ => XS.aloadN X3.here hx rfl (hb hby d25_29) rfl rfl k_)
    obtain ⟨T4, X4, e4, st4⟩ := getF X3 hx hZ hown (host := "") (Or.inl (wq hw 157 rfl)) Via.refl e3 TL.FH (g := (mkF m 30 #[vR a, vR k, vI w, vI 1, vI 0, .unset] [(.ref a)])) rfl rfl (hb hby d25_30)
    refine Go T4 (mkF m 33 #[vR a, vR k, vI w, vI 1, vI 0, .unset] [(.ref hc)]) ?_ st4
    refine Go T4 (mkF m 34 #[vR a, vR k, vI w, vI 1, vI 0, .unset] [(.int 2), (.ref hc)]) ?_ (fun t_ k_ => XS.iconst X4.here hx rfl (hb hby d25_33) k_)
    refine Go T4 (mkF m 36 #[vR a, vR k, vI w, vI 1, vI 0, .unset] [(.int 0), (.int 2), (.ref hc)]) ?_ (fun t_ k_ => XS.iload X4.here hx rfl (hb hby d25_34) rfl k_)
    refine Go T4 (mkF m 37 #[vR a, vR k, vI w, vI 1, vI 0, .unset] [(.int 0), (.ref hc)]) ?_ (fun t_ k_ => XS.imul X4.here hx rfl (hb hby d25_36) rfl k_)
    refine Go T4 (mkF m 38 #[vR a, vR k, vI w, vI 1, vI 0, .unset] [(.int w)]) ?_ (X4.iaload hx (j := (0 : Int32)) (v := (.int w)) (by rw [e4]; exact AH.1) (State.isArrayOf_alike hZ.alike AH.2.1) AH.2.2 (inb_of SH_ ⟨by decide, by decide⟩) (by have q := HHb 0 (by rw [SH_]; decide); exact q) (g := (mkF m 37 #[vR a, vR k, vI w, vI 1, vI 0, .unset] [(.int 0), (.ref hc)])) rfl rfl (hb hby d25_37))
    refine Go T4 (mkF m 39 #[vR a, vR k, vI w, vI 1, vI 0, .unset] [(.int w), (.int w)]) ?_ (fun t_ k_ => XS.iloadN X4.here hx rfl (hb hby d25_38) rfl k_)
    refine Go T4 (mkF m 42 #[vR a, vR k, vI w, vI 1, vI 0, .unset] []) ?_ (fun t_ k_ => XS.icmpNo X4.here hx rfl (hb hby d25_39) rfl (teq rfl).2 k_)
    refine Go T4 (mkF m 43 #[vR a, vR k, vI w, vI 1, vI 0, .unset] [(.ref a)]) ?_ (fun t_ k_ => XS.aloadN X4.here hx rfl (hb hby d25_42) rfl rfl k_)
    obtain ⟨T5, X5, e5, st5⟩ := getF X4 hx hZ hown (host := "") (Or.inl (wq hw 160 rfl)) Via.refl e4 TL.FK (g := (mkF m 43 #[vR a, vR k, vI w, vI 1, vI 0, .unset] [(.ref a)])) rfl rfl (hb hby d25_43)
    refine Go T5 (mkF m 46 #[vR a, vR k, vI w, vI 1, vI 0, .unset] [(.ref ks)]) ?_ st5
    refine Go T5 (mkF m 48 #[vR a, vR k, vI w, vI 1, vI 0, .unset] [(.int 0), (.ref ks)]) ?_ (fun t_ k_ => XS.iload X5.here hx rfl (hb hby d25_46) rfl k_)
    refine Go T5 (mkF m 49 #[vR a, vR k, vI w, vI 1, vI 0, .unset] [(.ref k)]) ?_ (X5.aaload hx (j := (0 : Int32)) (v := (.ref k)) (by rw [e5]; exact AK.1) (State.isArrayOf_alike hZ.alike AK.2.1) rfl AK.2.2 (inb_of SK ⟨by decide, by decide⟩) (by have q := HKb 0 (by rw [SK]; decide); exact q) (g := (mkF m 48 #[vR a, vR k, vI w, vI 1, vI 0, .unset] [(.int 0), (.ref ks)])) rfl rfl (hb hby d25_48))
    refine Go T5 (mkF m 51 #[vR a, vR k, vI w, vI 1, vI 0, vR k] []) ?_ (fun t_ k_ => XS.astore X5.here hx rfl (hb hby d25_49) rfl rfl (l' := #[vR a, vR k, vI w, vI 1, vI 0, vR k]) rfl k_)
    refine Go T5 (mkF m 53 #[vR a, vR k, vI w, vI 1, vI 0, vR k] [(.ref k)]) ?_ (fun t_ k_ => XS.aload X5.here hx rfl (hb hby d25_51) rfl rfl k_)
    refine Go T5 (mkF m 54 #[vR a, vR k, vI w, vI 1, vI 0, vR k] [(.ref k), (.ref k)]) ?_ (fun t_ k_ => XS.aloadN X5.here hx rfl (hb hby d25_53) rfl rfl k_)
    refine Go T5 (mkF m 66 #[vR a, vR k, vI w, vI 1, vI 0, vR k] []) ?_ (fun t_ k_ => Jvm.RoadKit.acmp X5 hx rfl rfl rfl (pc0 := 54) (pc' := 66) (same := true) rfl (hb hby d25_54) rfl (decide_eq_true (congrArg Value.ref rfl)) (by decide) (by decide) k_)
    refine Go T5 (mkF m 68 #[vR a, vR k, vI w, vI 1, vI 0, vR k] [(.int 0)]) ?_ (fun t_ k_ => XS.iload X5.here hx rfl (hb hby d25_66) rfl k_)
    rw [hWd]
    exact Goes.retn X5 (v := some (.int 0)) (fun fs hr => retI X5 hx Bd.returns (hb hby d25_68) hr) (fun h => by rw [Bd.returns] at h; cases h) Bd.notSynchronized (by decide) (by decide) (by rw [e5]; exact ⟨by first | (rw [hbm]; done) | (rw [hbm]; rfl) | (rw [hbm]; decide), N2, rfl⟩)
  · rw [hbm]
    have HHb := HH
    have HKb := HK
    rw [hbm, own_hs1] at HHb
    rw [hbm, own_ks1] at HKb
    refine Go T2 (mkF m 15 #[vR a, vR k, vI w, vI 1, vI 1, .unset] []) ?_ (fun t_ k_ => XS.istore X2.here hx rfl (hb hby d25_13) rfl (l' := #[vR a, vR k, vI w, vI 1, vI 1, .unset]) rfl k_)
    refine Go T2 (mkF m 16 #[vR a, vR k, vI w, vI 1, vI 1, .unset] [(.ref a)]) ?_ (fun t_ k_ => XS.aloadN X2.here hx rfl (hb hby d25_15) rfl rfl k_)
    obtain ⟨T6, X6, e6, st6⟩ := getF X2 hx hZ hown (host := "") (Or.inl (wq hw 157 rfl)) Via.refl eh2 TL.FH (g := (mkF m 16 #[vR a, vR k, vI w, vI 1, vI 1, .unset] [(.ref a)])) rfl rfl (hb hby d25_16)
    refine Go T6 (mkF m 19 #[vR a, vR k, vI w, vI 1, vI 1, .unset] [(.ref hc)]) ?_ st6
    refine Go T6 (mkF m 20 #[vR a, vR k, vI w, vI 1, vI 1, .unset] [(.int 2), (.ref hc)]) ?_ (fun t_ k_ => XS.iconst X6.here hx rfl (hb hby d25_19) k_)
    refine Go T6 (mkF m 22 #[vR a, vR k, vI w, vI 1, vI 1, .unset] [(.int 1), (.int 2), (.ref hc)]) ?_ (fun t_ k_ => XS.iload X6.here hx rfl (hb hby d25_20) rfl k_)
    refine Go T6 (mkF m 23 #[vR a, vR k, vI w, vI 1, vI 1, .unset] [(.int 2), (.ref hc)]) ?_ (fun t_ k_ => XS.imul X6.here hx rfl (hb hby d25_22) rfl k_)
    refine Go T6 (mkF m 24 #[vR a, vR k, vI w, vI 1, vI 1, .unset] [(.int 1), (.int 2), (.ref hc)]) ?_ (fun t_ k_ => XS.iconst X6.here hx rfl (hb hby d25_23) k_)
    refine Go T6 (mkF m 25 #[vR a, vR k, vI w, vI 1, vI 1, .unset] [(.int 3), (.ref hc)]) ?_ (fun t_ k_ => XS.iadd X6.here hx rfl (hb hby d25_24) rfl k_)
    refine Go T6 (mkF m 26 #[vR a, vR k, vI w, vI 1, vI 1, .unset] [(.int mc)]) ?_ (X6.iaload hx (j := (3 : Int32)) (v := (.int mc)) (by rw [e6]; exact AH.1) (State.isArrayOf_alike hZ.alike AH.2.1) AH.2.2 (inb_of SH_ ⟨by decide, by decide⟩) (by have q := HHb 3 (by rw [SH_]; decide); exact q) (g := (mkF m 25 #[vR a, vR k, vI w, vI 1, vI 1, .unset] [(.int 3), (.ref hc)])) rfl rfl (hb hby d25_25))
    refine Go T6 (mkF m 29 #[vR a, vR k, vI w, vI 1, vI 1, .unset] []) ?_ (fun t_ k_ => XS.ifNo X6.here hx rfl (hb hby d25_26) rfl ((if0 _ _).trans (feq hm).1) k_)
    refine Go T6 (mkF m 30 #[vR a, vR k, vI w, vI 1, vI 1, .unset] [(.ref a)]) ?_ (fun t_ k_ => XS.aloadN X6.here hx rfl (hb hby d25_29) rfl rfl k_)
    obtain ⟨T7, X7, e7, st7⟩ := getF X6 hx hZ hown (host := "") (Or.inl (wq hw 157 rfl)) Via.refl e6 TL.FH (g := (mkF m 30 #[vR a, vR k, vI w, vI 1, vI 1, .unset] [(.ref a)])) rfl rfl (hb hby d25_30)
    refine Go T7 (mkF m 33 #[vR a, vR k, vI w, vI 1, vI 1, .unset] [(.ref hc)]) ?_ st7
    refine Go T7 (mkF m 34 #[vR a, vR k, vI w, vI 1, vI 1, .unset] [(.int 2), (.ref hc)]) ?_ (fun t_ k_ => XS.iconst X7.here hx rfl (hb hby d25_33) k_)
    refine Go T7 (mkF m 36 #[vR a, vR k, vI w, vI 1, vI 1, .unset] [(.int 1), (.int 2), (.ref hc)]) ?_ (fun t_ k_ => XS.iload X7.here hx rfl (hb hby d25_34) rfl k_)
    refine Go T7 (mkF m 37 #[vR a, vR k, vI w, vI 1, vI 1, .unset] [(.int 2), (.ref hc)]) ?_ (fun t_ k_ => XS.imul X7.here hx rfl (hb hby d25_36) rfl k_)
    refine Go T7 (mkF m 38 #[vR a, vR k, vI w, vI 1, vI 1, .unset] [(.int w)]) ?_ (X7.iaload hx (j := (2 : Int32)) (v := (.int w)) (by rw [e7]; exact AH.1) (State.isArrayOf_alike hZ.alike AH.2.1) AH.2.2 (inb_of SH_ ⟨by decide, by decide⟩) (by have q := HHb 2 (by rw [SH_]; decide); exact q) (g := (mkF m 37 #[vR a, vR k, vI w, vI 1, vI 1, .unset] [(.int 2), (.ref hc)])) rfl rfl (hb hby d25_37))
    refine Go T7 (mkF m 39 #[vR a, vR k, vI w, vI 1, vI 1, .unset] [(.int w), (.int w)]) ?_ (fun t_ k_ => XS.iloadN X7.here hx rfl (hb hby d25_38) rfl k_)
    refine Go T7 (mkF m 42 #[vR a, vR k, vI w, vI 1, vI 1, .unset] []) ?_ (fun t_ k_ => XS.icmpNo X7.here hx rfl (hb hby d25_39) rfl (teq rfl).2 k_)
    refine Go T7 (mkF m 43 #[vR a, vR k, vI w, vI 1, vI 1, .unset] [(.ref a)]) ?_ (fun t_ k_ => XS.aloadN X7.here hx rfl (hb hby d25_42) rfl rfl k_)
    obtain ⟨T8, X8, e8, st8⟩ := getF X7 hx hZ hown (host := "") (Or.inl (wq hw 160 rfl)) Via.refl e7 TL.FK (g := (mkF m 43 #[vR a, vR k, vI w, vI 1, vI 1, .unset] [(.ref a)])) rfl rfl (hb hby d25_43)
    refine Go T8 (mkF m 46 #[vR a, vR k, vI w, vI 1, vI 1, .unset] [(.ref ks)]) ?_ st8
    refine Go T8 (mkF m 48 #[vR a, vR k, vI w, vI 1, vI 1, .unset] [(.int 1), (.ref ks)]) ?_ (fun t_ k_ => XS.iload X8.here hx rfl (hb hby d25_46) rfl k_)
    refine Go T8 (mkF m 49 #[vR a, vR k, vI w, vI 1, vI 1, .unset] [(.ref k)]) ?_ (X8.aaload hx (j := (1 : Int32)) (v := (.ref k)) (by rw [e8]; exact AK.1) (State.isArrayOf_alike hZ.alike AK.2.1) rfl AK.2.2 (inb_of SK ⟨by decide, by decide⟩) (by have q := HKb 1 (by rw [SK]; decide); exact q) (g := (mkF m 48 #[vR a, vR k, vI w, vI 1, vI 1, .unset] [(.int 1), (.ref ks)])) rfl rfl (hb hby d25_48))
    refine Go T8 (mkF m 51 #[vR a, vR k, vI w, vI 1, vI 1, vR k] []) ?_ (fun t_ k_ => XS.astore X8.here hx rfl (hb hby d25_49) rfl rfl (l' := #[vR a, vR k, vI w, vI 1, vI 1, vR k]) rfl k_)
    refine Go T8 (mkF m 53 #[vR a, vR k, vI w, vI 1, vI 1, vR k] [(.ref k)]) ?_ (fun t_ k_ => XS.aload X8.here hx rfl (hb hby d25_51) rfl rfl k_)
    refine Go T8 (mkF m 54 #[vR a, vR k, vI w, vI 1, vI 1, vR k] [(.ref k), (.ref k)]) ?_ (fun t_ k_ => XS.aloadN X8.here hx rfl (hb hby d25_53) rfl rfl k_)
    refine Go T8 (mkF m 66 #[vR a, vR k, vI w, vI 1, vI 1, vR k] []) ?_ (fun t_ k_ => Jvm.RoadKit.acmp X8 hx rfl rfl rfl (pc0 := 54) (pc' := 66) (same := true) rfl (hb hby d25_54) rfl (decide_eq_true (congrArg Value.ref rfl)) (by decide) (by decide) k_)
    refine Go T8 (mkF m 68 #[vR a, vR k, vI w, vI 1, vI 1, vR k] [(.int 1)]) ?_ (fun t_ k_ => XS.iload X8.here hx rfl (hb hby d25_66) rfl k_)
    rw [hWd]
    exact Goes.retn X8 (v := some (.int 1)) (fun fs hr => retI X8 hx Bd.returns (hb hby d25_68) hr) (fun h => by rw [Bd.returns] at h; cases h) Bd.notSynchronized (by decide) (by decide) (by rw [e8]; exact ⟨by first | (rw [hbm]; done) | (rw [hbm]; rfl) | (rw [hbm]; decide), N2, rfl⟩)
def QF0 (Z : State) (B : Nat) (a hc ks : Addr) (kh kk : ClassId) (k : Addr) (w : Int32) (h0 : Heap) (n0 : Nat) (v : Option Value) (h : Heap) (L : List Loc) : Prop := v = some (.int ((-1 : Int32) - own_home w)) ∧ Fr n0 L ∧ h = h0
set_option maxRecDepth 65536 in
set_option maxHeartbeats 40000000 in
theorem rmF0 (l : Launch) (Z : State) (a0 : Array Value) (hw : ∀ d ∈ tables_1, d.before a0 Z = true) (ws : List Jvm.Cond) (B : Nat) (a hc ks : Addr) (kh kk : ClassId) (k : Addr) (w : Int32) (h0 : Heap) (n0 : Nat) (Z0 : n0 ≤ h0.size) (TL : TlyE Z h0 B a hc ks kh kk) :
    MetFree l mN15 (head1 (Jvm.Cond.code mN15 cD22 6 (some .int) :: ws) ({ frames := 1, cells := 0, slots := 0, locals := 13 } : Room)) (fun a_ U => a_ = #[(.ref a), (.ref k), (.int w)] ∧ Z.Warmed39 U.vm ∧ U.heap = h0) (fun _ _ _ _ _ => True) (fun _ U o U' => ∃ v L, o = .returned v ∧ QF0 Z B a hc ks kh kk k w h0 n0 v U'.heap L ∧ FrameEnd U o U' L ({ frames := 1, cells := 0, slots := 0, locals := 13 } : Room).cells ({ frames := 1, cells := 0, slots := 0, locals := 13 } : Room).slots) := by
  refine MetFree.of_bodySF (plainFor_of_name pn_5) hisR ?_
  intro p e s m args below meth c s₁ Bd hml0 hP hK
  obtain ⟨rfl, hZ, hh⟩ := hP
  have hx := Bd.exec
  have hby := Bd.bytes
  have hml : c.maxLocals = 6 := hml0
  have hown : s.vm.findClass "com/example/entitlement/entitlement/Tally" = some m.cls := findClass_of_methodNamed Bd.named
  have hnm := (name_of_methodNamed Bd.named Bd.method).1
  have X0 : Stand p l e ({ frames := 1, cells := 0, slots := 0, locals := 13 } : Room) s m #[(.ref a), (.ref k), (.int w)] below meth c s₁ [] 0 0 := Stand.of_body Bd
  have e0 : s₁.heap = h0 := by rw [← hh, Bd.state]; rfl
  have N0 := Fr.nil n0
  refine Goes.done ?_
  obtain ⟨W, hWd⟩ : ∃ W : State → Prop, W = EndW s below (QF0 Z B a hc ks kh kk k w h0 n0) ({ frames := 1, cells := 0, slots := 0, locals := 13 } : Room).cells ({ frames := 1, cells := 0, slots := 0, locals := 13 } : Room).slots := ⟨_, rfl⟩
  rw [← hWd]
  have hef : entryFrame m #[(.ref a), (.ref k), (.int w)] 6 = (mkF m 0 #[vR a, vR k, vI w, .unset, .unset, .unset] []) := by first | (simp [entryFrame, mkF, argsToLocals, Value.category]; done) | rfl
  rw [hef]
  obtain ⟨cH, AH, -, SH_, MH, HH, -⟩ := id TL.VH
  obtain ⟨cK, AK, -, SK, MK, HK, -⟩ := id TL.VK
  refine Go s₁ (mkF m 1 #[vR a, vR k, vI w, .unset, .unset, .unset] [(.ref a)]) ?_ (fun t_ k_ => XS.aloadN X0.here hx rfl (hb hby d25_0) rfl rfl k_)
  obtain ⟨T1, X1, e1, st1⟩ := getF X0 hx hZ hown (host := "") (Or.inl (wq hw 160 rfl)) Via.refl e0 TL.FK (g := (mkF m 1 #[vR a, vR k, vI w, .unset, .unset, .unset] [(.ref a)])) rfl rfl (hb hby d25_1)
  refine Go T1 (mkF m 4 #[vR a, vR k, vI w, .unset, .unset, .unset] [(.ref ks)]) ?_ st1
  refine Go T1 (mkF m 5 #[vR a, vR k, vI w, .unset, .unset, .unset] [(.int cK.slots.size.toInt32)]) ?_ (X1.arraylength hx (by rw [e1]; exact AK.1) (State.isArrayOf_alike hZ.alike AK.2.1) (g := (mkF m 4 #[vR a, vR k, vI w, .unset, .unset, .unset] [(.ref ks)])) rfl rfl (hb hby d25_4))
  rw [len_of SK MK]
  refine Go T1 (mkF m 6 #[vR a, vR k, vI w, .unset, .unset, .unset] [(.int 1), (.int 2)]) ?_ (fun t_ k_ => XS.iconst X1.here hx rfl (hb hby d25_5) k_)
  refine Go T1 (mkF m 7 #[vR a, vR k, vI w, .unset, .unset, .unset] [(.int 1)]) ?_ (fun t_ k_ => XS.isub X1.here hx rfl (hb hby d25_6) rfl k_)
  refine Go T1 (mkF m 8 #[vR a, vR k, vI w, vI 1, .unset, .unset] []) ?_ (fun t_ k_ => XS.istoreN X1.here hx rfl (hb hby d25_7) rfl (l' := #[vR a, vR k, vI w, vI 1, .unset, .unset]) rfl k_)
  refine Go T1 (mkF m 9 #[vR a, vR k, vI w, vI 1, .unset, .unset] [(.ref a)]) ?_ (fun t_ k_ => XS.aloadN X1.here hx rfl (hb hby d25_8) rfl rfl k_)
  refine Go T1 (mkF m 10 #[vR a, vR k, vI w, vI 1, .unset, .unset] [(.int w), (.ref a)]) ?_ (fun t_ k_ => XS.iloadN X1.here hx rfl (hb hby d25_9) rfl k_)
  obtain ⟨cq2, q2, q2'⟩ := TL.E.cell
  obtain ⟨_, _, ⟨T2, Lq_2, kq_2, nq_2⟩, -, X2, ⟨Lc2, hQ2, l2, y2, z2⟩, st2⟩ := X1.privateBack hx (y := mN13) hown (mvT hZ (wq hw 177 rfl)) (mvT hZ (wq hw 178 rfl)) (mvT hZ (own_selP (y := mN13) (wq hw 151 rfl) (wq hw 179 rfl) (wq hw 178 rfl) (by decide))) (Cond.privateMethod_at (mvP hZ (wq hw 179 rfl) (args := #[]))) (mvT hZ (wq hw 180 rfl)) (by decide) (backOf (W := 0) (rmHM l Z a0 hw [] a w h0 n0 Z0 TL.FS) hZ (wq hw 180 rfl) (wq hw 152 rfl) (by decide) (by decide)) (g := (mkF m 10 #[vR a, vR k, vI w, vI 1, .unset, .unset] [(.int w), (.ref a)])) rfl (by rw [hml]; rfl) (Steps.refl _) (a := a) (by rw [e1]; exact q2) q2' (argsL := [(.int w)]) (rest := []) (lenOf pd_10 rfl) rfl (by show 2 * 0 + _ ≤ _; exact Nat.le_of_eq rfl) (hb hby d25_10) (fun _ _ => ⟨rfl, e1, (by decide : 0 + 0 ≤ _), (by decide : 0 + 0 ≤ _)⟩)
  dsimp only [Pt.U, Pt.locs, Pt.cells, Pt.slots] at X2 l2 y2 z2 st2 hQ2
  rw [l2, y2, z2] at X2
  change Stand p l e _ _ m _ below meth c T2 _ 0 0 at X2
  obtain ⟨rfl, N2q, eh2⟩ := hQ2
  have N2 := Fr.app N0 N2q
  refine Go T2 (mkF m 13 #[vR a, vR k, vI w, vI 1, .unset, .unset] [(.int (own_home w))]) ?_ (fun t => st2.trans)
  rcases own_home_b w with hbm | hbm
  · rw [hbm]
    refine Go T2 (mkF m 15 #[vR a, vR k, vI w, vI 1, vI 0, .unset] []) ?_ (fun t_ k_ => XS.istore X2.here hx rfl (hb hby d25_13) rfl (l' := #[vR a, vR k, vI w, vI 1, vI 0, .unset]) rfl k_)
    refine Go T2 (mkF m 16 #[vR a, vR k, vI w, vI 1, vI 0, .unset] [(.ref a)]) ?_ (fun t_ k_ => XS.aloadN X2.here hx rfl (hb hby d25_15) rfl rfl k_)
    obtain ⟨T3, X3, e3, st3⟩ := getF X2 hx hZ hown (host := "") (Or.inl (wq hw 157 rfl)) Via.refl eh2 TL.FH (g := (mkF m 16 #[vR a, vR k, vI w, vI 1, vI 0, .unset] [(.ref a)])) rfl rfl (hb hby d25_16)
    refine Go T3 (mkF m 19 #[vR a, vR k, vI w, vI 1, vI 0, .unset] [(.ref hc)]) ?_ st3
    refine Go T3 (mkF m 20 #[vR a, vR k, vI w, vI 1, vI 0, .unset] [(.int 2), (.ref hc)]) ?_ (fun t_ k_ => XS.iconst X3.here hx rfl (hb hby d25_19) k_)
    refine Go T3 (mkF m 22 #[vR a, vR k, vI w, vI 1, vI 0, .unset] [(.int 0), (.int 2), (.ref hc)]) ?_ (fun t_ k_ => XS.iload X3.here hx rfl (hb hby d25_20) rfl k_)
    refine Go T3 (mkF m 23 #[vR a, vR k, vI w, vI 1, vI 0, .unset] [(.int 0), (.ref hc)]) ?_ (fun t_ k_ => XS.imul X3.here hx rfl (hb hby d25_22) rfl k_)
    refine Go T3 (mkF m 24 #[vR a, vR k, vI w, vI 1, vI 0, .unset] [(.int 1), (.int 0), (.ref hc)]) ?_ (fun t_ k_ => XS.iconst X3.here hx rfl (hb hby d25_23) k_)
    refine Go T3 (mkF m 25 #[vR a, vR k, vI w, vI 1, vI 0, .unset] [(.int 1), (.ref hc)]) ?_ (fun t_ k_ => XS.iadd X3.here hx rfl (hb hby d25_24) rfl k_)
    refine Go T3 (mkF m 26 #[vR a, vR k, vI w, vI 1, vI 0, .unset] [(.int 0)]) ?_ (X3.iaload hx (j := (1 : Int32)) (v := (.int 0)) (by rw [e3]; exact AH.1) (State.isArrayOf_alike hZ.alike AH.2.1) AH.2.2 (inb_of SH_ ⟨by decide, by decide⟩) (by have q := HH 1 (by rw [SH_]; decide); exact q) (g := (mkF m 25 #[vR a, vR k, vI w, vI 1, vI 0, .unset] [(.int 1), (.ref hc)])) rfl rfl (hb hby d25_25))
    refine Go T3 (mkF m 80 #[vR a, vR k, vI w, vI 1, vI 0, .unset] []) ?_ (fun t_ k_ => XS.ifYes X3.here hx rfl (pc0 := 26) (pc' := 80) rfl (hb hby d25_26) rfl (by decide) (by decide) (by decide) k_)
    refine Go T3 (mkF m 81 #[vR a, vR k, vI w, vI 1, vI 0, .unset] [(.int (-1))]) ?_ (fun t_ k_ => XS.iconst X3.here hx rfl (hb hby d25_80) k_)
    refine Go T3 (mkF m 83 #[vR a, vR k, vI w, vI 1, vI 0, .unset] [(.int 0), (.int (-1))]) ?_ (fun t_ k_ => XS.iload X3.here hx rfl (hb hby d25_81) rfl k_)
    refine Go T3 (mkF m 84 #[vR a, vR k, vI w, vI 1, vI 0, .unset] [(.int ((-1 : Int32) - (0 : Int32)))]) ?_ (fun t_ k_ => XS.isub X3.here hx rfl (hb hby d25_83) rfl k_)
    rw [show ((-1 : Int32) - (0 : Int32)) = (-1 : Int32) from by decide]
    rw [hWd]
    exact Goes.retn X3 (v := some (.int (-1))) (fun fs hr => retI X3 hx Bd.returns (hb hby d25_84) hr) (fun h => by rw [Bd.returns] at h; cases h) Bd.notSynchronized (by decide) (by decide) (by rw [e3]; exact ⟨by first | (rw [hbm]; done) | (rw [hbm]; rfl) | (rw [hbm]; decide), N2, rfl⟩)
  · rw [hbm]
    refine Go T2 (mkF m 15 #[vR a, vR k, vI w, vI 1, vI 1, .unset] []) ?_ (fun t_ k_ => XS.istore X2.here hx rfl (hb hby d25_13) rfl (l' := #[vR a, vR k, vI w, vI 1, vI 1, .unset]) rfl k_)
    refine Go T2 (mkF m 16 #[vR a, vR k, vI w, vI 1, vI 1, .unset] [(.ref a)]) ?_ (fun t_ k_ => XS.aloadN X2.here hx rfl (hb hby d25_15) rfl rfl k_)
    obtain ⟨T4, X4, e4, st4⟩ := getF X2 hx hZ hown (host := "") (Or.inl (wq hw 157 rfl)) Via.refl eh2 TL.FH (g := (mkF m 16 #[vR a, vR k, vI w, vI 1, vI 1, .unset] [(.ref a)])) rfl rfl (hb hby d25_16)
    refine Go T4 (mkF m 19 #[vR a, vR k, vI w, vI 1, vI 1, .unset] [(.ref hc)]) ?_ st4
    refine Go T4 (mkF m 20 #[vR a, vR k, vI w, vI 1, vI 1, .unset] [(.int 2), (.ref hc)]) ?_ (fun t_ k_ => XS.iconst X4.here hx rfl (hb hby d25_19) k_)
    refine Go T4 (mkF m 22 #[vR a, vR k, vI w, vI 1, vI 1, .unset] [(.int 1), (.int 2), (.ref hc)]) ?_ (fun t_ k_ => XS.iload X4.here hx rfl (hb hby d25_20) rfl k_)
    refine Go T4 (mkF m 23 #[vR a, vR k, vI w, vI 1, vI 1, .unset] [(.int 2), (.ref hc)]) ?_ (fun t_ k_ => XS.imul X4.here hx rfl (hb hby d25_22) rfl k_)
    refine Go T4 (mkF m 24 #[vR a, vR k, vI w, vI 1, vI 1, .unset] [(.int 1), (.int 2), (.ref hc)]) ?_ (fun t_ k_ => XS.iconst X4.here hx rfl (hb hby d25_23) k_)
    refine Go T4 (mkF m 25 #[vR a, vR k, vI w, vI 1, vI 1, .unset] [(.int 3), (.ref hc)]) ?_ (fun t_ k_ => XS.iadd X4.here hx rfl (hb hby d25_24) rfl k_)
    refine Go T4 (mkF m 26 #[vR a, vR k, vI w, vI 1, vI 1, .unset] [(.int 0)]) ?_ (X4.iaload hx (j := (3 : Int32)) (v := (.int 0)) (by rw [e4]; exact AH.1) (State.isArrayOf_alike hZ.alike AH.2.1) AH.2.2 (inb_of SH_ ⟨by decide, by decide⟩) (by have q := HH 3 (by rw [SH_]; decide); exact q) (g := (mkF m 25 #[vR a, vR k, vI w, vI 1, vI 1, .unset] [(.int 3), (.ref hc)])) rfl rfl (hb hby d25_25))
    refine Go T4 (mkF m 80 #[vR a, vR k, vI w, vI 1, vI 1, .unset] []) ?_ (fun t_ k_ => XS.ifYes X4.here hx rfl (pc0 := 26) (pc' := 80) rfl (hb hby d25_26) rfl (by decide) (by decide) (by decide) k_)
    refine Go T4 (mkF m 81 #[vR a, vR k, vI w, vI 1, vI 1, .unset] [(.int (-1))]) ?_ (fun t_ k_ => XS.iconst X4.here hx rfl (hb hby d25_80) k_)
    refine Go T4 (mkF m 83 #[vR a, vR k, vI w, vI 1, vI 1, .unset] [(.int 1), (.int (-1))]) ?_ (fun t_ k_ => XS.iload X4.here hx rfl (hb hby d25_81) rfl k_)
    refine Go T4 (mkF m 84 #[vR a, vR k, vI w, vI 1, vI 1, .unset] [(.int ((-1 : Int32) - (1 : Int32)))]) ?_ (fun t_ k_ => XS.isub X4.here hx rfl (hb hby d25_83) rfl k_)
    rw [show ((-1 : Int32) - (1 : Int32)) = (-2 : Int32) from by decide]
    rw [hWd]
    exact Goes.retn X4 (v := some (.int (-2))) (fun fs hr => retI X4 hx Bd.returns (hb hby d25_84) hr) (fun h => by rw [Bd.returns] at h; cases h) Bd.notSynchronized (by decide) (by decide) (by rw [e4]; exact ⟨by first | (rw [hbm]; done) | (rw [hbm]; rfl) | (rw [hbm]; decide), N2, rfl⟩)
def QP0r (Z : State) (a hc ks : Addr) (kh kk : ClassId) (g0 g1 g2 g3 : Int32) (u0 u1 : Value) (k : Addr) (w : Int32) (h0 : Heap) (n0 : Nat) (v : Option Value) (h : Heap) (L : List Loc) : Prop := v = none ∧ Fr n0 L ∧ Keep h0 h [hc, ks] ∧ Arv Z h hc kh .int 4 [.int w, .int 1, .int g2, .int g3] (.int 0) ∧ Arv Z h ks kk (.object "java/lang/Object") (2 : Int32) [.ref k, u1] .null
set_option maxRecDepth 65536 in
set_option maxHeartbeats 40000000 in
theorem rmP0r (l : Launch) (Z : State) (a0 : Array Value) (hw : ∀ d ∈ tables_1, d.before a0 Z = true) (ws : List Jvm.Cond) (a hc ks : Addr) (kh kk : ClassId) (g0 g1 g2 g3 : Int32) (u0 u1 : Value) (k : Addr) (w : Int32) (h0 : Heap) (n0 : Nat) (Z0 : n0 ≤ h0.size) (E : Exa Z h0 a "com/example/entitlement/entitlement/Tally") (FH : Fld Z h0 a "com/example/entitlement/entitlement/Tally" "hashesAndCounts" "[I" (.ref hc)) (FK : Fld Z h0 a "com/example/entitlement/entitlement/Tally" "keys" "[Ljava/lang/Object;" (.ref ks)) (VH : Arv Z h0 hc kh .int 4 [.int g0, .int g1, .int g2, .int g3] (.int 0)) (VK : Arv Z h0 ks kk (.object "java/lang/Object") (2 : Int32) [u0, u1] .null) (hne : hc ≠ ks) (gh : n0 ≤ hc) (gk : n0 ≤ ks) (OV : Ovr Z kk "java/lang/Object") (IK : Ins Z h0 k "java/lang/Object" true) :
    MetFree l mN16 (head1 (Jvm.Cond.code mN16 cD24 5 none :: ws) ({ frames := 0, cells := 0, slots := 0, locals := 0 } : Room)) (fun a_ U => a_ = #[(.ref a), (.int 0), (.int w), (.ref k), (.int 1)] ∧ Z.Warmed39 U.vm ∧ U.heap = h0) (fun _ _ _ _ _ => True) (fun _ U o U' => ∃ v L, o = .returned v ∧ QP0r Z a hc ks kh kk g0 g1 g2 g3 u0 u1 k w h0 n0 v U'.heap L ∧ FrameEnd U o U' L ({ frames := 0, cells := 0, slots := 0, locals := 0 } : Room).cells ({ frames := 0, cells := 0, slots := 0, locals := 0 } : Room).slots) := by
  refine MetFree.of_bodySF (plainFor_of_name pn_5) hisR ?_
  intro p e s m args below meth c s₁ Bd hml0 hP hK
  obtain ⟨rfl, hZ, hh⟩ := hP
  have hx := Bd.exec
  have hby := Bd.bytes
  have hml : c.maxLocals = 5 := hml0
  have hown : s.vm.findClass "com/example/entitlement/entitlement/Tally" = some m.cls := findClass_of_methodNamed Bd.named
  have hnm := (name_of_methodNamed Bd.named Bd.method).1
  have X0 : Stand p l e ({ frames := 0, cells := 0, slots := 0, locals := 0 } : Room) s m #[(.ref a), (.int 0), (.int w), (.ref k), (.int 1)] below meth c s₁ [] 0 0 := Stand.of_body Bd
  have e0 : s₁.heap = h0 := by rw [← hh, Bd.state]; rfl
  have N0 := Fr.nil n0
  refine Goes.done ?_
  obtain ⟨W, hWd⟩ : ∃ W : State → Prop, W = EndW s below (QP0r Z a hc ks kh kk g0 g1 g2 g3 u0 u1 k w h0 n0) ({ frames := 0, cells := 0, slots := 0, locals := 0 } : Room).cells ({ frames := 0, cells := 0, slots := 0, locals := 0 } : Room).slots := ⟨_, rfl⟩
  rw [← hWd]
  have hef : entryFrame m #[(.ref a), (.int 0), (.int w), (.ref k), (.int 1)] 5 = (mkF m 0 #[vR a, vI 0, vI w, vR k, vI 1] []) := by first | (simp [entryFrame, mkF, argsToLocals, Value.category]; done) | rfl
  rw [hef]
  have ahc : a ≠ hc := Exa.neArv E VH (wq hw 151 rfl)
  refine Go s₁ (mkF m 1 #[vR a, vI 0, vI w, vR k, vI 1] [(.ref a)]) ?_ (fun t_ k_ => XS.aloadN X0.here hx rfl (hb hby d27_0) rfl rfl k_)
  obtain ⟨T1, X1, e1, st1⟩ := getF X0 hx hZ hown (host := "") (Or.inl (wq hw 157 rfl)) Via.refl e0 FH (g := (mkF m 1 #[vR a, vI 0, vI w, vR k, vI 1] [(.ref a)])) rfl rfl (hb hby d27_1)
  refine Go T1 (mkF m 4 #[vR a, vI 0, vI w, vR k, vI 1] [(.ref hc)]) ?_ st1
  refine Go T1 (mkF m 5 #[vR a, vI 0, vI w, vR k, vI 1] [(.int 2), (.ref hc)]) ?_ (fun t_ k_ => XS.iconst X1.here hx rfl (hb hby d27_4) k_)
  refine Go T1 (mkF m 6 #[vR a, vI 0, vI w, vR k, vI 1] [(.int 0), (.int 2), (.ref hc)]) ?_ (fun t_ k_ => XS.iloadN X1.here hx rfl (hb hby d27_5) rfl k_)
  refine Go T1 (mkF m 7 #[vR a, vI 0, vI w, vR k, vI 1] [(.int 0), (.ref hc)]) ?_ (fun t_ k_ => XS.imul X1.here hx rfl (hb hby d27_6) rfl k_)
  refine Go T1 (mkF m 8 #[vR a, vI 0, vI w, vR k, vI 1] [(.int w), (.int 0), (.ref hc)]) ?_ (fun t_ k_ => XS.iloadN X1.here hx rfl (hb hby d27_7) rfl k_)
  obtain ⟨cc2, A2, q2, S2, M2, H2, G2⟩ := id VH
  obtain ⟨T3, h3, X3, e3, W3, st3⟩ := stI X1 hx hZ e1 A2 (j := (0 : Int32)) (inb_of S2 ⟨by decide, by decide⟩) (g := (mkF m 8 #[vR a, vI 0, vI w, vR k, vI 1] [(.int w), (.int 0), (.ref hc)])) rfl rfl (hb hby d27_8)
  have N3 := Fr.snoc X3 N0 gh
  have Z3 : n0 ≤ h3.size := Nat.le_trans Z0 (Nat.le_of_eq W3.size.symm)
  refine Go T3 (mkF m 9 #[vR a, vI 0, vI w, vR k, vI 1] []) ?_ st3
  have fx4 := FH.other W3 (Or.inl ahc)
  have fx5 := FK.other W3 (Or.inl ahc)
  have fx6 := VK.other W3 (Ne.symm hne)
  have fx7 := IK.wr W3
  have kp8 := (Keep.refl h0 [hc, ks]).wr W3 (Or.inl (by simp))
  have V3 : Arv Z h3 hc kh .int 4 [.int w, .int g1, .int g2, .int g3] (.int 0) := Arv.set A2 q2 S2 M2 H2 G2 rfl W3 0 rfl (Nat.le_of_ble_eq_true rfl)
  refine Go T3 (mkF m 10 #[vR a, vI 0, vI w, vR k, vI 1] [(.ref a)]) ?_ (fun t_ k_ => XS.aloadN X3.here hx rfl (hb hby d27_9) rfl rfl k_)
  obtain ⟨T9, X9, e9, st9⟩ := getF X3 hx hZ hown (host := "") (Or.inl (wq hw 157 rfl)) Via.refl e3 fx4 (g := (mkF m 10 #[vR a, vI 0, vI w, vR k, vI 1] [(.ref a)])) rfl rfl (hb hby d27_10)
  refine Go T9 (mkF m 13 #[vR a, vI 0, vI w, vR k, vI 1] [(.ref hc)]) ?_ st9
  refine Go T9 (mkF m 14 #[vR a, vI 0, vI w, vR k, vI 1] [(.int 2), (.ref hc)]) ?_ (fun t_ k_ => XS.iconst X9.here hx rfl (hb hby d27_13) k_)
  refine Go T9 (mkF m 15 #[vR a, vI 0, vI w, vR k, vI 1] [(.int 0), (.int 2), (.ref hc)]) ?_ (fun t_ k_ => XS.iloadN X9.here hx rfl (hb hby d27_14) rfl k_)
  refine Go T9 (mkF m 16 #[vR a, vI 0, vI w, vR k, vI 1] [(.int 0), (.ref hc)]) ?_ (fun t_ k_ => XS.imul X9.here hx rfl (hb hby d27_15) rfl k_)
  refine Go T9 (mkF m 17 #[vR a, vI 0, vI w, vR k, vI 1] [(.int 1), (.int 0), (.ref hc)]) ?_ (fun t_ k_ => XS.iconst X9.here hx rfl (hb hby d27_16) k_)
  refine Go T9 (mkF m 18 #[vR a, vI 0, vI w, vR k, vI 1] [(.int 1), (.ref hc)]) ?_ (fun t_ k_ => XS.iadd X9.here hx rfl (hb hby d27_17) rfl k_)
  refine Go T9 (mkF m 20 #[vR a, vI 0, vI w, vR k, vI 1] [(.int 1), (.int 1), (.ref hc)]) ?_ (fun t_ k_ => XS.iload X9.here hx rfl (hb hby d27_18) rfl k_)
  obtain ⟨cc10, A10, q10, S10, M10, H10, G10⟩ := id V3
  obtain ⟨T11, h11, X11, e11, W11, st11⟩ := stI X9 hx hZ e9 A10 (j := (1 : Int32)) (inb_of S10 ⟨by decide, by decide⟩) (g := (mkF m 20 #[vR a, vI 0, vI w, vR k, vI 1] [(.int 1), (.int 1), (.ref hc)])) rfl rfl (hb hby d27_20)
  have N11 := Fr.snoc X11 N3 gh
  have Z11 : n0 ≤ h11.size := Nat.le_trans Z3 (Nat.le_of_eq W11.size.symm)
  refine Go T11 (mkF m 21 #[vR a, vI 0, vI w, vR k, vI 1] []) ?_ st11
  have fx12 := fx4.other W11 (Or.inl ahc)
  have fx13 := fx5.other W11 (Or.inl ahc)
  have fx14 := fx6.other W11 (Ne.symm hne)
  have fx15 := fx7.wr W11
  have kp16 := kp8.wr W11 (Or.inl (by simp))
  have V11 : Arv Z h11 hc kh .int 4 [.int w, .int 1, .int g2, .int g3] (.int 0) := Arv.set A10 q10 S10 M10 H10 G10 rfl W11 1 rfl (Nat.le_of_ble_eq_true rfl)
  refine Go T11 (mkF m 22 #[vR a, vI 0, vI w, vR k, vI 1] [(.ref a)]) ?_ (fun t_ k_ => XS.aloadN X11.here hx rfl (hb hby d27_21) rfl rfl k_)
  obtain ⟨T17, X17, e17, st17⟩ := getF X11 hx hZ hown (host := "") (Or.inl (wq hw 160 rfl)) Via.refl e11 fx13 (g := (mkF m 22 #[vR a, vI 0, vI w, vR k, vI 1] [(.ref a)])) rfl rfl (hb hby d27_22)
  refine Go T17 (mkF m 25 #[vR a, vI 0, vI w, vR k, vI 1] [(.ref ks)]) ?_ st17
  refine Go T17 (mkF m 26 #[vR a, vI 0, vI w, vR k, vI 1] [(.int 0), (.ref ks)]) ?_ (fun t_ k_ => XS.iloadN X17.here hx rfl (hb hby d27_25) rfl k_)
  refine Go T17 (mkF m 27 #[vR a, vI 0, vI w, vR k, vI 1] [(.ref k), (.int 0), (.ref ks)]) ?_ (fun t_ k_ => XS.aloadN X17.here hx rfl (hb hby d27_26) rfl rfl k_)
  obtain ⟨cc18, A18, q18, S18, M18, H18, G18⟩ := id fx14
  obtain ⟨T19, h19, X19, e19, W19, st19⟩ := stR X17 hx hZ e17 A18 (j := (0 : Int32)) (inb_of S18 ⟨by decide, by decide⟩) rfl (Sto.ofV A18 q18 OV fx15) (g := (mkF m 27 #[vR a, vI 0, vI w, vR k, vI 1] [(.ref k), (.int 0), (.ref ks)])) rfl rfl (hb hby d27_27)
  have N19 := Fr.snoc X19 N11 gk
  have Z19 : n0 ≤ h19.size := Nat.le_trans Z11 (Nat.le_of_eq W19.size.symm)
  refine Go T19 (mkF m 28 #[vR a, vI 0, vI w, vR k, vI 1] []) ?_ st19
  have kp20 := kp16.wr W19 (Or.inl (by simp))
  have V19 : Arv Z h19 ks kk (.object "java/lang/Object") (2 : Int32) [.ref k, u1] .null := Arv.set A18 q18 S18 M18 H18 G18 rfl W19 0 rfl (Nat.le_of_ble_eq_true rfl)
  have VHf := V11.other W19 hne
  rw [hWd]
  exact Goes.retn X19 (v := none) (fun fs hr => X19.returnOut hx Bd.returns (hb hby d27_28) hr) (fun _ => rfl) Bd.notSynchronized (by decide) (by decide) (by rw [e19]; exact ⟨rfl, N19, kp20, VHf, V19⟩)
def QP0n (Z : State) (a hc ks : Addr) (kh kk : ClassId) (g0 g1 g2 g3 : Int32) (u0 u1 : Value) (h0 : Heap) (n0 : Nat) (v : Option Value) (h : Heap) (L : List Loc) : Prop := v = none ∧ Fr n0 L ∧ Keep h0 h [hc, ks] ∧ Arv Z h hc kh .int 4 [.int 0, .int 0, .int g2, .int g3] (.int 0) ∧ Arv Z h ks kk (.object "java/lang/Object") (2 : Int32) [.null, u1] .null
set_option maxRecDepth 65536 in
set_option maxHeartbeats 40000000 in
theorem rmP0n (l : Launch) (Z : State) (a0 : Array Value) (hw : ∀ d ∈ tables_1, d.before a0 Z = true) (ws : List Jvm.Cond) (a hc ks : Addr) (kh kk : ClassId) (g0 g1 g2 g3 : Int32) (u0 u1 : Value) (h0 : Heap) (n0 : Nat) (Z0 : n0 ≤ h0.size) (E : Exa Z h0 a "com/example/entitlement/entitlement/Tally") (FH : Fld Z h0 a "com/example/entitlement/entitlement/Tally" "hashesAndCounts" "[I" (.ref hc)) (FK : Fld Z h0 a "com/example/entitlement/entitlement/Tally" "keys" "[Ljava/lang/Object;" (.ref ks)) (VH : Arv Z h0 hc kh .int 4 [.int g0, .int g1, .int g2, .int g3] (.int 0)) (VK : Arv Z h0 ks kk (.object "java/lang/Object") (2 : Int32) [u0, u1] .null) (hne : hc ≠ ks) (gh : n0 ≤ hc) (gk : n0 ≤ ks) :
    MetFree l mN16 (head1 (Jvm.Cond.code mN16 cD24 5 none :: ws) ({ frames := 0, cells := 0, slots := 0, locals := 0 } : Room)) (fun a_ U => a_ = #[(.ref a), (.int 0), (.int 0), .null, (.int 0)] ∧ Z.Warmed39 U.vm ∧ U.heap = h0) (fun _ _ _ _ _ => True) (fun _ U o U' => ∃ v L, o = .returned v ∧ QP0n Z a hc ks kh kk g0 g1 g2 g3 u0 u1 h0 n0 v U'.heap L ∧ FrameEnd U o U' L ({ frames := 0, cells := 0, slots := 0, locals := 0 } : Room).cells ({ frames := 0, cells := 0, slots := 0, locals := 0 } : Room).slots) := by
  refine MetFree.of_bodySF (plainFor_of_name pn_5) hisR ?_
  intro p e s m args below meth c s₁ Bd hml0 hP hK
  obtain ⟨rfl, hZ, hh⟩ := hP
  have hx := Bd.exec
  have hby := Bd.bytes
  have hml : c.maxLocals = 5 := hml0
  have hown : s.vm.findClass "com/example/entitlement/entitlement/Tally" = some m.cls := findClass_of_methodNamed Bd.named
  have hnm := (name_of_methodNamed Bd.named Bd.method).1
  have X0 : Stand p l e ({ frames := 0, cells := 0, slots := 0, locals := 0 } : Room) s m #[(.ref a), (.int 0), (.int 0), .null, (.int 0)] below meth c s₁ [] 0 0 := Stand.of_body Bd
  have e0 : s₁.heap = h0 := by rw [← hh, Bd.state]; rfl
  have N0 := Fr.nil n0
  refine Goes.done ?_
  obtain ⟨W, hWd⟩ : ∃ W : State → Prop, W = EndW s below (QP0n Z a hc ks kh kk g0 g1 g2 g3 u0 u1 h0 n0) ({ frames := 0, cells := 0, slots := 0, locals := 0 } : Room).cells ({ frames := 0, cells := 0, slots := 0, locals := 0 } : Room).slots := ⟨_, rfl⟩
  rw [← hWd]
  have hef : entryFrame m #[(.ref a), (.int 0), (.int 0), .null, (.int 0)] 5 = (mkF m 0 #[vR a, vI 0, vI 0, .val .null, vI 0] []) := by first | (simp [entryFrame, mkF, argsToLocals, Value.category]; done) | rfl
  rw [hef]
  have ahc : a ≠ hc := Exa.neArv E VH (wq hw 151 rfl)
  refine Go s₁ (mkF m 1 #[vR a, vI 0, vI 0, .val .null, vI 0] [(.ref a)]) ?_ (fun t_ k_ => XS.aloadN X0.here hx rfl (hb hby d27_0) rfl rfl k_)
  obtain ⟨T1, X1, e1, st1⟩ := getF X0 hx hZ hown (host := "") (Or.inl (wq hw 157 rfl)) Via.refl e0 FH (g := (mkF m 1 #[vR a, vI 0, vI 0, .val .null, vI 0] [(.ref a)])) rfl rfl (hb hby d27_1)
  refine Go T1 (mkF m 4 #[vR a, vI 0, vI 0, .val .null, vI 0] [(.ref hc)]) ?_ st1
  refine Go T1 (mkF m 5 #[vR a, vI 0, vI 0, .val .null, vI 0] [(.int 2), (.ref hc)]) ?_ (fun t_ k_ => XS.iconst X1.here hx rfl (hb hby d27_4) k_)
  refine Go T1 (mkF m 6 #[vR a, vI 0, vI 0, .val .null, vI 0] [(.int 0), (.int 2), (.ref hc)]) ?_ (fun t_ k_ => XS.iloadN X1.here hx rfl (hb hby d27_5) rfl k_)
  refine Go T1 (mkF m 7 #[vR a, vI 0, vI 0, .val .null, vI 0] [(.int 0), (.ref hc)]) ?_ (fun t_ k_ => XS.imul X1.here hx rfl (hb hby d27_6) rfl k_)
  refine Go T1 (mkF m 8 #[vR a, vI 0, vI 0, .val .null, vI 0] [(.int 0), (.int 0), (.ref hc)]) ?_ (fun t_ k_ => XS.iloadN X1.here hx rfl (hb hby d27_7) rfl k_)
  obtain ⟨cc2, A2, q2, S2, M2, H2, G2⟩ := id VH
  obtain ⟨T3, h3, X3, e3, W3, st3⟩ := stI X1 hx hZ e1 A2 (j := (0 : Int32)) (inb_of S2 ⟨by decide, by decide⟩) (g := (mkF m 8 #[vR a, vI 0, vI 0, .val .null, vI 0] [(.int 0), (.int 0), (.ref hc)])) rfl rfl (hb hby d27_8)
  have N3 := Fr.snoc X3 N0 gh
  have Z3 : n0 ≤ h3.size := Nat.le_trans Z0 (Nat.le_of_eq W3.size.symm)
  refine Go T3 (mkF m 9 #[vR a, vI 0, vI 0, .val .null, vI 0] []) ?_ st3
  have fx4 := FH.other W3 (Or.inl ahc)
  have fx5 := FK.other W3 (Or.inl ahc)
  have fx6 := VK.other W3 (Ne.symm hne)
  have kp7 := (Keep.refl h0 [hc, ks]).wr W3 (Or.inl (by simp))
  have V3 : Arv Z h3 hc kh .int 4 [.int 0, .int g1, .int g2, .int g3] (.int 0) := Arv.set A2 q2 S2 M2 H2 G2 rfl W3 0 rfl (Nat.le_of_ble_eq_true rfl)
  refine Go T3 (mkF m 10 #[vR a, vI 0, vI 0, .val .null, vI 0] [(.ref a)]) ?_ (fun t_ k_ => XS.aloadN X3.here hx rfl (hb hby d27_9) rfl rfl k_)
  obtain ⟨T8, X8, e8, st8⟩ := getF X3 hx hZ hown (host := "") (Or.inl (wq hw 157 rfl)) Via.refl e3 fx4 (g := (mkF m 10 #[vR a, vI 0, vI 0, .val .null, vI 0] [(.ref a)])) rfl rfl (hb hby d27_10)
  refine Go T8 (mkF m 13 #[vR a, vI 0, vI 0, .val .null, vI 0] [(.ref hc)]) ?_ st8
  refine Go T8 (mkF m 14 #[vR a, vI 0, vI 0, .val .null, vI 0] [(.int 2), (.ref hc)]) ?_ (fun t_ k_ => XS.iconst X8.here hx rfl (hb hby d27_13) k_)
  refine Go T8 (mkF m 15 #[vR a, vI 0, vI 0, .val .null, vI 0] [(.int 0), (.int 2), (.ref hc)]) ?_ (fun t_ k_ => XS.iloadN X8.here hx rfl (hb hby d27_14) rfl k_)
  refine Go T8 (mkF m 16 #[vR a, vI 0, vI 0, .val .null, vI 0] [(.int 0), (.ref hc)]) ?_ (fun t_ k_ => XS.imul X8.here hx rfl (hb hby d27_15) rfl k_)
  refine Go T8 (mkF m 17 #[vR a, vI 0, vI 0, .val .null, vI 0] [(.int 1), (.int 0), (.ref hc)]) ?_ (fun t_ k_ => XS.iconst X8.here hx rfl (hb hby d27_16) k_)
  refine Go T8 (mkF m 18 #[vR a, vI 0, vI 0, .val .null, vI 0] [(.int 1), (.ref hc)]) ?_ (fun t_ k_ => XS.iadd X8.here hx rfl (hb hby d27_17) rfl k_)
  refine Go T8 (mkF m 20 #[vR a, vI 0, vI 0, .val .null, vI 0] [(.int 0), (.int 1), (.ref hc)]) ?_ (fun t_ k_ => XS.iload X8.here hx rfl (hb hby d27_18) rfl k_)
  obtain ⟨cc9, A9, q9, S9, M9, H9, G9⟩ := id V3
  obtain ⟨T10, h10, X10, e10, W10, st10⟩ := stI X8 hx hZ e8 A9 (j := (1 : Int32)) (inb_of S9 ⟨by decide, by decide⟩) (g := (mkF m 20 #[vR a, vI 0, vI 0, .val .null, vI 0] [(.int 0), (.int 1), (.ref hc)])) rfl rfl (hb hby d27_20)
  have N10 := Fr.snoc X10 N3 gh
  have Z10 : n0 ≤ h10.size := Nat.le_trans Z3 (Nat.le_of_eq W10.size.symm)
  refine Go T10 (mkF m 21 #[vR a, vI 0, vI 0, .val .null, vI 0] []) ?_ st10
  have fx11 := fx4.other W10 (Or.inl ahc)
  have fx12 := fx5.other W10 (Or.inl ahc)
  have fx13 := fx6.other W10 (Ne.symm hne)
  have kp14 := kp7.wr W10 (Or.inl (by simp))
  have V10 : Arv Z h10 hc kh .int 4 [.int 0, .int 0, .int g2, .int g3] (.int 0) := Arv.set A9 q9 S9 M9 H9 G9 rfl W10 1 rfl (Nat.le_of_ble_eq_true rfl)
  refine Go T10 (mkF m 22 #[vR a, vI 0, vI 0, .val .null, vI 0] [(.ref a)]) ?_ (fun t_ k_ => XS.aloadN X10.here hx rfl (hb hby d27_21) rfl rfl k_)
  obtain ⟨T15, X15, e15, st15⟩ := getF X10 hx hZ hown (host := "") (Or.inl (wq hw 160 rfl)) Via.refl e10 fx12 (g := (mkF m 22 #[vR a, vI 0, vI 0, .val .null, vI 0] [(.ref a)])) rfl rfl (hb hby d27_22)
  refine Go T15 (mkF m 25 #[vR a, vI 0, vI 0, .val .null, vI 0] [(.ref ks)]) ?_ st15
  refine Go T15 (mkF m 26 #[vR a, vI 0, vI 0, .val .null, vI 0] [(.int 0), (.ref ks)]) ?_ (fun t_ k_ => XS.iloadN X15.here hx rfl (hb hby d27_25) rfl k_)
  refine Go T15 (mkF m 27 #[vR a, vI 0, vI 0, .val .null, vI 0] [.null, (.int 0), (.ref ks)]) ?_ (fun t_ k_ => XS.aloadN X15.here hx rfl (hb hby d27_26) rfl rfl k_)
  obtain ⟨cc16, A16, q16, S16, M16, H16, G16⟩ := id fx13
  obtain ⟨T17, h17, X17, e17, W17, st17⟩ := stR X15 hx hZ e15 A16 (j := (0 : Int32)) (inb_of S16 ⟨by decide, by decide⟩) rfl (Or.inl rfl) (g := (mkF m 27 #[vR a, vI 0, vI 0, .val .null, vI 0] [.null, (.int 0), (.ref ks)])) rfl rfl (hb hby d27_27)
  have N17 := Fr.snoc X17 N10 gk
  have Z17 : n0 ≤ h17.size := Nat.le_trans Z10 (Nat.le_of_eq W17.size.symm)
  refine Go T17 (mkF m 28 #[vR a, vI 0, vI 0, .val .null, vI 0] []) ?_ st17
  have kp18 := kp14.wr W17 (Or.inl (by simp))
  have V17 : Arv Z h17 ks kk (.object "java/lang/Object") (2 : Int32) [.null, u1] .null := Arv.set A16 q16 S16 M16 H16 G16 rfl W17 0 rfl (Nat.le_of_ble_eq_true rfl)
  have VHf := V10.other W17 hne
  rw [hWd]
  exact Goes.retn X17 (v := none) (fun fs hr => X17.returnOut hx Bd.returns (hb hby d27_28) hr) (fun _ => rfl) Bd.notSynchronized (by decide) (by decide) (by rw [e17]; exact ⟨rfl, N17, kp18, VHf, V17⟩)
def QP1r (Z : State) (a hc ks : Addr) (kh kk : ClassId) (g0 g1 g2 g3 : Int32) (u0 u1 : Value) (k : Addr) (w : Int32) (h0 : Heap) (n0 : Nat) (v : Option Value) (h : Heap) (L : List Loc) : Prop := v = none ∧ Fr n0 L ∧ Keep h0 h [hc, ks] ∧ Arv Z h hc kh .int 4 [.int g0, .int g1, .int w, .int 1] (.int 0) ∧ Arv Z h ks kk (.object "java/lang/Object") (2 : Int32) [u0, .ref k] .null
set_option maxRecDepth 65536 in
set_option maxHeartbeats 40000000 in
theorem rmP1r (l : Launch) (Z : State) (a0 : Array Value) (hw : ∀ d ∈ tables_1, d.before a0 Z = true) (ws : List Jvm.Cond) (a hc ks : Addr) (kh kk : ClassId) (g0 g1 g2 g3 : Int32) (u0 u1 : Value) (k : Addr) (w : Int32) (h0 : Heap) (n0 : Nat) (Z0 : n0 ≤ h0.size) (E : Exa Z h0 a "com/example/entitlement/entitlement/Tally") (FH : Fld Z h0 a "com/example/entitlement/entitlement/Tally" "hashesAndCounts" "[I" (.ref hc)) (FK : Fld Z h0 a "com/example/entitlement/entitlement/Tally" "keys" "[Ljava/lang/Object;" (.ref ks)) (VH : Arv Z h0 hc kh .int 4 [.int g0, .int g1, .int g2, .int g3] (.int 0)) (VK : Arv Z h0 ks kk (.object "java/lang/Object") (2 : Int32) [u0, u1] .null) (hne : hc ≠ ks) (gh : n0 ≤ hc) (gk : n0 ≤ ks) (OV : Ovr Z kk "java/lang/Object") (IK : Ins Z h0 k "java/lang/Object" true) :
    MetFree l mN16 (head1 (Jvm.Cond.code mN16 cD24 5 none :: ws) ({ frames := 0, cells := 0, slots := 0, locals := 0 } : Room)) (fun a_ U => a_ = #[(.ref a), (.int 1), (.int w), (.ref k), (.int 1)] ∧ Z.Warmed39 U.vm ∧ U.heap = h0) (fun _ _ _ _ _ => True) (fun _ U o U' => ∃ v L, o = .returned v ∧ QP1r Z a hc ks kh kk g0 g1 g2 g3 u0 u1 k w h0 n0 v U'.heap L ∧ FrameEnd U o U' L ({ frames := 0, cells := 0, slots := 0, locals := 0 } : Room).cells ({ frames := 0, cells := 0, slots := 0, locals := 0 } : Room).slots) := by
  refine MetFree.of_bodySF (plainFor_of_name pn_5) hisR ?_
  intro p e s m args below meth c s₁ Bd hml0 hP hK
  obtain ⟨rfl, hZ, hh⟩ := hP
  have hx := Bd.exec
  have hby := Bd.bytes
  have hml : c.maxLocals = 5 := hml0
  have hown : s.vm.findClass "com/example/entitlement/entitlement/Tally" = some m.cls := findClass_of_methodNamed Bd.named
  have hnm := (name_of_methodNamed Bd.named Bd.method).1
  have X0 : Stand p l e ({ frames := 0, cells := 0, slots := 0, locals := 0 } : Room) s m #[(.ref a), (.int 1), (.int w), (.ref k), (.int 1)] below meth c s₁ [] 0 0 := Stand.of_body Bd
  have e0 : s₁.heap = h0 := by rw [← hh, Bd.state]; rfl
  have N0 := Fr.nil n0
  refine Goes.done ?_
  obtain ⟨W, hWd⟩ : ∃ W : State → Prop, W = EndW s below (QP1r Z a hc ks kh kk g0 g1 g2 g3 u0 u1 k w h0 n0) ({ frames := 0, cells := 0, slots := 0, locals := 0 } : Room).cells ({ frames := 0, cells := 0, slots := 0, locals := 0 } : Room).slots := ⟨_, rfl⟩
  rw [← hWd]
  have hef : entryFrame m #[(.ref a), (.int 1), (.int w), (.ref k), (.int 1)] 5 = (mkF m 0 #[vR a, vI 1, vI w, vR k, vI 1] []) := by first | (simp [entryFrame, mkF, argsToLocals, Value.category]; done) | rfl
  rw [hef]
  have ahc : a ≠ hc := Exa.neArv E VH (wq hw 151 rfl)
  refine Go s₁ (mkF m 1 #[vR a, vI 1, vI w, vR k, vI 1] [(.ref a)]) ?_ (fun t_ k_ => XS.aloadN X0.here hx rfl (hb hby d27_0) rfl rfl k_)
  obtain ⟨T1, X1, e1, st1⟩ := getF X0 hx hZ hown (host := "") (Or.inl (wq hw 157 rfl)) Via.refl e0 FH (g := (mkF m 1 #[vR a, vI 1, vI w, vR k, vI 1] [(.ref a)])) rfl rfl (hb hby d27_1)
  refine Go T1 (mkF m 4 #[vR a, vI 1, vI w, vR k, vI 1] [(.ref hc)]) ?_ st1
  refine Go T1 (mkF m 5 #[vR a, vI 1, vI w, vR k, vI 1] [(.int 2), (.ref hc)]) ?_ (fun t_ k_ => XS.iconst X1.here hx rfl (hb hby d27_4) k_)
  refine Go T1 (mkF m 6 #[vR a, vI 1, vI w, vR k, vI 1] [(.int 1), (.int 2), (.ref hc)]) ?_ (fun t_ k_ => XS.iloadN X1.here hx rfl (hb hby d27_5) rfl k_)
  refine Go T1 (mkF m 7 #[vR a, vI 1, vI w, vR k, vI 1] [(.int 2), (.ref hc)]) ?_ (fun t_ k_ => XS.imul X1.here hx rfl (hb hby d27_6) rfl k_)
  refine Go T1 (mkF m 8 #[vR a, vI 1, vI w, vR k, vI 1] [(.int w), (.int 2), (.ref hc)]) ?_ (fun t_ k_ => XS.iloadN X1.here hx rfl (hb hby d27_7) rfl k_)
  obtain ⟨cc2, A2, q2, S2, M2, H2, G2⟩ := id VH
  obtain ⟨T3, h3, X3, e3, W3, st3⟩ := stI X1 hx hZ e1 A2 (j := (2 : Int32)) (inb_of S2 ⟨by decide, by decide⟩) (g := (mkF m 8 #[vR a, vI 1, vI w, vR k, vI 1] [(.int w), (.int 2), (.ref hc)])) rfl rfl (hb hby d27_8)
  have N3 := Fr.snoc X3 N0 gh
  have Z3 : n0 ≤ h3.size := Nat.le_trans Z0 (Nat.le_of_eq W3.size.symm)
  refine Go T3 (mkF m 9 #[vR a, vI 1, vI w, vR k, vI 1] []) ?_ st3
  have fx4 := FH.other W3 (Or.inl ahc)
  have fx5 := FK.other W3 (Or.inl ahc)
  have fx6 := VK.other W3 (Ne.symm hne)
  have fx7 := IK.wr W3
  have kp8 := (Keep.refl h0 [hc, ks]).wr W3 (Or.inl (by simp))
  have V3 : Arv Z h3 hc kh .int 4 [.int g0, .int g1, .int w, .int g3] (.int 0) := Arv.set A2 q2 S2 M2 H2 G2 rfl W3 2 rfl (Nat.le_of_ble_eq_true rfl)
  refine Go T3 (mkF m 10 #[vR a, vI 1, vI w, vR k, vI 1] [(.ref a)]) ?_ (fun t_ k_ => XS.aloadN X3.here hx rfl (hb hby d27_9) rfl rfl k_)
  obtain ⟨T9, X9, e9, st9⟩ := getF X3 hx hZ hown (host := "") (Or.inl (wq hw 157 rfl)) Via.refl e3 fx4 (g := (mkF m 10 #[vR a, vI 1, vI w, vR k, vI 1] [(.ref a)])) rfl rfl (hb hby d27_10)
  refine Go T9 (mkF m 13 #[vR a, vI 1, vI w, vR k, vI 1] [(.ref hc)]) ?_ st9
  refine Go T9 (mkF m 14 #[vR a, vI 1, vI w, vR k, vI 1] [(.int 2), (.ref hc)]) ?_ (fun t_ k_ => XS.iconst X9.here hx rfl (hb hby d27_13) k_)
  refine Go T9 (mkF m 15 #[vR a, vI 1, vI w, vR k, vI 1] [(.int 1), (.int 2), (.ref hc)]) ?_ (fun t_ k_ => XS.iloadN X9.here hx rfl (hb hby d27_14) rfl k_)
  refine Go T9 (mkF m 16 #[vR a, vI 1, vI w, vR k, vI 1] [(.int 2), (.ref hc)]) ?_ (fun t_ k_ => XS.imul X9.here hx rfl (hb hby d27_15) rfl k_)
  refine Go T9 (mkF m 17 #[vR a, vI 1, vI w, vR k, vI 1] [(.int 1), (.int 2), (.ref hc)]) ?_ (fun t_ k_ => XS.iconst X9.here hx rfl (hb hby d27_16) k_)
  refine Go T9 (mkF m 18 #[vR a, vI 1, vI w, vR k, vI 1] [(.int 3), (.ref hc)]) ?_ (fun t_ k_ => XS.iadd X9.here hx rfl (hb hby d27_17) rfl k_)
  refine Go T9 (mkF m 20 #[vR a, vI 1, vI w, vR k, vI 1] [(.int 1), (.int 3), (.ref hc)]) ?_ (fun t_ k_ => XS.iload X9.here hx rfl (hb hby d27_18) rfl k_)
  obtain ⟨cc10, A10, q10, S10, M10, H10, G10⟩ := id V3
  obtain ⟨T11, h11, X11, e11, W11, st11⟩ := stI X9 hx hZ e9 A10 (j := (3 : Int32)) (inb_of S10 ⟨by decide, by decide⟩) (g := (mkF m 20 #[vR a, vI 1, vI w, vR k, vI 1] [(.int 1), (.int 3), (.ref hc)])) rfl rfl (hb hby d27_20)
  have N11 := Fr.snoc X11 N3 gh
  have Z11 : n0 ≤ h11.size := Nat.le_trans Z3 (Nat.le_of_eq W11.size.symm)
  refine Go T11 (mkF m 21 #[vR a, vI 1, vI w, vR k, vI 1] []) ?_ st11
  have fx12 := fx4.other W11 (Or.inl ahc)
  have fx13 := fx5.other W11 (Or.inl ahc)
  have fx14 := fx6.other W11 (Ne.symm hne)
  have fx15 := fx7.wr W11
  have kp16 := kp8.wr W11 (Or.inl (by simp))
  have V11 : Arv Z h11 hc kh .int 4 [.int g0, .int g1, .int w, .int 1] (.int 0) := Arv.set A10 q10 S10 M10 H10 G10 rfl W11 3 rfl (Nat.le_of_ble_eq_true rfl)
  refine Go T11 (mkF m 22 #[vR a, vI 1, vI w, vR k, vI 1] [(.ref a)]) ?_ (fun t_ k_ => XS.aloadN X11.here hx rfl (hb hby d27_21) rfl rfl k_)
  obtain ⟨T17, X17, e17, st17⟩ := getF X11 hx hZ hown (host := "") (Or.inl (wq hw 160 rfl)) Via.refl e11 fx13 (g := (mkF m 22 #[vR a, vI 1, vI w, vR k, vI 1] [(.ref a)])) rfl rfl (hb hby d27_22)
  refine Go T17 (mkF m 25 #[vR a, vI 1, vI w, vR k, vI 1] [(.ref ks)]) ?_ st17
  refine Go T17 (mkF m 26 #[vR a, vI 1, vI w, vR k, vI 1] [(.int 1), (.ref ks)]) ?_ (fun t_ k_ => XS.iloadN X17.here hx rfl (hb hby d27_25) rfl k_)
  refine Go T17 (mkF m 27 #[vR a, vI 1, vI w, vR k, vI 1] [(.ref k), (.int 1), (.ref ks)]) ?_ (fun t_ k_ => XS.aloadN X17.here hx rfl (hb hby d27_26) rfl rfl k_)
  obtain ⟨cc18, A18, q18, S18, M18, H18, G18⟩ := id fx14
  obtain ⟨T19, h19, X19, e19, W19, st19⟩ := stR X17 hx hZ e17 A18 (j := (1 : Int32)) (inb_of S18 ⟨by decide, by decide⟩) rfl (Sto.ofV A18 q18 OV fx15) (g := (mkF m 27 #[vR a, vI 1, vI w, vR k, vI 1] [(.ref k), (.int 1), (.ref ks)])) rfl rfl (hb hby d27_27)
  have N19 := Fr.snoc X19 N11 gk
  have Z19 : n0 ≤ h19.size := Nat.le_trans Z11 (Nat.le_of_eq W19.size.symm)
  refine Go T19 (mkF m 28 #[vR a, vI 1, vI w, vR k, vI 1] []) ?_ st19
  have kp20 := kp16.wr W19 (Or.inl (by simp))
  have V19 : Arv Z h19 ks kk (.object "java/lang/Object") (2 : Int32) [u0, .ref k] .null := Arv.set A18 q18 S18 M18 H18 G18 rfl W19 1 rfl (Nat.le_of_ble_eq_true rfl)
  have VHf := V11.other W19 hne
  rw [hWd]
  exact Goes.retn X19 (v := none) (fun fs hr => X19.returnOut hx Bd.returns (hb hby d27_28) hr) (fun _ => rfl) Bd.notSynchronized (by decide) (by decide) (by rw [e19]; exact ⟨rfl, N19, kp20, VHf, V19⟩)
def QP1n (Z : State) (a hc ks : Addr) (kh kk : ClassId) (g0 g1 g2 g3 : Int32) (u0 u1 : Value) (h0 : Heap) (n0 : Nat) (v : Option Value) (h : Heap) (L : List Loc) : Prop := v = none ∧ Fr n0 L ∧ Keep h0 h [hc, ks] ∧ Arv Z h hc kh .int 4 [.int g0, .int g1, .int 0, .int 0] (.int 0) ∧ Arv Z h ks kk (.object "java/lang/Object") (2 : Int32) [u0, .null] .null
set_option maxRecDepth 65536 in
set_option maxHeartbeats 40000000 in
theorem rmP1n (l : Launch) (Z : State) (a0 : Array Value) (hw : ∀ d ∈ tables_1, d.before a0 Z = true) (ws : List Jvm.Cond) (a hc ks : Addr) (kh kk : ClassId) (g0 g1 g2 g3 : Int32) (u0 u1 : Value) (h0 : Heap) (n0 : Nat) (Z0 : n0 ≤ h0.size) (E : Exa Z h0 a "com/example/entitlement/entitlement/Tally") (FH : Fld Z h0 a "com/example/entitlement/entitlement/Tally" "hashesAndCounts" "[I" (.ref hc)) (FK : Fld Z h0 a "com/example/entitlement/entitlement/Tally" "keys" "[Ljava/lang/Object;" (.ref ks)) (VH : Arv Z h0 hc kh .int 4 [.int g0, .int g1, .int g2, .int g3] (.int 0)) (VK : Arv Z h0 ks kk (.object "java/lang/Object") (2 : Int32) [u0, u1] .null) (hne : hc ≠ ks) (gh : n0 ≤ hc) (gk : n0 ≤ ks) :
    MetFree l mN16 (head1 (Jvm.Cond.code mN16 cD24 5 none :: ws) ({ frames := 0, cells := 0, slots := 0, locals := 0 } : Room)) (fun a_ U => a_ = #[(.ref a), (.int 1), (.int 0), .null, (.int 0)] ∧ Z.Warmed39 U.vm ∧ U.heap = h0) (fun _ _ _ _ _ => True) (fun _ U o U' => ∃ v L, o = .returned v ∧ QP1n Z a hc ks kh kk g0 g1 g2 g3 u0 u1 h0 n0 v U'.heap L ∧ FrameEnd U o U' L ({ frames := 0, cells := 0, slots := 0, locals := 0 } : Room).cells ({ frames := 0, cells := 0, slots := 0, locals := 0 } : Room).slots) := by
  refine MetFree.of_bodySF (plainFor_of_name pn_5) hisR ?_
  intro p e s m args below meth c s₁ Bd hml0 hP hK
  obtain ⟨rfl, hZ, hh⟩ := hP
  have hx := Bd.exec
  have hby := Bd.bytes
  have hml : c.maxLocals = 5 := hml0
  have hown : s.vm.findClass "com/example/entitlement/entitlement/Tally" = some m.cls := findClass_of_methodNamed Bd.named
  have hnm := (name_of_methodNamed Bd.named Bd.method).1
  have X0 : Stand p l e ({ frames := 0, cells := 0, slots := 0, locals := 0 } : Room) s m #[(.ref a), (.int 1), (.int 0), .null, (.int 0)] below meth c s₁ [] 0 0 := Stand.of_body Bd
  have e0 : s₁.heap = h0 := by rw [← hh, Bd.state]; rfl
  have N0 := Fr.nil n0
  refine Goes.done ?_
  obtain ⟨W, hWd⟩ : ∃ W : State → Prop, W = EndW s below (QP1n Z a hc ks kh kk g0 g1 g2 g3 u0 u1 h0 n0) ({ frames := 0, cells := 0, slots := 0, locals := 0 } : Room).cells ({ frames := 0, cells := 0, slots := 0, locals := 0 } : Room).slots := ⟨_, rfl⟩
  rw [← hWd]
  have hef : entryFrame m #[(.ref a), (.int 1), (.int 0), .null, (.int 0)] 5 = (mkF m 0 #[vR a, vI 1, vI 0, .val .null, vI 0] []) := by first | (simp [entryFrame, mkF, argsToLocals, Value.category]; done) | rfl
  rw [hef]
  have ahc : a ≠ hc := Exa.neArv E VH (wq hw 151 rfl)
  refine Go s₁ (mkF m 1 #[vR a, vI 1, vI 0, .val .null, vI 0] [(.ref a)]) ?_ (fun t_ k_ => XS.aloadN X0.here hx rfl (hb hby d27_0) rfl rfl k_)
  obtain ⟨T1, X1, e1, st1⟩ := getF X0 hx hZ hown (host := "") (Or.inl (wq hw 157 rfl)) Via.refl e0 FH (g := (mkF m 1 #[vR a, vI 1, vI 0, .val .null, vI 0] [(.ref a)])) rfl rfl (hb hby d27_1)
  refine Go T1 (mkF m 4 #[vR a, vI 1, vI 0, .val .null, vI 0] [(.ref hc)]) ?_ st1
  refine Go T1 (mkF m 5 #[vR a, vI 1, vI 0, .val .null, vI 0] [(.int 2), (.ref hc)]) ?_ (fun t_ k_ => XS.iconst X1.here hx rfl (hb hby d27_4) k_)
  refine Go T1 (mkF m 6 #[vR a, vI 1, vI 0, .val .null, vI 0] [(.int 1), (.int 2), (.ref hc)]) ?_ (fun t_ k_ => XS.iloadN X1.here hx rfl (hb hby d27_5) rfl k_)
  refine Go T1 (mkF m 7 #[vR a, vI 1, vI 0, .val .null, vI 0] [(.int 2), (.ref hc)]) ?_ (fun t_ k_ => XS.imul X1.here hx rfl (hb hby d27_6) rfl k_)
  refine Go T1 (mkF m 8 #[vR a, vI 1, vI 0, .val .null, vI 0] [(.int 0), (.int 2), (.ref hc)]) ?_ (fun t_ k_ => XS.iloadN X1.here hx rfl (hb hby d27_7) rfl k_)
  obtain ⟨cc2, A2, q2, S2, M2, H2, G2⟩ := id VH
  obtain ⟨T3, h3, X3, e3, W3, st3⟩ := stI X1 hx hZ e1 A2 (j := (2 : Int32)) (inb_of S2 ⟨by decide, by decide⟩) (g := (mkF m 8 #[vR a, vI 1, vI 0, .val .null, vI 0] [(.int 0), (.int 2), (.ref hc)])) rfl rfl (hb hby d27_8)
  have N3 := Fr.snoc X3 N0 gh
  have Z3 : n0 ≤ h3.size := Nat.le_trans Z0 (Nat.le_of_eq W3.size.symm)
  refine Go T3 (mkF m 9 #[vR a, vI 1, vI 0, .val .null, vI 0] []) ?_ st3
  have fx4 := FH.other W3 (Or.inl ahc)
  have fx5 := FK.other W3 (Or.inl ahc)
  have fx6 := VK.other W3 (Ne.symm hne)
  have kp7 := (Keep.refl h0 [hc, ks]).wr W3 (Or.inl (by simp))
  have V3 : Arv Z h3 hc kh .int 4 [.int g0, .int g1, .int 0, .int g3] (.int 0) := Arv.set A2 q2 S2 M2 H2 G2 rfl W3 2 rfl (Nat.le_of_ble_eq_true rfl)
  refine Go T3 (mkF m 10 #[vR a, vI 1, vI 0, .val .null, vI 0] [(.ref a)]) ?_ (fun t_ k_ => XS.aloadN X3.here hx rfl (hb hby d27_9) rfl rfl k_)
  obtain ⟨T8, X8, e8, st8⟩ := getF X3 hx hZ hown (host := "") (Or.inl (wq hw 157 rfl)) Via.refl e3 fx4 (g := (mkF m 10 #[vR a, vI 1, vI 0, .val .null, vI 0] [(.ref a)])) rfl rfl (hb hby d27_10)
  refine Go T8 (mkF m 13 #[vR a, vI 1, vI 0, .val .null, vI 0] [(.ref hc)]) ?_ st8
  refine Go T8 (mkF m 14 #[vR a, vI 1, vI 0, .val .null, vI 0] [(.int 2), (.ref hc)]) ?_ (fun t_ k_ => XS.iconst X8.here hx rfl (hb hby d27_13) k_)
  refine Go T8 (mkF m 15 #[vR a, vI 1, vI 0, .val .null, vI 0] [(.int 1), (.int 2), (.ref hc)]) ?_ (fun t_ k_ => XS.iloadN X8.here hx rfl (hb hby d27_14) rfl k_)
  refine Go T8 (mkF m 16 #[vR a, vI 1, vI 0, .val .null, vI 0] [(.int 2), (.ref hc)]) ?_ (fun t_ k_ => XS.imul X8.here hx rfl (hb hby d27_15) rfl k_)
  refine Go T8 (mkF m 17 #[vR a, vI 1, vI 0, .val .null, vI 0] [(.int 1), (.int 2), (.ref hc)]) ?_ (fun t_ k_ => XS.iconst X8.here hx rfl (hb hby d27_16) k_)
  refine Go T8 (mkF m 18 #[vR a, vI 1, vI 0, .val .null, vI 0] [(.int 3), (.ref hc)]) ?_ (fun t_ k_ => XS.iadd X8.here hx rfl (hb hby d27_17) rfl k_)
  refine Go T8 (mkF m 20 #[vR a, vI 1, vI 0, .val .null, vI 0] [(.int 0), (.int 3), (.ref hc)]) ?_ (fun t_ k_ => XS.iload X8.here hx rfl (hb hby d27_18) rfl k_)
  obtain ⟨cc9, A9, q9, S9, M9, H9, G9⟩ := id V3
  obtain ⟨T10, h10, X10, e10, W10, st10⟩ := stI X8 hx hZ e8 A9 (j := (3 : Int32)) (inb_of S9 ⟨by decide, by decide⟩) (g := (mkF m 20 #[vR a, vI 1, vI 0, .val .null, vI 0] [(.int 0), (.int 3), (.ref hc)])) rfl rfl (hb hby d27_20)
  have N10 := Fr.snoc X10 N3 gh
  have Z10 : n0 ≤ h10.size := Nat.le_trans Z3 (Nat.le_of_eq W10.size.symm)
  refine Go T10 (mkF m 21 #[vR a, vI 1, vI 0, .val .null, vI 0] []) ?_ st10
  have fx11 := fx4.other W10 (Or.inl ahc)
  have fx12 := fx5.other W10 (Or.inl ahc)
  have fx13 := fx6.other W10 (Ne.symm hne)
  have kp14 := kp7.wr W10 (Or.inl (by simp))
  have V10 : Arv Z h10 hc kh .int 4 [.int g0, .int g1, .int 0, .int 0] (.int 0) := Arv.set A9 q9 S9 M9 H9 G9 rfl W10 3 rfl (Nat.le_of_ble_eq_true rfl)
  refine Go T10 (mkF m 22 #[vR a, vI 1, vI 0, .val .null, vI 0] [(.ref a)]) ?_ (fun t_ k_ => XS.aloadN X10.here hx rfl (hb hby d27_21) rfl rfl k_)
  obtain ⟨T15, X15, e15, st15⟩ := getF X10 hx hZ hown (host := "") (Or.inl (wq hw 160 rfl)) Via.refl e10 fx12 (g := (mkF m 22 #[vR a, vI 1, vI 0, .val .null, vI 0] [(.ref a)])) rfl rfl (hb hby d27_22)
  refine Go T15 (mkF m 25 #[vR a, vI 1, vI 0, .val .null, vI 0] [(.ref ks)]) ?_ st15
  refine Go T15 (mkF m 26 #[vR a, vI 1, vI 0, .val .null, vI 0] [(.int 1), (.ref ks)]) ?_ (fun t_ k_ => XS.iloadN X15.here hx rfl (hb hby d27_25) rfl k_)
  refine Go T15 (mkF m 27 #[vR a, vI 1, vI 0, .val .null, vI 0] [.null, (.int 1), (.ref ks)]) ?_ (fun t_ k_ => XS.aloadN X15.here hx rfl (hb hby d27_26) rfl rfl k_)
  obtain ⟨cc16, A16, q16, S16, M16, H16, G16⟩ := id fx13
  obtain ⟨T17, h17, X17, e17, W17, st17⟩ := stR X15 hx hZ e15 A16 (j := (1 : Int32)) (inb_of S16 ⟨by decide, by decide⟩) rfl (Or.inl rfl) (g := (mkF m 27 #[vR a, vI 1, vI 0, .val .null, vI 0] [.null, (.int 1), (.ref ks)])) rfl rfl (hb hby d27_27)
  have N17 := Fr.snoc X17 N10 gk
  have Z17 : n0 ≤ h17.size := Nat.le_trans Z10 (Nat.le_of_eq W17.size.symm)
  refine Go T17 (mkF m 28 #[vR a, vI 1, vI 0, .val .null, vI 0] []) ?_ st17
  have kp18 := kp14.wr W17 (Or.inl (by simp))
  have V17 : Arv Z h17 ks kk (.object "java/lang/Object") (2 : Int32) [u0, .null] .null := Arv.set A16 q16 S16 M16 H16 G16 rfl W17 1 rfl (Nat.le_of_ble_eq_true rfl)
  have VHf := V10.other W17 hne
  rw [hWd]
  exact Goes.retn X17 (v := none) (fun fs hr => X17.returnOut hx Bd.returns (hb hby d27_28) hr) (fun _ => rfl) Bd.notSynchronized (by decide) (by decide) (by rw [e17]; exact ⟨rfl, N17, kp18, VHf, V17⟩)
def QE0 (Z : State) (B : Nat) (a hc ks : Addr) (kh kk : ClassId) (k : Addr) (w mc : Int32) (h0 : Heap) (n0 : Nat) (v : Option Value) (h : Heap) (L : List Loc) : Prop := v = none ∧ Fr n0 L ∧ Keep h0 h [hc, ks]
set_option maxRecDepth 65536 in
set_option maxHeartbeats 40000000 in
theorem rmE0 (l : Launch) (Z : State) (a0 : Array Value) (hw : ∀ d ∈ tables_1, d.before a0 Z = true) (ws : List Jvm.Cond) (B : Nat) (a hc ks : Addr) (kh kk : ClassId) (k : Addr) (w mc : Int32) (h0 : Heap) (n0 : Nat) (Z0 : n0 ≤ h0.size) (TL : Tly Z h0 B a hc ks kh kk k w mc) (hbm : own_home w = 0) (gB : n0 ≤ B) :
    MetFree l mN17 (head1 (Jvm.Cond.code mN17 cD26 6 none :: ws) ({ frames := 1, cells := 0, slots := 0, locals := 16 } : Room)) (fun a_ U => a_ = #[(.ref a), (.int 0)] ∧ Z.Warmed39 U.vm ∧ U.heap = h0) (fun _ _ _ _ _ => True) (fun _ U o U' => ∃ v L, o = .returned v ∧ QE0 Z B a hc ks kh kk k w mc h0 n0 v U'.heap L ∧ FrameEnd U o U' L ({ frames := 1, cells := 0, slots := 0, locals := 16 } : Room).cells ({ frames := 1, cells := 0, slots := 0, locals := 16 } : Room).slots) := by
  refine MetFree.of_bodySF (plainFor_of_name pn_5) hisR ?_
  intro p e s m args below meth c s₁ Bd hml0 hP hK
  obtain ⟨rfl, hZ, hh⟩ := hP
  have hx := Bd.exec
  have hby := Bd.bytes
  have hml : c.maxLocals = 6 := hml0
  have hown : s.vm.findClass "com/example/entitlement/entitlement/Tally" = some m.cls := findClass_of_methodNamed Bd.named
  have hnm := (name_of_methodNamed Bd.named Bd.method).1
  have X0 : Stand p l e ({ frames := 1, cells := 0, slots := 0, locals := 16 } : Room) s m #[(.ref a), (.int 0)] below meth c s₁ [] 0 0 := Stand.of_body Bd
  have e0 : s₁.heap = h0 := by rw [← hh, Bd.state]; rfl
  have N0 := Fr.nil n0
  refine Goes.done ?_
  obtain ⟨W, hWd⟩ : ∃ W : State → Prop, W = EndW s below (QE0 Z B a hc ks kh kk k w mc h0 n0) ({ frames := 1, cells := 0, slots := 0, locals := 16 } : Room).cells ({ frames := 1, cells := 0, slots := 0, locals := 16 } : Room).slots := ⟨_, rfl⟩
  rw [← hWd]
  have hef : entryFrame m #[(.ref a), (.int 0)] 6 = (mkF m 0 #[vR a, vI 0, .unset, .unset, .unset, .unset] []) := by first | (simp [entryFrame, mkF, argsToLocals, Value.category]; done) | rfl
  rw [hef]
  have VHb : Arv Z h0 hc kh .int 4 [.int w, .int mc, .int 0, .int 0] (.int 0) := by have q := TL.VH; rw [hbm, own_hs0] at q; exact q
  have VKb : Arv Z h0 ks kk (.object "java/lang/Object") (2 : Int32) [.ref k, .null] .null := by have q := TL.VK; rw [hbm, own_ks0] at q; exact q
  obtain ⟨cH, AH, -, SH_, MH, HH, -⟩ := id VHb
  obtain ⟨cK, AK, -, SK, MK, HK, -⟩ := id VKb
  refine Go s₁ (mkF m 1 #[vR a, vI 0, .unset, .unset, .unset, .unset] [(.ref a)]) ?_ (fun t_ k_ => XS.aloadN X0.here hx rfl (hb hby d29_0) rfl rfl k_)
  obtain ⟨T1, X1, e1, st1⟩ := getF X0 hx hZ hown (host := "") (Or.inl (wq hw 160 rfl)) Via.refl e0 TL.FK (g := (mkF m 1 #[vR a, vI 0, .unset, .unset, .unset, .unset] [(.ref a)])) rfl rfl (hb hby d29_1)
  refine Go T1 (mkF m 4 #[vR a, vI 0, .unset, .unset, .unset, .unset] [(.ref ks)]) ?_ st1
  refine Go T1 (mkF m 5 #[vR a, vI 0, .unset, .unset, .unset, .unset] [(.int cK.slots.size.toInt32)]) ?_ (X1.arraylength hx (by rw [e1]; exact AK.1) (State.isArrayOf_alike hZ.alike AK.2.1) (g := (mkF m 4 #[vR a, vI 0, .unset, .unset, .unset, .unset] [(.ref ks)])) rfl rfl (hb hby d29_4))
  rw [len_of SK MK]
  refine Go T1 (mkF m 6 #[vR a, vI 0, .unset, .unset, .unset, .unset] [(.int 1), (.int 2)]) ?_ (fun t_ k_ => XS.iconst X1.here hx rfl (hb hby d29_5) k_)
  refine Go T1 (mkF m 7 #[vR a, vI 0, .unset, .unset, .unset, .unset] [(.int 1)]) ?_ (fun t_ k_ => XS.isub X1.here hx rfl (hb hby d29_6) rfl k_)
  refine Go T1 (mkF m 8 #[vR a, vI 0, vI 1, .unset, .unset, .unset] []) ?_ (fun t_ k_ => XS.istoreN X1.here hx rfl (hb hby d29_7) rfl (l' := #[vR a, vI 0, vI 1, .unset, .unset, .unset]) rfl k_)
  refine Go T1 (mkF m 9 #[vR a, vI 0, vI 1, .unset, .unset, .unset] [(.int 0)]) ?_ (fun t_ k_ => XS.iloadN X1.here hx rfl (hb hby d29_8) rfl k_)
  refine Go T1 (mkF m 10 #[vR a, vI 0, vI 1, vI 0, .unset, .unset] []) ?_ (fun t_ k_ => XS.istoreN X1.here hx rfl (hb hby d29_9) rfl (l' := #[vR a, vI 0, vI 1, vI 0, .unset, .unset]) rfl k_)
  refine Go T1 (mkF m 11 #[vR a, vI 0, vI 1, vI 0, .unset, .unset] [(.int 0)]) ?_ (fun t_ k_ => XS.iloadN X1.here hx rfl (hb hby d29_10) rfl k_)
  refine Go T1 (mkF m 12 #[vR a, vI 0, vI 1, vI 0, .unset, .unset] [(.int 1), (.int 0)]) ?_ (fun t_ k_ => XS.iconst X1.here hx rfl (hb hby d29_11) k_)
  refine Go T1 (mkF m 13 #[vR a, vI 0, vI 1, vI 0, .unset, .unset] [(.int 1)]) ?_ (fun t_ k_ => XS.iadd X1.here hx rfl (hb hby d29_12) rfl k_)
  refine Go T1 (mkF m 14 #[vR a, vI 0, vI 1, vI 0, .unset, .unset] [(.int 1), (.int 1)]) ?_ (fun t_ k_ => XS.iloadN X1.here hx rfl (hb hby d29_13) rfl k_)
  refine Go T1 (mkF m 15 #[vR a, vI 0, vI 1, vI 0, .unset, .unset] [(.int 1)]) ?_ (fun t_ k_ => XS.iand X1.here hx rfl (hb hby d29_14) rfl k_)
  refine Go T1 (mkF m 17 #[vR a, vI 0, vI 1, vI 0, vI 1, .unset] []) ?_ (fun t_ k_ => XS.istore X1.here hx rfl (hb hby d29_15) rfl (l' := #[vR a, vI 0, vI 1, vI 0, vI 1, .unset]) rfl k_)
  refine Go T1 (mkF m 18 #[vR a, vI 0, vI 1, vI 0, vI 1, .unset] [(.ref a)]) ?_ (fun t_ k_ => XS.aloadN X1.here hx rfl (hb hby d29_17) rfl rfl k_)
  obtain ⟨T2, X2, e2, st2⟩ := getF X1 hx hZ hown (host := "") (Or.inl (wq hw 157 rfl)) Via.refl e1 TL.FH (g := (mkF m 18 #[vR a, vI 0, vI 1, vI 0, vI 1, .unset] [(.ref a)])) rfl rfl (hb hby d29_18)
  refine Go T2 (mkF m 21 #[vR a, vI 0, vI 1, vI 0, vI 1, .unset] [(.ref hc)]) ?_ st2
  refine Go T2 (mkF m 22 #[vR a, vI 0, vI 1, vI 0, vI 1, .unset] [(.int 2), (.ref hc)]) ?_ (fun t_ k_ => XS.iconst X2.here hx rfl (hb hby d29_21) k_)
  refine Go T2 (mkF m 24 #[vR a, vI 0, vI 1, vI 0, vI 1, .unset] [(.int 1), (.int 2), (.ref hc)]) ?_ (fun t_ k_ => XS.iload X2.here hx rfl (hb hby d29_22) rfl k_)
  refine Go T2 (mkF m 25 #[vR a, vI 0, vI 1, vI 0, vI 1, .unset] [(.int 2), (.ref hc)]) ?_ (fun t_ k_ => XS.imul X2.here hx rfl (hb hby d29_24) rfl k_)
  refine Go T2 (mkF m 26 #[vR a, vI 0, vI 1, vI 0, vI 1, .unset] [(.int 1), (.int 2), (.ref hc)]) ?_ (fun t_ k_ => XS.iconst X2.here hx rfl (hb hby d29_25) k_)
  refine Go T2 (mkF m 27 #[vR a, vI 0, vI 1, vI 0, vI 1, .unset] [(.int 3), (.ref hc)]) ?_ (fun t_ k_ => XS.iadd X2.here hx rfl (hb hby d29_26) rfl k_)
  refine Go T2 (mkF m 28 #[vR a, vI 0, vI 1, vI 0, vI 1, .unset] [(.int 0)]) ?_ (X2.iaload hx (j := (3 : Int32)) (v := (.int 0)) (by rw [e2]; exact AH.1) (State.isArrayOf_alike hZ.alike AH.2.1) AH.2.2 (inb_of SH_ ⟨by decide, by decide⟩) (by have q := HH 3 (by rw [SH_]; decide); exact q) (g := (mkF m 27 #[vR a, vI 0, vI 1, vI 0, vI 1, .unset] [(.int 3), (.ref hc)])) rfl rfl (hb hby d29_27))
  refine Go T2 (mkF m 101 #[vR a, vI 0, vI 1, vI 0, vI 1, .unset] []) ?_ (fun t_ k_ => XS.ifYes X2.here hx rfl (pc0 := 28) (pc' := 101) rfl (hb hby d29_28) rfl (by decide) (by decide) (by decide) k_)
  refine Go T2 (mkF m 102 #[vR a, vI 0, vI 1, vI 0, vI 1, .unset] [(.ref a)]) ?_ (fun t_ k_ => XS.aloadN X2.here hx rfl (hb hby d29_101) rfl rfl k_)
  refine Go T2 (mkF m 103 #[vR a, vI 0, vI 1, vI 0, vI 1, .unset] [(.int 0), (.ref a)]) ?_ (fun t_ k_ => XS.iloadN X2.here hx rfl (hb hby d29_102) rfl k_)
  refine Go T2 (mkF m 104 #[vR a, vI 0, vI 1, vI 0, vI 1, .unset] [(.int 0), (.int 0), (.ref a)]) ?_ (fun t_ k_ => XS.iconst X2.here hx rfl (hb hby d29_103) k_)
  refine Go T2 (mkF m 105 #[vR a, vI 0, vI 1, vI 0, vI 1, .unset] [.null, (.int 0), (.int 0), (.ref a)]) ?_ (fun t_ k_ => XS.aconstNull X2.here hx rfl (hb hby d29_104) k_)
  refine Go T2 (mkF m 106 #[vR a, vI 0, vI 1, vI 0, vI 1, .unset] [(.int 0), .null, (.int 0), (.int 0), (.ref a)]) ?_ (fun t_ k_ => XS.iconst X2.here hx rfl (hb hby d29_105) k_)
  obtain ⟨cq3, q3, q3'⟩ := TL.E.cell
  obtain ⟨_, _, ⟨T3, Lq_3, kq_3, nq_3⟩, -, X3, ⟨Lc3, hQ3, l3, y3, z3⟩, st3⟩ := X2.privateBack hx (y := mN16) hown (mvT hZ (wq hw 184 rfl)) (mvT hZ (wq hw 185 rfl)) (mvT hZ (own_selP (y := mN16) (wq hw 151 rfl) (wq hw 186 rfl) (wq hw 185 rfl) (by decide))) (Cond.privateMethod_at (mvP hZ (wq hw 186 rfl) (args := #[]))) (mvT hZ (wq hw 187 rfl)) (by decide) (backOf (W := 0) (rmP0n l Z a0 hw [] a hc ks kh kk w mc (0 : Int32) (0 : Int32) (.ref k) (.null) h0 n0 Z0 TL.E TL.FH TL.FK VHb VKb TL.hne (Nat.le_trans gB TL.bh) (Nat.le_trans gB TL.bk)) hZ (wq hw 187 rfl) (wq hw 152 rfl) (by decide) (by decide)) (g := (mkF m 106 #[vR a, vI 0, vI 1, vI 0, vI 1, .unset] [(.int 0), .null, (.int 0), (.int 0), (.ref a)])) rfl (by rw [hml]; rfl) (Steps.refl _) (a := a) (by rw [e2]; exact q3) q3' (argsL := [(.int 0), (.int 0), .null, (.int 0)]) (rest := []) (lenOf pd_11 rfl) rfl (by show 2 * 0 + _ ≤ _; exact Nat.le_of_eq rfl) (hb hby d29_106) (fun _ _ => ⟨rfl, e2, (by decide : 0 + 0 ≤ _), (by decide : 0 + 0 ≤ _)⟩)
  dsimp only [Pt.U, Pt.locs, Pt.cells, Pt.slots] at X3 l3 y3 z3 st3 hQ3
  rw [l3, y3, z3] at X3
  change Stand p l e _ _ m _ below meth c T3 _ 0 0 at X3
  obtain ⟨rfl, N3q, KE, -, -⟩ := hQ3
  have N3 := Fr.app N0 N3q
  refine Go T3 (mkF m 109 #[vR a, vI 0, vI 1, vI 0, vI 1, .unset] []) ?_ (fun t => st3.trans)
  rw [hWd]
  exact Goes.retn X3 (v := none) (fun fs hr => X3.returnOut hx Bd.returns (hb hby d29_109) hr) (fun _ => rfl) Bd.notSynchronized (by decide) (by decide) ⟨rfl, N3, KE⟩
def QE1 (Z : State) (B : Nat) (a hc ks : Addr) (kh kk : ClassId) (k : Addr) (w mc : Int32) (h0 : Heap) (n0 : Nat) (v : Option Value) (h : Heap) (L : List Loc) : Prop := v = none ∧ Fr n0 L ∧ Keep h0 h [hc, ks]
set_option maxRecDepth 65536 in
set_option maxHeartbeats 40000000 in
theorem rmE1 (l : Launch) (Z : State) (a0 : Array Value) (hw : ∀ d ∈ tables_1, d.before a0 Z = true) (ws : List Jvm.Cond) (B : Nat) (a hc ks : Addr) (kh kk : ClassId) (k : Addr) (w mc : Int32) (h0 : Heap) (n0 : Nat) (Z0 : n0 ≤ h0.size) (TL : Tly Z h0 B a hc ks kh kk k w mc) (hbm : own_home w = 1) (gB : n0 ≤ B) :
    MetFree l mN17 (head1 (Jvm.Cond.code mN17 cD26 6 none :: ws) ({ frames := 1, cells := 0, slots := 0, locals := 16 } : Room)) (fun a_ U => a_ = #[(.ref a), (.int 1)] ∧ Z.Warmed39 U.vm ∧ U.heap = h0) (fun _ _ _ _ _ => True) (fun _ U o U' => ∃ v L, o = .returned v ∧ QE1 Z B a hc ks kh kk k w mc h0 n0 v U'.heap L ∧ FrameEnd U o U' L ({ frames := 1, cells := 0, slots := 0, locals := 16 } : Room).cells ({ frames := 1, cells := 0, slots := 0, locals := 16 } : Room).slots) := by
  refine MetFree.of_bodySF (plainFor_of_name pn_5) hisR ?_
  intro p e s m args below meth c s₁ Bd hml0 hP hK
  obtain ⟨rfl, hZ, hh⟩ := hP
  have hx := Bd.exec
  have hby := Bd.bytes
  have hml : c.maxLocals = 6 := hml0
  have hown : s.vm.findClass "com/example/entitlement/entitlement/Tally" = some m.cls := findClass_of_methodNamed Bd.named
  have hnm := (name_of_methodNamed Bd.named Bd.method).1
  have X0 : Stand p l e ({ frames := 1, cells := 0, slots := 0, locals := 16 } : Room) s m #[(.ref a), (.int 1)] below meth c s₁ [] 0 0 := Stand.of_body Bd
  have e0 : s₁.heap = h0 := by rw [← hh, Bd.state]; rfl
  have N0 := Fr.nil n0
  refine Goes.done ?_
  obtain ⟨W, hWd⟩ : ∃ W : State → Prop, W = EndW s below (QE1 Z B a hc ks kh kk k w mc h0 n0) ({ frames := 1, cells := 0, slots := 0, locals := 16 } : Room).cells ({ frames := 1, cells := 0, slots := 0, locals := 16 } : Room).slots := ⟨_, rfl⟩
  rw [← hWd]
  have hef : entryFrame m #[(.ref a), (.int 1)] 6 = (mkF m 0 #[vR a, vI 1, .unset, .unset, .unset, .unset] []) := by first | (simp [entryFrame, mkF, argsToLocals, Value.category]; done) | rfl
  rw [hef]
  have VHb : Arv Z h0 hc kh .int 4 [.int 0, .int 0, .int w, .int mc] (.int 0) := by have q := TL.VH; rw [hbm, own_hs1] at q; exact q
  have VKb : Arv Z h0 ks kk (.object "java/lang/Object") (2 : Int32) [.null, .ref k] .null := by have q := TL.VK; rw [hbm, own_ks1] at q; exact q
  obtain ⟨cH, AH, -, SH_, MH, HH, -⟩ := id VHb
  obtain ⟨cK, AK, -, SK, MK, HK, -⟩ := id VKb
  refine Go s₁ (mkF m 1 #[vR a, vI 1, .unset, .unset, .unset, .unset] [(.ref a)]) ?_ (fun t_ k_ => XS.aloadN X0.here hx rfl (hb hby d29_0) rfl rfl k_)
  obtain ⟨T1, X1, e1, st1⟩ := getF X0 hx hZ hown (host := "") (Or.inl (wq hw 160 rfl)) Via.refl e0 TL.FK (g := (mkF m 1 #[vR a, vI 1, .unset, .unset, .unset, .unset] [(.ref a)])) rfl rfl (hb hby d29_1)
  refine Go T1 (mkF m 4 #[vR a, vI 1, .unset, .unset, .unset, .unset] [(.ref ks)]) ?_ st1
  refine Go T1 (mkF m 5 #[vR a, vI 1, .unset, .unset, .unset, .unset] [(.int cK.slots.size.toInt32)]) ?_ (X1.arraylength hx (by rw [e1]; exact AK.1) (State.isArrayOf_alike hZ.alike AK.2.1) (g := (mkF m 4 #[vR a, vI 1, .unset, .unset, .unset, .unset] [(.ref ks)])) rfl rfl (hb hby d29_4))
  rw [len_of SK MK]
  refine Go T1 (mkF m 6 #[vR a, vI 1, .unset, .unset, .unset, .unset] [(.int 1), (.int 2)]) ?_ (fun t_ k_ => XS.iconst X1.here hx rfl (hb hby d29_5) k_)
  refine Go T1 (mkF m 7 #[vR a, vI 1, .unset, .unset, .unset, .unset] [(.int 1)]) ?_ (fun t_ k_ => XS.isub X1.here hx rfl (hb hby d29_6) rfl k_)
  refine Go T1 (mkF m 8 #[vR a, vI 1, vI 1, .unset, .unset, .unset] []) ?_ (fun t_ k_ => XS.istoreN X1.here hx rfl (hb hby d29_7) rfl (l' := #[vR a, vI 1, vI 1, .unset, .unset, .unset]) rfl k_)
  refine Go T1 (mkF m 9 #[vR a, vI 1, vI 1, .unset, .unset, .unset] [(.int 1)]) ?_ (fun t_ k_ => XS.iloadN X1.here hx rfl (hb hby d29_8) rfl k_)
  refine Go T1 (mkF m 10 #[vR a, vI 1, vI 1, vI 1, .unset, .unset] []) ?_ (fun t_ k_ => XS.istoreN X1.here hx rfl (hb hby d29_9) rfl (l' := #[vR a, vI 1, vI 1, vI 1, .unset, .unset]) rfl k_)
  refine Go T1 (mkF m 11 #[vR a, vI 1, vI 1, vI 1, .unset, .unset] [(.int 1)]) ?_ (fun t_ k_ => XS.iloadN X1.here hx rfl (hb hby d29_10) rfl k_)
  refine Go T1 (mkF m 12 #[vR a, vI 1, vI 1, vI 1, .unset, .unset] [(.int 1), (.int 1)]) ?_ (fun t_ k_ => XS.iconst X1.here hx rfl (hb hby d29_11) k_)
  refine Go T1 (mkF m 13 #[vR a, vI 1, vI 1, vI 1, .unset, .unset] [(.int 2)]) ?_ (fun t_ k_ => XS.iadd X1.here hx rfl (hb hby d29_12) rfl k_)
  refine Go T1 (mkF m 14 #[vR a, vI 1, vI 1, vI 1, .unset, .unset] [(.int 1), (.int 2)]) ?_ (fun t_ k_ => XS.iloadN X1.here hx rfl (hb hby d29_13) rfl k_)
  refine Go T1 (mkF m 15 #[vR a, vI 1, vI 1, vI 1, .unset, .unset] [(.int 0)]) ?_ (fun t_ k_ => XS.iand X1.here hx rfl (hb hby d29_14) rfl k_)
  refine Go T1 (mkF m 17 #[vR a, vI 1, vI 1, vI 1, vI 0, .unset] []) ?_ (fun t_ k_ => XS.istore X1.here hx rfl (hb hby d29_15) rfl (l' := #[vR a, vI 1, vI 1, vI 1, vI 0, .unset]) rfl k_)
  refine Go T1 (mkF m 18 #[vR a, vI 1, vI 1, vI 1, vI 0, .unset] [(.ref a)]) ?_ (fun t_ k_ => XS.aloadN X1.here hx rfl (hb hby d29_17) rfl rfl k_)
  obtain ⟨T2, X2, e2, st2⟩ := getF X1 hx hZ hown (host := "") (Or.inl (wq hw 157 rfl)) Via.refl e1 TL.FH (g := (mkF m 18 #[vR a, vI 1, vI 1, vI 1, vI 0, .unset] [(.ref a)])) rfl rfl (hb hby d29_18)
  refine Go T2 (mkF m 21 #[vR a, vI 1, vI 1, vI 1, vI 0, .unset] [(.ref hc)]) ?_ st2
  refine Go T2 (mkF m 22 #[vR a, vI 1, vI 1, vI 1, vI 0, .unset] [(.int 2), (.ref hc)]) ?_ (fun t_ k_ => XS.iconst X2.here hx rfl (hb hby d29_21) k_)
  refine Go T2 (mkF m 24 #[vR a, vI 1, vI 1, vI 1, vI 0, .unset] [(.int 0), (.int 2), (.ref hc)]) ?_ (fun t_ k_ => XS.iload X2.here hx rfl (hb hby d29_22) rfl k_)
  refine Go T2 (mkF m 25 #[vR a, vI 1, vI 1, vI 1, vI 0, .unset] [(.int 0), (.ref hc)]) ?_ (fun t_ k_ => XS.imul X2.here hx rfl (hb hby d29_24) rfl k_)
  refine Go T2 (mkF m 26 #[vR a, vI 1, vI 1, vI 1, vI 0, .unset] [(.int 1), (.int 0), (.ref hc)]) ?_ (fun t_ k_ => XS.iconst X2.here hx rfl (hb hby d29_25) k_)
  refine Go T2 (mkF m 27 #[vR a, vI 1, vI 1, vI 1, vI 0, .unset] [(.int 1), (.ref hc)]) ?_ (fun t_ k_ => XS.iadd X2.here hx rfl (hb hby d29_26) rfl k_)
  refine Go T2 (mkF m 28 #[vR a, vI 1, vI 1, vI 1, vI 0, .unset] [(.int 0)]) ?_ (X2.iaload hx (j := (1 : Int32)) (v := (.int 0)) (by rw [e2]; exact AH.1) (State.isArrayOf_alike hZ.alike AH.2.1) AH.2.2 (inb_of SH_ ⟨by decide, by decide⟩) (by have q := HH 1 (by rw [SH_]; decide); exact q) (g := (mkF m 27 #[vR a, vI 1, vI 1, vI 1, vI 0, .unset] [(.int 1), (.ref hc)])) rfl rfl (hb hby d29_27))
  refine Go T2 (mkF m 101 #[vR a, vI 1, vI 1, vI 1, vI 0, .unset] []) ?_ (fun t_ k_ => XS.ifYes X2.here hx rfl (pc0 := 28) (pc' := 101) rfl (hb hby d29_28) rfl (by decide) (by decide) (by decide) k_)
  refine Go T2 (mkF m 102 #[vR a, vI 1, vI 1, vI 1, vI 0, .unset] [(.ref a)]) ?_ (fun t_ k_ => XS.aloadN X2.here hx rfl (hb hby d29_101) rfl rfl k_)
  refine Go T2 (mkF m 103 #[vR a, vI 1, vI 1, vI 1, vI 0, .unset] [(.int 1), (.ref a)]) ?_ (fun t_ k_ => XS.iloadN X2.here hx rfl (hb hby d29_102) rfl k_)
  refine Go T2 (mkF m 104 #[vR a, vI 1, vI 1, vI 1, vI 0, .unset] [(.int 0), (.int 1), (.ref a)]) ?_ (fun t_ k_ => XS.iconst X2.here hx rfl (hb hby d29_103) k_)
  refine Go T2 (mkF m 105 #[vR a, vI 1, vI 1, vI 1, vI 0, .unset] [.null, (.int 0), (.int 1), (.ref a)]) ?_ (fun t_ k_ => XS.aconstNull X2.here hx rfl (hb hby d29_104) k_)
  refine Go T2 (mkF m 106 #[vR a, vI 1, vI 1, vI 1, vI 0, .unset] [(.int 0), .null, (.int 0), (.int 1), (.ref a)]) ?_ (fun t_ k_ => XS.iconst X2.here hx rfl (hb hby d29_105) k_)
  obtain ⟨cq3, q3, q3'⟩ := TL.E.cell
  obtain ⟨_, _, ⟨T3, Lq_3, kq_3, nq_3⟩, -, X3, ⟨Lc3, hQ3, l3, y3, z3⟩, st3⟩ := X2.privateBack hx (y := mN16) hown (mvT hZ (wq hw 184 rfl)) (mvT hZ (wq hw 185 rfl)) (mvT hZ (own_selP (y := mN16) (wq hw 151 rfl) (wq hw 186 rfl) (wq hw 185 rfl) (by decide))) (Cond.privateMethod_at (mvP hZ (wq hw 186 rfl) (args := #[]))) (mvT hZ (wq hw 187 rfl)) (by decide) (backOf (W := 0) (rmP1n l Z a0 hw [] a hc ks kh kk (0 : Int32) (0 : Int32) w mc (.null) (.ref k) h0 n0 Z0 TL.E TL.FH TL.FK VHb VKb TL.hne (Nat.le_trans gB TL.bh) (Nat.le_trans gB TL.bk)) hZ (wq hw 187 rfl) (wq hw 152 rfl) (by decide) (by decide)) (g := (mkF m 106 #[vR a, vI 1, vI 1, vI 1, vI 0, .unset] [(.int 0), .null, (.int 0), (.int 1), (.ref a)])) rfl (by rw [hml]; rfl) (Steps.refl _) (a := a) (by rw [e2]; exact q3) q3' (argsL := [(.int 1), (.int 0), .null, (.int 0)]) (rest := []) (lenOf pd_11 rfl) rfl (by show 2 * 0 + _ ≤ _; exact Nat.le_of_eq rfl) (hb hby d29_106) (fun _ _ => ⟨rfl, e2, (by decide : 0 + 0 ≤ _), (by decide : 0 + 0 ≤ _)⟩)
  dsimp only [Pt.U, Pt.locs, Pt.cells, Pt.slots] at X3 l3 y3 z3 st3 hQ3
  rw [l3, y3, z3] at X3
  change Stand p l e _ _ m _ below meth c T3 _ 0 0 at X3
  obtain ⟨rfl, N3q, KE, -, -⟩ := hQ3
  have N3 := Fr.app N0 N3q
  refine Go T3 (mkF m 109 #[vR a, vI 1, vI 1, vI 1, vI 0, .unset] []) ?_ (fun t => st3.trans)
  rw [hWd]
  exact Goes.retn X3 (v := none) (fun fs hr => X3.returnOut hx Bd.returns (hb hby d29_109) hr) (fun _ => rfl) Bd.notSynchronized (by decide) (by decide) ⟨rfl, N3, KE⟩
def QTI (Z : State) (B : Nat) (a : Addr) (h0 : Heap) (n0 : Nat) (v : Option Value) (h : Heap) (L : List Loc) : Prop := v = none ∧ Fr n0 L ∧ Keep h0 h [a] ∧ ∃ hc ks kh kk, h0.size ≤ hc ∧ h0.size ≤ ks ∧ TlyE Z h B a hc ks kh kk
set_option maxRecDepth 65536 in
set_option maxHeartbeats 40000000 in
theorem rmTI (l : Launch) (Z : State) (a0 : Array Value) (hw : ∀ d ∈ tables_1, d.before a0 Z = true) (ws : List Jvm.Cond) (B : Nat) (a : Addr) (h0 : Heap) (n0 : Nat) (Z0 : n0 ≤ h0.size) (E : Exa Z h0 a "com/example/entitlement/entitlement/Tally") (F0 : Fld Z h0 a "com/example/entitlement/entitlement/Tally" "hashesAndCounts" "[I" .null) (F1 : Fld Z h0 a "com/example/entitlement/entitlement/Tally" "keys" "[Ljava/lang/Object;" .null) (F2 : Fld Z h0 a "com/example/entitlement/entitlement/Tally" "shift" "I" (.int 0)) (F3 : Fld Z h0 a "com/example/entitlement/entitlement/Tally" "size" "I" (.int 0)) (ga : n0 ≤ a) (ba : B ≤ a) (bB : B ≤ h0.size) :
    MetFree l mN18 (head1 (Jvm.Cond.code mN18 cD20 1 none :: ws) ({ frames := 1, cells := 2, slots := 6, locals := 12 } : Room)) (fun a_ U => a_ = #[(.ref a)] ∧ Z.Warmed39 U.vm ∧ U.heap = h0) (fun _ _ _ _ _ => True) (fun _ U o U' => ∃ v L, o = .returned v ∧ QTI Z B a h0 n0 v U'.heap L ∧ FrameEnd U o U' L ({ frames := 1, cells := 2, slots := 6, locals := 12 } : Room).cells ({ frames := 1, cells := 2, slots := 6, locals := 12 } : Room).slots) := by
  refine MetFree.of_bodySF (plainFor_of_name pn_5) hisR ?_
  intro p e s m args below meth c s₁ Bd hml0 hP hK
  obtain ⟨rfl, hZ, hh⟩ := hP
  have hx := Bd.exec
  have hby := Bd.bytes
  have hml : c.maxLocals = 1 := hml0
  have hown : s.vm.findClass "com/example/entitlement/entitlement/Tally" = some m.cls := findClass_of_methodNamed Bd.named
  have hnm := (name_of_methodNamed Bd.named Bd.method).1
  have X0 : Stand p l e ({ frames := 1, cells := 2, slots := 6, locals := 12 } : Room) s m #[(.ref a)] below meth c s₁ [] 0 0 := Stand.of_body Bd
  have e0 : s₁.heap = h0 := by rw [← hh, Bd.state]; rfl
  have N0 := Fr.nil n0
  refine Goes.done ?_
  obtain ⟨W, hWd⟩ : ∃ W : State → Prop, W = EndW s below (QTI Z B a h0 n0) ({ frames := 1, cells := 2, slots := 6, locals := 12 } : Room).cells ({ frames := 1, cells := 2, slots := 6, locals := 12 } : Room).slots := ⟨_, rfl⟩
  rw [← hWd]
  have hef : entryFrame m #[(.ref a)] 1 = (mkF m 0 #[vR a] []) := by first | (simp [entryFrame, mkF, argsToLocals, Value.category]; done) | rfl
  rw [hef]
  refine Go s₁ (mkF m 1 #[vR a] [(.ref a)]) ?_ (fun t_ k_ => XS.aloadN X0.here hx rfl (hb hby d23_0) rfl rfl k_)
  obtain ⟨T1, X1, e1, st1⟩ := initO X0 hx hZ hown (wq hw 156 rfl) (wq hw 20 rfl) (wq hw 21 rfl) e0 (g := (mkF m 1 #[vR a] [(.ref a)])) rfl (by rw [hml]; rfl) rfl (hb hby d23_1) (by decide) (W := 0) (by show 2 * 0 + _ ≤ _; exact Nat.le_of_eq rfl) (by decide)
  refine Go T1 (mkF m 4 #[vR a] []) ?_ st1
  refine Go T1 (mkF m 5 #[vR a] [(.ref a)]) ?_ (fun t_ k_ => XS.aloadN X1.here hx rfl (hb hby d23_4) rfl rfl k_)
  refine Go T1 (mkF m 6 #[vR a] [(.int 4), (.ref a)]) ?_ (fun t_ k_ => XS.iconst X1.here hx rfl (hb hby d23_5) k_)
  obtain ⟨T2, h2, k2, X2, e2, E2, A2, st2⟩ := newP X1 hx hZ (wq hw 100 rfl) e1 (g := (mkF m 6 #[vR a] [(.int 4), (.ref a)])) rfl (hb hby d23_6) rfl (by decide) (cap := 4) (by decide) (by decide) (by decide) (by decide)
  obtain ⟨b2, gb2⟩ : ∃ z, z = h0.size := ⟨_, rfl⟩
  rw [← gb2] at A2 st2
  have V2 := Arv.new A2 (by decide)
  have Z2 : n0 ≤ h2.size := Nat.le_trans Z0 E2.1
  have g_b2 : n0 ≤ b2 := Nat.le_trans Z0 (Nat.le_of_eq gb2.symm)
  refine Go T2 (mkF m 8 #[vR a] [(.ref b2), (.ref a)]) ?_ st2
  have fx3 := F0.ext E2
  have fx4 := F1.ext E2
  have fx5 := F2.ext E2
  have fx6 := F3.ext E2
  have fx7 := E.ext E2
  have kp8 := (Keep.refl h0 [a]).ext E2
  have szh : h0.size ≤ b2 := Nat.le_of_eq gb2.symm
  obtain ⟨T9, h9, X9, e9, W9, st9⟩ := putF X2 hx hZ hown (host := "") (Or.inl (wq hw 157 rfl)) Via.refl e2 fx3 fx7 (Or.inl (wq hw 158 rfl)) (wq hw 151 rfl) (ty := (.array .int)) (by decide) rfl rfl (g := (mkF m 8 #[vR a] [(.ref b2), (.ref a)])) rfl rfl (hb hby d23_8)
  have N9 := Fr.snoc X9 N0 ga
  have Z9 : n0 ≤ h9.size := Nat.le_trans Z2 (Nat.le_of_eq W9.size.symm)
  refine Go T9 (mkF m 11 #[vR a] []) ?_ st9
  have fx10 := fx3.same W9
  have fx11 := fx4.other W9 (Or.inr (slot_ne (Or.inl (wq hw 161 rfl)) (Or.inl (wq hw 158 rfl)) (by decide) (t := (.array (.object "java/lang/Object"))) (t' := (.array .int)) (by decide) (by decide)))
  have fx12 := fx5.other W9 (Or.inr (slot_ne (Or.inl (wq hw 163 rfl)) (Or.inl (wq hw 158 rfl)) (by decide) (t := .int) (t' := (.array .int)) (by decide) (by decide)))
  have fx13 := fx6.other W9 (Or.inr (slot_ne (Or.inl (wq hw 183 rfl)) (Or.inl (wq hw 158 rfl)) (by decide) (t := .int) (t' := (.array .int)) (by decide) (by decide)))
  have fx14 := fx7.wr W9
  have fx15 := V2.other W9 (Ne.symm (Nat.ne_of_lt (Nat.lt_of_lt_of_le E.lt (Nat.le_of_eq gb2.symm))))
  have kp16 := kp8.wr W9 (Or.inl (by simp))
  refine Go T9 (mkF m 12 #[vR a] [(.ref a)]) ?_ (fun t_ k_ => XS.aloadN X9.here hx rfl (hb hby d23_11) rfl rfl k_)
  refine Go T9 (mkF m 13 #[vR a] [(.int 2), (.ref a)]) ?_ (fun t_ k_ => XS.iconst X9.here hx rfl (hb hby d23_12) k_)
  obtain ⟨T17, h17, k17, X17, e17, E17, A17, O17, st17⟩ := newR X9 hx hZ hown (wq hw 159 rfl) (wq hw 27 rfl) e9 (g := (mkF m 13 #[vR a] [(.int 2), (.ref a)])) rfl (hb hby d23_13) rfl (by decide) (cap := 2) (by decide) (by decide) (by decide) (by decide)
  obtain ⟨b17, gb17⟩ : ∃ z, z = h9.size := ⟨_, rfl⟩
  rw [← gb17] at A17 st17
  have V17 := Arv.new A17 (by decide)
  have Z17 : n0 ≤ h17.size := Nat.le_trans Z9 E17.1
  have g_b17 : n0 ≤ b17 := Nat.le_trans Z9 (Nat.le_of_eq gb17.symm)
  refine Go T17 (mkF m 16 #[vR a] [(.ref b17), (.ref a)]) ?_ st17
  have fx18 := fx10.ext E17
  have fx19 := fx11.ext E17
  have fx20 := fx12.ext E17
  have fx21 := fx13.ext E17
  have fx22 := fx14.ext E17
  have fx23 := fx15.ext E17
  have kp24 := kp16.ext E17
  have szk : h0.size ≤ b17 := Nat.le_trans kp16.1 (Nat.le_of_eq gb17.symm)
  obtain ⟨T25, h25, X25, e25, W25, st25⟩ := putF X17 hx hZ hown (host := "") (Or.inl (wq hw 160 rfl)) Via.refl e17 fx19 fx22 (Or.inl (wq hw 161 rfl)) (wq hw 151 rfl) (ty := (.array (.object "java/lang/Object"))) (by decide) rfl rfl (g := (mkF m 16 #[vR a] [(.ref b17), (.ref a)])) rfl rfl (hb hby d23_16)
  have N25 := Fr.snoc X25 N9 ga
  have Z25 : n0 ≤ h25.size := Nat.le_trans Z17 (Nat.le_of_eq W25.size.symm)
  refine Go T25 (mkF m 19 #[vR a] []) ?_ st25
  have fx26 := fx18.other W25 (Or.inr (slot_ne (Or.inl (wq hw 158 rfl)) (Or.inl (wq hw 161 rfl)) (by decide) (t := (.array .int)) (t' := (.array (.object "java/lang/Object"))) (by decide) (by decide)))
  have fx27 := fx19.same W25
  have fx28 := fx20.other W25 (Or.inr (slot_ne (Or.inl (wq hw 163 rfl)) (Or.inl (wq hw 161 rfl)) (by decide) (t := .int) (t' := (.array (.object "java/lang/Object"))) (by decide) (by decide)))
  have fx29 := fx21.other W25 (Or.inr (slot_ne (Or.inl (wq hw 183 rfl)) (Or.inl (wq hw 161 rfl)) (by decide) (t := .int) (t' := (.array (.object "java/lang/Object"))) (by decide) (by decide)))
  have fx30 := fx22.wr W25
  have fx31 := fx23.other W25 (Ne.symm (Nat.ne_of_lt (Nat.lt_of_lt_of_le E.lt (Nat.le_of_eq gb2.symm))))
  have fx32 := V17.other W25 (Ne.symm (Nat.ne_of_lt (Nat.lt_of_lt_of_le fx14.lt (Nat.le_of_eq gb17.symm))))
  have kp33 := kp24.wr W25 (Or.inl (by simp))
  refine Go T25 (mkF m 20 #[vR a] [(.ref a)]) ?_ (fun t_ k_ => XS.aloadN X25.here hx rfl (hb hby d23_19) rfl rfl k_)
  refine Go T25 (mkF m 22 #[vR a] [(.int 31), (.ref a)]) ?_ (fun t_ k_ => XS.bipush X25.here hx rfl (hb hby d23_20) k_)
  obtain ⟨T34, h34, X34, e34, W34, st34⟩ := putF X25 hx hZ hown (host := "") (Or.inl (wq hw 162 rfl)) Via.refl e25 fx28 fx30 (Or.inl (wq hw 163 rfl)) (wq hw 151 rfl) (ty := .int) (by decide) rfl rfl (g := (mkF m 22 #[vR a] [(.int 31), (.ref a)])) rfl rfl (hb hby d23_22)
  have N34 := Fr.snoc X34 N25 ga
  have Z34 : n0 ≤ h34.size := Nat.le_trans Z25 (Nat.le_of_eq W34.size.symm)
  refine Go T34 (mkF m 25 #[vR a] []) ?_ st34
  have fx35 := fx26.other W34 (Or.inr (slot_ne (Or.inl (wq hw 158 rfl)) (Or.inl (wq hw 163 rfl)) (by decide) (t := (.array .int)) (t' := .int) (by decide) (by decide)))
  have fx36 := fx27.other W34 (Or.inr (slot_ne (Or.inl (wq hw 161 rfl)) (Or.inl (wq hw 163 rfl)) (by decide) (t := (.array (.object "java/lang/Object"))) (t' := .int) (by decide) (by decide)))
  have fx37 := fx28.same W34
  have fx38 := fx29.other W34 (Or.inr (slot_ne (Or.inl (wq hw 183 rfl)) (Or.inl (wq hw 163 rfl)) (by decide) (t := .int) (t' := .int) (by decide) (by decide)))
  have fx39 := fx30.wr W34
  have fx40 := fx31.other W34 (Ne.symm (Nat.ne_of_lt (Nat.lt_of_lt_of_le E.lt (Nat.le_of_eq gb2.symm))))
  have fx41 := fx32.other W34 (Ne.symm (Nat.ne_of_lt (Nat.lt_of_lt_of_le fx14.lt (Nat.le_of_eq gb17.symm))))
  have kp42 := kp33.wr W34 (Or.inl (by simp))
  rw [hWd]
  exact Goes.retn X34 (v := none) (fun fs hr => X34.returnOut hx Bd.returns (hb hby d23_25) hr) (fun _ => rfl) Bd.notSynchronized (by decide) (by decide) (by rw [e34]; exact ⟨rfl, N34, kp42, b2, b17, k2, k17, szh, szk, fx39, fx35, fx36, fx37, fx38, fx40, fx41, O17, (Nat.ne_of_lt (Nat.lt_of_lt_of_le fx15.lt (Nat.le_of_eq gb17.symm))), ba, Nat.le_trans bB szh, Nat.le_trans bB szk⟩)
def QAH (Z : State) (B : Nat) (t tt i ti r tr ku ko : Addr) (kt ki kr : ClassId) (ct ci cr w2 : Int32) (zc : Int32) (b : Addr) (kb : ClassId) (h0 : Heap) (n0 : Nat) (v : Option Value) (h : Heap) (L : List Loc) : Prop := v = some (.int (own_sh ct ci cr)) ∧ Fr n0 L ∧ Keep h0 h [t, i, r] ∧ KA Z h t tt i ti r tr ku ko kt ki kr ct ci cr w2
set_option maxRecDepth 65536 in
set_option maxHeartbeats 40000000 in
theorem rmAH (l : Launch) (Z : State) (a0 : Array Value) (hw : ∀ d ∈ tables_1, d.before a0 Z = true) (ws : List Jvm.Cond) (B : Nat) (t tt i ti r tr ku ko : Addr) (kt ki kr : ClassId) (ct ci cr w2 : Int32) (zc : Int32) (b : Addr) (kb : ClassId) (h0 : Heap) (n0 : Nat) (Z0 : n0 ≤ h0.size) (KY : KA Z h0 t tt i ti r tr ku ko kt ki kr ct ci cr w2) (KC : KD n0 B t tt i ti r tr ku ko ct ci cr) (gB : n0 ≤ B) (bB : B ≤ h0.size) (CS : Sta Z Z.heap "java/lang/String" "COMPACT_STRINGS" "Z" (.int zc)) (hzc : ¬ zc = (0 : Int32)) (X0_ : Old Z n0 h0) (VB : Arv Z h0 b kb (.object "java/lang/Object") (3 : Int32) [.ref t, .ref i, .ref r] .null) (hbB : B ≤ b) :
    MetFree l mN19 (head1 (Jvm.Cond.code mN19 cD31 6 (some .int) :: ws) ({ frames := 2, cells := 0, slots := 0, locals := 26 } : Room)) (fun a_ U => a_ = #[(.ref b)] ∧ Z.Warmed39 U.vm ∧ U.heap = h0) (fun _ _ _ _ _ => True) (fun _ U o U' => ∃ v L, o = .returned v ∧ QAH Z B t tt i ti r tr ku ko kt ki kr ct ci cr w2 zc b kb h0 n0 v U'.heap L ∧ FrameEnd U o U' L ({ frames := 2, cells := 0, slots := 0, locals := 26 } : Room).cells ({ frames := 2, cells := 0, slots := 0, locals := 26 } : Room).slots) := by
  refine MetFree.of_bodySF (plainFor_of_name pn_6) hisR ?_
  intro p e s m args below meth c s₁ Bd hml0 hP hK
  obtain ⟨rfl, hZ, hh⟩ := hP
  have hx := Bd.exec
  have hby := Bd.bytes
  have hml : c.maxLocals = 6 := hml0
  have hown : s.vm.findClass "java/util/Arrays" = some m.cls := findClass_of_methodNamed Bd.named
  have hnm := (name_of_methodNamed Bd.named Bd.method).1
  have X0 : Stand p l e ({ frames := 2, cells := 0, slots := 0, locals := 26 } : Room) s m #[(.ref b)] below meth c s₁ [] 0 0 := Stand.of_body Bd
  have e0 : s₁.heap = h0 := by rw [← hh, Bd.state]; rfl
  have N0 := Fr.nil n0
  refine Goes.done ?_
  obtain ⟨W, hWd⟩ : ∃ W : State → Prop, W = EndW s below (QAH Z B t tt i ti r tr ku ko kt ki kr ct ci cr w2 zc b kb h0 n0) ({ frames := 2, cells := 0, slots := 0, locals := 26 } : Room).cells ({ frames := 2, cells := 0, slots := 0, locals := 26 } : Room).slots := ⟨_, rfl⟩
  rw [← hWd]
  have hef : entryFrame m #[(.ref b)] 6 = (mkF m 0 #[vR b, .unset, .unset, .unset, .unset, .unset] []) := by first | (simp [entryFrame, mkF, argsToLocals, Value.category]; done) | rfl
  rw [hef]
  refine Go s₁ (mkF m 1 #[vR b, .unset, .unset, .unset, .unset, .unset] [(.ref b)]) ?_ (fun t_ k_ => XS.aloadN X0.here hx rfl (hb hby d34_0) rfl rfl k_)
  refine Go s₁ (mkF m 6 #[vR b, .unset, .unset, .unset, .unset, .unset] []) ?_ (fun t_ k_ => XS.ifnonnullYes X0.here hx rfl (pc0 := 1) (pc' := 6) rfl (hb hby d34_1) rfl (by decide) (by decide) k_)
  refine Go s₁ (mkF m 7 #[vR b, .unset, .unset, .unset, .unset, .unset] [(.int 1)]) ?_ (fun t_ k_ => XS.iconst X0.here hx rfl (hb hby d34_6) k_)
  refine Go s₁ (mkF m 8 #[vR b, vI 1, .unset, .unset, .unset, .unset] []) ?_ (fun t_ k_ => XS.istoreN X0.here hx rfl (hb hby d34_7) rfl (l' := #[vR b, vI 1, .unset, .unset, .unset, .unset]) rfl k_)
  refine Go s₁ (mkF m 9 #[vR b, vI 1, .unset, .unset, .unset, .unset] [(.ref b)]) ?_ (fun t_ k_ => XS.aloadN X0.here hx rfl (hb hby d34_8) rfl rfl k_)
  refine Go s₁ (mkF m 10 #[vR b, vI 1, vR b, .unset, .unset, .unset] []) ?_ (fun t_ k_ => XS.astoreN X0.here hx rfl (hb hby d34_9) rfl rfl (l' := #[vR b, vI 1, vR b, .unset, .unset, .unset]) rfl k_)
  refine Go s₁ (mkF m 11 #[vR b, vI 1, vR b, .unset, .unset, .unset] [(.ref b)]) ?_ (fun t_ k_ => XS.aloadN X0.here hx rfl (hb hby d34_10) rfl rfl k_)
  obtain ⟨cB, AB, -, SB, MB, HB_, -⟩ := id VB
  refine Go s₁ (mkF m 12 #[vR b, vI 1, vR b, .unset, .unset, .unset] [(.int cB.slots.size.toInt32)]) ?_ (X0.arraylength hx (by rw [e0]; exact AB.1) (State.isArrayOf_alike hZ.alike AB.2.1) (g := (mkF m 11 #[vR b, vI 1, vR b, .unset, .unset, .unset] [(.ref b)])) rfl rfl (hb hby d34_11))
  rw [len_of SB MB]
  refine Go s₁ (mkF m 13 #[vR b, vI 1, vR b, vI 3, .unset, .unset] []) ?_ (fun t_ k_ => XS.istoreN X0.here hx rfl (hb hby d34_12) rfl (l' := #[vR b, vI 1, vR b, vI 3, .unset, .unset]) rfl k_)
  refine Go s₁ (mkF m 14 #[vR b, vI 1, vR b, vI 3, .unset, .unset] [(.int 0)]) ?_ (fun t_ k_ => XS.iconst X0.here hx rfl (hb hby d34_13) k_)
  refine Go s₁ (mkF m 16 #[vR b, vI 1, vR b, vI 3, vI 0, .unset] []) ?_ (fun t_ k_ => XS.istore X0.here hx rfl (hb hby d34_14) rfl (l' := #[vR b, vI 1, vR b, vI 3, vI 0, .unset]) rfl k_)
  refine Go s₁ (mkF m 18 #[vR b, vI 1, vR b, vI 3, vI 0, .unset] [(.int 0)]) ?_ (fun t_ k_ => XS.iload X0.here hx rfl (hb hby d34_16) rfl k_)
  refine Go s₁ (mkF m 19 #[vR b, vI 1, vR b, vI 3, vI 0, .unset] [(.int 3), (.int 0)]) ?_ (fun t_ k_ => XS.iloadN X0.here hx rfl (hb hby d34_18) rfl k_)
  refine Go s₁ (mkF m 22 #[vR b, vI 1, vR b, vI 3, vI 0, .unset] []) ?_ (fun t_ k_ => XS.icmpNo X0.here hx rfl (hb hby d34_19) rfl (by decide) k_)
  refine Go s₁ (mkF m 23 #[vR b, vI 1, vR b, vI 3, vI 0, .unset] [(.ref b)]) ?_ (fun t_ k_ => XS.aloadN X0.here hx rfl (hb hby d34_22) rfl rfl k_)
  refine Go s₁ (mkF m 25 #[vR b, vI 1, vR b, vI 3, vI 0, .unset] [(.int 0), (.ref b)]) ?_ (fun t_ k_ => XS.iload X0.here hx rfl (hb hby d34_23) rfl k_)
  obtain ⟨cB1, AB1, -, SB1, MB1, HB1, -⟩ := id VB
  refine Go s₁ (mkF m 26 #[vR b, vI 1, vR b, vI 3, vI 0, .unset] [(.ref t)]) ?_ (X0.aaload hx (j := (0 : Int32)) (v := (.ref t)) (by rw [e0]; exact AB1.1) (State.isArrayOf_alike hZ.alike AB1.2.1) rfl AB1.2.2 (inb_of SB1 ⟨by decide, by decide⟩) (by have q := HB1 0 (by rw [SB1]; decide); exact q) (g := (mkF m 25 #[vR b, vI 1, vR b, vI 3, vI 0, .unset] [(.int 0), (.ref b)])) rfl rfl (hb hby d34_25))
  refine Go s₁ (mkF m 28 #[vR b, vI 1, vR b, vI 3, vI 0, vR t] []) ?_ (fun t_ k_ => XS.astore X0.here hx rfl (hb hby d34_26) rfl rfl (l' := #[vR b, vI 1, vR b, vI 3, vI 0, vR t]) rfl k_)
  refine Go s₁ (mkF m 30 #[vR b, vI 1, vR b, vI 3, vI 0, vR t] [(.int 31)]) ?_ (fun t_ k_ => XS.bipush X0.here hx rfl (hb hby d34_28) k_)
  refine Go s₁ (mkF m 31 #[vR b, vI 1, vR b, vI 3, vI 0, vR t] [(.int 1), (.int 31)]) ?_ (fun t_ k_ => XS.iloadN X0.here hx rfl (hb hby d34_30) rfl k_)
  refine Go s₁ (mkF m 32 #[vR b, vI 1, vR b, vI 3, vI 0, vR t] [(.int 31)]) ?_ (fun t_ k_ => XS.imul X0.here hx rfl (hb hby d34_31) rfl k_)
  refine Go s₁ (mkF m 34 #[vR b, vI 1, vR b, vI 3, vI 0, vR t] [(.ref t), (.int 31)]) ?_ (fun t_ k_ => XS.aload X0.here hx rfl (hb hby d34_32) rfl rfl k_)
  refine Go s₁ (mkF m 41 #[vR b, vI 1, vR b, vI 3, vI 0, vR t] [(.int 31)]) ?_ (fun t_ k_ => XS.ifnonnullYes X0.here hx rfl (pc0 := 34) (pc' := 41) rfl (hb hby d34_34) rfl (by decide) (by decide) k_)
  refine Go s₁ (mkF m 43 #[vR b, vI 1, vR b, vI 3, vI 0, vR t] [(.ref t), (.int 31)]) ?_ (fun t_ k_ => XS.aload X0.here hx rfl (hb hby d34_41) rfl rfl k_)
  obtain ⟨cq2, kq2, q2a, q2b, q2c⟩ := isOf hZ e0 KY.s1.exa
  obtain ⟨_, _, ⟨T2, Lq_2, kq_2, nq_2⟩, -, X2, ⟨Lc2, hQ2, l2, y2, z2⟩, st2⟩ := X0.virtualBack hx (y := mN20) (z := mN9) hown (mvT hZ (wq hw 218 rfl)) (mvT hZ (wq hw 170 rfl)) (own_nfO hZ (wq hw 138 rfl) rfl) (mvT hZ (wq hw 172 rfl)) (mvT hZ (wq hw 82 rfl)) (by decide) (backOf (W := 1) (rmSH l Z a0 hw [] t tt kt ct zc h0 n0 Z0 KY.s1 KC.g1 KC.b1 KC.b2 CS hzc X0_) hZ (wq hw 84 rfl) (wq hw 2 rfl) (by decide) (by decide)) q2a q2c (g := (mkF m 43 #[vR b, vI 1, vR b, vI 3, vI 0, vR t] [(.ref t), (.int 31)])) rfl (by rw [hml]; rfl) (Steps.refl _) (argsL := []) (rest := [(.int 31)]) (lenOf pd_9 rfl) rfl (by show 2 * 0 + _ ≤ _; exact Nat.le_of_eq rfl) (hb hby d34_43) (fun _ _ => ⟨rfl, e0, (by decide : 0 + 0 ≤ _), (by decide : 0 + 0 ≤ _)⟩)
  dsimp only [Pt.U, Pt.locs, Pt.cells, Pt.slots] at X2 l2 y2 z2 st2 hQ2
  rw [l2, y2, z2] at X2
  change Stand p l e _ _ m _ below meth c T2 _ 0 0 at X2
  obtain ⟨rfl, N2q, K2, SN2⟩ := hQ2
  have N2 := Fr.app N0 N2q
  refine Go T2 (mkF m 46 #[vR b, vI 1, vR b, vI 3, vI 0, vR t] [(.int ct), (.int 31)]) ?_ (fun t => st2.trans)
  have Zc2 : n0 ≤ T2.heap.size := Nat.le_trans Z0 K2.1
  have ky2 := KY.put1 KC K2 SN2
  have xo2 : Old Z n0 T2.heap := X0_.keep K2 (allS KC.g1 all0)
  have kp3 := (Keep.refl h0 [t, i, r]).trans K2 (allS (Or.inl (by simp)) all0)
  have vb2 := VB.keep K2 (own_nhi hbB (own_sfC KC.l1 (fun y hy => absurd hy List.not_mem_nil)))
  refine Go T2 (mkF m 47 #[vR b, vI 1, vR b, vI 3, vI 0, vR t] [(.int ((31 : Int32) + ct))]) ?_ (fun t_ k_ => XS.iadd X2.here hx rfl (hb hby d34_46) rfl k_)
  refine Go T2 (mkF m 48 #[vR b, vI ((31 : Int32) + ct), vR b, vI 3, vI 0, vR t] []) ?_ (fun t_ k_ => XS.istoreN X2.here hx rfl (hb hby d34_47) rfl (l' := #[vR b, vI ((31 : Int32) + ct), vR b, vI 3, vI 0, vR t]) rfl k_)
  refine Go T2 (mkF m 51 #[vR b, vI ((31 : Int32) + ct), vR b, vI 3, vI 1, vR t] []) ?_ (fun t_ k_ => XS.iinc X2.here hx rfl (hb hby d34_48) rfl (l' := #[vR b, vI ((31 : Int32) + ct), vR b, vI 3, vI 1, vR t]) rfl k_)
  refine Go T2 (mkF m 16 #[vR b, vI ((31 : Int32) + ct), vR b, vI 3, vI 1, vR t] []) ?_ (fun t_ k_ => XS.goto X2.here hx rfl (pc0 := 51) (pc' := 16) rfl (hb hby d34_51) (by decide) (by decide) k_)
  refine Go T2 (mkF m 18 #[vR b, vI ((31 : Int32) + ct), vR b, vI 3, vI 1, vR t] [(.int 1)]) ?_ (fun t_ k_ => XS.iload X2.here hx rfl (hb hby d34_16) rfl k_)
  refine Go T2 (mkF m 19 #[vR b, vI ((31 : Int32) + ct), vR b, vI 3, vI 1, vR t] [(.int 3), (.int 1)]) ?_ (fun t_ k_ => XS.iloadN X2.here hx rfl (hb hby d34_18) rfl k_)
  refine Go T2 (mkF m 22 #[vR b, vI ((31 : Int32) + ct), vR b, vI 3, vI 1, vR t] []) ?_ (fun t_ k_ => XS.icmpNo X2.here hx rfl (hb hby d34_19) rfl (by decide) k_)
  refine Go T2 (mkF m 23 #[vR b, vI ((31 : Int32) + ct), vR b, vI 3, vI 1, vR t] [(.ref b)]) ?_ (fun t_ k_ => XS.aloadN X2.here hx rfl (hb hby d34_22) rfl rfl k_)
  refine Go T2 (mkF m 25 #[vR b, vI ((31 : Int32) + ct), vR b, vI 3, vI 1, vR t] [(.int 1), (.ref b)]) ?_ (fun t_ k_ => XS.iload X2.here hx rfl (hb hby d34_23) rfl k_)
  obtain ⟨cB4, AB4, -, SB4, MB4, HB4, -⟩ := id vb2
  refine Go T2 (mkF m 26 #[vR b, vI ((31 : Int32) + ct), vR b, vI 3, vI 1, vR t] [(.ref i)]) ?_ (X2.aaload hx (j := (1 : Int32)) (v := (.ref i)) AB4.1 (State.isArrayOf_alike hZ.alike AB4.2.1) rfl AB4.2.2 (inb_of SB4 ⟨by decide, by decide⟩) (by have q := HB4 1 (by rw [SB4]; decide); exact q) (g := (mkF m 25 #[vR b, vI ((31 : Int32) + ct), vR b, vI 3, vI 1, vR t] [(.int 1), (.ref b)])) rfl rfl (hb hby d34_25))
  refine Go T2 (mkF m 28 #[vR b, vI ((31 : Int32) + ct), vR b, vI 3, vI 1, vR i] []) ?_ (fun t_ k_ => XS.astore X2.here hx rfl (hb hby d34_26) rfl rfl (l' := #[vR b, vI ((31 : Int32) + ct), vR b, vI 3, vI 1, vR i]) rfl k_)
  refine Go T2 (mkF m 30 #[vR b, vI ((31 : Int32) + ct), vR b, vI 3, vI 1, vR i] [(.int 31)]) ?_ (fun t_ k_ => XS.bipush X2.here hx rfl (hb hby d34_28) k_)
  refine Go T2 (mkF m 31 #[vR b, vI ((31 : Int32) + ct), vR b, vI 3, vI 1, vR i] [(.int ((31 : Int32) + ct)), (.int 31)]) ?_ (fun t_ k_ => XS.iloadN X2.here hx rfl (hb hby d34_30) rfl k_)
  refine Go T2 (mkF m 32 #[vR b, vI ((31 : Int32) + ct), vR b, vI 3, vI 1, vR i] [(.int ((31 : Int32) * ((31 : Int32) + ct)))]) ?_ (fun t_ k_ => XS.imul X2.here hx rfl (hb hby d34_31) rfl k_)
  refine Go T2 (mkF m 34 #[vR b, vI ((31 : Int32) + ct), vR b, vI 3, vI 1, vR i] [(.ref i), (.int ((31 : Int32) * ((31 : Int32) + ct)))]) ?_ (fun t_ k_ => XS.aload X2.here hx rfl (hb hby d34_32) rfl rfl k_)
  refine Go T2 (mkF m 41 #[vR b, vI ((31 : Int32) + ct), vR b, vI 3, vI 1, vR i] [(.int ((31 : Int32) * ((31 : Int32) + ct)))]) ?_ (fun t_ k_ => XS.ifnonnullYes X2.here hx rfl (pc0 := 34) (pc' := 41) rfl (hb hby d34_34) rfl (by decide) (by decide) k_)
  refine Go T2 (mkF m 43 #[vR b, vI ((31 : Int32) + ct), vR b, vI 3, vI 1, vR i] [(.ref i), (.int ((31 : Int32) * ((31 : Int32) + ct)))]) ?_ (fun t_ k_ => XS.aload X2.here hx rfl (hb hby d34_41) rfl rfl k_)
  obtain ⟨cq5, kq5, q5a, q5b, q5c⟩ := isOf hZ rfl ky2.s2.exa
  obtain ⟨_, _, ⟨T5, Lq_5, kq_5, nq_5⟩, -, X5, ⟨Lc5, hQ5, l5, y5, z5⟩, st5⟩ := X2.virtualBack hx (y := mN20) (z := mN9) hown (mvT hZ (wq hw 218 rfl)) (mvT hZ (wq hw 170 rfl)) (own_nfO hZ (wq hw 138 rfl) rfl) (mvT hZ (wq hw 172 rfl)) (mvT hZ (wq hw 82 rfl)) (by decide) (backOf (W := 1) (rmSH l Z a0 hw [] i ti ki ci zc T2.heap n0 Zc2 ky2.s2 KC.g2 KC.b3 KC.b4 CS hzc xo2) hZ (wq hw 84 rfl) (wq hw 2 rfl) (by decide) (by decide)) q5a q5c (g := (mkF m 43 #[vR b, vI ((31 : Int32) + ct), vR b, vI 3, vI 1, vR i] [(.ref i), (.int ((31 : Int32) * ((31 : Int32) + ct)))])) rfl (by rw [hml]; rfl) (Steps.refl _) (argsL := []) (rest := [(.int ((31 : Int32) * ((31 : Int32) + ct)))]) (lenOf pd_9 rfl) rfl (by show 2 * 0 + _ ≤ _; exact Nat.le_of_eq rfl) (hb hby d34_43) (fun _ _ => ⟨rfl, rfl, (by decide : 0 + 0 ≤ _), (by decide : 0 + 0 ≤ _)⟩)
  dsimp only [Pt.U, Pt.locs, Pt.cells, Pt.slots] at X5 l5 y5 z5 st5 hQ5
  rw [l5, y5, z5] at X5
  change Stand p l e _ _ m _ below meth c T5 _ 0 0 at X5
  obtain ⟨rfl, N5q, K5, SN5⟩ := hQ5
  have N5 := Fr.app N2 N5q
  refine Go T5 (mkF m 46 #[vR b, vI ((31 : Int32) + ct), vR b, vI 3, vI 1, vR i] [(.int ci), (.int ((31 : Int32) * ((31 : Int32) + ct)))]) ?_ (fun t => st5.trans)
  have Zc5 : n0 ≤ T5.heap.size := Nat.le_trans Zc2 K5.1
  have ky5 := ky2.put2 KC K5 SN5
  have xo5 : Old Z n0 T5.heap := xo2.keep K5 (allS KC.g2 all0)
  have kp6 := kp3.trans K5 (allS (Or.inl (by simp)) all0)
  have vb5 := vb2.keep K5 (own_nhi hbB (own_sfC KC.l3 (fun y hy => absurd hy List.not_mem_nil)))
  refine Go T5 (mkF m 47 #[vR b, vI ((31 : Int32) + ct), vR b, vI 3, vI 1, vR i] [(.int (((31 : Int32) * ((31 : Int32) + ct)) + ci))]) ?_ (fun t_ k_ => XS.iadd X5.here hx rfl (hb hby d34_46) rfl k_)
  refine Go T5 (mkF m 48 #[vR b, vI (((31 : Int32) * ((31 : Int32) + ct)) + ci), vR b, vI 3, vI 1, vR i] []) ?_ (fun t_ k_ => XS.istoreN X5.here hx rfl (hb hby d34_47) rfl (l' := #[vR b, vI (((31 : Int32) * ((31 : Int32) + ct)) + ci), vR b, vI 3, vI 1, vR i]) rfl k_)
  refine Go T5 (mkF m 51 #[vR b, vI (((31 : Int32) * ((31 : Int32) + ct)) + ci), vR b, vI 3, vI 2, vR i] []) ?_ (fun t_ k_ => XS.iinc X5.here hx rfl (hb hby d34_48) rfl (l' := #[vR b, vI (((31 : Int32) * ((31 : Int32) + ct)) + ci), vR b, vI 3, vI 2, vR i]) rfl k_)
  refine Go T5 (mkF m 16 #[vR b, vI (((31 : Int32) * ((31 : Int32) + ct)) + ci), vR b, vI 3, vI 2, vR i] []) ?_ (fun t_ k_ => XS.goto X5.here hx rfl (pc0 := 51) (pc' := 16) rfl (hb hby d34_51) (by decide) (by decide) k_)
  refine Go T5 (mkF m 18 #[vR b, vI (((31 : Int32) * ((31 : Int32) + ct)) + ci), vR b, vI 3, vI 2, vR i] [(.int 2)]) ?_ (fun t_ k_ => XS.iload X5.here hx rfl (hb hby d34_16) rfl k_)
  refine Go T5 (mkF m 19 #[vR b, vI (((31 : Int32) * ((31 : Int32) + ct)) + ci), vR b, vI 3, vI 2, vR i] [(.int 3), (.int 2)]) ?_ (fun t_ k_ => XS.iloadN X5.here hx rfl (hb hby d34_18) rfl k_)
  refine Go T5 (mkF m 22 #[vR b, vI (((31 : Int32) * ((31 : Int32) + ct)) + ci), vR b, vI 3, vI 2, vR i] []) ?_ (fun t_ k_ => XS.icmpNo X5.here hx rfl (hb hby d34_19) rfl (by decide) k_)
  refine Go T5 (mkF m 23 #[vR b, vI (((31 : Int32) * ((31 : Int32) + ct)) + ci), vR b, vI 3, vI 2, vR i] [(.ref b)]) ?_ (fun t_ k_ => XS.aloadN X5.here hx rfl (hb hby d34_22) rfl rfl k_)
  refine Go T5 (mkF m 25 #[vR b, vI (((31 : Int32) * ((31 : Int32) + ct)) + ci), vR b, vI 3, vI 2, vR i] [(.int 2), (.ref b)]) ?_ (fun t_ k_ => XS.iload X5.here hx rfl (hb hby d34_23) rfl k_)
  obtain ⟨cB7, AB7, -, SB7, MB7, HB7, -⟩ := id vb5
  refine Go T5 (mkF m 26 #[vR b, vI (((31 : Int32) * ((31 : Int32) + ct)) + ci), vR b, vI 3, vI 2, vR i] [(.ref r)]) ?_ (X5.aaload hx (j := (2 : Int32)) (v := (.ref r)) AB7.1 (State.isArrayOf_alike hZ.alike AB7.2.1) rfl AB7.2.2 (inb_of SB7 ⟨by decide, by decide⟩) (by have q := HB7 2 (by rw [SB7]; decide); exact q) (g := (mkF m 25 #[vR b, vI (((31 : Int32) * ((31 : Int32) + ct)) + ci), vR b, vI 3, vI 2, vR i] [(.int 2), (.ref b)])) rfl rfl (hb hby d34_25))
  refine Go T5 (mkF m 28 #[vR b, vI (((31 : Int32) * ((31 : Int32) + ct)) + ci), vR b, vI 3, vI 2, vR r] []) ?_ (fun t_ k_ => XS.astore X5.here hx rfl (hb hby d34_26) rfl rfl (l' := #[vR b, vI (((31 : Int32) * ((31 : Int32) + ct)) + ci), vR b, vI 3, vI 2, vR r]) rfl k_)
  refine Go T5 (mkF m 30 #[vR b, vI (((31 : Int32) * ((31 : Int32) + ct)) + ci), vR b, vI 3, vI 2, vR r] [(.int 31)]) ?_ (fun t_ k_ => XS.bipush X5.here hx rfl (hb hby d34_28) k_)
  refine Go T5 (mkF m 31 #[vR b, vI (((31 : Int32) * ((31 : Int32) + ct)) + ci), vR b, vI 3, vI 2, vR r] [(.int (((31 : Int32) * ((31 : Int32) + ct)) + ci)), (.int 31)]) ?_ (fun t_ k_ => XS.iloadN X5.here hx rfl (hb hby d34_30) rfl k_)
  refine Go T5 (mkF m 32 #[vR b, vI (((31 : Int32) * ((31 : Int32) + ct)) + ci), vR b, vI 3, vI 2, vR r] [(.int ((31 : Int32) * (((31 : Int32) * ((31 : Int32) + ct)) + ci)))]) ?_ (fun t_ k_ => XS.imul X5.here hx rfl (hb hby d34_31) rfl k_)
  refine Go T5 (mkF m 34 #[vR b, vI (((31 : Int32) * ((31 : Int32) + ct)) + ci), vR b, vI 3, vI 2, vR r] [(.ref r), (.int ((31 : Int32) * (((31 : Int32) * ((31 : Int32) + ct)) + ci)))]) ?_ (fun t_ k_ => XS.aload X5.here hx rfl (hb hby d34_32) rfl rfl k_)
  refine Go T5 (mkF m 41 #[vR b, vI (((31 : Int32) * ((31 : Int32) + ct)) + ci), vR b, vI 3, vI 2, vR r] [(.int ((31 : Int32) * (((31 : Int32) * ((31 : Int32) + ct)) + ci)))]) ?_ (fun t_ k_ => XS.ifnonnullYes X5.here hx rfl (pc0 := 34) (pc' := 41) rfl (hb hby d34_34) rfl (by decide) (by decide) k_)
  refine Go T5 (mkF m 43 #[vR b, vI (((31 : Int32) * ((31 : Int32) + ct)) + ci), vR b, vI 3, vI 2, vR r] [(.ref r), (.int ((31 : Int32) * (((31 : Int32) * ((31 : Int32) + ct)) + ci)))]) ?_ (fun t_ k_ => XS.aload X5.here hx rfl (hb hby d34_41) rfl rfl k_)
  obtain ⟨cq8, kq8, q8a, q8b, q8c⟩ := isOf hZ rfl ky5.s3.exa
  obtain ⟨_, _, ⟨T8, Lq_8, kq_8, nq_8⟩, -, X8, ⟨Lc8, hQ8, l8, y8, z8⟩, st8⟩ := X5.virtualBack hx (y := mN20) (z := mN9) hown (mvT hZ (wq hw 218 rfl)) (mvT hZ (wq hw 170 rfl)) (own_nfO hZ (wq hw 138 rfl) rfl) (mvT hZ (wq hw 172 rfl)) (mvT hZ (wq hw 82 rfl)) (by decide) (backOf (W := 1) (rmSH l Z a0 hw [] r tr kr cr zc T5.heap n0 Zc5 ky5.s3 KC.g3 KC.b5 KC.b6 CS hzc xo5) hZ (wq hw 84 rfl) (wq hw 2 rfl) (by decide) (by decide)) q8a q8c (g := (mkF m 43 #[vR b, vI (((31 : Int32) * ((31 : Int32) + ct)) + ci), vR b, vI 3, vI 2, vR r] [(.ref r), (.int ((31 : Int32) * (((31 : Int32) * ((31 : Int32) + ct)) + ci)))])) rfl (by rw [hml]; rfl) (Steps.refl _) (argsL := []) (rest := [(.int ((31 : Int32) * (((31 : Int32) * ((31 : Int32) + ct)) + ci)))]) (lenOf pd_9 rfl) rfl (by show 2 * 0 + _ ≤ _; exact Nat.le_of_eq rfl) (hb hby d34_43) (fun _ _ => ⟨rfl, rfl, (by decide : 0 + 0 ≤ _), (by decide : 0 + 0 ≤ _)⟩)
  dsimp only [Pt.U, Pt.locs, Pt.cells, Pt.slots] at X8 l8 y8 z8 st8 hQ8
  rw [l8, y8, z8] at X8
  change Stand p l e _ _ m _ below meth c T8 _ 0 0 at X8
  obtain ⟨rfl, N8q, K8, SN8⟩ := hQ8
  have N8 := Fr.app N5 N8q
  refine Go T8 (mkF m 46 #[vR b, vI (((31 : Int32) * ((31 : Int32) + ct)) + ci), vR b, vI 3, vI 2, vR r] [(.int cr), (.int ((31 : Int32) * (((31 : Int32) * ((31 : Int32) + ct)) + ci)))]) ?_ (fun t => st8.trans)
  have Zc8 : n0 ≤ T8.heap.size := Nat.le_trans Zc5 K8.1
  have ky8 := ky5.put3 KC K8 SN8
  have xo8 : Old Z n0 T8.heap := xo5.keep K8 (allS KC.g3 all0)
  have kp9 := kp6.trans K8 (allS (Or.inl (by simp)) all0)
  have vb8 := vb5.keep K8 (own_nhi hbB (own_sfC KC.l5 (fun y hy => absurd hy List.not_mem_nil)))
  refine Go T8 (mkF m 47 #[vR b, vI (((31 : Int32) * ((31 : Int32) + ct)) + ci), vR b, vI 3, vI 2, vR r] [(.int (((31 : Int32) * (((31 : Int32) * ((31 : Int32) + ct)) + ci)) + cr))]) ?_ (fun t_ k_ => XS.iadd X8.here hx rfl (hb hby d34_46) rfl k_)
  refine Go T8 (mkF m 48 #[vR b, vI (((31 : Int32) * (((31 : Int32) * ((31 : Int32) + ct)) + ci)) + cr), vR b, vI 3, vI 2, vR r] []) ?_ (fun t_ k_ => XS.istoreN X8.here hx rfl (hb hby d34_47) rfl (l' := #[vR b, vI (((31 : Int32) * (((31 : Int32) * ((31 : Int32) + ct)) + ci)) + cr), vR b, vI 3, vI 2, vR r]) rfl k_)
  refine Go T8 (mkF m 51 #[vR b, vI (((31 : Int32) * (((31 : Int32) * ((31 : Int32) + ct)) + ci)) + cr), vR b, vI 3, vI 3, vR r] []) ?_ (fun t_ k_ => XS.iinc X8.here hx rfl (hb hby d34_48) rfl (l' := #[vR b, vI (((31 : Int32) * (((31 : Int32) * ((31 : Int32) + ct)) + ci)) + cr), vR b, vI 3, vI 3, vR r]) rfl k_)
  refine Go T8 (mkF m 16 #[vR b, vI (((31 : Int32) * (((31 : Int32) * ((31 : Int32) + ct)) + ci)) + cr), vR b, vI 3, vI 3, vR r] []) ?_ (fun t_ k_ => XS.goto X8.here hx rfl (pc0 := 51) (pc' := 16) rfl (hb hby d34_51) (by decide) (by decide) k_)
  refine Go T8 (mkF m 18 #[vR b, vI (((31 : Int32) * (((31 : Int32) * ((31 : Int32) + ct)) + ci)) + cr), vR b, vI 3, vI 3, vR r] [(.int 3)]) ?_ (fun t_ k_ => XS.iload X8.here hx rfl (hb hby d34_16) rfl k_)
  refine Go T8 (mkF m 19 #[vR b, vI (((31 : Int32) * (((31 : Int32) * ((31 : Int32) + ct)) + ci)) + cr), vR b, vI 3, vI 3, vR r] [(.int 3), (.int 3)]) ?_ (fun t_ k_ => XS.iloadN X8.here hx rfl (hb hby d34_18) rfl k_)
  refine Go T8 (mkF m 54 #[vR b, vI (((31 : Int32) * (((31 : Int32) * ((31 : Int32) + ct)) + ci)) + cr), vR b, vI 3, vI 3, vR r] []) ?_ (fun t_ k_ => XS.icmpYes X8.here hx rfl (pc0 := 19) (pc' := 54) rfl (hb hby d34_19) rfl (by decide) (by decide) (by decide) k_)
  refine Go T8 (mkF m 55 #[vR b, vI (((31 : Int32) * (((31 : Int32) * ((31 : Int32) + ct)) + ci)) + cr), vR b, vI 3, vI 3, vR r] [(.int (((31 : Int32) * (((31 : Int32) * ((31 : Int32) + ct)) + ci)) + cr))]) ?_ (fun t_ k_ => XS.iloadN X8.here hx rfl (hb hby d34_54) rfl k_)
  rw [hWd]
  exact Goes.retn X8 (v := some (.int (((31 : Int32) * (((31 : Int32) * ((31 : Int32) + ct)) + ci)) + cr))) (fun fs hr => retI X8 hx Bd.returns (hb hby d34_55) hr) (fun h => by rw [Bd.returns] at h; cases h) Bd.notSynchronized (by decide) (by decide) ⟨rfl, N8, kp9, ky8⟩
def QOH (Z : State) (B : Nat) (t tt i ti r tr ku ko : Addr) (kt ki kr : ClassId) (ct ci cr w2 : Int32) (zc : Int32) (b : Addr) (kb : ClassId) (h0 : Heap) (n0 : Nat) (v : Option Value) (h : Heap) (L : List Loc) : Prop := v = some (.int (own_sh ct ci cr)) ∧ Fr n0 L ∧ Keep h0 h [t, i, r] ∧ KA Z h t tt i ti r tr ku ko kt ki kr ct ci cr w2
set_option maxRecDepth 65536 in
set_option maxHeartbeats 40000000 in
theorem rmOH (l : Launch) (Z : State) (a0 : Array Value) (hw : ∀ d ∈ tables_1, d.before a0 Z = true) (ws : List Jvm.Cond) (B : Nat) (t tt i ti r tr ku ko : Addr) (kt ki kr : ClassId) (ct ci cr w2 : Int32) (zc : Int32) (b : Addr) (kb : ClassId) (h0 : Heap) (n0 : Nat) (Z0 : n0 ≤ h0.size) (KY : KA Z h0 t tt i ti r tr ku ko kt ki kr ct ci cr w2) (KC : KD n0 B t tt i ti r tr ku ko ct ci cr) (gB : n0 ≤ B) (bB : B ≤ h0.size) (CS : Sta Z Z.heap "java/lang/String" "COMPACT_STRINGS" "Z" (.int zc)) (hzc : ¬ zc = (0 : Int32)) (X0_ : Old Z n0 h0) (VB : Arv Z h0 b kb (.object "java/lang/Object") (3 : Int32) [.ref t, .ref i, .ref r] .null) (hbB : B ≤ b) :
    MetFree l mN21 (head1 (Jvm.Cond.code mN21 cD30 1 (some .int) :: ws) ({ frames := 3, cells := 0, slots := 0, locals := 43 } : Room)) (fun a_ U => a_ = #[(.ref b)] ∧ Z.Warmed39 U.vm ∧ U.heap = h0) (fun _ _ _ _ _ => True) (fun _ U o U' => ∃ v L, o = .returned v ∧ QOH Z B t tt i ti r tr ku ko kt ki kr ct ci cr w2 zc b kb h0 n0 v U'.heap L ∧ FrameEnd U o U' L ({ frames := 3, cells := 0, slots := 0, locals := 43 } : Room).cells ({ frames := 3, cells := 0, slots := 0, locals := 43 } : Room).slots) := by
  refine MetFree.of_bodySF (plainFor_of_name pn_2) hisR ?_
  intro p e s m args below meth c s₁ Bd hml0 hP hK
  obtain ⟨rfl, hZ, hh⟩ := hP
  have hx := Bd.exec
  have hby := Bd.bytes
  have hml : c.maxLocals = 1 := hml0
  have hown : s.vm.findClass "java/util/Objects" = some m.cls := findClass_of_methodNamed Bd.named
  have hnm := (name_of_methodNamed Bd.named Bd.method).1
  have X0 : Stand p l e ({ frames := 3, cells := 0, slots := 0, locals := 43 } : Room) s m #[(.ref b)] below meth c s₁ [] 0 0 := Stand.of_body Bd
  have e0 : s₁.heap = h0 := by rw [← hh, Bd.state]; rfl
  have N0 := Fr.nil n0
  refine Goes.done ?_
  obtain ⟨W, hWd⟩ : ∃ W : State → Prop, W = EndW s below (QOH Z B t tt i ti r tr ku ko kt ki kr ct ci cr w2 zc b kb h0 n0) ({ frames := 3, cells := 0, slots := 0, locals := 43 } : Room).cells ({ frames := 3, cells := 0, slots := 0, locals := 43 } : Room).slots := ⟨_, rfl⟩
  rw [← hWd]
  have hef : entryFrame m #[(.ref b)] 1 = (mkF m 0 #[vR b] []) := by first | (simp [entryFrame, mkF, argsToLocals, Value.category]; done) | rfl
  rw [hef]
  refine Go s₁ (mkF m 1 #[vR b] [(.ref b)]) ?_ (fun t_ k_ => XS.aloadN X0.here hx rfl (hb hby d33_0) rfl rfl k_)
  obtain ⟨_, _, ⟨T1, Lq_1, kq_1, nq_1⟩, -, X1, ⟨Lc1, hQ1, l1, y1, z1⟩, st1⟩ := Jvm.LawKit.callS X0 hx (y := mN19) hown (mvT hZ (wq hw 214 rfl)) (mvT hZ (wq hw 215 rfl)) (mvT hZ (wq hw 216 rfl)) (mvT hZ (wq hw 217 rfl)) (by decide) (backOf (W := 0) (rmAH l Z a0 hw [] B t tt i ti r tr ku ko kt ki kr ct ci cr w2 zc b kb h0 n0 Z0 KY KC gB bB CS hzc X0_ VB hbB) hZ (wq hw 217 rfl) (wq hw 216 rfl) (by decide) (by decide)) (g := (mkF m 1 #[vR b] [(.ref b)])) rfl (by rw [hml]; rfl) (argsL := [(.ref b)]) (rest := []) (lenOf pd_12 rfl) rfl (by show 2 * 0 + _ ≤ _; exact Nat.le_of_eq rfl) (hb hby d33_1) (fun _ _ => ⟨rfl, e0, (by decide : 0 + 0 ≤ _), (by decide : 0 + 0 ≤ _)⟩)
  dsimp only [Pt.U, Pt.locs, Pt.cells, Pt.slots] at X1 l1 y1 z1 st1 hQ1
  rw [l1, y1, z1] at X1
  change Stand p l e _ _ m _ below meth c T1 _ 0 0 at X1
  obtain ⟨rfl, N1q, KK, KZ⟩ := hQ1
  have N1 := Fr.app N0 N1q
  refine Go T1 (mkF m 4 #[vR b] [(.int (own_sh ct ci cr))]) ?_ st1
  rw [hWd]
  exact Goes.retn X1 (v := some (.int (own_sh ct ci cr))) (fun fs hr => retI X1 hx Bd.returns (hb hby d33_4) hr) (fun h => by rw [Bd.returns] at h; cases h) Bd.notSynchronized (by decide) (by decide) ⟨rfl, N1, KK, KZ⟩
def QHU (Z : State) (B : Nat) (t tt i ti r tr ku ko : Addr) (kt ki kr : ClassId) (ct ci cr w2 : Int32) (zc : Int32) (h0 : Heap) (n0 : Nat) (v : Option Value) (h : Heap) (L : List Loc) : Prop := v = some (.int (own_sh ct ci cr)) ∧ Fr n0 L ∧ Keep h0 h [t, i, r] ∧ KA Z h t tt i ti r tr ku ko kt ki kr ct ci cr w2
set_option maxRecDepth 65536 in
set_option maxHeartbeats 40000000 in
theorem rmHU (l : Launch) (Z : State) (a0 : Array Value) (hw : ∀ d ∈ tables_1, d.before a0 Z = true) (ws : List Jvm.Cond) (B : Nat) (t tt i ti r tr ku ko : Addr) (kt ki kr : ClassId) (ct ci cr w2 : Int32) (zc : Int32) (h0 : Heap) (n0 : Nat) (Z0 : n0 ≤ h0.size) (KY : KA Z h0 t tt i ti r tr ku ko kt ki kr ct ci cr w2) (KC : KD n0 B t tt i ti r tr ku ko ct ci cr) (gB : n0 ≤ B) (bB : B ≤ h0.size) (CS : Sta Z Z.heap "java/lang/String" "COMPACT_STRINGS" "Z" (.int zc)) (hzc : ¬ zc = (0 : Int32)) (X0_ : Old Z n0 h0) :
    MetFree l mN22 (head1 (Jvm.Cond.code mN22 cD29 1 (some .int) :: ws) ({ frames := 4, cells := 1, slots := 3, locals := 55 } : Room)) (fun a_ U => a_ = #[(.ref ku)] ∧ Z.Warmed39 U.vm ∧ U.heap = h0) (fun _ _ _ _ _ => True) (fun _ U o U' => ∃ v L, o = .returned v ∧ QHU Z B t tt i ti r tr ku ko kt ki kr ct ci cr w2 zc h0 n0 v U'.heap L ∧ FrameEnd U o U' L ({ frames := 4, cells := 1, slots := 3, locals := 55 } : Room).cells ({ frames := 4, cells := 1, slots := 3, locals := 55 } : Room).slots) := by
  refine MetFree.of_bodySF (plainFor_of_name pn_3) hisR ?_
  intro p e s m args below meth c s₁ Bd hml0 hP hK
  obtain ⟨rfl, hZ, hh⟩ := hP
  have hx := Bd.exec
  have hby := Bd.bytes
  have hml : c.maxLocals = 1 := hml0
  have hown : s.vm.findClass "com/example/entitlement/entitlement/Subject" = some m.cls := findClass_of_methodNamed Bd.named
  have hnm := (name_of_methodNamed Bd.named Bd.method).1
  have X0 : Stand p l e ({ frames := 4, cells := 1, slots := 3, locals := 55 } : Room) s m #[(.ref ku)] below meth c s₁ [] 0 0 := Stand.of_body Bd
  have e0 : s₁.heap = h0 := by rw [← hh, Bd.state]; rfl
  have N0 := Fr.nil n0
  refine Goes.done ?_
  obtain ⟨W, hWd⟩ : ∃ W : State → Prop, W = EndW s below (QHU Z B t tt i ti r tr ku ko kt ki kr ct ci cr w2 zc h0 n0) ({ frames := 4, cells := 1, slots := 3, locals := 55 } : Room).cells ({ frames := 4, cells := 1, slots := 3, locals := 55 } : Room).slots := ⟨_, rfl⟩
  rw [← hWd]
  have hef : entryFrame m #[(.ref ku)] 1 = (mkF m 0 #[vR ku] []) := by first | (simp [entryFrame, mkF, argsToLocals, Value.category]; done) | rfl
  rw [hef]
  refine Go s₁ (mkF m 1 #[vR ku] [(.int 3)]) ?_ (fun t_ k_ => XS.iconst X0.here hx rfl (hb hby d32_0) k_)
  obtain ⟨T1, h1, k1, X1, e1, E1, A1, O1, st1⟩ := newR X0 hx hZ hown (wq hw 210 rfl) (wq hw 27 rfl) e0 (g := (mkF m 1 #[vR ku] [(.int 3)])) rfl (hb hby d32_1) rfl (by decide) (cap := 3) (by decide) (by decide) (by decide) (by decide)
  obtain ⟨b1, gb1⟩ : ∃ z, z = h0.size := ⟨_, rfl⟩
  rw [← gb1] at A1 st1
  have V1 := Arv.new A1 (by decide)
  have Z1 : n0 ≤ h1.size := Nat.le_trans Z0 E1.1
  have g_b1 : n0 ≤ b1 := Nat.le_trans Z0 (Nat.le_of_eq gb1.symm)
  refine Go T1 (mkF m 4 #[vR ku] [(.ref b1)]) ?_ st1
  have kp2 := (Keep.refl h0 [t, i, r]).ext E1
  have hbB : B ≤ b1 := Nat.le_trans bB (Nat.le_of_eq gb1.symm)
  have kyE := KY.keep KC ((Keep.refl _ []).ext E1) all0
  have xoE := X0_.ext E1
  have bB1 : B ≤ h1.size := Nat.le_trans bB E1.1
  have VV1 : Arv Z h1 b1 k1 (.object "java/lang/Object") (3 : Int32) [.null, .null, .null] .null := V1.pad (pad_rep [] .null 3)
  refine Go T1 (mkF m 5 #[vR ku] [(.ref b1), (.ref b1)]) ?_ (fun t_ k_ => XS.dup X1.here hx rfl (hb hby d32_4) rfl rfl k_)
  refine Go T1 (mkF m 6 #[vR ku] [(.int 0), (.ref b1), (.ref b1)]) ?_ (fun t_ k_ => XS.iconst X1.here hx rfl (hb hby d32_5) k_)
  refine Go T1 (mkF m 7 #[vR ku] [(.ref ku), (.int 0), (.ref b1), (.ref b1)]) ?_ (fun t_ k_ => XS.aloadN X1.here hx rfl (hb hby d32_6) rfl rfl k_)
  obtain ⟨T3, X3, e3, st3⟩ := getF X1 hx hZ hown (host := "") (Or.inl (wq hw 57 rfl)) Via.refl e1 kyE.u1 (g := (mkF m 7 #[vR ku] [(.ref ku), (.int 0), (.ref b1), (.ref b1)])) rfl rfl (hb hby d32_7)
  refine Go T3 (mkF m 10 #[vR ku] [(.ref t), (.int 0), (.ref b1), (.ref b1)]) ?_ st3
  obtain ⟨cc4, A4, q4, S4, M4, H4, G4⟩ := id VV1
  obtain ⟨T5, h5, X5, e5, W5, st5⟩ := stR X3 hx hZ e3 A4 (j := (0 : Int32)) (inb_of S4 ⟨by decide, by decide⟩) rfl (Sto.ofV A4 q4 O1 (Ins.of_exa kyE.s1.exa (wq hw 28 rfl))) (g := (mkF m 10 #[vR ku] [(.ref t), (.int 0), (.ref b1), (.ref b1)])) rfl rfl (hb hby d32_10)
  have N5 := Fr.snoc X5 N0 g_b1
  have Z5 : n0 ≤ h5.size := Nat.le_trans Z1 (Nat.le_of_eq W5.size.symm)
  refine Go T5 (mkF m 11 #[vR ku] [(.ref b1)]) ?_ st5
  have kp6 := kp2.trans ((Keep.refl _ [b1]).wr W5 (Or.inl (List.mem_cons_self ..))) (allS (Or.inr (Nat.le_of_eq gb1.symm)) all0)
  have V5 : Arv Z h5 b1 k1 (.object "java/lang/Object") (3 : Int32) [.ref t, .null, .null] .null := Arv.set A4 q4 S4 M4 H4 G4 rfl W5 0 rfl (Nat.le_of_ble_eq_true rfl)
  have ky5 := kyE.keep KC ((Keep.refl _ [b1]).wr W5 (Or.inl (List.mem_cons_self ..))) (own_sfC (P := fun z => B ≤ z) hbB (fun y hy => absurd hy List.not_mem_nil))
  have xo5 := xoE.wr W5 g_b1
  have bB5 : B ≤ h5.size := Nat.le_trans bB1 (Nat.le_of_eq W5.size.symm)
  refine Go T5 (mkF m 12 #[vR ku] [(.ref b1), (.ref b1)]) ?_ (fun t_ k_ => XS.dup X5.here hx rfl (hb hby d32_11) rfl rfl k_)
  refine Go T5 (mkF m 13 #[vR ku] [(.int 1), (.ref b1), (.ref b1)]) ?_ (fun t_ k_ => XS.iconst X5.here hx rfl (hb hby d32_12) k_)
  refine Go T5 (mkF m 14 #[vR ku] [(.ref ku), (.int 1), (.ref b1), (.ref b1)]) ?_ (fun t_ k_ => XS.aloadN X5.here hx rfl (hb hby d32_13) rfl rfl k_)
  obtain ⟨T7, X7, e7, st7⟩ := getF X5 hx hZ hown (host := "") (Or.inl (wq hw 60 rfl)) Via.refl e5 ky5.u2 (g := (mkF m 14 #[vR ku] [(.ref ku), (.int 1), (.ref b1), (.ref b1)])) rfl rfl (hb hby d32_14)
  refine Go T7 (mkF m 17 #[vR ku] [(.ref i), (.int 1), (.ref b1), (.ref b1)]) ?_ st7
  obtain ⟨cc8, A8, q8, S8, M8, H8, G8⟩ := id V5
  obtain ⟨T9, h9, X9, e9, W9, st9⟩ := stR X7 hx hZ e7 A8 (j := (1 : Int32)) (inb_of S8 ⟨by decide, by decide⟩) rfl (Sto.ofV A8 q8 O1 (Ins.of_exa ky5.s2.exa (wq hw 28 rfl))) (g := (mkF m 17 #[vR ku] [(.ref i), (.int 1), (.ref b1), (.ref b1)])) rfl rfl (hb hby d32_17)
  have N9 := Fr.snoc X9 N5 g_b1
  have Z9 : n0 ≤ h9.size := Nat.le_trans Z5 (Nat.le_of_eq W9.size.symm)
  refine Go T9 (mkF m 18 #[vR ku] [(.ref b1)]) ?_ st9
  have kp10 := kp6.trans ((Keep.refl _ [b1]).wr W9 (Or.inl (List.mem_cons_self ..))) (allS (Or.inr (Nat.le_of_eq gb1.symm)) all0)
  have V9 : Arv Z h9 b1 k1 (.object "java/lang/Object") (3 : Int32) [.ref t, .ref i, .null] .null := Arv.set A8 q8 S8 M8 H8 G8 rfl W9 1 rfl (Nat.le_of_ble_eq_true rfl)
  have ky9 := ky5.keep KC ((Keep.refl _ [b1]).wr W9 (Or.inl (List.mem_cons_self ..))) (own_sfC (P := fun z => B ≤ z) hbB (fun y hy => absurd hy List.not_mem_nil))
  have xo9 := xo5.wr W9 g_b1
  have bB9 : B ≤ h9.size := Nat.le_trans bB5 (Nat.le_of_eq W9.size.symm)
  refine Go T9 (mkF m 19 #[vR ku] [(.ref b1), (.ref b1)]) ?_ (fun t_ k_ => XS.dup X9.here hx rfl (hb hby d32_18) rfl rfl k_)
  refine Go T9 (mkF m 20 #[vR ku] [(.int 2), (.ref b1), (.ref b1)]) ?_ (fun t_ k_ => XS.iconst X9.here hx rfl (hb hby d32_19) k_)
  refine Go T9 (mkF m 21 #[vR ku] [(.ref ku), (.int 2), (.ref b1), (.ref b1)]) ?_ (fun t_ k_ => XS.aloadN X9.here hx rfl (hb hby d32_20) rfl rfl k_)
  obtain ⟨T11, X11, e11, st11⟩ := getF X9 hx hZ hown (host := "") (Or.inl (wq hw 62 rfl)) Via.refl e9 ky9.u3 (g := (mkF m 21 #[vR ku] [(.ref ku), (.int 2), (.ref b1), (.ref b1)])) rfl rfl (hb hby d32_21)
  refine Go T11 (mkF m 24 #[vR ku] [(.ref r), (.int 2), (.ref b1), (.ref b1)]) ?_ st11
  obtain ⟨cc12, A12, q12, S12, M12, H12, G12⟩ := id V9
  obtain ⟨T13, h13, X13, e13, W13, st13⟩ := stR X11 hx hZ e11 A12 (j := (2 : Int32)) (inb_of S12 ⟨by decide, by decide⟩) rfl (Sto.ofV A12 q12 O1 (Ins.of_exa ky9.s3.exa (wq hw 28 rfl))) (g := (mkF m 24 #[vR ku] [(.ref r), (.int 2), (.ref b1), (.ref b1)])) rfl rfl (hb hby d32_24)
  have N13 := Fr.snoc X13 N9 g_b1
  have Z13 : n0 ≤ h13.size := Nat.le_trans Z9 (Nat.le_of_eq W13.size.symm)
  refine Go T13 (mkF m 25 #[vR ku] [(.ref b1)]) ?_ st13
  have kp14 := kp10.trans ((Keep.refl _ [b1]).wr W13 (Or.inl (List.mem_cons_self ..))) (allS (Or.inr (Nat.le_of_eq gb1.symm)) all0)
  have V13 : Arv Z h13 b1 k1 (.object "java/lang/Object") (3 : Int32) [.ref t, .ref i, .ref r] .null := Arv.set A12 q12 S12 M12 H12 G12 rfl W13 2 rfl (Nat.le_of_ble_eq_true rfl)
  have ky13 := ky9.keep KC ((Keep.refl _ [b1]).wr W13 (Or.inl (List.mem_cons_self ..))) (own_sfC (P := fun z => B ≤ z) hbB (fun y hy => absurd hy List.not_mem_nil))
  have xo13 := xo9.wr W13 g_b1
  have bB13 : B ≤ h13.size := Nat.le_trans bB9 (Nat.le_of_eq W13.size.symm)
  obtain ⟨_, _, ⟨T15, Lq_15, kq_15, nq_15⟩, -, X15, ⟨Lc15, hQ15, l15, y15, z15⟩, st15⟩ := Jvm.LawKit.callS X13 hx (y := mN21) hown (mvT hZ (wq hw 211 rfl)) (mvT hZ (wq hw 212 rfl)) (mvT hZ (wq hw 38 rfl)) (mvT hZ (wq hw 213 rfl)) (by decide) (backOf (W := 0) (rmOH l Z a0 hw [] B t tt i ti r tr ku ko kt ki kr ct ci cr w2 zc b1 k1 h13 n0 Z13 ky13 KC gB bB13 CS hzc xo13 V13 hbB) hZ (wq hw 213 rfl) (wq hw 38 rfl) (by decide) (by decide)) (g := (mkF m 25 #[vR ku] [(.ref b1)])) rfl (by rw [hml]; rfl) (argsL := [(.ref b1)]) (rest := []) (lenOf pd_12 rfl) rfl (by show 2 * 0 + _ ≤ _; exact Nat.le_of_eq rfl) (hb hby d32_25) (fun _ _ => ⟨rfl, e13, (by decide : 1 + 0 ≤ _), (by decide : 3 + 0 ≤ _)⟩)
  dsimp only [Pt.U, Pt.locs, Pt.cells, Pt.slots] at X15 l15 y15 z15 st15 hQ15
  rw [l15, y15, z15] at X15
  change Stand p l e _ _ m _ below meth c T15 _ 1 3 at X15
  obtain ⟨rfl, N15q, K15, KZ⟩ := hQ15
  have N15 := Fr.app N13 N15q
  refine Go T15 (mkF m 28 #[vR ku] [(.int (own_sh ct ci cr))]) ?_ st15
  have kp16 := kp14.trans K15 (fun y hy => Or.inl hy)
  rw [hWd]
  exact Goes.retn X15 (v := some (.int (own_sh ct ci cr))) (fun fs hr => retI X15 hx Bd.returns (hb hby d32_28) hr) (fun h => by rw [Bd.returns] at h; cases h) Bd.notSynchronized (by decide) (by decide) ⟨rfl, N15, kp16, KZ⟩
def QHO (Z : State) (B : Nat) (t tt i ti r tr ku ko : Addr) (kt ki kr : ClassId) (ct ci cr w2 : Int32) (zc : Int32) (h0 : Heap) (n0 : Nat) (v : Option Value) (h : Heap) (L : List Loc) : Prop := v = some (.int (w2)) ∧ Fr n0 L ∧ Keep h0 h [t, i, r] ∧ KA Z h t tt i ti r tr ku ko kt ki kr ct ci cr w2
set_option maxRecDepth 65536 in
set_option maxHeartbeats 40000000 in
theorem rmHO (l : Launch) (Z : State) (a0 : Array Value) (hw : ∀ d ∈ tables_1, d.before a0 Z = true) (ws : List Jvm.Cond) (B : Nat) (t tt i ti r tr ku ko : Addr) (kt ki kr : ClassId) (ct ci cr w2 : Int32) (zc : Int32) (h0 : Heap) (n0 : Nat) (Z0 : n0 ≤ h0.size) (KY : KA Z h0 t tt i ti r tr ku ko kt ki kr ct ci cr w2) (KC : KD n0 B t tt i ti r tr ku ko ct ci cr) (gB : n0 ≤ B) (bB : B ≤ h0.size) (CS : Sta Z Z.heap "java/lang/String" "COMPACT_STRINGS" "Z" (.int zc)) (hzc : ¬ zc = (0 : Int32)) (X0_ : Old Z n0 h0) :
    MetFree l mN23 (head1 (Jvm.Cond.code mN23 cD28 1 (some .int) :: ws) ({ frames := 0, cells := 0, slots := 0, locals := 0 } : Room)) (fun a_ U => a_ = #[(.ref ko)] ∧ Z.Warmed39 U.vm ∧ U.heap = h0) (fun _ _ _ _ _ => True) (fun _ U o U' => ∃ v L, o = .returned v ∧ QHO Z B t tt i ti r tr ku ko kt ki kr ct ci cr w2 zc h0 n0 v U'.heap L ∧ FrameEnd U o U' L ({ frames := 0, cells := 0, slots := 0, locals := 0 } : Room).cells ({ frames := 0, cells := 0, slots := 0, locals := 0 } : Room).slots) := by
  refine MetFree.of_bodySF (plainFor_of_name pn_4) hisR ?_
  intro p e s m args below meth c s₁ Bd hml0 hP hK
  obtain ⟨rfl, hZ, hh⟩ := hP
  have hx := Bd.exec
  have hby := Bd.bytes
  have hml : c.maxLocals = 1 := hml0
  have hown : s.vm.findClass "com/example/entitlement/entitlement/ObjectRef" = some m.cls := findClass_of_methodNamed Bd.named
  have hnm := (name_of_methodNamed Bd.named Bd.method).1
  have X0 : Stand p l e ({ frames := 0, cells := 0, slots := 0, locals := 0 } : Room) s m #[(.ref ko)] below meth c s₁ [] 0 0 := Stand.of_body Bd
  have e0 : s₁.heap = h0 := by rw [← hh, Bd.state]; rfl
  have N0 := Fr.nil n0
  refine Goes.done ?_
  obtain ⟨W, hWd⟩ : ∃ W : State → Prop, W = EndW s below (QHO Z B t tt i ti r tr ku ko kt ki kr ct ci cr w2 zc h0 n0) ({ frames := 0, cells := 0, slots := 0, locals := 0 } : Room).cells ({ frames := 0, cells := 0, slots := 0, locals := 0 } : Room).slots := ⟨_, rfl⟩
  rw [← hWd]
  have hef : entryFrame m #[(.ref ko)] 1 = (mkF m 0 #[vR ko] []) := by first | (simp [entryFrame, mkF, argsToLocals, Value.category]; done) | rfl
  rw [hef]
  refine Go s₁ (mkF m 1 #[vR ko] [(.ref ko)]) ?_ (fun t_ k_ => XS.aloadN X0.here hx rfl (hb hby d31_0) rfl rfl k_)
  obtain ⟨T1, X1, e1, st1⟩ := getF X0 hx hZ hown (host := "") (Or.inl (wq hw 97 rfl)) Via.refl e0 KY.o1 (g := (mkF m 1 #[vR ko] [(.ref ko)])) rfl rfl (hb hby d31_1)
  refine Go T1 (mkF m 4 #[vR ko] [(.int w2)]) ?_ st1
  rw [hWd]
  exact Goes.retn X1 (v := some (.int w2)) (fun fs hr => retI X1 hx Bd.returns (hb hby d31_4) hr) (fun h => by rw [Bd.returns] at h; cases h) Bd.notSynchronized (by decide) (by decide) (by rw [e1]; exact ⟨rfl, N0, Keep.refl _ _, KY⟩)
def QAS0 (Z : State) (B : Nat) (t tt i ti r tr ku ko : Addr) (kt ki kr : ClassId) (ct ci cr w2 : Int32) (zc : Int32) (a hc ks : Addr) (kh kk : ClassId) (h0 : Heap) (n0 : Nat) (v : Option Value) (h : Heap) (L : List Loc) : Prop := v = none ∧ Fr n0 L ∧ Keep h0 h [t, i, r, a, hc, ks] ∧ KA Z h t tt i ti r tr ku ko kt ki kr ct ci cr w2 ∧ Tly Z h B a hc ks kh kk t ct (1 : Int32)
set_option maxRecDepth 65536 in
set_option maxHeartbeats 40000000 in
theorem rmAS0 (l : Launch) (Z : State) (a0 : Array Value) (hw : ∀ d ∈ tables_1, d.before a0 Z = true) (ws : List Jvm.Cond) (B : Nat) (t tt i ti r tr ku ko : Addr) (kt ki kr : ClassId) (ct ci cr w2 : Int32) (zc : Int32) (a hc ks : Addr) (kh kk : ClassId) (h0 : Heap) (n0 : Nat) (Z0 : n0 ≤ h0.size) (KY : KA Z h0 t tt i ti r tr ku ko kt ki kr ct ci cr w2) (KC : KD n0 B t tt i ti r tr ku ko ct ci cr) (gB : n0 ≤ B) (bB : B ≤ h0.size) (CS : Sta Z Z.heap "java/lang/String" "COMPACT_STRINGS" "Z" (.int zc)) (hzc : ¬ zc = (0 : Int32)) (X0_ : Old Z n0 h0) (TL : TlyE Z h0 B a hc ks kh kk) :
    MetFree l mN24 (head1 (Jvm.Cond.code mN24 cD21 4 none :: ws) ({ frames := 2, cells := 0, slots := 0, locals := 36 } : Room)) (fun a_ U => a_ = #[(.ref a), (.ref t)] ∧ Z.Warmed39 U.vm ∧ U.heap = h0) (fun _ _ _ _ _ => True) (fun _ U o U' => ∃ v L, o = .returned v ∧ QAS0 Z B t tt i ti r tr ku ko kt ki kr ct ci cr w2 zc a hc ks kh kk h0 n0 v U'.heap L ∧ FrameEnd U o U' L ({ frames := 2, cells := 0, slots := 0, locals := 36 } : Room).cells ({ frames := 2, cells := 0, slots := 0, locals := 36 } : Room).slots) := by
  refine MetFree.of_bodySF (plainFor_of_name pn_5) hisR ?_
  intro p e s m args below meth c s₁ Bd hml0 hP hK
  obtain ⟨rfl, hZ, hh⟩ := hP
  have hx := Bd.exec
  have hby := Bd.bytes
  have hml : c.maxLocals = 4 := hml0
  have hown : s.vm.findClass "com/example/entitlement/entitlement/Tally" = some m.cls := findClass_of_methodNamed Bd.named
  have hnm := (name_of_methodNamed Bd.named Bd.method).1
  have X0 : Stand p l e ({ frames := 2, cells := 0, slots := 0, locals := 36 } : Room) s m #[(.ref a), (.ref t)] below meth c s₁ [] 0 0 := Stand.of_body Bd
  have e0 : s₁.heap = h0 := by rw [← hh, Bd.state]; rfl
  have N0 := Fr.nil n0
  refine Goes.done ?_
  obtain ⟨W, hWd⟩ : ∃ W : State → Prop, W = EndW s below (QAS0 Z B t tt i ti r tr ku ko kt ki kr ct ci cr w2 zc a hc ks kh kk h0 n0) ({ frames := 2, cells := 0, slots := 0, locals := 36 } : Room).cells ({ frames := 2, cells := 0, slots := 0, locals := 36 } : Room).slots := ⟨_, rfl⟩
  rw [← hWd]
  have hef : entryFrame m #[(.ref a), (.ref t)] 4 = (mkF m 0 #[vR a, vR t, .unset, .unset] []) := by first | (simp [entryFrame, mkF, argsToLocals, Value.category]; done) | rfl
  rw [hef]
  refine Go s₁ (mkF m 1 #[vR a, vR t, .unset, .unset] [(.ref t)]) ?_ (fun t_ k_ => XS.aloadN X0.here hx rfl (hb hby d24_0) rfl rfl k_)
  obtain ⟨cq1, kq1, q1a, q1b, q1c⟩ := isOf hZ e0 KY.s1.exa
  obtain ⟨_, _, ⟨T1, Lq_1, kq_1, nq_1⟩, -, X1, ⟨Lc1, hQ1, l1, y1, z1⟩, st1⟩ := X0.virtualBack hx (y := mN20) (z := mN9) hown (mvT hZ (wq hw 169 rfl)) (mvT hZ (wq hw 170 rfl)) (own_nfO hZ (wq hw 138 rfl) rfl) (mvT hZ (wq hw 172 rfl)) (mvT hZ (wq hw 82 rfl)) (by decide) (backOf (W := 0) (rmSH l Z a0 hw [] t tt kt ct zc h0 n0 Z0 KY.s1 KC.g1 KC.b1 KC.b2 CS hzc X0_) hZ (wq hw 84 rfl) (wq hw 2 rfl) (by decide) (by decide)) q1a q1c (g := (mkF m 1 #[vR a, vR t, .unset, .unset] [(.ref t)])) rfl (by rw [hml]; rfl) (Steps.refl _) (argsL := []) (rest := []) (lenOf pd_9 rfl) rfl (by show 2 * 0 + _ ≤ _; exact Nat.le_of_eq rfl) (hb hby d24_1) (fun _ _ => ⟨rfl, e0, (by decide : 0 + 0 ≤ _), (by decide : 0 + 0 ≤ _)⟩)
  dsimp only [Pt.U, Pt.locs, Pt.cells, Pt.slots] at X1 l1 y1 z1 st1 hQ1
  rw [l1, y1, z1] at X1
  change Stand p l e _ _ m _ below meth c T1 _ 0 0 at X1
  obtain ⟨rfl, N1q, K1, SN1⟩ := hQ1
  have N1 := Fr.app N0 N1q
  refine Go T1 (mkF m 4 #[vR a, vR t, .unset, .unset] [(.int ct)]) ?_ (fun t => st1.trans)
  have Zc1 : n0 ≤ T1.heap.size := Nat.le_trans Z0 K1.1
  have ky1 := KY.put1 KC K1 SN1
  have xo1 : Old Z n0 T1.heap := X0_.keep K1 (allS KC.g1 all0)
  have kp2 := (Keep.refl h0 [t, i, r, a, hc, ks]).trans K1 (allS (Or.inl (by simp)) all0)
  have bb1 : B ≤ T1.heap.size := Nat.le_trans bB K1.1
  have tl1 := TL.keep K1 (own_nhi TL.ba (own_sfC KC.l1 (fun y hy => absurd hy List.not_mem_nil))) (own_nhi TL.bh (own_sfC KC.l1 (fun y hy => absurd hy List.not_mem_nil))) (own_nhi TL.bk (own_sfC KC.l1 (fun y hy => absurd hy List.not_mem_nil)))
  refine Go T1 (mkF m 5 #[vR a, vR t, vI ct, .unset] []) ?_ (fun t_ k_ => XS.istoreN X1.here hx rfl (hb hby d24_4) rfl (l' := #[vR a, vR t, vI ct, .unset]) rfl k_)
  refine Go T1 (mkF m 6 #[vR a, vR t, vI ct, .unset] [(.ref a)]) ?_ (fun t_ k_ => XS.aloadN X1.here hx rfl (hb hby d24_5) rfl rfl k_)
  refine Go T1 (mkF m 7 #[vR a, vR t, vI ct, .unset] [(.ref t), (.ref a)]) ?_ (fun t_ k_ => XS.aloadN X1.here hx rfl (hb hby d24_6) rfl rfl k_)
  refine Go T1 (mkF m 8 #[vR a, vR t, vI ct, .unset] [(.int ct), (.ref t), (.ref a)]) ?_ (fun t_ k_ => XS.iloadN X1.here hx rfl (hb hby d24_7) rfl k_)
  obtain ⟨cq3, q3, q3'⟩ := tl1.E.cell
  obtain ⟨_, _, ⟨T3, Lq_3, kq_3, nq_3⟩, -, X3, ⟨Lc3, hQ3, l3, y3, z3⟩, st3⟩ := X1.privateBack hx (y := mN15) hown (mvT hZ (wq hw 173 rfl)) (mvT hZ (wq hw 174 rfl)) (mvT hZ (own_selP (y := mN15) (wq hw 151 rfl) (wq hw 175 rfl) (wq hw 174 rfl) (by decide))) (Cond.privateMethod_at (mvP hZ (wq hw 175 rfl) (args := #[]))) (mvT hZ (wq hw 176 rfl)) (by decide) (backOf (W := 0) (rmF0 l Z a0 hw [] B a hc ks kh kk t ct T1.heap n0 Zc1 tl1) hZ (wq hw 176 rfl) (wq hw 152 rfl) (by decide) (by decide)) (g := (mkF m 8 #[vR a, vR t, vI ct, .unset] [(.int ct), (.ref t), (.ref a)])) rfl (by rw [hml]; rfl) (Steps.refl _) (a := a) q3 q3' (argsL := [(.ref t), (.int ct)]) (rest := []) (lenOf pd_13 rfl) rfl (by show 2 * 0 + _ ≤ _; exact Nat.le_of_eq rfl) (hb hby d24_8) (fun _ _ => ⟨rfl, rfl, (by decide : 0 + 0 ≤ _), (by decide : 0 + 0 ≤ _)⟩)
  dsimp only [Pt.U, Pt.locs, Pt.cells, Pt.slots] at X3 l3 y3 z3 st3 hQ3
  rw [l3, y3, z3] at X3
  change Stand p l e _ _ m _ below meth c T3 _ 0 0 at X3
  obtain ⟨rfl, N3q, eh3⟩ := hQ3
  have N3 := Fr.app N1 N3q
  refine Go T3 (mkF m 11 #[vR a, vR t, vI ct, .unset] [(.int ((-1 : Int32) - own_home ct))]) ?_ (fun t => st3.trans)
  rcases own_home_b ct with hbm | hbm
  · rw [hbm]
    have ahc : a ≠ hc := Exa.neArv tl1.E tl1.VH (wq hw 151 rfl)
    have aks : a ≠ ks := Exa.neArv tl1.E tl1.VK (wq hw 151 rfl)
    rw [show ((-1 : Int32) - (0 : Int32)) = (-1 : Int32) from by decide]
    refine Go T3 (mkF m 12 #[vR a, vR t, vI ct, vI (-1)] []) ?_ (fun t_ k_ => XS.istoreN X3.here hx rfl (hb hby d24_11) rfl (l' := #[vR a, vR t, vI ct, vI (-1)]) rfl k_)
    refine Go T3 (mkF m 13 #[vR a, vR t, vI ct, vI (-1)] [(.int (-1))]) ?_ (fun t_ k_ => XS.iloadN X3.here hx rfl (hb hby d24_12) rfl k_)
    refine Go T3 (mkF m 31 #[vR a, vR t, vI ct, vI (-1)] []) ?_ (fun t_ k_ => XS.ifYes X3.here hx rfl (pc0 := 13) (pc' := 31) rfl (hb hby d24_13) rfl (by decide) (by decide) (by decide) k_)
    refine Go T3 (mkF m 32 #[vR a, vR t, vI ct, vI (-1)] [(.int 2)]) ?_ (fun t_ k_ => XS.iconst X3.here hx rfl (hb hby d24_31) k_)
    refine Go T3 (mkF m 33 #[vR a, vR t, vI ct, vI (-1)] [(.ref a), (.int 2)]) ?_ (fun t_ k_ => XS.aloadN X3.here hx rfl (hb hby d24_32) rfl rfl k_)
    obtain ⟨T4, X4, e4, st4⟩ := getF X3 hx hZ hown (host := "") (Or.inl (wq hw 182 rfl)) Via.refl eh3 tl1.FZ (g := (mkF m 33 #[vR a, vR t, vI ct, vI (-1)] [(.ref a), (.int 2)])) rfl rfl (hb hby d24_33)
    refine Go T4 (mkF m 36 #[vR a, vR t, vI ct, vI (-1)] [(.int 0), (.int 2)]) ?_ st4
    refine Go T4 (mkF m 37 #[vR a, vR t, vI ct, vI (-1)] [(.int 1), (.int 0), (.int 2)]) ?_ (fun t_ k_ => XS.iconst X4.here hx rfl (hb hby d24_36) k_)
    refine Go T4 (mkF m 38 #[vR a, vR t, vI ct, vI (-1)] [(.int 1), (.int 2)]) ?_ (fun t_ k_ => XS.iadd X4.here hx rfl (hb hby d24_37) rfl k_)
    refine Go T4 (mkF m 39 #[vR a, vR t, vI ct, vI (-1)] [(.int 2)]) ?_ (fun t_ k_ => XS.imul X4.here hx rfl (hb hby d24_38) rfl k_)
    refine Go T4 (mkF m 40 #[vR a, vR t, vI ct, vI (-1)] [(.ref a), (.int 2)]) ?_ (fun t_ k_ => XS.aloadN X4.here hx rfl (hb hby d24_39) rfl rfl k_)
    obtain ⟨T5, X5, e5, st5⟩ := getF X4 hx hZ hown (host := "") (Or.inl (wq hw 160 rfl)) Via.refl e4 tl1.FK (g := (mkF m 40 #[vR a, vR t, vI ct, vI (-1)] [(.ref a), (.int 2)])) rfl rfl (hb hby d24_40)
    refine Go T5 (mkF m 43 #[vR a, vR t, vI ct, vI (-1)] [(.ref ks), (.int 2)]) ?_ st5
    obtain ⟨cK, AK, -, SK, MK, HK, -⟩ := id tl1.VK
    refine Go T5 (mkF m 44 #[vR a, vR t, vI ct, vI (-1)] [(.int cK.slots.size.toInt32), (.int 2)]) ?_ (X5.arraylength hx (by rw [e5]; exact AK.1) (State.isArrayOf_alike hZ.alike AK.2.1) (g := (mkF m 43 #[vR a, vR t, vI ct, vI (-1)] [(.ref ks), (.int 2)])) rfl rfl (hb hby d24_43))
    rw [len_of SK MK]
    refine Go T5 (mkF m 58 #[vR a, vR t, vI ct, vI (-1)] []) ?_ (fun t_ k_ => XS.icmpYes X5.here hx rfl (pc0 := 44) (pc' := 58) rfl (hb hby d24_44) rfl (by decide) (by decide) (by decide) k_)
    refine Go T5 (mkF m 59 #[vR a, vR t, vI ct, vI (-1)] [(.ref a)]) ?_ (fun t_ k_ => XS.aloadN X5.here hx rfl (hb hby d24_58) rfl rfl k_)
    refine Go T5 (mkF m 60 #[vR a, vR t, vI ct, vI (-1)] [(.int (-1)), (.ref a)]) ?_ (fun t_ k_ => XS.iconst X5.here hx rfl (hb hby d24_59) k_)
    refine Go T5 (mkF m 61 #[vR a, vR t, vI ct, vI (-1)] [(.int (-1)), (.int (-1)), (.ref a)]) ?_ (fun t_ k_ => XS.iloadN X5.here hx rfl (hb hby d24_60) rfl k_)
    refine Go T5 (mkF m 62 #[vR a, vR t, vI ct, vI (-1)] [(.int ((-1 : Int32) - (-1 : Int32))), (.ref a)]) ?_ (fun t_ k_ => XS.isub X5.here hx rfl (hb hby d24_61) rfl k_)
    rw [show ((-1 : Int32) - (-1 : Int32)) = (0 : Int32) from by decide]
    refine Go T5 (mkF m 63 #[vR a, vR t, vI ct, vI (-1)] [(.int ct), (.int 0), (.ref a)]) ?_ (fun t_ k_ => XS.iloadN X5.here hx rfl (hb hby d24_62) rfl k_)
    refine Go T5 (mkF m 64 #[vR a, vR t, vI ct, vI (-1)] [(.ref t), (.int ct), (.int 0), (.ref a)]) ?_ (fun t_ k_ => XS.aloadN X5.here hx rfl (hb hby d24_63) rfl rfl k_)
    refine Go T5 (mkF m 65 #[vR a, vR t, vI ct, vI (-1)] [(.int 1), (.ref t), (.int ct), (.int 0), (.ref a)]) ?_ (fun t_ k_ => XS.iconst X5.here hx rfl (hb hby d24_64) k_)
    have VHp : Arv Z T1.heap hc kh .int 4 [.int 0, .int 0, .int 0, .int 0] (.int 0) := tl1.VH.pad (pad_rep [] (.int 0) 4)
    have VKp : Arv Z T1.heap ks kk (.object "java/lang/Object") (2 : Int32) [.null, .null] .null := tl1.VK.pad (pad_rep [] .null 2)
    obtain ⟨cq6, q6, q6'⟩ := tl1.E.cell
    obtain ⟨_, _, ⟨T6, Lq_6, kq_6, nq_6⟩, -, X6, ⟨Lc6, hQ6, l6, y6, z6⟩, st6⟩ := X5.privateBack hx (y := mN16) hown (mvT hZ (wq hw 184 rfl)) (mvT hZ (wq hw 185 rfl)) (mvT hZ (own_selP (y := mN16) (wq hw 151 rfl) (wq hw 186 rfl) (wq hw 185 rfl) (by decide))) (Cond.privateMethod_at (mvP hZ (wq hw 186 rfl) (args := #[]))) (mvT hZ (wq hw 187 rfl)) (by decide) (backOf (W := 0) (rmP0r l Z a0 hw [] a hc ks kh kk 0 0 0 0 .null .null t ct T1.heap n0 Zc1 tl1.E tl1.FH tl1.FK VHp VKp tl1.hne (Nat.le_trans gB tl1.bh) (Nat.le_trans gB tl1.bk) tl1.OV (Ins.of_exa ky1.s1.exa (wq hw 28 rfl))) hZ (wq hw 187 rfl) (wq hw 152 rfl) (by decide) (by decide)) (g := (mkF m 65 #[vR a, vR t, vI ct, vI (-1)] [(.int 1), (.ref t), (.int ct), (.int 0), (.ref a)])) rfl (by rw [hml]; rfl) (Steps.refl _) (a := a) (by rw [e5]; exact q6) q6' (argsL := [(.int 0), (.int ct), (.ref t), (.int 1)]) (rest := []) (lenOf pd_11 rfl) rfl (by show 2 * 0 + _ ≤ _; exact Nat.le_of_eq rfl) (hb hby d24_65) (fun _ _ => ⟨rfl, e5, (by decide : 0 + 0 ≤ _), (by decide : 0 + 0 ≤ _)⟩)
    dsimp only [Pt.U, Pt.locs, Pt.cells, Pt.slots] at X6 l6 y6 z6 st6 hQ6
    rw [l6, y6, z6] at X6
    change Stand p l e _ _ m _ below meth c T6 _ 0 0 at X6
    obtain ⟨rfl, N6q, K6, VHn, VKn⟩ := hQ6
    have N6 := Fr.app N3 N6q
    refine Go T6 (mkF m 68 #[vR a, vR t, vI ct, vI (-1)] []) ?_ (fun t => st6.trans)
    have Zp : n0 ≤ T6.heap.size := Nat.le_trans Zc1 K6.1
    have ky6 := ky1.keep KC K6 (own_sfC (P := fun z => B ≤ z) tl1.bh (own_sfC (P := fun z => B ≤ z) tl1.bk (fun y hy => absurd hy List.not_mem_nil)))
    have fx7 := tl1.FH.keep K6 (ninS ahc (ninS aks nin0))
    have fx8 := tl1.FK.keep K6 (ninS ahc (ninS aks nin0))
    have fx9 := tl1.FS.keep K6 (ninS ahc (ninS aks nin0))
    have fx10 := tl1.FZ.keep K6 (ninS ahc (ninS aks nin0))
    have fx11 := tl1.E.keep K6
    have kp12 := kp2.trans K6 (allS (Or.inl (by simp)) (allS (Or.inl (by simp)) all0))
    refine Go T6 (mkF m 69 #[vR a, vR t, vI ct, vI (-1)] [(.ref a)]) ?_ (fun t_ k_ => XS.aloadN X6.here hx rfl (hb hby d24_68) rfl rfl k_)
    refine Go T6 (mkF m 70 #[vR a, vR t, vI ct, vI (-1)] [(.ref a), (.ref a)]) ?_ (fun t_ k_ => XS.dup X6.here hx rfl (hb hby d24_69) rfl rfl k_)
    obtain ⟨T13, X13, e13, st13⟩ := getF X6 hx hZ hown (host := "") (Or.inl (wq hw 182 rfl)) Via.refl rfl fx10 (g := (mkF m 70 #[vR a, vR t, vI ct, vI (-1)] [(.ref a), (.ref a)])) rfl rfl (hb hby d24_70)
    refine Go T13 (mkF m 73 #[vR a, vR t, vI ct, vI (-1)] [(.int 0), (.ref a)]) ?_ st13
    refine Go T13 (mkF m 74 #[vR a, vR t, vI ct, vI (-1)] [(.int 1), (.int 0), (.ref a)]) ?_ (fun t_ k_ => XS.iconst X13.here hx rfl (hb hby d24_73) k_)
    refine Go T13 (mkF m 75 #[vR a, vR t, vI ct, vI (-1)] [(.int 1), (.ref a)]) ?_ (fun t_ k_ => XS.iadd X13.here hx rfl (hb hby d24_74) rfl k_)
    obtain ⟨T14, h14, X14, e14, W14, st14⟩ := putF X13 hx hZ hown (host := "") (Or.inl (wq hw 182 rfl)) Via.refl e13 fx10 fx11 (Or.inl (wq hw 183 rfl)) (wq hw 151 rfl) (ty := .int) (by decide) rfl rfl (g := (mkF m 75 #[vR a, vR t, vI ct, vI (-1)] [(.int 1), (.ref a)])) rfl rfl (hb hby d24_75)
    have N14 := Fr.snoc X14 N6 (Nat.le_trans gB tl1.ba)
    have Z14 : n0 ≤ h14.size := Nat.le_trans Zp (Nat.le_of_eq W14.size.symm)
    refine Go T14 (mkF m 78 #[vR a, vR t, vI ct, vI (-1)] []) ?_ st14
    have fx15 := fx7.other W14 (Or.inr (slot_ne (Or.inl (wq hw 158 rfl)) (Or.inl (wq hw 183 rfl)) (by decide) (t := (.array .int)) (t' := .int) (by decide) (by decide)))
    have fx16 := fx8.other W14 (Or.inr (slot_ne (Or.inl (wq hw 161 rfl)) (Or.inl (wq hw 183 rfl)) (by decide) (t := (.array (.object "java/lang/Object"))) (t' := .int) (by decide) (by decide)))
    have fx17 := fx9.other W14 (Or.inr (slot_ne (Or.inl (wq hw 163 rfl)) (Or.inl (wq hw 183 rfl)) (by decide) (t := .int) (t' := .int) (by decide) (by decide)))
    have fx18 := fx10.same W14
    have fx19 := fx11.wr W14
    have fx20 := VKn.other W14 (Ne.symm aks)
    have fx21 := VHn.other W14 (Ne.symm ahc)
    have kp22 := kp12.wr W14 (Or.inl (by simp))
    have ky14 := ky6.keep KC ((Keep.refl _ [a]).wr W14 (Or.inl (List.mem_cons_self ..))) (own_sfC (P := fun z => B ≤ z) tl1.ba (fun y hy => absurd hy List.not_mem_nil))
    have TN : Tly Z h14 B a hc ks kh kk t ct (1 : Int32) := ⟨fx19, fx15, fx16, fx17, fx18, (by rw [hbm, own_hs0]; exact fx21), (by rw [hbm, own_ks0]; exact fx20), tl1.OV, tl1.hne, tl1.ba, tl1.bh, tl1.bk⟩
    rw [hWd]
    exact Goes.retn X14 (v := none) (fun fs hr => X14.returnOut hx Bd.returns (hb hby d24_78) hr) (fun _ => rfl) Bd.notSynchronized (by decide) (by decide) (by rw [e14]; exact ⟨rfl, N14, kp22, ky14, TN⟩)
  · rw [hbm]
    have ahc : a ≠ hc := Exa.neArv tl1.E tl1.VH (wq hw 151 rfl)
    have aks : a ≠ ks := Exa.neArv tl1.E tl1.VK (wq hw 151 rfl)
    rw [show ((-1 : Int32) - (1 : Int32)) = (-2 : Int32) from by decide]
    refine Go T3 (mkF m 12 #[vR a, vR t, vI ct, vI (-2)] []) ?_ (fun t_ k_ => XS.istoreN X3.here hx rfl (hb hby d24_11) rfl (l' := #[vR a, vR t, vI ct, vI (-2)]) rfl k_)
    refine Go T3 (mkF m 13 #[vR a, vR t, vI ct, vI (-2)] [(.int (-2))]) ?_ (fun t_ k_ => XS.iloadN X3.here hx rfl (hb hby d24_12) rfl k_)
    refine Go T3 (mkF m 31 #[vR a, vR t, vI ct, vI (-2)] []) ?_ (fun t_ k_ => XS.ifYes X3.here hx rfl (pc0 := 13) (pc' := 31) rfl (hb hby d24_13) rfl (by decide) (by decide) (by decide) k_)
    refine Go T3 (mkF m 32 #[vR a, vR t, vI ct, vI (-2)] [(.int 2)]) ?_ (fun t_ k_ => XS.iconst X3.here hx rfl (hb hby d24_31) k_)
    refine Go T3 (mkF m 33 #[vR a, vR t, vI ct, vI (-2)] [(.ref a), (.int 2)]) ?_ (fun t_ k_ => XS.aloadN X3.here hx rfl (hb hby d24_32) rfl rfl k_)
    obtain ⟨T23, X23, e23, st23⟩ := getF X3 hx hZ hown (host := "") (Or.inl (wq hw 182 rfl)) Via.refl eh3 tl1.FZ (g := (mkF m 33 #[vR a, vR t, vI ct, vI (-2)] [(.ref a), (.int 2)])) rfl rfl (hb hby d24_33)
    refine Go T23 (mkF m 36 #[vR a, vR t, vI ct, vI (-2)] [(.int 0), (.int 2)]) ?_ st23
    refine Go T23 (mkF m 37 #[vR a, vR t, vI ct, vI (-2)] [(.int 1), (.int 0), (.int 2)]) ?_ (fun t_ k_ => XS.iconst X23.here hx rfl (hb hby d24_36) k_)
    refine Go T23 (mkF m 38 #[vR a, vR t, vI ct, vI (-2)] [(.int 1), (.int 2)]) ?_ (fun t_ k_ => XS.iadd X23.here hx rfl (hb hby d24_37) rfl k_)
    refine Go T23 (mkF m 39 #[vR a, vR t, vI ct, vI (-2)] [(.int 2)]) ?_ (fun t_ k_ => XS.imul X23.here hx rfl (hb hby d24_38) rfl k_)
    refine Go T23 (mkF m 40 #[vR a, vR t, vI ct, vI (-2)] [(.ref a), (.int 2)]) ?_ (fun t_ k_ => XS.aloadN X23.here hx rfl (hb hby d24_39) rfl rfl k_)
    obtain ⟨T24, X24, e24, st24⟩ := getF X23 hx hZ hown (host := "") (Or.inl (wq hw 160 rfl)) Via.refl e23 tl1.FK (g := (mkF m 40 #[vR a, vR t, vI ct, vI (-2)] [(.ref a), (.int 2)])) rfl rfl (hb hby d24_40)
    refine Go T24 (mkF m 43 #[vR a, vR t, vI ct, vI (-2)] [(.ref ks), (.int 2)]) ?_ st24
    obtain ⟨cK, AK, -, SK, MK, HK, -⟩ := id tl1.VK
    refine Go T24 (mkF m 44 #[vR a, vR t, vI ct, vI (-2)] [(.int cK.slots.size.toInt32), (.int 2)]) ?_ (X24.arraylength hx (by rw [e24]; exact AK.1) (State.isArrayOf_alike hZ.alike AK.2.1) (g := (mkF m 43 #[vR a, vR t, vI ct, vI (-2)] [(.ref ks), (.int 2)])) rfl rfl (hb hby d24_43))
    rw [len_of SK MK]
    refine Go T24 (mkF m 58 #[vR a, vR t, vI ct, vI (-2)] []) ?_ (fun t_ k_ => XS.icmpYes X24.here hx rfl (pc0 := 44) (pc' := 58) rfl (hb hby d24_44) rfl (by decide) (by decide) (by decide) k_)
    refine Go T24 (mkF m 59 #[vR a, vR t, vI ct, vI (-2)] [(.ref a)]) ?_ (fun t_ k_ => XS.aloadN X24.here hx rfl (hb hby d24_58) rfl rfl k_)
    refine Go T24 (mkF m 60 #[vR a, vR t, vI ct, vI (-2)] [(.int (-1)), (.ref a)]) ?_ (fun t_ k_ => XS.iconst X24.here hx rfl (hb hby d24_59) k_)
    refine Go T24 (mkF m 61 #[vR a, vR t, vI ct, vI (-2)] [(.int (-2)), (.int (-1)), (.ref a)]) ?_ (fun t_ k_ => XS.iloadN X24.here hx rfl (hb hby d24_60) rfl k_)
    refine Go T24 (mkF m 62 #[vR a, vR t, vI ct, vI (-2)] [(.int ((-1 : Int32) - (-2 : Int32))), (.ref a)]) ?_ (fun t_ k_ => XS.isub X24.here hx rfl (hb hby d24_61) rfl k_)
    rw [show ((-1 : Int32) - (-2 : Int32)) = (1 : Int32) from by decide]
    refine Go T24 (mkF m 63 #[vR a, vR t, vI ct, vI (-2)] [(.int ct), (.int 1), (.ref a)]) ?_ (fun t_ k_ => XS.iloadN X24.here hx rfl (hb hby d24_62) rfl k_)
    refine Go T24 (mkF m 64 #[vR a, vR t, vI ct, vI (-2)] [(.ref t), (.int ct), (.int 1), (.ref a)]) ?_ (fun t_ k_ => XS.aloadN X24.here hx rfl (hb hby d24_63) rfl rfl k_)
    refine Go T24 (mkF m 65 #[vR a, vR t, vI ct, vI (-2)] [(.int 1), (.ref t), (.int ct), (.int 1), (.ref a)]) ?_ (fun t_ k_ => XS.iconst X24.here hx rfl (hb hby d24_64) k_)
    have VHp : Arv Z T1.heap hc kh .int 4 [.int 0, .int 0, .int 0, .int 0] (.int 0) := tl1.VH.pad (pad_rep [] (.int 0) 4)
    have VKp : Arv Z T1.heap ks kk (.object "java/lang/Object") (2 : Int32) [.null, .null] .null := tl1.VK.pad (pad_rep [] .null 2)
    obtain ⟨cq25, q25, q25'⟩ := tl1.E.cell
    obtain ⟨_, _, ⟨T25, Lq_25, kq_25, nq_25⟩, -, X25, ⟨Lc25, hQ25, l25, y25, z25⟩, st25⟩ := X24.privateBack hx (y := mN16) hown (mvT hZ (wq hw 184 rfl)) (mvT hZ (wq hw 185 rfl)) (mvT hZ (own_selP (y := mN16) (wq hw 151 rfl) (wq hw 186 rfl) (wq hw 185 rfl) (by decide))) (Cond.privateMethod_at (mvP hZ (wq hw 186 rfl) (args := #[]))) (mvT hZ (wq hw 187 rfl)) (by decide) (backOf (W := 0) (rmP1r l Z a0 hw [] a hc ks kh kk 0 0 0 0 .null .null t ct T1.heap n0 Zc1 tl1.E tl1.FH tl1.FK VHp VKp tl1.hne (Nat.le_trans gB tl1.bh) (Nat.le_trans gB tl1.bk) tl1.OV (Ins.of_exa ky1.s1.exa (wq hw 28 rfl))) hZ (wq hw 187 rfl) (wq hw 152 rfl) (by decide) (by decide)) (g := (mkF m 65 #[vR a, vR t, vI ct, vI (-2)] [(.int 1), (.ref t), (.int ct), (.int 1), (.ref a)])) rfl (by rw [hml]; rfl) (Steps.refl _) (a := a) (by rw [e24]; exact q25) q25' (argsL := [(.int 1), (.int ct), (.ref t), (.int 1)]) (rest := []) (lenOf pd_11 rfl) rfl (by show 2 * 0 + _ ≤ _; exact Nat.le_of_eq rfl) (hb hby d24_65) (fun _ _ => ⟨rfl, e24, (by decide : 0 + 0 ≤ _), (by decide : 0 + 0 ≤ _)⟩)
    dsimp only [Pt.U, Pt.locs, Pt.cells, Pt.slots] at X25 l25 y25 z25 st25 hQ25
    rw [l25, y25, z25] at X25
    change Stand p l e _ _ m _ below meth c T25 _ 0 0 at X25
    obtain ⟨rfl, N25q, K25, VHn, VKn⟩ := hQ25
    have N25 := Fr.app N3 N25q
    refine Go T25 (mkF m 68 #[vR a, vR t, vI ct, vI (-2)] []) ?_ (fun t => st25.trans)
    have Zp : n0 ≤ T25.heap.size := Nat.le_trans Zc1 K25.1
    have ky25 := ky1.keep KC K25 (own_sfC (P := fun z => B ≤ z) tl1.bh (own_sfC (P := fun z => B ≤ z) tl1.bk (fun y hy => absurd hy List.not_mem_nil)))
    have fx26 := tl1.FH.keep K25 (ninS ahc (ninS aks nin0))
    have fx27 := tl1.FK.keep K25 (ninS ahc (ninS aks nin0))
    have fx28 := tl1.FS.keep K25 (ninS ahc (ninS aks nin0))
    have fx29 := tl1.FZ.keep K25 (ninS ahc (ninS aks nin0))
    have fx30 := tl1.E.keep K25
    have kp31 := kp2.trans K25 (allS (Or.inl (by simp)) (allS (Or.inl (by simp)) all0))
    refine Go T25 (mkF m 69 #[vR a, vR t, vI ct, vI (-2)] [(.ref a)]) ?_ (fun t_ k_ => XS.aloadN X25.here hx rfl (hb hby d24_68) rfl rfl k_)
    refine Go T25 (mkF m 70 #[vR a, vR t, vI ct, vI (-2)] [(.ref a), (.ref a)]) ?_ (fun t_ k_ => XS.dup X25.here hx rfl (hb hby d24_69) rfl rfl k_)
    obtain ⟨T32, X32, e32, st32⟩ := getF X25 hx hZ hown (host := "") (Or.inl (wq hw 182 rfl)) Via.refl rfl fx29 (g := (mkF m 70 #[vR a, vR t, vI ct, vI (-2)] [(.ref a), (.ref a)])) rfl rfl (hb hby d24_70)
    refine Go T32 (mkF m 73 #[vR a, vR t, vI ct, vI (-2)] [(.int 0), (.ref a)]) ?_ st32
    refine Go T32 (mkF m 74 #[vR a, vR t, vI ct, vI (-2)] [(.int 1), (.int 0), (.ref a)]) ?_ (fun t_ k_ => XS.iconst X32.here hx rfl (hb hby d24_73) k_)
    refine Go T32 (mkF m 75 #[vR a, vR t, vI ct, vI (-2)] [(.int 1), (.ref a)]) ?_ (fun t_ k_ => XS.iadd X32.here hx rfl (hb hby d24_74) rfl k_)
    obtain ⟨T33, h33, X33, e33, W33, st33⟩ := putF X32 hx hZ hown (host := "") (Or.inl (wq hw 182 rfl)) Via.refl e32 fx29 fx30 (Or.inl (wq hw 183 rfl)) (wq hw 151 rfl) (ty := .int) (by decide) rfl rfl (g := (mkF m 75 #[vR a, vR t, vI ct, vI (-2)] [(.int 1), (.ref a)])) rfl rfl (hb hby d24_75)
    have N33 := Fr.snoc X33 N25 (Nat.le_trans gB tl1.ba)
    have Z33 : n0 ≤ h33.size := Nat.le_trans Zp (Nat.le_of_eq W33.size.symm)
    refine Go T33 (mkF m 78 #[vR a, vR t, vI ct, vI (-2)] []) ?_ st33
    have fx34 := fx26.other W33 (Or.inr (slot_ne (Or.inl (wq hw 158 rfl)) (Or.inl (wq hw 183 rfl)) (by decide) (t := (.array .int)) (t' := .int) (by decide) (by decide)))
    have fx35 := fx27.other W33 (Or.inr (slot_ne (Or.inl (wq hw 161 rfl)) (Or.inl (wq hw 183 rfl)) (by decide) (t := (.array (.object "java/lang/Object"))) (t' := .int) (by decide) (by decide)))
    have fx36 := fx28.other W33 (Or.inr (slot_ne (Or.inl (wq hw 163 rfl)) (Or.inl (wq hw 183 rfl)) (by decide) (t := .int) (t' := .int) (by decide) (by decide)))
    have fx37 := fx29.same W33
    have fx38 := fx30.wr W33
    have fx39 := VKn.other W33 (Ne.symm aks)
    have fx40 := VHn.other W33 (Ne.symm ahc)
    have kp41 := kp31.wr W33 (Or.inl (by simp))
    have ky33 := ky25.keep KC ((Keep.refl _ [a]).wr W33 (Or.inl (List.mem_cons_self ..))) (own_sfC (P := fun z => B ≤ z) tl1.ba (fun y hy => absurd hy List.not_mem_nil))
    have TN : Tly Z h33 B a hc ks kh kk t ct (1 : Int32) := ⟨fx38, fx34, fx35, fx36, fx37, (by rw [hbm, own_hs1]; exact fx40), (by rw [hbm, own_ks1]; exact fx39), tl1.OV, tl1.hne, tl1.ba, tl1.bh, tl1.bk⟩
    rw [hWd]
    exact Goes.retn X33 (v := none) (fun fs hr => X33.returnOut hx Bd.returns (hb hby d24_78) hr) (fun _ => rfl) Bd.notSynchronized (by decide) (by decide) (by rw [e33]; exact ⟨rfl, N33, kp41, ky33, TN⟩)
def QAS1 (Z : State) (B : Nat) (t tt i ti r tr ku ko : Addr) (kt ki kr : ClassId) (ct ci cr w2 : Int32) (zc : Int32) (a hc ks : Addr) (kh kk : ClassId) (mc : Int32) (h0 : Heap) (n0 : Nat) (v : Option Value) (h : Heap) (L : List Loc) : Prop := v = none ∧ Fr n0 L ∧ Keep h0 h [t, i, r, a, hc, ks] ∧ KA Z h t tt i ti r tr ku ko kt ki kr ct ci cr w2 ∧ Tly Z h B a hc ks kh kk t ct (mc + (1 : Int32))
set_option maxRecDepth 65536 in
set_option maxHeartbeats 40000000 in
theorem rmAS1 (l : Launch) (Z : State) (a0 : Array Value) (hw : ∀ d ∈ tables_1, d.before a0 Z = true) (ws : List Jvm.Cond) (B : Nat) (t tt i ti r tr ku ko : Addr) (kt ki kr : ClassId) (ct ci cr w2 : Int32) (zc : Int32) (a hc ks : Addr) (kh kk : ClassId) (mc : Int32) (h0 : Heap) (n0 : Nat) (Z0 : n0 ≤ h0.size) (KY : KA Z h0 t tt i ti r tr ku ko kt ki kr ct ci cr w2) (KC : KD n0 B t tt i ti r tr ku ko ct ci cr) (gB : n0 ≤ B) (bB : B ≤ h0.size) (CS : Sta Z Z.heap "java/lang/String" "COMPACT_STRINGS" "Z" (.int zc)) (hzc : ¬ zc = (0 : Int32)) (X0_ : Old Z n0 h0) (TL : Tly Z h0 B a hc ks kh kk t ct mc) (hm : ¬ mc = 0) :
    MetFree l mN24 (head1 (Jvm.Cond.code mN24 cD21 4 none :: ws) ({ frames := 2, cells := 0, slots := 0, locals := 36 } : Room)) (fun a_ U => a_ = #[(.ref a), (.ref t)] ∧ Z.Warmed39 U.vm ∧ U.heap = h0) (fun _ _ _ _ _ => True) (fun _ U o U' => ∃ v L, o = .returned v ∧ QAS1 Z B t tt i ti r tr ku ko kt ki kr ct ci cr w2 zc a hc ks kh kk mc h0 n0 v U'.heap L ∧ FrameEnd U o U' L ({ frames := 2, cells := 0, slots := 0, locals := 36 } : Room).cells ({ frames := 2, cells := 0, slots := 0, locals := 36 } : Room).slots) := by
  refine MetFree.of_bodySF (plainFor_of_name pn_5) hisR ?_
  intro p e s m args below meth c s₁ Bd hml0 hP hK
  obtain ⟨rfl, hZ, hh⟩ := hP
  have hx := Bd.exec
  have hby := Bd.bytes
  have hml : c.maxLocals = 4 := hml0
  have hown : s.vm.findClass "com/example/entitlement/entitlement/Tally" = some m.cls := findClass_of_methodNamed Bd.named
  have hnm := (name_of_methodNamed Bd.named Bd.method).1
  have X0 : Stand p l e ({ frames := 2, cells := 0, slots := 0, locals := 36 } : Room) s m #[(.ref a), (.ref t)] below meth c s₁ [] 0 0 := Stand.of_body Bd
  have e0 : s₁.heap = h0 := by rw [← hh, Bd.state]; rfl
  have N0 := Fr.nil n0
  refine Goes.done ?_
  obtain ⟨W, hWd⟩ : ∃ W : State → Prop, W = EndW s below (QAS1 Z B t tt i ti r tr ku ko kt ki kr ct ci cr w2 zc a hc ks kh kk mc h0 n0) ({ frames := 2, cells := 0, slots := 0, locals := 36 } : Room).cells ({ frames := 2, cells := 0, slots := 0, locals := 36 } : Room).slots := ⟨_, rfl⟩
  rw [← hWd]
  have hef : entryFrame m #[(.ref a), (.ref t)] 4 = (mkF m 0 #[vR a, vR t, .unset, .unset] []) := by first | (simp [entryFrame, mkF, argsToLocals, Value.category]; done) | rfl
  rw [hef]
  refine Go s₁ (mkF m 1 #[vR a, vR t, .unset, .unset] [(.ref t)]) ?_ (fun t_ k_ => XS.aloadN X0.here hx rfl (hb hby d24_0) rfl rfl k_)
  obtain ⟨cq1, kq1, q1a, q1b, q1c⟩ := isOf hZ e0 KY.s1.exa
  obtain ⟨_, _, ⟨T1, Lq_1, kq_1, nq_1⟩, -, X1, ⟨Lc1, hQ1, l1, y1, z1⟩, st1⟩ := X0.virtualBack hx (y := mN20) (z := mN9) hown (mvT hZ (wq hw 169 rfl)) (mvT hZ (wq hw 170 rfl)) (own_nfO hZ (wq hw 138 rfl) rfl) (mvT hZ (wq hw 172 rfl)) (mvT hZ (wq hw 82 rfl)) (by decide) (backOf (W := 0) (rmSH l Z a0 hw [] t tt kt ct zc h0 n0 Z0 KY.s1 KC.g1 KC.b1 KC.b2 CS hzc X0_) hZ (wq hw 84 rfl) (wq hw 2 rfl) (by decide) (by decide)) q1a q1c (g := (mkF m 1 #[vR a, vR t, .unset, .unset] [(.ref t)])) rfl (by rw [hml]; rfl) (Steps.refl _) (argsL := []) (rest := []) (lenOf pd_9 rfl) rfl (by show 2 * 0 + _ ≤ _; exact Nat.le_of_eq rfl) (hb hby d24_1) (fun _ _ => ⟨rfl, e0, (by decide : 0 + 0 ≤ _), (by decide : 0 + 0 ≤ _)⟩)
  dsimp only [Pt.U, Pt.locs, Pt.cells, Pt.slots] at X1 l1 y1 z1 st1 hQ1
  rw [l1, y1, z1] at X1
  change Stand p l e _ _ m _ below meth c T1 _ 0 0 at X1
  obtain ⟨rfl, N1q, K1, SN1⟩ := hQ1
  have N1 := Fr.app N0 N1q
  refine Go T1 (mkF m 4 #[vR a, vR t, .unset, .unset] [(.int ct)]) ?_ (fun t => st1.trans)
  have Zc1 : n0 ≤ T1.heap.size := Nat.le_trans Z0 K1.1
  have ky1 := KY.put1 KC K1 SN1
  have xo1 : Old Z n0 T1.heap := X0_.keep K1 (allS KC.g1 all0)
  have kp2 := (Keep.refl h0 [t, i, r, a, hc, ks]).trans K1 (allS (Or.inl (by simp)) all0)
  have bb1 : B ≤ T1.heap.size := Nat.le_trans bB K1.1
  have tl1 := TL.keep K1 (own_nhi TL.ba (own_sfC KC.l1 (fun y hy => absurd hy List.not_mem_nil))) (own_nhi TL.bh (own_sfC KC.l1 (fun y hy => absurd hy List.not_mem_nil))) (own_nhi TL.bk (own_sfC KC.l1 (fun y hy => absurd hy List.not_mem_nil)))
  refine Go T1 (mkF m 5 #[vR a, vR t, vI ct, .unset] []) ?_ (fun t_ k_ => XS.istoreN X1.here hx rfl (hb hby d24_4) rfl (l' := #[vR a, vR t, vI ct, .unset]) rfl k_)
  refine Go T1 (mkF m 6 #[vR a, vR t, vI ct, .unset] [(.ref a)]) ?_ (fun t_ k_ => XS.aloadN X1.here hx rfl (hb hby d24_5) rfl rfl k_)
  refine Go T1 (mkF m 7 #[vR a, vR t, vI ct, .unset] [(.ref t), (.ref a)]) ?_ (fun t_ k_ => XS.aloadN X1.here hx rfl (hb hby d24_6) rfl rfl k_)
  refine Go T1 (mkF m 8 #[vR a, vR t, vI ct, .unset] [(.int ct), (.ref t), (.ref a)]) ?_ (fun t_ k_ => XS.iloadN X1.here hx rfl (hb hby d24_7) rfl k_)
  obtain ⟨cq3, q3, q3'⟩ := tl1.E.cell
  obtain ⟨_, _, ⟨T3, Lq_3, kq_3, nq_3⟩, -, X3, ⟨Lc3, hQ3, l3, y3, z3⟩, st3⟩ := X1.privateBack hx (y := mN15) hown (mvT hZ (wq hw 173 rfl)) (mvT hZ (wq hw 174 rfl)) (mvT hZ (own_selP (y := mN15) (wq hw 151 rfl) (wq hw 175 rfl) (wq hw 174 rfl) (by decide))) (Cond.privateMethod_at (mvP hZ (wq hw 175 rfl) (args := #[]))) (mvT hZ (wq hw 176 rfl)) (by decide) (backOf (W := 0) (rmF1 l Z a0 hw [] B a hc ks kh kk t ct mc T1.heap n0 Zc1 tl1 hm) hZ (wq hw 176 rfl) (wq hw 152 rfl) (by decide) (by decide)) (g := (mkF m 8 #[vR a, vR t, vI ct, .unset] [(.int ct), (.ref t), (.ref a)])) rfl (by rw [hml]; rfl) (Steps.refl _) (a := a) q3 q3' (argsL := [(.ref t), (.int ct)]) (rest := []) (lenOf pd_13 rfl) rfl (by show 2 * 0 + _ ≤ _; exact Nat.le_of_eq rfl) (hb hby d24_8) (fun _ _ => ⟨rfl, rfl, (by decide : 0 + 0 ≤ _), (by decide : 0 + 0 ≤ _)⟩)
  dsimp only [Pt.U, Pt.locs, Pt.cells, Pt.slots] at X3 l3 y3 z3 st3 hQ3
  rw [l3, y3, z3] at X3
  change Stand p l e _ _ m _ below meth c T3 _ 0 0 at X3
  obtain ⟨rfl, N3q, eh3⟩ := hQ3
  have N3 := Fr.app N1 N3q
  refine Go T3 (mkF m 11 #[vR a, vR t, vI ct, .unset] [(.int (own_home ct))]) ?_ (fun t => st3.trans)
  rcases own_home_b ct with hbm | hbm
  · rw [hbm]
    have ahc : a ≠ hc := Exa.neArv tl1.E tl1.VH (wq hw 151 rfl)
    have aks : a ≠ ks := Exa.neArv tl1.E tl1.VK (wq hw 151 rfl)
    have VHb : Arv Z T1.heap hc kh .int 4 [.int ct, .int mc, .int 0, .int 0] (.int 0) := by have q := tl1.VH; rw [hbm, own_hs0] at q; exact q
    obtain ⟨cH, AH, qH, SH_, MH, HH, GH⟩ := id VHb
    refine Go T3 (mkF m 12 #[vR a, vR t, vI ct, vI 0] []) ?_ (fun t_ k_ => XS.istoreN X3.here hx rfl (hb hby d24_11) rfl (l' := #[vR a, vR t, vI ct, vI 0]) rfl k_)
    refine Go T3 (mkF m 13 #[vR a, vR t, vI ct, vI 0] [(.int 0)]) ?_ (fun t_ k_ => XS.iloadN X3.here hx rfl (hb hby d24_12) rfl k_)
    refine Go T3 (mkF m 16 #[vR a, vR t, vI ct, vI 0] []) ?_ (fun t_ k_ => XS.ifNo X3.here hx rfl (hb hby d24_13) rfl (by decide) k_)
    refine Go T3 (mkF m 17 #[vR a, vR t, vI ct, vI 0] [(.ref a)]) ?_ (fun t_ k_ => XS.aloadN X3.here hx rfl (hb hby d24_16) rfl rfl k_)
    obtain ⟨T4, X4, e4, st4⟩ := getF X3 hx hZ hown (host := "") (Or.inl (wq hw 157 rfl)) Via.refl eh3 tl1.FH (g := (mkF m 17 #[vR a, vR t, vI ct, vI 0] [(.ref a)])) rfl rfl (hb hby d24_17)
    refine Go T4 (mkF m 20 #[vR a, vR t, vI ct, vI 0] [(.ref hc)]) ?_ st4
    refine Go T4 (mkF m 21 #[vR a, vR t, vI ct, vI 0] [(.int 2), (.ref hc)]) ?_ (fun t_ k_ => XS.iconst X4.here hx rfl (hb hby d24_20) k_)
    refine Go T4 (mkF m 22 #[vR a, vR t, vI ct, vI 0] [(.int 0), (.int 2), (.ref hc)]) ?_ (fun t_ k_ => XS.iloadN X4.here hx rfl (hb hby d24_21) rfl k_)
    refine Go T4 (mkF m 23 #[vR a, vR t, vI ct, vI 0] [(.int 0), (.ref hc)]) ?_ (fun t_ k_ => XS.imul X4.here hx rfl (hb hby d24_22) rfl k_)
    refine Go T4 (mkF m 24 #[vR a, vR t, vI ct, vI 0] [(.int 1), (.int 0), (.ref hc)]) ?_ (fun t_ k_ => XS.iconst X4.here hx rfl (hb hby d24_23) k_)
    refine Go T4 (mkF m 25 #[vR a, vR t, vI ct, vI 0] [(.int 1), (.ref hc)]) ?_ (fun t_ k_ => XS.iadd X4.here hx rfl (hb hby d24_24) rfl k_)
    refine Go T4 (mkF m 26 #[vR a, vR t, vI ct, vI 0] [(.int 1), (.ref hc), (.int 1), (.ref hc)]) ?_ (fun t_ k_ => Jvm.Free.XT.dup2 X4.here hx rfl (hb hby d24_25) rfl rfl rfl k_)
    refine Go T4 (mkF m 27 #[vR a, vR t, vI ct, vI 0] [(.int mc), (.int 1), (.ref hc)]) ?_ (X4.iaload hx (j := (1 : Int32)) (v := (.int mc)) (by rw [e4]; exact AH.1) (State.isArrayOf_alike hZ.alike AH.2.1) AH.2.2 (inb_of SH_ ⟨by decide, by decide⟩) (by have q := HH 1 (by rw [SH_]; decide); exact q) (g := (mkF m 26 #[vR a, vR t, vI ct, vI 0] [(.int 1), (.ref hc), (.int 1), (.ref hc)])) rfl rfl (hb hby d24_26))
    refine Go T4 (mkF m 28 #[vR a, vR t, vI ct, vI 0] [(.int 1), (.int mc), (.int 1), (.ref hc)]) ?_ (fun t_ k_ => XS.iconst X4.here hx rfl (hb hby d24_27) k_)
    refine Go T4 (mkF m 29 #[vR a, vR t, vI ct, vI 0] [(.int (mc + (1 : Int32))), (.int 1), (.ref hc)]) ?_ (fun t_ k_ => XS.iadd X4.here hx rfl (hb hby d24_28) rfl k_)
    obtain ⟨T5, h5, X5, e5, W5, st5⟩ := stI X4 hx hZ e4 AH (j := (1 : Int32)) (inb_of SH_ ⟨by decide, by decide⟩) (g := (mkF m 29 #[vR a, vR t, vI ct, vI 0] [(.int (mc + (1 : Int32))), (.int 1), (.ref hc)])) rfl rfl (hb hby d24_29)
    have N5 := Fr.snoc X5 N3 (Nat.le_trans gB tl1.bh)
    have Z5 : n0 ≤ h5.size := Nat.le_trans Zc1 (Nat.le_of_eq W5.size.symm)
    refine Go T5 (mkF m 30 #[vR a, vR t, vI ct, vI 0] []) ?_ st5
    have fx6 := tl1.FH.other W5 (Or.inl ahc)
    have fx7 := tl1.FK.other W5 (Or.inl ahc)
    have fx8 := tl1.FS.other W5 (Or.inl ahc)
    have fx9 := tl1.FZ.other W5 (Or.inl ahc)
    have fx10 := tl1.E.wr W5
    have fx11 := tl1.VK.other W5 (Ne.symm tl1.hne)
    have kp12 := kp2.wr W5 (Or.inl (by simp))
    have V5 : Arv Z h5 hc kh .int 4 [.int ct, .int (mc + (1 : Int32)), .int 0, .int 0] (.int 0) := Arv.set AH qH SH_ MH HH GH rfl W5 1 rfl (Nat.le_of_ble_eq_true rfl)
    have ky5 := ky1.keep KC ((Keep.refl _ [hc]).wr W5 (Or.inl (List.mem_cons_self ..))) (own_sfC (P := fun z => B ≤ z) tl1.bh (fun y hy => absurd hy List.not_mem_nil))
    have TN : Tly Z h5 B a hc ks kh kk t ct (mc + (1 : Int32)) := ⟨fx10, fx6, fx7, fx8, fx9, (by rw [hbm, own_hs0]; exact V5), fx11, tl1.OV, tl1.hne, tl1.ba, tl1.bh, tl1.bk⟩
    rw [hWd]
    exact Goes.retn X5 (v := none) (fun fs hr => X5.returnOut hx Bd.returns (hb hby d24_30) hr) (fun _ => rfl) Bd.notSynchronized (by decide) (by decide) (by rw [e5]; exact ⟨rfl, N5, kp12, ky5, TN⟩)
  · rw [hbm]
    have ahc : a ≠ hc := Exa.neArv tl1.E tl1.VH (wq hw 151 rfl)
    have aks : a ≠ ks := Exa.neArv tl1.E tl1.VK (wq hw 151 rfl)
    have VHb : Arv Z T1.heap hc kh .int 4 [.int 0, .int 0, .int ct, .int mc] (.int 0) := by have q := tl1.VH; rw [hbm, own_hs1] at q; exact q
    obtain ⟨cH, AH, qH, SH_, MH, HH, GH⟩ := id VHb
    refine Go T3 (mkF m 12 #[vR a, vR t, vI ct, vI 1] []) ?_ (fun t_ k_ => XS.istoreN X3.here hx rfl (hb hby d24_11) rfl (l' := #[vR a, vR t, vI ct, vI 1]) rfl k_)
    refine Go T3 (mkF m 13 #[vR a, vR t, vI ct, vI 1] [(.int 1)]) ?_ (fun t_ k_ => XS.iloadN X3.here hx rfl (hb hby d24_12) rfl k_)
    refine Go T3 (mkF m 16 #[vR a, vR t, vI ct, vI 1] []) ?_ (fun t_ k_ => XS.ifNo X3.here hx rfl (hb hby d24_13) rfl (by decide) k_)
    refine Go T3 (mkF m 17 #[vR a, vR t, vI ct, vI 1] [(.ref a)]) ?_ (fun t_ k_ => XS.aloadN X3.here hx rfl (hb hby d24_16) rfl rfl k_)
    obtain ⟨T13, X13, e13, st13⟩ := getF X3 hx hZ hown (host := "") (Or.inl (wq hw 157 rfl)) Via.refl eh3 tl1.FH (g := (mkF m 17 #[vR a, vR t, vI ct, vI 1] [(.ref a)])) rfl rfl (hb hby d24_17)
    refine Go T13 (mkF m 20 #[vR a, vR t, vI ct, vI 1] [(.ref hc)]) ?_ st13
    refine Go T13 (mkF m 21 #[vR a, vR t, vI ct, vI 1] [(.int 2), (.ref hc)]) ?_ (fun t_ k_ => XS.iconst X13.here hx rfl (hb hby d24_20) k_)
    refine Go T13 (mkF m 22 #[vR a, vR t, vI ct, vI 1] [(.int 1), (.int 2), (.ref hc)]) ?_ (fun t_ k_ => XS.iloadN X13.here hx rfl (hb hby d24_21) rfl k_)
    refine Go T13 (mkF m 23 #[vR a, vR t, vI ct, vI 1] [(.int 2), (.ref hc)]) ?_ (fun t_ k_ => XS.imul X13.here hx rfl (hb hby d24_22) rfl k_)
    refine Go T13 (mkF m 24 #[vR a, vR t, vI ct, vI 1] [(.int 1), (.int 2), (.ref hc)]) ?_ (fun t_ k_ => XS.iconst X13.here hx rfl (hb hby d24_23) k_)
    refine Go T13 (mkF m 25 #[vR a, vR t, vI ct, vI 1] [(.int 3), (.ref hc)]) ?_ (fun t_ k_ => XS.iadd X13.here hx rfl (hb hby d24_24) rfl k_)
    refine Go T13 (mkF m 26 #[vR a, vR t, vI ct, vI 1] [(.int 3), (.ref hc), (.int 3), (.ref hc)]) ?_ (fun t_ k_ => Jvm.Free.XT.dup2 X13.here hx rfl (hb hby d24_25) rfl rfl rfl k_)
    refine Go T13 (mkF m 27 #[vR a, vR t, vI ct, vI 1] [(.int mc), (.int 3), (.ref hc)]) ?_ (X13.iaload hx (j := (3 : Int32)) (v := (.int mc)) (by rw [e13]; exact AH.1) (State.isArrayOf_alike hZ.alike AH.2.1) AH.2.2 (inb_of SH_ ⟨by decide, by decide⟩) (by have q := HH 3 (by rw [SH_]; decide); exact q) (g := (mkF m 26 #[vR a, vR t, vI ct, vI 1] [(.int 3), (.ref hc), (.int 3), (.ref hc)])) rfl rfl (hb hby d24_26))
    refine Go T13 (mkF m 28 #[vR a, vR t, vI ct, vI 1] [(.int 1), (.int mc), (.int 3), (.ref hc)]) ?_ (fun t_ k_ => XS.iconst X13.here hx rfl (hb hby d24_27) k_)
    refine Go T13 (mkF m 29 #[vR a, vR t, vI ct, vI 1] [(.int (mc + (1 : Int32))), (.int 3), (.ref hc)]) ?_ (fun t_ k_ => XS.iadd X13.here hx rfl (hb hby d24_28) rfl k_)
    obtain ⟨T14, h14, X14, e14, W14, st14⟩ := stI X13 hx hZ e13 AH (j := (3 : Int32)) (inb_of SH_ ⟨by decide, by decide⟩) (g := (mkF m 29 #[vR a, vR t, vI ct, vI 1] [(.int (mc + (1 : Int32))), (.int 3), (.ref hc)])) rfl rfl (hb hby d24_29)
    have N14 := Fr.snoc X14 N3 (Nat.le_trans gB tl1.bh)
    have Z14 : n0 ≤ h14.size := Nat.le_trans Zc1 (Nat.le_of_eq W14.size.symm)
    refine Go T14 (mkF m 30 #[vR a, vR t, vI ct, vI 1] []) ?_ st14
    have fx15 := tl1.FH.other W14 (Or.inl ahc)
    have fx16 := tl1.FK.other W14 (Or.inl ahc)
    have fx17 := tl1.FS.other W14 (Or.inl ahc)
    have fx18 := tl1.FZ.other W14 (Or.inl ahc)
    have fx19 := tl1.E.wr W14
    have fx20 := tl1.VK.other W14 (Ne.symm tl1.hne)
    have kp21 := kp2.wr W14 (Or.inl (by simp))
    have V14 : Arv Z h14 hc kh .int 4 [.int 0, .int 0, .int ct, .int (mc + (1 : Int32))] (.int 0) := Arv.set AH qH SH_ MH HH GH rfl W14 3 rfl (Nat.le_of_ble_eq_true rfl)
    have ky14 := ky1.keep KC ((Keep.refl _ [hc]).wr W14 (Or.inl (List.mem_cons_self ..))) (own_sfC (P := fun z => B ≤ z) tl1.bh (fun y hy => absurd hy List.not_mem_nil))
    have TN : Tly Z h14 B a hc ks kh kk t ct (mc + (1 : Int32)) := ⟨fx19, fx15, fx16, fx17, fx18, (by rw [hbm, own_hs1]; exact V14), fx20, tl1.OV, tl1.hne, tl1.ba, tl1.bh, tl1.bk⟩
    rw [hWd]
    exact Goes.retn X14 (v := none) (fun fs hr => X14.returnOut hx Bd.returns (hb hby d24_30) hr) (fun _ => rfl) Bd.notSynchronized (by decide) (by decide) (by rw [e14]; exact ⟨rfl, N14, kp21, ky14, TN⟩)
def QRS0 (Z : State) (B : Nat) (t tt i ti r tr ku ko : Addr) (kt ki kr : ClassId) (ct ci cr w2 : Int32) (zc : Int32) (a hc ks : Addr) (kh kk : ClassId) (h0 : Heap) (n0 : Nat) (v : Option Value) (h : Heap) (L : List Loc) : Prop := v = some (.int 1) ∧ Fr n0 L ∧ Keep h0 h [t, i, r, a, hc, ks] ∧ KA Z h t tt i ti r tr ku ko kt ki kr ct ci cr w2 ∧ Exa Z h a "com/example/entitlement/entitlement/Tally" ∧ Fld Z h a "com/example/entitlement/entitlement/Tally" "size" "I" (.int 0)
set_option maxRecDepth 65536 in
set_option maxHeartbeats 40000000 in
theorem rmRS0 (l : Launch) (Z : State) (a0 : Array Value) (hw : ∀ d ∈ tables_1, d.before a0 Z = true) (ws : List Jvm.Cond) (B : Nat) (t tt i ti r tr ku ko : Addr) (kt ki kr : ClassId) (ct ci cr w2 : Int32) (zc : Int32) (a hc ks : Addr) (kh kk : ClassId) (h0 : Heap) (n0 : Nat) (Z0 : n0 ≤ h0.size) (KY : KA Z h0 t tt i ti r tr ku ko kt ki kr ct ci cr w2) (KC : KD n0 B t tt i ti r tr ku ko ct ci cr) (gB : n0 ≤ B) (bB : B ≤ h0.size) (CS : Sta Z Z.heap "java/lang/String" "COMPACT_STRINGS" "Z" (.int zc)) (hzc : ¬ zc = (0 : Int32)) (X0_ : Old Z n0 h0) (TL : Tly Z h0 B a hc ks kh kk t ct (1 : Int32)) :
    MetFree l mN25 (head1 (Jvm.Cond.code mN25 cD25 4 (some .boolean) :: ws) ({ frames := 2, cells := 0, slots := 0, locals := 36 } : Room)) (fun a_ U => a_ = #[(.ref a), (.ref t)] ∧ Z.Warmed39 U.vm ∧ U.heap = h0) (fun _ _ _ _ _ => True) (fun _ U o U' => ∃ v L, o = .returned v ∧ QRS0 Z B t tt i ti r tr ku ko kt ki kr ct ci cr w2 zc a hc ks kh kk h0 n0 v U'.heap L ∧ FrameEnd U o U' L ({ frames := 2, cells := 0, slots := 0, locals := 36 } : Room).cells ({ frames := 2, cells := 0, slots := 0, locals := 36 } : Room).slots) := by
  refine MetFree.of_bodySF (plainFor_of_name pn_5) hisR ?_
  intro p e s m args below meth c s₁ Bd hml0 hP hK
  obtain ⟨rfl, hZ, hh⟩ := hP
  have hx := Bd.exec
  have hby := Bd.bytes
  have hml : c.maxLocals = 4 := hml0
  have hown : s.vm.findClass "com/example/entitlement/entitlement/Tally" = some m.cls := findClass_of_methodNamed Bd.named
  have hnm := (name_of_methodNamed Bd.named Bd.method).1
  have X0 : Stand p l e ({ frames := 2, cells := 0, slots := 0, locals := 36 } : Room) s m #[(.ref a), (.ref t)] below meth c s₁ [] 0 0 := Stand.of_body Bd
  have e0 : s₁.heap = h0 := by rw [← hh, Bd.state]; rfl
  have N0 := Fr.nil n0
  refine Goes.done ?_
  obtain ⟨W, hWd⟩ : ∃ W : State → Prop, W = EndW s below (QRS0 Z B t tt i ti r tr ku ko kt ki kr ct ci cr w2 zc a hc ks kh kk h0 n0) ({ frames := 2, cells := 0, slots := 0, locals := 36 } : Room).cells ({ frames := 2, cells := 0, slots := 0, locals := 36 } : Room).slots := ⟨_, rfl⟩
  rw [← hWd]
  have hef : entryFrame m #[(.ref a), (.ref t)] 4 = (mkF m 0 #[vR a, vR t, .unset, .unset] []) := by first | (simp [entryFrame, mkF, argsToLocals, Value.category]; done) | rfl
  rw [hef]
  refine Go s₁ (mkF m 1 #[vR a, vR t, .unset, .unset] [(.ref a)]) ?_ (fun t_ k_ => XS.aloadN X0.here hx rfl (hb hby d28_0) rfl rfl k_)
  refine Go s₁ (mkF m 2 #[vR a, vR t, .unset, .unset] [(.ref t), (.ref a)]) ?_ (fun t_ k_ => XS.aloadN X0.here hx rfl (hb hby d28_1) rfl rfl k_)
  refine Go s₁ (mkF m 3 #[vR a, vR t, .unset, .unset] [(.ref t), (.ref t), (.ref a)]) ?_ (fun t_ k_ => XS.aloadN X0.here hx rfl (hb hby d28_2) rfl rfl k_)
  obtain ⟨cq1, kq1, q1a, q1b, q1c⟩ := isOf hZ e0 KY.s1.exa
  obtain ⟨_, _, ⟨T1, Lq_1, kq_1, nq_1⟩, -, X1, ⟨Lc1, hQ1, l1, y1, z1⟩, st1⟩ := X0.virtualBack hx (y := mN20) (z := mN9) hown (mvT hZ (wq hw 169 rfl)) (mvT hZ (wq hw 170 rfl)) (own_nfO hZ (wq hw 138 rfl) rfl) (mvT hZ (wq hw 172 rfl)) (mvT hZ (wq hw 82 rfl)) (by decide) (backOf (W := 2) (rmSH l Z a0 hw [] t tt kt ct zc h0 n0 Z0 KY.s1 KC.g1 KC.b1 KC.b2 CS hzc X0_) hZ (wq hw 84 rfl) (wq hw 2 rfl) (by decide) (by decide)) q1a q1c (g := (mkF m 3 #[vR a, vR t, .unset, .unset] [(.ref t), (.ref t), (.ref a)])) rfl (by rw [hml]; rfl) (Steps.refl _) (argsL := []) (rest := [(.ref t), (.ref a)]) (lenOf pd_9 rfl) rfl (by show 2 * 0 + _ ≤ _; exact Nat.le_of_eq rfl) (hb hby d28_3) (fun _ _ => ⟨rfl, e0, (by decide : 0 + 0 ≤ _), (by decide : 0 + 0 ≤ _)⟩)
  dsimp only [Pt.U, Pt.locs, Pt.cells, Pt.slots] at X1 l1 y1 z1 st1 hQ1
  rw [l1, y1, z1] at X1
  change Stand p l e _ _ m _ below meth c T1 _ 0 0 at X1
  obtain ⟨rfl, N1q, K1, SN1⟩ := hQ1
  have N1 := Fr.app N0 N1q
  refine Go T1 (mkF m 6 #[vR a, vR t, .unset, .unset] [(.int ct), (.ref t), (.ref a)]) ?_ (fun t => st1.trans)
  have Zc1 : n0 ≤ T1.heap.size := Nat.le_trans Z0 K1.1
  have ky1 := KY.put1 KC K1 SN1
  have xo1 : Old Z n0 T1.heap := X0_.keep K1 (allS KC.g1 all0)
  have kp2 := (Keep.refl h0 [t, i, r, a, hc, ks]).trans K1 (allS (Or.inl (by simp)) all0)
  have bb1 : B ≤ T1.heap.size := Nat.le_trans bB K1.1
  have tl1 := TL.keep K1 (own_nhi TL.ba (own_sfC KC.l1 (fun y hy => absurd hy List.not_mem_nil))) (own_nhi TL.bh (own_sfC KC.l1 (fun y hy => absurd hy List.not_mem_nil))) (own_nhi TL.bk (own_sfC KC.l1 (fun y hy => absurd hy List.not_mem_nil)))
  obtain ⟨cq3, q3, q3'⟩ := tl1.E.cell
  obtain ⟨_, _, ⟨T3, Lq_3, kq_3, nq_3⟩, -, X3, ⟨Lc3, hQ3, l3, y3, z3⟩, st3⟩ := X1.privateBack hx (y := mN15) hown (mvT hZ (wq hw 173 rfl)) (mvT hZ (wq hw 174 rfl)) (mvT hZ (own_selP (y := mN15) (wq hw 151 rfl) (wq hw 175 rfl) (wq hw 174 rfl) (by decide))) (Cond.privateMethod_at (mvP hZ (wq hw 175 rfl) (args := #[]))) (mvT hZ (wq hw 176 rfl)) (by decide) (backOf (W := 0) (rmF1 l Z a0 hw [] B a hc ks kh kk t ct (1 : Int32) T1.heap n0 Zc1 tl1 (by decide)) hZ (wq hw 176 rfl) (wq hw 152 rfl) (by decide) (by decide)) (g := (mkF m 6 #[vR a, vR t, .unset, .unset] [(.int ct), (.ref t), (.ref a)])) rfl (by rw [hml]; rfl) (Steps.refl _) (a := a) q3 q3' (argsL := [(.ref t), (.int ct)]) (rest := []) (lenOf pd_13 rfl) rfl (by show 2 * 0 + _ ≤ _; exact Nat.le_of_eq rfl) (hb hby d28_6) (fun _ _ => ⟨rfl, rfl, (by decide : 0 + 0 ≤ _), (by decide : 0 + 0 ≤ _)⟩)
  dsimp only [Pt.U, Pt.locs, Pt.cells, Pt.slots] at X3 l3 y3 z3 st3 hQ3
  rw [l3, y3, z3] at X3
  change Stand p l e _ _ m _ below meth c T3 _ 0 0 at X3
  obtain ⟨rfl, N3q, eh3⟩ := hQ3
  have N3 := Fr.app N1 N3q
  refine Go T3 (mkF m 9 #[vR a, vR t, .unset, .unset] [(.int (own_home ct))]) ?_ (fun t => st3.trans)
  rcases own_home_b ct with hbm | hbm
  · rw [hbm]
    have ahc : a ≠ hc := Exa.neArv tl1.E tl1.VH (wq hw 151 rfl)
    have aks : a ≠ ks := Exa.neArv tl1.E tl1.VK (wq hw 151 rfl)
    have VHb : Arv Z T1.heap hc kh .int 4 [.int ct, .int 1, .int 0, .int 0] (.int 0) := by have q := tl1.VH; rw [hbm, own_hs0] at q; exact q
    obtain ⟨cH, AH, qH, SH_, MH, HH, GH⟩ := id VHb
    refine Go T3 (mkF m 10 #[vR a, vR t, vI 0, .unset] []) ?_ (fun t_ k_ => XS.istoreN X3.here hx rfl (hb hby d28_9) rfl (l' := #[vR a, vR t, vI 0, .unset]) rfl k_)
    refine Go T3 (mkF m 11 #[vR a, vR t, vI 0, .unset] [(.int 0)]) ?_ (fun t_ k_ => XS.iloadN X3.here hx rfl (hb hby d28_10) rfl k_)
    refine Go T3 (mkF m 16 #[vR a, vR t, vI 0, .unset] []) ?_ (fun t_ k_ => XS.ifYes X3.here hx rfl (pc0 := 11) (pc' := 16) rfl (hb hby d28_11) rfl (by decide) (by decide) (by decide) k_)
    refine Go T3 (mkF m 17 #[vR a, vR t, vI 0, .unset] [(.ref a)]) ?_ (fun t_ k_ => XS.aloadN X3.here hx rfl (hb hby d28_16) rfl rfl k_)
    obtain ⟨T4, X4, e4, st4⟩ := getF X3 hx hZ hown (host := "") (Or.inl (wq hw 157 rfl)) Via.refl eh3 tl1.FH (g := (mkF m 17 #[vR a, vR t, vI 0, .unset] [(.ref a)])) rfl rfl (hb hby d28_17)
    refine Go T4 (mkF m 20 #[vR a, vR t, vI 0, .unset] [(.ref hc)]) ?_ st4
    refine Go T4 (mkF m 21 #[vR a, vR t, vI 0, .unset] [(.int 2), (.ref hc)]) ?_ (fun t_ k_ => XS.iconst X4.here hx rfl (hb hby d28_20) k_)
    refine Go T4 (mkF m 22 #[vR a, vR t, vI 0, .unset] [(.int 0), (.int 2), (.ref hc)]) ?_ (fun t_ k_ => XS.iloadN X4.here hx rfl (hb hby d28_21) rfl k_)
    refine Go T4 (mkF m 23 #[vR a, vR t, vI 0, .unset] [(.int 0), (.ref hc)]) ?_ (fun t_ k_ => XS.imul X4.here hx rfl (hb hby d28_22) rfl k_)
    refine Go T4 (mkF m 24 #[vR a, vR t, vI 0, .unset] [(.int 1), (.int 0), (.ref hc)]) ?_ (fun t_ k_ => XS.iconst X4.here hx rfl (hb hby d28_23) k_)
    refine Go T4 (mkF m 25 #[vR a, vR t, vI 0, .unset] [(.int 1), (.ref hc)]) ?_ (fun t_ k_ => XS.iadd X4.here hx rfl (hb hby d28_24) rfl k_)
    refine Go T4 (mkF m 26 #[vR a, vR t, vI 0, .unset] [(.int 1), (.ref hc), (.int 1), (.ref hc)]) ?_ (fun t_ k_ => Jvm.Free.XT.dup2 X4.here hx rfl (hb hby d28_25) rfl rfl rfl k_)
    refine Go T4 (mkF m 27 #[vR a, vR t, vI 0, .unset] [(.int 1), (.int 1), (.ref hc)]) ?_ (X4.iaload hx (j := (1 : Int32)) (v := (.int 1)) (by rw [e4]; exact AH.1) (State.isArrayOf_alike hZ.alike AH.2.1) AH.2.2 (inb_of SH_ ⟨by decide, by decide⟩) (by have q := HH 1 (by rw [SH_]; decide); exact q) (g := (mkF m 26 #[vR a, vR t, vI 0, .unset] [(.int 1), (.ref hc), (.int 1), (.ref hc)])) rfl rfl (hb hby d28_26))
    refine Go T4 (mkF m 28 #[vR a, vR t, vI 0, .unset] [(.int 1), (.int 1), (.int 1), (.ref hc)]) ?_ (fun t_ k_ => XS.iconst X4.here hx rfl (hb hby d28_27) k_)
    refine Go T4 (mkF m 29 #[vR a, vR t, vI 0, .unset] [(.int 0), (.int 1), (.ref hc)]) ?_ (fun t_ k_ => XS.isub X4.here hx rfl (hb hby d28_28) rfl k_)
    obtain ⟨T5, h5, X5, e5, W5, st5⟩ := stI X4 hx hZ e4 AH (j := (1 : Int32)) (inb_of SH_ ⟨by decide, by decide⟩) (g := (mkF m 29 #[vR a, vR t, vI 0, .unset] [(.int 0), (.int 1), (.ref hc)])) rfl rfl (hb hby d28_29)
    have N5 := Fr.snoc X5 N3 (Nat.le_trans gB tl1.bh)
    have Z5 : n0 ≤ h5.size := Nat.le_trans Zc1 (Nat.le_of_eq W5.size.symm)
    refine Go T5 (mkF m 30 #[vR a, vR t, vI 0, .unset] []) ?_ st5
    have fx6 := tl1.FH.other W5 (Or.inl ahc)
    have fx7 := tl1.FK.other W5 (Or.inl ahc)
    have fx8 := tl1.FS.other W5 (Or.inl ahc)
    have fx9 := tl1.FZ.other W5 (Or.inl ahc)
    have fx10 := tl1.E.wr W5
    have fx11 := tl1.VK.other W5 (Ne.symm tl1.hne)
    have kp12 := kp2.wr W5 (Or.inl (by simp))
    have V5 : Arv Z h5 hc kh .int 4 [.int ct, .int 0, .int 0, .int 0] (.int 0) := Arv.set AH qH SH_ MH HH GH rfl W5 1 rfl (Nat.le_of_ble_eq_true rfl)
    have ky5 := ky1.keep KC ((Keep.refl _ [hc]).wr W5 (Or.inl (List.mem_cons_self ..))) (own_sfC (P := fun z => B ≤ z) tl1.bh (fun y hy => absurd hy List.not_mem_nil))
    have TN : Tly Z h5 B a hc ks kh kk t ct (0 : Int32) := ⟨fx10, fx6, fx7, fx8, fx9, (by rw [hbm, own_hs0]; exact V5), fx11, tl1.OV, tl1.hne, tl1.ba, tl1.bh, tl1.bk⟩
    obtain ⟨cH2, AH2, qH2, SH2, MH2, HH2, GH2⟩ := id V5
    refine Go T5 (mkF m 31 #[vR a, vR t, vI 0, .unset] [(.ref a)]) ?_ (fun t_ k_ => XS.aloadN X5.here hx rfl (hb hby d28_30) rfl rfl k_)
    obtain ⟨T13, X13, e13, st13⟩ := getF X5 hx hZ hown (host := "") (Or.inl (wq hw 157 rfl)) Via.refl e5 fx6 (g := (mkF m 31 #[vR a, vR t, vI 0, .unset] [(.ref a)])) rfl rfl (hb hby d28_31)
    refine Go T13 (mkF m 34 #[vR a, vR t, vI 0, .unset] [(.ref hc)]) ?_ st13
    refine Go T13 (mkF m 35 #[vR a, vR t, vI 0, .unset] [(.int 2), (.ref hc)]) ?_ (fun t_ k_ => XS.iconst X13.here hx rfl (hb hby d28_34) k_)
    refine Go T13 (mkF m 36 #[vR a, vR t, vI 0, .unset] [(.int 0), (.int 2), (.ref hc)]) ?_ (fun t_ k_ => XS.iloadN X13.here hx rfl (hb hby d28_35) rfl k_)
    refine Go T13 (mkF m 37 #[vR a, vR t, vI 0, .unset] [(.int 0), (.ref hc)]) ?_ (fun t_ k_ => XS.imul X13.here hx rfl (hb hby d28_36) rfl k_)
    refine Go T13 (mkF m 38 #[vR a, vR t, vI 0, .unset] [(.int 1), (.int 0), (.ref hc)]) ?_ (fun t_ k_ => XS.iconst X13.here hx rfl (hb hby d28_37) k_)
    refine Go T13 (mkF m 39 #[vR a, vR t, vI 0, .unset] [(.int 1), (.ref hc)]) ?_ (fun t_ k_ => XS.iadd X13.here hx rfl (hb hby d28_38) rfl k_)
    refine Go T13 (mkF m 40 #[vR a, vR t, vI 0, .unset] [(.int 0)]) ?_ (X13.iaload hx (j := (1 : Int32)) (v := (.int 0)) (by rw [e13]; exact AH2.1) (State.isArrayOf_alike hZ.alike AH2.2.1) AH2.2.2 (inb_of SH2 ⟨by decide, by decide⟩) (by have q := HH2 1 (by rw [SH2]; decide); exact q) (g := (mkF m 39 #[vR a, vR t, vI 0, .unset] [(.int 1), (.ref hc)])) rfl rfl (hb hby d28_39))
    refine Go T13 (mkF m 43 #[vR a, vR t, vI 0, .unset] []) ?_ (fun t_ k_ => XS.ifNo X13.here hx rfl (hb hby d28_40) rfl (by decide) k_)
    refine Go T13 (mkF m 44 #[vR a, vR t, vI 0, .unset] [(.int 1)]) ?_ (fun t_ k_ => XS.iconst X13.here hx rfl (hb hby d28_43) k_)
    refine Go T13 (mkF m 48 #[vR a, vR t, vI 0, .unset] [(.int 1)]) ?_ (fun t_ k_ => XS.goto X13.here hx rfl (pc0 := 44) (pc' := 48) rfl (hb hby d28_44) (by decide) (by decide) k_)
    refine Go T13 (mkF m 49 #[vR a, vR t, vI 0, vI 1] []) ?_ (fun t_ k_ => XS.istoreN X13.here hx rfl (hb hby d28_48) rfl (l' := #[vR a, vR t, vI 0, vI 1]) rfl k_)
    refine Go T13 (mkF m 50 #[vR a, vR t, vI 0, vI 1] [(.int 1)]) ?_ (fun t_ k_ => XS.iloadN X13.here hx rfl (hb hby d28_49) rfl k_)
    refine Go T13 (mkF m 53 #[vR a, vR t, vI 0, vI 1] []) ?_ (fun t_ k_ => XS.ifNo X13.here hx rfl (hb hby d28_50) rfl (by decide) k_)
    refine Go T13 (mkF m 54 #[vR a, vR t, vI 0, vI 1] [(.ref a)]) ?_ (fun t_ k_ => XS.aloadN X13.here hx rfl (hb hby d28_53) rfl rfl k_)
    refine Go T13 (mkF m 55 #[vR a, vR t, vI 0, vI 1] [(.int 0), (.ref a)]) ?_ (fun t_ k_ => XS.iloadN X13.here hx rfl (hb hby d28_54) rfl k_)
    obtain ⟨cq14, q14, q14'⟩ := TN.E.cell
    obtain ⟨_, _, ⟨T14, Lq_14, kq_14, nq_14⟩, -, X14, ⟨Lc14, hQ14, l14, y14, z14⟩, st14⟩ := X13.privateBack hx (y := mN17) hown (mvT hZ (wq hw 193 rfl)) (mvT hZ (wq hw 194 rfl)) (mvT hZ (own_selP (y := mN17) (wq hw 151 rfl) (wq hw 195 rfl) (wq hw 194 rfl) (by decide))) (Cond.privateMethod_at (mvP hZ (wq hw 195 rfl) (args := #[]))) (mvT hZ (wq hw 196 rfl)) (by decide) (backOf (W := 0) (rmE0 l Z a0 hw [] B a hc ks kh kk t ct (0 : Int32) h5 n0 Z5 TN hbm gB) hZ (wq hw 196 rfl) (wq hw 152 rfl) (by decide) (by decide)) (g := (mkF m 55 #[vR a, vR t, vI 0, vI 1] [(.int 0), (.ref a)])) rfl (by rw [hml]; rfl) (Steps.refl _) (a := a) (by rw [e13]; exact q14) q14' (argsL := [(.int 0)]) (rest := []) (lenOf pd_14 rfl) rfl (by show 2 * 0 + _ ≤ _; exact Nat.le_of_eq rfl) (hb hby d28_55) (fun _ _ => ⟨rfl, e13, (by decide : 0 + 0 ≤ _), (by decide : 0 + 0 ≤ _)⟩)
    dsimp only [Pt.U, Pt.locs, Pt.cells, Pt.slots] at X14 l14 y14 z14 st14 hQ14
    rw [l14, y14, z14] at X14
    change Stand p l e _ _ m _ below meth c T14 _ 0 0 at X14
    obtain ⟨rfl, N14q, K14⟩ := hQ14
    have N14 := Fr.app N5 N14q
    refine Go T14 (mkF m 58 #[vR a, vR t, vI 0, vI 1] []) ?_ (fun t => st14.trans)
    have Zp : n0 ≤ T14.heap.size := Nat.le_trans Z5 K14.1
    have ky14 := ky5.keep KC K14 (own_sfC (P := fun z => B ≤ z) tl1.bh (own_sfC (P := fun z => B ≤ z) tl1.bk (fun y hy => absurd hy List.not_mem_nil)))
    have fx15 := fx6.keep K14 (ninS ahc (ninS aks nin0))
    have fx16 := fx7.keep K14 (ninS ahc (ninS aks nin0))
    have fx17 := fx8.keep K14 (ninS ahc (ninS aks nin0))
    have fx18 := fx9.keep K14 (ninS ahc (ninS aks nin0))
    have fx19 := fx10.keep K14
    have kp20 := kp12.trans K14 (allS (Or.inl (by simp)) (allS (Or.inl (by simp)) all0))
    refine Go T14 (mkF m 59 #[vR a, vR t, vI 0, vI 1] [(.ref a)]) ?_ (fun t_ k_ => XS.aloadN X14.here hx rfl (hb hby d28_58) rfl rfl k_)
    refine Go T14 (mkF m 60 #[vR a, vR t, vI 0, vI 1] [(.ref a), (.ref a)]) ?_ (fun t_ k_ => XS.dup X14.here hx rfl (hb hby d28_59) rfl rfl k_)
    obtain ⟨T21, X21, e21, st21⟩ := getF X14 hx hZ hown (host := "") (Or.inl (wq hw 182 rfl)) Via.refl rfl fx18 (g := (mkF m 60 #[vR a, vR t, vI 0, vI 1] [(.ref a), (.ref a)])) rfl rfl (hb hby d28_60)
    refine Go T21 (mkF m 63 #[vR a, vR t, vI 0, vI 1] [(.int 1), (.ref a)]) ?_ st21
    refine Go T21 (mkF m 64 #[vR a, vR t, vI 0, vI 1] [(.int 1), (.int 1), (.ref a)]) ?_ (fun t_ k_ => XS.iconst X21.here hx rfl (hb hby d28_63) k_)
    refine Go T21 (mkF m 65 #[vR a, vR t, vI 0, vI 1] [(.int 0), (.ref a)]) ?_ (fun t_ k_ => XS.isub X21.here hx rfl (hb hby d28_64) rfl k_)
    obtain ⟨T22, h22, X22, e22, W22, st22⟩ := putF X21 hx hZ hown (host := "") (Or.inl (wq hw 182 rfl)) Via.refl e21 fx18 fx19 (Or.inl (wq hw 183 rfl)) (wq hw 151 rfl) (ty := .int) (by decide) rfl rfl (g := (mkF m 65 #[vR a, vR t, vI 0, vI 1] [(.int 0), (.ref a)])) rfl rfl (hb hby d28_65)
    have N22 := Fr.snoc X22 N14 (Nat.le_trans gB tl1.ba)
    have Z22 : n0 ≤ h22.size := Nat.le_trans Zp (Nat.le_of_eq W22.size.symm)
    refine Go T22 (mkF m 68 #[vR a, vR t, vI 0, vI 1] []) ?_ st22
    have fx23 := fx15.other W22 (Or.inr (slot_ne (Or.inl (wq hw 158 rfl)) (Or.inl (wq hw 183 rfl)) (by decide) (t := (.array .int)) (t' := .int) (by decide) (by decide)))
    have fx24 := fx16.other W22 (Or.inr (slot_ne (Or.inl (wq hw 161 rfl)) (Or.inl (wq hw 183 rfl)) (by decide) (t := (.array (.object "java/lang/Object"))) (t' := .int) (by decide) (by decide)))
    have fx25 := fx17.other W22 (Or.inr (slot_ne (Or.inl (wq hw 163 rfl)) (Or.inl (wq hw 183 rfl)) (by decide) (t := .int) (t' := .int) (by decide) (by decide)))
    have fx26 := fx18.same W22
    have fx27 := fx19.wr W22
    have kp28 := kp20.wr W22 (Or.inl (by simp))
    have ky22 := ky14.keep KC ((Keep.refl _ [a]).wr W22 (Or.inl (List.mem_cons_self ..))) (own_sfC (P := fun z => B ≤ z) tl1.ba (fun y hy => absurd hy List.not_mem_nil))
    refine Go T22 (mkF m 69 #[vR a, vR t, vI 0, vI 1] [(.int 1)]) ?_ (fun t_ k_ => XS.iloadN X22.here hx rfl (hb hby d28_68) rfl k_)
    rw [hWd]
    exact Goes.retn X22 (v := some (.int (nar .boolean (1 : Int32)))) (fun fs hr => retN X22 hx (t := .boolean) Bd.returns (by simp) (hb hby d28_69) hr) (fun h => by rw [Bd.returns] at h; cases h) Bd.notSynchronized (by decide) (by decide) (by rw [e22]; exact ⟨rfl, N22, kp28, ky22, fx27, fx26⟩)
  · rw [hbm]
    have ahc : a ≠ hc := Exa.neArv tl1.E tl1.VH (wq hw 151 rfl)
    have aks : a ≠ ks := Exa.neArv tl1.E tl1.VK (wq hw 151 rfl)
    have VHb : Arv Z T1.heap hc kh .int 4 [.int 0, .int 0, .int ct, .int 1] (.int 0) := by have q := tl1.VH; rw [hbm, own_hs1] at q; exact q
    obtain ⟨cH, AH, qH, SH_, MH, HH, GH⟩ := id VHb
    refine Go T3 (mkF m 10 #[vR a, vR t, vI 1, .unset] []) ?_ (fun t_ k_ => XS.istoreN X3.here hx rfl (hb hby d28_9) rfl (l' := #[vR a, vR t, vI 1, .unset]) rfl k_)
    refine Go T3 (mkF m 11 #[vR a, vR t, vI 1, .unset] [(.int 1)]) ?_ (fun t_ k_ => XS.iloadN X3.here hx rfl (hb hby d28_10) rfl k_)
    refine Go T3 (mkF m 16 #[vR a, vR t, vI 1, .unset] []) ?_ (fun t_ k_ => XS.ifYes X3.here hx rfl (pc0 := 11) (pc' := 16) rfl (hb hby d28_11) rfl (by decide) (by decide) (by decide) k_)
    refine Go T3 (mkF m 17 #[vR a, vR t, vI 1, .unset] [(.ref a)]) ?_ (fun t_ k_ => XS.aloadN X3.here hx rfl (hb hby d28_16) rfl rfl k_)
    obtain ⟨T29, X29, e29, st29⟩ := getF X3 hx hZ hown (host := "") (Or.inl (wq hw 157 rfl)) Via.refl eh3 tl1.FH (g := (mkF m 17 #[vR a, vR t, vI 1, .unset] [(.ref a)])) rfl rfl (hb hby d28_17)
    refine Go T29 (mkF m 20 #[vR a, vR t, vI 1, .unset] [(.ref hc)]) ?_ st29
    refine Go T29 (mkF m 21 #[vR a, vR t, vI 1, .unset] [(.int 2), (.ref hc)]) ?_ (fun t_ k_ => XS.iconst X29.here hx rfl (hb hby d28_20) k_)
    refine Go T29 (mkF m 22 #[vR a, vR t, vI 1, .unset] [(.int 1), (.int 2), (.ref hc)]) ?_ (fun t_ k_ => XS.iloadN X29.here hx rfl (hb hby d28_21) rfl k_)
    refine Go T29 (mkF m 23 #[vR a, vR t, vI 1, .unset] [(.int 2), (.ref hc)]) ?_ (fun t_ k_ => XS.imul X29.here hx rfl (hb hby d28_22) rfl k_)
    refine Go T29 (mkF m 24 #[vR a, vR t, vI 1, .unset] [(.int 1), (.int 2), (.ref hc)]) ?_ (fun t_ k_ => XS.iconst X29.here hx rfl (hb hby d28_23) k_)
    refine Go T29 (mkF m 25 #[vR a, vR t, vI 1, .unset] [(.int 3), (.ref hc)]) ?_ (fun t_ k_ => XS.iadd X29.here hx rfl (hb hby d28_24) rfl k_)
    refine Go T29 (mkF m 26 #[vR a, vR t, vI 1, .unset] [(.int 3), (.ref hc), (.int 3), (.ref hc)]) ?_ (fun t_ k_ => Jvm.Free.XT.dup2 X29.here hx rfl (hb hby d28_25) rfl rfl rfl k_)
    refine Go T29 (mkF m 27 #[vR a, vR t, vI 1, .unset] [(.int 1), (.int 3), (.ref hc)]) ?_ (X29.iaload hx (j := (3 : Int32)) (v := (.int 1)) (by rw [e29]; exact AH.1) (State.isArrayOf_alike hZ.alike AH.2.1) AH.2.2 (inb_of SH_ ⟨by decide, by decide⟩) (by have q := HH 3 (by rw [SH_]; decide); exact q) (g := (mkF m 26 #[vR a, vR t, vI 1, .unset] [(.int 3), (.ref hc), (.int 3), (.ref hc)])) rfl rfl (hb hby d28_26))
    refine Go T29 (mkF m 28 #[vR a, vR t, vI 1, .unset] [(.int 1), (.int 1), (.int 3), (.ref hc)]) ?_ (fun t_ k_ => XS.iconst X29.here hx rfl (hb hby d28_27) k_)
    refine Go T29 (mkF m 29 #[vR a, vR t, vI 1, .unset] [(.int 0), (.int 3), (.ref hc)]) ?_ (fun t_ k_ => XS.isub X29.here hx rfl (hb hby d28_28) rfl k_)
    obtain ⟨T30, h30, X30, e30, W30, st30⟩ := stI X29 hx hZ e29 AH (j := (3 : Int32)) (inb_of SH_ ⟨by decide, by decide⟩) (g := (mkF m 29 #[vR a, vR t, vI 1, .unset] [(.int 0), (.int 3), (.ref hc)])) rfl rfl (hb hby d28_29)
    have N30 := Fr.snoc X30 N3 (Nat.le_trans gB tl1.bh)
    have Z30 : n0 ≤ h30.size := Nat.le_trans Zc1 (Nat.le_of_eq W30.size.symm)
    refine Go T30 (mkF m 30 #[vR a, vR t, vI 1, .unset] []) ?_ st30
    have fx31 := tl1.FH.other W30 (Or.inl ahc)
    have fx32 := tl1.FK.other W30 (Or.inl ahc)
    have fx33 := tl1.FS.other W30 (Or.inl ahc)
    have fx34 := tl1.FZ.other W30 (Or.inl ahc)
    have fx35 := tl1.E.wr W30
    have fx36 := tl1.VK.other W30 (Ne.symm tl1.hne)
    have kp37 := kp2.wr W30 (Or.inl (by simp))
    have V30 : Arv Z h30 hc kh .int 4 [.int 0, .int 0, .int ct, .int 0] (.int 0) := Arv.set AH qH SH_ MH HH GH rfl W30 3 rfl (Nat.le_of_ble_eq_true rfl)
    have ky30 := ky1.keep KC ((Keep.refl _ [hc]).wr W30 (Or.inl (List.mem_cons_self ..))) (own_sfC (P := fun z => B ≤ z) tl1.bh (fun y hy => absurd hy List.not_mem_nil))
    have TN : Tly Z h30 B a hc ks kh kk t ct (0 : Int32) := ⟨fx35, fx31, fx32, fx33, fx34, (by rw [hbm, own_hs1]; exact V30), fx36, tl1.OV, tl1.hne, tl1.ba, tl1.bh, tl1.bk⟩
    obtain ⟨cH2, AH2, qH2, SH2, MH2, HH2, GH2⟩ := id V30
    refine Go T30 (mkF m 31 #[vR a, vR t, vI 1, .unset] [(.ref a)]) ?_ (fun t_ k_ => XS.aloadN X30.here hx rfl (hb hby d28_30) rfl rfl k_)
    obtain ⟨T38, X38, e38, st38⟩ := getF X30 hx hZ hown (host := "") (Or.inl (wq hw 157 rfl)) Via.refl e30 fx31 (g := (mkF m 31 #[vR a, vR t, vI 1, .unset] [(.ref a)])) rfl rfl (hb hby d28_31)
    refine Go T38 (mkF m 34 #[vR a, vR t, vI 1, .unset] [(.ref hc)]) ?_ st38
    refine Go T38 (mkF m 35 #[vR a, vR t, vI 1, .unset] [(.int 2), (.ref hc)]) ?_ (fun t_ k_ => XS.iconst X38.here hx rfl (hb hby d28_34) k_)
    refine Go T38 (mkF m 36 #[vR a, vR t, vI 1, .unset] [(.int 1), (.int 2), (.ref hc)]) ?_ (fun t_ k_ => XS.iloadN X38.here hx rfl (hb hby d28_35) rfl k_)
    refine Go T38 (mkF m 37 #[vR a, vR t, vI 1, .unset] [(.int 2), (.ref hc)]) ?_ (fun t_ k_ => XS.imul X38.here hx rfl (hb hby d28_36) rfl k_)
    refine Go T38 (mkF m 38 #[vR a, vR t, vI 1, .unset] [(.int 1), (.int 2), (.ref hc)]) ?_ (fun t_ k_ => XS.iconst X38.here hx rfl (hb hby d28_37) k_)
    refine Go T38 (mkF m 39 #[vR a, vR t, vI 1, .unset] [(.int 3), (.ref hc)]) ?_ (fun t_ k_ => XS.iadd X38.here hx rfl (hb hby d28_38) rfl k_)
    refine Go T38 (mkF m 40 #[vR a, vR t, vI 1, .unset] [(.int 0)]) ?_ (X38.iaload hx (j := (3 : Int32)) (v := (.int 0)) (by rw [e38]; exact AH2.1) (State.isArrayOf_alike hZ.alike AH2.2.1) AH2.2.2 (inb_of SH2 ⟨by decide, by decide⟩) (by have q := HH2 3 (by rw [SH2]; decide); exact q) (g := (mkF m 39 #[vR a, vR t, vI 1, .unset] [(.int 3), (.ref hc)])) rfl rfl (hb hby d28_39))
    refine Go T38 (mkF m 43 #[vR a, vR t, vI 1, .unset] []) ?_ (fun t_ k_ => XS.ifNo X38.here hx rfl (hb hby d28_40) rfl (by decide) k_)
    refine Go T38 (mkF m 44 #[vR a, vR t, vI 1, .unset] [(.int 1)]) ?_ (fun t_ k_ => XS.iconst X38.here hx rfl (hb hby d28_43) k_)
    refine Go T38 (mkF m 48 #[vR a, vR t, vI 1, .unset] [(.int 1)]) ?_ (fun t_ k_ => XS.goto X38.here hx rfl (pc0 := 44) (pc' := 48) rfl (hb hby d28_44) (by decide) (by decide) k_)
    refine Go T38 (mkF m 49 #[vR a, vR t, vI 1, vI 1] []) ?_ (fun t_ k_ => XS.istoreN X38.here hx rfl (hb hby d28_48) rfl (l' := #[vR a, vR t, vI 1, vI 1]) rfl k_)
    refine Go T38 (mkF m 50 #[vR a, vR t, vI 1, vI 1] [(.int 1)]) ?_ (fun t_ k_ => XS.iloadN X38.here hx rfl (hb hby d28_49) rfl k_)
    refine Go T38 (mkF m 53 #[vR a, vR t, vI 1, vI 1] []) ?_ (fun t_ k_ => XS.ifNo X38.here hx rfl (hb hby d28_50) rfl (by decide) k_)
    refine Go T38 (mkF m 54 #[vR a, vR t, vI 1, vI 1] [(.ref a)]) ?_ (fun t_ k_ => XS.aloadN X38.here hx rfl (hb hby d28_53) rfl rfl k_)
    refine Go T38 (mkF m 55 #[vR a, vR t, vI 1, vI 1] [(.int 1), (.ref a)]) ?_ (fun t_ k_ => XS.iloadN X38.here hx rfl (hb hby d28_54) rfl k_)
    obtain ⟨cq39, q39, q39'⟩ := TN.E.cell
    obtain ⟨_, _, ⟨T39, Lq_39, kq_39, nq_39⟩, -, X39, ⟨Lc39, hQ39, l39, y39, z39⟩, st39⟩ := X38.privateBack hx (y := mN17) hown (mvT hZ (wq hw 193 rfl)) (mvT hZ (wq hw 194 rfl)) (mvT hZ (own_selP (y := mN17) (wq hw 151 rfl) (wq hw 195 rfl) (wq hw 194 rfl) (by decide))) (Cond.privateMethod_at (mvP hZ (wq hw 195 rfl) (args := #[]))) (mvT hZ (wq hw 196 rfl)) (by decide) (backOf (W := 0) (rmE1 l Z a0 hw [] B a hc ks kh kk t ct (0 : Int32) h30 n0 Z30 TN hbm gB) hZ (wq hw 196 rfl) (wq hw 152 rfl) (by decide) (by decide)) (g := (mkF m 55 #[vR a, vR t, vI 1, vI 1] [(.int 1), (.ref a)])) rfl (by rw [hml]; rfl) (Steps.refl _) (a := a) (by rw [e38]; exact q39) q39' (argsL := [(.int 1)]) (rest := []) (lenOf pd_14 rfl) rfl (by show 2 * 0 + _ ≤ _; exact Nat.le_of_eq rfl) (hb hby d28_55) (fun _ _ => ⟨rfl, e38, (by decide : 0 + 0 ≤ _), (by decide : 0 + 0 ≤ _)⟩)
    dsimp only [Pt.U, Pt.locs, Pt.cells, Pt.slots] at X39 l39 y39 z39 st39 hQ39
    rw [l39, y39, z39] at X39
    change Stand p l e _ _ m _ below meth c T39 _ 0 0 at X39
    obtain ⟨rfl, N39q, K39⟩ := hQ39
    have N39 := Fr.app N30 N39q
    refine Go T39 (mkF m 58 #[vR a, vR t, vI 1, vI 1] []) ?_ (fun t => st39.trans)
    have Zp : n0 ≤ T39.heap.size := Nat.le_trans Z30 K39.1
    have ky39 := ky30.keep KC K39 (own_sfC (P := fun z => B ≤ z) tl1.bh (own_sfC (P := fun z => B ≤ z) tl1.bk (fun y hy => absurd hy List.not_mem_nil)))
    have fx40 := fx31.keep K39 (ninS ahc (ninS aks nin0))
    have fx41 := fx32.keep K39 (ninS ahc (ninS aks nin0))
    have fx42 := fx33.keep K39 (ninS ahc (ninS aks nin0))
    have fx43 := fx34.keep K39 (ninS ahc (ninS aks nin0))
    have fx44 := fx35.keep K39
    have kp45 := kp37.trans K39 (allS (Or.inl (by simp)) (allS (Or.inl (by simp)) all0))
    refine Go T39 (mkF m 59 #[vR a, vR t, vI 1, vI 1] [(.ref a)]) ?_ (fun t_ k_ => XS.aloadN X39.here hx rfl (hb hby d28_58) rfl rfl k_)
    refine Go T39 (mkF m 60 #[vR a, vR t, vI 1, vI 1] [(.ref a), (.ref a)]) ?_ (fun t_ k_ => XS.dup X39.here hx rfl (hb hby d28_59) rfl rfl k_)
    obtain ⟨T46, X46, e46, st46⟩ := getF X39 hx hZ hown (host := "") (Or.inl (wq hw 182 rfl)) Via.refl rfl fx43 (g := (mkF m 60 #[vR a, vR t, vI 1, vI 1] [(.ref a), (.ref a)])) rfl rfl (hb hby d28_60)
    refine Go T46 (mkF m 63 #[vR a, vR t, vI 1, vI 1] [(.int 1), (.ref a)]) ?_ st46
    refine Go T46 (mkF m 64 #[vR a, vR t, vI 1, vI 1] [(.int 1), (.int 1), (.ref a)]) ?_ (fun t_ k_ => XS.iconst X46.here hx rfl (hb hby d28_63) k_)
    refine Go T46 (mkF m 65 #[vR a, vR t, vI 1, vI 1] [(.int 0), (.ref a)]) ?_ (fun t_ k_ => XS.isub X46.here hx rfl (hb hby d28_64) rfl k_)
    obtain ⟨T47, h47, X47, e47, W47, st47⟩ := putF X46 hx hZ hown (host := "") (Or.inl (wq hw 182 rfl)) Via.refl e46 fx43 fx44 (Or.inl (wq hw 183 rfl)) (wq hw 151 rfl) (ty := .int) (by decide) rfl rfl (g := (mkF m 65 #[vR a, vR t, vI 1, vI 1] [(.int 0), (.ref a)])) rfl rfl (hb hby d28_65)
    have N47 := Fr.snoc X47 N39 (Nat.le_trans gB tl1.ba)
    have Z47 : n0 ≤ h47.size := Nat.le_trans Zp (Nat.le_of_eq W47.size.symm)
    refine Go T47 (mkF m 68 #[vR a, vR t, vI 1, vI 1] []) ?_ st47
    have fx48 := fx40.other W47 (Or.inr (slot_ne (Or.inl (wq hw 158 rfl)) (Or.inl (wq hw 183 rfl)) (by decide) (t := (.array .int)) (t' := .int) (by decide) (by decide)))
    have fx49 := fx41.other W47 (Or.inr (slot_ne (Or.inl (wq hw 161 rfl)) (Or.inl (wq hw 183 rfl)) (by decide) (t := (.array (.object "java/lang/Object"))) (t' := .int) (by decide) (by decide)))
    have fx50 := fx42.other W47 (Or.inr (slot_ne (Or.inl (wq hw 163 rfl)) (Or.inl (wq hw 183 rfl)) (by decide) (t := .int) (t' := .int) (by decide) (by decide)))
    have fx51 := fx43.same W47
    have fx52 := fx44.wr W47
    have kp53 := kp45.wr W47 (Or.inl (by simp))
    have ky47 := ky39.keep KC ((Keep.refl _ [a]).wr W47 (Or.inl (List.mem_cons_self ..))) (own_sfC (P := fun z => B ≤ z) tl1.ba (fun y hy => absurd hy List.not_mem_nil))
    refine Go T47 (mkF m 69 #[vR a, vR t, vI 1, vI 1] [(.int 1)]) ?_ (fun t_ k_ => XS.iloadN X47.here hx rfl (hb hby d28_68) rfl k_)
    rw [hWd]
    exact Goes.retn X47 (v := some (.int (nar .boolean (1 : Int32)))) (fun fs hr => retN X47 hx (t := .boolean) Bd.returns (by simp) (hb hby d28_69) hr) (fun h => by rw [Bd.returns] at h; cases h) Bd.notSynchronized (by decide) (by decide) (by rw [e47]; exact ⟨rfl, N47, kp53, ky47, fx52, fx51⟩)
def QRS1 (Z : State) (B : Nat) (t tt i ti r tr ku ko : Addr) (kt ki kr : ClassId) (ct ci cr w2 : Int32) (zc : Int32) (a hc ks : Addr) (kh kk : ClassId) (mc : Int32) (h0 : Heap) (n0 : Nat) (v : Option Value) (h : Heap) (L : List Loc) : Prop := v = some (.int 0) ∧ Fr n0 L ∧ Keep h0 h [t, i, r, a, hc, ks] ∧ KA Z h t tt i ti r tr ku ko kt ki kr ct ci cr w2 ∧ Tly Z h B a hc ks kh kk t ct (mc - (1 : Int32))
set_option maxRecDepth 65536 in
set_option maxHeartbeats 40000000 in
theorem rmRS1 (l : Launch) (Z : State) (a0 : Array Value) (hw : ∀ d ∈ tables_1, d.before a0 Z = true) (ws : List Jvm.Cond) (B : Nat) (t tt i ti r tr ku ko : Addr) (kt ki kr : ClassId) (ct ci cr w2 : Int32) (zc : Int32) (a hc ks : Addr) (kh kk : ClassId) (mc : Int32) (h0 : Heap) (n0 : Nat) (Z0 : n0 ≤ h0.size) (KY : KA Z h0 t tt i ti r tr ku ko kt ki kr ct ci cr w2) (KC : KD n0 B t tt i ti r tr ku ko ct ci cr) (gB : n0 ≤ B) (bB : B ≤ h0.size) (CS : Sta Z Z.heap "java/lang/String" "COMPACT_STRINGS" "Z" (.int zc)) (hzc : ¬ zc = (0 : Int32)) (X0_ : Old Z n0 h0) (TL : Tly Z h0 B a hc ks kh kk t ct mc) (hm : ¬ mc = 0) (hm1 : ¬ mc - (1 : Int32) = 0) :
    MetFree l mN25 (head1 (Jvm.Cond.code mN25 cD25 4 (some .boolean) :: ws) ({ frames := 2, cells := 0, slots := 0, locals := 36 } : Room)) (fun a_ U => a_ = #[(.ref a), (.ref t)] ∧ Z.Warmed39 U.vm ∧ U.heap = h0) (fun _ _ _ _ _ => True) (fun _ U o U' => ∃ v L, o = .returned v ∧ QRS1 Z B t tt i ti r tr ku ko kt ki kr ct ci cr w2 zc a hc ks kh kk mc h0 n0 v U'.heap L ∧ FrameEnd U o U' L ({ frames := 2, cells := 0, slots := 0, locals := 36 } : Room).cells ({ frames := 2, cells := 0, slots := 0, locals := 36 } : Room).slots) := by
  refine MetFree.of_bodySF (plainFor_of_name pn_5) hisR ?_
  intro p e s m args below meth c s₁ Bd hml0 hP hK
  obtain ⟨rfl, hZ, hh⟩ := hP
  have hx := Bd.exec
  have hby := Bd.bytes
  have hml : c.maxLocals = 4 := hml0
  have hown : s.vm.findClass "com/example/entitlement/entitlement/Tally" = some m.cls := findClass_of_methodNamed Bd.named
  have hnm := (name_of_methodNamed Bd.named Bd.method).1
  have X0 : Stand p l e ({ frames := 2, cells := 0, slots := 0, locals := 36 } : Room) s m #[(.ref a), (.ref t)] below meth c s₁ [] 0 0 := Stand.of_body Bd
  have e0 : s₁.heap = h0 := by rw [← hh, Bd.state]; rfl
  have N0 := Fr.nil n0
  refine Goes.done ?_
  obtain ⟨W, hWd⟩ : ∃ W : State → Prop, W = EndW s below (QRS1 Z B t tt i ti r tr ku ko kt ki kr ct ci cr w2 zc a hc ks kh kk mc h0 n0) ({ frames := 2, cells := 0, slots := 0, locals := 36 } : Room).cells ({ frames := 2, cells := 0, slots := 0, locals := 36 } : Room).slots := ⟨_, rfl⟩
  rw [← hWd]
  have hef : entryFrame m #[(.ref a), (.ref t)] 4 = (mkF m 0 #[vR a, vR t, .unset, .unset] []) := by first | (simp [entryFrame, mkF, argsToLocals, Value.category]; done) | rfl
  rw [hef]
  refine Go s₁ (mkF m 1 #[vR a, vR t, .unset, .unset] [(.ref a)]) ?_ (fun t_ k_ => XS.aloadN X0.here hx rfl (hb hby d28_0) rfl rfl k_)
  refine Go s₁ (mkF m 2 #[vR a, vR t, .unset, .unset] [(.ref t), (.ref a)]) ?_ (fun t_ k_ => XS.aloadN X0.here hx rfl (hb hby d28_1) rfl rfl k_)
  refine Go s₁ (mkF m 3 #[vR a, vR t, .unset, .unset] [(.ref t), (.ref t), (.ref a)]) ?_ (fun t_ k_ => XS.aloadN X0.here hx rfl (hb hby d28_2) rfl rfl k_)
  obtain ⟨cq1, kq1, q1a, q1b, q1c⟩ := isOf hZ e0 KY.s1.exa
  obtain ⟨_, _, ⟨T1, Lq_1, kq_1, nq_1⟩, -, X1, ⟨Lc1, hQ1, l1, y1, z1⟩, st1⟩ := X0.virtualBack hx (y := mN20) (z := mN9) hown (mvT hZ (wq hw 169 rfl)) (mvT hZ (wq hw 170 rfl)) (own_nfO hZ (wq hw 138 rfl) rfl) (mvT hZ (wq hw 172 rfl)) (mvT hZ (wq hw 82 rfl)) (by decide) (backOf (W := 2) (rmSH l Z a0 hw [] t tt kt ct zc h0 n0 Z0 KY.s1 KC.g1 KC.b1 KC.b2 CS hzc X0_) hZ (wq hw 84 rfl) (wq hw 2 rfl) (by decide) (by decide)) q1a q1c (g := (mkF m 3 #[vR a, vR t, .unset, .unset] [(.ref t), (.ref t), (.ref a)])) rfl (by rw [hml]; rfl) (Steps.refl _) (argsL := []) (rest := [(.ref t), (.ref a)]) (lenOf pd_9 rfl) rfl (by show 2 * 0 + _ ≤ _; exact Nat.le_of_eq rfl) (hb hby d28_3) (fun _ _ => ⟨rfl, e0, (by decide : 0 + 0 ≤ _), (by decide : 0 + 0 ≤ _)⟩)
  dsimp only [Pt.U, Pt.locs, Pt.cells, Pt.slots] at X1 l1 y1 z1 st1 hQ1
  rw [l1, y1, z1] at X1
  change Stand p l e _ _ m _ below meth c T1 _ 0 0 at X1
  obtain ⟨rfl, N1q, K1, SN1⟩ := hQ1
  have N1 := Fr.app N0 N1q
  refine Go T1 (mkF m 6 #[vR a, vR t, .unset, .unset] [(.int ct), (.ref t), (.ref a)]) ?_ (fun t => st1.trans)
  have Zc1 : n0 ≤ T1.heap.size := Nat.le_trans Z0 K1.1
  have ky1 := KY.put1 KC K1 SN1
  have xo1 : Old Z n0 T1.heap := X0_.keep K1 (allS KC.g1 all0)
  have kp2 := (Keep.refl h0 [t, i, r, a, hc, ks]).trans K1 (allS (Or.inl (by simp)) all0)
  have bb1 : B ≤ T1.heap.size := Nat.le_trans bB K1.1
  have tl1 := TL.keep K1 (own_nhi TL.ba (own_sfC KC.l1 (fun y hy => absurd hy List.not_mem_nil))) (own_nhi TL.bh (own_sfC KC.l1 (fun y hy => absurd hy List.not_mem_nil))) (own_nhi TL.bk (own_sfC KC.l1 (fun y hy => absurd hy List.not_mem_nil)))
  obtain ⟨cq3, q3, q3'⟩ := tl1.E.cell
  obtain ⟨_, _, ⟨T3, Lq_3, kq_3, nq_3⟩, -, X3, ⟨Lc3, hQ3, l3, y3, z3⟩, st3⟩ := X1.privateBack hx (y := mN15) hown (mvT hZ (wq hw 173 rfl)) (mvT hZ (wq hw 174 rfl)) (mvT hZ (own_selP (y := mN15) (wq hw 151 rfl) (wq hw 175 rfl) (wq hw 174 rfl) (by decide))) (Cond.privateMethod_at (mvP hZ (wq hw 175 rfl) (args := #[]))) (mvT hZ (wq hw 176 rfl)) (by decide) (backOf (W := 0) (rmF1 l Z a0 hw [] B a hc ks kh kk t ct mc T1.heap n0 Zc1 tl1 hm) hZ (wq hw 176 rfl) (wq hw 152 rfl) (by decide) (by decide)) (g := (mkF m 6 #[vR a, vR t, .unset, .unset] [(.int ct), (.ref t), (.ref a)])) rfl (by rw [hml]; rfl) (Steps.refl _) (a := a) q3 q3' (argsL := [(.ref t), (.int ct)]) (rest := []) (lenOf pd_13 rfl) rfl (by show 2 * 0 + _ ≤ _; exact Nat.le_of_eq rfl) (hb hby d28_6) (fun _ _ => ⟨rfl, rfl, (by decide : 0 + 0 ≤ _), (by decide : 0 + 0 ≤ _)⟩)
  dsimp only [Pt.U, Pt.locs, Pt.cells, Pt.slots] at X3 l3 y3 z3 st3 hQ3
  rw [l3, y3, z3] at X3
  change Stand p l e _ _ m _ below meth c T3 _ 0 0 at X3
  obtain ⟨rfl, N3q, eh3⟩ := hQ3
  have N3 := Fr.app N1 N3q
  refine Go T3 (mkF m 9 #[vR a, vR t, .unset, .unset] [(.int (own_home ct))]) ?_ (fun t => st3.trans)
  rcases own_home_b ct with hbm | hbm
  · rw [hbm]
    have ahc : a ≠ hc := Exa.neArv tl1.E tl1.VH (wq hw 151 rfl)
    have aks : a ≠ ks := Exa.neArv tl1.E tl1.VK (wq hw 151 rfl)
    have VHb : Arv Z T1.heap hc kh .int 4 [.int ct, .int mc, .int 0, .int 0] (.int 0) := by have q := tl1.VH; rw [hbm, own_hs0] at q; exact q
    obtain ⟨cH, AH, qH, SH_, MH, HH, GH⟩ := id VHb
    refine Go T3 (mkF m 10 #[vR a, vR t, vI 0, .unset] []) ?_ (fun t_ k_ => XS.istoreN X3.here hx rfl (hb hby d28_9) rfl (l' := #[vR a, vR t, vI 0, .unset]) rfl k_)
    refine Go T3 (mkF m 11 #[vR a, vR t, vI 0, .unset] [(.int 0)]) ?_ (fun t_ k_ => XS.iloadN X3.here hx rfl (hb hby d28_10) rfl k_)
    refine Go T3 (mkF m 16 #[vR a, vR t, vI 0, .unset] []) ?_ (fun t_ k_ => XS.ifYes X3.here hx rfl (pc0 := 11) (pc' := 16) rfl (hb hby d28_11) rfl (by decide) (by decide) (by decide) k_)
    refine Go T3 (mkF m 17 #[vR a, vR t, vI 0, .unset] [(.ref a)]) ?_ (fun t_ k_ => XS.aloadN X3.here hx rfl (hb hby d28_16) rfl rfl k_)
    obtain ⟨T4, X4, e4, st4⟩ := getF X3 hx hZ hown (host := "") (Or.inl (wq hw 157 rfl)) Via.refl eh3 tl1.FH (g := (mkF m 17 #[vR a, vR t, vI 0, .unset] [(.ref a)])) rfl rfl (hb hby d28_17)
    refine Go T4 (mkF m 20 #[vR a, vR t, vI 0, .unset] [(.ref hc)]) ?_ st4
    refine Go T4 (mkF m 21 #[vR a, vR t, vI 0, .unset] [(.int 2), (.ref hc)]) ?_ (fun t_ k_ => XS.iconst X4.here hx rfl (hb hby d28_20) k_)
    refine Go T4 (mkF m 22 #[vR a, vR t, vI 0, .unset] [(.int 0), (.int 2), (.ref hc)]) ?_ (fun t_ k_ => XS.iloadN X4.here hx rfl (hb hby d28_21) rfl k_)
    refine Go T4 (mkF m 23 #[vR a, vR t, vI 0, .unset] [(.int 0), (.ref hc)]) ?_ (fun t_ k_ => XS.imul X4.here hx rfl (hb hby d28_22) rfl k_)
    refine Go T4 (mkF m 24 #[vR a, vR t, vI 0, .unset] [(.int 1), (.int 0), (.ref hc)]) ?_ (fun t_ k_ => XS.iconst X4.here hx rfl (hb hby d28_23) k_)
    refine Go T4 (mkF m 25 #[vR a, vR t, vI 0, .unset] [(.int 1), (.ref hc)]) ?_ (fun t_ k_ => XS.iadd X4.here hx rfl (hb hby d28_24) rfl k_)
    refine Go T4 (mkF m 26 #[vR a, vR t, vI 0, .unset] [(.int 1), (.ref hc), (.int 1), (.ref hc)]) ?_ (fun t_ k_ => Jvm.Free.XT.dup2 X4.here hx rfl (hb hby d28_25) rfl rfl rfl k_)
    refine Go T4 (mkF m 27 #[vR a, vR t, vI 0, .unset] [(.int mc), (.int 1), (.ref hc)]) ?_ (X4.iaload hx (j := (1 : Int32)) (v := (.int mc)) (by rw [e4]; exact AH.1) (State.isArrayOf_alike hZ.alike AH.2.1) AH.2.2 (inb_of SH_ ⟨by decide, by decide⟩) (by have q := HH 1 (by rw [SH_]; decide); exact q) (g := (mkF m 26 #[vR a, vR t, vI 0, .unset] [(.int 1), (.ref hc), (.int 1), (.ref hc)])) rfl rfl (hb hby d28_26))
    refine Go T4 (mkF m 28 #[vR a, vR t, vI 0, .unset] [(.int 1), (.int mc), (.int 1), (.ref hc)]) ?_ (fun t_ k_ => XS.iconst X4.here hx rfl (hb hby d28_27) k_)
    refine Go T4 (mkF m 29 #[vR a, vR t, vI 0, .unset] [(.int (mc - (1 : Int32))), (.int 1), (.ref hc)]) ?_ (fun t_ k_ => XS.isub X4.here hx rfl (hb hby d28_28) rfl k_)
    obtain ⟨T5, h5, X5, e5, W5, st5⟩ := stI X4 hx hZ e4 AH (j := (1 : Int32)) (inb_of SH_ ⟨by decide, by decide⟩) (g := (mkF m 29 #[vR a, vR t, vI 0, .unset] [(.int (mc - (1 : Int32))), (.int 1), (.ref hc)])) rfl rfl (hb hby d28_29)
    have N5 := Fr.snoc X5 N3 (Nat.le_trans gB tl1.bh)
    have Z5 : n0 ≤ h5.size := Nat.le_trans Zc1 (Nat.le_of_eq W5.size.symm)
    refine Go T5 (mkF m 30 #[vR a, vR t, vI 0, .unset] []) ?_ st5
    have fx6 := tl1.FH.other W5 (Or.inl ahc)
    have fx7 := tl1.FK.other W5 (Or.inl ahc)
    have fx8 := tl1.FS.other W5 (Or.inl ahc)
    have fx9 := tl1.FZ.other W5 (Or.inl ahc)
    have fx10 := tl1.E.wr W5
    have fx11 := tl1.VK.other W5 (Ne.symm tl1.hne)
    have kp12 := kp2.wr W5 (Or.inl (by simp))
    have V5 : Arv Z h5 hc kh .int 4 [.int ct, .int (mc - (1 : Int32)), .int 0, .int 0] (.int 0) := Arv.set AH qH SH_ MH HH GH rfl W5 1 rfl (Nat.le_of_ble_eq_true rfl)
    have ky5 := ky1.keep KC ((Keep.refl _ [hc]).wr W5 (Or.inl (List.mem_cons_self ..))) (own_sfC (P := fun z => B ≤ z) tl1.bh (fun y hy => absurd hy List.not_mem_nil))
    have TN : Tly Z h5 B a hc ks kh kk t ct (mc - (1 : Int32)) := ⟨fx10, fx6, fx7, fx8, fx9, (by rw [hbm, own_hs0]; exact V5), fx11, tl1.OV, tl1.hne, tl1.ba, tl1.bh, tl1.bk⟩
    obtain ⟨cH2, AH2, qH2, SH2, MH2, HH2, GH2⟩ := id V5
    refine Go T5 (mkF m 31 #[vR a, vR t, vI 0, .unset] [(.ref a)]) ?_ (fun t_ k_ => XS.aloadN X5.here hx rfl (hb hby d28_30) rfl rfl k_)
    obtain ⟨T13, X13, e13, st13⟩ := getF X5 hx hZ hown (host := "") (Or.inl (wq hw 157 rfl)) Via.refl e5 fx6 (g := (mkF m 31 #[vR a, vR t, vI 0, .unset] [(.ref a)])) rfl rfl (hb hby d28_31)
    refine Go T13 (mkF m 34 #[vR a, vR t, vI 0, .unset] [(.ref hc)]) ?_ st13
    refine Go T13 (mkF m 35 #[vR a, vR t, vI 0, .unset] [(.int 2), (.ref hc)]) ?_ (fun t_ k_ => XS.iconst X13.here hx rfl (hb hby d28_34) k_)
    refine Go T13 (mkF m 36 #[vR a, vR t, vI 0, .unset] [(.int 0), (.int 2), (.ref hc)]) ?_ (fun t_ k_ => XS.iloadN X13.here hx rfl (hb hby d28_35) rfl k_)
    refine Go T13 (mkF m 37 #[vR a, vR t, vI 0, .unset] [(.int 0), (.ref hc)]) ?_ (fun t_ k_ => XS.imul X13.here hx rfl (hb hby d28_36) rfl k_)
    refine Go T13 (mkF m 38 #[vR a, vR t, vI 0, .unset] [(.int 1), (.int 0), (.ref hc)]) ?_ (fun t_ k_ => XS.iconst X13.here hx rfl (hb hby d28_37) k_)
    refine Go T13 (mkF m 39 #[vR a, vR t, vI 0, .unset] [(.int 1), (.ref hc)]) ?_ (fun t_ k_ => XS.iadd X13.here hx rfl (hb hby d28_38) rfl k_)
    refine Go T13 (mkF m 40 #[vR a, vR t, vI 0, .unset] [(.int (mc - (1 : Int32)))]) ?_ (X13.iaload hx (j := (1 : Int32)) (v := (.int (mc - (1 : Int32)))) (by rw [e13]; exact AH2.1) (State.isArrayOf_alike hZ.alike AH2.2.1) AH2.2.2 (inb_of SH2 ⟨by decide, by decide⟩) (by have q := HH2 1 (by rw [SH2]; decide); exact q) (g := (mkF m 39 #[vR a, vR t, vI 0, .unset] [(.int 1), (.ref hc)])) rfl rfl (hb hby d28_39))
    refine Go T13 (mkF m 47 #[vR a, vR t, vI 0, .unset] []) ?_ (fun t_ k_ => XS.ifYes X13.here hx rfl (pc0 := 40) (pc' := 47) rfl (hb hby d28_40) rfl ((if0 _ _).trans (feq hm1).2) (by decide) (by decide) k_)
    refine Go T13 (mkF m 48 #[vR a, vR t, vI 0, .unset] [(.int 0)]) ?_ (fun t_ k_ => XS.iconst X13.here hx rfl (hb hby d28_47) k_)
    refine Go T13 (mkF m 49 #[vR a, vR t, vI 0, vI 0] []) ?_ (fun t_ k_ => XS.istoreN X13.here hx rfl (hb hby d28_48) rfl (l' := #[vR a, vR t, vI 0, vI 0]) rfl k_)
    refine Go T13 (mkF m 50 #[vR a, vR t, vI 0, vI 0] [(.int 0)]) ?_ (fun t_ k_ => XS.iloadN X13.here hx rfl (hb hby d28_49) rfl k_)
    refine Go T13 (mkF m 68 #[vR a, vR t, vI 0, vI 0] []) ?_ (fun t_ k_ => XS.ifYes X13.here hx rfl (pc0 := 50) (pc' := 68) rfl (hb hby d28_50) rfl (by decide) (by decide) (by decide) k_)
    refine Go T13 (mkF m 69 #[vR a, vR t, vI 0, vI 0] [(.int 0)]) ?_ (fun t_ k_ => XS.iloadN X13.here hx rfl (hb hby d28_68) rfl k_)
    rw [hWd]
    exact Goes.retn X13 (v := some (.int (nar .boolean (0 : Int32)))) (fun fs hr => retN X13 hx (t := .boolean) Bd.returns (by simp) (hb hby d28_69) hr) (fun h => by rw [Bd.returns] at h; cases h) Bd.notSynchronized (by decide) (by decide) (by rw [e13]; exact ⟨rfl, N5, kp12, ky5, TN⟩)
  · rw [hbm]
    have ahc : a ≠ hc := Exa.neArv tl1.E tl1.VH (wq hw 151 rfl)
    have aks : a ≠ ks := Exa.neArv tl1.E tl1.VK (wq hw 151 rfl)
    have VHb : Arv Z T1.heap hc kh .int 4 [.int 0, .int 0, .int ct, .int mc] (.int 0) := by have q := tl1.VH; rw [hbm, own_hs1] at q; exact q
    obtain ⟨cH, AH, qH, SH_, MH, HH, GH⟩ := id VHb
    refine Go T3 (mkF m 10 #[vR a, vR t, vI 1, .unset] []) ?_ (fun t_ k_ => XS.istoreN X3.here hx rfl (hb hby d28_9) rfl (l' := #[vR a, vR t, vI 1, .unset]) rfl k_)
    refine Go T3 (mkF m 11 #[vR a, vR t, vI 1, .unset] [(.int 1)]) ?_ (fun t_ k_ => XS.iloadN X3.here hx rfl (hb hby d28_10) rfl k_)
    refine Go T3 (mkF m 16 #[vR a, vR t, vI 1, .unset] []) ?_ (fun t_ k_ => XS.ifYes X3.here hx rfl (pc0 := 11) (pc' := 16) rfl (hb hby d28_11) rfl (by decide) (by decide) (by decide) k_)
    refine Go T3 (mkF m 17 #[vR a, vR t, vI 1, .unset] [(.ref a)]) ?_ (fun t_ k_ => XS.aloadN X3.here hx rfl (hb hby d28_16) rfl rfl k_)
    obtain ⟨T14, X14, e14, st14⟩ := getF X3 hx hZ hown (host := "") (Or.inl (wq hw 157 rfl)) Via.refl eh3 tl1.FH (g := (mkF m 17 #[vR a, vR t, vI 1, .unset] [(.ref a)])) rfl rfl (hb hby d28_17)
    refine Go T14 (mkF m 20 #[vR a, vR t, vI 1, .unset] [(.ref hc)]) ?_ st14
    refine Go T14 (mkF m 21 #[vR a, vR t, vI 1, .unset] [(.int 2), (.ref hc)]) ?_ (fun t_ k_ => XS.iconst X14.here hx rfl (hb hby d28_20) k_)
    refine Go T14 (mkF m 22 #[vR a, vR t, vI 1, .unset] [(.int 1), (.int 2), (.ref hc)]) ?_ (fun t_ k_ => XS.iloadN X14.here hx rfl (hb hby d28_21) rfl k_)
    refine Go T14 (mkF m 23 #[vR a, vR t, vI 1, .unset] [(.int 2), (.ref hc)]) ?_ (fun t_ k_ => XS.imul X14.here hx rfl (hb hby d28_22) rfl k_)
    refine Go T14 (mkF m 24 #[vR a, vR t, vI 1, .unset] [(.int 1), (.int 2), (.ref hc)]) ?_ (fun t_ k_ => XS.iconst X14.here hx rfl (hb hby d28_23) k_)
    refine Go T14 (mkF m 25 #[vR a, vR t, vI 1, .unset] [(.int 3), (.ref hc)]) ?_ (fun t_ k_ => XS.iadd X14.here hx rfl (hb hby d28_24) rfl k_)
    refine Go T14 (mkF m 26 #[vR a, vR t, vI 1, .unset] [(.int 3), (.ref hc), (.int 3), (.ref hc)]) ?_ (fun t_ k_ => Jvm.Free.XT.dup2 X14.here hx rfl (hb hby d28_25) rfl rfl rfl k_)
    refine Go T14 (mkF m 27 #[vR a, vR t, vI 1, .unset] [(.int mc), (.int 3), (.ref hc)]) ?_ (X14.iaload hx (j := (3 : Int32)) (v := (.int mc)) (by rw [e14]; exact AH.1) (State.isArrayOf_alike hZ.alike AH.2.1) AH.2.2 (inb_of SH_ ⟨by decide, by decide⟩) (by have q := HH 3 (by rw [SH_]; decide); exact q) (g := (mkF m 26 #[vR a, vR t, vI 1, .unset] [(.int 3), (.ref hc), (.int 3), (.ref hc)])) rfl rfl (hb hby d28_26))
    refine Go T14 (mkF m 28 #[vR a, vR t, vI 1, .unset] [(.int 1), (.int mc), (.int 3), (.ref hc)]) ?_ (fun t_ k_ => XS.iconst X14.here hx rfl (hb hby d28_27) k_)
    refine Go T14 (mkF m 29 #[vR a, vR t, vI 1, .unset] [(.int (mc - (1 : Int32))), (.int 3), (.ref hc)]) ?_ (fun t_ k_ => XS.isub X14.here hx rfl (hb hby d28_28) rfl k_)
    obtain ⟨T15, h15, X15, e15, W15, st15⟩ := stI X14 hx hZ e14 AH (j := (3 : Int32)) (inb_of SH_ ⟨by decide, by decide⟩) (g := (mkF m 29 #[vR a, vR t, vI 1, .unset] [(.int (mc - (1 : Int32))), (.int 3), (.ref hc)])) rfl rfl (hb hby d28_29)
    have N15 := Fr.snoc X15 N3 (Nat.le_trans gB tl1.bh)
    have Z15 : n0 ≤ h15.size := Nat.le_trans Zc1 (Nat.le_of_eq W15.size.symm)
    refine Go T15 (mkF m 30 #[vR a, vR t, vI 1, .unset] []) ?_ st15
    have fx16 := tl1.FH.other W15 (Or.inl ahc)
    have fx17 := tl1.FK.other W15 (Or.inl ahc)
    have fx18 := tl1.FS.other W15 (Or.inl ahc)
    have fx19 := tl1.FZ.other W15 (Or.inl ahc)
    have fx20 := tl1.E.wr W15
    have fx21 := tl1.VK.other W15 (Ne.symm tl1.hne)
    have kp22 := kp2.wr W15 (Or.inl (by simp))
    have V15 : Arv Z h15 hc kh .int 4 [.int 0, .int 0, .int ct, .int (mc - (1 : Int32))] (.int 0) := Arv.set AH qH SH_ MH HH GH rfl W15 3 rfl (Nat.le_of_ble_eq_true rfl)
    have ky15 := ky1.keep KC ((Keep.refl _ [hc]).wr W15 (Or.inl (List.mem_cons_self ..))) (own_sfC (P := fun z => B ≤ z) tl1.bh (fun y hy => absurd hy List.not_mem_nil))
    have TN : Tly Z h15 B a hc ks kh kk t ct (mc - (1 : Int32)) := ⟨fx20, fx16, fx17, fx18, fx19, (by rw [hbm, own_hs1]; exact V15), fx21, tl1.OV, tl1.hne, tl1.ba, tl1.bh, tl1.bk⟩
    obtain ⟨cH2, AH2, qH2, SH2, MH2, HH2, GH2⟩ := id V15
    refine Go T15 (mkF m 31 #[vR a, vR t, vI 1, .unset] [(.ref a)]) ?_ (fun t_ k_ => XS.aloadN X15.here hx rfl (hb hby d28_30) rfl rfl k_)
    obtain ⟨T23, X23, e23, st23⟩ := getF X15 hx hZ hown (host := "") (Or.inl (wq hw 157 rfl)) Via.refl e15 fx16 (g := (mkF m 31 #[vR a, vR t, vI 1, .unset] [(.ref a)])) rfl rfl (hb hby d28_31)
    refine Go T23 (mkF m 34 #[vR a, vR t, vI 1, .unset] [(.ref hc)]) ?_ st23
    refine Go T23 (mkF m 35 #[vR a, vR t, vI 1, .unset] [(.int 2), (.ref hc)]) ?_ (fun t_ k_ => XS.iconst X23.here hx rfl (hb hby d28_34) k_)
    refine Go T23 (mkF m 36 #[vR a, vR t, vI 1, .unset] [(.int 1), (.int 2), (.ref hc)]) ?_ (fun t_ k_ => XS.iloadN X23.here hx rfl (hb hby d28_35) rfl k_)
    refine Go T23 (mkF m 37 #[vR a, vR t, vI 1, .unset] [(.int 2), (.ref hc)]) ?_ (fun t_ k_ => XS.imul X23.here hx rfl (hb hby d28_36) rfl k_)
    refine Go T23 (mkF m 38 #[vR a, vR t, vI 1, .unset] [(.int 1), (.int 2), (.ref hc)]) ?_ (fun t_ k_ => XS.iconst X23.here hx rfl (hb hby d28_37) k_)
    refine Go T23 (mkF m 39 #[vR a, vR t, vI 1, .unset] [(.int 3), (.ref hc)]) ?_ (fun t_ k_ => XS.iadd X23.here hx rfl (hb hby d28_38) rfl k_)
    refine Go T23 (mkF m 40 #[vR a, vR t, vI 1, .unset] [(.int (mc - (1 : Int32)))]) ?_ (X23.iaload hx (j := (3 : Int32)) (v := (.int (mc - (1 : Int32)))) (by rw [e23]; exact AH2.1) (State.isArrayOf_alike hZ.alike AH2.2.1) AH2.2.2 (inb_of SH2 ⟨by decide, by decide⟩) (by have q := HH2 3 (by rw [SH2]; decide); exact q) (g := (mkF m 39 #[vR a, vR t, vI 1, .unset] [(.int 3), (.ref hc)])) rfl rfl (hb hby d28_39))
    refine Go T23 (mkF m 47 #[vR a, vR t, vI 1, .unset] []) ?_ (fun t_ k_ => XS.ifYes X23.here hx rfl (pc0 := 40) (pc' := 47) rfl (hb hby d28_40) rfl ((if0 _ _).trans (feq hm1).2) (by decide) (by decide) k_)
    refine Go T23 (mkF m 48 #[vR a, vR t, vI 1, .unset] [(.int 0)]) ?_ (fun t_ k_ => XS.iconst X23.here hx rfl (hb hby d28_47) k_)
    refine Go T23 (mkF m 49 #[vR a, vR t, vI 1, vI 0] []) ?_ (fun t_ k_ => XS.istoreN X23.here hx rfl (hb hby d28_48) rfl (l' := #[vR a, vR t, vI 1, vI 0]) rfl k_)
    refine Go T23 (mkF m 50 #[vR a, vR t, vI 1, vI 0] [(.int 0)]) ?_ (fun t_ k_ => XS.iloadN X23.here hx rfl (hb hby d28_49) rfl k_)
    refine Go T23 (mkF m 68 #[vR a, vR t, vI 1, vI 0] []) ?_ (fun t_ k_ => XS.ifYes X23.here hx rfl (pc0 := 50) (pc' := 68) rfl (hb hby d28_50) rfl (by decide) (by decide) (by decide) k_)
    refine Go T23 (mkF m 69 #[vR a, vR t, vI 1, vI 0] [(.int 0)]) ?_ (fun t_ k_ => XS.iloadN X23.here hx rfl (hb hby d28_68) rfl k_)
    rw [hWd]
    exact Goes.retn X23 (v := some (.int (nar .boolean (0 : Int32)))) (fun fs hr => retN X23 hx (t := .boolean) Bd.returns (by simp) (hb hby d28_69) hr) (fun h => by rw [Bd.returns] at h; cases h) Bd.notSynchronized (by decide) (by decide) (by rw [e23]; exact ⟨rfl, N15, kp22, ky15, TN⟩)
def QAU0 (Z : State) (B : Nat) (t tt i ti r tr ku ko : Addr) (kt ki kr : ClassId) (ct ci cr w2 : Int32) (zc : Int32) (a hc ks : Addr) (kh kk : ClassId) (h0 : Heap) (n0 : Nat) (v : Option Value) (h : Heap) (L : List Loc) : Prop := v = none ∧ Fr n0 L ∧ Keep h0 h [t, i, r, a, hc, ks] ∧ KA Z h t tt i ti r tr ku ko kt ki kr ct ci cr w2 ∧ Tly Z h B a hc ks kh kk ku (own_sh ct ci cr) (1 : Int32)
set_option maxRecDepth 65536 in
set_option maxHeartbeats 40000000 in
theorem rmAU0 (l : Launch) (Z : State) (a0 : Array Value) (hw : ∀ d ∈ tables_1, d.before a0 Z = true) (ws : List Jvm.Cond) (B : Nat) (t tt i ti r tr ku ko : Addr) (kt ki kr : ClassId) (ct ci cr w2 : Int32) (zc : Int32) (a hc ks : Addr) (kh kk : ClassId) (h0 : Heap) (n0 : Nat) (Z0 : n0 ≤ h0.size) (KY : KA Z h0 t tt i ti r tr ku ko kt ki kr ct ci cr w2) (KC : KD n0 B t tt i ti r tr ku ko ct ci cr) (gB : n0 ≤ B) (bB : B ≤ h0.size) (CS : Sta Z Z.heap "java/lang/String" "COMPACT_STRINGS" "Z" (.int zc)) (hzc : ¬ zc = (0 : Int32)) (X0_ : Old Z n0 h0) (TL : TlyE Z h0 B a hc ks kh kk) :
    MetFree l mN24 (head1 (Jvm.Cond.code mN24 cD21 4 none :: ws) ({ frames := 5, cells := 1, slots := 3, locals := 72 } : Room)) (fun a_ U => a_ = #[(.ref a), (.ref ku)] ∧ Z.Warmed39 U.vm ∧ U.heap = h0) (fun _ _ _ _ _ => True) (fun _ U o U' => ∃ v L, o = .returned v ∧ QAU0 Z B t tt i ti r tr ku ko kt ki kr ct ci cr w2 zc a hc ks kh kk h0 n0 v U'.heap L ∧ FrameEnd U o U' L ({ frames := 5, cells := 1, slots := 3, locals := 72 } : Room).cells ({ frames := 5, cells := 1, slots := 3, locals := 72 } : Room).slots) := by
  refine MetFree.of_bodySF (plainFor_of_name pn_5) hisR ?_
  intro p e s m args below meth c s₁ Bd hml0 hP hK
  obtain ⟨rfl, hZ, hh⟩ := hP
  have hx := Bd.exec
  have hby := Bd.bytes
  have hml : c.maxLocals = 4 := hml0
  have hown : s.vm.findClass "com/example/entitlement/entitlement/Tally" = some m.cls := findClass_of_methodNamed Bd.named
  have hnm := (name_of_methodNamed Bd.named Bd.method).1
  have X0 : Stand p l e ({ frames := 5, cells := 1, slots := 3, locals := 72 } : Room) s m #[(.ref a), (.ref ku)] below meth c s₁ [] 0 0 := Stand.of_body Bd
  have e0 : s₁.heap = h0 := by rw [← hh, Bd.state]; rfl
  have N0 := Fr.nil n0
  refine Goes.done ?_
  obtain ⟨W, hWd⟩ : ∃ W : State → Prop, W = EndW s below (QAU0 Z B t tt i ti r tr ku ko kt ki kr ct ci cr w2 zc a hc ks kh kk h0 n0) ({ frames := 5, cells := 1, slots := 3, locals := 72 } : Room).cells ({ frames := 5, cells := 1, slots := 3, locals := 72 } : Room).slots := ⟨_, rfl⟩
  rw [← hWd]
  have hef : entryFrame m #[(.ref a), (.ref ku)] 4 = (mkF m 0 #[vR a, vR ku, .unset, .unset] []) := by first | (simp [entryFrame, mkF, argsToLocals, Value.category]; done) | rfl
  rw [hef]
  refine Go s₁ (mkF m 1 #[vR a, vR ku, .unset, .unset] [(.ref ku)]) ?_ (fun t_ k_ => XS.aloadN X0.here hx rfl (hb hby d24_0) rfl rfl k_)
  obtain ⟨cq1, kq1, q1a, q1b, q1c⟩ := isOf hZ e0 KY.u0
  obtain ⟨_, _, ⟨T1, Lq_1, kq_1, nq_1⟩, -, X1, ⟨Lc1, hQ1, l1, y1, z1⟩, st1⟩ := X0.virtualBack hx (y := mN20) (z := mN22) hown (mvT hZ (wq hw 169 rfl)) (mvT hZ (wq hw 170 rfl)) (own_nfO hZ (wq hw 138 rfl) rfl) (mvT hZ (wq hw 207 rfl)) (mvT hZ (wq hw 208 rfl)) (by decide) (backOf (W := 0) (rmHU l Z a0 hw [] B t tt i ti r tr ku ko kt ki kr ct ci cr w2 zc h0 n0 Z0 KY KC gB bB CS hzc X0_) hZ (wq hw 209 rfl) (wq hw 31 rfl) (by decide) (by decide)) q1a q1c (g := (mkF m 1 #[vR a, vR ku, .unset, .unset] [(.ref ku)])) rfl (by rw [hml]; rfl) (Steps.refl _) (argsL := []) (rest := []) (lenOf pd_9 rfl) rfl (by show 2 * 0 + _ ≤ _; exact Nat.le_of_eq rfl) (hb hby d24_1) (fun _ _ => ⟨rfl, e0, (by decide : 0 + 1 ≤ _), (by decide : 0 + 3 ≤ _)⟩)
  dsimp only [Pt.U, Pt.locs, Pt.cells, Pt.slots] at X1 l1 y1 z1 st1 hQ1
  rw [l1, y1, z1] at X1
  change Stand p l e _ _ m _ below meth c T1 _ 1 3 at X1
  obtain ⟨rfl, N1q, K1, ky1⟩ := hQ1
  have N1 := Fr.app N0 N1q
  refine Go T1 (mkF m 4 #[vR a, vR ku, .unset, .unset] [(.int (own_sh ct ci cr))]) ?_ (fun t => st1.trans)
  have Zc1 : n0 ≤ T1.heap.size := Nat.le_trans Z0 K1.1
  have xo1 : Old Z n0 T1.heap := X0_.keep K1 KC.ge
  have kp2 := (Keep.refl h0 [t, i, r, a, hc, ks]).trans K1 (allS (Or.inl (by simp)) (allS (Or.inl (by simp)) (allS (Or.inl (by simp)) all0)))
  have bb1 : B ≤ T1.heap.size := Nat.le_trans bB K1.1
  have tl1 := TL.keep K1 (own_nhi TL.ba KC.lt) (own_nhi TL.bh KC.lt) (own_nhi TL.bk KC.lt)
  refine Go T1 (mkF m 5 #[vR a, vR ku, vI (own_sh ct ci cr), .unset] []) ?_ (fun t_ k_ => XS.istoreN X1.here hx rfl (hb hby d24_4) rfl (l' := #[vR a, vR ku, vI (own_sh ct ci cr), .unset]) rfl k_)
  refine Go T1 (mkF m 6 #[vR a, vR ku, vI (own_sh ct ci cr), .unset] [(.ref a)]) ?_ (fun t_ k_ => XS.aloadN X1.here hx rfl (hb hby d24_5) rfl rfl k_)
  refine Go T1 (mkF m 7 #[vR a, vR ku, vI (own_sh ct ci cr), .unset] [(.ref ku), (.ref a)]) ?_ (fun t_ k_ => XS.aloadN X1.here hx rfl (hb hby d24_6) rfl rfl k_)
  refine Go T1 (mkF m 8 #[vR a, vR ku, vI (own_sh ct ci cr), .unset] [(.int (own_sh ct ci cr)), (.ref ku), (.ref a)]) ?_ (fun t_ k_ => XS.iloadN X1.here hx rfl (hb hby d24_7) rfl k_)
  obtain ⟨cq3, q3, q3'⟩ := tl1.E.cell
  obtain ⟨_, _, ⟨T3, Lq_3, kq_3, nq_3⟩, -, X3, ⟨Lc3, hQ3, l3, y3, z3⟩, st3⟩ := X1.privateBack hx (y := mN15) hown (mvT hZ (wq hw 173 rfl)) (mvT hZ (wq hw 174 rfl)) (mvT hZ (own_selP (y := mN15) (wq hw 151 rfl) (wq hw 175 rfl) (wq hw 174 rfl) (by decide))) (Cond.privateMethod_at (mvP hZ (wq hw 175 rfl) (args := #[]))) (mvT hZ (wq hw 176 rfl)) (by decide) (backOf (W := 0) (rmF0 l Z a0 hw [] B a hc ks kh kk ku (own_sh ct ci cr) T1.heap n0 Zc1 tl1) hZ (wq hw 176 rfl) (wq hw 152 rfl) (by decide) (by decide)) (g := (mkF m 8 #[vR a, vR ku, vI (own_sh ct ci cr), .unset] [(.int (own_sh ct ci cr)), (.ref ku), (.ref a)])) rfl (by rw [hml]; rfl) (Steps.refl _) (a := a) q3 q3' (argsL := [(.ref ku), (.int (own_sh ct ci cr))]) (rest := []) (lenOf pd_13 rfl) rfl (by show 2 * 0 + _ ≤ _; exact Nat.le_of_eq rfl) (hb hby d24_8) (fun _ _ => ⟨rfl, rfl, (by decide : 1 + 0 ≤ _), (by decide : 3 + 0 ≤ _)⟩)
  dsimp only [Pt.U, Pt.locs, Pt.cells, Pt.slots] at X3 l3 y3 z3 st3 hQ3
  rw [l3, y3, z3] at X3
  change Stand p l e _ _ m _ below meth c T3 _ 1 3 at X3
  obtain ⟨rfl, N3q, eh3⟩ := hQ3
  have N3 := Fr.app N1 N3q
  refine Go T3 (mkF m 11 #[vR a, vR ku, vI (own_sh ct ci cr), .unset] [(.int ((-1 : Int32) - own_home (own_sh ct ci cr)))]) ?_ (fun t => st3.trans)
  rcases own_home_b (own_sh ct ci cr) with hbm | hbm
  · rw [hbm]
    have ahc : a ≠ hc := Exa.neArv tl1.E tl1.VH (wq hw 151 rfl)
    have aks : a ≠ ks := Exa.neArv tl1.E tl1.VK (wq hw 151 rfl)
    rw [show ((-1 : Int32) - (0 : Int32)) = (-1 : Int32) from by decide]
    refine Go T3 (mkF m 12 #[vR a, vR ku, vI (own_sh ct ci cr), vI (-1)] []) ?_ (fun t_ k_ => XS.istoreN X3.here hx rfl (hb hby d24_11) rfl (l' := #[vR a, vR ku, vI (own_sh ct ci cr), vI (-1)]) rfl k_)
    refine Go T3 (mkF m 13 #[vR a, vR ku, vI (own_sh ct ci cr), vI (-1)] [(.int (-1))]) ?_ (fun t_ k_ => XS.iloadN X3.here hx rfl (hb hby d24_12) rfl k_)
    refine Go T3 (mkF m 31 #[vR a, vR ku, vI (own_sh ct ci cr), vI (-1)] []) ?_ (fun t_ k_ => XS.ifYes X3.here hx rfl (pc0 := 13) (pc' := 31) rfl (hb hby d24_13) rfl (by decide) (by decide) (by decide) k_)
    refine Go T3 (mkF m 32 #[vR a, vR ku, vI (own_sh ct ci cr), vI (-1)] [(.int 2)]) ?_ (fun t_ k_ => XS.iconst X3.here hx rfl (hb hby d24_31) k_)
    refine Go T3 (mkF m 33 #[vR a, vR ku, vI (own_sh ct ci cr), vI (-1)] [(.ref a), (.int 2)]) ?_ (fun t_ k_ => XS.aloadN X3.here hx rfl (hb hby d24_32) rfl rfl k_)
    obtain ⟨T4, X4, e4, st4⟩ := getF X3 hx hZ hown (host := "") (Or.inl (wq hw 182 rfl)) Via.refl eh3 tl1.FZ (g := (mkF m 33 #[vR a, vR ku, vI (own_sh ct ci cr), vI (-1)] [(.ref a), (.int 2)])) rfl rfl (hb hby d24_33)
    refine Go T4 (mkF m 36 #[vR a, vR ku, vI (own_sh ct ci cr), vI (-1)] [(.int 0), (.int 2)]) ?_ st4
    refine Go T4 (mkF m 37 #[vR a, vR ku, vI (own_sh ct ci cr), vI (-1)] [(.int 1), (.int 0), (.int 2)]) ?_ (fun t_ k_ => XS.iconst X4.here hx rfl (hb hby d24_36) k_)
    refine Go T4 (mkF m 38 #[vR a, vR ku, vI (own_sh ct ci cr), vI (-1)] [(.int 1), (.int 2)]) ?_ (fun t_ k_ => XS.iadd X4.here hx rfl (hb hby d24_37) rfl k_)
    refine Go T4 (mkF m 39 #[vR a, vR ku, vI (own_sh ct ci cr), vI (-1)] [(.int 2)]) ?_ (fun t_ k_ => XS.imul X4.here hx rfl (hb hby d24_38) rfl k_)
    refine Go T4 (mkF m 40 #[vR a, vR ku, vI (own_sh ct ci cr), vI (-1)] [(.ref a), (.int 2)]) ?_ (fun t_ k_ => XS.aloadN X4.here hx rfl (hb hby d24_39) rfl rfl k_)
    obtain ⟨T5, X5, e5, st5⟩ := getF X4 hx hZ hown (host := "") (Or.inl (wq hw 160 rfl)) Via.refl e4 tl1.FK (g := (mkF m 40 #[vR a, vR ku, vI (own_sh ct ci cr), vI (-1)] [(.ref a), (.int 2)])) rfl rfl (hb hby d24_40)
    refine Go T5 (mkF m 43 #[vR a, vR ku, vI (own_sh ct ci cr), vI (-1)] [(.ref ks), (.int 2)]) ?_ st5
    obtain ⟨cK, AK, -, SK, MK, HK, -⟩ := id tl1.VK
    refine Go T5 (mkF m 44 #[vR a, vR ku, vI (own_sh ct ci cr), vI (-1)] [(.int cK.slots.size.toInt32), (.int 2)]) ?_ (X5.arraylength hx (by rw [e5]; exact AK.1) (State.isArrayOf_alike hZ.alike AK.2.1) (g := (mkF m 43 #[vR a, vR ku, vI (own_sh ct ci cr), vI (-1)] [(.ref ks), (.int 2)])) rfl rfl (hb hby d24_43))
    rw [len_of SK MK]
    refine Go T5 (mkF m 58 #[vR a, vR ku, vI (own_sh ct ci cr), vI (-1)] []) ?_ (fun t_ k_ => XS.icmpYes X5.here hx rfl (pc0 := 44) (pc' := 58) rfl (hb hby d24_44) rfl (by decide) (by decide) (by decide) k_)
    refine Go T5 (mkF m 59 #[vR a, vR ku, vI (own_sh ct ci cr), vI (-1)] [(.ref a)]) ?_ (fun t_ k_ => XS.aloadN X5.here hx rfl (hb hby d24_58) rfl rfl k_)
    refine Go T5 (mkF m 60 #[vR a, vR ku, vI (own_sh ct ci cr), vI (-1)] [(.int (-1)), (.ref a)]) ?_ (fun t_ k_ => XS.iconst X5.here hx rfl (hb hby d24_59) k_)
    refine Go T5 (mkF m 61 #[vR a, vR ku, vI (own_sh ct ci cr), vI (-1)] [(.int (-1)), (.int (-1)), (.ref a)]) ?_ (fun t_ k_ => XS.iloadN X5.here hx rfl (hb hby d24_60) rfl k_)
    refine Go T5 (mkF m 62 #[vR a, vR ku, vI (own_sh ct ci cr), vI (-1)] [(.int ((-1 : Int32) - (-1 : Int32))), (.ref a)]) ?_ (fun t_ k_ => XS.isub X5.here hx rfl (hb hby d24_61) rfl k_)
    rw [show ((-1 : Int32) - (-1 : Int32)) = (0 : Int32) from by decide]
    refine Go T5 (mkF m 63 #[vR a, vR ku, vI (own_sh ct ci cr), vI (-1)] [(.int (own_sh ct ci cr)), (.int 0), (.ref a)]) ?_ (fun t_ k_ => XS.iloadN X5.here hx rfl (hb hby d24_62) rfl k_)
    refine Go T5 (mkF m 64 #[vR a, vR ku, vI (own_sh ct ci cr), vI (-1)] [(.ref ku), (.int (own_sh ct ci cr)), (.int 0), (.ref a)]) ?_ (fun t_ k_ => XS.aloadN X5.here hx rfl (hb hby d24_63) rfl rfl k_)
    refine Go T5 (mkF m 65 #[vR a, vR ku, vI (own_sh ct ci cr), vI (-1)] [(.int 1), (.ref ku), (.int (own_sh ct ci cr)), (.int 0), (.ref a)]) ?_ (fun t_ k_ => XS.iconst X5.here hx rfl (hb hby d24_64) k_)
    have VHp : Arv Z T1.heap hc kh .int 4 [.int 0, .int 0, .int 0, .int 0] (.int 0) := tl1.VH.pad (pad_rep [] (.int 0) 4)
    have VKp : Arv Z T1.heap ks kk (.object "java/lang/Object") (2 : Int32) [.null, .null] .null := tl1.VK.pad (pad_rep [] .null 2)
    obtain ⟨cq6, q6, q6'⟩ := tl1.E.cell
    obtain ⟨_, _, ⟨T6, Lq_6, kq_6, nq_6⟩, -, X6, ⟨Lc6, hQ6, l6, y6, z6⟩, st6⟩ := X5.privateBack hx (y := mN16) hown (mvT hZ (wq hw 184 rfl)) (mvT hZ (wq hw 185 rfl)) (mvT hZ (own_selP (y := mN16) (wq hw 151 rfl) (wq hw 186 rfl) (wq hw 185 rfl) (by decide))) (Cond.privateMethod_at (mvP hZ (wq hw 186 rfl) (args := #[]))) (mvT hZ (wq hw 187 rfl)) (by decide) (backOf (W := 0) (rmP0r l Z a0 hw [] a hc ks kh kk 0 0 0 0 .null .null ku (own_sh ct ci cr) T1.heap n0 Zc1 tl1.E tl1.FH tl1.FK VHp VKp tl1.hne (Nat.le_trans gB tl1.bh) (Nat.le_trans gB tl1.bk) tl1.OV (Ins.of_exa ky1.u0 (wq hw 64 rfl))) hZ (wq hw 187 rfl) (wq hw 152 rfl) (by decide) (by decide)) (g := (mkF m 65 #[vR a, vR ku, vI (own_sh ct ci cr), vI (-1)] [(.int 1), (.ref ku), (.int (own_sh ct ci cr)), (.int 0), (.ref a)])) rfl (by rw [hml]; rfl) (Steps.refl _) (a := a) (by rw [e5]; exact q6) q6' (argsL := [(.int 0), (.int (own_sh ct ci cr)), (.ref ku), (.int 1)]) (rest := []) (lenOf pd_11 rfl) rfl (by show 2 * 0 + _ ≤ _; exact Nat.le_of_eq rfl) (hb hby d24_65) (fun _ _ => ⟨rfl, e5, (by decide : 1 + 0 ≤ _), (by decide : 3 + 0 ≤ _)⟩)
    dsimp only [Pt.U, Pt.locs, Pt.cells, Pt.slots] at X6 l6 y6 z6 st6 hQ6
    rw [l6, y6, z6] at X6
    change Stand p l e _ _ m _ below meth c T6 _ 1 3 at X6
    obtain ⟨rfl, N6q, K6, VHn, VKn⟩ := hQ6
    have N6 := Fr.app N3 N6q
    refine Go T6 (mkF m 68 #[vR a, vR ku, vI (own_sh ct ci cr), vI (-1)] []) ?_ (fun t => st6.trans)
    have Zp : n0 ≤ T6.heap.size := Nat.le_trans Zc1 K6.1
    have ky6 := ky1.keep KC K6 (own_sfC (P := fun z => B ≤ z) tl1.bh (own_sfC (P := fun z => B ≤ z) tl1.bk (fun y hy => absurd hy List.not_mem_nil)))
    have fx7 := tl1.FH.keep K6 (ninS ahc (ninS aks nin0))
    have fx8 := tl1.FK.keep K6 (ninS ahc (ninS aks nin0))
    have fx9 := tl1.FS.keep K6 (ninS ahc (ninS aks nin0))
    have fx10 := tl1.FZ.keep K6 (ninS ahc (ninS aks nin0))
    have fx11 := tl1.E.keep K6
    have kp12 := kp2.trans K6 (allS (Or.inl (by simp)) (allS (Or.inl (by simp)) all0))
    refine Go T6 (mkF m 69 #[vR a, vR ku, vI (own_sh ct ci cr), vI (-1)] [(.ref a)]) ?_ (fun t_ k_ => XS.aloadN X6.here hx rfl (hb hby d24_68) rfl rfl k_)
    refine Go T6 (mkF m 70 #[vR a, vR ku, vI (own_sh ct ci cr), vI (-1)] [(.ref a), (.ref a)]) ?_ (fun t_ k_ => XS.dup X6.here hx rfl (hb hby d24_69) rfl rfl k_)
    obtain ⟨T13, X13, e13, st13⟩ := getF X6 hx hZ hown (host := "") (Or.inl (wq hw 182 rfl)) Via.refl rfl fx10 (g := (mkF m 70 #[vR a, vR ku, vI (own_sh ct ci cr), vI (-1)] [(.ref a), (.ref a)])) rfl rfl (hb hby d24_70)
    refine Go T13 (mkF m 73 #[vR a, vR ku, vI (own_sh ct ci cr), vI (-1)] [(.int 0), (.ref a)]) ?_ st13
    refine Go T13 (mkF m 74 #[vR a, vR ku, vI (own_sh ct ci cr), vI (-1)] [(.int 1), (.int 0), (.ref a)]) ?_ (fun t_ k_ => XS.iconst X13.here hx rfl (hb hby d24_73) k_)
    refine Go T13 (mkF m 75 #[vR a, vR ku, vI (own_sh ct ci cr), vI (-1)] [(.int 1), (.ref a)]) ?_ (fun t_ k_ => XS.iadd X13.here hx rfl (hb hby d24_74) rfl k_)
    obtain ⟨T14, h14, X14, e14, W14, st14⟩ := putF X13 hx hZ hown (host := "") (Or.inl (wq hw 182 rfl)) Via.refl e13 fx10 fx11 (Or.inl (wq hw 183 rfl)) (wq hw 151 rfl) (ty := .int) (by decide) rfl rfl (g := (mkF m 75 #[vR a, vR ku, vI (own_sh ct ci cr), vI (-1)] [(.int 1), (.ref a)])) rfl rfl (hb hby d24_75)
    have N14 := Fr.snoc X14 N6 (Nat.le_trans gB tl1.ba)
    have Z14 : n0 ≤ h14.size := Nat.le_trans Zp (Nat.le_of_eq W14.size.symm)
    refine Go T14 (mkF m 78 #[vR a, vR ku, vI (own_sh ct ci cr), vI (-1)] []) ?_ st14
    have fx15 := fx7.other W14 (Or.inr (slot_ne (Or.inl (wq hw 158 rfl)) (Or.inl (wq hw 183 rfl)) (by decide) (t := (.array .int)) (t' := .int) (by decide) (by decide)))
    have fx16 := fx8.other W14 (Or.inr (slot_ne (Or.inl (wq hw 161 rfl)) (Or.inl (wq hw 183 rfl)) (by decide) (t := (.array (.object "java/lang/Object"))) (t' := .int) (by decide) (by decide)))
    have fx17 := fx9.other W14 (Or.inr (slot_ne (Or.inl (wq hw 163 rfl)) (Or.inl (wq hw 183 rfl)) (by decide) (t := .int) (t' := .int) (by decide) (by decide)))
    have fx18 := fx10.same W14
    have fx19 := fx11.wr W14
    have fx20 := VKn.other W14 (Ne.symm aks)
    have fx21 := VHn.other W14 (Ne.symm ahc)
    have kp22 := kp12.wr W14 (Or.inl (by simp))
    have ky14 := ky6.keep KC ((Keep.refl _ [a]).wr W14 (Or.inl (List.mem_cons_self ..))) (own_sfC (P := fun z => B ≤ z) tl1.ba (fun y hy => absurd hy List.not_mem_nil))
    have TN : Tly Z h14 B a hc ks kh kk ku (own_sh ct ci cr) (1 : Int32) := ⟨fx19, fx15, fx16, fx17, fx18, (by rw [hbm, own_hs0]; exact fx21), (by rw [hbm, own_ks0]; exact fx20), tl1.OV, tl1.hne, tl1.ba, tl1.bh, tl1.bk⟩
    rw [hWd]
    exact Goes.retn X14 (v := none) (fun fs hr => X14.returnOut hx Bd.returns (hb hby d24_78) hr) (fun _ => rfl) Bd.notSynchronized (by decide) (by decide) (by rw [e14]; exact ⟨rfl, N14, kp22, ky14, TN⟩)
  · rw [hbm]
    have ahc : a ≠ hc := Exa.neArv tl1.E tl1.VH (wq hw 151 rfl)
    have aks : a ≠ ks := Exa.neArv tl1.E tl1.VK (wq hw 151 rfl)
    rw [show ((-1 : Int32) - (1 : Int32)) = (-2 : Int32) from by decide]
    refine Go T3 (mkF m 12 #[vR a, vR ku, vI (own_sh ct ci cr), vI (-2)] []) ?_ (fun t_ k_ => XS.istoreN X3.here hx rfl (hb hby d24_11) rfl (l' := #[vR a, vR ku, vI (own_sh ct ci cr), vI (-2)]) rfl k_)
    refine Go T3 (mkF m 13 #[vR a, vR ku, vI (own_sh ct ci cr), vI (-2)] [(.int (-2))]) ?_ (fun t_ k_ => XS.iloadN X3.here hx rfl (hb hby d24_12) rfl k_)
    refine Go T3 (mkF m 31 #[vR a, vR ku, vI (own_sh ct ci cr), vI (-2)] []) ?_ (fun t_ k_ => XS.ifYes X3.here hx rfl (pc0 := 13) (pc' := 31) rfl (hb hby d24_13) rfl (by decide) (by decide) (by decide) k_)
    refine Go T3 (mkF m 32 #[vR a, vR ku, vI (own_sh ct ci cr), vI (-2)] [(.int 2)]) ?_ (fun t_ k_ => XS.iconst X3.here hx rfl (hb hby d24_31) k_)
    refine Go T3 (mkF m 33 #[vR a, vR ku, vI (own_sh ct ci cr), vI (-2)] [(.ref a), (.int 2)]) ?_ (fun t_ k_ => XS.aloadN X3.here hx rfl (hb hby d24_32) rfl rfl k_)
    obtain ⟨T23, X23, e23, st23⟩ := getF X3 hx hZ hown (host := "") (Or.inl (wq hw 182 rfl)) Via.refl eh3 tl1.FZ (g := (mkF m 33 #[vR a, vR ku, vI (own_sh ct ci cr), vI (-2)] [(.ref a), (.int 2)])) rfl rfl (hb hby d24_33)
    refine Go T23 (mkF m 36 #[vR a, vR ku, vI (own_sh ct ci cr), vI (-2)] [(.int 0), (.int 2)]) ?_ st23
    refine Go T23 (mkF m 37 #[vR a, vR ku, vI (own_sh ct ci cr), vI (-2)] [(.int 1), (.int 0), (.int 2)]) ?_ (fun t_ k_ => XS.iconst X23.here hx rfl (hb hby d24_36) k_)
    refine Go T23 (mkF m 38 #[vR a, vR ku, vI (own_sh ct ci cr), vI (-2)] [(.int 1), (.int 2)]) ?_ (fun t_ k_ => XS.iadd X23.here hx rfl (hb hby d24_37) rfl k_)
    refine Go T23 (mkF m 39 #[vR a, vR ku, vI (own_sh ct ci cr), vI (-2)] [(.int 2)]) ?_ (fun t_ k_ => XS.imul X23.here hx rfl (hb hby d24_38) rfl k_)
    refine Go T23 (mkF m 40 #[vR a, vR ku, vI (own_sh ct ci cr), vI (-2)] [(.ref a), (.int 2)]) ?_ (fun t_ k_ => XS.aloadN X23.here hx rfl (hb hby d24_39) rfl rfl k_)
    obtain ⟨T24, X24, e24, st24⟩ := getF X23 hx hZ hown (host := "") (Or.inl (wq hw 160 rfl)) Via.refl e23 tl1.FK (g := (mkF m 40 #[vR a, vR ku, vI (own_sh ct ci cr), vI (-2)] [(.ref a), (.int 2)])) rfl rfl (hb hby d24_40)
    refine Go T24 (mkF m 43 #[vR a, vR ku, vI (own_sh ct ci cr), vI (-2)] [(.ref ks), (.int 2)]) ?_ st24
    obtain ⟨cK, AK, -, SK, MK, HK, -⟩ := id tl1.VK
    refine Go T24 (mkF m 44 #[vR a, vR ku, vI (own_sh ct ci cr), vI (-2)] [(.int cK.slots.size.toInt32), (.int 2)]) ?_ (X24.arraylength hx (by rw [e24]; exact AK.1) (State.isArrayOf_alike hZ.alike AK.2.1) (g := (mkF m 43 #[vR a, vR ku, vI (own_sh ct ci cr), vI (-2)] [(.ref ks), (.int 2)])) rfl rfl (hb hby d24_43))
    rw [len_of SK MK]
    refine Go T24 (mkF m 58 #[vR a, vR ku, vI (own_sh ct ci cr), vI (-2)] []) ?_ (fun t_ k_ => XS.icmpYes X24.here hx rfl (pc0 := 44) (pc' := 58) rfl (hb hby d24_44) rfl (by decide) (by decide) (by decide) k_)
    refine Go T24 (mkF m 59 #[vR a, vR ku, vI (own_sh ct ci cr), vI (-2)] [(.ref a)]) ?_ (fun t_ k_ => XS.aloadN X24.here hx rfl (hb hby d24_58) rfl rfl k_)
    refine Go T24 (mkF m 60 #[vR a, vR ku, vI (own_sh ct ci cr), vI (-2)] [(.int (-1)), (.ref a)]) ?_ (fun t_ k_ => XS.iconst X24.here hx rfl (hb hby d24_59) k_)
    refine Go T24 (mkF m 61 #[vR a, vR ku, vI (own_sh ct ci cr), vI (-2)] [(.int (-2)), (.int (-1)), (.ref a)]) ?_ (fun t_ k_ => XS.iloadN X24.here hx rfl (hb hby d24_60) rfl k_)
    refine Go T24 (mkF m 62 #[vR a, vR ku, vI (own_sh ct ci cr), vI (-2)] [(.int ((-1 : Int32) - (-2 : Int32))), (.ref a)]) ?_ (fun t_ k_ => XS.isub X24.here hx rfl (hb hby d24_61) rfl k_)
    rw [show ((-1 : Int32) - (-2 : Int32)) = (1 : Int32) from by decide]
    refine Go T24 (mkF m 63 #[vR a, vR ku, vI (own_sh ct ci cr), vI (-2)] [(.int (own_sh ct ci cr)), (.int 1), (.ref a)]) ?_ (fun t_ k_ => XS.iloadN X24.here hx rfl (hb hby d24_62) rfl k_)
    refine Go T24 (mkF m 64 #[vR a, vR ku, vI (own_sh ct ci cr), vI (-2)] [(.ref ku), (.int (own_sh ct ci cr)), (.int 1), (.ref a)]) ?_ (fun t_ k_ => XS.aloadN X24.here hx rfl (hb hby d24_63) rfl rfl k_)
    refine Go T24 (mkF m 65 #[vR a, vR ku, vI (own_sh ct ci cr), vI (-2)] [(.int 1), (.ref ku), (.int (own_sh ct ci cr)), (.int 1), (.ref a)]) ?_ (fun t_ k_ => XS.iconst X24.here hx rfl (hb hby d24_64) k_)
    have VHp : Arv Z T1.heap hc kh .int 4 [.int 0, .int 0, .int 0, .int 0] (.int 0) := tl1.VH.pad (pad_rep [] (.int 0) 4)
    have VKp : Arv Z T1.heap ks kk (.object "java/lang/Object") (2 : Int32) [.null, .null] .null := tl1.VK.pad (pad_rep [] .null 2)
    obtain ⟨cq25, q25, q25'⟩ := tl1.E.cell
    obtain ⟨_, _, ⟨T25, Lq_25, kq_25, nq_25⟩, -, X25, ⟨Lc25, hQ25, l25, y25, z25⟩, st25⟩ := X24.privateBack hx (y := mN16) hown (mvT hZ (wq hw 184 rfl)) (mvT hZ (wq hw 185 rfl)) (mvT hZ (own_selP (y := mN16) (wq hw 151 rfl) (wq hw 186 rfl) (wq hw 185 rfl) (by decide))) (Cond.privateMethod_at (mvP hZ (wq hw 186 rfl) (args := #[]))) (mvT hZ (wq hw 187 rfl)) (by decide) (backOf (W := 0) (rmP1r l Z a0 hw [] a hc ks kh kk 0 0 0 0 .null .null ku (own_sh ct ci cr) T1.heap n0 Zc1 tl1.E tl1.FH tl1.FK VHp VKp tl1.hne (Nat.le_trans gB tl1.bh) (Nat.le_trans gB tl1.bk) tl1.OV (Ins.of_exa ky1.u0 (wq hw 64 rfl))) hZ (wq hw 187 rfl) (wq hw 152 rfl) (by decide) (by decide)) (g := (mkF m 65 #[vR a, vR ku, vI (own_sh ct ci cr), vI (-2)] [(.int 1), (.ref ku), (.int (own_sh ct ci cr)), (.int 1), (.ref a)])) rfl (by rw [hml]; rfl) (Steps.refl _) (a := a) (by rw [e24]; exact q25) q25' (argsL := [(.int 1), (.int (own_sh ct ci cr)), (.ref ku), (.int 1)]) (rest := []) (lenOf pd_11 rfl) rfl (by show 2 * 0 + _ ≤ _; exact Nat.le_of_eq rfl) (hb hby d24_65) (fun _ _ => ⟨rfl, e24, (by decide : 1 + 0 ≤ _), (by decide : 3 + 0 ≤ _)⟩)
    dsimp only [Pt.U, Pt.locs, Pt.cells, Pt.slots] at X25 l25 y25 z25 st25 hQ25
    rw [l25, y25, z25] at X25
    change Stand p l e _ _ m _ below meth c T25 _ 1 3 at X25
    obtain ⟨rfl, N25q, K25, VHn, VKn⟩ := hQ25
    have N25 := Fr.app N3 N25q
    refine Go T25 (mkF m 68 #[vR a, vR ku, vI (own_sh ct ci cr), vI (-2)] []) ?_ (fun t => st25.trans)
    have Zp : n0 ≤ T25.heap.size := Nat.le_trans Zc1 K25.1
    have ky25 := ky1.keep KC K25 (own_sfC (P := fun z => B ≤ z) tl1.bh (own_sfC (P := fun z => B ≤ z) tl1.bk (fun y hy => absurd hy List.not_mem_nil)))
    have fx26 := tl1.FH.keep K25 (ninS ahc (ninS aks nin0))
    have fx27 := tl1.FK.keep K25 (ninS ahc (ninS aks nin0))
    have fx28 := tl1.FS.keep K25 (ninS ahc (ninS aks nin0))
    have fx29 := tl1.FZ.keep K25 (ninS ahc (ninS aks nin0))
    have fx30 := tl1.E.keep K25
    have kp31 := kp2.trans K25 (allS (Or.inl (by simp)) (allS (Or.inl (by simp)) all0))
    refine Go T25 (mkF m 69 #[vR a, vR ku, vI (own_sh ct ci cr), vI (-2)] [(.ref a)]) ?_ (fun t_ k_ => XS.aloadN X25.here hx rfl (hb hby d24_68) rfl rfl k_)
    refine Go T25 (mkF m 70 #[vR a, vR ku, vI (own_sh ct ci cr), vI (-2)] [(.ref a), (.ref a)]) ?_ (fun t_ k_ => XS.dup X25.here hx rfl (hb hby d24_69) rfl rfl k_)
    obtain ⟨T32, X32, e32, st32⟩ := getF X25 hx hZ hown (host := "") (Or.inl (wq hw 182 rfl)) Via.refl rfl fx29 (g := (mkF m 70 #[vR a, vR ku, vI (own_sh ct ci cr), vI (-2)] [(.ref a), (.ref a)])) rfl rfl (hb hby d24_70)
    refine Go T32 (mkF m 73 #[vR a, vR ku, vI (own_sh ct ci cr), vI (-2)] [(.int 0), (.ref a)]) ?_ st32
    refine Go T32 (mkF m 74 #[vR a, vR ku, vI (own_sh ct ci cr), vI (-2)] [(.int 1), (.int 0), (.ref a)]) ?_ (fun t_ k_ => XS.iconst X32.here hx rfl (hb hby d24_73) k_)
    refine Go T32 (mkF m 75 #[vR a, vR ku, vI (own_sh ct ci cr), vI (-2)] [(.int 1), (.ref a)]) ?_ (fun t_ k_ => XS.iadd X32.here hx rfl (hb hby d24_74) rfl k_)
    obtain ⟨T33, h33, X33, e33, W33, st33⟩ := putF X32 hx hZ hown (host := "") (Or.inl (wq hw 182 rfl)) Via.refl e32 fx29 fx30 (Or.inl (wq hw 183 rfl)) (wq hw 151 rfl) (ty := .int) (by decide) rfl rfl (g := (mkF m 75 #[vR a, vR ku, vI (own_sh ct ci cr), vI (-2)] [(.int 1), (.ref a)])) rfl rfl (hb hby d24_75)
    have N33 := Fr.snoc X33 N25 (Nat.le_trans gB tl1.ba)
    have Z33 : n0 ≤ h33.size := Nat.le_trans Zp (Nat.le_of_eq W33.size.symm)
    refine Go T33 (mkF m 78 #[vR a, vR ku, vI (own_sh ct ci cr), vI (-2)] []) ?_ st33
    have fx34 := fx26.other W33 (Or.inr (slot_ne (Or.inl (wq hw 158 rfl)) (Or.inl (wq hw 183 rfl)) (by decide) (t := (.array .int)) (t' := .int) (by decide) (by decide)))
    have fx35 := fx27.other W33 (Or.inr (slot_ne (Or.inl (wq hw 161 rfl)) (Or.inl (wq hw 183 rfl)) (by decide) (t := (.array (.object "java/lang/Object"))) (t' := .int) (by decide) (by decide)))
    have fx36 := fx28.other W33 (Or.inr (slot_ne (Or.inl (wq hw 163 rfl)) (Or.inl (wq hw 183 rfl)) (by decide) (t := .int) (t' := .int) (by decide) (by decide)))
    have fx37 := fx29.same W33
    have fx38 := fx30.wr W33
    have fx39 := VKn.other W33 (Ne.symm aks)
    have fx40 := VHn.other W33 (Ne.symm ahc)
    have kp41 := kp31.wr W33 (Or.inl (by simp))
    have ky33 := ky25.keep KC ((Keep.refl _ [a]).wr W33 (Or.inl (List.mem_cons_self ..))) (own_sfC (P := fun z => B ≤ z) tl1.ba (fun y hy => absurd hy List.not_mem_nil))
    have TN : Tly Z h33 B a hc ks kh kk ku (own_sh ct ci cr) (1 : Int32) := ⟨fx38, fx34, fx35, fx36, fx37, (by rw [hbm, own_hs1]; exact fx40), (by rw [hbm, own_ks1]; exact fx39), tl1.OV, tl1.hne, tl1.ba, tl1.bh, tl1.bk⟩
    rw [hWd]
    exact Goes.retn X33 (v := none) (fun fs hr => X33.returnOut hx Bd.returns (hb hby d24_78) hr) (fun _ => rfl) Bd.notSynchronized (by decide) (by decide) (by rw [e33]; exact ⟨rfl, N33, kp41, ky33, TN⟩)
def QAU1 (Z : State) (B : Nat) (t tt i ti r tr ku ko : Addr) (kt ki kr : ClassId) (ct ci cr w2 : Int32) (zc : Int32) (a hc ks : Addr) (kh kk : ClassId) (mc : Int32) (h0 : Heap) (n0 : Nat) (v : Option Value) (h : Heap) (L : List Loc) : Prop := v = none ∧ Fr n0 L ∧ Keep h0 h [t, i, r, a, hc, ks] ∧ KA Z h t tt i ti r tr ku ko kt ki kr ct ci cr w2 ∧ Tly Z h B a hc ks kh kk ku (own_sh ct ci cr) (mc + (1 : Int32))
set_option maxRecDepth 65536 in
set_option maxHeartbeats 40000000 in
theorem rmAU1 (l : Launch) (Z : State) (a0 : Array Value) (hw : ∀ d ∈ tables_1, d.before a0 Z = true) (ws : List Jvm.Cond) (B : Nat) (t tt i ti r tr ku ko : Addr) (kt ki kr : ClassId) (ct ci cr w2 : Int32) (zc : Int32) (a hc ks : Addr) (kh kk : ClassId) (mc : Int32) (h0 : Heap) (n0 : Nat) (Z0 : n0 ≤ h0.size) (KY : KA Z h0 t tt i ti r tr ku ko kt ki kr ct ci cr w2) (KC : KD n0 B t tt i ti r tr ku ko ct ci cr) (gB : n0 ≤ B) (bB : B ≤ h0.size) (CS : Sta Z Z.heap "java/lang/String" "COMPACT_STRINGS" "Z" (.int zc)) (hzc : ¬ zc = (0 : Int32)) (X0_ : Old Z n0 h0) (TL : Tly Z h0 B a hc ks kh kk ku (own_sh ct ci cr) mc) (hm : ¬ mc = 0) :
    MetFree l mN24 (head1 (Jvm.Cond.code mN24 cD21 4 none :: ws) ({ frames := 5, cells := 1, slots := 3, locals := 72 } : Room)) (fun a_ U => a_ = #[(.ref a), (.ref ku)] ∧ Z.Warmed39 U.vm ∧ U.heap = h0) (fun _ _ _ _ _ => True) (fun _ U o U' => ∃ v L, o = .returned v ∧ QAU1 Z B t tt i ti r tr ku ko kt ki kr ct ci cr w2 zc a hc ks kh kk mc h0 n0 v U'.heap L ∧ FrameEnd U o U' L ({ frames := 5, cells := 1, slots := 3, locals := 72 } : Room).cells ({ frames := 5, cells := 1, slots := 3, locals := 72 } : Room).slots) := by
  refine MetFree.of_bodySF (plainFor_of_name pn_5) hisR ?_
  intro p e s m args below meth c s₁ Bd hml0 hP hK
  obtain ⟨rfl, hZ, hh⟩ := hP
  have hx := Bd.exec
  have hby := Bd.bytes
  have hml : c.maxLocals = 4 := hml0
  have hown : s.vm.findClass "com/example/entitlement/entitlement/Tally" = some m.cls := findClass_of_methodNamed Bd.named
  have hnm := (name_of_methodNamed Bd.named Bd.method).1
  have X0 : Stand p l e ({ frames := 5, cells := 1, slots := 3, locals := 72 } : Room) s m #[(.ref a), (.ref ku)] below meth c s₁ [] 0 0 := Stand.of_body Bd
  have e0 : s₁.heap = h0 := by rw [← hh, Bd.state]; rfl
  have N0 := Fr.nil n0
  refine Goes.done ?_
  obtain ⟨W, hWd⟩ : ∃ W : State → Prop, W = EndW s below (QAU1 Z B t tt i ti r tr ku ko kt ki kr ct ci cr w2 zc a hc ks kh kk mc h0 n0) ({ frames := 5, cells := 1, slots := 3, locals := 72 } : Room).cells ({ frames := 5, cells := 1, slots := 3, locals := 72 } : Room).slots := ⟨_, rfl⟩
  rw [← hWd]
  have hef : entryFrame m #[(.ref a), (.ref ku)] 4 = (mkF m 0 #[vR a, vR ku, .unset, .unset] []) := by first | (simp [entryFrame, mkF, argsToLocals, Value.category]; done) | rfl
  rw [hef]
  refine Go s₁ (mkF m 1 #[vR a, vR ku, .unset, .unset] [(.ref ku)]) ?_ (fun t_ k_ => XS.aloadN X0.here hx rfl (hb hby d24_0) rfl rfl k_)
  obtain ⟨cq1, kq1, q1a, q1b, q1c⟩ := isOf hZ e0 KY.u0
  obtain ⟨_, _, ⟨T1, Lq_1, kq_1, nq_1⟩, -, X1, ⟨Lc1, hQ1, l1, y1, z1⟩, st1⟩ := X0.virtualBack hx (y := mN20) (z := mN22) hown (mvT hZ (wq hw 169 rfl)) (mvT hZ (wq hw 170 rfl)) (own_nfO hZ (wq hw 138 rfl) rfl) (mvT hZ (wq hw 207 rfl)) (mvT hZ (wq hw 208 rfl)) (by decide) (backOf (W := 0) (rmHU l Z a0 hw [] B t tt i ti r tr ku ko kt ki kr ct ci cr w2 zc h0 n0 Z0 KY KC gB bB CS hzc X0_) hZ (wq hw 209 rfl) (wq hw 31 rfl) (by decide) (by decide)) q1a q1c (g := (mkF m 1 #[vR a, vR ku, .unset, .unset] [(.ref ku)])) rfl (by rw [hml]; rfl) (Steps.refl _) (argsL := []) (rest := []) (lenOf pd_9 rfl) rfl (by show 2 * 0 + _ ≤ _; exact Nat.le_of_eq rfl) (hb hby d24_1) (fun _ _ => ⟨rfl, e0, (by decide : 0 + 1 ≤ _), (by decide : 0 + 3 ≤ _)⟩)
  dsimp only [Pt.U, Pt.locs, Pt.cells, Pt.slots] at X1 l1 y1 z1 st1 hQ1
  rw [l1, y1, z1] at X1
  change Stand p l e _ _ m _ below meth c T1 _ 1 3 at X1
  obtain ⟨rfl, N1q, K1, ky1⟩ := hQ1
  have N1 := Fr.app N0 N1q
  refine Go T1 (mkF m 4 #[vR a, vR ku, .unset, .unset] [(.int (own_sh ct ci cr))]) ?_ (fun t => st1.trans)
  have Zc1 : n0 ≤ T1.heap.size := Nat.le_trans Z0 K1.1
  have xo1 : Old Z n0 T1.heap := X0_.keep K1 KC.ge
  have kp2 := (Keep.refl h0 [t, i, r, a, hc, ks]).trans K1 (allS (Or.inl (by simp)) (allS (Or.inl (by simp)) (allS (Or.inl (by simp)) all0)))
  have bb1 : B ≤ T1.heap.size := Nat.le_trans bB K1.1
  have tl1 := TL.keep K1 (own_nhi TL.ba KC.lt) (own_nhi TL.bh KC.lt) (own_nhi TL.bk KC.lt)
  refine Go T1 (mkF m 5 #[vR a, vR ku, vI (own_sh ct ci cr), .unset] []) ?_ (fun t_ k_ => XS.istoreN X1.here hx rfl (hb hby d24_4) rfl (l' := #[vR a, vR ku, vI (own_sh ct ci cr), .unset]) rfl k_)
  refine Go T1 (mkF m 6 #[vR a, vR ku, vI (own_sh ct ci cr), .unset] [(.ref a)]) ?_ (fun t_ k_ => XS.aloadN X1.here hx rfl (hb hby d24_5) rfl rfl k_)
  refine Go T1 (mkF m 7 #[vR a, vR ku, vI (own_sh ct ci cr), .unset] [(.ref ku), (.ref a)]) ?_ (fun t_ k_ => XS.aloadN X1.here hx rfl (hb hby d24_6) rfl rfl k_)
  refine Go T1 (mkF m 8 #[vR a, vR ku, vI (own_sh ct ci cr), .unset] [(.int (own_sh ct ci cr)), (.ref ku), (.ref a)]) ?_ (fun t_ k_ => XS.iloadN X1.here hx rfl (hb hby d24_7) rfl k_)
  obtain ⟨cq3, q3, q3'⟩ := tl1.E.cell
  obtain ⟨_, _, ⟨T3, Lq_3, kq_3, nq_3⟩, -, X3, ⟨Lc3, hQ3, l3, y3, z3⟩, st3⟩ := X1.privateBack hx (y := mN15) hown (mvT hZ (wq hw 173 rfl)) (mvT hZ (wq hw 174 rfl)) (mvT hZ (own_selP (y := mN15) (wq hw 151 rfl) (wq hw 175 rfl) (wq hw 174 rfl) (by decide))) (Cond.privateMethod_at (mvP hZ (wq hw 175 rfl) (args := #[]))) (mvT hZ (wq hw 176 rfl)) (by decide) (backOf (W := 0) (rmF1 l Z a0 hw [] B a hc ks kh kk ku (own_sh ct ci cr) mc T1.heap n0 Zc1 tl1 hm) hZ (wq hw 176 rfl) (wq hw 152 rfl) (by decide) (by decide)) (g := (mkF m 8 #[vR a, vR ku, vI (own_sh ct ci cr), .unset] [(.int (own_sh ct ci cr)), (.ref ku), (.ref a)])) rfl (by rw [hml]; rfl) (Steps.refl _) (a := a) q3 q3' (argsL := [(.ref ku), (.int (own_sh ct ci cr))]) (rest := []) (lenOf pd_13 rfl) rfl (by show 2 * 0 + _ ≤ _; exact Nat.le_of_eq rfl) (hb hby d24_8) (fun _ _ => ⟨rfl, rfl, (by decide : 1 + 0 ≤ _), (by decide : 3 + 0 ≤ _)⟩)
  dsimp only [Pt.U, Pt.locs, Pt.cells, Pt.slots] at X3 l3 y3 z3 st3 hQ3
  rw [l3, y3, z3] at X3
  change Stand p l e _ _ m _ below meth c T3 _ 1 3 at X3
  obtain ⟨rfl, N3q, eh3⟩ := hQ3
  have N3 := Fr.app N1 N3q
  refine Go T3 (mkF m 11 #[vR a, vR ku, vI (own_sh ct ci cr), .unset] [(.int (own_home (own_sh ct ci cr)))]) ?_ (fun t => st3.trans)
  rcases own_home_b (own_sh ct ci cr) with hbm | hbm
  · rw [hbm]
    have ahc : a ≠ hc := Exa.neArv tl1.E tl1.VH (wq hw 151 rfl)
    have aks : a ≠ ks := Exa.neArv tl1.E tl1.VK (wq hw 151 rfl)
    have VHb : Arv Z T1.heap hc kh .int 4 [.int (own_sh ct ci cr), .int mc, .int 0, .int 0] (.int 0) := by have q := tl1.VH; rw [hbm, own_hs0] at q; exact q
    obtain ⟨cH, AH, qH, SH_, MH, HH, GH⟩ := id VHb
    refine Go T3 (mkF m 12 #[vR a, vR ku, vI (own_sh ct ci cr), vI 0] []) ?_ (fun t_ k_ => XS.istoreN X3.here hx rfl (hb hby d24_11) rfl (l' := #[vR a, vR ku, vI (own_sh ct ci cr), vI 0]) rfl k_)
    refine Go T3 (mkF m 13 #[vR a, vR ku, vI (own_sh ct ci cr), vI 0] [(.int 0)]) ?_ (fun t_ k_ => XS.iloadN X3.here hx rfl (hb hby d24_12) rfl k_)
    refine Go T3 (mkF m 16 #[vR a, vR ku, vI (own_sh ct ci cr), vI 0] []) ?_ (fun t_ k_ => XS.ifNo X3.here hx rfl (hb hby d24_13) rfl (by decide) k_)
    refine Go T3 (mkF m 17 #[vR a, vR ku, vI (own_sh ct ci cr), vI 0] [(.ref a)]) ?_ (fun t_ k_ => XS.aloadN X3.here hx rfl (hb hby d24_16) rfl rfl k_)
    obtain ⟨T4, X4, e4, st4⟩ := getF X3 hx hZ hown (host := "") (Or.inl (wq hw 157 rfl)) Via.refl eh3 tl1.FH (g := (mkF m 17 #[vR a, vR ku, vI (own_sh ct ci cr), vI 0] [(.ref a)])) rfl rfl (hb hby d24_17)
    refine Go T4 (mkF m 20 #[vR a, vR ku, vI (own_sh ct ci cr), vI 0] [(.ref hc)]) ?_ st4
    refine Go T4 (mkF m 21 #[vR a, vR ku, vI (own_sh ct ci cr), vI 0] [(.int 2), (.ref hc)]) ?_ (fun t_ k_ => XS.iconst X4.here hx rfl (hb hby d24_20) k_)
    refine Go T4 (mkF m 22 #[vR a, vR ku, vI (own_sh ct ci cr), vI 0] [(.int 0), (.int 2), (.ref hc)]) ?_ (fun t_ k_ => XS.iloadN X4.here hx rfl (hb hby d24_21) rfl k_)
    refine Go T4 (mkF m 23 #[vR a, vR ku, vI (own_sh ct ci cr), vI 0] [(.int 0), (.ref hc)]) ?_ (fun t_ k_ => XS.imul X4.here hx rfl (hb hby d24_22) rfl k_)
    refine Go T4 (mkF m 24 #[vR a, vR ku, vI (own_sh ct ci cr), vI 0] [(.int 1), (.int 0), (.ref hc)]) ?_ (fun t_ k_ => XS.iconst X4.here hx rfl (hb hby d24_23) k_)
    refine Go T4 (mkF m 25 #[vR a, vR ku, vI (own_sh ct ci cr), vI 0] [(.int 1), (.ref hc)]) ?_ (fun t_ k_ => XS.iadd X4.here hx rfl (hb hby d24_24) rfl k_)
    refine Go T4 (mkF m 26 #[vR a, vR ku, vI (own_sh ct ci cr), vI 0] [(.int 1), (.ref hc), (.int 1), (.ref hc)]) ?_ (fun t_ k_ => Jvm.Free.XT.dup2 X4.here hx rfl (hb hby d24_25) rfl rfl rfl k_)
    refine Go T4 (mkF m 27 #[vR a, vR ku, vI (own_sh ct ci cr), vI 0] [(.int mc), (.int 1), (.ref hc)]) ?_ (X4.iaload hx (j := (1 : Int32)) (v := (.int mc)) (by rw [e4]; exact AH.1) (State.isArrayOf_alike hZ.alike AH.2.1) AH.2.2 (inb_of SH_ ⟨by decide, by decide⟩) (by have q := HH 1 (by rw [SH_]; decide); exact q) (g := (mkF m 26 #[vR a, vR ku, vI (own_sh ct ci cr), vI 0] [(.int 1), (.ref hc), (.int 1), (.ref hc)])) rfl rfl (hb hby d24_26))
    refine Go T4 (mkF m 28 #[vR a, vR ku, vI (own_sh ct ci cr), vI 0] [(.int 1), (.int mc), (.int 1), (.ref hc)]) ?_ (fun t_ k_ => XS.iconst X4.here hx rfl (hb hby d24_27) k_)
    refine Go T4 (mkF m 29 #[vR a, vR ku, vI (own_sh ct ci cr), vI 0] [(.int (mc + (1 : Int32))), (.int 1), (.ref hc)]) ?_ (fun t_ k_ => XS.iadd X4.here hx rfl (hb hby d24_28) rfl k_)
    obtain ⟨T5, h5, X5, e5, W5, st5⟩ := stI X4 hx hZ e4 AH (j := (1 : Int32)) (inb_of SH_ ⟨by decide, by decide⟩) (g := (mkF m 29 #[vR a, vR ku, vI (own_sh ct ci cr), vI 0] [(.int (mc + (1 : Int32))), (.int 1), (.ref hc)])) rfl rfl (hb hby d24_29)
    have N5 := Fr.snoc X5 N3 (Nat.le_trans gB tl1.bh)
    have Z5 : n0 ≤ h5.size := Nat.le_trans Zc1 (Nat.le_of_eq W5.size.symm)
    refine Go T5 (mkF m 30 #[vR a, vR ku, vI (own_sh ct ci cr), vI 0] []) ?_ st5
    have fx6 := tl1.FH.other W5 (Or.inl ahc)
    have fx7 := tl1.FK.other W5 (Or.inl ahc)
    have fx8 := tl1.FS.other W5 (Or.inl ahc)
    have fx9 := tl1.FZ.other W5 (Or.inl ahc)
    have fx10 := tl1.E.wr W5
    have fx11 := tl1.VK.other W5 (Ne.symm tl1.hne)
    have kp12 := kp2.wr W5 (Or.inl (by simp))
    have V5 : Arv Z h5 hc kh .int 4 [.int (own_sh ct ci cr), .int (mc + (1 : Int32)), .int 0, .int 0] (.int 0) := Arv.set AH qH SH_ MH HH GH rfl W5 1 rfl (Nat.le_of_ble_eq_true rfl)
    have ky5 := ky1.keep KC ((Keep.refl _ [hc]).wr W5 (Or.inl (List.mem_cons_self ..))) (own_sfC (P := fun z => B ≤ z) tl1.bh (fun y hy => absurd hy List.not_mem_nil))
    have TN : Tly Z h5 B a hc ks kh kk ku (own_sh ct ci cr) (mc + (1 : Int32)) := ⟨fx10, fx6, fx7, fx8, fx9, (by rw [hbm, own_hs0]; exact V5), fx11, tl1.OV, tl1.hne, tl1.ba, tl1.bh, tl1.bk⟩
    rw [hWd]
    exact Goes.retn X5 (v := none) (fun fs hr => X5.returnOut hx Bd.returns (hb hby d24_30) hr) (fun _ => rfl) Bd.notSynchronized (by decide) (by decide) (by rw [e5]; exact ⟨rfl, N5, kp12, ky5, TN⟩)
  · rw [hbm]
    have ahc : a ≠ hc := Exa.neArv tl1.E tl1.VH (wq hw 151 rfl)
    have aks : a ≠ ks := Exa.neArv tl1.E tl1.VK (wq hw 151 rfl)
    have VHb : Arv Z T1.heap hc kh .int 4 [.int 0, .int 0, .int (own_sh ct ci cr), .int mc] (.int 0) := by have q := tl1.VH; rw [hbm, own_hs1] at q; exact q
    obtain ⟨cH, AH, qH, SH_, MH, HH, GH⟩ := id VHb
    refine Go T3 (mkF m 12 #[vR a, vR ku, vI (own_sh ct ci cr), vI 1] []) ?_ (fun t_ k_ => XS.istoreN X3.here hx rfl (hb hby d24_11) rfl (l' := #[vR a, vR ku, vI (own_sh ct ci cr), vI 1]) rfl k_)
    refine Go T3 (mkF m 13 #[vR a, vR ku, vI (own_sh ct ci cr), vI 1] [(.int 1)]) ?_ (fun t_ k_ => XS.iloadN X3.here hx rfl (hb hby d24_12) rfl k_)
    refine Go T3 (mkF m 16 #[vR a, vR ku, vI (own_sh ct ci cr), vI 1] []) ?_ (fun t_ k_ => XS.ifNo X3.here hx rfl (hb hby d24_13) rfl (by decide) k_)
    refine Go T3 (mkF m 17 #[vR a, vR ku, vI (own_sh ct ci cr), vI 1] [(.ref a)]) ?_ (fun t_ k_ => XS.aloadN X3.here hx rfl (hb hby d24_16) rfl rfl k_)
    obtain ⟨T13, X13, e13, st13⟩ := getF X3 hx hZ hown (host := "") (Or.inl (wq hw 157 rfl)) Via.refl eh3 tl1.FH (g := (mkF m 17 #[vR a, vR ku, vI (own_sh ct ci cr), vI 1] [(.ref a)])) rfl rfl (hb hby d24_17)
    refine Go T13 (mkF m 20 #[vR a, vR ku, vI (own_sh ct ci cr), vI 1] [(.ref hc)]) ?_ st13
    refine Go T13 (mkF m 21 #[vR a, vR ku, vI (own_sh ct ci cr), vI 1] [(.int 2), (.ref hc)]) ?_ (fun t_ k_ => XS.iconst X13.here hx rfl (hb hby d24_20) k_)
    refine Go T13 (mkF m 22 #[vR a, vR ku, vI (own_sh ct ci cr), vI 1] [(.int 1), (.int 2), (.ref hc)]) ?_ (fun t_ k_ => XS.iloadN X13.here hx rfl (hb hby d24_21) rfl k_)
    refine Go T13 (mkF m 23 #[vR a, vR ku, vI (own_sh ct ci cr), vI 1] [(.int 2), (.ref hc)]) ?_ (fun t_ k_ => XS.imul X13.here hx rfl (hb hby d24_22) rfl k_)
    refine Go T13 (mkF m 24 #[vR a, vR ku, vI (own_sh ct ci cr), vI 1] [(.int 1), (.int 2), (.ref hc)]) ?_ (fun t_ k_ => XS.iconst X13.here hx rfl (hb hby d24_23) k_)
    refine Go T13 (mkF m 25 #[vR a, vR ku, vI (own_sh ct ci cr), vI 1] [(.int 3), (.ref hc)]) ?_ (fun t_ k_ => XS.iadd X13.here hx rfl (hb hby d24_24) rfl k_)
    refine Go T13 (mkF m 26 #[vR a, vR ku, vI (own_sh ct ci cr), vI 1] [(.int 3), (.ref hc), (.int 3), (.ref hc)]) ?_ (fun t_ k_ => Jvm.Free.XT.dup2 X13.here hx rfl (hb hby d24_25) rfl rfl rfl k_)
    refine Go T13 (mkF m 27 #[vR a, vR ku, vI (own_sh ct ci cr), vI 1] [(.int mc), (.int 3), (.ref hc)]) ?_ (X13.iaload hx (j := (3 : Int32)) (v := (.int mc)) (by rw [e13]; exact AH.1) (State.isArrayOf_alike hZ.alike AH.2.1) AH.2.2 (inb_of SH_ ⟨by decide, by decide⟩) (by have q := HH 3 (by rw [SH_]; decide); exact q) (g := (mkF m 26 #[vR a, vR ku, vI (own_sh ct ci cr), vI 1] [(.int 3), (.ref hc), (.int 3), (.ref hc)])) rfl rfl (hb hby d24_26))
    refine Go T13 (mkF m 28 #[vR a, vR ku, vI (own_sh ct ci cr), vI 1] [(.int 1), (.int mc), (.int 3), (.ref hc)]) ?_ (fun t_ k_ => XS.iconst X13.here hx rfl (hb hby d24_27) k_)
    refine Go T13 (mkF m 29 #[vR a, vR ku, vI (own_sh ct ci cr), vI 1] [(.int (mc + (1 : Int32))), (.int 3), (.ref hc)]) ?_ (fun t_ k_ => XS.iadd X13.here hx rfl (hb hby d24_28) rfl k_)
    obtain ⟨T14, h14, X14, e14, W14, st14⟩ := stI X13 hx hZ e13 AH (j := (3 : Int32)) (inb_of SH_ ⟨by decide, by decide⟩) (g := (mkF m 29 #[vR a, vR ku, vI (own_sh ct ci cr), vI 1] [(.int (mc + (1 : Int32))), (.int 3), (.ref hc)])) rfl rfl (hb hby d24_29)
    have N14 := Fr.snoc X14 N3 (Nat.le_trans gB tl1.bh)
    have Z14 : n0 ≤ h14.size := Nat.le_trans Zc1 (Nat.le_of_eq W14.size.symm)
    refine Go T14 (mkF m 30 #[vR a, vR ku, vI (own_sh ct ci cr), vI 1] []) ?_ st14
    have fx15 := tl1.FH.other W14 (Or.inl ahc)
    have fx16 := tl1.FK.other W14 (Or.inl ahc)
    have fx17 := tl1.FS.other W14 (Or.inl ahc)
    have fx18 := tl1.FZ.other W14 (Or.inl ahc)
    have fx19 := tl1.E.wr W14
    have fx20 := tl1.VK.other W14 (Ne.symm tl1.hne)
    have kp21 := kp2.wr W14 (Or.inl (by simp))
    have V14 : Arv Z h14 hc kh .int 4 [.int 0, .int 0, .int (own_sh ct ci cr), .int (mc + (1 : Int32))] (.int 0) := Arv.set AH qH SH_ MH HH GH rfl W14 3 rfl (Nat.le_of_ble_eq_true rfl)
    have ky14 := ky1.keep KC ((Keep.refl _ [hc]).wr W14 (Or.inl (List.mem_cons_self ..))) (own_sfC (P := fun z => B ≤ z) tl1.bh (fun y hy => absurd hy List.not_mem_nil))
    have TN : Tly Z h14 B a hc ks kh kk ku (own_sh ct ci cr) (mc + (1 : Int32)) := ⟨fx19, fx15, fx16, fx17, fx18, (by rw [hbm, own_hs1]; exact V14), fx20, tl1.OV, tl1.hne, tl1.ba, tl1.bh, tl1.bk⟩
    rw [hWd]
    exact Goes.retn X14 (v := none) (fun fs hr => X14.returnOut hx Bd.returns (hb hby d24_30) hr) (fun _ => rfl) Bd.notSynchronized (by decide) (by decide) (by rw [e14]; exact ⟨rfl, N14, kp21, ky14, TN⟩)
def QRU0 (Z : State) (B : Nat) (t tt i ti r tr ku ko : Addr) (kt ki kr : ClassId) (ct ci cr w2 : Int32) (zc : Int32) (a hc ks : Addr) (kh kk : ClassId) (h0 : Heap) (n0 : Nat) (v : Option Value) (h : Heap) (L : List Loc) : Prop := v = some (.int 1) ∧ Fr n0 L ∧ Keep h0 h [t, i, r, a, hc, ks] ∧ KA Z h t tt i ti r tr ku ko kt ki kr ct ci cr w2 ∧ Exa Z h a "com/example/entitlement/entitlement/Tally" ∧ Fld Z h a "com/example/entitlement/entitlement/Tally" "size" "I" (.int 0)
set_option maxRecDepth 65536 in
set_option maxHeartbeats 40000000 in
theorem rmRU0 (l : Launch) (Z : State) (a0 : Array Value) (hw : ∀ d ∈ tables_1, d.before a0 Z = true) (ws : List Jvm.Cond) (B : Nat) (t tt i ti r tr ku ko : Addr) (kt ki kr : ClassId) (ct ci cr w2 : Int32) (zc : Int32) (a hc ks : Addr) (kh kk : ClassId) (h0 : Heap) (n0 : Nat) (Z0 : n0 ≤ h0.size) (KY : KA Z h0 t tt i ti r tr ku ko kt ki kr ct ci cr w2) (KC : KD n0 B t tt i ti r tr ku ko ct ci cr) (gB : n0 ≤ B) (bB : B ≤ h0.size) (CS : Sta Z Z.heap "java/lang/String" "COMPACT_STRINGS" "Z" (.int zc)) (hzc : ¬ zc = (0 : Int32)) (X0_ : Old Z n0 h0) (TL : Tly Z h0 B a hc ks kh kk ku (own_sh ct ci cr) (1 : Int32)) :
    MetFree l mN25 (head1 (Jvm.Cond.code mN25 cD25 4 (some .boolean) :: ws) ({ frames := 5, cells := 1, slots := 3, locals := 72 } : Room)) (fun a_ U => a_ = #[(.ref a), (.ref ku)] ∧ Z.Warmed39 U.vm ∧ U.heap = h0) (fun _ _ _ _ _ => True) (fun _ U o U' => ∃ v L, o = .returned v ∧ QRU0 Z B t tt i ti r tr ku ko kt ki kr ct ci cr w2 zc a hc ks kh kk h0 n0 v U'.heap L ∧ FrameEnd U o U' L ({ frames := 5, cells := 1, slots := 3, locals := 72 } : Room).cells ({ frames := 5, cells := 1, slots := 3, locals := 72 } : Room).slots) := by
  refine MetFree.of_bodySF (plainFor_of_name pn_5) hisR ?_
  intro p e s m args below meth c s₁ Bd hml0 hP hK
  obtain ⟨rfl, hZ, hh⟩ := hP
  have hx := Bd.exec
  have hby := Bd.bytes
  have hml : c.maxLocals = 4 := hml0
  have hown : s.vm.findClass "com/example/entitlement/entitlement/Tally" = some m.cls := findClass_of_methodNamed Bd.named
  have hnm := (name_of_methodNamed Bd.named Bd.method).1
  have X0 : Stand p l e ({ frames := 5, cells := 1, slots := 3, locals := 72 } : Room) s m #[(.ref a), (.ref ku)] below meth c s₁ [] 0 0 := Stand.of_body Bd
  have e0 : s₁.heap = h0 := by rw [← hh, Bd.state]; rfl
  have N0 := Fr.nil n0
  refine Goes.done ?_
  obtain ⟨W, hWd⟩ : ∃ W : State → Prop, W = EndW s below (QRU0 Z B t tt i ti r tr ku ko kt ki kr ct ci cr w2 zc a hc ks kh kk h0 n0) ({ frames := 5, cells := 1, slots := 3, locals := 72 } : Room).cells ({ frames := 5, cells := 1, slots := 3, locals := 72 } : Room).slots := ⟨_, rfl⟩
  rw [← hWd]
  have hef : entryFrame m #[(.ref a), (.ref ku)] 4 = (mkF m 0 #[vR a, vR ku, .unset, .unset] []) := by first | (simp [entryFrame, mkF, argsToLocals, Value.category]; done) | rfl
  rw [hef]
  refine Go s₁ (mkF m 1 #[vR a, vR ku, .unset, .unset] [(.ref a)]) ?_ (fun t_ k_ => XS.aloadN X0.here hx rfl (hb hby d28_0) rfl rfl k_)
  refine Go s₁ (mkF m 2 #[vR a, vR ku, .unset, .unset] [(.ref ku), (.ref a)]) ?_ (fun t_ k_ => XS.aloadN X0.here hx rfl (hb hby d28_1) rfl rfl k_)
  refine Go s₁ (mkF m 3 #[vR a, vR ku, .unset, .unset] [(.ref ku), (.ref ku), (.ref a)]) ?_ (fun t_ k_ => XS.aloadN X0.here hx rfl (hb hby d28_2) rfl rfl k_)
  obtain ⟨cq1, kq1, q1a, q1b, q1c⟩ := isOf hZ e0 KY.u0
  obtain ⟨_, _, ⟨T1, Lq_1, kq_1, nq_1⟩, -, X1, ⟨Lc1, hQ1, l1, y1, z1⟩, st1⟩ := X0.virtualBack hx (y := mN20) (z := mN22) hown (mvT hZ (wq hw 169 rfl)) (mvT hZ (wq hw 170 rfl)) (own_nfO hZ (wq hw 138 rfl) rfl) (mvT hZ (wq hw 207 rfl)) (mvT hZ (wq hw 208 rfl)) (by decide) (backOf (W := 2) (rmHU l Z a0 hw [] B t tt i ti r tr ku ko kt ki kr ct ci cr w2 zc h0 n0 Z0 KY KC gB bB CS hzc X0_) hZ (wq hw 209 rfl) (wq hw 31 rfl) (by decide) (by decide)) q1a q1c (g := (mkF m 3 #[vR a, vR ku, .unset, .unset] [(.ref ku), (.ref ku), (.ref a)])) rfl (by rw [hml]; rfl) (Steps.refl _) (argsL := []) (rest := [(.ref ku), (.ref a)]) (lenOf pd_9 rfl) rfl (by show 2 * 0 + _ ≤ _; exact Nat.le_of_eq rfl) (hb hby d28_3) (fun _ _ => ⟨rfl, e0, (by decide : 0 + 1 ≤ _), (by decide : 0 + 3 ≤ _)⟩)
  dsimp only [Pt.U, Pt.locs, Pt.cells, Pt.slots] at X1 l1 y1 z1 st1 hQ1
  rw [l1, y1, z1] at X1
  change Stand p l e _ _ m _ below meth c T1 _ 1 3 at X1
  obtain ⟨rfl, N1q, K1, ky1⟩ := hQ1
  have N1 := Fr.app N0 N1q
  refine Go T1 (mkF m 6 #[vR a, vR ku, .unset, .unset] [(.int (own_sh ct ci cr)), (.ref ku), (.ref a)]) ?_ (fun t => st1.trans)
  have Zc1 : n0 ≤ T1.heap.size := Nat.le_trans Z0 K1.1
  have xo1 : Old Z n0 T1.heap := X0_.keep K1 KC.ge
  have kp2 := (Keep.refl h0 [t, i, r, a, hc, ks]).trans K1 (allS (Or.inl (by simp)) (allS (Or.inl (by simp)) (allS (Or.inl (by simp)) all0)))
  have bb1 : B ≤ T1.heap.size := Nat.le_trans bB K1.1
  have tl1 := TL.keep K1 (own_nhi TL.ba KC.lt) (own_nhi TL.bh KC.lt) (own_nhi TL.bk KC.lt)
  obtain ⟨cq3, q3, q3'⟩ := tl1.E.cell
  obtain ⟨_, _, ⟨T3, Lq_3, kq_3, nq_3⟩, -, X3, ⟨Lc3, hQ3, l3, y3, z3⟩, st3⟩ := X1.privateBack hx (y := mN15) hown (mvT hZ (wq hw 173 rfl)) (mvT hZ (wq hw 174 rfl)) (mvT hZ (own_selP (y := mN15) (wq hw 151 rfl) (wq hw 175 rfl) (wq hw 174 rfl) (by decide))) (Cond.privateMethod_at (mvP hZ (wq hw 175 rfl) (args := #[]))) (mvT hZ (wq hw 176 rfl)) (by decide) (backOf (W := 0) (rmF1 l Z a0 hw [] B a hc ks kh kk ku (own_sh ct ci cr) (1 : Int32) T1.heap n0 Zc1 tl1 (by decide)) hZ (wq hw 176 rfl) (wq hw 152 rfl) (by decide) (by decide)) (g := (mkF m 6 #[vR a, vR ku, .unset, .unset] [(.int (own_sh ct ci cr)), (.ref ku), (.ref a)])) rfl (by rw [hml]; rfl) (Steps.refl _) (a := a) q3 q3' (argsL := [(.ref ku), (.int (own_sh ct ci cr))]) (rest := []) (lenOf pd_13 rfl) rfl (by show 2 * 0 + _ ≤ _; exact Nat.le_of_eq rfl) (hb hby d28_6) (fun _ _ => ⟨rfl, rfl, (by decide : 1 + 0 ≤ _), (by decide : 3 + 0 ≤ _)⟩)
  dsimp only [Pt.U, Pt.locs, Pt.cells, Pt.slots] at X3 l3 y3 z3 st3 hQ3
  rw [l3, y3, z3] at X3
  change Stand p l e _ _ m _ below meth c T3 _ 1 3 at X3
  obtain ⟨rfl, N3q, eh3⟩ := hQ3
  have N3 := Fr.app N1 N3q
  refine Go T3 (mkF m 9 #[vR a, vR ku, .unset, .unset] [(.int (own_home (own_sh ct ci cr)))]) ?_ (fun t => st3.trans)
  rcases own_home_b (own_sh ct ci cr) with hbm | hbm
  · rw [hbm]
    have ahc : a ≠ hc := Exa.neArv tl1.E tl1.VH (wq hw 151 rfl)
    have aks : a ≠ ks := Exa.neArv tl1.E tl1.VK (wq hw 151 rfl)
    have VHb : Arv Z T1.heap hc kh .int 4 [.int (own_sh ct ci cr), .int 1, .int 0, .int 0] (.int 0) := by have q := tl1.VH; rw [hbm, own_hs0] at q; exact q
    obtain ⟨cH, AH, qH, SH_, MH, HH, GH⟩ := id VHb
    refine Go T3 (mkF m 10 #[vR a, vR ku, vI 0, .unset] []) ?_ (fun t_ k_ => XS.istoreN X3.here hx rfl (hb hby d28_9) rfl (l' := #[vR a, vR ku, vI 0, .unset]) rfl k_)
    refine Go T3 (mkF m 11 #[vR a, vR ku, vI 0, .unset] [(.int 0)]) ?_ (fun t_ k_ => XS.iloadN X3.here hx rfl (hb hby d28_10) rfl k_)
    refine Go T3 (mkF m 16 #[vR a, vR ku, vI 0, .unset] []) ?_ (fun t_ k_ => XS.ifYes X3.here hx rfl (pc0 := 11) (pc' := 16) rfl (hb hby d28_11) rfl (by decide) (by decide) (by decide) k_)
    refine Go T3 (mkF m 17 #[vR a, vR ku, vI 0, .unset] [(.ref a)]) ?_ (fun t_ k_ => XS.aloadN X3.here hx rfl (hb hby d28_16) rfl rfl k_)
    obtain ⟨T4, X4, e4, st4⟩ := getF X3 hx hZ hown (host := "") (Or.inl (wq hw 157 rfl)) Via.refl eh3 tl1.FH (g := (mkF m 17 #[vR a, vR ku, vI 0, .unset] [(.ref a)])) rfl rfl (hb hby d28_17)
    refine Go T4 (mkF m 20 #[vR a, vR ku, vI 0, .unset] [(.ref hc)]) ?_ st4
    refine Go T4 (mkF m 21 #[vR a, vR ku, vI 0, .unset] [(.int 2), (.ref hc)]) ?_ (fun t_ k_ => XS.iconst X4.here hx rfl (hb hby d28_20) k_)
    refine Go T4 (mkF m 22 #[vR a, vR ku, vI 0, .unset] [(.int 0), (.int 2), (.ref hc)]) ?_ (fun t_ k_ => XS.iloadN X4.here hx rfl (hb hby d28_21) rfl k_)
    refine Go T4 (mkF m 23 #[vR a, vR ku, vI 0, .unset] [(.int 0), (.ref hc)]) ?_ (fun t_ k_ => XS.imul X4.here hx rfl (hb hby d28_22) rfl k_)
    refine Go T4 (mkF m 24 #[vR a, vR ku, vI 0, .unset] [(.int 1), (.int 0), (.ref hc)]) ?_ (fun t_ k_ => XS.iconst X4.here hx rfl (hb hby d28_23) k_)
    refine Go T4 (mkF m 25 #[vR a, vR ku, vI 0, .unset] [(.int 1), (.ref hc)]) ?_ (fun t_ k_ => XS.iadd X4.here hx rfl (hb hby d28_24) rfl k_)
    refine Go T4 (mkF m 26 #[vR a, vR ku, vI 0, .unset] [(.int 1), (.ref hc), (.int 1), (.ref hc)]) ?_ (fun t_ k_ => Jvm.Free.XT.dup2 X4.here hx rfl (hb hby d28_25) rfl rfl rfl k_)
    refine Go T4 (mkF m 27 #[vR a, vR ku, vI 0, .unset] [(.int 1), (.int 1), (.ref hc)]) ?_ (X4.iaload hx (j := (1 : Int32)) (v := (.int 1)) (by rw [e4]; exact AH.1) (State.isArrayOf_alike hZ.alike AH.2.1) AH.2.2 (inb_of SH_ ⟨by decide, by decide⟩) (by have q := HH 1 (by rw [SH_]; decide); exact q) (g := (mkF m 26 #[vR a, vR ku, vI 0, .unset] [(.int 1), (.ref hc), (.int 1), (.ref hc)])) rfl rfl (hb hby d28_26))
    refine Go T4 (mkF m 28 #[vR a, vR ku, vI 0, .unset] [(.int 1), (.int 1), (.int 1), (.ref hc)]) ?_ (fun t_ k_ => XS.iconst X4.here hx rfl (hb hby d28_27) k_)
    refine Go T4 (mkF m 29 #[vR a, vR ku, vI 0, .unset] [(.int 0), (.int 1), (.ref hc)]) ?_ (fun t_ k_ => XS.isub X4.here hx rfl (hb hby d28_28) rfl k_)
    obtain ⟨T5, h5, X5, e5, W5, st5⟩ := stI X4 hx hZ e4 AH (j := (1 : Int32)) (inb_of SH_ ⟨by decide, by decide⟩) (g := (mkF m 29 #[vR a, vR ku, vI 0, .unset] [(.int 0), (.int 1), (.ref hc)])) rfl rfl (hb hby d28_29)
    have N5 := Fr.snoc X5 N3 (Nat.le_trans gB tl1.bh)
    have Z5 : n0 ≤ h5.size := Nat.le_trans Zc1 (Nat.le_of_eq W5.size.symm)
    refine Go T5 (mkF m 30 #[vR a, vR ku, vI 0, .unset] []) ?_ st5
    have fx6 := tl1.FH.other W5 (Or.inl ahc)
    have fx7 := tl1.FK.other W5 (Or.inl ahc)
    have fx8 := tl1.FS.other W5 (Or.inl ahc)
    have fx9 := tl1.FZ.other W5 (Or.inl ahc)
    have fx10 := tl1.E.wr W5
    have fx11 := tl1.VK.other W5 (Ne.symm tl1.hne)
    have kp12 := kp2.wr W5 (Or.inl (by simp))
    have V5 : Arv Z h5 hc kh .int 4 [.int (own_sh ct ci cr), .int 0, .int 0, .int 0] (.int 0) := Arv.set AH qH SH_ MH HH GH rfl W5 1 rfl (Nat.le_of_ble_eq_true rfl)
    have ky5 := ky1.keep KC ((Keep.refl _ [hc]).wr W5 (Or.inl (List.mem_cons_self ..))) (own_sfC (P := fun z => B ≤ z) tl1.bh (fun y hy => absurd hy List.not_mem_nil))
    have TN : Tly Z h5 B a hc ks kh kk ku (own_sh ct ci cr) (0 : Int32) := ⟨fx10, fx6, fx7, fx8, fx9, (by rw [hbm, own_hs0]; exact V5), fx11, tl1.OV, tl1.hne, tl1.ba, tl1.bh, tl1.bk⟩
    obtain ⟨cH2, AH2, qH2, SH2, MH2, HH2, GH2⟩ := id V5
    refine Go T5 (mkF m 31 #[vR a, vR ku, vI 0, .unset] [(.ref a)]) ?_ (fun t_ k_ => XS.aloadN X5.here hx rfl (hb hby d28_30) rfl rfl k_)
    obtain ⟨T13, X13, e13, st13⟩ := getF X5 hx hZ hown (host := "") (Or.inl (wq hw 157 rfl)) Via.refl e5 fx6 (g := (mkF m 31 #[vR a, vR ku, vI 0, .unset] [(.ref a)])) rfl rfl (hb hby d28_31)
    refine Go T13 (mkF m 34 #[vR a, vR ku, vI 0, .unset] [(.ref hc)]) ?_ st13
    refine Go T13 (mkF m 35 #[vR a, vR ku, vI 0, .unset] [(.int 2), (.ref hc)]) ?_ (fun t_ k_ => XS.iconst X13.here hx rfl (hb hby d28_34) k_)
    refine Go T13 (mkF m 36 #[vR a, vR ku, vI 0, .unset] [(.int 0), (.int 2), (.ref hc)]) ?_ (fun t_ k_ => XS.iloadN X13.here hx rfl (hb hby d28_35) rfl k_)
    refine Go T13 (mkF m 37 #[vR a, vR ku, vI 0, .unset] [(.int 0), (.ref hc)]) ?_ (fun t_ k_ => XS.imul X13.here hx rfl (hb hby d28_36) rfl k_)
    refine Go T13 (mkF m 38 #[vR a, vR ku, vI 0, .unset] [(.int 1), (.int 0), (.ref hc)]) ?_ (fun t_ k_ => XS.iconst X13.here hx rfl (hb hby d28_37) k_)
    refine Go T13 (mkF m 39 #[vR a, vR ku, vI 0, .unset] [(.int 1), (.ref hc)]) ?_ (fun t_ k_ => XS.iadd X13.here hx rfl (hb hby d28_38) rfl k_)
    refine Go T13 (mkF m 40 #[vR a, vR ku, vI 0, .unset] [(.int 0)]) ?_ (X13.iaload hx (j := (1 : Int32)) (v := (.int 0)) (by rw [e13]; exact AH2.1) (State.isArrayOf_alike hZ.alike AH2.2.1) AH2.2.2 (inb_of SH2 ⟨by decide, by decide⟩) (by have q := HH2 1 (by rw [SH2]; decide); exact q) (g := (mkF m 39 #[vR a, vR ku, vI 0, .unset] [(.int 1), (.ref hc)])) rfl rfl (hb hby d28_39))
    refine Go T13 (mkF m 43 #[vR a, vR ku, vI 0, .unset] []) ?_ (fun t_ k_ => XS.ifNo X13.here hx rfl (hb hby d28_40) rfl (by decide) k_)
    refine Go T13 (mkF m 44 #[vR a, vR ku, vI 0, .unset] [(.int 1)]) ?_ (fun t_ k_ => XS.iconst X13.here hx rfl (hb hby d28_43) k_)
    refine Go T13 (mkF m 48 #[vR a, vR ku, vI 0, .unset] [(.int 1)]) ?_ (fun t_ k_ => XS.goto X13.here hx rfl (pc0 := 44) (pc' := 48) rfl (hb hby d28_44) (by decide) (by decide) k_)
    refine Go T13 (mkF m 49 #[vR a, vR ku, vI 0, vI 1] []) ?_ (fun t_ k_ => XS.istoreN X13.here hx rfl (hb hby d28_48) rfl (l' := #[vR a, vR ku, vI 0, vI 1]) rfl k_)
    refine Go T13 (mkF m 50 #[vR a, vR ku, vI 0, vI 1] [(.int 1)]) ?_ (fun t_ k_ => XS.iloadN X13.here hx rfl (hb hby d28_49) rfl k_)
    refine Go T13 (mkF m 53 #[vR a, vR ku, vI 0, vI 1] []) ?_ (fun t_ k_ => XS.ifNo X13.here hx rfl (hb hby d28_50) rfl (by decide) k_)
    refine Go T13 (mkF m 54 #[vR a, vR ku, vI 0, vI 1] [(.ref a)]) ?_ (fun t_ k_ => XS.aloadN X13.here hx rfl (hb hby d28_53) rfl rfl k_)
    refine Go T13 (mkF m 55 #[vR a, vR ku, vI 0, vI 1] [(.int 0), (.ref a)]) ?_ (fun t_ k_ => XS.iloadN X13.here hx rfl (hb hby d28_54) rfl k_)
    obtain ⟨cq14, q14, q14'⟩ := TN.E.cell
    obtain ⟨_, _, ⟨T14, Lq_14, kq_14, nq_14⟩, -, X14, ⟨Lc14, hQ14, l14, y14, z14⟩, st14⟩ := X13.privateBack hx (y := mN17) hown (mvT hZ (wq hw 193 rfl)) (mvT hZ (wq hw 194 rfl)) (mvT hZ (own_selP (y := mN17) (wq hw 151 rfl) (wq hw 195 rfl) (wq hw 194 rfl) (by decide))) (Cond.privateMethod_at (mvP hZ (wq hw 195 rfl) (args := #[]))) (mvT hZ (wq hw 196 rfl)) (by decide) (backOf (W := 0) (rmE0 l Z a0 hw [] B a hc ks kh kk ku (own_sh ct ci cr) (0 : Int32) h5 n0 Z5 TN hbm gB) hZ (wq hw 196 rfl) (wq hw 152 rfl) (by decide) (by decide)) (g := (mkF m 55 #[vR a, vR ku, vI 0, vI 1] [(.int 0), (.ref a)])) rfl (by rw [hml]; rfl) (Steps.refl _) (a := a) (by rw [e13]; exact q14) q14' (argsL := [(.int 0)]) (rest := []) (lenOf pd_14 rfl) rfl (by show 2 * 0 + _ ≤ _; exact Nat.le_of_eq rfl) (hb hby d28_55) (fun _ _ => ⟨rfl, e13, (by decide : 1 + 0 ≤ _), (by decide : 3 + 0 ≤ _)⟩)
    dsimp only [Pt.U, Pt.locs, Pt.cells, Pt.slots] at X14 l14 y14 z14 st14 hQ14
    rw [l14, y14, z14] at X14
    change Stand p l e _ _ m _ below meth c T14 _ 1 3 at X14
    obtain ⟨rfl, N14q, K14⟩ := hQ14
    have N14 := Fr.app N5 N14q
    refine Go T14 (mkF m 58 #[vR a, vR ku, vI 0, vI 1] []) ?_ (fun t => st14.trans)
    have Zp : n0 ≤ T14.heap.size := Nat.le_trans Z5 K14.1
    have ky14 := ky5.keep KC K14 (own_sfC (P := fun z => B ≤ z) tl1.bh (own_sfC (P := fun z => B ≤ z) tl1.bk (fun y hy => absurd hy List.not_mem_nil)))
    have fx15 := fx6.keep K14 (ninS ahc (ninS aks nin0))
    have fx16 := fx7.keep K14 (ninS ahc (ninS aks nin0))
    have fx17 := fx8.keep K14 (ninS ahc (ninS aks nin0))
    have fx18 := fx9.keep K14 (ninS ahc (ninS aks nin0))
    have fx19 := fx10.keep K14
    have kp20 := kp12.trans K14 (allS (Or.inl (by simp)) (allS (Or.inl (by simp)) all0))
    refine Go T14 (mkF m 59 #[vR a, vR ku, vI 0, vI 1] [(.ref a)]) ?_ (fun t_ k_ => XS.aloadN X14.here hx rfl (hb hby d28_58) rfl rfl k_)
    refine Go T14 (mkF m 60 #[vR a, vR ku, vI 0, vI 1] [(.ref a), (.ref a)]) ?_ (fun t_ k_ => XS.dup X14.here hx rfl (hb hby d28_59) rfl rfl k_)
    obtain ⟨T21, X21, e21, st21⟩ := getF X14 hx hZ hown (host := "") (Or.inl (wq hw 182 rfl)) Via.refl rfl fx18 (g := (mkF m 60 #[vR a, vR ku, vI 0, vI 1] [(.ref a), (.ref a)])) rfl rfl (hb hby d28_60)
    refine Go T21 (mkF m 63 #[vR a, vR ku, vI 0, vI 1] [(.int 1), (.ref a)]) ?_ st21
    refine Go T21 (mkF m 64 #[vR a, vR ku, vI 0, vI 1] [(.int 1), (.int 1), (.ref a)]) ?_ (fun t_ k_ => XS.iconst X21.here hx rfl (hb hby d28_63) k_)
    refine Go T21 (mkF m 65 #[vR a, vR ku, vI 0, vI 1] [(.int 0), (.ref a)]) ?_ (fun t_ k_ => XS.isub X21.here hx rfl (hb hby d28_64) rfl k_)
    obtain ⟨T22, h22, X22, e22, W22, st22⟩ := putF X21 hx hZ hown (host := "") (Or.inl (wq hw 182 rfl)) Via.refl e21 fx18 fx19 (Or.inl (wq hw 183 rfl)) (wq hw 151 rfl) (ty := .int) (by decide) rfl rfl (g := (mkF m 65 #[vR a, vR ku, vI 0, vI 1] [(.int 0), (.ref a)])) rfl rfl (hb hby d28_65)
    have N22 := Fr.snoc X22 N14 (Nat.le_trans gB tl1.ba)
    have Z22 : n0 ≤ h22.size := Nat.le_trans Zp (Nat.le_of_eq W22.size.symm)
    refine Go T22 (mkF m 68 #[vR a, vR ku, vI 0, vI 1] []) ?_ st22
    have fx23 := fx15.other W22 (Or.inr (slot_ne (Or.inl (wq hw 158 rfl)) (Or.inl (wq hw 183 rfl)) (by decide) (t := (.array .int)) (t' := .int) (by decide) (by decide)))
    have fx24 := fx16.other W22 (Or.inr (slot_ne (Or.inl (wq hw 161 rfl)) (Or.inl (wq hw 183 rfl)) (by decide) (t := (.array (.object "java/lang/Object"))) (t' := .int) (by decide) (by decide)))
    have fx25 := fx17.other W22 (Or.inr (slot_ne (Or.inl (wq hw 163 rfl)) (Or.inl (wq hw 183 rfl)) (by decide) (t := .int) (t' := .int) (by decide) (by decide)))
    have fx26 := fx18.same W22
    have fx27 := fx19.wr W22
    have kp28 := kp20.wr W22 (Or.inl (by simp))
    have ky22 := ky14.keep KC ((Keep.refl _ [a]).wr W22 (Or.inl (List.mem_cons_self ..))) (own_sfC (P := fun z => B ≤ z) tl1.ba (fun y hy => absurd hy List.not_mem_nil))
    refine Go T22 (mkF m 69 #[vR a, vR ku, vI 0, vI 1] [(.int 1)]) ?_ (fun t_ k_ => XS.iloadN X22.here hx rfl (hb hby d28_68) rfl k_)
    rw [hWd]
    exact Goes.retn X22 (v := some (.int (nar .boolean (1 : Int32)))) (fun fs hr => retN X22 hx (t := .boolean) Bd.returns (by simp) (hb hby d28_69) hr) (fun h => by rw [Bd.returns] at h; cases h) Bd.notSynchronized (by decide) (by decide) (by rw [e22]; exact ⟨rfl, N22, kp28, ky22, fx27, fx26⟩)
  · rw [hbm]
    have ahc : a ≠ hc := Exa.neArv tl1.E tl1.VH (wq hw 151 rfl)
    have aks : a ≠ ks := Exa.neArv tl1.E tl1.VK (wq hw 151 rfl)
    have VHb : Arv Z T1.heap hc kh .int 4 [.int 0, .int 0, .int (own_sh ct ci cr), .int 1] (.int 0) := by have q := tl1.VH; rw [hbm, own_hs1] at q; exact q
    obtain ⟨cH, AH, qH, SH_, MH, HH, GH⟩ := id VHb
    refine Go T3 (mkF m 10 #[vR a, vR ku, vI 1, .unset] []) ?_ (fun t_ k_ => XS.istoreN X3.here hx rfl (hb hby d28_9) rfl (l' := #[vR a, vR ku, vI 1, .unset]) rfl k_)
    refine Go T3 (mkF m 11 #[vR a, vR ku, vI 1, .unset] [(.int 1)]) ?_ (fun t_ k_ => XS.iloadN X3.here hx rfl (hb hby d28_10) rfl k_)
    refine Go T3 (mkF m 16 #[vR a, vR ku, vI 1, .unset] []) ?_ (fun t_ k_ => XS.ifYes X3.here hx rfl (pc0 := 11) (pc' := 16) rfl (hb hby d28_11) rfl (by decide) (by decide) (by decide) k_)
    refine Go T3 (mkF m 17 #[vR a, vR ku, vI 1, .unset] [(.ref a)]) ?_ (fun t_ k_ => XS.aloadN X3.here hx rfl (hb hby d28_16) rfl rfl k_)
    obtain ⟨T29, X29, e29, st29⟩ := getF X3 hx hZ hown (host := "") (Or.inl (wq hw 157 rfl)) Via.refl eh3 tl1.FH (g := (mkF m 17 #[vR a, vR ku, vI 1, .unset] [(.ref a)])) rfl rfl (hb hby d28_17)
    refine Go T29 (mkF m 20 #[vR a, vR ku, vI 1, .unset] [(.ref hc)]) ?_ st29
    refine Go T29 (mkF m 21 #[vR a, vR ku, vI 1, .unset] [(.int 2), (.ref hc)]) ?_ (fun t_ k_ => XS.iconst X29.here hx rfl (hb hby d28_20) k_)
    refine Go T29 (mkF m 22 #[vR a, vR ku, vI 1, .unset] [(.int 1), (.int 2), (.ref hc)]) ?_ (fun t_ k_ => XS.iloadN X29.here hx rfl (hb hby d28_21) rfl k_)
    refine Go T29 (mkF m 23 #[vR a, vR ku, vI 1, .unset] [(.int 2), (.ref hc)]) ?_ (fun t_ k_ => XS.imul X29.here hx rfl (hb hby d28_22) rfl k_)
    refine Go T29 (mkF m 24 #[vR a, vR ku, vI 1, .unset] [(.int 1), (.int 2), (.ref hc)]) ?_ (fun t_ k_ => XS.iconst X29.here hx rfl (hb hby d28_23) k_)
    refine Go T29 (mkF m 25 #[vR a, vR ku, vI 1, .unset] [(.int 3), (.ref hc)]) ?_ (fun t_ k_ => XS.iadd X29.here hx rfl (hb hby d28_24) rfl k_)
    refine Go T29 (mkF m 26 #[vR a, vR ku, vI 1, .unset] [(.int 3), (.ref hc), (.int 3), (.ref hc)]) ?_ (fun t_ k_ => Jvm.Free.XT.dup2 X29.here hx rfl (hb hby d28_25) rfl rfl rfl k_)
    refine Go T29 (mkF m 27 #[vR a, vR ku, vI 1, .unset] [(.int 1), (.int 3), (.ref hc)]) ?_ (X29.iaload hx (j := (3 : Int32)) (v := (.int 1)) (by rw [e29]; exact AH.1) (State.isArrayOf_alike hZ.alike AH.2.1) AH.2.2 (inb_of SH_ ⟨by decide, by decide⟩) (by have q := HH 3 (by rw [SH_]; decide); exact q) (g := (mkF m 26 #[vR a, vR ku, vI 1, .unset] [(.int 3), (.ref hc), (.int 3), (.ref hc)])) rfl rfl (hb hby d28_26))
    refine Go T29 (mkF m 28 #[vR a, vR ku, vI 1, .unset] [(.int 1), (.int 1), (.int 3), (.ref hc)]) ?_ (fun t_ k_ => XS.iconst X29.here hx rfl (hb hby d28_27) k_)
    refine Go T29 (mkF m 29 #[vR a, vR ku, vI 1, .unset] [(.int 0), (.int 3), (.ref hc)]) ?_ (fun t_ k_ => XS.isub X29.here hx rfl (hb hby d28_28) rfl k_)
    obtain ⟨T30, h30, X30, e30, W30, st30⟩ := stI X29 hx hZ e29 AH (j := (3 : Int32)) (inb_of SH_ ⟨by decide, by decide⟩) (g := (mkF m 29 #[vR a, vR ku, vI 1, .unset] [(.int 0), (.int 3), (.ref hc)])) rfl rfl (hb hby d28_29)
    have N30 := Fr.snoc X30 N3 (Nat.le_trans gB tl1.bh)
    have Z30 : n0 ≤ h30.size := Nat.le_trans Zc1 (Nat.le_of_eq W30.size.symm)
    refine Go T30 (mkF m 30 #[vR a, vR ku, vI 1, .unset] []) ?_ st30
    have fx31 := tl1.FH.other W30 (Or.inl ahc)
    have fx32 := tl1.FK.other W30 (Or.inl ahc)
    have fx33 := tl1.FS.other W30 (Or.inl ahc)
    have fx34 := tl1.FZ.other W30 (Or.inl ahc)
    have fx35 := tl1.E.wr W30
    have fx36 := tl1.VK.other W30 (Ne.symm tl1.hne)
    have kp37 := kp2.wr W30 (Or.inl (by simp))
    have V30 : Arv Z h30 hc kh .int 4 [.int 0, .int 0, .int (own_sh ct ci cr), .int 0] (.int 0) := Arv.set AH qH SH_ MH HH GH rfl W30 3 rfl (Nat.le_of_ble_eq_true rfl)
    have ky30 := ky1.keep KC ((Keep.refl _ [hc]).wr W30 (Or.inl (List.mem_cons_self ..))) (own_sfC (P := fun z => B ≤ z) tl1.bh (fun y hy => absurd hy List.not_mem_nil))
    have TN : Tly Z h30 B a hc ks kh kk ku (own_sh ct ci cr) (0 : Int32) := ⟨fx35, fx31, fx32, fx33, fx34, (by rw [hbm, own_hs1]; exact V30), fx36, tl1.OV, tl1.hne, tl1.ba, tl1.bh, tl1.bk⟩
    obtain ⟨cH2, AH2, qH2, SH2, MH2, HH2, GH2⟩ := id V30
    refine Go T30 (mkF m 31 #[vR a, vR ku, vI 1, .unset] [(.ref a)]) ?_ (fun t_ k_ => XS.aloadN X30.here hx rfl (hb hby d28_30) rfl rfl k_)
    obtain ⟨T38, X38, e38, st38⟩ := getF X30 hx hZ hown (host := "") (Or.inl (wq hw 157 rfl)) Via.refl e30 fx31 (g := (mkF m 31 #[vR a, vR ku, vI 1, .unset] [(.ref a)])) rfl rfl (hb hby d28_31)
    refine Go T38 (mkF m 34 #[vR a, vR ku, vI 1, .unset] [(.ref hc)]) ?_ st38
    refine Go T38 (mkF m 35 #[vR a, vR ku, vI 1, .unset] [(.int 2), (.ref hc)]) ?_ (fun t_ k_ => XS.iconst X38.here hx rfl (hb hby d28_34) k_)
    refine Go T38 (mkF m 36 #[vR a, vR ku, vI 1, .unset] [(.int 1), (.int 2), (.ref hc)]) ?_ (fun t_ k_ => XS.iloadN X38.here hx rfl (hb hby d28_35) rfl k_)
    refine Go T38 (mkF m 37 #[vR a, vR ku, vI 1, .unset] [(.int 2), (.ref hc)]) ?_ (fun t_ k_ => XS.imul X38.here hx rfl (hb hby d28_36) rfl k_)
    refine Go T38 (mkF m 38 #[vR a, vR ku, vI 1, .unset] [(.int 1), (.int 2), (.ref hc)]) ?_ (fun t_ k_ => XS.iconst X38.here hx rfl (hb hby d28_37) k_)
    refine Go T38 (mkF m 39 #[vR a, vR ku, vI 1, .unset] [(.int 3), (.ref hc)]) ?_ (fun t_ k_ => XS.iadd X38.here hx rfl (hb hby d28_38) rfl k_)
    refine Go T38 (mkF m 40 #[vR a, vR ku, vI 1, .unset] [(.int 0)]) ?_ (X38.iaload hx (j := (3 : Int32)) (v := (.int 0)) (by rw [e38]; exact AH2.1) (State.isArrayOf_alike hZ.alike AH2.2.1) AH2.2.2 (inb_of SH2 ⟨by decide, by decide⟩) (by have q := HH2 3 (by rw [SH2]; decide); exact q) (g := (mkF m 39 #[vR a, vR ku, vI 1, .unset] [(.int 3), (.ref hc)])) rfl rfl (hb hby d28_39))
    refine Go T38 (mkF m 43 #[vR a, vR ku, vI 1, .unset] []) ?_ (fun t_ k_ => XS.ifNo X38.here hx rfl (hb hby d28_40) rfl (by decide) k_)
    refine Go T38 (mkF m 44 #[vR a, vR ku, vI 1, .unset] [(.int 1)]) ?_ (fun t_ k_ => XS.iconst X38.here hx rfl (hb hby d28_43) k_)
    refine Go T38 (mkF m 48 #[vR a, vR ku, vI 1, .unset] [(.int 1)]) ?_ (fun t_ k_ => XS.goto X38.here hx rfl (pc0 := 44) (pc' := 48) rfl (hb hby d28_44) (by decide) (by decide) k_)
    refine Go T38 (mkF m 49 #[vR a, vR ku, vI 1, vI 1] []) ?_ (fun t_ k_ => XS.istoreN X38.here hx rfl (hb hby d28_48) rfl (l' := #[vR a, vR ku, vI 1, vI 1]) rfl k_)
    refine Go T38 (mkF m 50 #[vR a, vR ku, vI 1, vI 1] [(.int 1)]) ?_ (fun t_ k_ => XS.iloadN X38.here hx rfl (hb hby d28_49) rfl k_)
    refine Go T38 (mkF m 53 #[vR a, vR ku, vI 1, vI 1] []) ?_ (fun t_ k_ => XS.ifNo X38.here hx rfl (hb hby d28_50) rfl (by decide) k_)
    refine Go T38 (mkF m 54 #[vR a, vR ku, vI 1, vI 1] [(.ref a)]) ?_ (fun t_ k_ => XS.aloadN X38.here hx rfl (hb hby d28_53) rfl rfl k_)
    refine Go T38 (mkF m 55 #[vR a, vR ku, vI 1, vI 1] [(.int 1), (.ref a)]) ?_ (fun t_ k_ => XS.iloadN X38.here hx rfl (hb hby d28_54) rfl k_)
    obtain ⟨cq39, q39, q39'⟩ := TN.E.cell
    obtain ⟨_, _, ⟨T39, Lq_39, kq_39, nq_39⟩, -, X39, ⟨Lc39, hQ39, l39, y39, z39⟩, st39⟩ := X38.privateBack hx (y := mN17) hown (mvT hZ (wq hw 193 rfl)) (mvT hZ (wq hw 194 rfl)) (mvT hZ (own_selP (y := mN17) (wq hw 151 rfl) (wq hw 195 rfl) (wq hw 194 rfl) (by decide))) (Cond.privateMethod_at (mvP hZ (wq hw 195 rfl) (args := #[]))) (mvT hZ (wq hw 196 rfl)) (by decide) (backOf (W := 0) (rmE1 l Z a0 hw [] B a hc ks kh kk ku (own_sh ct ci cr) (0 : Int32) h30 n0 Z30 TN hbm gB) hZ (wq hw 196 rfl) (wq hw 152 rfl) (by decide) (by decide)) (g := (mkF m 55 #[vR a, vR ku, vI 1, vI 1] [(.int 1), (.ref a)])) rfl (by rw [hml]; rfl) (Steps.refl _) (a := a) (by rw [e38]; exact q39) q39' (argsL := [(.int 1)]) (rest := []) (lenOf pd_14 rfl) rfl (by show 2 * 0 + _ ≤ _; exact Nat.le_of_eq rfl) (hb hby d28_55) (fun _ _ => ⟨rfl, e38, (by decide : 1 + 0 ≤ _), (by decide : 3 + 0 ≤ _)⟩)
    dsimp only [Pt.U, Pt.locs, Pt.cells, Pt.slots] at X39 l39 y39 z39 st39 hQ39
    rw [l39, y39, z39] at X39
    change Stand p l e _ _ m _ below meth c T39 _ 1 3 at X39
    obtain ⟨rfl, N39q, K39⟩ := hQ39
    have N39 := Fr.app N30 N39q
    refine Go T39 (mkF m 58 #[vR a, vR ku, vI 1, vI 1] []) ?_ (fun t => st39.trans)
    have Zp : n0 ≤ T39.heap.size := Nat.le_trans Z30 K39.1
    have ky39 := ky30.keep KC K39 (own_sfC (P := fun z => B ≤ z) tl1.bh (own_sfC (P := fun z => B ≤ z) tl1.bk (fun y hy => absurd hy List.not_mem_nil)))
    have fx40 := fx31.keep K39 (ninS ahc (ninS aks nin0))
    have fx41 := fx32.keep K39 (ninS ahc (ninS aks nin0))
    have fx42 := fx33.keep K39 (ninS ahc (ninS aks nin0))
    have fx43 := fx34.keep K39 (ninS ahc (ninS aks nin0))
    have fx44 := fx35.keep K39
    have kp45 := kp37.trans K39 (allS (Or.inl (by simp)) (allS (Or.inl (by simp)) all0))
    refine Go T39 (mkF m 59 #[vR a, vR ku, vI 1, vI 1] [(.ref a)]) ?_ (fun t_ k_ => XS.aloadN X39.here hx rfl (hb hby d28_58) rfl rfl k_)
    refine Go T39 (mkF m 60 #[vR a, vR ku, vI 1, vI 1] [(.ref a), (.ref a)]) ?_ (fun t_ k_ => XS.dup X39.here hx rfl (hb hby d28_59) rfl rfl k_)
    obtain ⟨T46, X46, e46, st46⟩ := getF X39 hx hZ hown (host := "") (Or.inl (wq hw 182 rfl)) Via.refl rfl fx43 (g := (mkF m 60 #[vR a, vR ku, vI 1, vI 1] [(.ref a), (.ref a)])) rfl rfl (hb hby d28_60)
    refine Go T46 (mkF m 63 #[vR a, vR ku, vI 1, vI 1] [(.int 1), (.ref a)]) ?_ st46
    refine Go T46 (mkF m 64 #[vR a, vR ku, vI 1, vI 1] [(.int 1), (.int 1), (.ref a)]) ?_ (fun t_ k_ => XS.iconst X46.here hx rfl (hb hby d28_63) k_)
    refine Go T46 (mkF m 65 #[vR a, vR ku, vI 1, vI 1] [(.int 0), (.ref a)]) ?_ (fun t_ k_ => XS.isub X46.here hx rfl (hb hby d28_64) rfl k_)
    obtain ⟨T47, h47, X47, e47, W47, st47⟩ := putF X46 hx hZ hown (host := "") (Or.inl (wq hw 182 rfl)) Via.refl e46 fx43 fx44 (Or.inl (wq hw 183 rfl)) (wq hw 151 rfl) (ty := .int) (by decide) rfl rfl (g := (mkF m 65 #[vR a, vR ku, vI 1, vI 1] [(.int 0), (.ref a)])) rfl rfl (hb hby d28_65)
    have N47 := Fr.snoc X47 N39 (Nat.le_trans gB tl1.ba)
    have Z47 : n0 ≤ h47.size := Nat.le_trans Zp (Nat.le_of_eq W47.size.symm)
    refine Go T47 (mkF m 68 #[vR a, vR ku, vI 1, vI 1] []) ?_ st47
    have fx48 := fx40.other W47 (Or.inr (slot_ne (Or.inl (wq hw 158 rfl)) (Or.inl (wq hw 183 rfl)) (by decide) (t := (.array .int)) (t' := .int) (by decide) (by decide)))
    have fx49 := fx41.other W47 (Or.inr (slot_ne (Or.inl (wq hw 161 rfl)) (Or.inl (wq hw 183 rfl)) (by decide) (t := (.array (.object "java/lang/Object"))) (t' := .int) (by decide) (by decide)))
    have fx50 := fx42.other W47 (Or.inr (slot_ne (Or.inl (wq hw 163 rfl)) (Or.inl (wq hw 183 rfl)) (by decide) (t := .int) (t' := .int) (by decide) (by decide)))
    have fx51 := fx43.same W47
    have fx52 := fx44.wr W47
    have kp53 := kp45.wr W47 (Or.inl (by simp))
    have ky47 := ky39.keep KC ((Keep.refl _ [a]).wr W47 (Or.inl (List.mem_cons_self ..))) (own_sfC (P := fun z => B ≤ z) tl1.ba (fun y hy => absurd hy List.not_mem_nil))
    refine Go T47 (mkF m 69 #[vR a, vR ku, vI 1, vI 1] [(.int 1)]) ?_ (fun t_ k_ => XS.iloadN X47.here hx rfl (hb hby d28_68) rfl k_)
    rw [hWd]
    exact Goes.retn X47 (v := some (.int (nar .boolean (1 : Int32)))) (fun fs hr => retN X47 hx (t := .boolean) Bd.returns (by simp) (hb hby d28_69) hr) (fun h => by rw [Bd.returns] at h; cases h) Bd.notSynchronized (by decide) (by decide) (by rw [e47]; exact ⟨rfl, N47, kp53, ky47, fx52, fx51⟩)
def QRU1 (Z : State) (B : Nat) (t tt i ti r tr ku ko : Addr) (kt ki kr : ClassId) (ct ci cr w2 : Int32) (zc : Int32) (a hc ks : Addr) (kh kk : ClassId) (mc : Int32) (h0 : Heap) (n0 : Nat) (v : Option Value) (h : Heap) (L : List Loc) : Prop := v = some (.int 0) ∧ Fr n0 L ∧ Keep h0 h [t, i, r, a, hc, ks] ∧ KA Z h t tt i ti r tr ku ko kt ki kr ct ci cr w2 ∧ Tly Z h B a hc ks kh kk ku (own_sh ct ci cr) (mc - (1 : Int32))
set_option maxRecDepth 65536 in
set_option maxHeartbeats 40000000 in
theorem rmRU1 (l : Launch) (Z : State) (a0 : Array Value) (hw : ∀ d ∈ tables_1, d.before a0 Z = true) (ws : List Jvm.Cond) (B : Nat) (t tt i ti r tr ku ko : Addr) (kt ki kr : ClassId) (ct ci cr w2 : Int32) (zc : Int32) (a hc ks : Addr) (kh kk : ClassId) (mc : Int32) (h0 : Heap) (n0 : Nat) (Z0 : n0 ≤ h0.size) (KY : KA Z h0 t tt i ti r tr ku ko kt ki kr ct ci cr w2) (KC : KD n0 B t tt i ti r tr ku ko ct ci cr) (gB : n0 ≤ B) (bB : B ≤ h0.size) (CS : Sta Z Z.heap "java/lang/String" "COMPACT_STRINGS" "Z" (.int zc)) (hzc : ¬ zc = (0 : Int32)) (X0_ : Old Z n0 h0) (TL : Tly Z h0 B a hc ks kh kk ku (own_sh ct ci cr) mc) (hm : ¬ mc = 0) (hm1 : ¬ mc - (1 : Int32) = 0) :
    MetFree l mN25 (head1 (Jvm.Cond.code mN25 cD25 4 (some .boolean) :: ws) ({ frames := 5, cells := 1, slots := 3, locals := 72 } : Room)) (fun a_ U => a_ = #[(.ref a), (.ref ku)] ∧ Z.Warmed39 U.vm ∧ U.heap = h0) (fun _ _ _ _ _ => True) (fun _ U o U' => ∃ v L, o = .returned v ∧ QRU1 Z B t tt i ti r tr ku ko kt ki kr ct ci cr w2 zc a hc ks kh kk mc h0 n0 v U'.heap L ∧ FrameEnd U o U' L ({ frames := 5, cells := 1, slots := 3, locals := 72 } : Room).cells ({ frames := 5, cells := 1, slots := 3, locals := 72 } : Room).slots) := by
  refine MetFree.of_bodySF (plainFor_of_name pn_5) hisR ?_
  intro p e s m args below meth c s₁ Bd hml0 hP hK
  obtain ⟨rfl, hZ, hh⟩ := hP
  have hx := Bd.exec
  have hby := Bd.bytes
  have hml : c.maxLocals = 4 := hml0
  have hown : s.vm.findClass "com/example/entitlement/entitlement/Tally" = some m.cls := findClass_of_methodNamed Bd.named
  have hnm := (name_of_methodNamed Bd.named Bd.method).1
  have X0 : Stand p l e ({ frames := 5, cells := 1, slots := 3, locals := 72 } : Room) s m #[(.ref a), (.ref ku)] below meth c s₁ [] 0 0 := Stand.of_body Bd
  have e0 : s₁.heap = h0 := by rw [← hh, Bd.state]; rfl
  have N0 := Fr.nil n0
  refine Goes.done ?_
  obtain ⟨W, hWd⟩ : ∃ W : State → Prop, W = EndW s below (QRU1 Z B t tt i ti r tr ku ko kt ki kr ct ci cr w2 zc a hc ks kh kk mc h0 n0) ({ frames := 5, cells := 1, slots := 3, locals := 72 } : Room).cells ({ frames := 5, cells := 1, slots := 3, locals := 72 } : Room).slots := ⟨_, rfl⟩
  rw [← hWd]
  have hef : entryFrame m #[(.ref a), (.ref ku)] 4 = (mkF m 0 #[vR a, vR ku, .unset, .unset] []) := by first | (simp [entryFrame, mkF, argsToLocals, Value.category]; done) | rfl
  rw [hef]
  refine Go s₁ (mkF m 1 #[vR a, vR ku, .unset, .unset] [(.ref a)]) ?_ (fun t_ k_ => XS.aloadN X0.here hx rfl (hb hby d28_0) rfl rfl k_)
  refine Go s₁ (mkF m 2 #[vR a, vR ku, .unset, .unset] [(.ref ku), (.ref a)]) ?_ (fun t_ k_ => XS.aloadN X0.here hx rfl (hb hby d28_1) rfl rfl k_)
  refine Go s₁ (mkF m 3 #[vR a, vR ku, .unset, .unset] [(.ref ku), (.ref ku), (.ref a)]) ?_ (fun t_ k_ => XS.aloadN X0.here hx rfl (hb hby d28_2) rfl rfl k_)
  obtain ⟨cq1, kq1, q1a, q1b, q1c⟩ := isOf hZ e0 KY.u0
  obtain ⟨_, _, ⟨T1, Lq_1, kq_1, nq_1⟩, -, X1, ⟨Lc1, hQ1, l1, y1, z1⟩, st1⟩ := X0.virtualBack hx (y := mN20) (z := mN22) hown (mvT hZ (wq hw 169 rfl)) (mvT hZ (wq hw 170 rfl)) (own_nfO hZ (wq hw 138 rfl) rfl) (mvT hZ (wq hw 207 rfl)) (mvT hZ (wq hw 208 rfl)) (by decide) (backOf (W := 2) (rmHU l Z a0 hw [] B t tt i ti r tr ku ko kt ki kr ct ci cr w2 zc h0 n0 Z0 KY KC gB bB CS hzc X0_) hZ (wq hw 209 rfl) (wq hw 31 rfl) (by decide) (by decide)) q1a q1c (g := (mkF m 3 #[vR a, vR ku, .unset, .unset] [(.ref ku), (.ref ku), (.ref a)])) rfl (by rw [hml]; rfl) (Steps.refl _) (argsL := []) (rest := [(.ref ku), (.ref a)]) (lenOf pd_9 rfl) rfl (by show 2 * 0 + _ ≤ _; exact Nat.le_of_eq rfl) (hb hby d28_3) (fun _ _ => ⟨rfl, e0, (by decide : 0 + 1 ≤ _), (by decide : 0 + 3 ≤ _)⟩)
  dsimp only [Pt.U, Pt.locs, Pt.cells, Pt.slots] at X1 l1 y1 z1 st1 hQ1
  rw [l1, y1, z1] at X1
  change Stand p l e _ _ m _ below meth c T1 _ 1 3 at X1
  obtain ⟨rfl, N1q, K1, ky1⟩ := hQ1
  have N1 := Fr.app N0 N1q
  refine Go T1 (mkF m 6 #[vR a, vR ku, .unset, .unset] [(.int (own_sh ct ci cr)), (.ref ku), (.ref a)]) ?_ (fun t => st1.trans)
  have Zc1 : n0 ≤ T1.heap.size := Nat.le_trans Z0 K1.1
  have xo1 : Old Z n0 T1.heap := X0_.keep K1 KC.ge
  have kp2 := (Keep.refl h0 [t, i, r, a, hc, ks]).trans K1 (allS (Or.inl (by simp)) (allS (Or.inl (by simp)) (allS (Or.inl (by simp)) all0)))
  have bb1 : B ≤ T1.heap.size := Nat.le_trans bB K1.1
  have tl1 := TL.keep K1 (own_nhi TL.ba KC.lt) (own_nhi TL.bh KC.lt) (own_nhi TL.bk KC.lt)
  obtain ⟨cq3, q3, q3'⟩ := tl1.E.cell
  obtain ⟨_, _, ⟨T3, Lq_3, kq_3, nq_3⟩, -, X3, ⟨Lc3, hQ3, l3, y3, z3⟩, st3⟩ := X1.privateBack hx (y := mN15) hown (mvT hZ (wq hw 173 rfl)) (mvT hZ (wq hw 174 rfl)) (mvT hZ (own_selP (y := mN15) (wq hw 151 rfl) (wq hw 175 rfl) (wq hw 174 rfl) (by decide))) (Cond.privateMethod_at (mvP hZ (wq hw 175 rfl) (args := #[]))) (mvT hZ (wq hw 176 rfl)) (by decide) (backOf (W := 0) (rmF1 l Z a0 hw [] B a hc ks kh kk ku (own_sh ct ci cr) mc T1.heap n0 Zc1 tl1 hm) hZ (wq hw 176 rfl) (wq hw 152 rfl) (by decide) (by decide)) (g := (mkF m 6 #[vR a, vR ku, .unset, .unset] [(.int (own_sh ct ci cr)), (.ref ku), (.ref a)])) rfl (by rw [hml]; rfl) (Steps.refl _) (a := a) q3 q3' (argsL := [(.ref ku), (.int (own_sh ct ci cr))]) (rest := []) (lenOf pd_13 rfl) rfl (by show 2 * 0 + _ ≤ _; exact Nat.le_of_eq rfl) (hb hby d28_6) (fun _ _ => ⟨rfl, rfl, (by decide : 1 + 0 ≤ _), (by decide : 3 + 0 ≤ _)⟩)
  dsimp only [Pt.U, Pt.locs, Pt.cells, Pt.slots] at X3 l3 y3 z3 st3 hQ3
  rw [l3, y3, z3] at X3
  change Stand p l e _ _ m _ below meth c T3 _ 1 3 at X3
  obtain ⟨rfl, N3q, eh3⟩ := hQ3
  have N3 := Fr.app N1 N3q
  refine Go T3 (mkF m 9 #[vR a, vR ku, .unset, .unset] [(.int (own_home (own_sh ct ci cr)))]) ?_ (fun t => st3.trans)
  rcases own_home_b (own_sh ct ci cr) with hbm | hbm
  · rw [hbm]
    have ahc : a ≠ hc := Exa.neArv tl1.E tl1.VH (wq hw 151 rfl)
    have aks : a ≠ ks := Exa.neArv tl1.E tl1.VK (wq hw 151 rfl)
    have VHb : Arv Z T1.heap hc kh .int 4 [.int (own_sh ct ci cr), .int mc, .int 0, .int 0] (.int 0) := by have q := tl1.VH; rw [hbm, own_hs0] at q; exact q
    obtain ⟨cH, AH, qH, SH_, MH, HH, GH⟩ := id VHb
    refine Go T3 (mkF m 10 #[vR a, vR ku, vI 0, .unset] []) ?_ (fun t_ k_ => XS.istoreN X3.here hx rfl (hb hby d28_9) rfl (l' := #[vR a, vR ku, vI 0, .unset]) rfl k_)
    refine Go T3 (mkF m 11 #[vR a, vR ku, vI 0, .unset] [(.int 0)]) ?_ (fun t_ k_ => XS.iloadN X3.here hx rfl (hb hby d28_10) rfl k_)
    refine Go T3 (mkF m 16 #[vR a, vR ku, vI 0, .unset] []) ?_ (fun t_ k_ => XS.ifYes X3.here hx rfl (pc0 := 11) (pc' := 16) rfl (hb hby d28_11) rfl (by decide) (by decide) (by decide) k_)
    refine Go T3 (mkF m 17 #[vR a, vR ku, vI 0, .unset] [(.ref a)]) ?_ (fun t_ k_ => XS.aloadN X3.here hx rfl (hb hby d28_16) rfl rfl k_)
    obtain ⟨T4, X4, e4, st4⟩ := getF X3 hx hZ hown (host := "") (Or.inl (wq hw 157 rfl)) Via.refl eh3 tl1.FH (g := (mkF m 17 #[vR a, vR ku, vI 0, .unset] [(.ref a)])) rfl rfl (hb hby d28_17)
    refine Go T4 (mkF m 20 #[vR a, vR ku, vI 0, .unset] [(.ref hc)]) ?_ st4
    refine Go T4 (mkF m 21 #[vR a, vR ku, vI 0, .unset] [(.int 2), (.ref hc)]) ?_ (fun t_ k_ => XS.iconst X4.here hx rfl (hb hby d28_20) k_)
    refine Go T4 (mkF m 22 #[vR a, vR ku, vI 0, .unset] [(.int 0), (.int 2), (.ref hc)]) ?_ (fun t_ k_ => XS.iloadN X4.here hx rfl (hb hby d28_21) rfl k_)
    refine Go T4 (mkF m 23 #[vR a, vR ku, vI 0, .unset] [(.int 0), (.ref hc)]) ?_ (fun t_ k_ => XS.imul X4.here hx rfl (hb hby d28_22) rfl k_)
    refine Go T4 (mkF m 24 #[vR a, vR ku, vI 0, .unset] [(.int 1), (.int 0), (.ref hc)]) ?_ (fun t_ k_ => XS.iconst X4.here hx rfl (hb hby d28_23) k_)
    refine Go T4 (mkF m 25 #[vR a, vR ku, vI 0, .unset] [(.int 1), (.ref hc)]) ?_ (fun t_ k_ => XS.iadd X4.here hx rfl (hb hby d28_24) rfl k_)
    refine Go T4 (mkF m 26 #[vR a, vR ku, vI 0, .unset] [(.int 1), (.ref hc), (.int 1), (.ref hc)]) ?_ (fun t_ k_ => Jvm.Free.XT.dup2 X4.here hx rfl (hb hby d28_25) rfl rfl rfl k_)
    refine Go T4 (mkF m 27 #[vR a, vR ku, vI 0, .unset] [(.int mc), (.int 1), (.ref hc)]) ?_ (X4.iaload hx (j := (1 : Int32)) (v := (.int mc)) (by rw [e4]; exact AH.1) (State.isArrayOf_alike hZ.alike AH.2.1) AH.2.2 (inb_of SH_ ⟨by decide, by decide⟩) (by have q := HH 1 (by rw [SH_]; decide); exact q) (g := (mkF m 26 #[vR a, vR ku, vI 0, .unset] [(.int 1), (.ref hc), (.int 1), (.ref hc)])) rfl rfl (hb hby d28_26))
    refine Go T4 (mkF m 28 #[vR a, vR ku, vI 0, .unset] [(.int 1), (.int mc), (.int 1), (.ref hc)]) ?_ (fun t_ k_ => XS.iconst X4.here hx rfl (hb hby d28_27) k_)
    refine Go T4 (mkF m 29 #[vR a, vR ku, vI 0, .unset] [(.int (mc - (1 : Int32))), (.int 1), (.ref hc)]) ?_ (fun t_ k_ => XS.isub X4.here hx rfl (hb hby d28_28) rfl k_)
    obtain ⟨T5, h5, X5, e5, W5, st5⟩ := stI X4 hx hZ e4 AH (j := (1 : Int32)) (inb_of SH_ ⟨by decide, by decide⟩) (g := (mkF m 29 #[vR a, vR ku, vI 0, .unset] [(.int (mc - (1 : Int32))), (.int 1), (.ref hc)])) rfl rfl (hb hby d28_29)
    have N5 := Fr.snoc X5 N3 (Nat.le_trans gB tl1.bh)
    have Z5 : n0 ≤ h5.size := Nat.le_trans Zc1 (Nat.le_of_eq W5.size.symm)
    refine Go T5 (mkF m 30 #[vR a, vR ku, vI 0, .unset] []) ?_ st5
    have fx6 := tl1.FH.other W5 (Or.inl ahc)
    have fx7 := tl1.FK.other W5 (Or.inl ahc)
    have fx8 := tl1.FS.other W5 (Or.inl ahc)
    have fx9 := tl1.FZ.other W5 (Or.inl ahc)
    have fx10 := tl1.E.wr W5
    have fx11 := tl1.VK.other W5 (Ne.symm tl1.hne)
    have kp12 := kp2.wr W5 (Or.inl (by simp))
    have V5 : Arv Z h5 hc kh .int 4 [.int (own_sh ct ci cr), .int (mc - (1 : Int32)), .int 0, .int 0] (.int 0) := Arv.set AH qH SH_ MH HH GH rfl W5 1 rfl (Nat.le_of_ble_eq_true rfl)
    have ky5 := ky1.keep KC ((Keep.refl _ [hc]).wr W5 (Or.inl (List.mem_cons_self ..))) (own_sfC (P := fun z => B ≤ z) tl1.bh (fun y hy => absurd hy List.not_mem_nil))
    have TN : Tly Z h5 B a hc ks kh kk ku (own_sh ct ci cr) (mc - (1 : Int32)) := ⟨fx10, fx6, fx7, fx8, fx9, (by rw [hbm, own_hs0]; exact V5), fx11, tl1.OV, tl1.hne, tl1.ba, tl1.bh, tl1.bk⟩
    obtain ⟨cH2, AH2, qH2, SH2, MH2, HH2, GH2⟩ := id V5
    refine Go T5 (mkF m 31 #[vR a, vR ku, vI 0, .unset] [(.ref a)]) ?_ (fun t_ k_ => XS.aloadN X5.here hx rfl (hb hby d28_30) rfl rfl k_)
    obtain ⟨T13, X13, e13, st13⟩ := getF X5 hx hZ hown (host := "") (Or.inl (wq hw 157 rfl)) Via.refl e5 fx6 (g := (mkF m 31 #[vR a, vR ku, vI 0, .unset] [(.ref a)])) rfl rfl (hb hby d28_31)
    refine Go T13 (mkF m 34 #[vR a, vR ku, vI 0, .unset] [(.ref hc)]) ?_ st13
    refine Go T13 (mkF m 35 #[vR a, vR ku, vI 0, .unset] [(.int 2), (.ref hc)]) ?_ (fun t_ k_ => XS.iconst X13.here hx rfl (hb hby d28_34) k_)
    refine Go T13 (mkF m 36 #[vR a, vR ku, vI 0, .unset] [(.int 0), (.int 2), (.ref hc)]) ?_ (fun t_ k_ => XS.iloadN X13.here hx rfl (hb hby d28_35) rfl k_)
    refine Go T13 (mkF m 37 #[vR a, vR ku, vI 0, .unset] [(.int 0), (.ref hc)]) ?_ (fun t_ k_ => XS.imul X13.here hx rfl (hb hby d28_36) rfl k_)
    refine Go T13 (mkF m 38 #[vR a, vR ku, vI 0, .unset] [(.int 1), (.int 0), (.ref hc)]) ?_ (fun t_ k_ => XS.iconst X13.here hx rfl (hb hby d28_37) k_)
    refine Go T13 (mkF m 39 #[vR a, vR ku, vI 0, .unset] [(.int 1), (.ref hc)]) ?_ (fun t_ k_ => XS.iadd X13.here hx rfl (hb hby d28_38) rfl k_)
    refine Go T13 (mkF m 40 #[vR a, vR ku, vI 0, .unset] [(.int (mc - (1 : Int32)))]) ?_ (X13.iaload hx (j := (1 : Int32)) (v := (.int (mc - (1 : Int32)))) (by rw [e13]; exact AH2.1) (State.isArrayOf_alike hZ.alike AH2.2.1) AH2.2.2 (inb_of SH2 ⟨by decide, by decide⟩) (by have q := HH2 1 (by rw [SH2]; decide); exact q) (g := (mkF m 39 #[vR a, vR ku, vI 0, .unset] [(.int 1), (.ref hc)])) rfl rfl (hb hby d28_39))
    refine Go T13 (mkF m 47 #[vR a, vR ku, vI 0, .unset] []) ?_ (fun t_ k_ => XS.ifYes X13.here hx rfl (pc0 := 40) (pc' := 47) rfl (hb hby d28_40) rfl ((if0 _ _).trans (feq hm1).2) (by decide) (by decide) k_)
    refine Go T13 (mkF m 48 #[vR a, vR ku, vI 0, .unset] [(.int 0)]) ?_ (fun t_ k_ => XS.iconst X13.here hx rfl (hb hby d28_47) k_)
    refine Go T13 (mkF m 49 #[vR a, vR ku, vI 0, vI 0] []) ?_ (fun t_ k_ => XS.istoreN X13.here hx rfl (hb hby d28_48) rfl (l' := #[vR a, vR ku, vI 0, vI 0]) rfl k_)
    refine Go T13 (mkF m 50 #[vR a, vR ku, vI 0, vI 0] [(.int 0)]) ?_ (fun t_ k_ => XS.iloadN X13.here hx rfl (hb hby d28_49) rfl k_)
    refine Go T13 (mkF m 68 #[vR a, vR ku, vI 0, vI 0] []) ?_ (fun t_ k_ => XS.ifYes X13.here hx rfl (pc0 := 50) (pc' := 68) rfl (hb hby d28_50) rfl (by decide) (by decide) (by decide) k_)
    refine Go T13 (mkF m 69 #[vR a, vR ku, vI 0, vI 0] [(.int 0)]) ?_ (fun t_ k_ => XS.iloadN X13.here hx rfl (hb hby d28_68) rfl k_)
    rw [hWd]
    exact Goes.retn X13 (v := some (.int (nar .boolean (0 : Int32)))) (fun fs hr => retN X13 hx (t := .boolean) Bd.returns (by simp) (hb hby d28_69) hr) (fun h => by rw [Bd.returns] at h; cases h) Bd.notSynchronized (by decide) (by decide) (by rw [e13]; exact ⟨rfl, N5, kp12, ky5, TN⟩)
  · rw [hbm]
    have ahc : a ≠ hc := Exa.neArv tl1.E tl1.VH (wq hw 151 rfl)
    have aks : a ≠ ks := Exa.neArv tl1.E tl1.VK (wq hw 151 rfl)
    have VHb : Arv Z T1.heap hc kh .int 4 [.int 0, .int 0, .int (own_sh ct ci cr), .int mc] (.int 0) := by have q := tl1.VH; rw [hbm, own_hs1] at q; exact q
    obtain ⟨cH, AH, qH, SH_, MH, HH, GH⟩ := id VHb
    refine Go T3 (mkF m 10 #[vR a, vR ku, vI 1, .unset] []) ?_ (fun t_ k_ => XS.istoreN X3.here hx rfl (hb hby d28_9) rfl (l' := #[vR a, vR ku, vI 1, .unset]) rfl k_)
    refine Go T3 (mkF m 11 #[vR a, vR ku, vI 1, .unset] [(.int 1)]) ?_ (fun t_ k_ => XS.iloadN X3.here hx rfl (hb hby d28_10) rfl k_)
    refine Go T3 (mkF m 16 #[vR a, vR ku, vI 1, .unset] []) ?_ (fun t_ k_ => XS.ifYes X3.here hx rfl (pc0 := 11) (pc' := 16) rfl (hb hby d28_11) rfl (by decide) (by decide) (by decide) k_)
    refine Go T3 (mkF m 17 #[vR a, vR ku, vI 1, .unset] [(.ref a)]) ?_ (fun t_ k_ => XS.aloadN X3.here hx rfl (hb hby d28_16) rfl rfl k_)
    obtain ⟨T14, X14, e14, st14⟩ := getF X3 hx hZ hown (host := "") (Or.inl (wq hw 157 rfl)) Via.refl eh3 tl1.FH (g := (mkF m 17 #[vR a, vR ku, vI 1, .unset] [(.ref a)])) rfl rfl (hb hby d28_17)
    refine Go T14 (mkF m 20 #[vR a, vR ku, vI 1, .unset] [(.ref hc)]) ?_ st14
    refine Go T14 (mkF m 21 #[vR a, vR ku, vI 1, .unset] [(.int 2), (.ref hc)]) ?_ (fun t_ k_ => XS.iconst X14.here hx rfl (hb hby d28_20) k_)
    refine Go T14 (mkF m 22 #[vR a, vR ku, vI 1, .unset] [(.int 1), (.int 2), (.ref hc)]) ?_ (fun t_ k_ => XS.iloadN X14.here hx rfl (hb hby d28_21) rfl k_)
    refine Go T14 (mkF m 23 #[vR a, vR ku, vI 1, .unset] [(.int 2), (.ref hc)]) ?_ (fun t_ k_ => XS.imul X14.here hx rfl (hb hby d28_22) rfl k_)
    refine Go T14 (mkF m 24 #[vR a, vR ku, vI 1, .unset] [(.int 1), (.int 2), (.ref hc)]) ?_ (fun t_ k_ => XS.iconst X14.here hx rfl (hb hby d28_23) k_)
    refine Go T14 (mkF m 25 #[vR a, vR ku, vI 1, .unset] [(.int 3), (.ref hc)]) ?_ (fun t_ k_ => XS.iadd X14.here hx rfl (hb hby d28_24) rfl k_)
    refine Go T14 (mkF m 26 #[vR a, vR ku, vI 1, .unset] [(.int 3), (.ref hc), (.int 3), (.ref hc)]) ?_ (fun t_ k_ => Jvm.Free.XT.dup2 X14.here hx rfl (hb hby d28_25) rfl rfl rfl k_)
    refine Go T14 (mkF m 27 #[vR a, vR ku, vI 1, .unset] [(.int mc), (.int 3), (.ref hc)]) ?_ (X14.iaload hx (j := (3 : Int32)) (v := (.int mc)) (by rw [e14]; exact AH.1) (State.isArrayOf_alike hZ.alike AH.2.1) AH.2.2 (inb_of SH_ ⟨by decide, by decide⟩) (by have q := HH 3 (by rw [SH_]; decide); exact q) (g := (mkF m 26 #[vR a, vR ku, vI 1, .unset] [(.int 3), (.ref hc), (.int 3), (.ref hc)])) rfl rfl (hb hby d28_26))
    refine Go T14 (mkF m 28 #[vR a, vR ku, vI 1, .unset] [(.int 1), (.int mc), (.int 3), (.ref hc)]) ?_ (fun t_ k_ => XS.iconst X14.here hx rfl (hb hby d28_27) k_)
    refine Go T14 (mkF m 29 #[vR a, vR ku, vI 1, .unset] [(.int (mc - (1 : Int32))), (.int 3), (.ref hc)]) ?_ (fun t_ k_ => XS.isub X14.here hx rfl (hb hby d28_28) rfl k_)
    obtain ⟨T15, h15, X15, e15, W15, st15⟩ := stI X14 hx hZ e14 AH (j := (3 : Int32)) (inb_of SH_ ⟨by decide, by decide⟩) (g := (mkF m 29 #[vR a, vR ku, vI 1, .unset] [(.int (mc - (1 : Int32))), (.int 3), (.ref hc)])) rfl rfl (hb hby d28_29)
    have N15 := Fr.snoc X15 N3 (Nat.le_trans gB tl1.bh)
    have Z15 : n0 ≤ h15.size := Nat.le_trans Zc1 (Nat.le_of_eq W15.size.symm)
    refine Go T15 (mkF m 30 #[vR a, vR ku, vI 1, .unset] []) ?_ st15
    have fx16 := tl1.FH.other W15 (Or.inl ahc)
    have fx17 := tl1.FK.other W15 (Or.inl ahc)
    have fx18 := tl1.FS.other W15 (Or.inl ahc)
    have fx19 := tl1.FZ.other W15 (Or.inl ahc)
    have fx20 := tl1.E.wr W15
    have fx21 := tl1.VK.other W15 (Ne.symm tl1.hne)
    have kp22 := kp2.wr W15 (Or.inl (by simp))
    have V15 : Arv Z h15 hc kh .int 4 [.int 0, .int 0, .int (own_sh ct ci cr), .int (mc - (1 : Int32))] (.int 0) := Arv.set AH qH SH_ MH HH GH rfl W15 3 rfl (Nat.le_of_ble_eq_true rfl)
    have ky15 := ky1.keep KC ((Keep.refl _ [hc]).wr W15 (Or.inl (List.mem_cons_self ..))) (own_sfC (P := fun z => B ≤ z) tl1.bh (fun y hy => absurd hy List.not_mem_nil))
    have TN : Tly Z h15 B a hc ks kh kk ku (own_sh ct ci cr) (mc - (1 : Int32)) := ⟨fx20, fx16, fx17, fx18, fx19, (by rw [hbm, own_hs1]; exact V15), fx21, tl1.OV, tl1.hne, tl1.ba, tl1.bh, tl1.bk⟩
    obtain ⟨cH2, AH2, qH2, SH2, MH2, HH2, GH2⟩ := id V15
    refine Go T15 (mkF m 31 #[vR a, vR ku, vI 1, .unset] [(.ref a)]) ?_ (fun t_ k_ => XS.aloadN X15.here hx rfl (hb hby d28_30) rfl rfl k_)
    obtain ⟨T23, X23, e23, st23⟩ := getF X15 hx hZ hown (host := "") (Or.inl (wq hw 157 rfl)) Via.refl e15 fx16 (g := (mkF m 31 #[vR a, vR ku, vI 1, .unset] [(.ref a)])) rfl rfl (hb hby d28_31)
    refine Go T23 (mkF m 34 #[vR a, vR ku, vI 1, .unset] [(.ref hc)]) ?_ st23
    refine Go T23 (mkF m 35 #[vR a, vR ku, vI 1, .unset] [(.int 2), (.ref hc)]) ?_ (fun t_ k_ => XS.iconst X23.here hx rfl (hb hby d28_34) k_)
    refine Go T23 (mkF m 36 #[vR a, vR ku, vI 1, .unset] [(.int 1), (.int 2), (.ref hc)]) ?_ (fun t_ k_ => XS.iloadN X23.here hx rfl (hb hby d28_35) rfl k_)
    refine Go T23 (mkF m 37 #[vR a, vR ku, vI 1, .unset] [(.int 2), (.ref hc)]) ?_ (fun t_ k_ => XS.imul X23.here hx rfl (hb hby d28_36) rfl k_)
    refine Go T23 (mkF m 38 #[vR a, vR ku, vI 1, .unset] [(.int 1), (.int 2), (.ref hc)]) ?_ (fun t_ k_ => XS.iconst X23.here hx rfl (hb hby d28_37) k_)
    refine Go T23 (mkF m 39 #[vR a, vR ku, vI 1, .unset] [(.int 3), (.ref hc)]) ?_ (fun t_ k_ => XS.iadd X23.here hx rfl (hb hby d28_38) rfl k_)
    refine Go T23 (mkF m 40 #[vR a, vR ku, vI 1, .unset] [(.int (mc - (1 : Int32)))]) ?_ (X23.iaload hx (j := (3 : Int32)) (v := (.int (mc - (1 : Int32)))) (by rw [e23]; exact AH2.1) (State.isArrayOf_alike hZ.alike AH2.2.1) AH2.2.2 (inb_of SH2 ⟨by decide, by decide⟩) (by have q := HH2 3 (by rw [SH2]; decide); exact q) (g := (mkF m 39 #[vR a, vR ku, vI 1, .unset] [(.int 3), (.ref hc)])) rfl rfl (hb hby d28_39))
    refine Go T23 (mkF m 47 #[vR a, vR ku, vI 1, .unset] []) ?_ (fun t_ k_ => XS.ifYes X23.here hx rfl (pc0 := 40) (pc' := 47) rfl (hb hby d28_40) rfl ((if0 _ _).trans (feq hm1).2) (by decide) (by decide) k_)
    refine Go T23 (mkF m 48 #[vR a, vR ku, vI 1, .unset] [(.int 0)]) ?_ (fun t_ k_ => XS.iconst X23.here hx rfl (hb hby d28_47) k_)
    refine Go T23 (mkF m 49 #[vR a, vR ku, vI 1, vI 0] []) ?_ (fun t_ k_ => XS.istoreN X23.here hx rfl (hb hby d28_48) rfl (l' := #[vR a, vR ku, vI 1, vI 0]) rfl k_)
    refine Go T23 (mkF m 50 #[vR a, vR ku, vI 1, vI 0] [(.int 0)]) ?_ (fun t_ k_ => XS.iloadN X23.here hx rfl (hb hby d28_49) rfl k_)
    refine Go T23 (mkF m 68 #[vR a, vR ku, vI 1, vI 0] []) ?_ (fun t_ k_ => XS.ifYes X23.here hx rfl (pc0 := 50) (pc' := 68) rfl (hb hby d28_50) rfl (by decide) (by decide) (by decide) k_)
    refine Go T23 (mkF m 69 #[vR a, vR ku, vI 1, vI 0] [(.int 0)]) ?_ (fun t_ k_ => XS.iloadN X23.here hx rfl (hb hby d28_68) rfl k_)
    rw [hWd]
    exact Goes.retn X23 (v := some (.int (nar .boolean (0 : Int32)))) (fun fs hr => retN X23 hx (t := .boolean) Bd.returns (by simp) (hb hby d28_69) hr) (fun h => by rw [Bd.returns] at h; cases h) Bd.notSynchronized (by decide) (by decide) (by rw [e23]; exact ⟨rfl, N15, kp22, ky15, TN⟩)
def QAO0 (Z : State) (B : Nat) (t tt i ti r tr ku ko : Addr) (kt ki kr : ClassId) (ct ci cr w2 : Int32) (zc : Int32) (a hc ks : Addr) (kh kk : ClassId) (h0 : Heap) (n0 : Nat) (v : Option Value) (h : Heap) (L : List Loc) : Prop := v = none ∧ Fr n0 L ∧ Keep h0 h [t, i, r, a, hc, ks] ∧ KA Z h t tt i ti r tr ku ko kt ki kr ct ci cr w2 ∧ Tly Z h B a hc ks kh kk ko w2 (1 : Int32)
set_option maxRecDepth 65536 in
set_option maxHeartbeats 40000000 in
theorem rmAO0 (l : Launch) (Z : State) (a0 : Array Value) (hw : ∀ d ∈ tables_1, d.before a0 Z = true) (ws : List Jvm.Cond) (B : Nat) (t tt i ti r tr ku ko : Addr) (kt ki kr : ClassId) (ct ci cr w2 : Int32) (zc : Int32) (a hc ks : Addr) (kh kk : ClassId) (h0 : Heap) (n0 : Nat) (Z0 : n0 ≤ h0.size) (KY : KA Z h0 t tt i ti r tr ku ko kt ki kr ct ci cr w2) (KC : KD n0 B t tt i ti r tr ku ko ct ci cr) (gB : n0 ≤ B) (bB : B ≤ h0.size) (CS : Sta Z Z.heap "java/lang/String" "COMPACT_STRINGS" "Z" (.int zc)) (hzc : ¬ zc = (0 : Int32)) (X0_ : Old Z n0 h0) (TL : TlyE Z h0 B a hc ks kh kk) :
    MetFree l mN24 (head1 (Jvm.Cond.code mN24 cD21 4 none :: ws) ({ frames := 2, cells := 0, slots := 0, locals := 36 } : Room)) (fun a_ U => a_ = #[(.ref a), (.ref ko)] ∧ Z.Warmed39 U.vm ∧ U.heap = h0) (fun _ _ _ _ _ => True) (fun _ U o U' => ∃ v L, o = .returned v ∧ QAO0 Z B t tt i ti r tr ku ko kt ki kr ct ci cr w2 zc a hc ks kh kk h0 n0 v U'.heap L ∧ FrameEnd U o U' L ({ frames := 2, cells := 0, slots := 0, locals := 36 } : Room).cells ({ frames := 2, cells := 0, slots := 0, locals := 36 } : Room).slots) := by
  refine MetFree.of_bodySF (plainFor_of_name pn_5) hisR ?_
  intro p e s m args below meth c s₁ Bd hml0 hP hK
  obtain ⟨rfl, hZ, hh⟩ := hP
  have hx := Bd.exec
  have hby := Bd.bytes
  have hml : c.maxLocals = 4 := hml0
  have hown : s.vm.findClass "com/example/entitlement/entitlement/Tally" = some m.cls := findClass_of_methodNamed Bd.named
  have hnm := (name_of_methodNamed Bd.named Bd.method).1
  have X0 : Stand p l e ({ frames := 2, cells := 0, slots := 0, locals := 36 } : Room) s m #[(.ref a), (.ref ko)] below meth c s₁ [] 0 0 := Stand.of_body Bd
  have e0 : s₁.heap = h0 := by rw [← hh, Bd.state]; rfl
  have N0 := Fr.nil n0
  refine Goes.done ?_
  obtain ⟨W, hWd⟩ : ∃ W : State → Prop, W = EndW s below (QAO0 Z B t tt i ti r tr ku ko kt ki kr ct ci cr w2 zc a hc ks kh kk h0 n0) ({ frames := 2, cells := 0, slots := 0, locals := 36 } : Room).cells ({ frames := 2, cells := 0, slots := 0, locals := 36 } : Room).slots := ⟨_, rfl⟩
  rw [← hWd]
  have hef : entryFrame m #[(.ref a), (.ref ko)] 4 = (mkF m 0 #[vR a, vR ko, .unset, .unset] []) := by first | (simp [entryFrame, mkF, argsToLocals, Value.category]; done) | rfl
  rw [hef]
  refine Go s₁ (mkF m 1 #[vR a, vR ko, .unset, .unset] [(.ref ko)]) ?_ (fun t_ k_ => XS.aloadN X0.here hx rfl (hb hby d24_0) rfl rfl k_)
  obtain ⟨cq1, kq1, q1a, q1b, q1c⟩ := isOf hZ e0 KY.o0
  obtain ⟨_, _, ⟨T1, Lq_1, kq_1, nq_1⟩, -, X1, ⟨Lc1, hQ1, l1, y1, z1⟩, st1⟩ := X0.virtualBack hx (y := mN20) (z := mN23) hown (mvT hZ (wq hw 169 rfl)) (mvT hZ (wq hw 170 rfl)) (own_nfO hZ (wq hw 138 rfl) rfl) (mvT hZ (wq hw 202 rfl)) (mvT hZ (wq hw 203 rfl)) (by decide) (backOf (W := 0) (rmHO l Z a0 hw [] B t tt i ti r tr ku ko kt ki kr ct ci cr w2 zc h0 n0 Z0 KY KC gB bB CS hzc X0_) hZ (wq hw 204 rfl) (wq hw 67 rfl) (by decide) (by decide)) q1a q1c (g := (mkF m 1 #[vR a, vR ko, .unset, .unset] [(.ref ko)])) rfl (by rw [hml]; rfl) (Steps.refl _) (argsL := []) (rest := []) (lenOf pd_9 rfl) rfl (by show 2 * 0 + _ ≤ _; exact Nat.le_of_eq rfl) (hb hby d24_1) (fun _ _ => ⟨rfl, e0, (by decide : 0 + 0 ≤ _), (by decide : 0 + 0 ≤ _)⟩)
  dsimp only [Pt.U, Pt.locs, Pt.cells, Pt.slots] at X1 l1 y1 z1 st1 hQ1
  rw [l1, y1, z1] at X1
  change Stand p l e _ _ m _ below meth c T1 _ 0 0 at X1
  obtain ⟨rfl, N1q, K1, ky1⟩ := hQ1
  have N1 := Fr.app N0 N1q
  refine Go T1 (mkF m 4 #[vR a, vR ko, .unset, .unset] [(.int w2)]) ?_ (fun t => st1.trans)
  have Zc1 : n0 ≤ T1.heap.size := Nat.le_trans Z0 K1.1
  have xo1 : Old Z n0 T1.heap := X0_.keep K1 KC.ge
  have kp2 := (Keep.refl h0 [t, i, r, a, hc, ks]).trans K1 (allS (Or.inl (by simp)) (allS (Or.inl (by simp)) (allS (Or.inl (by simp)) all0)))
  have bb1 : B ≤ T1.heap.size := Nat.le_trans bB K1.1
  have tl1 := TL.keep K1 (own_nhi TL.ba KC.lt) (own_nhi TL.bh KC.lt) (own_nhi TL.bk KC.lt)
  refine Go T1 (mkF m 5 #[vR a, vR ko, vI w2, .unset] []) ?_ (fun t_ k_ => XS.istoreN X1.here hx rfl (hb hby d24_4) rfl (l' := #[vR a, vR ko, vI w2, .unset]) rfl k_)
  refine Go T1 (mkF m 6 #[vR a, vR ko, vI w2, .unset] [(.ref a)]) ?_ (fun t_ k_ => XS.aloadN X1.here hx rfl (hb hby d24_5) rfl rfl k_)
  refine Go T1 (mkF m 7 #[vR a, vR ko, vI w2, .unset] [(.ref ko), (.ref a)]) ?_ (fun t_ k_ => XS.aloadN X1.here hx rfl (hb hby d24_6) rfl rfl k_)
  refine Go T1 (mkF m 8 #[vR a, vR ko, vI w2, .unset] [(.int w2), (.ref ko), (.ref a)]) ?_ (fun t_ k_ => XS.iloadN X1.here hx rfl (hb hby d24_7) rfl k_)
  obtain ⟨cq3, q3, q3'⟩ := tl1.E.cell
  obtain ⟨_, _, ⟨T3, Lq_3, kq_3, nq_3⟩, -, X3, ⟨Lc3, hQ3, l3, y3, z3⟩, st3⟩ := X1.privateBack hx (y := mN15) hown (mvT hZ (wq hw 173 rfl)) (mvT hZ (wq hw 174 rfl)) (mvT hZ (own_selP (y := mN15) (wq hw 151 rfl) (wq hw 175 rfl) (wq hw 174 rfl) (by decide))) (Cond.privateMethod_at (mvP hZ (wq hw 175 rfl) (args := #[]))) (mvT hZ (wq hw 176 rfl)) (by decide) (backOf (W := 0) (rmF0 l Z a0 hw [] B a hc ks kh kk ko w2 T1.heap n0 Zc1 tl1) hZ (wq hw 176 rfl) (wq hw 152 rfl) (by decide) (by decide)) (g := (mkF m 8 #[vR a, vR ko, vI w2, .unset] [(.int w2), (.ref ko), (.ref a)])) rfl (by rw [hml]; rfl) (Steps.refl _) (a := a) q3 q3' (argsL := [(.ref ko), (.int w2)]) (rest := []) (lenOf pd_13 rfl) rfl (by show 2 * 0 + _ ≤ _; exact Nat.le_of_eq rfl) (hb hby d24_8) (fun _ _ => ⟨rfl, rfl, (by decide : 0 + 0 ≤ _), (by decide : 0 + 0 ≤ _)⟩)
  dsimp only [Pt.U, Pt.locs, Pt.cells, Pt.slots] at X3 l3 y3 z3 st3 hQ3
  rw [l3, y3, z3] at X3
  change Stand p l e _ _ m _ below meth c T3 _ 0 0 at X3
  obtain ⟨rfl, N3q, eh3⟩ := hQ3
  have N3 := Fr.app N1 N3q
  refine Go T3 (mkF m 11 #[vR a, vR ko, vI w2, .unset] [(.int ((-1 : Int32) - own_home w2))]) ?_ (fun t => st3.trans)
  rcases own_home_b w2 with hbm | hbm
  · rw [hbm]
    have ahc : a ≠ hc := Exa.neArv tl1.E tl1.VH (wq hw 151 rfl)
    have aks : a ≠ ks := Exa.neArv tl1.E tl1.VK (wq hw 151 rfl)
    rw [show ((-1 : Int32) - (0 : Int32)) = (-1 : Int32) from by decide]
    refine Go T3 (mkF m 12 #[vR a, vR ko, vI w2, vI (-1)] []) ?_ (fun t_ k_ => XS.istoreN X3.here hx rfl (hb hby d24_11) rfl (l' := #[vR a, vR ko, vI w2, vI (-1)]) rfl k_)
    refine Go T3 (mkF m 13 #[vR a, vR ko, vI w2, vI (-1)] [(.int (-1))]) ?_ (fun t_ k_ => XS.iloadN X3.here hx rfl (hb hby d24_12) rfl k_)
    refine Go T3 (mkF m 31 #[vR a, vR ko, vI w2, vI (-1)] []) ?_ (fun t_ k_ => XS.ifYes X3.here hx rfl (pc0 := 13) (pc' := 31) rfl (hb hby d24_13) rfl (by decide) (by decide) (by decide) k_)
    refine Go T3 (mkF m 32 #[vR a, vR ko, vI w2, vI (-1)] [(.int 2)]) ?_ (fun t_ k_ => XS.iconst X3.here hx rfl (hb hby d24_31) k_)
    refine Go T3 (mkF m 33 #[vR a, vR ko, vI w2, vI (-1)] [(.ref a), (.int 2)]) ?_ (fun t_ k_ => XS.aloadN X3.here hx rfl (hb hby d24_32) rfl rfl k_)
    obtain ⟨T4, X4, e4, st4⟩ := getF X3 hx hZ hown (host := "") (Or.inl (wq hw 182 rfl)) Via.refl eh3 tl1.FZ (g := (mkF m 33 #[vR a, vR ko, vI w2, vI (-1)] [(.ref a), (.int 2)])) rfl rfl (hb hby d24_33)
    refine Go T4 (mkF m 36 #[vR a, vR ko, vI w2, vI (-1)] [(.int 0), (.int 2)]) ?_ st4
    refine Go T4 (mkF m 37 #[vR a, vR ko, vI w2, vI (-1)] [(.int 1), (.int 0), (.int 2)]) ?_ (fun t_ k_ => XS.iconst X4.here hx rfl (hb hby d24_36) k_)
    refine Go T4 (mkF m 38 #[vR a, vR ko, vI w2, vI (-1)] [(.int 1), (.int 2)]) ?_ (fun t_ k_ => XS.iadd X4.here hx rfl (hb hby d24_37) rfl k_)
    refine Go T4 (mkF m 39 #[vR a, vR ko, vI w2, vI (-1)] [(.int 2)]) ?_ (fun t_ k_ => XS.imul X4.here hx rfl (hb hby d24_38) rfl k_)
    refine Go T4 (mkF m 40 #[vR a, vR ko, vI w2, vI (-1)] [(.ref a), (.int 2)]) ?_ (fun t_ k_ => XS.aloadN X4.here hx rfl (hb hby d24_39) rfl rfl k_)
    obtain ⟨T5, X5, e5, st5⟩ := getF X4 hx hZ hown (host := "") (Or.inl (wq hw 160 rfl)) Via.refl e4 tl1.FK (g := (mkF m 40 #[vR a, vR ko, vI w2, vI (-1)] [(.ref a), (.int 2)])) rfl rfl (hb hby d24_40)
    refine Go T5 (mkF m 43 #[vR a, vR ko, vI w2, vI (-1)] [(.ref ks), (.int 2)]) ?_ st5
    obtain ⟨cK, AK, -, SK, MK, HK, -⟩ := id tl1.VK
    refine Go T5 (mkF m 44 #[vR a, vR ko, vI w2, vI (-1)] [(.int cK.slots.size.toInt32), (.int 2)]) ?_ (X5.arraylength hx (by rw [e5]; exact AK.1) (State.isArrayOf_alike hZ.alike AK.2.1) (g := (mkF m 43 #[vR a, vR ko, vI w2, vI (-1)] [(.ref ks), (.int 2)])) rfl rfl (hb hby d24_43))
    rw [len_of SK MK]
    refine Go T5 (mkF m 58 #[vR a, vR ko, vI w2, vI (-1)] []) ?_ (fun t_ k_ => XS.icmpYes X5.here hx rfl (pc0 := 44) (pc' := 58) rfl (hb hby d24_44) rfl (by decide) (by decide) (by decide) k_)
    refine Go T5 (mkF m 59 #[vR a, vR ko, vI w2, vI (-1)] [(.ref a)]) ?_ (fun t_ k_ => XS.aloadN X5.here hx rfl (hb hby d24_58) rfl rfl k_)
    refine Go T5 (mkF m 60 #[vR a, vR ko, vI w2, vI (-1)] [(.int (-1)), (.ref a)]) ?_ (fun t_ k_ => XS.iconst X5.here hx rfl (hb hby d24_59) k_)
    refine Go T5 (mkF m 61 #[vR a, vR ko, vI w2, vI (-1)] [(.int (-1)), (.int (-1)), (.ref a)]) ?_ (fun t_ k_ => XS.iloadN X5.here hx rfl (hb hby d24_60) rfl k_)
    refine Go T5 (mkF m 62 #[vR a, vR ko, vI w2, vI (-1)] [(.int ((-1 : Int32) - (-1 : Int32))), (.ref a)]) ?_ (fun t_ k_ => XS.isub X5.here hx rfl (hb hby d24_61) rfl k_)
    rw [show ((-1 : Int32) - (-1 : Int32)) = (0 : Int32) from by decide]
    refine Go T5 (mkF m 63 #[vR a, vR ko, vI w2, vI (-1)] [(.int w2), (.int 0), (.ref a)]) ?_ (fun t_ k_ => XS.iloadN X5.here hx rfl (hb hby d24_62) rfl k_)
    refine Go T5 (mkF m 64 #[vR a, vR ko, vI w2, vI (-1)] [(.ref ko), (.int w2), (.int 0), (.ref a)]) ?_ (fun t_ k_ => XS.aloadN X5.here hx rfl (hb hby d24_63) rfl rfl k_)
    refine Go T5 (mkF m 65 #[vR a, vR ko, vI w2, vI (-1)] [(.int 1), (.ref ko), (.int w2), (.int 0), (.ref a)]) ?_ (fun t_ k_ => XS.iconst X5.here hx rfl (hb hby d24_64) k_)
    have VHp : Arv Z T1.heap hc kh .int 4 [.int 0, .int 0, .int 0, .int 0] (.int 0) := tl1.VH.pad (pad_rep [] (.int 0) 4)
    have VKp : Arv Z T1.heap ks kk (.object "java/lang/Object") (2 : Int32) [.null, .null] .null := tl1.VK.pad (pad_rep [] .null 2)
    obtain ⟨cq6, q6, q6'⟩ := tl1.E.cell
    obtain ⟨_, _, ⟨T6, Lq_6, kq_6, nq_6⟩, -, X6, ⟨Lc6, hQ6, l6, y6, z6⟩, st6⟩ := X5.privateBack hx (y := mN16) hown (mvT hZ (wq hw 184 rfl)) (mvT hZ (wq hw 185 rfl)) (mvT hZ (own_selP (y := mN16) (wq hw 151 rfl) (wq hw 186 rfl) (wq hw 185 rfl) (by decide))) (Cond.privateMethod_at (mvP hZ (wq hw 186 rfl) (args := #[]))) (mvT hZ (wq hw 187 rfl)) (by decide) (backOf (W := 0) (rmP0r l Z a0 hw [] a hc ks kh kk 0 0 0 0 .null .null ko w2 T1.heap n0 Zc1 tl1.E tl1.FH tl1.FK VHp VKp tl1.hne (Nat.le_trans gB tl1.bh) (Nat.le_trans gB tl1.bk) tl1.OV (Ins.of_exa ky1.o0 (wq hw 99 rfl))) hZ (wq hw 187 rfl) (wq hw 152 rfl) (by decide) (by decide)) (g := (mkF m 65 #[vR a, vR ko, vI w2, vI (-1)] [(.int 1), (.ref ko), (.int w2), (.int 0), (.ref a)])) rfl (by rw [hml]; rfl) (Steps.refl _) (a := a) (by rw [e5]; exact q6) q6' (argsL := [(.int 0), (.int w2), (.ref ko), (.int 1)]) (rest := []) (lenOf pd_11 rfl) rfl (by show 2 * 0 + _ ≤ _; exact Nat.le_of_eq rfl) (hb hby d24_65) (fun _ _ => ⟨rfl, e5, (by decide : 0 + 0 ≤ _), (by decide : 0 + 0 ≤ _)⟩)
    dsimp only [Pt.U, Pt.locs, Pt.cells, Pt.slots] at X6 l6 y6 z6 st6 hQ6
    rw [l6, y6, z6] at X6
    change Stand p l e _ _ m _ below meth c T6 _ 0 0 at X6
    obtain ⟨rfl, N6q, K6, VHn, VKn⟩ := hQ6
    have N6 := Fr.app N3 N6q
    refine Go T6 (mkF m 68 #[vR a, vR ko, vI w2, vI (-1)] []) ?_ (fun t => st6.trans)
    have Zp : n0 ≤ T6.heap.size := Nat.le_trans Zc1 K6.1
    have ky6 := ky1.keep KC K6 (own_sfC (P := fun z => B ≤ z) tl1.bh (own_sfC (P := fun z => B ≤ z) tl1.bk (fun y hy => absurd hy List.not_mem_nil)))
    have fx7 := tl1.FH.keep K6 (ninS ahc (ninS aks nin0))
    have fx8 := tl1.FK.keep K6 (ninS ahc (ninS aks nin0))
    have fx9 := tl1.FS.keep K6 (ninS ahc (ninS aks nin0))
    have fx10 := tl1.FZ.keep K6 (ninS ahc (ninS aks nin0))
    have fx11 := tl1.E.keep K6
    have kp12 := kp2.trans K6 (allS (Or.inl (by simp)) (allS (Or.inl (by simp)) all0))
    refine Go T6 (mkF m 69 #[vR a, vR ko, vI w2, vI (-1)] [(.ref a)]) ?_ (fun t_ k_ => XS.aloadN X6.here hx rfl (hb hby d24_68) rfl rfl k_)
    refine Go T6 (mkF m 70 #[vR a, vR ko, vI w2, vI (-1)] [(.ref a), (.ref a)]) ?_ (fun t_ k_ => XS.dup X6.here hx rfl (hb hby d24_69) rfl rfl k_)
    obtain ⟨T13, X13, e13, st13⟩ := getF X6 hx hZ hown (host := "") (Or.inl (wq hw 182 rfl)) Via.refl rfl fx10 (g := (mkF m 70 #[vR a, vR ko, vI w2, vI (-1)] [(.ref a), (.ref a)])) rfl rfl (hb hby d24_70)
    refine Go T13 (mkF m 73 #[vR a, vR ko, vI w2, vI (-1)] [(.int 0), (.ref a)]) ?_ st13
    refine Go T13 (mkF m 74 #[vR a, vR ko, vI w2, vI (-1)] [(.int 1), (.int 0), (.ref a)]) ?_ (fun t_ k_ => XS.iconst X13.here hx rfl (hb hby d24_73) k_)
    refine Go T13 (mkF m 75 #[vR a, vR ko, vI w2, vI (-1)] [(.int 1), (.ref a)]) ?_ (fun t_ k_ => XS.iadd X13.here hx rfl (hb hby d24_74) rfl k_)
    obtain ⟨T14, h14, X14, e14, W14, st14⟩ := putF X13 hx hZ hown (host := "") (Or.inl (wq hw 182 rfl)) Via.refl e13 fx10 fx11 (Or.inl (wq hw 183 rfl)) (wq hw 151 rfl) (ty := .int) (by decide) rfl rfl (g := (mkF m 75 #[vR a, vR ko, vI w2, vI (-1)] [(.int 1), (.ref a)])) rfl rfl (hb hby d24_75)
    have N14 := Fr.snoc X14 N6 (Nat.le_trans gB tl1.ba)
    have Z14 : n0 ≤ h14.size := Nat.le_trans Zp (Nat.le_of_eq W14.size.symm)
    refine Go T14 (mkF m 78 #[vR a, vR ko, vI w2, vI (-1)] []) ?_ st14
    have fx15 := fx7.other W14 (Or.inr (slot_ne (Or.inl (wq hw 158 rfl)) (Or.inl (wq hw 183 rfl)) (by decide) (t := (.array .int)) (t' := .int) (by decide) (by decide)))
    have fx16 := fx8.other W14 (Or.inr (slot_ne (Or.inl (wq hw 161 rfl)) (Or.inl (wq hw 183 rfl)) (by decide) (t := (.array (.object "java/lang/Object"))) (t' := .int) (by decide) (by decide)))
    have fx17 := fx9.other W14 (Or.inr (slot_ne (Or.inl (wq hw 163 rfl)) (Or.inl (wq hw 183 rfl)) (by decide) (t := .int) (t' := .int) (by decide) (by decide)))
    have fx18 := fx10.same W14
    have fx19 := fx11.wr W14
    have fx20 := VKn.other W14 (Ne.symm aks)
    have fx21 := VHn.other W14 (Ne.symm ahc)
    have kp22 := kp12.wr W14 (Or.inl (by simp))
    have ky14 := ky6.keep KC ((Keep.refl _ [a]).wr W14 (Or.inl (List.mem_cons_self ..))) (own_sfC (P := fun z => B ≤ z) tl1.ba (fun y hy => absurd hy List.not_mem_nil))
    have TN : Tly Z h14 B a hc ks kh kk ko w2 (1 : Int32) := ⟨fx19, fx15, fx16, fx17, fx18, (by rw [hbm, own_hs0]; exact fx21), (by rw [hbm, own_ks0]; exact fx20), tl1.OV, tl1.hne, tl1.ba, tl1.bh, tl1.bk⟩
    rw [hWd]
    exact Goes.retn X14 (v := none) (fun fs hr => X14.returnOut hx Bd.returns (hb hby d24_78) hr) (fun _ => rfl) Bd.notSynchronized (by decide) (by decide) (by rw [e14]; exact ⟨rfl, N14, kp22, ky14, TN⟩)
  · rw [hbm]
    have ahc : a ≠ hc := Exa.neArv tl1.E tl1.VH (wq hw 151 rfl)
    have aks : a ≠ ks := Exa.neArv tl1.E tl1.VK (wq hw 151 rfl)
    rw [show ((-1 : Int32) - (1 : Int32)) = (-2 : Int32) from by decide]
    refine Go T3 (mkF m 12 #[vR a, vR ko, vI w2, vI (-2)] []) ?_ (fun t_ k_ => XS.istoreN X3.here hx rfl (hb hby d24_11) rfl (l' := #[vR a, vR ko, vI w2, vI (-2)]) rfl k_)
    refine Go T3 (mkF m 13 #[vR a, vR ko, vI w2, vI (-2)] [(.int (-2))]) ?_ (fun t_ k_ => XS.iloadN X3.here hx rfl (hb hby d24_12) rfl k_)
    refine Go T3 (mkF m 31 #[vR a, vR ko, vI w2, vI (-2)] []) ?_ (fun t_ k_ => XS.ifYes X3.here hx rfl (pc0 := 13) (pc' := 31) rfl (hb hby d24_13) rfl (by decide) (by decide) (by decide) k_)
    refine Go T3 (mkF m 32 #[vR a, vR ko, vI w2, vI (-2)] [(.int 2)]) ?_ (fun t_ k_ => XS.iconst X3.here hx rfl (hb hby d24_31) k_)
    refine Go T3 (mkF m 33 #[vR a, vR ko, vI w2, vI (-2)] [(.ref a), (.int 2)]) ?_ (fun t_ k_ => XS.aloadN X3.here hx rfl (hb hby d24_32) rfl rfl k_)
    obtain ⟨T23, X23, e23, st23⟩ := getF X3 hx hZ hown (host := "") (Or.inl (wq hw 182 rfl)) Via.refl eh3 tl1.FZ (g := (mkF m 33 #[vR a, vR ko, vI w2, vI (-2)] [(.ref a), (.int 2)])) rfl rfl (hb hby d24_33)
    refine Go T23 (mkF m 36 #[vR a, vR ko, vI w2, vI (-2)] [(.int 0), (.int 2)]) ?_ st23
    refine Go T23 (mkF m 37 #[vR a, vR ko, vI w2, vI (-2)] [(.int 1), (.int 0), (.int 2)]) ?_ (fun t_ k_ => XS.iconst X23.here hx rfl (hb hby d24_36) k_)
    refine Go T23 (mkF m 38 #[vR a, vR ko, vI w2, vI (-2)] [(.int 1), (.int 2)]) ?_ (fun t_ k_ => XS.iadd X23.here hx rfl (hb hby d24_37) rfl k_)
    refine Go T23 (mkF m 39 #[vR a, vR ko, vI w2, vI (-2)] [(.int 2)]) ?_ (fun t_ k_ => XS.imul X23.here hx rfl (hb hby d24_38) rfl k_)
    refine Go T23 (mkF m 40 #[vR a, vR ko, vI w2, vI (-2)] [(.ref a), (.int 2)]) ?_ (fun t_ k_ => XS.aloadN X23.here hx rfl (hb hby d24_39) rfl rfl k_)
    obtain ⟨T24, X24, e24, st24⟩ := getF X23 hx hZ hown (host := "") (Or.inl (wq hw 160 rfl)) Via.refl e23 tl1.FK (g := (mkF m 40 #[vR a, vR ko, vI w2, vI (-2)] [(.ref a), (.int 2)])) rfl rfl (hb hby d24_40)
    refine Go T24 (mkF m 43 #[vR a, vR ko, vI w2, vI (-2)] [(.ref ks), (.int 2)]) ?_ st24
    obtain ⟨cK, AK, -, SK, MK, HK, -⟩ := id tl1.VK
    refine Go T24 (mkF m 44 #[vR a, vR ko, vI w2, vI (-2)] [(.int cK.slots.size.toInt32), (.int 2)]) ?_ (X24.arraylength hx (by rw [e24]; exact AK.1) (State.isArrayOf_alike hZ.alike AK.2.1) (g := (mkF m 43 #[vR a, vR ko, vI w2, vI (-2)] [(.ref ks), (.int 2)])) rfl rfl (hb hby d24_43))
    rw [len_of SK MK]
    refine Go T24 (mkF m 58 #[vR a, vR ko, vI w2, vI (-2)] []) ?_ (fun t_ k_ => XS.icmpYes X24.here hx rfl (pc0 := 44) (pc' := 58) rfl (hb hby d24_44) rfl (by decide) (by decide) (by decide) k_)
    refine Go T24 (mkF m 59 #[vR a, vR ko, vI w2, vI (-2)] [(.ref a)]) ?_ (fun t_ k_ => XS.aloadN X24.here hx rfl (hb hby d24_58) rfl rfl k_)
    refine Go T24 (mkF m 60 #[vR a, vR ko, vI w2, vI (-2)] [(.int (-1)), (.ref a)]) ?_ (fun t_ k_ => XS.iconst X24.here hx rfl (hb hby d24_59) k_)
    refine Go T24 (mkF m 61 #[vR a, vR ko, vI w2, vI (-2)] [(.int (-2)), (.int (-1)), (.ref a)]) ?_ (fun t_ k_ => XS.iloadN X24.here hx rfl (hb hby d24_60) rfl k_)
    refine Go T24 (mkF m 62 #[vR a, vR ko, vI w2, vI (-2)] [(.int ((-1 : Int32) - (-2 : Int32))), (.ref a)]) ?_ (fun t_ k_ => XS.isub X24.here hx rfl (hb hby d24_61) rfl k_)
    rw [show ((-1 : Int32) - (-2 : Int32)) = (1 : Int32) from by decide]
    refine Go T24 (mkF m 63 #[vR a, vR ko, vI w2, vI (-2)] [(.int w2), (.int 1), (.ref a)]) ?_ (fun t_ k_ => XS.iloadN X24.here hx rfl (hb hby d24_62) rfl k_)
    refine Go T24 (mkF m 64 #[vR a, vR ko, vI w2, vI (-2)] [(.ref ko), (.int w2), (.int 1), (.ref a)]) ?_ (fun t_ k_ => XS.aloadN X24.here hx rfl (hb hby d24_63) rfl rfl k_)
    refine Go T24 (mkF m 65 #[vR a, vR ko, vI w2, vI (-2)] [(.int 1), (.ref ko), (.int w2), (.int 1), (.ref a)]) ?_ (fun t_ k_ => XS.iconst X24.here hx rfl (hb hby d24_64) k_)
    have VHp : Arv Z T1.heap hc kh .int 4 [.int 0, .int 0, .int 0, .int 0] (.int 0) := tl1.VH.pad (pad_rep [] (.int 0) 4)
    have VKp : Arv Z T1.heap ks kk (.object "java/lang/Object") (2 : Int32) [.null, .null] .null := tl1.VK.pad (pad_rep [] .null 2)
    obtain ⟨cq25, q25, q25'⟩ := tl1.E.cell
    obtain ⟨_, _, ⟨T25, Lq_25, kq_25, nq_25⟩, -, X25, ⟨Lc25, hQ25, l25, y25, z25⟩, st25⟩ := X24.privateBack hx (y := mN16) hown (mvT hZ (wq hw 184 rfl)) (mvT hZ (wq hw 185 rfl)) (mvT hZ (own_selP (y := mN16) (wq hw 151 rfl) (wq hw 186 rfl) (wq hw 185 rfl) (by decide))) (Cond.privateMethod_at (mvP hZ (wq hw 186 rfl) (args := #[]))) (mvT hZ (wq hw 187 rfl)) (by decide) (backOf (W := 0) (rmP1r l Z a0 hw [] a hc ks kh kk 0 0 0 0 .null .null ko w2 T1.heap n0 Zc1 tl1.E tl1.FH tl1.FK VHp VKp tl1.hne (Nat.le_trans gB tl1.bh) (Nat.le_trans gB tl1.bk) tl1.OV (Ins.of_exa ky1.o0 (wq hw 99 rfl))) hZ (wq hw 187 rfl) (wq hw 152 rfl) (by decide) (by decide)) (g := (mkF m 65 #[vR a, vR ko, vI w2, vI (-2)] [(.int 1), (.ref ko), (.int w2), (.int 1), (.ref a)])) rfl (by rw [hml]; rfl) (Steps.refl _) (a := a) (by rw [e24]; exact q25) q25' (argsL := [(.int 1), (.int w2), (.ref ko), (.int 1)]) (rest := []) (lenOf pd_11 rfl) rfl (by show 2 * 0 + _ ≤ _; exact Nat.le_of_eq rfl) (hb hby d24_65) (fun _ _ => ⟨rfl, e24, (by decide : 0 + 0 ≤ _), (by decide : 0 + 0 ≤ _)⟩)
    dsimp only [Pt.U, Pt.locs, Pt.cells, Pt.slots] at X25 l25 y25 z25 st25 hQ25
    rw [l25, y25, z25] at X25
    change Stand p l e _ _ m _ below meth c T25 _ 0 0 at X25
    obtain ⟨rfl, N25q, K25, VHn, VKn⟩ := hQ25
    have N25 := Fr.app N3 N25q
    refine Go T25 (mkF m 68 #[vR a, vR ko, vI w2, vI (-2)] []) ?_ (fun t => st25.trans)
    have Zp : n0 ≤ T25.heap.size := Nat.le_trans Zc1 K25.1
    have ky25 := ky1.keep KC K25 (own_sfC (P := fun z => B ≤ z) tl1.bh (own_sfC (P := fun z => B ≤ z) tl1.bk (fun y hy => absurd hy List.not_mem_nil)))
    have fx26 := tl1.FH.keep K25 (ninS ahc (ninS aks nin0))
    have fx27 := tl1.FK.keep K25 (ninS ahc (ninS aks nin0))
    have fx28 := tl1.FS.keep K25 (ninS ahc (ninS aks nin0))
    have fx29 := tl1.FZ.keep K25 (ninS ahc (ninS aks nin0))
    have fx30 := tl1.E.keep K25
    have kp31 := kp2.trans K25 (allS (Or.inl (by simp)) (allS (Or.inl (by simp)) all0))
    refine Go T25 (mkF m 69 #[vR a, vR ko, vI w2, vI (-2)] [(.ref a)]) ?_ (fun t_ k_ => XS.aloadN X25.here hx rfl (hb hby d24_68) rfl rfl k_)
    refine Go T25 (mkF m 70 #[vR a, vR ko, vI w2, vI (-2)] [(.ref a), (.ref a)]) ?_ (fun t_ k_ => XS.dup X25.here hx rfl (hb hby d24_69) rfl rfl k_)
    obtain ⟨T32, X32, e32, st32⟩ := getF X25 hx hZ hown (host := "") (Or.inl (wq hw 182 rfl)) Via.refl rfl fx29 (g := (mkF m 70 #[vR a, vR ko, vI w2, vI (-2)] [(.ref a), (.ref a)])) rfl rfl (hb hby d24_70)
    refine Go T32 (mkF m 73 #[vR a, vR ko, vI w2, vI (-2)] [(.int 0), (.ref a)]) ?_ st32
    refine Go T32 (mkF m 74 #[vR a, vR ko, vI w2, vI (-2)] [(.int 1), (.int 0), (.ref a)]) ?_ (fun t_ k_ => XS.iconst X32.here hx rfl (hb hby d24_73) k_)
    refine Go T32 (mkF m 75 #[vR a, vR ko, vI w2, vI (-2)] [(.int 1), (.ref a)]) ?_ (fun t_ k_ => XS.iadd X32.here hx rfl (hb hby d24_74) rfl k_)
    obtain ⟨T33, h33, X33, e33, W33, st33⟩ := putF X32 hx hZ hown (host := "") (Or.inl (wq hw 182 rfl)) Via.refl e32 fx29 fx30 (Or.inl (wq hw 183 rfl)) (wq hw 151 rfl) (ty := .int) (by decide) rfl rfl (g := (mkF m 75 #[vR a, vR ko, vI w2, vI (-2)] [(.int 1), (.ref a)])) rfl rfl (hb hby d24_75)
    have N33 := Fr.snoc X33 N25 (Nat.le_trans gB tl1.ba)
    have Z33 : n0 ≤ h33.size := Nat.le_trans Zp (Nat.le_of_eq W33.size.symm)
    refine Go T33 (mkF m 78 #[vR a, vR ko, vI w2, vI (-2)] []) ?_ st33
    have fx34 := fx26.other W33 (Or.inr (slot_ne (Or.inl (wq hw 158 rfl)) (Or.inl (wq hw 183 rfl)) (by decide) (t := (.array .int)) (t' := .int) (by decide) (by decide)))
    have fx35 := fx27.other W33 (Or.inr (slot_ne (Or.inl (wq hw 161 rfl)) (Or.inl (wq hw 183 rfl)) (by decide) (t := (.array (.object "java/lang/Object"))) (t' := .int) (by decide) (by decide)))
    have fx36 := fx28.other W33 (Or.inr (slot_ne (Or.inl (wq hw 163 rfl)) (Or.inl (wq hw 183 rfl)) (by decide) (t := .int) (t' := .int) (by decide) (by decide)))
    have fx37 := fx29.same W33
    have fx38 := fx30.wr W33
    have fx39 := VKn.other W33 (Ne.symm aks)
    have fx40 := VHn.other W33 (Ne.symm ahc)
    have kp41 := kp31.wr W33 (Or.inl (by simp))
    have ky33 := ky25.keep KC ((Keep.refl _ [a]).wr W33 (Or.inl (List.mem_cons_self ..))) (own_sfC (P := fun z => B ≤ z) tl1.ba (fun y hy => absurd hy List.not_mem_nil))
    have TN : Tly Z h33 B a hc ks kh kk ko w2 (1 : Int32) := ⟨fx38, fx34, fx35, fx36, fx37, (by rw [hbm, own_hs1]; exact fx40), (by rw [hbm, own_ks1]; exact fx39), tl1.OV, tl1.hne, tl1.ba, tl1.bh, tl1.bk⟩
    rw [hWd]
    exact Goes.retn X33 (v := none) (fun fs hr => X33.returnOut hx Bd.returns (hb hby d24_78) hr) (fun _ => rfl) Bd.notSynchronized (by decide) (by decide) (by rw [e33]; exact ⟨rfl, N33, kp41, ky33, TN⟩)
def QAO1 (Z : State) (B : Nat) (t tt i ti r tr ku ko : Addr) (kt ki kr : ClassId) (ct ci cr w2 : Int32) (zc : Int32) (a hc ks : Addr) (kh kk : ClassId) (mc : Int32) (h0 : Heap) (n0 : Nat) (v : Option Value) (h : Heap) (L : List Loc) : Prop := v = none ∧ Fr n0 L ∧ Keep h0 h [t, i, r, a, hc, ks] ∧ KA Z h t tt i ti r tr ku ko kt ki kr ct ci cr w2 ∧ Tly Z h B a hc ks kh kk ko w2 (mc + (1 : Int32))
set_option maxRecDepth 65536 in
set_option maxHeartbeats 40000000 in
theorem rmAO1 (l : Launch) (Z : State) (a0 : Array Value) (hw : ∀ d ∈ tables_1, d.before a0 Z = true) (ws : List Jvm.Cond) (B : Nat) (t tt i ti r tr ku ko : Addr) (kt ki kr : ClassId) (ct ci cr w2 : Int32) (zc : Int32) (a hc ks : Addr) (kh kk : ClassId) (mc : Int32) (h0 : Heap) (n0 : Nat) (Z0 : n0 ≤ h0.size) (KY : KA Z h0 t tt i ti r tr ku ko kt ki kr ct ci cr w2) (KC : KD n0 B t tt i ti r tr ku ko ct ci cr) (gB : n0 ≤ B) (bB : B ≤ h0.size) (CS : Sta Z Z.heap "java/lang/String" "COMPACT_STRINGS" "Z" (.int zc)) (hzc : ¬ zc = (0 : Int32)) (X0_ : Old Z n0 h0) (TL : Tly Z h0 B a hc ks kh kk ko w2 mc) (hm : ¬ mc = 0) :
    MetFree l mN24 (head1 (Jvm.Cond.code mN24 cD21 4 none :: ws) ({ frames := 2, cells := 0, slots := 0, locals := 36 } : Room)) (fun a_ U => a_ = #[(.ref a), (.ref ko)] ∧ Z.Warmed39 U.vm ∧ U.heap = h0) (fun _ _ _ _ _ => True) (fun _ U o U' => ∃ v L, o = .returned v ∧ QAO1 Z B t tt i ti r tr ku ko kt ki kr ct ci cr w2 zc a hc ks kh kk mc h0 n0 v U'.heap L ∧ FrameEnd U o U' L ({ frames := 2, cells := 0, slots := 0, locals := 36 } : Room).cells ({ frames := 2, cells := 0, slots := 0, locals := 36 } : Room).slots) := by
  refine MetFree.of_bodySF (plainFor_of_name pn_5) hisR ?_
  intro p e s m args below meth c s₁ Bd hml0 hP hK
  obtain ⟨rfl, hZ, hh⟩ := hP
  have hx := Bd.exec
  have hby := Bd.bytes
  have hml : c.maxLocals = 4 := hml0
  have hown : s.vm.findClass "com/example/entitlement/entitlement/Tally" = some m.cls := findClass_of_methodNamed Bd.named
  have hnm := (name_of_methodNamed Bd.named Bd.method).1
  have X0 : Stand p l e ({ frames := 2, cells := 0, slots := 0, locals := 36 } : Room) s m #[(.ref a), (.ref ko)] below meth c s₁ [] 0 0 := Stand.of_body Bd
  have e0 : s₁.heap = h0 := by rw [← hh, Bd.state]; rfl
  have N0 := Fr.nil n0
  refine Goes.done ?_
  obtain ⟨W, hWd⟩ : ∃ W : State → Prop, W = EndW s below (QAO1 Z B t tt i ti r tr ku ko kt ki kr ct ci cr w2 zc a hc ks kh kk mc h0 n0) ({ frames := 2, cells := 0, slots := 0, locals := 36 } : Room).cells ({ frames := 2, cells := 0, slots := 0, locals := 36 } : Room).slots := ⟨_, rfl⟩
  rw [← hWd]
  have hef : entryFrame m #[(.ref a), (.ref ko)] 4 = (mkF m 0 #[vR a, vR ko, .unset, .unset] []) := by first | (simp [entryFrame, mkF, argsToLocals, Value.category]; done) | rfl
  rw [hef]
  refine Go s₁ (mkF m 1 #[vR a, vR ko, .unset, .unset] [(.ref ko)]) ?_ (fun t_ k_ => XS.aloadN X0.here hx rfl (hb hby d24_0) rfl rfl k_)
  obtain ⟨cq1, kq1, q1a, q1b, q1c⟩ := isOf hZ e0 KY.o0
  obtain ⟨_, _, ⟨T1, Lq_1, kq_1, nq_1⟩, -, X1, ⟨Lc1, hQ1, l1, y1, z1⟩, st1⟩ := X0.virtualBack hx (y := mN20) (z := mN23) hown (mvT hZ (wq hw 169 rfl)) (mvT hZ (wq hw 170 rfl)) (own_nfO hZ (wq hw 138 rfl) rfl) (mvT hZ (wq hw 202 rfl)) (mvT hZ (wq hw 203 rfl)) (by decide) (backOf (W := 0) (rmHO l Z a0 hw [] B t tt i ti r tr ku ko kt ki kr ct ci cr w2 zc h0 n0 Z0 KY KC gB bB CS hzc X0_) hZ (wq hw 204 rfl) (wq hw 67 rfl) (by decide) (by decide)) q1a q1c (g := (mkF m 1 #[vR a, vR ko, .unset, .unset] [(.ref ko)])) rfl (by rw [hml]; rfl) (Steps.refl _) (argsL := []) (rest := []) (lenOf pd_9 rfl) rfl (by show 2 * 0 + _ ≤ _; exact Nat.le_of_eq rfl) (hb hby d24_1) (fun _ _ => ⟨rfl, e0, (by decide : 0 + 0 ≤ _), (by decide : 0 + 0 ≤ _)⟩)
  dsimp only [Pt.U, Pt.locs, Pt.cells, Pt.slots] at X1 l1 y1 z1 st1 hQ1
  rw [l1, y1, z1] at X1
  change Stand p l e _ _ m _ below meth c T1 _ 0 0 at X1
  obtain ⟨rfl, N1q, K1, ky1⟩ := hQ1
  have N1 := Fr.app N0 N1q
  refine Go T1 (mkF m 4 #[vR a, vR ko, .unset, .unset] [(.int w2)]) ?_ (fun t => st1.trans)
  have Zc1 : n0 ≤ T1.heap.size := Nat.le_trans Z0 K1.1
  have xo1 : Old Z n0 T1.heap := X0_.keep K1 KC.ge
  have kp2 := (Keep.refl h0 [t, i, r, a, hc, ks]).trans K1 (allS (Or.inl (by simp)) (allS (Or.inl (by simp)) (allS (Or.inl (by simp)) all0)))
  have bb1 : B ≤ T1.heap.size := Nat.le_trans bB K1.1
  have tl1 := TL.keep K1 (own_nhi TL.ba KC.lt) (own_nhi TL.bh KC.lt) (own_nhi TL.bk KC.lt)
  refine Go T1 (mkF m 5 #[vR a, vR ko, vI w2, .unset] []) ?_ (fun t_ k_ => XS.istoreN X1.here hx rfl (hb hby d24_4) rfl (l' := #[vR a, vR ko, vI w2, .unset]) rfl k_)
  refine Go T1 (mkF m 6 #[vR a, vR ko, vI w2, .unset] [(.ref a)]) ?_ (fun t_ k_ => XS.aloadN X1.here hx rfl (hb hby d24_5) rfl rfl k_)
  refine Go T1 (mkF m 7 #[vR a, vR ko, vI w2, .unset] [(.ref ko), (.ref a)]) ?_ (fun t_ k_ => XS.aloadN X1.here hx rfl (hb hby d24_6) rfl rfl k_)
  refine Go T1 (mkF m 8 #[vR a, vR ko, vI w2, .unset] [(.int w2), (.ref ko), (.ref a)]) ?_ (fun t_ k_ => XS.iloadN X1.here hx rfl (hb hby d24_7) rfl k_)
  obtain ⟨cq3, q3, q3'⟩ := tl1.E.cell
  obtain ⟨_, _, ⟨T3, Lq_3, kq_3, nq_3⟩, -, X3, ⟨Lc3, hQ3, l3, y3, z3⟩, st3⟩ := X1.privateBack hx (y := mN15) hown (mvT hZ (wq hw 173 rfl)) (mvT hZ (wq hw 174 rfl)) (mvT hZ (own_selP (y := mN15) (wq hw 151 rfl) (wq hw 175 rfl) (wq hw 174 rfl) (by decide))) (Cond.privateMethod_at (mvP hZ (wq hw 175 rfl) (args := #[]))) (mvT hZ (wq hw 176 rfl)) (by decide) (backOf (W := 0) (rmF1 l Z a0 hw [] B a hc ks kh kk ko w2 mc T1.heap n0 Zc1 tl1 hm) hZ (wq hw 176 rfl) (wq hw 152 rfl) (by decide) (by decide)) (g := (mkF m 8 #[vR a, vR ko, vI w2, .unset] [(.int w2), (.ref ko), (.ref a)])) rfl (by rw [hml]; rfl) (Steps.refl _) (a := a) q3 q3' (argsL := [(.ref ko), (.int w2)]) (rest := []) (lenOf pd_13 rfl) rfl (by show 2 * 0 + _ ≤ _; exact Nat.le_of_eq rfl) (hb hby d24_8) (fun _ _ => ⟨rfl, rfl, (by decide : 0 + 0 ≤ _), (by decide : 0 + 0 ≤ _)⟩)
  dsimp only [Pt.U, Pt.locs, Pt.cells, Pt.slots] at X3 l3 y3 z3 st3 hQ3
  rw [l3, y3, z3] at X3
  change Stand p l e _ _ m _ below meth c T3 _ 0 0 at X3
  obtain ⟨rfl, N3q, eh3⟩ := hQ3
  have N3 := Fr.app N1 N3q
  refine Go T3 (mkF m 11 #[vR a, vR ko, vI w2, .unset] [(.int (own_home w2))]) ?_ (fun t => st3.trans)
  rcases own_home_b w2 with hbm | hbm
  · rw [hbm]
    have ahc : a ≠ hc := Exa.neArv tl1.E tl1.VH (wq hw 151 rfl)
    have aks : a ≠ ks := Exa.neArv tl1.E tl1.VK (wq hw 151 rfl)
    have VHb : Arv Z T1.heap hc kh .int 4 [.int w2, .int mc, .int 0, .int 0] (.int 0) := by have q := tl1.VH; rw [hbm, own_hs0] at q; exact q
    obtain ⟨cH, AH, qH, SH_, MH, HH, GH⟩ := id VHb
    refine Go T3 (mkF m 12 #[vR a, vR ko, vI w2, vI 0] []) ?_ (fun t_ k_ => XS.istoreN X3.here hx rfl (hb hby d24_11) rfl (l' := #[vR a, vR ko, vI w2, vI 0]) rfl k_)
    refine Go T3 (mkF m 13 #[vR a, vR ko, vI w2, vI 0] [(.int 0)]) ?_ (fun t_ k_ => XS.iloadN X3.here hx rfl (hb hby d24_12) rfl k_)
    refine Go T3 (mkF m 16 #[vR a, vR ko, vI w2, vI 0] []) ?_ (fun t_ k_ => XS.ifNo X3.here hx rfl (hb hby d24_13) rfl (by decide) k_)
    refine Go T3 (mkF m 17 #[vR a, vR ko, vI w2, vI 0] [(.ref a)]) ?_ (fun t_ k_ => XS.aloadN X3.here hx rfl (hb hby d24_16) rfl rfl k_)
    obtain ⟨T4, X4, e4, st4⟩ := getF X3 hx hZ hown (host := "") (Or.inl (wq hw 157 rfl)) Via.refl eh3 tl1.FH (g := (mkF m 17 #[vR a, vR ko, vI w2, vI 0] [(.ref a)])) rfl rfl (hb hby d24_17)
    refine Go T4 (mkF m 20 #[vR a, vR ko, vI w2, vI 0] [(.ref hc)]) ?_ st4
    refine Go T4 (mkF m 21 #[vR a, vR ko, vI w2, vI 0] [(.int 2), (.ref hc)]) ?_ (fun t_ k_ => XS.iconst X4.here hx rfl (hb hby d24_20) k_)
    refine Go T4 (mkF m 22 #[vR a, vR ko, vI w2, vI 0] [(.int 0), (.int 2), (.ref hc)]) ?_ (fun t_ k_ => XS.iloadN X4.here hx rfl (hb hby d24_21) rfl k_)
    refine Go T4 (mkF m 23 #[vR a, vR ko, vI w2, vI 0] [(.int 0), (.ref hc)]) ?_ (fun t_ k_ => XS.imul X4.here hx rfl (hb hby d24_22) rfl k_)
    refine Go T4 (mkF m 24 #[vR a, vR ko, vI w2, vI 0] [(.int 1), (.int 0), (.ref hc)]) ?_ (fun t_ k_ => XS.iconst X4.here hx rfl (hb hby d24_23) k_)
    refine Go T4 (mkF m 25 #[vR a, vR ko, vI w2, vI 0] [(.int 1), (.ref hc)]) ?_ (fun t_ k_ => XS.iadd X4.here hx rfl (hb hby d24_24) rfl k_)
    refine Go T4 (mkF m 26 #[vR a, vR ko, vI w2, vI 0] [(.int 1), (.ref hc), (.int 1), (.ref hc)]) ?_ (fun t_ k_ => Jvm.Free.XT.dup2 X4.here hx rfl (hb hby d24_25) rfl rfl rfl k_)
    refine Go T4 (mkF m 27 #[vR a, vR ko, vI w2, vI 0] [(.int mc), (.int 1), (.ref hc)]) ?_ (X4.iaload hx (j := (1 : Int32)) (v := (.int mc)) (by rw [e4]; exact AH.1) (State.isArrayOf_alike hZ.alike AH.2.1) AH.2.2 (inb_of SH_ ⟨by decide, by decide⟩) (by have q := HH 1 (by rw [SH_]; decide); exact q) (g := (mkF m 26 #[vR a, vR ko, vI w2, vI 0] [(.int 1), (.ref hc), (.int 1), (.ref hc)])) rfl rfl (hb hby d24_26))
    refine Go T4 (mkF m 28 #[vR a, vR ko, vI w2, vI 0] [(.int 1), (.int mc), (.int 1), (.ref hc)]) ?_ (fun t_ k_ => XS.iconst X4.here hx rfl (hb hby d24_27) k_)
    refine Go T4 (mkF m 29 #[vR a, vR ko, vI w2, vI 0] [(.int (mc + (1 : Int32))), (.int 1), (.ref hc)]) ?_ (fun t_ k_ => XS.iadd X4.here hx rfl (hb hby d24_28) rfl k_)
    obtain ⟨T5, h5, X5, e5, W5, st5⟩ := stI X4 hx hZ e4 AH (j := (1 : Int32)) (inb_of SH_ ⟨by decide, by decide⟩) (g := (mkF m 29 #[vR a, vR ko, vI w2, vI 0] [(.int (mc + (1 : Int32))), (.int 1), (.ref hc)])) rfl rfl (hb hby d24_29)
    have N5 := Fr.snoc X5 N3 (Nat.le_trans gB tl1.bh)
    have Z5 : n0 ≤ h5.size := Nat.le_trans Zc1 (Nat.le_of_eq W5.size.symm)
    refine Go T5 (mkF m 30 #[vR a, vR ko, vI w2, vI 0] []) ?_ st5
    have fx6 := tl1.FH.other W5 (Or.inl ahc)
    have fx7 := tl1.FK.other W5 (Or.inl ahc)
    have fx8 := tl1.FS.other W5 (Or.inl ahc)
    have fx9 := tl1.FZ.other W5 (Or.inl ahc)
    have fx10 := tl1.E.wr W5
    have fx11 := tl1.VK.other W5 (Ne.symm tl1.hne)
    have kp12 := kp2.wr W5 (Or.inl (by simp))
    have V5 : Arv Z h5 hc kh .int 4 [.int w2, .int (mc + (1 : Int32)), .int 0, .int 0] (.int 0) := Arv.set AH qH SH_ MH HH GH rfl W5 1 rfl (Nat.le_of_ble_eq_true rfl)
    have ky5 := ky1.keep KC ((Keep.refl _ [hc]).wr W5 (Or.inl (List.mem_cons_self ..))) (own_sfC (P := fun z => B ≤ z) tl1.bh (fun y hy => absurd hy List.not_mem_nil))
    have TN : Tly Z h5 B a hc ks kh kk ko w2 (mc + (1 : Int32)) := ⟨fx10, fx6, fx7, fx8, fx9, (by rw [hbm, own_hs0]; exact V5), fx11, tl1.OV, tl1.hne, tl1.ba, tl1.bh, tl1.bk⟩
    rw [hWd]
    exact Goes.retn X5 (v := none) (fun fs hr => X5.returnOut hx Bd.returns (hb hby d24_30) hr) (fun _ => rfl) Bd.notSynchronized (by decide) (by decide) (by rw [e5]; exact ⟨rfl, N5, kp12, ky5, TN⟩)
  · rw [hbm]
    have ahc : a ≠ hc := Exa.neArv tl1.E tl1.VH (wq hw 151 rfl)
    have aks : a ≠ ks := Exa.neArv tl1.E tl1.VK (wq hw 151 rfl)
    have VHb : Arv Z T1.heap hc kh .int 4 [.int 0, .int 0, .int w2, .int mc] (.int 0) := by have q := tl1.VH; rw [hbm, own_hs1] at q; exact q
    obtain ⟨cH, AH, qH, SH_, MH, HH, GH⟩ := id VHb
    refine Go T3 (mkF m 12 #[vR a, vR ko, vI w2, vI 1] []) ?_ (fun t_ k_ => XS.istoreN X3.here hx rfl (hb hby d24_11) rfl (l' := #[vR a, vR ko, vI w2, vI 1]) rfl k_)
    refine Go T3 (mkF m 13 #[vR a, vR ko, vI w2, vI 1] [(.int 1)]) ?_ (fun t_ k_ => XS.iloadN X3.here hx rfl (hb hby d24_12) rfl k_)
    refine Go T3 (mkF m 16 #[vR a, vR ko, vI w2, vI 1] []) ?_ (fun t_ k_ => XS.ifNo X3.here hx rfl (hb hby d24_13) rfl (by decide) k_)
    refine Go T3 (mkF m 17 #[vR a, vR ko, vI w2, vI 1] [(.ref a)]) ?_ (fun t_ k_ => XS.aloadN X3.here hx rfl (hb hby d24_16) rfl rfl k_)
    obtain ⟨T13, X13, e13, st13⟩ := getF X3 hx hZ hown (host := "") (Or.inl (wq hw 157 rfl)) Via.refl eh3 tl1.FH (g := (mkF m 17 #[vR a, vR ko, vI w2, vI 1] [(.ref a)])) rfl rfl (hb hby d24_17)
    refine Go T13 (mkF m 20 #[vR a, vR ko, vI w2, vI 1] [(.ref hc)]) ?_ st13
    refine Go T13 (mkF m 21 #[vR a, vR ko, vI w2, vI 1] [(.int 2), (.ref hc)]) ?_ (fun t_ k_ => XS.iconst X13.here hx rfl (hb hby d24_20) k_)
    refine Go T13 (mkF m 22 #[vR a, vR ko, vI w2, vI 1] [(.int 1), (.int 2), (.ref hc)]) ?_ (fun t_ k_ => XS.iloadN X13.here hx rfl (hb hby d24_21) rfl k_)
    refine Go T13 (mkF m 23 #[vR a, vR ko, vI w2, vI 1] [(.int 2), (.ref hc)]) ?_ (fun t_ k_ => XS.imul X13.here hx rfl (hb hby d24_22) rfl k_)
    refine Go T13 (mkF m 24 #[vR a, vR ko, vI w2, vI 1] [(.int 1), (.int 2), (.ref hc)]) ?_ (fun t_ k_ => XS.iconst X13.here hx rfl (hb hby d24_23) k_)
    refine Go T13 (mkF m 25 #[vR a, vR ko, vI w2, vI 1] [(.int 3), (.ref hc)]) ?_ (fun t_ k_ => XS.iadd X13.here hx rfl (hb hby d24_24) rfl k_)
    refine Go T13 (mkF m 26 #[vR a, vR ko, vI w2, vI 1] [(.int 3), (.ref hc), (.int 3), (.ref hc)]) ?_ (fun t_ k_ => Jvm.Free.XT.dup2 X13.here hx rfl (hb hby d24_25) rfl rfl rfl k_)
    refine Go T13 (mkF m 27 #[vR a, vR ko, vI w2, vI 1] [(.int mc), (.int 3), (.ref hc)]) ?_ (X13.iaload hx (j := (3 : Int32)) (v := (.int mc)) (by rw [e13]; exact AH.1) (State.isArrayOf_alike hZ.alike AH.2.1) AH.2.2 (inb_of SH_ ⟨by decide, by decide⟩) (by have q := HH 3 (by rw [SH_]; decide); exact q) (g := (mkF m 26 #[vR a, vR ko, vI w2, vI 1] [(.int 3), (.ref hc), (.int 3), (.ref hc)])) rfl rfl (hb hby d24_26))
    refine Go T13 (mkF m 28 #[vR a, vR ko, vI w2, vI 1] [(.int 1), (.int mc), (.int 3), (.ref hc)]) ?_ (fun t_ k_ => XS.iconst X13.here hx rfl (hb hby d24_27) k_)
    refine Go T13 (mkF m 29 #[vR a, vR ko, vI w2, vI 1] [(.int (mc + (1 : Int32))), (.int 3), (.ref hc)]) ?_ (fun t_ k_ => XS.iadd X13.here hx rfl (hb hby d24_28) rfl k_)
    obtain ⟨T14, h14, X14, e14, W14, st14⟩ := stI X13 hx hZ e13 AH (j := (3 : Int32)) (inb_of SH_ ⟨by decide, by decide⟩) (g := (mkF m 29 #[vR a, vR ko, vI w2, vI 1] [(.int (mc + (1 : Int32))), (.int 3), (.ref hc)])) rfl rfl (hb hby d24_29)
    have N14 := Fr.snoc X14 N3 (Nat.le_trans gB tl1.bh)
    have Z14 : n0 ≤ h14.size := Nat.le_trans Zc1 (Nat.le_of_eq W14.size.symm)
    refine Go T14 (mkF m 30 #[vR a, vR ko, vI w2, vI 1] []) ?_ st14
    have fx15 := tl1.FH.other W14 (Or.inl ahc)
    have fx16 := tl1.FK.other W14 (Or.inl ahc)
    have fx17 := tl1.FS.other W14 (Or.inl ahc)
    have fx18 := tl1.FZ.other W14 (Or.inl ahc)
    have fx19 := tl1.E.wr W14
    have fx20 := tl1.VK.other W14 (Ne.symm tl1.hne)
    have kp21 := kp2.wr W14 (Or.inl (by simp))
    have V14 : Arv Z h14 hc kh .int 4 [.int 0, .int 0, .int w2, .int (mc + (1 : Int32))] (.int 0) := Arv.set AH qH SH_ MH HH GH rfl W14 3 rfl (Nat.le_of_ble_eq_true rfl)
    have ky14 := ky1.keep KC ((Keep.refl _ [hc]).wr W14 (Or.inl (List.mem_cons_self ..))) (own_sfC (P := fun z => B ≤ z) tl1.bh (fun y hy => absurd hy List.not_mem_nil))
    have TN : Tly Z h14 B a hc ks kh kk ko w2 (mc + (1 : Int32)) := ⟨fx19, fx15, fx16, fx17, fx18, (by rw [hbm, own_hs1]; exact V14), fx20, tl1.OV, tl1.hne, tl1.ba, tl1.bh, tl1.bk⟩
    rw [hWd]
    exact Goes.retn X14 (v := none) (fun fs hr => X14.returnOut hx Bd.returns (hb hby d24_30) hr) (fun _ => rfl) Bd.notSynchronized (by decide) (by decide) (by rw [e14]; exact ⟨rfl, N14, kp21, ky14, TN⟩)
def QRO0 (Z : State) (B : Nat) (t tt i ti r tr ku ko : Addr) (kt ki kr : ClassId) (ct ci cr w2 : Int32) (zc : Int32) (a hc ks : Addr) (kh kk : ClassId) (h0 : Heap) (n0 : Nat) (v : Option Value) (h : Heap) (L : List Loc) : Prop := v = some (.int 1) ∧ Fr n0 L ∧ Keep h0 h [t, i, r, a, hc, ks] ∧ KA Z h t tt i ti r tr ku ko kt ki kr ct ci cr w2 ∧ Exa Z h a "com/example/entitlement/entitlement/Tally" ∧ Fld Z h a "com/example/entitlement/entitlement/Tally" "size" "I" (.int 0)
set_option maxRecDepth 65536 in
set_option maxHeartbeats 40000000 in
theorem rmRO0 (l : Launch) (Z : State) (a0 : Array Value) (hw : ∀ d ∈ tables_1, d.before a0 Z = true) (ws : List Jvm.Cond) (B : Nat) (t tt i ti r tr ku ko : Addr) (kt ki kr : ClassId) (ct ci cr w2 : Int32) (zc : Int32) (a hc ks : Addr) (kh kk : ClassId) (h0 : Heap) (n0 : Nat) (Z0 : n0 ≤ h0.size) (KY : KA Z h0 t tt i ti r tr ku ko kt ki kr ct ci cr w2) (KC : KD n0 B t tt i ti r tr ku ko ct ci cr) (gB : n0 ≤ B) (bB : B ≤ h0.size) (CS : Sta Z Z.heap "java/lang/String" "COMPACT_STRINGS" "Z" (.int zc)) (hzc : ¬ zc = (0 : Int32)) (X0_ : Old Z n0 h0) (TL : Tly Z h0 B a hc ks kh kk ko w2 (1 : Int32)) :
    MetFree l mN25 (head1 (Jvm.Cond.code mN25 cD25 4 (some .boolean) :: ws) ({ frames := 2, cells := 0, slots := 0, locals := 36 } : Room)) (fun a_ U => a_ = #[(.ref a), (.ref ko)] ∧ Z.Warmed39 U.vm ∧ U.heap = h0) (fun _ _ _ _ _ => True) (fun _ U o U' => ∃ v L, o = .returned v ∧ QRO0 Z B t tt i ti r tr ku ko kt ki kr ct ci cr w2 zc a hc ks kh kk h0 n0 v U'.heap L ∧ FrameEnd U o U' L ({ frames := 2, cells := 0, slots := 0, locals := 36 } : Room).cells ({ frames := 2, cells := 0, slots := 0, locals := 36 } : Room).slots) := by
  refine MetFree.of_bodySF (plainFor_of_name pn_5) hisR ?_
  intro p e s m args below meth c s₁ Bd hml0 hP hK
  obtain ⟨rfl, hZ, hh⟩ := hP
  have hx := Bd.exec
  have hby := Bd.bytes
  have hml : c.maxLocals = 4 := hml0
  have hown : s.vm.findClass "com/example/entitlement/entitlement/Tally" = some m.cls := findClass_of_methodNamed Bd.named
  have hnm := (name_of_methodNamed Bd.named Bd.method).1
  have X0 : Stand p l e ({ frames := 2, cells := 0, slots := 0, locals := 36 } : Room) s m #[(.ref a), (.ref ko)] below meth c s₁ [] 0 0 := Stand.of_body Bd
  have e0 : s₁.heap = h0 := by rw [← hh, Bd.state]; rfl
  have N0 := Fr.nil n0
  refine Goes.done ?_
  obtain ⟨W, hWd⟩ : ∃ W : State → Prop, W = EndW s below (QRO0 Z B t tt i ti r tr ku ko kt ki kr ct ci cr w2 zc a hc ks kh kk h0 n0) ({ frames := 2, cells := 0, slots := 0, locals := 36 } : Room).cells ({ frames := 2, cells := 0, slots := 0, locals := 36 } : Room).slots := ⟨_, rfl⟩
  rw [← hWd]
  have hef : entryFrame m #[(.ref a), (.ref ko)] 4 = (mkF m 0 #[vR a, vR ko, .unset, .unset] []) := by first | (simp [entryFrame, mkF, argsToLocals, Value.category]; done) | rfl
  rw [hef]
  refine Go s₁ (mkF m 1 #[vR a, vR ko, .unset, .unset] [(.ref a)]) ?_ (fun t_ k_ => XS.aloadN X0.here hx rfl (hb hby d28_0) rfl rfl k_)
  refine Go s₁ (mkF m 2 #[vR a, vR ko, .unset, .unset] [(.ref ko), (.ref a)]) ?_ (fun t_ k_ => XS.aloadN X0.here hx rfl (hb hby d28_1) rfl rfl k_)
  refine Go s₁ (mkF m 3 #[vR a, vR ko, .unset, .unset] [(.ref ko), (.ref ko), (.ref a)]) ?_ (fun t_ k_ => XS.aloadN X0.here hx rfl (hb hby d28_2) rfl rfl k_)
  obtain ⟨cq1, kq1, q1a, q1b, q1c⟩ := isOf hZ e0 KY.o0
  obtain ⟨_, _, ⟨T1, Lq_1, kq_1, nq_1⟩, -, X1, ⟨Lc1, hQ1, l1, y1, z1⟩, st1⟩ := X0.virtualBack hx (y := mN20) (z := mN23) hown (mvT hZ (wq hw 169 rfl)) (mvT hZ (wq hw 170 rfl)) (own_nfO hZ (wq hw 138 rfl) rfl) (mvT hZ (wq hw 202 rfl)) (mvT hZ (wq hw 203 rfl)) (by decide) (backOf (W := 2) (rmHO l Z a0 hw [] B t tt i ti r tr ku ko kt ki kr ct ci cr w2 zc h0 n0 Z0 KY KC gB bB CS hzc X0_) hZ (wq hw 204 rfl) (wq hw 67 rfl) (by decide) (by decide)) q1a q1c (g := (mkF m 3 #[vR a, vR ko, .unset, .unset] [(.ref ko), (.ref ko), (.ref a)])) rfl (by rw [hml]; rfl) (Steps.refl _) (argsL := []) (rest := [(.ref ko), (.ref a)]) (lenOf pd_9 rfl) rfl (by show 2 * 0 + _ ≤ _; exact Nat.le_of_eq rfl) (hb hby d28_3) (fun _ _ => ⟨rfl, e0, (by decide : 0 + 0 ≤ _), (by decide : 0 + 0 ≤ _)⟩)
  dsimp only [Pt.U, Pt.locs, Pt.cells, Pt.slots] at X1 l1 y1 z1 st1 hQ1
  rw [l1, y1, z1] at X1
  change Stand p l e _ _ m _ below meth c T1 _ 0 0 at X1
  obtain ⟨rfl, N1q, K1, ky1⟩ := hQ1
  have N1 := Fr.app N0 N1q
  refine Go T1 (mkF m 6 #[vR a, vR ko, .unset, .unset] [(.int w2), (.ref ko), (.ref a)]) ?_ (fun t => st1.trans)
  have Zc1 : n0 ≤ T1.heap.size := Nat.le_trans Z0 K1.1
  have xo1 : Old Z n0 T1.heap := X0_.keep K1 KC.ge
  have kp2 := (Keep.refl h0 [t, i, r, a, hc, ks]).trans K1 (allS (Or.inl (by simp)) (allS (Or.inl (by simp)) (allS (Or.inl (by simp)) all0)))
  have bb1 : B ≤ T1.heap.size := Nat.le_trans bB K1.1
  have tl1 := TL.keep K1 (own_nhi TL.ba KC.lt) (own_nhi TL.bh KC.lt) (own_nhi TL.bk KC.lt)
  obtain ⟨cq3, q3, q3'⟩ := tl1.E.cell
  obtain ⟨_, _, ⟨T3, Lq_3, kq_3, nq_3⟩, -, X3, ⟨Lc3, hQ3, l3, y3, z3⟩, st3⟩ := X1.privateBack hx (y := mN15) hown (mvT hZ (wq hw 173 rfl)) (mvT hZ (wq hw 174 rfl)) (mvT hZ (own_selP (y := mN15) (wq hw 151 rfl) (wq hw 175 rfl) (wq hw 174 rfl) (by decide))) (Cond.privateMethod_at (mvP hZ (wq hw 175 rfl) (args := #[]))) (mvT hZ (wq hw 176 rfl)) (by decide) (backOf (W := 0) (rmF1 l Z a0 hw [] B a hc ks kh kk ko w2 (1 : Int32) T1.heap n0 Zc1 tl1 (by decide)) hZ (wq hw 176 rfl) (wq hw 152 rfl) (by decide) (by decide)) (g := (mkF m 6 #[vR a, vR ko, .unset, .unset] [(.int w2), (.ref ko), (.ref a)])) rfl (by rw [hml]; rfl) (Steps.refl _) (a := a) q3 q3' (argsL := [(.ref ko), (.int w2)]) (rest := []) (lenOf pd_13 rfl) rfl (by show 2 * 0 + _ ≤ _; exact Nat.le_of_eq rfl) (hb hby d28_6) (fun _ _ => ⟨rfl, rfl, (by decide : 0 + 0 ≤ _), (by decide : 0 + 0 ≤ _)⟩)
  dsimp only [Pt.U, Pt.locs, Pt.cells, Pt.slots] at X3 l3 y3 z3 st3 hQ3
  rw [l3, y3, z3] at X3
  change Stand p l e _ _ m _ below meth c T3 _ 0 0 at X3
  obtain ⟨rfl, N3q, eh3⟩ := hQ3
  have N3 := Fr.app N1 N3q
  refine Go T3 (mkF m 9 #[vR a, vR ko, .unset, .unset] [(.int (own_home w2))]) ?_ (fun t => st3.trans)
  rcases own_home_b w2 with hbm | hbm
  · rw [hbm]
    have ahc : a ≠ hc := Exa.neArv tl1.E tl1.VH (wq hw 151 rfl)
    have aks : a ≠ ks := Exa.neArv tl1.E tl1.VK (wq hw 151 rfl)
    have VHb : Arv Z T1.heap hc kh .int 4 [.int w2, .int 1, .int 0, .int 0] (.int 0) := by have q := tl1.VH; rw [hbm, own_hs0] at q; exact q
    obtain ⟨cH, AH, qH, SH_, MH, HH, GH⟩ := id VHb
    refine Go T3 (mkF m 10 #[vR a, vR ko, vI 0, .unset] []) ?_ (fun t_ k_ => XS.istoreN X3.here hx rfl (hb hby d28_9) rfl (l' := #[vR a, vR ko, vI 0, .unset]) rfl k_)
    refine Go T3 (mkF m 11 #[vR a, vR ko, vI 0, .unset] [(.int 0)]) ?_ (fun t_ k_ => XS.iloadN X3.here hx rfl (hb hby d28_10) rfl k_)
    refine Go T3 (mkF m 16 #[vR a, vR ko, vI 0, .unset] []) ?_ (fun t_ k_ => XS.ifYes X3.here hx rfl (pc0 := 11) (pc' := 16) rfl (hb hby d28_11) rfl (by decide) (by decide) (by decide) k_)
    refine Go T3 (mkF m 17 #[vR a, vR ko, vI 0, .unset] [(.ref a)]) ?_ (fun t_ k_ => XS.aloadN X3.here hx rfl (hb hby d28_16) rfl rfl k_)
    obtain ⟨T4, X4, e4, st4⟩ := getF X3 hx hZ hown (host := "") (Or.inl (wq hw 157 rfl)) Via.refl eh3 tl1.FH (g := (mkF m 17 #[vR a, vR ko, vI 0, .unset] [(.ref a)])) rfl rfl (hb hby d28_17)
    refine Go T4 (mkF m 20 #[vR a, vR ko, vI 0, .unset] [(.ref hc)]) ?_ st4
    refine Go T4 (mkF m 21 #[vR a, vR ko, vI 0, .unset] [(.int 2), (.ref hc)]) ?_ (fun t_ k_ => XS.iconst X4.here hx rfl (hb hby d28_20) k_)
    refine Go T4 (mkF m 22 #[vR a, vR ko, vI 0, .unset] [(.int 0), (.int 2), (.ref hc)]) ?_ (fun t_ k_ => XS.iloadN X4.here hx rfl (hb hby d28_21) rfl k_)
    refine Go T4 (mkF m 23 #[vR a, vR ko, vI 0, .unset] [(.int 0), (.ref hc)]) ?_ (fun t_ k_ => XS.imul X4.here hx rfl (hb hby d28_22) rfl k_)
    refine Go T4 (mkF m 24 #[vR a, vR ko, vI 0, .unset] [(.int 1), (.int 0), (.ref hc)]) ?_ (fun t_ k_ => XS.iconst X4.here hx rfl (hb hby d28_23) k_)
    refine Go T4 (mkF m 25 #[vR a, vR ko, vI 0, .unset] [(.int 1), (.ref hc)]) ?_ (fun t_ k_ => XS.iadd X4.here hx rfl (hb hby d28_24) rfl k_)
    refine Go T4 (mkF m 26 #[vR a, vR ko, vI 0, .unset] [(.int 1), (.ref hc), (.int 1), (.ref hc)]) ?_ (fun t_ k_ => Jvm.Free.XT.dup2 X4.here hx rfl (hb hby d28_25) rfl rfl rfl k_)
    refine Go T4 (mkF m 27 #[vR a, vR ko, vI 0, .unset] [(.int 1), (.int 1), (.ref hc)]) ?_ (X4.iaload hx (j := (1 : Int32)) (v := (.int 1)) (by rw [e4]; exact AH.1) (State.isArrayOf_alike hZ.alike AH.2.1) AH.2.2 (inb_of SH_ ⟨by decide, by decide⟩) (by have q := HH 1 (by rw [SH_]; decide); exact q) (g := (mkF m 26 #[vR a, vR ko, vI 0, .unset] [(.int 1), (.ref hc), (.int 1), (.ref hc)])) rfl rfl (hb hby d28_26))
    refine Go T4 (mkF m 28 #[vR a, vR ko, vI 0, .unset] [(.int 1), (.int 1), (.int 1), (.ref hc)]) ?_ (fun t_ k_ => XS.iconst X4.here hx rfl (hb hby d28_27) k_)
    refine Go T4 (mkF m 29 #[vR a, vR ko, vI 0, .unset] [(.int 0), (.int 1), (.ref hc)]) ?_ (fun t_ k_ => XS.isub X4.here hx rfl (hb hby d28_28) rfl k_)
    obtain ⟨T5, h5, X5, e5, W5, st5⟩ := stI X4 hx hZ e4 AH (j := (1 : Int32)) (inb_of SH_ ⟨by decide, by decide⟩) (g := (mkF m 29 #[vR a, vR ko, vI 0, .unset] [(.int 0), (.int 1), (.ref hc)])) rfl rfl (hb hby d28_29)
    have N5 := Fr.snoc X5 N3 (Nat.le_trans gB tl1.bh)
    have Z5 : n0 ≤ h5.size := Nat.le_trans Zc1 (Nat.le_of_eq W5.size.symm)
    refine Go T5 (mkF m 30 #[vR a, vR ko, vI 0, .unset] []) ?_ st5
    have fx6 := tl1.FH.other W5 (Or.inl ahc)
    have fx7 := tl1.FK.other W5 (Or.inl ahc)
    have fx8 := tl1.FS.other W5 (Or.inl ahc)
    have fx9 := tl1.FZ.other W5 (Or.inl ahc)
    have fx10 := tl1.E.wr W5
    have fx11 := tl1.VK.other W5 (Ne.symm tl1.hne)
    have kp12 := kp2.wr W5 (Or.inl (by simp))
    have V5 : Arv Z h5 hc kh .int 4 [.int w2, .int 0, .int 0, .int 0] (.int 0) := Arv.set AH qH SH_ MH HH GH rfl W5 1 rfl (Nat.le_of_ble_eq_true rfl)
    have ky5 := ky1.keep KC ((Keep.refl _ [hc]).wr W5 (Or.inl (List.mem_cons_self ..))) (own_sfC (P := fun z => B ≤ z) tl1.bh (fun y hy => absurd hy List.not_mem_nil))
    have TN : Tly Z h5 B a hc ks kh kk ko w2 (0 : Int32) := ⟨fx10, fx6, fx7, fx8, fx9, (by rw [hbm, own_hs0]; exact V5), fx11, tl1.OV, tl1.hne, tl1.ba, tl1.bh, tl1.bk⟩
    obtain ⟨cH2, AH2, qH2, SH2, MH2, HH2, GH2⟩ := id V5
    refine Go T5 (mkF m 31 #[vR a, vR ko, vI 0, .unset] [(.ref a)]) ?_ (fun t_ k_ => XS.aloadN X5.here hx rfl (hb hby d28_30) rfl rfl k_)
    obtain ⟨T13, X13, e13, st13⟩ := getF X5 hx hZ hown (host := "") (Or.inl (wq hw 157 rfl)) Via.refl e5 fx6 (g := (mkF m 31 #[vR a, vR ko, vI 0, .unset] [(.ref a)])) rfl rfl (hb hby d28_31)
    refine Go T13 (mkF m 34 #[vR a, vR ko, vI 0, .unset] [(.ref hc)]) ?_ st13
    refine Go T13 (mkF m 35 #[vR a, vR ko, vI 0, .unset] [(.int 2), (.ref hc)]) ?_ (fun t_ k_ => XS.iconst X13.here hx rfl (hb hby d28_34) k_)
    refine Go T13 (mkF m 36 #[vR a, vR ko, vI 0, .unset] [(.int 0), (.int 2), (.ref hc)]) ?_ (fun t_ k_ => XS.iloadN X13.here hx rfl (hb hby d28_35) rfl k_)
    refine Go T13 (mkF m 37 #[vR a, vR ko, vI 0, .unset] [(.int 0), (.ref hc)]) ?_ (fun t_ k_ => XS.imul X13.here hx rfl (hb hby d28_36) rfl k_)
    refine Go T13 (mkF m 38 #[vR a, vR ko, vI 0, .unset] [(.int 1), (.int 0), (.ref hc)]) ?_ (fun t_ k_ => XS.iconst X13.here hx rfl (hb hby d28_37) k_)
    refine Go T13 (mkF m 39 #[vR a, vR ko, vI 0, .unset] [(.int 1), (.ref hc)]) ?_ (fun t_ k_ => XS.iadd X13.here hx rfl (hb hby d28_38) rfl k_)
    refine Go T13 (mkF m 40 #[vR a, vR ko, vI 0, .unset] [(.int 0)]) ?_ (X13.iaload hx (j := (1 : Int32)) (v := (.int 0)) (by rw [e13]; exact AH2.1) (State.isArrayOf_alike hZ.alike AH2.2.1) AH2.2.2 (inb_of SH2 ⟨by decide, by decide⟩) (by have q := HH2 1 (by rw [SH2]; decide); exact q) (g := (mkF m 39 #[vR a, vR ko, vI 0, .unset] [(.int 1), (.ref hc)])) rfl rfl (hb hby d28_39))
    refine Go T13 (mkF m 43 #[vR a, vR ko, vI 0, .unset] []) ?_ (fun t_ k_ => XS.ifNo X13.here hx rfl (hb hby d28_40) rfl (by decide) k_)
    refine Go T13 (mkF m 44 #[vR a, vR ko, vI 0, .unset] [(.int 1)]) ?_ (fun t_ k_ => XS.iconst X13.here hx rfl (hb hby d28_43) k_)
    refine Go T13 (mkF m 48 #[vR a, vR ko, vI 0, .unset] [(.int 1)]) ?_ (fun t_ k_ => XS.goto X13.here hx rfl (pc0 := 44) (pc' := 48) rfl (hb hby d28_44) (by decide) (by decide) k_)
    refine Go T13 (mkF m 49 #[vR a, vR ko, vI 0, vI 1] []) ?_ (fun t_ k_ => XS.istoreN X13.here hx rfl (hb hby d28_48) rfl (l' := #[vR a, vR ko, vI 0, vI 1]) rfl k_)
    refine Go T13 (mkF m 50 #[vR a, vR ko, vI 0, vI 1] [(.int 1)]) ?_ (fun t_ k_ => XS.iloadN X13.here hx rfl (hb hby d28_49) rfl k_)
    refine Go T13 (mkF m 53 #[vR a, vR ko, vI 0, vI 1] []) ?_ (fun t_ k_ => XS.ifNo X13.here hx rfl (hb hby d28_50) rfl (by decide) k_)
    refine Go T13 (mkF m 54 #[vR a, vR ko, vI 0, vI 1] [(.ref a)]) ?_ (fun t_ k_ => XS.aloadN X13.here hx rfl (hb hby d28_53) rfl rfl k_)
    refine Go T13 (mkF m 55 #[vR a, vR ko, vI 0, vI 1] [(.int 0), (.ref a)]) ?_ (fun t_ k_ => XS.iloadN X13.here hx rfl (hb hby d28_54) rfl k_)
    obtain ⟨cq14, q14, q14'⟩ := TN.E.cell
    obtain ⟨_, _, ⟨T14, Lq_14, kq_14, nq_14⟩, -, X14, ⟨Lc14, hQ14, l14, y14, z14⟩, st14⟩ := X13.privateBack hx (y := mN17) hown (mvT hZ (wq hw 193 rfl)) (mvT hZ (wq hw 194 rfl)) (mvT hZ (own_selP (y := mN17) (wq hw 151 rfl) (wq hw 195 rfl) (wq hw 194 rfl) (by decide))) (Cond.privateMethod_at (mvP hZ (wq hw 195 rfl) (args := #[]))) (mvT hZ (wq hw 196 rfl)) (by decide) (backOf (W := 0) (rmE0 l Z a0 hw [] B a hc ks kh kk ko w2 (0 : Int32) h5 n0 Z5 TN hbm gB) hZ (wq hw 196 rfl) (wq hw 152 rfl) (by decide) (by decide)) (g := (mkF m 55 #[vR a, vR ko, vI 0, vI 1] [(.int 0), (.ref a)])) rfl (by rw [hml]; rfl) (Steps.refl _) (a := a) (by rw [e13]; exact q14) q14' (argsL := [(.int 0)]) (rest := []) (lenOf pd_14 rfl) rfl (by show 2 * 0 + _ ≤ _; exact Nat.le_of_eq rfl) (hb hby d28_55) (fun _ _ => ⟨rfl, e13, (by decide : 0 + 0 ≤ _), (by decide : 0 + 0 ≤ _)⟩)
    dsimp only [Pt.U, Pt.locs, Pt.cells, Pt.slots] at X14 l14 y14 z14 st14 hQ14
    rw [l14, y14, z14] at X14
    change Stand p l e _ _ m _ below meth c T14 _ 0 0 at X14
    obtain ⟨rfl, N14q, K14⟩ := hQ14
    have N14 := Fr.app N5 N14q
    refine Go T14 (mkF m 58 #[vR a, vR ko, vI 0, vI 1] []) ?_ (fun t => st14.trans)
    have Zp : n0 ≤ T14.heap.size := Nat.le_trans Z5 K14.1
    have ky14 := ky5.keep KC K14 (own_sfC (P := fun z => B ≤ z) tl1.bh (own_sfC (P := fun z => B ≤ z) tl1.bk (fun y hy => absurd hy List.not_mem_nil)))
    have fx15 := fx6.keep K14 (ninS ahc (ninS aks nin0))
    have fx16 := fx7.keep K14 (ninS ahc (ninS aks nin0))
    have fx17 := fx8.keep K14 (ninS ahc (ninS aks nin0))
    have fx18 := fx9.keep K14 (ninS ahc (ninS aks nin0))
    have fx19 := fx10.keep K14
    have kp20 := kp12.trans K14 (allS (Or.inl (by simp)) (allS (Or.inl (by simp)) all0))
    refine Go T14 (mkF m 59 #[vR a, vR ko, vI 0, vI 1] [(.ref a)]) ?_ (fun t_ k_ => XS.aloadN X14.here hx rfl (hb hby d28_58) rfl rfl k_)
    refine Go T14 (mkF m 60 #[vR a, vR ko, vI 0, vI 1] [(.ref a), (.ref a)]) ?_ (fun t_ k_ => XS.dup X14.here hx rfl (hb hby d28_59) rfl rfl k_)
    obtain ⟨T21, X21, e21, st21⟩ := getF X14 hx hZ hown (host := "") (Or.inl (wq hw 182 rfl)) Via.refl rfl fx18 (g := (mkF m 60 #[vR a, vR ko, vI 0, vI 1] [(.ref a), (.ref a)])) rfl rfl (hb hby d28_60)
    refine Go T21 (mkF m 63 #[vR a, vR ko, vI 0, vI 1] [(.int 1), (.ref a)]) ?_ st21
    refine Go T21 (mkF m 64 #[vR a, vR ko, vI 0, vI 1] [(.int 1), (.int 1), (.ref a)]) ?_ (fun t_ k_ => XS.iconst X21.here hx rfl (hb hby d28_63) k_)
    refine Go T21 (mkF m 65 #[vR a, vR ko, vI 0, vI 1] [(.int 0), (.ref a)]) ?_ (fun t_ k_ => XS.isub X21.here hx rfl (hb hby d28_64) rfl k_)
    obtain ⟨T22, h22, X22, e22, W22, st22⟩ := putF X21 hx hZ hown (host := "") (Or.inl (wq hw 182 rfl)) Via.refl e21 fx18 fx19 (Or.inl (wq hw 183 rfl)) (wq hw 151 rfl) (ty := .int) (by decide) rfl rfl (g := (mkF m 65 #[vR a, vR ko, vI 0, vI 1] [(.int 0), (.ref a)])) rfl rfl (hb hby d28_65)
    have N22 := Fr.snoc X22 N14 (Nat.le_trans gB tl1.ba)
    have Z22 : n0 ≤ h22.size := Nat.le_trans Zp (Nat.le_of_eq W22.size.symm)
    refine Go T22 (mkF m 68 #[vR a, vR ko, vI 0, vI 1] []) ?_ st22
    have fx23 := fx15.other W22 (Or.inr (slot_ne (Or.inl (wq hw 158 rfl)) (Or.inl (wq hw 183 rfl)) (by decide) (t := (.array .int)) (t' := .int) (by decide) (by decide)))
    have fx24 := fx16.other W22 (Or.inr (slot_ne (Or.inl (wq hw 161 rfl)) (Or.inl (wq hw 183 rfl)) (by decide) (t := (.array (.object "java/lang/Object"))) (t' := .int) (by decide) (by decide)))
    have fx25 := fx17.other W22 (Or.inr (slot_ne (Or.inl (wq hw 163 rfl)) (Or.inl (wq hw 183 rfl)) (by decide) (t := .int) (t' := .int) (by decide) (by decide)))
    have fx26 := fx18.same W22
    have fx27 := fx19.wr W22
    have kp28 := kp20.wr W22 (Or.inl (by simp))
    have ky22 := ky14.keep KC ((Keep.refl _ [a]).wr W22 (Or.inl (List.mem_cons_self ..))) (own_sfC (P := fun z => B ≤ z) tl1.ba (fun y hy => absurd hy List.not_mem_nil))
    refine Go T22 (mkF m 69 #[vR a, vR ko, vI 0, vI 1] [(.int 1)]) ?_ (fun t_ k_ => XS.iloadN X22.here hx rfl (hb hby d28_68) rfl k_)
    rw [hWd]
    exact Goes.retn X22 (v := some (.int (nar .boolean (1 : Int32)))) (fun fs hr => retN X22 hx (t := .boolean) Bd.returns (by simp) (hb hby d28_69) hr) (fun h => by rw [Bd.returns] at h; cases h) Bd.notSynchronized (by decide) (by decide) (by rw [e22]; exact ⟨rfl, N22, kp28, ky22, fx27, fx26⟩)
  · rw [hbm]
    have ahc : a ≠ hc := Exa.neArv tl1.E tl1.VH (wq hw 151 rfl)
    have aks : a ≠ ks := Exa.neArv tl1.E tl1.VK (wq hw 151 rfl)
    have VHb : Arv Z T1.heap hc kh .int 4 [.int 0, .int 0, .int w2, .int 1] (.int 0) := by have q := tl1.VH; rw [hbm, own_hs1] at q; exact q
    obtain ⟨cH, AH, qH, SH_, MH, HH, GH⟩ := id VHb
    refine Go T3 (mkF m 10 #[vR a, vR ko, vI 1, .unset] []) ?_ (fun t_ k_ => XS.istoreN X3.here hx rfl (hb hby d28_9) rfl (l' := #[vR a, vR ko, vI 1, .unset]) rfl k_)
    refine Go T3 (mkF m 11 #[vR a, vR ko, vI 1, .unset] [(.int 1)]) ?_ (fun t_ k_ => XS.iloadN X3.here hx rfl (hb hby d28_10) rfl k_)
    refine Go T3 (mkF m 16 #[vR a, vR ko, vI 1, .unset] []) ?_ (fun t_ k_ => XS.ifYes X3.here hx rfl (pc0 := 11) (pc' := 16) rfl (hb hby d28_11) rfl (by decide) (by decide) (by decide) k_)
    refine Go T3 (mkF m 17 #[vR a, vR ko, vI 1, .unset] [(.ref a)]) ?_ (fun t_ k_ => XS.aloadN X3.here hx rfl (hb hby d28_16) rfl rfl k_)
    obtain ⟨T29, X29, e29, st29⟩ := getF X3 hx hZ hown (host := "") (Or.inl (wq hw 157 rfl)) Via.refl eh3 tl1.FH (g := (mkF m 17 #[vR a, vR ko, vI 1, .unset] [(.ref a)])) rfl rfl (hb hby d28_17)
    refine Go T29 (mkF m 20 #[vR a, vR ko, vI 1, .unset] [(.ref hc)]) ?_ st29
    refine Go T29 (mkF m 21 #[vR a, vR ko, vI 1, .unset] [(.int 2), (.ref hc)]) ?_ (fun t_ k_ => XS.iconst X29.here hx rfl (hb hby d28_20) k_)
    refine Go T29 (mkF m 22 #[vR a, vR ko, vI 1, .unset] [(.int 1), (.int 2), (.ref hc)]) ?_ (fun t_ k_ => XS.iloadN X29.here hx rfl (hb hby d28_21) rfl k_)
    refine Go T29 (mkF m 23 #[vR a, vR ko, vI 1, .unset] [(.int 2), (.ref hc)]) ?_ (fun t_ k_ => XS.imul X29.here hx rfl (hb hby d28_22) rfl k_)
    refine Go T29 (mkF m 24 #[vR a, vR ko, vI 1, .unset] [(.int 1), (.int 2), (.ref hc)]) ?_ (fun t_ k_ => XS.iconst X29.here hx rfl (hb hby d28_23) k_)
    refine Go T29 (mkF m 25 #[vR a, vR ko, vI 1, .unset] [(.int 3), (.ref hc)]) ?_ (fun t_ k_ => XS.iadd X29.here hx rfl (hb hby d28_24) rfl k_)
    refine Go T29 (mkF m 26 #[vR a, vR ko, vI 1, .unset] [(.int 3), (.ref hc), (.int 3), (.ref hc)]) ?_ (fun t_ k_ => Jvm.Free.XT.dup2 X29.here hx rfl (hb hby d28_25) rfl rfl rfl k_)
    refine Go T29 (mkF m 27 #[vR a, vR ko, vI 1, .unset] [(.int 1), (.int 3), (.ref hc)]) ?_ (X29.iaload hx (j := (3 : Int32)) (v := (.int 1)) (by rw [e29]; exact AH.1) (State.isArrayOf_alike hZ.alike AH.2.1) AH.2.2 (inb_of SH_ ⟨by decide, by decide⟩) (by have q := HH 3 (by rw [SH_]; decide); exact q) (g := (mkF m 26 #[vR a, vR ko, vI 1, .unset] [(.int 3), (.ref hc), (.int 3), (.ref hc)])) rfl rfl (hb hby d28_26))
    refine Go T29 (mkF m 28 #[vR a, vR ko, vI 1, .unset] [(.int 1), (.int 1), (.int 3), (.ref hc)]) ?_ (fun t_ k_ => XS.iconst X29.here hx rfl (hb hby d28_27) k_)
    refine Go T29 (mkF m 29 #[vR a, vR ko, vI 1, .unset] [(.int 0), (.int 3), (.ref hc)]) ?_ (fun t_ k_ => XS.isub X29.here hx rfl (hb hby d28_28) rfl k_)
    obtain ⟨T30, h30, X30, e30, W30, st30⟩ := stI X29 hx hZ e29 AH (j := (3 : Int32)) (inb_of SH_ ⟨by decide, by decide⟩) (g := (mkF m 29 #[vR a, vR ko, vI 1, .unset] [(.int 0), (.int 3), (.ref hc)])) rfl rfl (hb hby d28_29)
    have N30 := Fr.snoc X30 N3 (Nat.le_trans gB tl1.bh)
    have Z30 : n0 ≤ h30.size := Nat.le_trans Zc1 (Nat.le_of_eq W30.size.symm)
    refine Go T30 (mkF m 30 #[vR a, vR ko, vI 1, .unset] []) ?_ st30
    have fx31 := tl1.FH.other W30 (Or.inl ahc)
    have fx32 := tl1.FK.other W30 (Or.inl ahc)
    have fx33 := tl1.FS.other W30 (Or.inl ahc)
    have fx34 := tl1.FZ.other W30 (Or.inl ahc)
    have fx35 := tl1.E.wr W30
    have fx36 := tl1.VK.other W30 (Ne.symm tl1.hne)
    have kp37 := kp2.wr W30 (Or.inl (by simp))
    have V30 : Arv Z h30 hc kh .int 4 [.int 0, .int 0, .int w2, .int 0] (.int 0) := Arv.set AH qH SH_ MH HH GH rfl W30 3 rfl (Nat.le_of_ble_eq_true rfl)
    have ky30 := ky1.keep KC ((Keep.refl _ [hc]).wr W30 (Or.inl (List.mem_cons_self ..))) (own_sfC (P := fun z => B ≤ z) tl1.bh (fun y hy => absurd hy List.not_mem_nil))
    have TN : Tly Z h30 B a hc ks kh kk ko w2 (0 : Int32) := ⟨fx35, fx31, fx32, fx33, fx34, (by rw [hbm, own_hs1]; exact V30), fx36, tl1.OV, tl1.hne, tl1.ba, tl1.bh, tl1.bk⟩
    obtain ⟨cH2, AH2, qH2, SH2, MH2, HH2, GH2⟩ := id V30
    refine Go T30 (mkF m 31 #[vR a, vR ko, vI 1, .unset] [(.ref a)]) ?_ (fun t_ k_ => XS.aloadN X30.here hx rfl (hb hby d28_30) rfl rfl k_)
    obtain ⟨T38, X38, e38, st38⟩ := getF X30 hx hZ hown (host := "") (Or.inl (wq hw 157 rfl)) Via.refl e30 fx31 (g := (mkF m 31 #[vR a, vR ko, vI 1, .unset] [(.ref a)])) rfl rfl (hb hby d28_31)
    refine Go T38 (mkF m 34 #[vR a, vR ko, vI 1, .unset] [(.ref hc)]) ?_ st38
    refine Go T38 (mkF m 35 #[vR a, vR ko, vI 1, .unset] [(.int 2), (.ref hc)]) ?_ (fun t_ k_ => XS.iconst X38.here hx rfl (hb hby d28_34) k_)
    refine Go T38 (mkF m 36 #[vR a, vR ko, vI 1, .unset] [(.int 1), (.int 2), (.ref hc)]) ?_ (fun t_ k_ => XS.iloadN X38.here hx rfl (hb hby d28_35) rfl k_)
    refine Go T38 (mkF m 37 #[vR a, vR ko, vI 1, .unset] [(.int 2), (.ref hc)]) ?_ (fun t_ k_ => XS.imul X38.here hx rfl (hb hby d28_36) rfl k_)
    refine Go T38 (mkF m 38 #[vR a, vR ko, vI 1, .unset] [(.int 1), (.int 2), (.ref hc)]) ?_ (fun t_ k_ => XS.iconst X38.here hx rfl (hb hby d28_37) k_)
    refine Go T38 (mkF m 39 #[vR a, vR ko, vI 1, .unset] [(.int 3), (.ref hc)]) ?_ (fun t_ k_ => XS.iadd X38.here hx rfl (hb hby d28_38) rfl k_)
    refine Go T38 (mkF m 40 #[vR a, vR ko, vI 1, .unset] [(.int 0)]) ?_ (X38.iaload hx (j := (3 : Int32)) (v := (.int 0)) (by rw [e38]; exact AH2.1) (State.isArrayOf_alike hZ.alike AH2.2.1) AH2.2.2 (inb_of SH2 ⟨by decide, by decide⟩) (by have q := HH2 3 (by rw [SH2]; decide); exact q) (g := (mkF m 39 #[vR a, vR ko, vI 1, .unset] [(.int 3), (.ref hc)])) rfl rfl (hb hby d28_39))
    refine Go T38 (mkF m 43 #[vR a, vR ko, vI 1, .unset] []) ?_ (fun t_ k_ => XS.ifNo X38.here hx rfl (hb hby d28_40) rfl (by decide) k_)
    refine Go T38 (mkF m 44 #[vR a, vR ko, vI 1, .unset] [(.int 1)]) ?_ (fun t_ k_ => XS.iconst X38.here hx rfl (hb hby d28_43) k_)
    refine Go T38 (mkF m 48 #[vR a, vR ko, vI 1, .unset] [(.int 1)]) ?_ (fun t_ k_ => XS.goto X38.here hx rfl (pc0 := 44) (pc' := 48) rfl (hb hby d28_44) (by decide) (by decide) k_)
    refine Go T38 (mkF m 49 #[vR a, vR ko, vI 1, vI 1] []) ?_ (fun t_ k_ => XS.istoreN X38.here hx rfl (hb hby d28_48) rfl (l' := #[vR a, vR ko, vI 1, vI 1]) rfl k_)
    refine Go T38 (mkF m 50 #[vR a, vR ko, vI 1, vI 1] [(.int 1)]) ?_ (fun t_ k_ => XS.iloadN X38.here hx rfl (hb hby d28_49) rfl k_)
    refine Go T38 (mkF m 53 #[vR a, vR ko, vI 1, vI 1] []) ?_ (fun t_ k_ => XS.ifNo X38.here hx rfl (hb hby d28_50) rfl (by decide) k_)
    refine Go T38 (mkF m 54 #[vR a, vR ko, vI 1, vI 1] [(.ref a)]) ?_ (fun t_ k_ => XS.aloadN X38.here hx rfl (hb hby d28_53) rfl rfl k_)
    refine Go T38 (mkF m 55 #[vR a, vR ko, vI 1, vI 1] [(.int 1), (.ref a)]) ?_ (fun t_ k_ => XS.iloadN X38.here hx rfl (hb hby d28_54) rfl k_)
    obtain ⟨cq39, q39, q39'⟩ := TN.E.cell
    obtain ⟨_, _, ⟨T39, Lq_39, kq_39, nq_39⟩, -, X39, ⟨Lc39, hQ39, l39, y39, z39⟩, st39⟩ := X38.privateBack hx (y := mN17) hown (mvT hZ (wq hw 193 rfl)) (mvT hZ (wq hw 194 rfl)) (mvT hZ (own_selP (y := mN17) (wq hw 151 rfl) (wq hw 195 rfl) (wq hw 194 rfl) (by decide))) (Cond.privateMethod_at (mvP hZ (wq hw 195 rfl) (args := #[]))) (mvT hZ (wq hw 196 rfl)) (by decide) (backOf (W := 0) (rmE1 l Z a0 hw [] B a hc ks kh kk ko w2 (0 : Int32) h30 n0 Z30 TN hbm gB) hZ (wq hw 196 rfl) (wq hw 152 rfl) (by decide) (by decide)) (g := (mkF m 55 #[vR a, vR ko, vI 1, vI 1] [(.int 1), (.ref a)])) rfl (by rw [hml]; rfl) (Steps.refl _) (a := a) (by rw [e38]; exact q39) q39' (argsL := [(.int 1)]) (rest := []) (lenOf pd_14 rfl) rfl (by show 2 * 0 + _ ≤ _; exact Nat.le_of_eq rfl) (hb hby d28_55) (fun _ _ => ⟨rfl, e38, (by decide : 0 + 0 ≤ _), (by decide : 0 + 0 ≤ _)⟩)
    dsimp only [Pt.U, Pt.locs, Pt.cells, Pt.slots] at X39 l39 y39 z39 st39 hQ39
    rw [l39, y39, z39] at X39
    change Stand p l e _ _ m _ below meth c T39 _ 0 0 at X39
    obtain ⟨rfl, N39q, K39⟩ := hQ39
    have N39 := Fr.app N30 N39q
    refine Go T39 (mkF m 58 #[vR a, vR ko, vI 1, vI 1] []) ?_ (fun t => st39.trans)
    have Zp : n0 ≤ T39.heap.size := Nat.le_trans Z30 K39.1
    have ky39 := ky30.keep KC K39 (own_sfC (P := fun z => B ≤ z) tl1.bh (own_sfC (P := fun z => B ≤ z) tl1.bk (fun y hy => absurd hy List.not_mem_nil)))
    have fx40 := fx31.keep K39 (ninS ahc (ninS aks nin0))
    have fx41 := fx32.keep K39 (ninS ahc (ninS aks nin0))
    have fx42 := fx33.keep K39 (ninS ahc (ninS aks nin0))
    have fx43 := fx34.keep K39 (ninS ahc (ninS aks nin0))
    have fx44 := fx35.keep K39
    have kp45 := kp37.trans K39 (allS (Or.inl (by simp)) (allS (Or.inl (by simp)) all0))
    refine Go T39 (mkF m 59 #[vR a, vR ko, vI 1, vI 1] [(.ref a)]) ?_ (fun t_ k_ => XS.aloadN X39.here hx rfl (hb hby d28_58) rfl rfl k_)
    refine Go T39 (mkF m 60 #[vR a, vR ko, vI 1, vI 1] [(.ref a), (.ref a)]) ?_ (fun t_ k_ => XS.dup X39.here hx rfl (hb hby d28_59) rfl rfl k_)
    obtain ⟨T46, X46, e46, st46⟩ := getF X39 hx hZ hown (host := "") (Or.inl (wq hw 182 rfl)) Via.refl rfl fx43 (g := (mkF m 60 #[vR a, vR ko, vI 1, vI 1] [(.ref a), (.ref a)])) rfl rfl (hb hby d28_60)
    refine Go T46 (mkF m 63 #[vR a, vR ko, vI 1, vI 1] [(.int 1), (.ref a)]) ?_ st46
    refine Go T46 (mkF m 64 #[vR a, vR ko, vI 1, vI 1] [(.int 1), (.int 1), (.ref a)]) ?_ (fun t_ k_ => XS.iconst X46.here hx rfl (hb hby d28_63) k_)
    refine Go T46 (mkF m 65 #[vR a, vR ko, vI 1, vI 1] [(.int 0), (.ref a)]) ?_ (fun t_ k_ => XS.isub X46.here hx rfl (hb hby d28_64) rfl k_)
    obtain ⟨T47, h47, X47, e47, W47, st47⟩ := putF X46 hx hZ hown (host := "") (Or.inl (wq hw 182 rfl)) Via.refl e46 fx43 fx44 (Or.inl (wq hw 183 rfl)) (wq hw 151 rfl) (ty := .int) (by decide) rfl rfl (g := (mkF m 65 #[vR a, vR ko, vI 1, vI 1] [(.int 0), (.ref a)])) rfl rfl (hb hby d28_65)
    have N47 := Fr.snoc X47 N39 (Nat.le_trans gB tl1.ba)
    have Z47 : n0 ≤ h47.size := Nat.le_trans Zp (Nat.le_of_eq W47.size.symm)
    refine Go T47 (mkF m 68 #[vR a, vR ko, vI 1, vI 1] []) ?_ st47
    have fx48 := fx40.other W47 (Or.inr (slot_ne (Or.inl (wq hw 158 rfl)) (Or.inl (wq hw 183 rfl)) (by decide) (t := (.array .int)) (t' := .int) (by decide) (by decide)))
    have fx49 := fx41.other W47 (Or.inr (slot_ne (Or.inl (wq hw 161 rfl)) (Or.inl (wq hw 183 rfl)) (by decide) (t := (.array (.object "java/lang/Object"))) (t' := .int) (by decide) (by decide)))
    have fx50 := fx42.other W47 (Or.inr (slot_ne (Or.inl (wq hw 163 rfl)) (Or.inl (wq hw 183 rfl)) (by decide) (t := .int) (t' := .int) (by decide) (by decide)))
    have fx51 := fx43.same W47
    have fx52 := fx44.wr W47
    have kp53 := kp45.wr W47 (Or.inl (by simp))
    have ky47 := ky39.keep KC ((Keep.refl _ [a]).wr W47 (Or.inl (List.mem_cons_self ..))) (own_sfC (P := fun z => B ≤ z) tl1.ba (fun y hy => absurd hy List.not_mem_nil))
    refine Go T47 (mkF m 69 #[vR a, vR ko, vI 1, vI 1] [(.int 1)]) ?_ (fun t_ k_ => XS.iloadN X47.here hx rfl (hb hby d28_68) rfl k_)
    rw [hWd]
    exact Goes.retn X47 (v := some (.int (nar .boolean (1 : Int32)))) (fun fs hr => retN X47 hx (t := .boolean) Bd.returns (by simp) (hb hby d28_69) hr) (fun h => by rw [Bd.returns] at h; cases h) Bd.notSynchronized (by decide) (by decide) (by rw [e47]; exact ⟨rfl, N47, kp53, ky47, fx52, fx51⟩)
def QRO1 (Z : State) (B : Nat) (t tt i ti r tr ku ko : Addr) (kt ki kr : ClassId) (ct ci cr w2 : Int32) (zc : Int32) (a hc ks : Addr) (kh kk : ClassId) (mc : Int32) (h0 : Heap) (n0 : Nat) (v : Option Value) (h : Heap) (L : List Loc) : Prop := v = some (.int 0) ∧ Fr n0 L ∧ Keep h0 h [t, i, r, a, hc, ks] ∧ KA Z h t tt i ti r tr ku ko kt ki kr ct ci cr w2 ∧ Tly Z h B a hc ks kh kk ko w2 (mc - (1 : Int32))
set_option maxRecDepth 65536 in
set_option maxHeartbeats 40000000 in
theorem rmRO1 (l : Launch) (Z : State) (a0 : Array Value) (hw : ∀ d ∈ tables_1, d.before a0 Z = true) (ws : List Jvm.Cond) (B : Nat) (t tt i ti r tr ku ko : Addr) (kt ki kr : ClassId) (ct ci cr w2 : Int32) (zc : Int32) (a hc ks : Addr) (kh kk : ClassId) (mc : Int32) (h0 : Heap) (n0 : Nat) (Z0 : n0 ≤ h0.size) (KY : KA Z h0 t tt i ti r tr ku ko kt ki kr ct ci cr w2) (KC : KD n0 B t tt i ti r tr ku ko ct ci cr) (gB : n0 ≤ B) (bB : B ≤ h0.size) (CS : Sta Z Z.heap "java/lang/String" "COMPACT_STRINGS" "Z" (.int zc)) (hzc : ¬ zc = (0 : Int32)) (X0_ : Old Z n0 h0) (TL : Tly Z h0 B a hc ks kh kk ko w2 mc) (hm : ¬ mc = 0) (hm1 : ¬ mc - (1 : Int32) = 0) :
    MetFree l mN25 (head1 (Jvm.Cond.code mN25 cD25 4 (some .boolean) :: ws) ({ frames := 2, cells := 0, slots := 0, locals := 36 } : Room)) (fun a_ U => a_ = #[(.ref a), (.ref ko)] ∧ Z.Warmed39 U.vm ∧ U.heap = h0) (fun _ _ _ _ _ => True) (fun _ U o U' => ∃ v L, o = .returned v ∧ QRO1 Z B t tt i ti r tr ku ko kt ki kr ct ci cr w2 zc a hc ks kh kk mc h0 n0 v U'.heap L ∧ FrameEnd U o U' L ({ frames := 2, cells := 0, slots := 0, locals := 36 } : Room).cells ({ frames := 2, cells := 0, slots := 0, locals := 36 } : Room).slots) := by
  refine MetFree.of_bodySF (plainFor_of_name pn_5) hisR ?_
  intro p e s m args below meth c s₁ Bd hml0 hP hK
  obtain ⟨rfl, hZ, hh⟩ := hP
  have hx := Bd.exec
  have hby := Bd.bytes
  have hml : c.maxLocals = 4 := hml0
  have hown : s.vm.findClass "com/example/entitlement/entitlement/Tally" = some m.cls := findClass_of_methodNamed Bd.named
  have hnm := (name_of_methodNamed Bd.named Bd.method).1
  have X0 : Stand p l e ({ frames := 2, cells := 0, slots := 0, locals := 36 } : Room) s m #[(.ref a), (.ref ko)] below meth c s₁ [] 0 0 := Stand.of_body Bd
  have e0 : s₁.heap = h0 := by rw [← hh, Bd.state]; rfl
  have N0 := Fr.nil n0
  refine Goes.done ?_
  obtain ⟨W, hWd⟩ : ∃ W : State → Prop, W = EndW s below (QRO1 Z B t tt i ti r tr ku ko kt ki kr ct ci cr w2 zc a hc ks kh kk mc h0 n0) ({ frames := 2, cells := 0, slots := 0, locals := 36 } : Room).cells ({ frames := 2, cells := 0, slots := 0, locals := 36 } : Room).slots := ⟨_, rfl⟩
  rw [← hWd]
  have hef : entryFrame m #[(.ref a), (.ref ko)] 4 = (mkF m 0 #[vR a, vR ko, .unset, .unset] []) := by first | (simp [entryFrame, mkF, argsToLocals, Value.category]; done) | rfl
  rw [hef]
  refine Go s₁ (mkF m 1 #[vR a, vR ko, .unset, .unset] [(.ref a)]) ?_ (fun t_ k_ => XS.aloadN X0.here hx rfl (hb hby d28_0) rfl rfl k_)
  refine Go s₁ (mkF m 2 #[vR a, vR ko, .unset, .unset] [(.ref ko), (.ref a)]) ?_ (fun t_ k_ => XS.aloadN X0.here hx rfl (hb hby d28_1) rfl rfl k_)
  refine Go s₁ (mkF m 3 #[vR a, vR ko, .unset, .unset] [(.ref ko), (.ref ko), (.ref a)]) ?_ (fun t_ k_ => XS.aloadN X0.here hx rfl (hb hby d28_2) rfl rfl k_)
  obtain ⟨cq1, kq1, q1a, q1b, q1c⟩ := isOf hZ e0 KY.o0
  obtain ⟨_, _, ⟨T1, Lq_1, kq_1, nq_1⟩, -, X1, ⟨Lc1, hQ1, l1, y1, z1⟩, st1⟩ := X0.virtualBack hx (y := mN20) (z := mN23) hown (mvT hZ (wq hw 169 rfl)) (mvT hZ (wq hw 170 rfl)) (own_nfO hZ (wq hw 138 rfl) rfl) (mvT hZ (wq hw 202 rfl)) (mvT hZ (wq hw 203 rfl)) (by decide) (backOf (W := 2) (rmHO l Z a0 hw [] B t tt i ti r tr ku ko kt ki kr ct ci cr w2 zc h0 n0 Z0 KY KC gB bB CS hzc X0_) hZ (wq hw 204 rfl) (wq hw 67 rfl) (by decide) (by decide)) q1a q1c (g := (mkF m 3 #[vR a, vR ko, .unset, .unset] [(.ref ko), (.ref ko), (.ref a)])) rfl (by rw [hml]; rfl) (Steps.refl _) (argsL := []) (rest := [(.ref ko), (.ref a)]) (lenOf pd_9 rfl) rfl (by show 2 * 0 + _ ≤ _; exact Nat.le_of_eq rfl) (hb hby d28_3) (fun _ _ => ⟨rfl, e0, (by decide : 0 + 0 ≤ _), (by decide : 0 + 0 ≤ _)⟩)
  dsimp only [Pt.U, Pt.locs, Pt.cells, Pt.slots] at X1 l1 y1 z1 st1 hQ1
  rw [l1, y1, z1] at X1
  change Stand p l e _ _ m _ below meth c T1 _ 0 0 at X1
  obtain ⟨rfl, N1q, K1, ky1⟩ := hQ1
  have N1 := Fr.app N0 N1q
  refine Go T1 (mkF m 6 #[vR a, vR ko, .unset, .unset] [(.int w2), (.ref ko), (.ref a)]) ?_ (fun t => st1.trans)
  have Zc1 : n0 ≤ T1.heap.size := Nat.le_trans Z0 K1.1
  have xo1 : Old Z n0 T1.heap := X0_.keep K1 KC.ge
  have kp2 := (Keep.refl h0 [t, i, r, a, hc, ks]).trans K1 (allS (Or.inl (by simp)) (allS (Or.inl (by simp)) (allS (Or.inl (by simp)) all0)))
  have bb1 : B ≤ T1.heap.size := Nat.le_trans bB K1.1
  have tl1 := TL.keep K1 (own_nhi TL.ba KC.lt) (own_nhi TL.bh KC.lt) (own_nhi TL.bk KC.lt)
  obtain ⟨cq3, q3, q3'⟩ := tl1.E.cell
  obtain ⟨_, _, ⟨T3, Lq_3, kq_3, nq_3⟩, -, X3, ⟨Lc3, hQ3, l3, y3, z3⟩, st3⟩ := X1.privateBack hx (y := mN15) hown (mvT hZ (wq hw 173 rfl)) (mvT hZ (wq hw 174 rfl)) (mvT hZ (own_selP (y := mN15) (wq hw 151 rfl) (wq hw 175 rfl) (wq hw 174 rfl) (by decide))) (Cond.privateMethod_at (mvP hZ (wq hw 175 rfl) (args := #[]))) (mvT hZ (wq hw 176 rfl)) (by decide) (backOf (W := 0) (rmF1 l Z a0 hw [] B a hc ks kh kk ko w2 mc T1.heap n0 Zc1 tl1 hm) hZ (wq hw 176 rfl) (wq hw 152 rfl) (by decide) (by decide)) (g := (mkF m 6 #[vR a, vR ko, .unset, .unset] [(.int w2), (.ref ko), (.ref a)])) rfl (by rw [hml]; rfl) (Steps.refl _) (a := a) q3 q3' (argsL := [(.ref ko), (.int w2)]) (rest := []) (lenOf pd_13 rfl) rfl (by show 2 * 0 + _ ≤ _; exact Nat.le_of_eq rfl) (hb hby d28_6) (fun _ _ => ⟨rfl, rfl, (by decide : 0 + 0 ≤ _), (by decide : 0 + 0 ≤ _)⟩)
  dsimp only [Pt.U, Pt.locs, Pt.cells, Pt.slots] at X3 l3 y3 z3 st3 hQ3
  rw [l3, y3, z3] at X3
  change Stand p l e _ _ m _ below meth c T3 _ 0 0 at X3
  obtain ⟨rfl, N3q, eh3⟩ := hQ3
  have N3 := Fr.app N1 N3q
  refine Go T3 (mkF m 9 #[vR a, vR ko, .unset, .unset] [(.int (own_home w2))]) ?_ (fun t => st3.trans)
  rcases own_home_b w2 with hbm | hbm
  · rw [hbm]
    have ahc : a ≠ hc := Exa.neArv tl1.E tl1.VH (wq hw 151 rfl)
    have aks : a ≠ ks := Exa.neArv tl1.E tl1.VK (wq hw 151 rfl)
    have VHb : Arv Z T1.heap hc kh .int 4 [.int w2, .int mc, .int 0, .int 0] (.int 0) := by have q := tl1.VH; rw [hbm, own_hs0] at q; exact q
    obtain ⟨cH, AH, qH, SH_, MH, HH, GH⟩ := id VHb
    refine Go T3 (mkF m 10 #[vR a, vR ko, vI 0, .unset] []) ?_ (fun t_ k_ => XS.istoreN X3.here hx rfl (hb hby d28_9) rfl (l' := #[vR a, vR ko, vI 0, .unset]) rfl k_)
    refine Go T3 (mkF m 11 #[vR a, vR ko, vI 0, .unset] [(.int 0)]) ?_ (fun t_ k_ => XS.iloadN X3.here hx rfl (hb hby d28_10) rfl k_)
    refine Go T3 (mkF m 16 #[vR a, vR ko, vI 0, .unset] []) ?_ (fun t_ k_ => XS.ifYes X3.here hx rfl (pc0 := 11) (pc' := 16) rfl (hb hby d28_11) rfl (by decide) (by decide) (by decide) k_)
    refine Go T3 (mkF m 17 #[vR a, vR ko, vI 0, .unset] [(.ref a)]) ?_ (fun t_ k_ => XS.aloadN X3.here hx rfl (hb hby d28_16) rfl rfl k_)
    obtain ⟨T4, X4, e4, st4⟩ := getF X3 hx hZ hown (host := "") (Or.inl (wq hw 157 rfl)) Via.refl eh3 tl1.FH (g := (mkF m 17 #[vR a, vR ko, vI 0, .unset] [(.ref a)])) rfl rfl (hb hby d28_17)
    refine Go T4 (mkF m 20 #[vR a, vR ko, vI 0, .unset] [(.ref hc)]) ?_ st4
    refine Go T4 (mkF m 21 #[vR a, vR ko, vI 0, .unset] [(.int 2), (.ref hc)]) ?_ (fun t_ k_ => XS.iconst X4.here hx rfl (hb hby d28_20) k_)
    refine Go T4 (mkF m 22 #[vR a, vR ko, vI 0, .unset] [(.int 0), (.int 2), (.ref hc)]) ?_ (fun t_ k_ => XS.iloadN X4.here hx rfl (hb hby d28_21) rfl k_)
    refine Go T4 (mkF m 23 #[vR a, vR ko, vI 0, .unset] [(.int 0), (.ref hc)]) ?_ (fun t_ k_ => XS.imul X4.here hx rfl (hb hby d28_22) rfl k_)
    refine Go T4 (mkF m 24 #[vR a, vR ko, vI 0, .unset] [(.int 1), (.int 0), (.ref hc)]) ?_ (fun t_ k_ => XS.iconst X4.here hx rfl (hb hby d28_23) k_)
    refine Go T4 (mkF m 25 #[vR a, vR ko, vI 0, .unset] [(.int 1), (.ref hc)]) ?_ (fun t_ k_ => XS.iadd X4.here hx rfl (hb hby d28_24) rfl k_)
    refine Go T4 (mkF m 26 #[vR a, vR ko, vI 0, .unset] [(.int 1), (.ref hc), (.int 1), (.ref hc)]) ?_ (fun t_ k_ => Jvm.Free.XT.dup2 X4.here hx rfl (hb hby d28_25) rfl rfl rfl k_)
    refine Go T4 (mkF m 27 #[vR a, vR ko, vI 0, .unset] [(.int mc), (.int 1), (.ref hc)]) ?_ (X4.iaload hx (j := (1 : Int32)) (v := (.int mc)) (by rw [e4]; exact AH.1) (State.isArrayOf_alike hZ.alike AH.2.1) AH.2.2 (inb_of SH_ ⟨by decide, by decide⟩) (by have q := HH 1 (by rw [SH_]; decide); exact q) (g := (mkF m 26 #[vR a, vR ko, vI 0, .unset] [(.int 1), (.ref hc), (.int 1), (.ref hc)])) rfl rfl (hb hby d28_26))
    refine Go T4 (mkF m 28 #[vR a, vR ko, vI 0, .unset] [(.int 1), (.int mc), (.int 1), (.ref hc)]) ?_ (fun t_ k_ => XS.iconst X4.here hx rfl (hb hby d28_27) k_)
    refine Go T4 (mkF m 29 #[vR a, vR ko, vI 0, .unset] [(.int (mc - (1 : Int32))), (.int 1), (.ref hc)]) ?_ (fun t_ k_ => XS.isub X4.here hx rfl (hb hby d28_28) rfl k_)
    obtain ⟨T5, h5, X5, e5, W5, st5⟩ := stI X4 hx hZ e4 AH (j := (1 : Int32)) (inb_of SH_ ⟨by decide, by decide⟩) (g := (mkF m 29 #[vR a, vR ko, vI 0, .unset] [(.int (mc - (1 : Int32))), (.int 1), (.ref hc)])) rfl rfl (hb hby d28_29)
    have N5 := Fr.snoc X5 N3 (Nat.le_trans gB tl1.bh)
    have Z5 : n0 ≤ h5.size := Nat.le_trans Zc1 (Nat.le_of_eq W5.size.symm)
    refine Go T5 (mkF m 30 #[vR a, vR ko, vI 0, .unset] []) ?_ st5
    have fx6 := tl1.FH.other W5 (Or.inl ahc)
    have fx7 := tl1.FK.other W5 (Or.inl ahc)
    have fx8 := tl1.FS.other W5 (Or.inl ahc)
    have fx9 := tl1.FZ.other W5 (Or.inl ahc)
    have fx10 := tl1.E.wr W5
    have fx11 := tl1.VK.other W5 (Ne.symm tl1.hne)
    have kp12 := kp2.wr W5 (Or.inl (by simp))
    have V5 : Arv Z h5 hc kh .int 4 [.int w2, .int (mc - (1 : Int32)), .int 0, .int 0] (.int 0) := Arv.set AH qH SH_ MH HH GH rfl W5 1 rfl (Nat.le_of_ble_eq_true rfl)
    have ky5 := ky1.keep KC ((Keep.refl _ [hc]).wr W5 (Or.inl (List.mem_cons_self ..))) (own_sfC (P := fun z => B ≤ z) tl1.bh (fun y hy => absurd hy List.not_mem_nil))
    have TN : Tly Z h5 B a hc ks kh kk ko w2 (mc - (1 : Int32)) := ⟨fx10, fx6, fx7, fx8, fx9, (by rw [hbm, own_hs0]; exact V5), fx11, tl1.OV, tl1.hne, tl1.ba, tl1.bh, tl1.bk⟩
    obtain ⟨cH2, AH2, qH2, SH2, MH2, HH2, GH2⟩ := id V5
    refine Go T5 (mkF m 31 #[vR a, vR ko, vI 0, .unset] [(.ref a)]) ?_ (fun t_ k_ => XS.aloadN X5.here hx rfl (hb hby d28_30) rfl rfl k_)
    obtain ⟨T13, X13, e13, st13⟩ := getF X5 hx hZ hown (host := "") (Or.inl (wq hw 157 rfl)) Via.refl e5 fx6 (g := (mkF m 31 #[vR a, vR ko, vI 0, .unset] [(.ref a)])) rfl rfl (hb hby d28_31)
    refine Go T13 (mkF m 34 #[vR a, vR ko, vI 0, .unset] [(.ref hc)]) ?_ st13
    refine Go T13 (mkF m 35 #[vR a, vR ko, vI 0, .unset] [(.int 2), (.ref hc)]) ?_ (fun t_ k_ => XS.iconst X13.here hx rfl (hb hby d28_34) k_)
    refine Go T13 (mkF m 36 #[vR a, vR ko, vI 0, .unset] [(.int 0), (.int 2), (.ref hc)]) ?_ (fun t_ k_ => XS.iloadN X13.here hx rfl (hb hby d28_35) rfl k_)
    refine Go T13 (mkF m 37 #[vR a, vR ko, vI 0, .unset] [(.int 0), (.ref hc)]) ?_ (fun t_ k_ => XS.imul X13.here hx rfl (hb hby d28_36) rfl k_)
    refine Go T13 (mkF m 38 #[vR a, vR ko, vI 0, .unset] [(.int 1), (.int 0), (.ref hc)]) ?_ (fun t_ k_ => XS.iconst X13.here hx rfl (hb hby d28_37) k_)
    refine Go T13 (mkF m 39 #[vR a, vR ko, vI 0, .unset] [(.int 1), (.ref hc)]) ?_ (fun t_ k_ => XS.iadd X13.here hx rfl (hb hby d28_38) rfl k_)
    refine Go T13 (mkF m 40 #[vR a, vR ko, vI 0, .unset] [(.int (mc - (1 : Int32)))]) ?_ (X13.iaload hx (j := (1 : Int32)) (v := (.int (mc - (1 : Int32)))) (by rw [e13]; exact AH2.1) (State.isArrayOf_alike hZ.alike AH2.2.1) AH2.2.2 (inb_of SH2 ⟨by decide, by decide⟩) (by have q := HH2 1 (by rw [SH2]; decide); exact q) (g := (mkF m 39 #[vR a, vR ko, vI 0, .unset] [(.int 1), (.ref hc)])) rfl rfl (hb hby d28_39))
    refine Go T13 (mkF m 47 #[vR a, vR ko, vI 0, .unset] []) ?_ (fun t_ k_ => XS.ifYes X13.here hx rfl (pc0 := 40) (pc' := 47) rfl (hb hby d28_40) rfl ((if0 _ _).trans (feq hm1).2) (by decide) (by decide) k_)
    refine Go T13 (mkF m 48 #[vR a, vR ko, vI 0, .unset] [(.int 0)]) ?_ (fun t_ k_ => XS.iconst X13.here hx rfl (hb hby d28_47) k_)
    refine Go T13 (mkF m 49 #[vR a, vR ko, vI 0, vI 0] []) ?_ (fun t_ k_ => XS.istoreN X13.here hx rfl (hb hby d28_48) rfl (l' := #[vR a, vR ko, vI 0, vI 0]) rfl k_)
    refine Go T13 (mkF m 50 #[vR a, vR ko, vI 0, vI 0] [(.int 0)]) ?_ (fun t_ k_ => XS.iloadN X13.here hx rfl (hb hby d28_49) rfl k_)
    refine Go T13 (mkF m 68 #[vR a, vR ko, vI 0, vI 0] []) ?_ (fun t_ k_ => XS.ifYes X13.here hx rfl (pc0 := 50) (pc' := 68) rfl (hb hby d28_50) rfl (by decide) (by decide) (by decide) k_)
    refine Go T13 (mkF m 69 #[vR a, vR ko, vI 0, vI 0] [(.int 0)]) ?_ (fun t_ k_ => XS.iloadN X13.here hx rfl (hb hby d28_68) rfl k_)
    rw [hWd]
    exact Goes.retn X13 (v := some (.int (nar .boolean (0 : Int32)))) (fun fs hr => retN X13 hx (t := .boolean) Bd.returns (by simp) (hb hby d28_69) hr) (fun h => by rw [Bd.returns] at h; cases h) Bd.notSynchronized (by decide) (by decide) (by rw [e13]; exact ⟨rfl, N5, kp12, ky5, TN⟩)
  · rw [hbm]
    have ahc : a ≠ hc := Exa.neArv tl1.E tl1.VH (wq hw 151 rfl)
    have aks : a ≠ ks := Exa.neArv tl1.E tl1.VK (wq hw 151 rfl)
    have VHb : Arv Z T1.heap hc kh .int 4 [.int 0, .int 0, .int w2, .int mc] (.int 0) := by have q := tl1.VH; rw [hbm, own_hs1] at q; exact q
    obtain ⟨cH, AH, qH, SH_, MH, HH, GH⟩ := id VHb
    refine Go T3 (mkF m 10 #[vR a, vR ko, vI 1, .unset] []) ?_ (fun t_ k_ => XS.istoreN X3.here hx rfl (hb hby d28_9) rfl (l' := #[vR a, vR ko, vI 1, .unset]) rfl k_)
    refine Go T3 (mkF m 11 #[vR a, vR ko, vI 1, .unset] [(.int 1)]) ?_ (fun t_ k_ => XS.iloadN X3.here hx rfl (hb hby d28_10) rfl k_)
    refine Go T3 (mkF m 16 #[vR a, vR ko, vI 1, .unset] []) ?_ (fun t_ k_ => XS.ifYes X3.here hx rfl (pc0 := 11) (pc' := 16) rfl (hb hby d28_11) rfl (by decide) (by decide) (by decide) k_)
    refine Go T3 (mkF m 17 #[vR a, vR ko, vI 1, .unset] [(.ref a)]) ?_ (fun t_ k_ => XS.aloadN X3.here hx rfl (hb hby d28_16) rfl rfl k_)
    obtain ⟨T14, X14, e14, st14⟩ := getF X3 hx hZ hown (host := "") (Or.inl (wq hw 157 rfl)) Via.refl eh3 tl1.FH (g := (mkF m 17 #[vR a, vR ko, vI 1, .unset] [(.ref a)])) rfl rfl (hb hby d28_17)
    refine Go T14 (mkF m 20 #[vR a, vR ko, vI 1, .unset] [(.ref hc)]) ?_ st14
    refine Go T14 (mkF m 21 #[vR a, vR ko, vI 1, .unset] [(.int 2), (.ref hc)]) ?_ (fun t_ k_ => XS.iconst X14.here hx rfl (hb hby d28_20) k_)
    refine Go T14 (mkF m 22 #[vR a, vR ko, vI 1, .unset] [(.int 1), (.int 2), (.ref hc)]) ?_ (fun t_ k_ => XS.iloadN X14.here hx rfl (hb hby d28_21) rfl k_)
    refine Go T14 (mkF m 23 #[vR a, vR ko, vI 1, .unset] [(.int 2), (.ref hc)]) ?_ (fun t_ k_ => XS.imul X14.here hx rfl (hb hby d28_22) rfl k_)
    refine Go T14 (mkF m 24 #[vR a, vR ko, vI 1, .unset] [(.int 1), (.int 2), (.ref hc)]) ?_ (fun t_ k_ => XS.iconst X14.here hx rfl (hb hby d28_23) k_)
    refine Go T14 (mkF m 25 #[vR a, vR ko, vI 1, .unset] [(.int 3), (.ref hc)]) ?_ (fun t_ k_ => XS.iadd X14.here hx rfl (hb hby d28_24) rfl k_)
    refine Go T14 (mkF m 26 #[vR a, vR ko, vI 1, .unset] [(.int 3), (.ref hc), (.int 3), (.ref hc)]) ?_ (fun t_ k_ => Jvm.Free.XT.dup2 X14.here hx rfl (hb hby d28_25) rfl rfl rfl k_)
    refine Go T14 (mkF m 27 #[vR a, vR ko, vI 1, .unset] [(.int mc), (.int 3), (.ref hc)]) ?_ (X14.iaload hx (j := (3 : Int32)) (v := (.int mc)) (by rw [e14]; exact AH.1) (State.isArrayOf_alike hZ.alike AH.2.1) AH.2.2 (inb_of SH_ ⟨by decide, by decide⟩) (by have q := HH 3 (by rw [SH_]; decide); exact q) (g := (mkF m 26 #[vR a, vR ko, vI 1, .unset] [(.int 3), (.ref hc), (.int 3), (.ref hc)])) rfl rfl (hb hby d28_26))
    refine Go T14 (mkF m 28 #[vR a, vR ko, vI 1, .unset] [(.int 1), (.int mc), (.int 3), (.ref hc)]) ?_ (fun t_ k_ => XS.iconst X14.here hx rfl (hb hby d28_27) k_)
    refine Go T14 (mkF m 29 #[vR a, vR ko, vI 1, .unset] [(.int (mc - (1 : Int32))), (.int 3), (.ref hc)]) ?_ (fun t_ k_ => XS.isub X14.here hx rfl (hb hby d28_28) rfl k_)
    obtain ⟨T15, h15, X15, e15, W15, st15⟩ := stI X14 hx hZ e14 AH (j := (3 : Int32)) (inb_of SH_ ⟨by decide, by decide⟩) (g := (mkF m 29 #[vR a, vR ko, vI 1, .unset] [(.int (mc - (1 : Int32))), (.int 3), (.ref hc)])) rfl rfl (hb hby d28_29)
    have N15 := Fr.snoc X15 N3 (Nat.le_trans gB tl1.bh)
    have Z15 : n0 ≤ h15.size := Nat.le_trans Zc1 (Nat.le_of_eq W15.size.symm)
    refine Go T15 (mkF m 30 #[vR a, vR ko, vI 1, .unset] []) ?_ st15
    have fx16 := tl1.FH.other W15 (Or.inl ahc)
    have fx17 := tl1.FK.other W15 (Or.inl ahc)
    have fx18 := tl1.FS.other W15 (Or.inl ahc)
    have fx19 := tl1.FZ.other W15 (Or.inl ahc)
    have fx20 := tl1.E.wr W15
    have fx21 := tl1.VK.other W15 (Ne.symm tl1.hne)
    have kp22 := kp2.wr W15 (Or.inl (by simp))
    have V15 : Arv Z h15 hc kh .int 4 [.int 0, .int 0, .int w2, .int (mc - (1 : Int32))] (.int 0) := Arv.set AH qH SH_ MH HH GH rfl W15 3 rfl (Nat.le_of_ble_eq_true rfl)
    have ky15 := ky1.keep KC ((Keep.refl _ [hc]).wr W15 (Or.inl (List.mem_cons_self ..))) (own_sfC (P := fun z => B ≤ z) tl1.bh (fun y hy => absurd hy List.not_mem_nil))
    have TN : Tly Z h15 B a hc ks kh kk ko w2 (mc - (1 : Int32)) := ⟨fx20, fx16, fx17, fx18, fx19, (by rw [hbm, own_hs1]; exact V15), fx21, tl1.OV, tl1.hne, tl1.ba, tl1.bh, tl1.bk⟩
    obtain ⟨cH2, AH2, qH2, SH2, MH2, HH2, GH2⟩ := id V15
    refine Go T15 (mkF m 31 #[vR a, vR ko, vI 1, .unset] [(.ref a)]) ?_ (fun t_ k_ => XS.aloadN X15.here hx rfl (hb hby d28_30) rfl rfl k_)
    obtain ⟨T23, X23, e23, st23⟩ := getF X15 hx hZ hown (host := "") (Or.inl (wq hw 157 rfl)) Via.refl e15 fx16 (g := (mkF m 31 #[vR a, vR ko, vI 1, .unset] [(.ref a)])) rfl rfl (hb hby d28_31)
    refine Go T23 (mkF m 34 #[vR a, vR ko, vI 1, .unset] [(.ref hc)]) ?_ st23
    refine Go T23 (mkF m 35 #[vR a, vR ko, vI 1, .unset] [(.int 2), (.ref hc)]) ?_ (fun t_ k_ => XS.iconst X23.here hx rfl (hb hby d28_34) k_)
    refine Go T23 (mkF m 36 #[vR a, vR ko, vI 1, .unset] [(.int 1), (.int 2), (.ref hc)]) ?_ (fun t_ k_ => XS.iloadN X23.here hx rfl (hb hby d28_35) rfl k_)
    refine Go T23 (mkF m 37 #[vR a, vR ko, vI 1, .unset] [(.int 2), (.ref hc)]) ?_ (fun t_ k_ => XS.imul X23.here hx rfl (hb hby d28_36) rfl k_)
    refine Go T23 (mkF m 38 #[vR a, vR ko, vI 1, .unset] [(.int 1), (.int 2), (.ref hc)]) ?_ (fun t_ k_ => XS.iconst X23.here hx rfl (hb hby d28_37) k_)
    refine Go T23 (mkF m 39 #[vR a, vR ko, vI 1, .unset] [(.int 3), (.ref hc)]) ?_ (fun t_ k_ => XS.iadd X23.here hx rfl (hb hby d28_38) rfl k_)
    refine Go T23 (mkF m 40 #[vR a, vR ko, vI 1, .unset] [(.int (mc - (1 : Int32)))]) ?_ (X23.iaload hx (j := (3 : Int32)) (v := (.int (mc - (1 : Int32)))) (by rw [e23]; exact AH2.1) (State.isArrayOf_alike hZ.alike AH2.2.1) AH2.2.2 (inb_of SH2 ⟨by decide, by decide⟩) (by have q := HH2 3 (by rw [SH2]; decide); exact q) (g := (mkF m 39 #[vR a, vR ko, vI 1, .unset] [(.int 3), (.ref hc)])) rfl rfl (hb hby d28_39))
    refine Go T23 (mkF m 47 #[vR a, vR ko, vI 1, .unset] []) ?_ (fun t_ k_ => XS.ifYes X23.here hx rfl (pc0 := 40) (pc' := 47) rfl (hb hby d28_40) rfl ((if0 _ _).trans (feq hm1).2) (by decide) (by decide) k_)
    refine Go T23 (mkF m 48 #[vR a, vR ko, vI 1, .unset] [(.int 0)]) ?_ (fun t_ k_ => XS.iconst X23.here hx rfl (hb hby d28_47) k_)
    refine Go T23 (mkF m 49 #[vR a, vR ko, vI 1, vI 0] []) ?_ (fun t_ k_ => XS.istoreN X23.here hx rfl (hb hby d28_48) rfl (l' := #[vR a, vR ko, vI 1, vI 0]) rfl k_)
    refine Go T23 (mkF m 50 #[vR a, vR ko, vI 1, vI 0] [(.int 0)]) ?_ (fun t_ k_ => XS.iloadN X23.here hx rfl (hb hby d28_49) rfl k_)
    refine Go T23 (mkF m 68 #[vR a, vR ko, vI 1, vI 0] []) ?_ (fun t_ k_ => XS.ifYes X23.here hx rfl (pc0 := 50) (pc' := 68) rfl (hb hby d28_50) rfl (by decide) (by decide) (by decide) k_)
    refine Go T23 (mkF m 69 #[vR a, vR ko, vI 1, vI 0] [(.int 0)]) ?_ (fun t_ k_ => XS.iloadN X23.here hx rfl (hb hby d28_68) rfl k_)
    rw [hWd]
    exact Goes.retn X23 (v := some (.int (nar .boolean (0 : Int32)))) (fun fs hr => retN X23 hx (t := .boolean) Bd.returns (by simp) (hb hby d28_69) hr) (fun h => by rw [Bd.returns] at h; cases h) Bd.notSynchronized (by decide) (by decide) (by rw [e23]; exact ⟨rfl, N15, kp22, ky15, TN⟩)
def QDS (Z : State) (B : Nat) (t tt i ti r tr ku ko : Addr) (kt ki kr : ClassId) (ct ci cr w2 : Int32) (zc : Int32) (v_ : Value) (n : Nat) (tl : List Addr) (h0 : Heap) (n0 : Nat) (v : Option Value) (h : Heap) (L : List Loc) : Prop := ∃ v2 tl2, v = some v2 ∧ Fr n0 L ∧ Keep h0 h ([t, i, r] ++ tl) ∧ KA Z h t tt i ti r tr ku ko kt ki kr ct ci cr w2 ∧ HF Z h B v2 t ct (n + 1) tl2 ∧ ∀ y ∈ tl2, y ∈ tl ∨ h0.size ≤ y
set_option maxRecDepth 65536 in
set_option maxHeartbeats 40000000 in
theorem rmDS (l : Launch) (Z : State) (a0 : Array Value) (hw : ∀ d ∈ tables_1, d.before a0 Z = true) (ws : List Jvm.Cond) (B : Nat) (t tt i ti r tr ku ko : Addr) (kt ki kr : ClassId) (ct ci cr w2 : Int32) (zc : Int32) (v_ : Value) (n : Nat) (tl : List Addr) (h0 : Heap) (n0 : Nat) (Z0 : n0 ≤ h0.size) (KY : KA Z h0 t tt i ti r tr ku ko kt ki kr ct ci cr w2) (KC : KD n0 B t tt i ti r tr ku ko ct ci cr) (gB : n0 ≤ B) (bB : B ≤ h0.size) (CS : Sta Z Z.heap "java/lang/String" "COMPACT_STRINGS" "Z" (.int zc)) (hzc : ¬ zc = (0 : Int32)) (X0_ : Old Z n0 h0) (F : HF Z h0 B v_ t ct n tl) (rV : v_.isRef = true) (h9 : n ≤ 8) :
    MetFree l mN26 (head1 (Jvm.Cond.code mN26 cD19 3 (some (.object "com/example/entitlement/entitlement/Tally")) :: ws) ({ frames := 3, cells := 3, slots := 10, locals := 51 } : Room)) (fun a_ U => a_ = #[v_, (.ref t)] ∧ Z.Warmed39 U.vm ∧ U.heap = h0) (fun _ _ _ _ _ => True) (fun _ U o U' => ∃ v L, o = .returned v ∧ QDS Z B t tt i ti r tr ku ko kt ki kr ct ci cr w2 zc v_ n tl h0 n0 v U'.heap L ∧ FrameEnd U o U' L ({ frames := 3, cells := 3, slots := 10, locals := 51 } : Room).cells ({ frames := 3, cells := 3, slots := 10, locals := 51 } : Room).slots) := by
  refine MetFree.of_bodySF (plainFor_of_name pn_7) hisR ?_
  intro p e s m args below meth c s₁ Bd hml0 hP hK
  obtain ⟨rfl, hZ, hh⟩ := hP
  have hx := Bd.exec
  have hby := Bd.bytes
  have hml : c.maxLocals = 3 := hml0
  have hown : s.vm.findClass "com/example/entitlement/entitlement/CountedHolders" = some m.cls := findClass_of_methodNamed Bd.named
  have hnm := (name_of_methodNamed Bd.named Bd.method).1
  have X0 : Stand p l e ({ frames := 3, cells := 3, slots := 10, locals := 51 } : Room) s m #[v_, (.ref t)] below meth c s₁ [] 0 0 := Stand.of_body Bd
  have e0 : s₁.heap = h0 := by rw [← hh, Bd.state]; rfl
  have N0 := Fr.nil n0
  refine Goes.done ?_
  obtain ⟨W, hWd⟩ : ∃ W : State → Prop, W = EndW s below (QDS Z B t tt i ti r tr ku ko kt ki kr ct ci cr w2 zc v_ n tl h0 n0) ({ frames := 3, cells := 3, slots := 10, locals := 51 } : Room).cells ({ frames := 3, cells := 3, slots := 10, locals := 51 } : Room).slots := ⟨_, rfl⟩
  rw [← hWd]
  have hef : entryFrame m #[v_, (.ref t)] 3 = (mkF m 0 #[.val v_, vR t, .unset] []) := by rcases ref_cases rV with rfl | ⟨r_0, rfl⟩ <;> first | (simp [entryFrame, mkF, argsToLocals, Value.category]; done) | rfl
  rw [hef]
  rcases id F with ⟨hn0, hv0, ht0⟩ | ⟨hn0, a, hc, ks, kh, kk, hv0, ht0, TL⟩
  · subst hv0 ht0 hn0
    show Goes p e below W s₁ (mkF m 0 #[.val .null, vR t, .unset] [])
    refine Go s₁ (mkF m 1 #[.val .null, vR t, .unset] [.null]) ?_ (fun t_ k_ => XS.aloadN X0.here hx rfl (hb hby d22_0) rfl rfl k_)
    refine Go s₁ (mkF m 2 #[.val .null, vR t, .val .null] []) ?_ (fun t_ k_ => XS.astoreN X0.here hx rfl (hb hby d22_1) rfl rfl (l' := #[.val .null, vR t, .val .null]) rfl k_)
    refine Go s₁ (mkF m 3 #[.val .null, vR t, .val .null] [.null]) ?_ (fun t_ k_ => XS.aloadN X0.here hx rfl (hb hby d22_2) rfl rfl k_)
    refine Go s₁ (mkF m 6 #[.val .null, vR t, .val .null] []) ?_ (fun t_ k_ => XS.ifnonnullNo X0.here hx rfl (hb hby d22_3) rfl k_)
    obtain ⟨T1, h1, X1, e1, E1, A1, D1, -, st1⟩ := newO X0 hx hZ hown (wq hw 150 rfl) (wq hw 151 rfl) (wq hw 152 rfl) e0 (g := (mkF m 6 #[.val .null, vR t, .val .null] [])) rfl (hb hby d22_6) (by decide) (by decide)
    obtain ⟨b1, gb1⟩ : ∃ z, z = h0.size := ⟨_, rfl⟩
    rw [← gb1] at A1 D1 st1
    have Z1 : n0 ≤ h1.size := Nat.le_trans Z0 E1.1
    have g_b1 : n0 ≤ b1 := Nat.le_trans Z0 (Nat.le_of_eq gb1.symm)
    refine Go T1 (mkF m 9 #[.val .null, vR t, .val .null] [(.ref b1)]) ?_ st1
    have kp2 := (Keep.refl h0 ([t, i, r] ++ [])).ext E1
    have F1_hashesAndCounts : Fld Z h1 b1 "com/example/entitlement/entitlement/Tally" "hashesAndCounts" "[I" .null := D1 (Or.inl (wq hw 158 rfl)) (ty := (.array .int)) (by decide)
    have F1_keys : Fld Z h1 b1 "com/example/entitlement/entitlement/Tally" "keys" "[Ljava/lang/Object;" .null := D1 (Or.inl (wq hw 161 rfl)) (ty := (.array (.object "java/lang/Object"))) (by decide)
    have F1_shift : Fld Z h1 b1 "com/example/entitlement/entitlement/Tally" "shift" "I" (.int 0) := D1 (Or.inl (wq hw 163 rfl)) (ty := .int) (by decide)
    have F1_size : Fld Z h1 b1 "com/example/entitlement/entitlement/Tally" "size" "I" (.int 0) := D1 (Or.inl (wq hw 183 rfl)) (ty := .int) (by decide)
    have ba : B ≤ b1 := Nat.le_trans bB (Nat.le_of_eq gb1.symm)
    have sa : h0.size ≤ b1 := Nat.le_of_eq gb1.symm
    have bB1 : B ≤ h1.size := Nat.le_trans bB E1.1
    have kyE := KY.keep KC ((Keep.refl _ []).ext E1) all0
    have xoE := X0_.ext E1
    refine Go T1 (mkF m 10 #[.val .null, vR t, .val .null] [(.ref b1), (.ref b1)]) ?_ (fun t_ k_ => XS.dup X1.here hx rfl (hb hby d22_9) rfl rfl k_)
    obtain ⟨_, _, ⟨T3, Lq_3, kq_3, nq_3⟩, -, X3, ⟨Lc3, hQ3, l3, y3, z3⟩, st3⟩ := X1.specialBack hx (y := mN18) rfl hown (mvT hZ (wq hw 153 rfl)) (mvT hZ (wq hw 154 rfl)) (mvT hZ (wq hw 155 rfl)) (by decide) (backOf (W := 1) (rmTI l Z a0 hw [] B b1 h1 n0 Z1 A1 F1_hashesAndCounts F1_keys F1_shift F1_size g_b1 ba bB1) hZ (wq hw 155 rfl) (wq hw 152 rfl) (by decide) (by decide)) (g := (mkF m 10 #[.val .null, vR t, .val .null] [(.ref b1), (.ref b1)])) rfl (by rw [hml]; rfl) (Steps.refl _) (a := b1) (argsL := []) (rest := [(.ref b1)]) (lenOf pd_15 rfl) rfl (by show 2 * 0 + _ ≤ _; exact Nat.le_of_eq rfl) (hb hby d22_10) (fun _ _ => ⟨rfl, e1, (by decide : 1 + 2 ≤ _), (by decide : 4 + 6 ≤ _)⟩)
    dsimp only [Pt.U, Pt.locs, Pt.cells, Pt.slots] at X3 l3 y3 z3 st3 hQ3
    rw [l3, y3, z3] at X3
    change Stand p l e _ _ m _ below meth c T3 _ 3 10 at X3
    obtain ⟨rfl, N3q, K3, ⟨hc, ks, kh, kk, szh, szk, TE⟩⟩ := hQ3
    have N3 := Fr.app N0 N3q
    refine Go T3 (mkF m 13 #[.val .null, vR t, .val .null] [(.ref b1)]) ?_ (fun t => st3.trans)
    have Zi : n0 ≤ T3.heap.size := Nat.le_trans Z1 K3.1
    have bB3 : B ≤ T3.heap.size := Nat.le_trans bB1 K3.1
    have ky3 := kyE.keep KC K3 (own_sfC (P := fun z => B ≤ z) ba (fun y hy => absurd hy List.not_mem_nil))
    have xo3 := xoE.keep K3 (allS g_b1 all0)
    have sh : h0.size ≤ hc := Nat.le_trans E1.1 szh
    have sk : h0.size ≤ ks := Nat.le_trans E1.1 szk
    have kp4 := kp2.trans K3 (allS (Or.inr sa) all0)
    refine Go T3 (mkF m 14 #[.val .null, vR t, vR b1] []) ?_ (fun t_ k_ => XS.astoreN X3.here hx rfl (hb hby d22_13) rfl rfl (l' := #[.val .null, vR t, vR b1]) rfl k_)
    refine Go T3 (mkF m 15 #[.val .null, vR t, vR b1] [(.ref b1)]) ?_ (fun t_ k_ => XS.aloadN X3.here hx rfl (hb hby d22_14) rfl rfl k_)
    refine Go T3 (mkF m 16 #[.val .null, vR t, vR b1] [(.ref t), (.ref b1)]) ?_ (fun t_ k_ => XS.aloadN X3.here hx rfl (hb hby d22_15) rfl rfl k_)
    obtain ⟨cq5, kq5, q5a, q5b, q5c⟩ := isOf hZ rfl TE.E
    obtain ⟨_, _, ⟨T5, Lq_5, kq_5, nq_5⟩, -, X5, ⟨Lc5, hQ5, l5, y5, z5⟩, st5⟩ := X3.virtualBack hx (y := mN24) (z := mN24) hown (mvT hZ (wq hw 164 rfl)) (mvT hZ (wq hw 165 rfl)) (notFace_of_selects (args := #[]) (mvT hZ (wq hw 167 rfl))) (mvT hZ (wq hw 167 rfl)) (mvT hZ (wq hw 166 rfl)) (by decide) (backOf (W := 0) (rmAS0 l Z a0 hw [] B t tt i ti r tr ku ko kt ki kr ct ci cr w2 zc b1 hc ks kh kk T3.heap n0 Zi ky3 KC gB bB3 CS hzc xo3 TE) hZ (wq hw 168 rfl) (wq hw 152 rfl) (by decide) (by decide)) q5a q5c (g := (mkF m 16 #[.val .null, vR t, vR b1] [(.ref t), (.ref b1)])) rfl (by rw [hml]; rfl) (Steps.refl _) (argsL := [(.ref t)]) (rest := []) (lenOf pd_16 rfl) rfl (by show 2 * 0 + _ ≤ _; exact Nat.le_of_eq rfl) (hb hby d22_16) (fun _ _ => ⟨rfl, rfl, (by decide : 3 + 0 ≤ _), (by decide : 10 + 0 ≤ _)⟩)
    dsimp only [Pt.U, Pt.locs, Pt.cells, Pt.slots] at X5 l5 y5 z5 st5 hQ5
    rw [l5, y5, z5] at X5
    change Stand p l e _ _ m _ below meth c T5 _ 3 10 at X5
    obtain ⟨rfl, N5q, K5, KF, TF⟩ := hQ5
    have N5 := Fr.app N3 N5q
    refine Go T5 (mkF m 19 #[.val .null, vR t, vR b1] []) ?_ (fun t => st5.trans)
    have kp6 := kp4.trans K5 (allS (Or.inl (by simp)) (allS (Or.inl (by simp)) (allS (Or.inl (by simp)) (allS (Or.inr sa) (allS (Or.inr sh) (allS (Or.inr sk) all0))))))
    refine Go T5 (mkF m 20 #[.val .null, vR t, vR b1] [(.ref b1)]) ?_ (fun t_ k_ => XS.aloadN X5.here hx rfl (hb hby d22_19) rfl rfl k_)
    rw [hWd]
    exact Goes.retn X5 (v := some (.ref b1)) (fun fs hr => retA X5 hx Bd.returns rfl rfl (hb hby d22_20) hr) (fun h => by rw [Bd.returns] at h; cases h) Bd.notSynchronized (by decide) (by decide) ⟨.ref b1, [b1, hc, ks], rfl, N5, kp6, KF, Or.inr ⟨Nat.succ_pos _, b1, hc, ks, kh, kk, rfl, rfl, TF⟩, (own_sfC (P := fun y => y ∈ ([] : List Addr) ∨ h0.size ≤ y) (Or.inr sa) (own_sfC (Or.inr sh) (own_sfC (Or.inr sk) (fun y hy => absurd hy List.not_mem_nil))))⟩
  · subst hv0 ht0
    show Goes p e below W s₁ (mkF m 0 #[vR a, vR t, .unset] [])
    refine Go s₁ (mkF m 1 #[vR a, vR t, .unset] [(.ref a)]) ?_ (fun t_ k_ => XS.aloadN X0.here hx rfl (hb hby d22_0) rfl rfl k_)
    refine Go s₁ (mkF m 2 #[vR a, vR t, vR a] []) ?_ (fun t_ k_ => XS.astoreN X0.here hx rfl (hb hby d22_1) rfl rfl (l' := #[vR a, vR t, vR a]) rfl k_)
    refine Go s₁ (mkF m 3 #[vR a, vR t, vR a] [(.ref a)]) ?_ (fun t_ k_ => XS.aloadN X0.here hx rfl (hb hby d22_2) rfl rfl k_)
    refine Go s₁ (mkF m 14 #[vR a, vR t, vR a] []) ?_ (fun t_ k_ => XS.ifnonnullYes X0.here hx rfl (pc0 := 3) (pc' := 14) rfl (hb hby d22_3) rfl (by decide) (by decide) k_)
    refine Go s₁ (mkF m 15 #[vR a, vR t, vR a] [(.ref a)]) ?_ (fun t_ k_ => XS.aloadN X0.here hx rfl (hb hby d22_14) rfl rfl k_)
    refine Go s₁ (mkF m 16 #[vR a, vR t, vR a] [(.ref t), (.ref a)]) ?_ (fun t_ k_ => XS.aloadN X0.here hx rfl (hb hby d22_15) rfl rfl k_)
    obtain ⟨cq7, kq7, q7a, q7b, q7c⟩ := isOf hZ e0 TL.E
    obtain ⟨_, _, ⟨T7, Lq_7, kq_7, nq_7⟩, -, X7, ⟨Lc7, hQ7, l7, y7, z7⟩, st7⟩ := X0.virtualBack hx (y := mN24) (z := mN24) hown (mvT hZ (wq hw 164 rfl)) (mvT hZ (wq hw 165 rfl)) (notFace_of_selects (args := #[]) (mvT hZ (wq hw 167 rfl))) (mvT hZ (wq hw 167 rfl)) (mvT hZ (wq hw 166 rfl)) (by decide) (backOf (W := 0) (rmAS1 l Z a0 hw [] B t tt i ti r tr ku ko kt ki kr ct ci cr w2 zc a hc ks kh kk (Int32.ofNat n) h0 n0 Z0 KY KC gB bB CS hzc X0_ TL (own_nz0 hn0 (by omega))) hZ (wq hw 168 rfl) (wq hw 152 rfl) (by decide) (by decide)) q7a q7c (g := (mkF m 16 #[vR a, vR t, vR a] [(.ref t), (.ref a)])) rfl (by rw [hml]; rfl) (Steps.refl _) (argsL := [(.ref t)]) (rest := []) (lenOf pd_16 rfl) rfl (by show 2 * 0 + _ ≤ _; exact Nat.le_of_eq rfl) (hb hby d22_16) (fun _ _ => ⟨rfl, e0, (by decide : 0 + 0 ≤ _), (by decide : 0 + 0 ≤ _)⟩)
    dsimp only [Pt.U, Pt.locs, Pt.cells, Pt.slots] at X7 l7 y7 z7 st7 hQ7
    rw [l7, y7, z7] at X7
    change Stand p l e _ _ m _ below meth c T7 _ 0 0 at X7
    obtain ⟨rfl, N7q, KX, KF, TF⟩ := hQ7
    have N7 := Fr.app N0 N7q
    refine Go T7 (mkF m 19 #[vR a, vR t, vR a] []) ?_ (fun t => st7.trans)
    refine Go T7 (mkF m 20 #[vR a, vR t, vR a] [(.ref a)]) ?_ (fun t_ k_ => XS.aloadN X7.here hx rfl (hb hby d22_19) rfl rfl k_)
    rw [hWd]
    exact Goes.retn X7 (v := some (.ref a)) (fun fs hr => retA X7 hx Bd.returns rfl rfl (hb hby d22_20) hr) (fun h => by rw [Bd.returns] at h; cases h) Bd.notSynchronized (by decide) (by decide) ⟨.ref a, [a, hc, ks], rfl, N7, KX, KF, Or.inr ⟨Nat.succ_pos _, a, hc, ks, kh, kk, rfl, rfl, by rw [own_p1] at TF; exact TF⟩, fun y hy => Or.inl hy⟩
def QMS (Z : State) (B : Nat) (t tt i ti r tr ku ko : Addr) (kt ki kr : ClassId) (ct ci cr w2 : Int32) (zc : Int32) (v_ : Value) (n : Nat) (tl : List Addr) (h0 : Heap) (n0 : Nat) (v : Option Value) (h : Heap) (L : List Loc) : Prop := ∃ v2 tl2, v = some v2 ∧ Fr n0 L ∧ Keep h0 h ([t, i, r] ++ tl) ∧ KA Z h t tt i ti r tr ku ko kt ki kr ct ci cr w2 ∧ HF Z h B v2 t ct (n - 1) tl2 ∧ ∀ y ∈ tl2, y ∈ tl ∨ h0.size ≤ y
set_option maxRecDepth 65536 in
set_option maxHeartbeats 40000000 in
theorem rmMS (l : Launch) (Z : State) (a0 : Array Value) (hw : ∀ d ∈ tables_1, d.before a0 Z = true) (ws : List Jvm.Cond) (B : Nat) (t tt i ti r tr ku ko : Addr) (kt ki kr : ClassId) (ct ci cr w2 : Int32) (zc : Int32) (v_ : Value) (n : Nat) (tl : List Addr) (h0 : Heap) (n0 : Nat) (Z0 : n0 ≤ h0.size) (KY : KA Z h0 t tt i ti r tr ku ko kt ki kr ct ci cr w2) (KC : KD n0 B t tt i ti r tr ku ko ct ci cr) (gB : n0 ≤ B) (bB : B ≤ h0.size) (CS : Sta Z Z.heap "java/lang/String" "COMPACT_STRINGS" "Z" (.int zc)) (hzc : ¬ zc = (0 : Int32)) (X0_ : Old Z n0 h0) (F : HF Z h0 B v_ t ct n tl) (rV : v_.isRef = true) (h9 : n ≤ 8) :
    MetFree l mN27 (head1 (Jvm.Cond.code mN27 cD17 3 (some (.object "com/example/entitlement/entitlement/Tally")) :: ws) ({ frames := 3, cells := 0, slots := 0, locals := 51 } : Room)) (fun a_ U => a_ = #[v_, (.ref t)] ∧ Z.Warmed39 U.vm ∧ U.heap = h0) (fun _ _ _ _ _ => True) (fun _ U o U' => ∃ v L, o = .returned v ∧ QMS Z B t tt i ti r tr ku ko kt ki kr ct ci cr w2 zc v_ n tl h0 n0 v U'.heap L ∧ FrameEnd U o U' L ({ frames := 3, cells := 0, slots := 0, locals := 51 } : Room).cells ({ frames := 3, cells := 0, slots := 0, locals := 51 } : Room).slots) := by
  refine MetFree.of_bodySF (plainFor_of_name pn_7) hisR ?_
  intro p e s m args below meth c s₁ Bd hml0 hP hK
  obtain ⟨rfl, hZ, hh⟩ := hP
  have hx := Bd.exec
  have hby := Bd.bytes
  have hml : c.maxLocals = 3 := hml0
  have hown : s.vm.findClass "com/example/entitlement/entitlement/CountedHolders" = some m.cls := findClass_of_methodNamed Bd.named
  have hnm := (name_of_methodNamed Bd.named Bd.method).1
  have X0 : Stand p l e ({ frames := 3, cells := 0, slots := 0, locals := 51 } : Room) s m #[v_, (.ref t)] below meth c s₁ [] 0 0 := Stand.of_body Bd
  have e0 : s₁.heap = h0 := by rw [← hh, Bd.state]; rfl
  have N0 := Fr.nil n0
  refine Goes.done ?_
  obtain ⟨W, hWd⟩ : ∃ W : State → Prop, W = EndW s below (QMS Z B t tt i ti r tr ku ko kt ki kr ct ci cr w2 zc v_ n tl h0 n0) ({ frames := 3, cells := 0, slots := 0, locals := 51 } : Room).cells ({ frames := 3, cells := 0, slots := 0, locals := 51 } : Room).slots := ⟨_, rfl⟩
  rw [← hWd]
  have hef : entryFrame m #[v_, (.ref t)] 3 = (mkF m 0 #[.val v_, vR t, .unset] []) := by rcases ref_cases rV with rfl | ⟨r_0, rfl⟩ <;> first | (simp [entryFrame, mkF, argsToLocals, Value.category]; done) | rfl
  rw [hef]
  rcases id F with ⟨hn0, hv0, ht0⟩ | ⟨hn0, a, hc, ks, kh, kk, hv0, ht0, TL⟩
  · subst hv0 ht0 hn0
    show Goes p e below W s₁ (mkF m 0 #[.val .null, vR t, .unset] [])
    refine Go s₁ (mkF m 1 #[.val .null, vR t, .unset] [.null]) ?_ (fun t_ k_ => XS.aloadN X0.here hx rfl (hb hby d20_0) rfl rfl k_)
    refine Go s₁ (mkF m 2 #[.val .null, vR t, .val .null] []) ?_ (fun t_ k_ => XS.astoreN X0.here hx rfl (hb hby d20_1) rfl rfl (l' := #[.val .null, vR t, .val .null]) rfl k_)
    refine Go s₁ (mkF m 3 #[.val .null, vR t, .val .null] [.null]) ?_ (fun t_ k_ => XS.aloadN X0.here hx rfl (hb hby d20_2) rfl rfl k_)
    refine Go s₁ (mkF m 21 #[.val .null, vR t, .val .null] []) ?_ (fun t_ k_ => XS.ifnullYes X0.here hx rfl (pc0 := 3) (pc' := 21) rfl (hb hby d20_3) rfl (by decide) (by decide) k_)
    refine Go s₁ (mkF m 22 #[.val .null, vR t, .val .null] [.null]) ?_ (fun t_ k_ => XS.aloadN X0.here hx rfl (hb hby d20_21) rfl rfl k_)
    rw [hWd]
    exact Goes.retn X0 (v := some .null) (fun fs hr => retA X0 hx Bd.returns rfl rfl (hb hby d20_22) hr) (fun h => by rw [Bd.returns] at h; cases h) Bd.notSynchronized (by decide) (by decide) (by rw [e0]; exact ⟨.null, [], rfl, N0, Keep.refl _ _, KY, Or.inl ⟨rfl, rfl, rfl⟩, fun y hy => Or.inl hy⟩)
  · subst hv0 ht0
    show Goes p e below W s₁ (mkF m 0 #[vR a, vR t, .unset] [])
    by_cases hn1 : n = 1
    · subst hn1
      refine Go s₁ (mkF m 1 #[vR a, vR t, .unset] [(.ref a)]) ?_ (fun t_ k_ => XS.aloadN X0.here hx rfl (hb hby d20_0) rfl rfl k_)
      refine Go s₁ (mkF m 2 #[vR a, vR t, vR a] []) ?_ (fun t_ k_ => XS.astoreN X0.here hx rfl (hb hby d20_1) rfl rfl (l' := #[vR a, vR t, vR a]) rfl k_)
      refine Go s₁ (mkF m 3 #[vR a, vR t, vR a] [(.ref a)]) ?_ (fun t_ k_ => XS.aloadN X0.here hx rfl (hb hby d20_2) rfl rfl k_)
      refine Go s₁ (mkF m 6 #[vR a, vR t, vR a] []) ?_ (fun t_ k_ => XS.ifnullNo X0.here hx rfl (hb hby d20_3) rfl k_)
      refine Go s₁ (mkF m 7 #[vR a, vR t, vR a] [(.ref a)]) ?_ (fun t_ k_ => XS.aloadN X0.here hx rfl (hb hby d20_6) rfl rfl k_)
      refine Go s₁ (mkF m 8 #[vR a, vR t, vR a] [(.ref t), (.ref a)]) ?_ (fun t_ k_ => XS.aloadN X0.here hx rfl (hb hby d20_7) rfl rfl k_)
      obtain ⟨cq1, kq1, q1a, q1b, q1c⟩ := isOf hZ e0 TL.E
      obtain ⟨_, _, ⟨T1, Lq_1, kq_1, nq_1⟩, -, X1, ⟨Lc1, hQ1, l1, y1, z1⟩, st1⟩ := X0.virtualBack hx (y := mN25) (z := mN25) hown (mvT hZ (wq hw 188 rfl)) (mvT hZ (wq hw 189 rfl)) (notFace_of_selects (args := #[]) (mvT hZ (wq hw 191 rfl))) (mvT hZ (wq hw 191 rfl)) (mvT hZ (wq hw 190 rfl)) (by decide) (backOf (W := 0) (rmRS0 l Z a0 hw [] B t tt i ti r tr ku ko kt ki kr ct ci cr w2 zc a hc ks kh kk h0 n0 Z0 KY KC gB bB CS hzc X0_ (by exact TL)) hZ (wq hw 192 rfl) (wq hw 152 rfl) (by decide) (by decide)) q1a q1c (g := (mkF m 8 #[vR a, vR t, vR a] [(.ref t), (.ref a)])) rfl (by rw [hml]; rfl) (Steps.refl _) (argsL := [(.ref t)]) (rest := []) (lenOf pd_7 rfl) rfl (by show 2 * 0 + _ ≤ _; exact Nat.le_of_eq rfl) (hb hby d20_8) (fun _ _ => ⟨rfl, e0, (by decide : 0 + 0 ≤ _), (by decide : 0 + 0 ≤ _)⟩)
      dsimp only [Pt.U, Pt.locs, Pt.cells, Pt.slots] at X1 l1 y1 z1 st1 hQ1
      rw [l1, y1, z1] at X1
      change Stand p l e _ _ m _ below meth c T1 _ 0 0 at X1
      obtain ⟨rfl, N1q, KX, KF, EF, ZF⟩ := hQ1
      have N1 := Fr.app N0 N1q
      refine Go T1 (mkF m 11 #[vR a, vR t, vR a] [(.int 1)]) ?_ (fun t => st1.trans)
      refine Go T1 (mkF m 12 #[vR a, vR t, vR a] []) ?_ (fun t_ k_ => XS.pop X1.here hx rfl (hb hby d20_11) rfl rfl k_)
      refine Go T1 (mkF m 13 #[vR a, vR t, vR a] [(.ref a)]) ?_ (fun t_ k_ => XS.aloadN X1.here hx rfl (hb hby d20_12) rfl rfl k_)
      have Zr : n0 ≤ T1.heap.size := Nat.le_trans Z0 KX.1
      obtain ⟨cq2, kq2, q2a, q2b, q2c⟩ := isOf hZ rfl EF
      obtain ⟨_, _, ⟨T2, Lq_2, kq_2, nq_2⟩, -, X2, ⟨Lc2, hQ2, l2, y2, z2⟩, st2⟩ := X1.virtualBack hx (y := mN14) (z := mN14) hown (mvT hZ (wq hw 197 rfl)) (mvT hZ (wq hw 198 rfl)) (notFace_of_selects (args := #[]) (mvT hZ (wq hw 200 rfl))) (mvT hZ (wq hw 200 rfl)) (mvT hZ (wq hw 199 rfl)) (by decide) (backOf (W := 0) (rmTE l Z a0 hw [] a (0 : Int32) T1.heap n0 Zr ZF) hZ (wq hw 201 rfl) (wq hw 152 rfl) (by decide) (by decide)) q2a q2c (g := (mkF m 13 #[vR a, vR t, vR a] [(.ref a)])) rfl (by rw [hml]; rfl) (Steps.refl _) (argsL := []) (rest := []) (lenOf pd_4 rfl) rfl (by show 2 * 0 + _ ≤ _; exact Nat.le_of_eq rfl) (hb hby d20_13) (fun _ _ => ⟨rfl, rfl, (by decide : 0 + 0 ≤ _), (by decide : 0 + 0 ≤ _)⟩)
      dsimp only [Pt.U, Pt.locs, Pt.cells, Pt.slots] at X2 l2 y2 z2 st2 hQ2
      rw [l2, y2, z2] at X2
      change Stand p l e _ _ m _ below meth c T2 _ 0 0 at X2
      obtain ⟨rfl, N2q, eh2⟩ := hQ2
      have N2 := Fr.app N1 N2q
      refine Go T2 (mkF m 16 #[vR a, vR t, vR a] [(.int (if (0 : Int32) = 0 then 1 else 0))]) ?_ (fun t => st2.trans)
      rw [if_pos rfl]
      refine Go T2 (mkF m 19 #[vR a, vR t, vR a] []) ?_ (fun t_ k_ => XS.ifNo X2.here hx rfl (hb hby d20_16) rfl (by decide) k_)
      refine Go T2 (mkF m 20 #[vR a, vR t, vR a] [.null]) ?_ (fun t_ k_ => XS.aconstNull X2.here hx rfl (hb hby d20_19) k_)
      refine Go T2 (mkF m 21 #[vR a, vR t, .val .null] []) ?_ (fun t_ k_ => XS.astoreN X2.here hx rfl (hb hby d20_20) rfl rfl (l' := #[vR a, vR t, .val .null]) rfl k_)
      refine Go T2 (mkF m 22 #[vR a, vR t, .val .null] [.null]) ?_ (fun t_ k_ => XS.aloadN X2.here hx rfl (hb hby d20_21) rfl rfl k_)
      rw [hWd]
      exact Goes.retn X2 (v := some .null) (fun fs hr => retA X2 hx Bd.returns rfl rfl (hb hby d20_22) hr) (fun h => by rw [Bd.returns] at h; cases h) Bd.notSynchronized (by decide) (by decide) (by rw [eh2]; exact ⟨.null, [], rfl, N2, KX, KF, Or.inl ⟨rfl, rfl, rfl⟩, fun y hy => absurd hy List.not_mem_nil⟩)
    · have hn2 : 2 ≤ n := by omega
      have hm1 : ¬ Int32.ofNat n - (1 : Int32) = 0 := by rw [own_m1 hn0 (by omega)]; exact own_nz0 (by omega) (by omega)
      refine Go s₁ (mkF m 1 #[vR a, vR t, .unset] [(.ref a)]) ?_ (fun t_ k_ => XS.aloadN X0.here hx rfl (hb hby d20_0) rfl rfl k_)
      refine Go s₁ (mkF m 2 #[vR a, vR t, vR a] []) ?_ (fun t_ k_ => XS.astoreN X0.here hx rfl (hb hby d20_1) rfl rfl (l' := #[vR a, vR t, vR a]) rfl k_)
      refine Go s₁ (mkF m 3 #[vR a, vR t, vR a] [(.ref a)]) ?_ (fun t_ k_ => XS.aloadN X0.here hx rfl (hb hby d20_2) rfl rfl k_)
      refine Go s₁ (mkF m 6 #[vR a, vR t, vR a] []) ?_ (fun t_ k_ => XS.ifnullNo X0.here hx rfl (hb hby d20_3) rfl k_)
      refine Go s₁ (mkF m 7 #[vR a, vR t, vR a] [(.ref a)]) ?_ (fun t_ k_ => XS.aloadN X0.here hx rfl (hb hby d20_6) rfl rfl k_)
      refine Go s₁ (mkF m 8 #[vR a, vR t, vR a] [(.ref t), (.ref a)]) ?_ (fun t_ k_ => XS.aloadN X0.here hx rfl (hb hby d20_7) rfl rfl k_)
      obtain ⟨cq3, kq3, q3a, q3b, q3c⟩ := isOf hZ e0 TL.E
      obtain ⟨_, _, ⟨T3, Lq_3, kq_3, nq_3⟩, -, X3, ⟨Lc3, hQ3, l3, y3, z3⟩, st3⟩ := X0.virtualBack hx (y := mN25) (z := mN25) hown (mvT hZ (wq hw 188 rfl)) (mvT hZ (wq hw 189 rfl)) (notFace_of_selects (args := #[]) (mvT hZ (wq hw 191 rfl))) (mvT hZ (wq hw 191 rfl)) (mvT hZ (wq hw 190 rfl)) (by decide) (backOf (W := 0) (rmRS1 l Z a0 hw [] B t tt i ti r tr ku ko kt ki kr ct ci cr w2 zc a hc ks kh kk (Int32.ofNat n) h0 n0 Z0 KY KC gB bB CS hzc X0_ TL (own_nz0 hn0 (by omega)) hm1) hZ (wq hw 192 rfl) (wq hw 152 rfl) (by decide) (by decide)) q3a q3c (g := (mkF m 8 #[vR a, vR t, vR a] [(.ref t), (.ref a)])) rfl (by rw [hml]; rfl) (Steps.refl _) (argsL := [(.ref t)]) (rest := []) (lenOf pd_7 rfl) rfl (by show 2 * 0 + _ ≤ _; exact Nat.le_of_eq rfl) (hb hby d20_8) (fun _ _ => ⟨rfl, e0, (by decide : 0 + 0 ≤ _), (by decide : 0 + 0 ≤ _)⟩)
      dsimp only [Pt.U, Pt.locs, Pt.cells, Pt.slots] at X3 l3 y3 z3 st3 hQ3
      rw [l3, y3, z3] at X3
      change Stand p l e _ _ m _ below meth c T3 _ 0 0 at X3
      obtain ⟨rfl, N3q, KX, KF, TF⟩ := hQ3
      have N3 := Fr.app N0 N3q
      refine Go T3 (mkF m 11 #[vR a, vR t, vR a] [(.int 0)]) ?_ (fun t => st3.trans)
      refine Go T3 (mkF m 12 #[vR a, vR t, vR a] []) ?_ (fun t_ k_ => XS.pop X3.here hx rfl (hb hby d20_11) rfl rfl k_)
      refine Go T3 (mkF m 13 #[vR a, vR t, vR a] [(.ref a)]) ?_ (fun t_ k_ => XS.aloadN X3.here hx rfl (hb hby d20_12) rfl rfl k_)
      have Zr : n0 ≤ T3.heap.size := Nat.le_trans Z0 KX.1
      obtain ⟨cq4, kq4, q4a, q4b, q4c⟩ := isOf hZ rfl TF.E
      obtain ⟨_, _, ⟨T4, Lq_4, kq_4, nq_4⟩, -, X4, ⟨Lc4, hQ4, l4, y4, z4⟩, st4⟩ := X3.virtualBack hx (y := mN14) (z := mN14) hown (mvT hZ (wq hw 197 rfl)) (mvT hZ (wq hw 198 rfl)) (notFace_of_selects (args := #[]) (mvT hZ (wq hw 200 rfl))) (mvT hZ (wq hw 200 rfl)) (mvT hZ (wq hw 199 rfl)) (by decide) (backOf (W := 0) (rmTE l Z a0 hw [] a (1 : Int32) T3.heap n0 Zr TF.FZ) hZ (wq hw 201 rfl) (wq hw 152 rfl) (by decide) (by decide)) q4a q4c (g := (mkF m 13 #[vR a, vR t, vR a] [(.ref a)])) rfl (by rw [hml]; rfl) (Steps.refl _) (argsL := []) (rest := []) (lenOf pd_4 rfl) rfl (by show 2 * 0 + _ ≤ _; exact Nat.le_of_eq rfl) (hb hby d20_13) (fun _ _ => ⟨rfl, rfl, (by decide : 0 + 0 ≤ _), (by decide : 0 + 0 ≤ _)⟩)
      dsimp only [Pt.U, Pt.locs, Pt.cells, Pt.slots] at X4 l4 y4 z4 st4 hQ4
      rw [l4, y4, z4] at X4
      change Stand p l e _ _ m _ below meth c T4 _ 0 0 at X4
      obtain ⟨rfl, N4q, eh4⟩ := hQ4
      have N4 := Fr.app N3 N4q
      refine Go T4 (mkF m 16 #[vR a, vR t, vR a] [(.int (if (1 : Int32) = 0 then 1 else 0))]) ?_ (fun t => st4.trans)
      rw [if_neg (by decide)]
      refine Go T4 (mkF m 21 #[vR a, vR t, vR a] []) ?_ (fun t_ k_ => XS.ifYes X4.here hx rfl (pc0 := 16) (pc' := 21) rfl (hb hby d20_16) rfl (by decide) (by decide) (by decide) k_)
      refine Go T4 (mkF m 22 #[vR a, vR t, vR a] [(.ref a)]) ?_ (fun t_ k_ => XS.aloadN X4.here hx rfl (hb hby d20_21) rfl rfl k_)
      rw [hWd]
      exact Goes.retn X4 (v := some (.ref a)) (fun fs hr => retA X4 hx Bd.returns rfl rfl (hb hby d20_22) hr) (fun h => by rw [Bd.returns] at h; cases h) Bd.notSynchronized (by decide) (by decide) (by rw [eh4]; exact ⟨.ref a, [a, hc, ks], rfl, N4, KX, KF, Or.inr ⟨by omega, a, hc, ks, kh, kk, rfl, rfl, by rw [own_m1 hn0 (by omega)] at TF; exact TF⟩, fun y hy => Or.inl hy⟩)
def QDU (Z : State) (B : Nat) (t tt i ti r tr ku ko : Addr) (kt ki kr : ClassId) (ct ci cr w2 : Int32) (zc : Int32) (v_ : Value) (n : Nat) (tl : List Addr) (h0 : Heap) (n0 : Nat) (v : Option Value) (h : Heap) (L : List Loc) : Prop := ∃ v2 tl2, v = some v2 ∧ Fr n0 L ∧ Keep h0 h ([t, i, r] ++ tl) ∧ KA Z h t tt i ti r tr ku ko kt ki kr ct ci cr w2 ∧ HF Z h B v2 ku (own_sh ct ci cr) (n + 1) tl2 ∧ ∀ y ∈ tl2, y ∈ tl ∨ h0.size ≤ y
set_option maxRecDepth 65536 in
set_option maxHeartbeats 40000000 in
theorem rmDU (l : Launch) (Z : State) (a0 : Array Value) (hw : ∀ d ∈ tables_1, d.before a0 Z = true) (ws : List Jvm.Cond) (B : Nat) (t tt i ti r tr ku ko : Addr) (kt ki kr : ClassId) (ct ci cr w2 : Int32) (zc : Int32) (v_ : Value) (n : Nat) (tl : List Addr) (h0 : Heap) (n0 : Nat) (Z0 : n0 ≤ h0.size) (KY : KA Z h0 t tt i ti r tr ku ko kt ki kr ct ci cr w2) (KC : KD n0 B t tt i ti r tr ku ko ct ci cr) (gB : n0 ≤ B) (bB : B ≤ h0.size) (CS : Sta Z Z.heap "java/lang/String" "COMPACT_STRINGS" "Z" (.int zc)) (hzc : ¬ zc = (0 : Int32)) (X0_ : Old Z n0 h0) (F : HF Z h0 B v_ ku (own_sh ct ci cr) n tl) (rV : v_.isRef = true) (h9 : n ≤ 8) :
    MetFree l mN26 (head1 (Jvm.Cond.code mN26 cD19 3 (some (.object "com/example/entitlement/entitlement/Tally")) :: ws) ({ frames := 6, cells := 4, slots := 13, locals := 87 } : Room)) (fun a_ U => a_ = #[v_, (.ref ku)] ∧ Z.Warmed39 U.vm ∧ U.heap = h0) (fun _ _ _ _ _ => True) (fun _ U o U' => ∃ v L, o = .returned v ∧ QDU Z B t tt i ti r tr ku ko kt ki kr ct ci cr w2 zc v_ n tl h0 n0 v U'.heap L ∧ FrameEnd U o U' L ({ frames := 6, cells := 4, slots := 13, locals := 87 } : Room).cells ({ frames := 6, cells := 4, slots := 13, locals := 87 } : Room).slots) := by
  refine MetFree.of_bodySF (plainFor_of_name pn_7) hisR ?_
  intro p e s m args below meth c s₁ Bd hml0 hP hK
  obtain ⟨rfl, hZ, hh⟩ := hP
  have hx := Bd.exec
  have hby := Bd.bytes
  have hml : c.maxLocals = 3 := hml0
  have hown : s.vm.findClass "com/example/entitlement/entitlement/CountedHolders" = some m.cls := findClass_of_methodNamed Bd.named
  have hnm := (name_of_methodNamed Bd.named Bd.method).1
  have X0 : Stand p l e ({ frames := 6, cells := 4, slots := 13, locals := 87 } : Room) s m #[v_, (.ref ku)] below meth c s₁ [] 0 0 := Stand.of_body Bd
  have e0 : s₁.heap = h0 := by rw [← hh, Bd.state]; rfl
  have N0 := Fr.nil n0
  refine Goes.done ?_
  obtain ⟨W, hWd⟩ : ∃ W : State → Prop, W = EndW s below (QDU Z B t tt i ti r tr ku ko kt ki kr ct ci cr w2 zc v_ n tl h0 n0) ({ frames := 6, cells := 4, slots := 13, locals := 87 } : Room).cells ({ frames := 6, cells := 4, slots := 13, locals := 87 } : Room).slots := ⟨_, rfl⟩
  rw [← hWd]
  have hef : entryFrame m #[v_, (.ref ku)] 3 = (mkF m 0 #[.val v_, vR ku, .unset] []) := by rcases ref_cases rV with rfl | ⟨r_0, rfl⟩ <;> first | (simp [entryFrame, mkF, argsToLocals, Value.category]; done) | rfl
  rw [hef]
  rcases id F with ⟨hn0, hv0, ht0⟩ | ⟨hn0, a, hc, ks, kh, kk, hv0, ht0, TL⟩
  · subst hv0 ht0 hn0
    show Goes p e below W s₁ (mkF m 0 #[.val .null, vR ku, .unset] [])
    refine Go s₁ (mkF m 1 #[.val .null, vR ku, .unset] [.null]) ?_ (fun t_ k_ => XS.aloadN X0.here hx rfl (hb hby d22_0) rfl rfl k_)
    refine Go s₁ (mkF m 2 #[.val .null, vR ku, .val .null] []) ?_ (fun t_ k_ => XS.astoreN X0.here hx rfl (hb hby d22_1) rfl rfl (l' := #[.val .null, vR ku, .val .null]) rfl k_)
    refine Go s₁ (mkF m 3 #[.val .null, vR ku, .val .null] [.null]) ?_ (fun t_ k_ => XS.aloadN X0.here hx rfl (hb hby d22_2) rfl rfl k_)
    refine Go s₁ (mkF m 6 #[.val .null, vR ku, .val .null] []) ?_ (fun t_ k_ => XS.ifnonnullNo X0.here hx rfl (hb hby d22_3) rfl k_)
    obtain ⟨T1, h1, X1, e1, E1, A1, D1, -, st1⟩ := newO X0 hx hZ hown (wq hw 150 rfl) (wq hw 151 rfl) (wq hw 152 rfl) e0 (g := (mkF m 6 #[.val .null, vR ku, .val .null] [])) rfl (hb hby d22_6) (by decide) (by decide)
    obtain ⟨b1, gb1⟩ : ∃ z, z = h0.size := ⟨_, rfl⟩
    rw [← gb1] at A1 D1 st1
    have Z1 : n0 ≤ h1.size := Nat.le_trans Z0 E1.1
    have g_b1 : n0 ≤ b1 := Nat.le_trans Z0 (Nat.le_of_eq gb1.symm)
    refine Go T1 (mkF m 9 #[.val .null, vR ku, .val .null] [(.ref b1)]) ?_ st1
    have kp2 := (Keep.refl h0 ([t, i, r] ++ [])).ext E1
    have F1_hashesAndCounts : Fld Z h1 b1 "com/example/entitlement/entitlement/Tally" "hashesAndCounts" "[I" .null := D1 (Or.inl (wq hw 158 rfl)) (ty := (.array .int)) (by decide)
    have F1_keys : Fld Z h1 b1 "com/example/entitlement/entitlement/Tally" "keys" "[Ljava/lang/Object;" .null := D1 (Or.inl (wq hw 161 rfl)) (ty := (.array (.object "java/lang/Object"))) (by decide)
    have F1_shift : Fld Z h1 b1 "com/example/entitlement/entitlement/Tally" "shift" "I" (.int 0) := D1 (Or.inl (wq hw 163 rfl)) (ty := .int) (by decide)
    have F1_size : Fld Z h1 b1 "com/example/entitlement/entitlement/Tally" "size" "I" (.int 0) := D1 (Or.inl (wq hw 183 rfl)) (ty := .int) (by decide)
    have ba : B ≤ b1 := Nat.le_trans bB (Nat.le_of_eq gb1.symm)
    have sa : h0.size ≤ b1 := Nat.le_of_eq gb1.symm
    have bB1 : B ≤ h1.size := Nat.le_trans bB E1.1
    have kyE := KY.keep KC ((Keep.refl _ []).ext E1) all0
    have xoE := X0_.ext E1
    refine Go T1 (mkF m 10 #[.val .null, vR ku, .val .null] [(.ref b1), (.ref b1)]) ?_ (fun t_ k_ => XS.dup X1.here hx rfl (hb hby d22_9) rfl rfl k_)
    obtain ⟨_, _, ⟨T3, Lq_3, kq_3, nq_3⟩, -, X3, ⟨Lc3, hQ3, l3, y3, z3⟩, st3⟩ := X1.specialBack hx (y := mN18) rfl hown (mvT hZ (wq hw 153 rfl)) (mvT hZ (wq hw 154 rfl)) (mvT hZ (wq hw 155 rfl)) (by decide) (backOf (W := 1) (rmTI l Z a0 hw [] B b1 h1 n0 Z1 A1 F1_hashesAndCounts F1_keys F1_shift F1_size g_b1 ba bB1) hZ (wq hw 155 rfl) (wq hw 152 rfl) (by decide) (by decide)) (g := (mkF m 10 #[.val .null, vR ku, .val .null] [(.ref b1), (.ref b1)])) rfl (by rw [hml]; rfl) (Steps.refl _) (a := b1) (argsL := []) (rest := [(.ref b1)]) (lenOf pd_15 rfl) rfl (by show 2 * 0 + _ ≤ _; exact Nat.le_of_eq rfl) (hb hby d22_10) (fun _ _ => ⟨rfl, e1, (by decide : 1 + 2 ≤ _), (by decide : 4 + 6 ≤ _)⟩)
    dsimp only [Pt.U, Pt.locs, Pt.cells, Pt.slots] at X3 l3 y3 z3 st3 hQ3
    rw [l3, y3, z3] at X3
    change Stand p l e _ _ m _ below meth c T3 _ 3 10 at X3
    obtain ⟨rfl, N3q, K3, ⟨hc, ks, kh, kk, szh, szk, TE⟩⟩ := hQ3
    have N3 := Fr.app N0 N3q
    refine Go T3 (mkF m 13 #[.val .null, vR ku, .val .null] [(.ref b1)]) ?_ (fun t => st3.trans)
    have Zi : n0 ≤ T3.heap.size := Nat.le_trans Z1 K3.1
    have bB3 : B ≤ T3.heap.size := Nat.le_trans bB1 K3.1
    have ky3 := kyE.keep KC K3 (own_sfC (P := fun z => B ≤ z) ba (fun y hy => absurd hy List.not_mem_nil))
    have xo3 := xoE.keep K3 (allS g_b1 all0)
    have sh : h0.size ≤ hc := Nat.le_trans E1.1 szh
    have sk : h0.size ≤ ks := Nat.le_trans E1.1 szk
    have kp4 := kp2.trans K3 (allS (Or.inr sa) all0)
    refine Go T3 (mkF m 14 #[.val .null, vR ku, vR b1] []) ?_ (fun t_ k_ => XS.astoreN X3.here hx rfl (hb hby d22_13) rfl rfl (l' := #[.val .null, vR ku, vR b1]) rfl k_)
    refine Go T3 (mkF m 15 #[.val .null, vR ku, vR b1] [(.ref b1)]) ?_ (fun t_ k_ => XS.aloadN X3.here hx rfl (hb hby d22_14) rfl rfl k_)
    refine Go T3 (mkF m 16 #[.val .null, vR ku, vR b1] [(.ref ku), (.ref b1)]) ?_ (fun t_ k_ => XS.aloadN X3.here hx rfl (hb hby d22_15) rfl rfl k_)
    obtain ⟨cq5, kq5, q5a, q5b, q5c⟩ := isOf hZ rfl TE.E
    obtain ⟨_, _, ⟨T5, Lq_5, kq_5, nq_5⟩, -, X5, ⟨Lc5, hQ5, l5, y5, z5⟩, st5⟩ := X3.virtualBack hx (y := mN24) (z := mN24) hown (mvT hZ (wq hw 164 rfl)) (mvT hZ (wq hw 165 rfl)) (notFace_of_selects (args := #[]) (mvT hZ (wq hw 167 rfl))) (mvT hZ (wq hw 167 rfl)) (mvT hZ (wq hw 166 rfl)) (by decide) (backOf (W := 0) (rmAU0 l Z a0 hw [] B t tt i ti r tr ku ko kt ki kr ct ci cr w2 zc b1 hc ks kh kk T3.heap n0 Zi ky3 KC gB bB3 CS hzc xo3 TE) hZ (wq hw 168 rfl) (wq hw 152 rfl) (by decide) (by decide)) q5a q5c (g := (mkF m 16 #[.val .null, vR ku, vR b1] [(.ref ku), (.ref b1)])) rfl (by rw [hml]; rfl) (Steps.refl _) (argsL := [(.ref ku)]) (rest := []) (lenOf pd_16 rfl) rfl (by show 2 * 0 + _ ≤ _; exact Nat.le_of_eq rfl) (hb hby d22_16) (fun _ _ => ⟨rfl, rfl, (by decide : 3 + 1 ≤ _), (by decide : 10 + 3 ≤ _)⟩)
    dsimp only [Pt.U, Pt.locs, Pt.cells, Pt.slots] at X5 l5 y5 z5 st5 hQ5
    rw [l5, y5, z5] at X5
    change Stand p l e _ _ m _ below meth c T5 _ 4 13 at X5
    obtain ⟨rfl, N5q, K5, KF, TF⟩ := hQ5
    have N5 := Fr.app N3 N5q
    refine Go T5 (mkF m 19 #[.val .null, vR ku, vR b1] []) ?_ (fun t => st5.trans)
    have kp6 := kp4.trans K5 (allS (Or.inl (by simp)) (allS (Or.inl (by simp)) (allS (Or.inl (by simp)) (allS (Or.inr sa) (allS (Or.inr sh) (allS (Or.inr sk) all0))))))
    refine Go T5 (mkF m 20 #[.val .null, vR ku, vR b1] [(.ref b1)]) ?_ (fun t_ k_ => XS.aloadN X5.here hx rfl (hb hby d22_19) rfl rfl k_)
    rw [hWd]
    exact Goes.retn X5 (v := some (.ref b1)) (fun fs hr => retA X5 hx Bd.returns rfl rfl (hb hby d22_20) hr) (fun h => by rw [Bd.returns] at h; cases h) Bd.notSynchronized (by decide) (by decide) ⟨.ref b1, [b1, hc, ks], rfl, N5, kp6, KF, Or.inr ⟨Nat.succ_pos _, b1, hc, ks, kh, kk, rfl, rfl, TF⟩, (own_sfC (P := fun y => y ∈ ([] : List Addr) ∨ h0.size ≤ y) (Or.inr sa) (own_sfC (Or.inr sh) (own_sfC (Or.inr sk) (fun y hy => absurd hy List.not_mem_nil))))⟩
  · subst hv0 ht0
    show Goes p e below W s₁ (mkF m 0 #[vR a, vR ku, .unset] [])
    refine Go s₁ (mkF m 1 #[vR a, vR ku, .unset] [(.ref a)]) ?_ (fun t_ k_ => XS.aloadN X0.here hx rfl (hb hby d22_0) rfl rfl k_)
    refine Go s₁ (mkF m 2 #[vR a, vR ku, vR a] []) ?_ (fun t_ k_ => XS.astoreN X0.here hx rfl (hb hby d22_1) rfl rfl (l' := #[vR a, vR ku, vR a]) rfl k_)
    refine Go s₁ (mkF m 3 #[vR a, vR ku, vR a] [(.ref a)]) ?_ (fun t_ k_ => XS.aloadN X0.here hx rfl (hb hby d22_2) rfl rfl k_)
    refine Go s₁ (mkF m 14 #[vR a, vR ku, vR a] []) ?_ (fun t_ k_ => XS.ifnonnullYes X0.here hx rfl (pc0 := 3) (pc' := 14) rfl (hb hby d22_3) rfl (by decide) (by decide) k_)
    refine Go s₁ (mkF m 15 #[vR a, vR ku, vR a] [(.ref a)]) ?_ (fun t_ k_ => XS.aloadN X0.here hx rfl (hb hby d22_14) rfl rfl k_)
    refine Go s₁ (mkF m 16 #[vR a, vR ku, vR a] [(.ref ku), (.ref a)]) ?_ (fun t_ k_ => XS.aloadN X0.here hx rfl (hb hby d22_15) rfl rfl k_)
    obtain ⟨cq7, kq7, q7a, q7b, q7c⟩ := isOf hZ e0 TL.E
    obtain ⟨_, _, ⟨T7, Lq_7, kq_7, nq_7⟩, -, X7, ⟨Lc7, hQ7, l7, y7, z7⟩, st7⟩ := X0.virtualBack hx (y := mN24) (z := mN24) hown (mvT hZ (wq hw 164 rfl)) (mvT hZ (wq hw 165 rfl)) (notFace_of_selects (args := #[]) (mvT hZ (wq hw 167 rfl))) (mvT hZ (wq hw 167 rfl)) (mvT hZ (wq hw 166 rfl)) (by decide) (backOf (W := 0) (rmAU1 l Z a0 hw [] B t tt i ti r tr ku ko kt ki kr ct ci cr w2 zc a hc ks kh kk (Int32.ofNat n) h0 n0 Z0 KY KC gB bB CS hzc X0_ TL (own_nz0 hn0 (by omega))) hZ (wq hw 168 rfl) (wq hw 152 rfl) (by decide) (by decide)) q7a q7c (g := (mkF m 16 #[vR a, vR ku, vR a] [(.ref ku), (.ref a)])) rfl (by rw [hml]; rfl) (Steps.refl _) (argsL := [(.ref ku)]) (rest := []) (lenOf pd_16 rfl) rfl (by show 2 * 0 + _ ≤ _; exact Nat.le_of_eq rfl) (hb hby d22_16) (fun _ _ => ⟨rfl, e0, (by decide : 0 + 1 ≤ _), (by decide : 0 + 3 ≤ _)⟩)
    dsimp only [Pt.U, Pt.locs, Pt.cells, Pt.slots] at X7 l7 y7 z7 st7 hQ7
    rw [l7, y7, z7] at X7
    change Stand p l e _ _ m _ below meth c T7 _ 1 3 at X7
    obtain ⟨rfl, N7q, KX, KF, TF⟩ := hQ7
    have N7 := Fr.app N0 N7q
    refine Go T7 (mkF m 19 #[vR a, vR ku, vR a] []) ?_ (fun t => st7.trans)
    refine Go T7 (mkF m 20 #[vR a, vR ku, vR a] [(.ref a)]) ?_ (fun t_ k_ => XS.aloadN X7.here hx rfl (hb hby d22_19) rfl rfl k_)
    rw [hWd]
    exact Goes.retn X7 (v := some (.ref a)) (fun fs hr => retA X7 hx Bd.returns rfl rfl (hb hby d22_20) hr) (fun h => by rw [Bd.returns] at h; cases h) Bd.notSynchronized (by decide) (by decide) ⟨.ref a, [a, hc, ks], rfl, N7, KX, KF, Or.inr ⟨Nat.succ_pos _, a, hc, ks, kh, kk, rfl, rfl, by rw [own_p1] at TF; exact TF⟩, fun y hy => Or.inl hy⟩
def QMU (Z : State) (B : Nat) (t tt i ti r tr ku ko : Addr) (kt ki kr : ClassId) (ct ci cr w2 : Int32) (zc : Int32) (v_ : Value) (n : Nat) (tl : List Addr) (h0 : Heap) (n0 : Nat) (v : Option Value) (h : Heap) (L : List Loc) : Prop := ∃ v2 tl2, v = some v2 ∧ Fr n0 L ∧ Keep h0 h ([t, i, r] ++ tl) ∧ KA Z h t tt i ti r tr ku ko kt ki kr ct ci cr w2 ∧ HF Z h B v2 ku (own_sh ct ci cr) (n - 1) tl2 ∧ ∀ y ∈ tl2, y ∈ tl ∨ h0.size ≤ y
set_option maxRecDepth 65536 in
set_option maxHeartbeats 40000000 in
theorem rmMU (l : Launch) (Z : State) (a0 : Array Value) (hw : ∀ d ∈ tables_1, d.before a0 Z = true) (ws : List Jvm.Cond) (B : Nat) (t tt i ti r tr ku ko : Addr) (kt ki kr : ClassId) (ct ci cr w2 : Int32) (zc : Int32) (v_ : Value) (n : Nat) (tl : List Addr) (h0 : Heap) (n0 : Nat) (Z0 : n0 ≤ h0.size) (KY : KA Z h0 t tt i ti r tr ku ko kt ki kr ct ci cr w2) (KC : KD n0 B t tt i ti r tr ku ko ct ci cr) (gB : n0 ≤ B) (bB : B ≤ h0.size) (CS : Sta Z Z.heap "java/lang/String" "COMPACT_STRINGS" "Z" (.int zc)) (hzc : ¬ zc = (0 : Int32)) (X0_ : Old Z n0 h0) (F : HF Z h0 B v_ ku (own_sh ct ci cr) n tl) (rV : v_.isRef = true) (h9 : n ≤ 8) :
    MetFree l mN27 (head1 (Jvm.Cond.code mN27 cD17 3 (some (.object "com/example/entitlement/entitlement/Tally")) :: ws) ({ frames := 6, cells := 1, slots := 3, locals := 87 } : Room)) (fun a_ U => a_ = #[v_, (.ref ku)] ∧ Z.Warmed39 U.vm ∧ U.heap = h0) (fun _ _ _ _ _ => True) (fun _ U o U' => ∃ v L, o = .returned v ∧ QMU Z B t tt i ti r tr ku ko kt ki kr ct ci cr w2 zc v_ n tl h0 n0 v U'.heap L ∧ FrameEnd U o U' L ({ frames := 6, cells := 1, slots := 3, locals := 87 } : Room).cells ({ frames := 6, cells := 1, slots := 3, locals := 87 } : Room).slots) := by
  refine MetFree.of_bodySF (plainFor_of_name pn_7) hisR ?_
  intro p e s m args below meth c s₁ Bd hml0 hP hK
  obtain ⟨rfl, hZ, hh⟩ := hP
  have hx := Bd.exec
  have hby := Bd.bytes
  have hml : c.maxLocals = 3 := hml0
  have hown : s.vm.findClass "com/example/entitlement/entitlement/CountedHolders" = some m.cls := findClass_of_methodNamed Bd.named
  have hnm := (name_of_methodNamed Bd.named Bd.method).1
  have X0 : Stand p l e ({ frames := 6, cells := 1, slots := 3, locals := 87 } : Room) s m #[v_, (.ref ku)] below meth c s₁ [] 0 0 := Stand.of_body Bd
  have e0 : s₁.heap = h0 := by rw [← hh, Bd.state]; rfl
  have N0 := Fr.nil n0
  refine Goes.done ?_
  obtain ⟨W, hWd⟩ : ∃ W : State → Prop, W = EndW s below (QMU Z B t tt i ti r tr ku ko kt ki kr ct ci cr w2 zc v_ n tl h0 n0) ({ frames := 6, cells := 1, slots := 3, locals := 87 } : Room).cells ({ frames := 6, cells := 1, slots := 3, locals := 87 } : Room).slots := ⟨_, rfl⟩
  rw [← hWd]
  have hef : entryFrame m #[v_, (.ref ku)] 3 = (mkF m 0 #[.val v_, vR ku, .unset] []) := by rcases ref_cases rV with rfl | ⟨r_0, rfl⟩ <;> first | (simp [entryFrame, mkF, argsToLocals, Value.category]; done) | rfl
  rw [hef]
  rcases id F with ⟨hn0, hv0, ht0⟩ | ⟨hn0, a, hc, ks, kh, kk, hv0, ht0, TL⟩
  · subst hv0 ht0 hn0
    show Goes p e below W s₁ (mkF m 0 #[.val .null, vR ku, .unset] [])
    refine Go s₁ (mkF m 1 #[.val .null, vR ku, .unset] [.null]) ?_ (fun t_ k_ => XS.aloadN X0.here hx rfl (hb hby d20_0) rfl rfl k_)
    refine Go s₁ (mkF m 2 #[.val .null, vR ku, .val .null] []) ?_ (fun t_ k_ => XS.astoreN X0.here hx rfl (hb hby d20_1) rfl rfl (l' := #[.val .null, vR ku, .val .null]) rfl k_)
    refine Go s₁ (mkF m 3 #[.val .null, vR ku, .val .null] [.null]) ?_ (fun t_ k_ => XS.aloadN X0.here hx rfl (hb hby d20_2) rfl rfl k_)
    refine Go s₁ (mkF m 21 #[.val .null, vR ku, .val .null] []) ?_ (fun t_ k_ => XS.ifnullYes X0.here hx rfl (pc0 := 3) (pc' := 21) rfl (hb hby d20_3) rfl (by decide) (by decide) k_)
    refine Go s₁ (mkF m 22 #[.val .null, vR ku, .val .null] [.null]) ?_ (fun t_ k_ => XS.aloadN X0.here hx rfl (hb hby d20_21) rfl rfl k_)
    rw [hWd]
    exact Goes.retn X0 (v := some .null) (fun fs hr => retA X0 hx Bd.returns rfl rfl (hb hby d20_22) hr) (fun h => by rw [Bd.returns] at h; cases h) Bd.notSynchronized (by decide) (by decide) (by rw [e0]; exact ⟨.null, [], rfl, N0, Keep.refl _ _, KY, Or.inl ⟨rfl, rfl, rfl⟩, fun y hy => Or.inl hy⟩)
  · subst hv0 ht0
    show Goes p e below W s₁ (mkF m 0 #[vR a, vR ku, .unset] [])
    by_cases hn1 : n = 1
    · subst hn1
      refine Go s₁ (mkF m 1 #[vR a, vR ku, .unset] [(.ref a)]) ?_ (fun t_ k_ => XS.aloadN X0.here hx rfl (hb hby d20_0) rfl rfl k_)
      refine Go s₁ (mkF m 2 #[vR a, vR ku, vR a] []) ?_ (fun t_ k_ => XS.astoreN X0.here hx rfl (hb hby d20_1) rfl rfl (l' := #[vR a, vR ku, vR a]) rfl k_)
      refine Go s₁ (mkF m 3 #[vR a, vR ku, vR a] [(.ref a)]) ?_ (fun t_ k_ => XS.aloadN X0.here hx rfl (hb hby d20_2) rfl rfl k_)
      refine Go s₁ (mkF m 6 #[vR a, vR ku, vR a] []) ?_ (fun t_ k_ => XS.ifnullNo X0.here hx rfl (hb hby d20_3) rfl k_)
      refine Go s₁ (mkF m 7 #[vR a, vR ku, vR a] [(.ref a)]) ?_ (fun t_ k_ => XS.aloadN X0.here hx rfl (hb hby d20_6) rfl rfl k_)
      refine Go s₁ (mkF m 8 #[vR a, vR ku, vR a] [(.ref ku), (.ref a)]) ?_ (fun t_ k_ => XS.aloadN X0.here hx rfl (hb hby d20_7) rfl rfl k_)
      obtain ⟨cq1, kq1, q1a, q1b, q1c⟩ := isOf hZ e0 TL.E
      obtain ⟨_, _, ⟨T1, Lq_1, kq_1, nq_1⟩, -, X1, ⟨Lc1, hQ1, l1, y1, z1⟩, st1⟩ := X0.virtualBack hx (y := mN25) (z := mN25) hown (mvT hZ (wq hw 188 rfl)) (mvT hZ (wq hw 189 rfl)) (notFace_of_selects (args := #[]) (mvT hZ (wq hw 191 rfl))) (mvT hZ (wq hw 191 rfl)) (mvT hZ (wq hw 190 rfl)) (by decide) (backOf (W := 0) (rmRU0 l Z a0 hw [] B t tt i ti r tr ku ko kt ki kr ct ci cr w2 zc a hc ks kh kk h0 n0 Z0 KY KC gB bB CS hzc X0_ (by exact TL)) hZ (wq hw 192 rfl) (wq hw 152 rfl) (by decide) (by decide)) q1a q1c (g := (mkF m 8 #[vR a, vR ku, vR a] [(.ref ku), (.ref a)])) rfl (by rw [hml]; rfl) (Steps.refl _) (argsL := [(.ref ku)]) (rest := []) (lenOf pd_7 rfl) rfl (by show 2 * 0 + _ ≤ _; exact Nat.le_of_eq rfl) (hb hby d20_8) (fun _ _ => ⟨rfl, e0, (by decide : 0 + 1 ≤ _), (by decide : 0 + 3 ≤ _)⟩)
      dsimp only [Pt.U, Pt.locs, Pt.cells, Pt.slots] at X1 l1 y1 z1 st1 hQ1
      rw [l1, y1, z1] at X1
      change Stand p l e _ _ m _ below meth c T1 _ 1 3 at X1
      obtain ⟨rfl, N1q, KX, KF, EF, ZF⟩ := hQ1
      have N1 := Fr.app N0 N1q
      refine Go T1 (mkF m 11 #[vR a, vR ku, vR a] [(.int 1)]) ?_ (fun t => st1.trans)
      refine Go T1 (mkF m 12 #[vR a, vR ku, vR a] []) ?_ (fun t_ k_ => XS.pop X1.here hx rfl (hb hby d20_11) rfl rfl k_)
      refine Go T1 (mkF m 13 #[vR a, vR ku, vR a] [(.ref a)]) ?_ (fun t_ k_ => XS.aloadN X1.here hx rfl (hb hby d20_12) rfl rfl k_)
      have Zr : n0 ≤ T1.heap.size := Nat.le_trans Z0 KX.1
      obtain ⟨cq2, kq2, q2a, q2b, q2c⟩ := isOf hZ rfl EF
      obtain ⟨_, _, ⟨T2, Lq_2, kq_2, nq_2⟩, -, X2, ⟨Lc2, hQ2, l2, y2, z2⟩, st2⟩ := X1.virtualBack hx (y := mN14) (z := mN14) hown (mvT hZ (wq hw 197 rfl)) (mvT hZ (wq hw 198 rfl)) (notFace_of_selects (args := #[]) (mvT hZ (wq hw 200 rfl))) (mvT hZ (wq hw 200 rfl)) (mvT hZ (wq hw 199 rfl)) (by decide) (backOf (W := 0) (rmTE l Z a0 hw [] a (0 : Int32) T1.heap n0 Zr ZF) hZ (wq hw 201 rfl) (wq hw 152 rfl) (by decide) (by decide)) q2a q2c (g := (mkF m 13 #[vR a, vR ku, vR a] [(.ref a)])) rfl (by rw [hml]; rfl) (Steps.refl _) (argsL := []) (rest := []) (lenOf pd_4 rfl) rfl (by show 2 * 0 + _ ≤ _; exact Nat.le_of_eq rfl) (hb hby d20_13) (fun _ _ => ⟨rfl, rfl, (by decide : 1 + 0 ≤ _), (by decide : 3 + 0 ≤ _)⟩)
      dsimp only [Pt.U, Pt.locs, Pt.cells, Pt.slots] at X2 l2 y2 z2 st2 hQ2
      rw [l2, y2, z2] at X2
      change Stand p l e _ _ m _ below meth c T2 _ 1 3 at X2
      obtain ⟨rfl, N2q, eh2⟩ := hQ2
      have N2 := Fr.app N1 N2q
      refine Go T2 (mkF m 16 #[vR a, vR ku, vR a] [(.int (if (0 : Int32) = 0 then 1 else 0))]) ?_ (fun t => st2.trans)
      rw [if_pos rfl]
      refine Go T2 (mkF m 19 #[vR a, vR ku, vR a] []) ?_ (fun t_ k_ => XS.ifNo X2.here hx rfl (hb hby d20_16) rfl (by decide) k_)
      refine Go T2 (mkF m 20 #[vR a, vR ku, vR a] [.null]) ?_ (fun t_ k_ => XS.aconstNull X2.here hx rfl (hb hby d20_19) k_)
      refine Go T2 (mkF m 21 #[vR a, vR ku, .val .null] []) ?_ (fun t_ k_ => XS.astoreN X2.here hx rfl (hb hby d20_20) rfl rfl (l' := #[vR a, vR ku, .val .null]) rfl k_)
      refine Go T2 (mkF m 22 #[vR a, vR ku, .val .null] [.null]) ?_ (fun t_ k_ => XS.aloadN X2.here hx rfl (hb hby d20_21) rfl rfl k_)
      rw [hWd]
      exact Goes.retn X2 (v := some .null) (fun fs hr => retA X2 hx Bd.returns rfl rfl (hb hby d20_22) hr) (fun h => by rw [Bd.returns] at h; cases h) Bd.notSynchronized (by decide) (by decide) (by rw [eh2]; exact ⟨.null, [], rfl, N2, KX, KF, Or.inl ⟨rfl, rfl, rfl⟩, fun y hy => absurd hy List.not_mem_nil⟩)
    · have hn2 : 2 ≤ n := by omega
      have hm1 : ¬ Int32.ofNat n - (1 : Int32) = 0 := by rw [own_m1 hn0 (by omega)]; exact own_nz0 (by omega) (by omega)
      refine Go s₁ (mkF m 1 #[vR a, vR ku, .unset] [(.ref a)]) ?_ (fun t_ k_ => XS.aloadN X0.here hx rfl (hb hby d20_0) rfl rfl k_)
      refine Go s₁ (mkF m 2 #[vR a, vR ku, vR a] []) ?_ (fun t_ k_ => XS.astoreN X0.here hx rfl (hb hby d20_1) rfl rfl (l' := #[vR a, vR ku, vR a]) rfl k_)
      refine Go s₁ (mkF m 3 #[vR a, vR ku, vR a] [(.ref a)]) ?_ (fun t_ k_ => XS.aloadN X0.here hx rfl (hb hby d20_2) rfl rfl k_)
      refine Go s₁ (mkF m 6 #[vR a, vR ku, vR a] []) ?_ (fun t_ k_ => XS.ifnullNo X0.here hx rfl (hb hby d20_3) rfl k_)
      refine Go s₁ (mkF m 7 #[vR a, vR ku, vR a] [(.ref a)]) ?_ (fun t_ k_ => XS.aloadN X0.here hx rfl (hb hby d20_6) rfl rfl k_)
      refine Go s₁ (mkF m 8 #[vR a, vR ku, vR a] [(.ref ku), (.ref a)]) ?_ (fun t_ k_ => XS.aloadN X0.here hx rfl (hb hby d20_7) rfl rfl k_)
      obtain ⟨cq3, kq3, q3a, q3b, q3c⟩ := isOf hZ e0 TL.E
      obtain ⟨_, _, ⟨T3, Lq_3, kq_3, nq_3⟩, -, X3, ⟨Lc3, hQ3, l3, y3, z3⟩, st3⟩ := X0.virtualBack hx (y := mN25) (z := mN25) hown (mvT hZ (wq hw 188 rfl)) (mvT hZ (wq hw 189 rfl)) (notFace_of_selects (args := #[]) (mvT hZ (wq hw 191 rfl))) (mvT hZ (wq hw 191 rfl)) (mvT hZ (wq hw 190 rfl)) (by decide) (backOf (W := 0) (rmRU1 l Z a0 hw [] B t tt i ti r tr ku ko kt ki kr ct ci cr w2 zc a hc ks kh kk (Int32.ofNat n) h0 n0 Z0 KY KC gB bB CS hzc X0_ TL (own_nz0 hn0 (by omega)) hm1) hZ (wq hw 192 rfl) (wq hw 152 rfl) (by decide) (by decide)) q3a q3c (g := (mkF m 8 #[vR a, vR ku, vR a] [(.ref ku), (.ref a)])) rfl (by rw [hml]; rfl) (Steps.refl _) (argsL := [(.ref ku)]) (rest := []) (lenOf pd_7 rfl) rfl (by show 2 * 0 + _ ≤ _; exact Nat.le_of_eq rfl) (hb hby d20_8) (fun _ _ => ⟨rfl, e0, (by decide : 0 + 1 ≤ _), (by decide : 0 + 3 ≤ _)⟩)
      dsimp only [Pt.U, Pt.locs, Pt.cells, Pt.slots] at X3 l3 y3 z3 st3 hQ3
      rw [l3, y3, z3] at X3
      change Stand p l e _ _ m _ below meth c T3 _ 1 3 at X3
      obtain ⟨rfl, N3q, KX, KF, TF⟩ := hQ3
      have N3 := Fr.app N0 N3q
      refine Go T3 (mkF m 11 #[vR a, vR ku, vR a] [(.int 0)]) ?_ (fun t => st3.trans)
      refine Go T3 (mkF m 12 #[vR a, vR ku, vR a] []) ?_ (fun t_ k_ => XS.pop X3.here hx rfl (hb hby d20_11) rfl rfl k_)
      refine Go T3 (mkF m 13 #[vR a, vR ku, vR a] [(.ref a)]) ?_ (fun t_ k_ => XS.aloadN X3.here hx rfl (hb hby d20_12) rfl rfl k_)
      have Zr : n0 ≤ T3.heap.size := Nat.le_trans Z0 KX.1
      obtain ⟨cq4, kq4, q4a, q4b, q4c⟩ := isOf hZ rfl TF.E
      obtain ⟨_, _, ⟨T4, Lq_4, kq_4, nq_4⟩, -, X4, ⟨Lc4, hQ4, l4, y4, z4⟩, st4⟩ := X3.virtualBack hx (y := mN14) (z := mN14) hown (mvT hZ (wq hw 197 rfl)) (mvT hZ (wq hw 198 rfl)) (notFace_of_selects (args := #[]) (mvT hZ (wq hw 200 rfl))) (mvT hZ (wq hw 200 rfl)) (mvT hZ (wq hw 199 rfl)) (by decide) (backOf (W := 0) (rmTE l Z a0 hw [] a (1 : Int32) T3.heap n0 Zr TF.FZ) hZ (wq hw 201 rfl) (wq hw 152 rfl) (by decide) (by decide)) q4a q4c (g := (mkF m 13 #[vR a, vR ku, vR a] [(.ref a)])) rfl (by rw [hml]; rfl) (Steps.refl _) (argsL := []) (rest := []) (lenOf pd_4 rfl) rfl (by show 2 * 0 + _ ≤ _; exact Nat.le_of_eq rfl) (hb hby d20_13) (fun _ _ => ⟨rfl, rfl, (by decide : 1 + 0 ≤ _), (by decide : 3 + 0 ≤ _)⟩)
      dsimp only [Pt.U, Pt.locs, Pt.cells, Pt.slots] at X4 l4 y4 z4 st4 hQ4
      rw [l4, y4, z4] at X4
      change Stand p l e _ _ m _ below meth c T4 _ 1 3 at X4
      obtain ⟨rfl, N4q, eh4⟩ := hQ4
      have N4 := Fr.app N3 N4q
      refine Go T4 (mkF m 16 #[vR a, vR ku, vR a] [(.int (if (1 : Int32) = 0 then 1 else 0))]) ?_ (fun t => st4.trans)
      rw [if_neg (by decide)]
      refine Go T4 (mkF m 21 #[vR a, vR ku, vR a] []) ?_ (fun t_ k_ => XS.ifYes X4.here hx rfl (pc0 := 16) (pc' := 21) rfl (hb hby d20_16) rfl (by decide) (by decide) (by decide) k_)
      refine Go T4 (mkF m 22 #[vR a, vR ku, vR a] [(.ref a)]) ?_ (fun t_ k_ => XS.aloadN X4.here hx rfl (hb hby d20_21) rfl rfl k_)
      rw [hWd]
      exact Goes.retn X4 (v := some (.ref a)) (fun fs hr => retA X4 hx Bd.returns rfl rfl (hb hby d20_22) hr) (fun h => by rw [Bd.returns] at h; cases h) Bd.notSynchronized (by decide) (by decide) (by rw [eh4]; exact ⟨.ref a, [a, hc, ks], rfl, N4, KX, KF, Or.inr ⟨by omega, a, hc, ks, kh, kk, rfl, rfl, by rw [own_m1 hn0 (by omega)] at TF; exact TF⟩, fun y hy => Or.inl hy⟩)
def QDO (Z : State) (B : Nat) (t tt i ti r tr ku ko : Addr) (kt ki kr : ClassId) (ct ci cr w2 : Int32) (zc : Int32) (v_ : Value) (n : Nat) (tl : List Addr) (h0 : Heap) (n0 : Nat) (v : Option Value) (h : Heap) (L : List Loc) : Prop := ∃ v2 tl2, v = some v2 ∧ Fr n0 L ∧ Keep h0 h ([t, i, r] ++ tl) ∧ KA Z h t tt i ti r tr ku ko kt ki kr ct ci cr w2 ∧ HF Z h B v2 ko w2 (n + 1) tl2 ∧ ∀ y ∈ tl2, y ∈ tl ∨ h0.size ≤ y
set_option maxRecDepth 65536 in
set_option maxHeartbeats 40000000 in
theorem rmDO (l : Launch) (Z : State) (a0 : Array Value) (hw : ∀ d ∈ tables_1, d.before a0 Z = true) (ws : List Jvm.Cond) (B : Nat) (t tt i ti r tr ku ko : Addr) (kt ki kr : ClassId) (ct ci cr w2 : Int32) (zc : Int32) (v_ : Value) (n : Nat) (tl : List Addr) (h0 : Heap) (n0 : Nat) (Z0 : n0 ≤ h0.size) (KY : KA Z h0 t tt i ti r tr ku ko kt ki kr ct ci cr w2) (KC : KD n0 B t tt i ti r tr ku ko ct ci cr) (gB : n0 ≤ B) (bB : B ≤ h0.size) (CS : Sta Z Z.heap "java/lang/String" "COMPACT_STRINGS" "Z" (.int zc)) (hzc : ¬ zc = (0 : Int32)) (X0_ : Old Z n0 h0) (F : HF Z h0 B v_ ko w2 n tl) (rV : v_.isRef = true) (h9 : n ≤ 8) :
    MetFree l mN26 (head1 (Jvm.Cond.code mN26 cD19 3 (some (.object "com/example/entitlement/entitlement/Tally")) :: ws) ({ frames := 3, cells := 3, slots := 10, locals := 51 } : Room)) (fun a_ U => a_ = #[v_, (.ref ko)] ∧ Z.Warmed39 U.vm ∧ U.heap = h0) (fun _ _ _ _ _ => True) (fun _ U o U' => ∃ v L, o = .returned v ∧ QDO Z B t tt i ti r tr ku ko kt ki kr ct ci cr w2 zc v_ n tl h0 n0 v U'.heap L ∧ FrameEnd U o U' L ({ frames := 3, cells := 3, slots := 10, locals := 51 } : Room).cells ({ frames := 3, cells := 3, slots := 10, locals := 51 } : Room).slots) := by
  refine MetFree.of_bodySF (plainFor_of_name pn_7) hisR ?_
  intro p e s m args below meth c s₁ Bd hml0 hP hK
  obtain ⟨rfl, hZ, hh⟩ := hP
  have hx := Bd.exec
  have hby := Bd.bytes
  have hml : c.maxLocals = 3 := hml0
  have hown : s.vm.findClass "com/example/entitlement/entitlement/CountedHolders" = some m.cls := findClass_of_methodNamed Bd.named
  have hnm := (name_of_methodNamed Bd.named Bd.method).1
  have X0 : Stand p l e ({ frames := 3, cells := 3, slots := 10, locals := 51 } : Room) s m #[v_, (.ref ko)] below meth c s₁ [] 0 0 := Stand.of_body Bd
  have e0 : s₁.heap = h0 := by rw [← hh, Bd.state]; rfl
  have N0 := Fr.nil n0
  refine Goes.done ?_
  obtain ⟨W, hWd⟩ : ∃ W : State → Prop, W = EndW s below (QDO Z B t tt i ti r tr ku ko kt ki kr ct ci cr w2 zc v_ n tl h0 n0) ({ frames := 3, cells := 3, slots := 10, locals := 51 } : Room).cells ({ frames := 3, cells := 3, slots := 10, locals := 51 } : Room).slots := ⟨_, rfl⟩
  rw [← hWd]
  have hef : entryFrame m #[v_, (.ref ko)] 3 = (mkF m 0 #[.val v_, vR ko, .unset] []) := by rcases ref_cases rV with rfl | ⟨r_0, rfl⟩ <;> first | (simp [entryFrame, mkF, argsToLocals, Value.category]; done) | rfl
  rw [hef]
  rcases id F with ⟨hn0, hv0, ht0⟩ | ⟨hn0, a, hc, ks, kh, kk, hv0, ht0, TL⟩
  · subst hv0 ht0 hn0
    show Goes p e below W s₁ (mkF m 0 #[.val .null, vR ko, .unset] [])
    refine Go s₁ (mkF m 1 #[.val .null, vR ko, .unset] [.null]) ?_ (fun t_ k_ => XS.aloadN X0.here hx rfl (hb hby d22_0) rfl rfl k_)
    refine Go s₁ (mkF m 2 #[.val .null, vR ko, .val .null] []) ?_ (fun t_ k_ => XS.astoreN X0.here hx rfl (hb hby d22_1) rfl rfl (l' := #[.val .null, vR ko, .val .null]) rfl k_)
    refine Go s₁ (mkF m 3 #[.val .null, vR ko, .val .null] [.null]) ?_ (fun t_ k_ => XS.aloadN X0.here hx rfl (hb hby d22_2) rfl rfl k_)
    refine Go s₁ (mkF m 6 #[.val .null, vR ko, .val .null] []) ?_ (fun t_ k_ => XS.ifnonnullNo X0.here hx rfl (hb hby d22_3) rfl k_)
    obtain ⟨T1, h1, X1, e1, E1, A1, D1, -, st1⟩ := newO X0 hx hZ hown (wq hw 150 rfl) (wq hw 151 rfl) (wq hw 152 rfl) e0 (g := (mkF m 6 #[.val .null, vR ko, .val .null] [])) rfl (hb hby d22_6) (by decide) (by decide)
    obtain ⟨b1, gb1⟩ : ∃ z, z = h0.size := ⟨_, rfl⟩
    rw [← gb1] at A1 D1 st1
    have Z1 : n0 ≤ h1.size := Nat.le_trans Z0 E1.1
    have g_b1 : n0 ≤ b1 := Nat.le_trans Z0 (Nat.le_of_eq gb1.symm)
    refine Go T1 (mkF m 9 #[.val .null, vR ko, .val .null] [(.ref b1)]) ?_ st1
    have kp2 := (Keep.refl h0 ([t, i, r] ++ [])).ext E1
    have F1_hashesAndCounts : Fld Z h1 b1 "com/example/entitlement/entitlement/Tally" "hashesAndCounts" "[I" .null := D1 (Or.inl (wq hw 158 rfl)) (ty := (.array .int)) (by decide)
    have F1_keys : Fld Z h1 b1 "com/example/entitlement/entitlement/Tally" "keys" "[Ljava/lang/Object;" .null := D1 (Or.inl (wq hw 161 rfl)) (ty := (.array (.object "java/lang/Object"))) (by decide)
    have F1_shift : Fld Z h1 b1 "com/example/entitlement/entitlement/Tally" "shift" "I" (.int 0) := D1 (Or.inl (wq hw 163 rfl)) (ty := .int) (by decide)
    have F1_size : Fld Z h1 b1 "com/example/entitlement/entitlement/Tally" "size" "I" (.int 0) := D1 (Or.inl (wq hw 183 rfl)) (ty := .int) (by decide)
    have ba : B ≤ b1 := Nat.le_trans bB (Nat.le_of_eq gb1.symm)
    have sa : h0.size ≤ b1 := Nat.le_of_eq gb1.symm
    have bB1 : B ≤ h1.size := Nat.le_trans bB E1.1
    have kyE := KY.keep KC ((Keep.refl _ []).ext E1) all0
    have xoE := X0_.ext E1
    refine Go T1 (mkF m 10 #[.val .null, vR ko, .val .null] [(.ref b1), (.ref b1)]) ?_ (fun t_ k_ => XS.dup X1.here hx rfl (hb hby d22_9) rfl rfl k_)
    obtain ⟨_, _, ⟨T3, Lq_3, kq_3, nq_3⟩, -, X3, ⟨Lc3, hQ3, l3, y3, z3⟩, st3⟩ := X1.specialBack hx (y := mN18) rfl hown (mvT hZ (wq hw 153 rfl)) (mvT hZ (wq hw 154 rfl)) (mvT hZ (wq hw 155 rfl)) (by decide) (backOf (W := 1) (rmTI l Z a0 hw [] B b1 h1 n0 Z1 A1 F1_hashesAndCounts F1_keys F1_shift F1_size g_b1 ba bB1) hZ (wq hw 155 rfl) (wq hw 152 rfl) (by decide) (by decide)) (g := (mkF m 10 #[.val .null, vR ko, .val .null] [(.ref b1), (.ref b1)])) rfl (by rw [hml]; rfl) (Steps.refl _) (a := b1) (argsL := []) (rest := [(.ref b1)]) (lenOf pd_15 rfl) rfl (by show 2 * 0 + _ ≤ _; exact Nat.le_of_eq rfl) (hb hby d22_10) (fun _ _ => ⟨rfl, e1, (by decide : 1 + 2 ≤ _), (by decide : 4 + 6 ≤ _)⟩)
    dsimp only [Pt.U, Pt.locs, Pt.cells, Pt.slots] at X3 l3 y3 z3 st3 hQ3
    rw [l3, y3, z3] at X3
    change Stand p l e _ _ m _ below meth c T3 _ 3 10 at X3
    obtain ⟨rfl, N3q, K3, ⟨hc, ks, kh, kk, szh, szk, TE⟩⟩ := hQ3
    have N3 := Fr.app N0 N3q
    refine Go T3 (mkF m 13 #[.val .null, vR ko, .val .null] [(.ref b1)]) ?_ (fun t => st3.trans)
    have Zi : n0 ≤ T3.heap.size := Nat.le_trans Z1 K3.1
    have bB3 : B ≤ T3.heap.size := Nat.le_trans bB1 K3.1
    have ky3 := kyE.keep KC K3 (own_sfC (P := fun z => B ≤ z) ba (fun y hy => absurd hy List.not_mem_nil))
    have xo3 := xoE.keep K3 (allS g_b1 all0)
    have sh : h0.size ≤ hc := Nat.le_trans E1.1 szh
    have sk : h0.size ≤ ks := Nat.le_trans E1.1 szk
    have kp4 := kp2.trans K3 (allS (Or.inr sa) all0)
    refine Go T3 (mkF m 14 #[.val .null, vR ko, vR b1] []) ?_ (fun t_ k_ => XS.astoreN X3.here hx rfl (hb hby d22_13) rfl rfl (l' := #[.val .null, vR ko, vR b1]) rfl k_)
    refine Go T3 (mkF m 15 #[.val .null, vR ko, vR b1] [(.ref b1)]) ?_ (fun t_ k_ => XS.aloadN X3.here hx rfl (hb hby d22_14) rfl rfl k_)
    refine Go T3 (mkF m 16 #[.val .null, vR ko, vR b1] [(.ref ko), (.ref b1)]) ?_ (fun t_ k_ => XS.aloadN X3.here hx rfl (hb hby d22_15) rfl rfl k_)
    obtain ⟨cq5, kq5, q5a, q5b, q5c⟩ := isOf hZ rfl TE.E
    obtain ⟨_, _, ⟨T5, Lq_5, kq_5, nq_5⟩, -, X5, ⟨Lc5, hQ5, l5, y5, z5⟩, st5⟩ := X3.virtualBack hx (y := mN24) (z := mN24) hown (mvT hZ (wq hw 164 rfl)) (mvT hZ (wq hw 165 rfl)) (notFace_of_selects (args := #[]) (mvT hZ (wq hw 167 rfl))) (mvT hZ (wq hw 167 rfl)) (mvT hZ (wq hw 166 rfl)) (by decide) (backOf (W := 0) (rmAO0 l Z a0 hw [] B t tt i ti r tr ku ko kt ki kr ct ci cr w2 zc b1 hc ks kh kk T3.heap n0 Zi ky3 KC gB bB3 CS hzc xo3 TE) hZ (wq hw 168 rfl) (wq hw 152 rfl) (by decide) (by decide)) q5a q5c (g := (mkF m 16 #[.val .null, vR ko, vR b1] [(.ref ko), (.ref b1)])) rfl (by rw [hml]; rfl) (Steps.refl _) (argsL := [(.ref ko)]) (rest := []) (lenOf pd_16 rfl) rfl (by show 2 * 0 + _ ≤ _; exact Nat.le_of_eq rfl) (hb hby d22_16) (fun _ _ => ⟨rfl, rfl, (by decide : 3 + 0 ≤ _), (by decide : 10 + 0 ≤ _)⟩)
    dsimp only [Pt.U, Pt.locs, Pt.cells, Pt.slots] at X5 l5 y5 z5 st5 hQ5
    rw [l5, y5, z5] at X5
    change Stand p l e _ _ m _ below meth c T5 _ 3 10 at X5
    obtain ⟨rfl, N5q, K5, KF, TF⟩ := hQ5
    have N5 := Fr.app N3 N5q
    refine Go T5 (mkF m 19 #[.val .null, vR ko, vR b1] []) ?_ (fun t => st5.trans)
    have kp6 := kp4.trans K5 (allS (Or.inl (by simp)) (allS (Or.inl (by simp)) (allS (Or.inl (by simp)) (allS (Or.inr sa) (allS (Or.inr sh) (allS (Or.inr sk) all0))))))
    refine Go T5 (mkF m 20 #[.val .null, vR ko, vR b1] [(.ref b1)]) ?_ (fun t_ k_ => XS.aloadN X5.here hx rfl (hb hby d22_19) rfl rfl k_)
    rw [hWd]
    exact Goes.retn X5 (v := some (.ref b1)) (fun fs hr => retA X5 hx Bd.returns rfl rfl (hb hby d22_20) hr) (fun h => by rw [Bd.returns] at h; cases h) Bd.notSynchronized (by decide) (by decide) ⟨.ref b1, [b1, hc, ks], rfl, N5, kp6, KF, Or.inr ⟨Nat.succ_pos _, b1, hc, ks, kh, kk, rfl, rfl, TF⟩, (own_sfC (P := fun y => y ∈ ([] : List Addr) ∨ h0.size ≤ y) (Or.inr sa) (own_sfC (Or.inr sh) (own_sfC (Or.inr sk) (fun y hy => absurd hy List.not_mem_nil))))⟩
  · subst hv0 ht0
    show Goes p e below W s₁ (mkF m 0 #[vR a, vR ko, .unset] [])
    refine Go s₁ (mkF m 1 #[vR a, vR ko, .unset] [(.ref a)]) ?_ (fun t_ k_ => XS.aloadN X0.here hx rfl (hb hby d22_0) rfl rfl k_)
    refine Go s₁ (mkF m 2 #[vR a, vR ko, vR a] []) ?_ (fun t_ k_ => XS.astoreN X0.here hx rfl (hb hby d22_1) rfl rfl (l' := #[vR a, vR ko, vR a]) rfl k_)
    refine Go s₁ (mkF m 3 #[vR a, vR ko, vR a] [(.ref a)]) ?_ (fun t_ k_ => XS.aloadN X0.here hx rfl (hb hby d22_2) rfl rfl k_)
    refine Go s₁ (mkF m 14 #[vR a, vR ko, vR a] []) ?_ (fun t_ k_ => XS.ifnonnullYes X0.here hx rfl (pc0 := 3) (pc' := 14) rfl (hb hby d22_3) rfl (by decide) (by decide) k_)
    refine Go s₁ (mkF m 15 #[vR a, vR ko, vR a] [(.ref a)]) ?_ (fun t_ k_ => XS.aloadN X0.here hx rfl (hb hby d22_14) rfl rfl k_)
    refine Go s₁ (mkF m 16 #[vR a, vR ko, vR a] [(.ref ko), (.ref a)]) ?_ (fun t_ k_ => XS.aloadN X0.here hx rfl (hb hby d22_15) rfl rfl k_)
    obtain ⟨cq7, kq7, q7a, q7b, q7c⟩ := isOf hZ e0 TL.E
    obtain ⟨_, _, ⟨T7, Lq_7, kq_7, nq_7⟩, -, X7, ⟨Lc7, hQ7, l7, y7, z7⟩, st7⟩ := X0.virtualBack hx (y := mN24) (z := mN24) hown (mvT hZ (wq hw 164 rfl)) (mvT hZ (wq hw 165 rfl)) (notFace_of_selects (args := #[]) (mvT hZ (wq hw 167 rfl))) (mvT hZ (wq hw 167 rfl)) (mvT hZ (wq hw 166 rfl)) (by decide) (backOf (W := 0) (rmAO1 l Z a0 hw [] B t tt i ti r tr ku ko kt ki kr ct ci cr w2 zc a hc ks kh kk (Int32.ofNat n) h0 n0 Z0 KY KC gB bB CS hzc X0_ TL (own_nz0 hn0 (by omega))) hZ (wq hw 168 rfl) (wq hw 152 rfl) (by decide) (by decide)) q7a q7c (g := (mkF m 16 #[vR a, vR ko, vR a] [(.ref ko), (.ref a)])) rfl (by rw [hml]; rfl) (Steps.refl _) (argsL := [(.ref ko)]) (rest := []) (lenOf pd_16 rfl) rfl (by show 2 * 0 + _ ≤ _; exact Nat.le_of_eq rfl) (hb hby d22_16) (fun _ _ => ⟨rfl, e0, (by decide : 0 + 0 ≤ _), (by decide : 0 + 0 ≤ _)⟩)
    dsimp only [Pt.U, Pt.locs, Pt.cells, Pt.slots] at X7 l7 y7 z7 st7 hQ7
    rw [l7, y7, z7] at X7
    change Stand p l e _ _ m _ below meth c T7 _ 0 0 at X7
    obtain ⟨rfl, N7q, KX, KF, TF⟩ := hQ7
    have N7 := Fr.app N0 N7q
    refine Go T7 (mkF m 19 #[vR a, vR ko, vR a] []) ?_ (fun t => st7.trans)
    refine Go T7 (mkF m 20 #[vR a, vR ko, vR a] [(.ref a)]) ?_ (fun t_ k_ => XS.aloadN X7.here hx rfl (hb hby d22_19) rfl rfl k_)
    rw [hWd]
    exact Goes.retn X7 (v := some (.ref a)) (fun fs hr => retA X7 hx Bd.returns rfl rfl (hb hby d22_20) hr) (fun h => by rw [Bd.returns] at h; cases h) Bd.notSynchronized (by decide) (by decide) ⟨.ref a, [a, hc, ks], rfl, N7, KX, KF, Or.inr ⟨Nat.succ_pos _, a, hc, ks, kh, kk, rfl, rfl, by rw [own_p1] at TF; exact TF⟩, fun y hy => Or.inl hy⟩
def QMO (Z : State) (B : Nat) (t tt i ti r tr ku ko : Addr) (kt ki kr : ClassId) (ct ci cr w2 : Int32) (zc : Int32) (v_ : Value) (n : Nat) (tl : List Addr) (h0 : Heap) (n0 : Nat) (v : Option Value) (h : Heap) (L : List Loc) : Prop := ∃ v2 tl2, v = some v2 ∧ Fr n0 L ∧ Keep h0 h ([t, i, r] ++ tl) ∧ KA Z h t tt i ti r tr ku ko kt ki kr ct ci cr w2 ∧ HF Z h B v2 ko w2 (n - 1) tl2 ∧ ∀ y ∈ tl2, y ∈ tl ∨ h0.size ≤ y
set_option maxRecDepth 65536 in
set_option maxHeartbeats 40000000 in
theorem rmMO (l : Launch) (Z : State) (a0 : Array Value) (hw : ∀ d ∈ tables_1, d.before a0 Z = true) (ws : List Jvm.Cond) (B : Nat) (t tt i ti r tr ku ko : Addr) (kt ki kr : ClassId) (ct ci cr w2 : Int32) (zc : Int32) (v_ : Value) (n : Nat) (tl : List Addr) (h0 : Heap) (n0 : Nat) (Z0 : n0 ≤ h0.size) (KY : KA Z h0 t tt i ti r tr ku ko kt ki kr ct ci cr w2) (KC : KD n0 B t tt i ti r tr ku ko ct ci cr) (gB : n0 ≤ B) (bB : B ≤ h0.size) (CS : Sta Z Z.heap "java/lang/String" "COMPACT_STRINGS" "Z" (.int zc)) (hzc : ¬ zc = (0 : Int32)) (X0_ : Old Z n0 h0) (F : HF Z h0 B v_ ko w2 n tl) (rV : v_.isRef = true) (h9 : n ≤ 8) :
    MetFree l mN27 (head1 (Jvm.Cond.code mN27 cD17 3 (some (.object "com/example/entitlement/entitlement/Tally")) :: ws) ({ frames := 3, cells := 0, slots := 0, locals := 51 } : Room)) (fun a_ U => a_ = #[v_, (.ref ko)] ∧ Z.Warmed39 U.vm ∧ U.heap = h0) (fun _ _ _ _ _ => True) (fun _ U o U' => ∃ v L, o = .returned v ∧ QMO Z B t tt i ti r tr ku ko kt ki kr ct ci cr w2 zc v_ n tl h0 n0 v U'.heap L ∧ FrameEnd U o U' L ({ frames := 3, cells := 0, slots := 0, locals := 51 } : Room).cells ({ frames := 3, cells := 0, slots := 0, locals := 51 } : Room).slots) := by
  refine MetFree.of_bodySF (plainFor_of_name pn_7) hisR ?_
  intro p e s m args below meth c s₁ Bd hml0 hP hK
  obtain ⟨rfl, hZ, hh⟩ := hP
  have hx := Bd.exec
  have hby := Bd.bytes
  have hml : c.maxLocals = 3 := hml0
  have hown : s.vm.findClass "com/example/entitlement/entitlement/CountedHolders" = some m.cls := findClass_of_methodNamed Bd.named
  have hnm := (name_of_methodNamed Bd.named Bd.method).1
  have X0 : Stand p l e ({ frames := 3, cells := 0, slots := 0, locals := 51 } : Room) s m #[v_, (.ref ko)] below meth c s₁ [] 0 0 := Stand.of_body Bd
  have e0 : s₁.heap = h0 := by rw [← hh, Bd.state]; rfl
  have N0 := Fr.nil n0
  refine Goes.done ?_
  obtain ⟨W, hWd⟩ : ∃ W : State → Prop, W = EndW s below (QMO Z B t tt i ti r tr ku ko kt ki kr ct ci cr w2 zc v_ n tl h0 n0) ({ frames := 3, cells := 0, slots := 0, locals := 51 } : Room).cells ({ frames := 3, cells := 0, slots := 0, locals := 51 } : Room).slots := ⟨_, rfl⟩
  rw [← hWd]
  have hef : entryFrame m #[v_, (.ref ko)] 3 = (mkF m 0 #[.val v_, vR ko, .unset] []) := by rcases ref_cases rV with rfl | ⟨r_0, rfl⟩ <;> first | (simp [entryFrame, mkF, argsToLocals, Value.category]; done) | rfl
  rw [hef]
  rcases id F with ⟨hn0, hv0, ht0⟩ | ⟨hn0, a, hc, ks, kh, kk, hv0, ht0, TL⟩
  · subst hv0 ht0 hn0
    show Goes p e below W s₁ (mkF m 0 #[.val .null, vR ko, .unset] [])
    refine Go s₁ (mkF m 1 #[.val .null, vR ko, .unset] [.null]) ?_ (fun t_ k_ => XS.aloadN X0.here hx rfl (hb hby d20_0) rfl rfl k_)
    refine Go s₁ (mkF m 2 #[.val .null, vR ko, .val .null] []) ?_ (fun t_ k_ => XS.astoreN X0.here hx rfl (hb hby d20_1) rfl rfl (l' := #[.val .null, vR ko, .val .null]) rfl k_)
    refine Go s₁ (mkF m 3 #[.val .null, vR ko, .val .null] [.null]) ?_ (fun t_ k_ => XS.aloadN X0.here hx rfl (hb hby d20_2) rfl rfl k_)
    refine Go s₁ (mkF m 21 #[.val .null, vR ko, .val .null] []) ?_ (fun t_ k_ => XS.ifnullYes X0.here hx rfl (pc0 := 3) (pc' := 21) rfl (hb hby d20_3) rfl (by decide) (by decide) k_)
    refine Go s₁ (mkF m 22 #[.val .null, vR ko, .val .null] [.null]) ?_ (fun t_ k_ => XS.aloadN X0.here hx rfl (hb hby d20_21) rfl rfl k_)
    rw [hWd]
    exact Goes.retn X0 (v := some .null) (fun fs hr => retA X0 hx Bd.returns rfl rfl (hb hby d20_22) hr) (fun h => by rw [Bd.returns] at h; cases h) Bd.notSynchronized (by decide) (by decide) (by rw [e0]; exact ⟨.null, [], rfl, N0, Keep.refl _ _, KY, Or.inl ⟨rfl, rfl, rfl⟩, fun y hy => Or.inl hy⟩)
  · subst hv0 ht0
    show Goes p e below W s₁ (mkF m 0 #[vR a, vR ko, .unset] [])
    by_cases hn1 : n = 1
    · subst hn1
      refine Go s₁ (mkF m 1 #[vR a, vR ko, .unset] [(.ref a)]) ?_ (fun t_ k_ => XS.aloadN X0.here hx rfl (hb hby d20_0) rfl rfl k_)
      refine Go s₁ (mkF m 2 #[vR a, vR ko, vR a] []) ?_ (fun t_ k_ => XS.astoreN X0.here hx rfl (hb hby d20_1) rfl rfl (l' := #[vR a, vR ko, vR a]) rfl k_)
      refine Go s₁ (mkF m 3 #[vR a, vR ko, vR a] [(.ref a)]) ?_ (fun t_ k_ => XS.aloadN X0.here hx rfl (hb hby d20_2) rfl rfl k_)
      refine Go s₁ (mkF m 6 #[vR a, vR ko, vR a] []) ?_ (fun t_ k_ => XS.ifnullNo X0.here hx rfl (hb hby d20_3) rfl k_)
      refine Go s₁ (mkF m 7 #[vR a, vR ko, vR a] [(.ref a)]) ?_ (fun t_ k_ => XS.aloadN X0.here hx rfl (hb hby d20_6) rfl rfl k_)
      refine Go s₁ (mkF m 8 #[vR a, vR ko, vR a] [(.ref ko), (.ref a)]) ?_ (fun t_ k_ => XS.aloadN X0.here hx rfl (hb hby d20_7) rfl rfl k_)
      obtain ⟨cq1, kq1, q1a, q1b, q1c⟩ := isOf hZ e0 TL.E
      obtain ⟨_, _, ⟨T1, Lq_1, kq_1, nq_1⟩, -, X1, ⟨Lc1, hQ1, l1, y1, z1⟩, st1⟩ := X0.virtualBack hx (y := mN25) (z := mN25) hown (mvT hZ (wq hw 188 rfl)) (mvT hZ (wq hw 189 rfl)) (notFace_of_selects (args := #[]) (mvT hZ (wq hw 191 rfl))) (mvT hZ (wq hw 191 rfl)) (mvT hZ (wq hw 190 rfl)) (by decide) (backOf (W := 0) (rmRO0 l Z a0 hw [] B t tt i ti r tr ku ko kt ki kr ct ci cr w2 zc a hc ks kh kk h0 n0 Z0 KY KC gB bB CS hzc X0_ (by exact TL)) hZ (wq hw 192 rfl) (wq hw 152 rfl) (by decide) (by decide)) q1a q1c (g := (mkF m 8 #[vR a, vR ko, vR a] [(.ref ko), (.ref a)])) rfl (by rw [hml]; rfl) (Steps.refl _) (argsL := [(.ref ko)]) (rest := []) (lenOf pd_7 rfl) rfl (by show 2 * 0 + _ ≤ _; exact Nat.le_of_eq rfl) (hb hby d20_8) (fun _ _ => ⟨rfl, e0, (by decide : 0 + 0 ≤ _), (by decide : 0 + 0 ≤ _)⟩)
      dsimp only [Pt.U, Pt.locs, Pt.cells, Pt.slots] at X1 l1 y1 z1 st1 hQ1
      rw [l1, y1, z1] at X1
      change Stand p l e _ _ m _ below meth c T1 _ 0 0 at X1
      obtain ⟨rfl, N1q, KX, KF, EF, ZF⟩ := hQ1
      have N1 := Fr.app N0 N1q
      refine Go T1 (mkF m 11 #[vR a, vR ko, vR a] [(.int 1)]) ?_ (fun t => st1.trans)
      refine Go T1 (mkF m 12 #[vR a, vR ko, vR a] []) ?_ (fun t_ k_ => XS.pop X1.here hx rfl (hb hby d20_11) rfl rfl k_)
      refine Go T1 (mkF m 13 #[vR a, vR ko, vR a] [(.ref a)]) ?_ (fun t_ k_ => XS.aloadN X1.here hx rfl (hb hby d20_12) rfl rfl k_)
      have Zr : n0 ≤ T1.heap.size := Nat.le_trans Z0 KX.1
      obtain ⟨cq2, kq2, q2a, q2b, q2c⟩ := isOf hZ rfl EF
      obtain ⟨_, _, ⟨T2, Lq_2, kq_2, nq_2⟩, -, X2, ⟨Lc2, hQ2, l2, y2, z2⟩, st2⟩ := X1.virtualBack hx (y := mN14) (z := mN14) hown (mvT hZ (wq hw 197 rfl)) (mvT hZ (wq hw 198 rfl)) (notFace_of_selects (args := #[]) (mvT hZ (wq hw 200 rfl))) (mvT hZ (wq hw 200 rfl)) (mvT hZ (wq hw 199 rfl)) (by decide) (backOf (W := 0) (rmTE l Z a0 hw [] a (0 : Int32) T1.heap n0 Zr ZF) hZ (wq hw 201 rfl) (wq hw 152 rfl) (by decide) (by decide)) q2a q2c (g := (mkF m 13 #[vR a, vR ko, vR a] [(.ref a)])) rfl (by rw [hml]; rfl) (Steps.refl _) (argsL := []) (rest := []) (lenOf pd_4 rfl) rfl (by show 2 * 0 + _ ≤ _; exact Nat.le_of_eq rfl) (hb hby d20_13) (fun _ _ => ⟨rfl, rfl, (by decide : 0 + 0 ≤ _), (by decide : 0 + 0 ≤ _)⟩)
      dsimp only [Pt.U, Pt.locs, Pt.cells, Pt.slots] at X2 l2 y2 z2 st2 hQ2
      rw [l2, y2, z2] at X2
      change Stand p l e _ _ m _ below meth c T2 _ 0 0 at X2
      obtain ⟨rfl, N2q, eh2⟩ := hQ2
      have N2 := Fr.app N1 N2q
      refine Go T2 (mkF m 16 #[vR a, vR ko, vR a] [(.int (if (0 : Int32) = 0 then 1 else 0))]) ?_ (fun t => st2.trans)
      rw [if_pos rfl]
      refine Go T2 (mkF m 19 #[vR a, vR ko, vR a] []) ?_ (fun t_ k_ => XS.ifNo X2.here hx rfl (hb hby d20_16) rfl (by decide) k_)
      refine Go T2 (mkF m 20 #[vR a, vR ko, vR a] [.null]) ?_ (fun t_ k_ => XS.aconstNull X2.here hx rfl (hb hby d20_19) k_)
      refine Go T2 (mkF m 21 #[vR a, vR ko, .val .null] []) ?_ (fun t_ k_ => XS.astoreN X2.here hx rfl (hb hby d20_20) rfl rfl (l' := #[vR a, vR ko, .val .null]) rfl k_)
      refine Go T2 (mkF m 22 #[vR a, vR ko, .val .null] [.null]) ?_ (fun t_ k_ => XS.aloadN X2.here hx rfl (hb hby d20_21) rfl rfl k_)
      rw [hWd]
      exact Goes.retn X2 (v := some .null) (fun fs hr => retA X2 hx Bd.returns rfl rfl (hb hby d20_22) hr) (fun h => by rw [Bd.returns] at h; cases h) Bd.notSynchronized (by decide) (by decide) (by rw [eh2]; exact ⟨.null, [], rfl, N2, KX, KF, Or.inl ⟨rfl, rfl, rfl⟩, fun y hy => absurd hy List.not_mem_nil⟩)
    · have hn2 : 2 ≤ n := by omega
      have hm1 : ¬ Int32.ofNat n - (1 : Int32) = 0 := by rw [own_m1 hn0 (by omega)]; exact own_nz0 (by omega) (by omega)
      refine Go s₁ (mkF m 1 #[vR a, vR ko, .unset] [(.ref a)]) ?_ (fun t_ k_ => XS.aloadN X0.here hx rfl (hb hby d20_0) rfl rfl k_)
      refine Go s₁ (mkF m 2 #[vR a, vR ko, vR a] []) ?_ (fun t_ k_ => XS.astoreN X0.here hx rfl (hb hby d20_1) rfl rfl (l' := #[vR a, vR ko, vR a]) rfl k_)
      refine Go s₁ (mkF m 3 #[vR a, vR ko, vR a] [(.ref a)]) ?_ (fun t_ k_ => XS.aloadN X0.here hx rfl (hb hby d20_2) rfl rfl k_)
      refine Go s₁ (mkF m 6 #[vR a, vR ko, vR a] []) ?_ (fun t_ k_ => XS.ifnullNo X0.here hx rfl (hb hby d20_3) rfl k_)
      refine Go s₁ (mkF m 7 #[vR a, vR ko, vR a] [(.ref a)]) ?_ (fun t_ k_ => XS.aloadN X0.here hx rfl (hb hby d20_6) rfl rfl k_)
      refine Go s₁ (mkF m 8 #[vR a, vR ko, vR a] [(.ref ko), (.ref a)]) ?_ (fun t_ k_ => XS.aloadN X0.here hx rfl (hb hby d20_7) rfl rfl k_)
      obtain ⟨cq3, kq3, q3a, q3b, q3c⟩ := isOf hZ e0 TL.E
      obtain ⟨_, _, ⟨T3, Lq_3, kq_3, nq_3⟩, -, X3, ⟨Lc3, hQ3, l3, y3, z3⟩, st3⟩ := X0.virtualBack hx (y := mN25) (z := mN25) hown (mvT hZ (wq hw 188 rfl)) (mvT hZ (wq hw 189 rfl)) (notFace_of_selects (args := #[]) (mvT hZ (wq hw 191 rfl))) (mvT hZ (wq hw 191 rfl)) (mvT hZ (wq hw 190 rfl)) (by decide) (backOf (W := 0) (rmRO1 l Z a0 hw [] B t tt i ti r tr ku ko kt ki kr ct ci cr w2 zc a hc ks kh kk (Int32.ofNat n) h0 n0 Z0 KY KC gB bB CS hzc X0_ TL (own_nz0 hn0 (by omega)) hm1) hZ (wq hw 192 rfl) (wq hw 152 rfl) (by decide) (by decide)) q3a q3c (g := (mkF m 8 #[vR a, vR ko, vR a] [(.ref ko), (.ref a)])) rfl (by rw [hml]; rfl) (Steps.refl _) (argsL := [(.ref ko)]) (rest := []) (lenOf pd_7 rfl) rfl (by show 2 * 0 + _ ≤ _; exact Nat.le_of_eq rfl) (hb hby d20_8) (fun _ _ => ⟨rfl, e0, (by decide : 0 + 0 ≤ _), (by decide : 0 + 0 ≤ _)⟩)
      dsimp only [Pt.U, Pt.locs, Pt.cells, Pt.slots] at X3 l3 y3 z3 st3 hQ3
      rw [l3, y3, z3] at X3
      change Stand p l e _ _ m _ below meth c T3 _ 0 0 at X3
      obtain ⟨rfl, N3q, KX, KF, TF⟩ := hQ3
      have N3 := Fr.app N0 N3q
      refine Go T3 (mkF m 11 #[vR a, vR ko, vR a] [(.int 0)]) ?_ (fun t => st3.trans)
      refine Go T3 (mkF m 12 #[vR a, vR ko, vR a] []) ?_ (fun t_ k_ => XS.pop X3.here hx rfl (hb hby d20_11) rfl rfl k_)
      refine Go T3 (mkF m 13 #[vR a, vR ko, vR a] [(.ref a)]) ?_ (fun t_ k_ => XS.aloadN X3.here hx rfl (hb hby d20_12) rfl rfl k_)
      have Zr : n0 ≤ T3.heap.size := Nat.le_trans Z0 KX.1
      obtain ⟨cq4, kq4, q4a, q4b, q4c⟩ := isOf hZ rfl TF.E
      obtain ⟨_, _, ⟨T4, Lq_4, kq_4, nq_4⟩, -, X4, ⟨Lc4, hQ4, l4, y4, z4⟩, st4⟩ := X3.virtualBack hx (y := mN14) (z := mN14) hown (mvT hZ (wq hw 197 rfl)) (mvT hZ (wq hw 198 rfl)) (notFace_of_selects (args := #[]) (mvT hZ (wq hw 200 rfl))) (mvT hZ (wq hw 200 rfl)) (mvT hZ (wq hw 199 rfl)) (by decide) (backOf (W := 0) (rmTE l Z a0 hw [] a (1 : Int32) T3.heap n0 Zr TF.FZ) hZ (wq hw 201 rfl) (wq hw 152 rfl) (by decide) (by decide)) q4a q4c (g := (mkF m 13 #[vR a, vR ko, vR a] [(.ref a)])) rfl (by rw [hml]; rfl) (Steps.refl _) (argsL := []) (rest := []) (lenOf pd_4 rfl) rfl (by show 2 * 0 + _ ≤ _; exact Nat.le_of_eq rfl) (hb hby d20_13) (fun _ _ => ⟨rfl, rfl, (by decide : 0 + 0 ≤ _), (by decide : 0 + 0 ≤ _)⟩)
      dsimp only [Pt.U, Pt.locs, Pt.cells, Pt.slots] at X4 l4 y4 z4 st4 hQ4
      rw [l4, y4, z4] at X4
      change Stand p l e _ _ m _ below meth c T4 _ 0 0 at X4
      obtain ⟨rfl, N4q, eh4⟩ := hQ4
      have N4 := Fr.app N3 N4q
      refine Go T4 (mkF m 16 #[vR a, vR ko, vR a] [(.int (if (1 : Int32) = 0 then 1 else 0))]) ?_ (fun t => st4.trans)
      rw [if_neg (by decide)]
      refine Go T4 (mkF m 21 #[vR a, vR ko, vR a] []) ?_ (fun t_ k_ => XS.ifYes X4.here hx rfl (pc0 := 16) (pc' := 21) rfl (hb hby d20_16) rfl (by decide) (by decide) (by decide) k_)
      refine Go T4 (mkF m 22 #[vR a, vR ko, vR a] [(.ref a)]) ?_ (fun t_ k_ => XS.aloadN X4.here hx rfl (hb hby d20_21) rfl rfl k_)
      rw [hWd]
      exact Goes.retn X4 (v := some (.ref a)) (fun fs hr => retA X4 hx Bd.returns rfl rfl (hb hby d20_22) hr) (fun h => by rw [Bd.returns] at h; cases h) Bd.notSynchronized (by decide) (by decide) (by rw [eh4]; exact ⟨.ref a, [a, hc, ks], rfl, N4, KX, KF, Or.inr ⟨by omega, a, hc, ks, kh, kk, rfl, rfl, by rw [own_m1 hn0 (by omega)] at TF; exact TF⟩, fun y hy => Or.inl hy⟩)
def QGS (Z : State) (B : Nat) (t tt i ti r tr ku ko : Addr) (kt ki kr : ClassId) (ct ci cr w2 : Int32) (zc : Int32) (ho : Addr) (v_ va vb : Value) (n : Nat) (tl : List Addr) (h0 : Heap) (n0 : Nat) (v : Option Value) (h : Heap) (L : List Loc) : Prop := ∃ v2 tl2, v = none ∧ Fr n0 L ∧ Keep h0 h ([t, i, r, ho] ++ tl) ∧ KA Z h t tt i ti r tr ku ko kt ki kr ct ci cr w2 ∧ Exa Z h ho "com/example/entitlement/entitlement/CountedHolders" ∧ Fld Z h ho "com/example/entitlement/entitlement/CountedHolders" "wildcardTypes" "Lcom/example/entitlement/entitlement/Tally;" v2 ∧ Fld Z h ho "com/example/entitlement/entitlement/CountedHolders" "usersets" "Lcom/example/entitlement/entitlement/Tally;" va ∧ Fld Z h ho "com/example/entitlement/entitlement/CountedHolders" "objects" "Lcom/example/entitlement/entitlement/Tally;" vb ∧ HF Z h B v2 t ct (n + 1) tl2 ∧ ∀ y ∈ tl2, y ∈ tl ∨ h0.size ≤ y
set_option maxRecDepth 65536 in
set_option maxHeartbeats 40000000 in
theorem rmGS (l : Launch) (Z : State) (a0 : Array Value) (hw : ∀ d ∈ tables_1, d.before a0 Z = true) (ws : List Jvm.Cond) (B : Nat) (t tt i ti r tr ku ko : Addr) (kt ki kr : ClassId) (ct ci cr w2 : Int32) (zc : Int32) (ho : Addr) (v_ va vb : Value) (n : Nat) (tl : List Addr) (h0 : Heap) (n0 : Nat) (Z0 : n0 ≤ h0.size) (KY : KA Z h0 t tt i ti r tr ku ko kt ki kr ct ci cr w2) (KC : KD n0 B t tt i ti r tr ku ko ct ci cr) (gB : n0 ≤ B) (bB : B ≤ h0.size) (CS : Sta Z Z.heap "java/lang/String" "COMPACT_STRINGS" "Z" (.int zc)) (hzc : ¬ zc = (0 : Int32)) (X0_ : Old Z n0 h0) (E : Exa Z h0 ho "com/example/entitlement/entitlement/CountedHolders") (FX : Fld Z h0 ho "com/example/entitlement/entitlement/CountedHolders" "wildcardTypes" "Lcom/example/entitlement/entitlement/Tally;" v_) (FA : Fld Z h0 ho "com/example/entitlement/entitlement/CountedHolders" "usersets" "Lcom/example/entitlement/entitlement/Tally;" va) (FB : Fld Z h0 ho "com/example/entitlement/entitlement/CountedHolders" "objects" "Lcom/example/entitlement/entitlement/Tally;" vb) (F : HF Z h0 B v_ t ct n tl) (h9 : n ≤ 8) (gho : n0 ≤ ho) (lho : ho < B) (hod : ho ∉ [t, tt, i, ti, r, tr, ku, ko]) :
    MetFree l mN28 (head1 (Jvm.Cond.code mN28 cD18 4 none :: ws) ({ frames := 4, cells := 3, slots := 10, locals := 66 } : Room)) (fun a_ U => a_ = #[(.ref ho), (.ref t)] ∧ Z.Warmed39 U.vm ∧ U.heap = h0) (fun _ _ _ _ _ => True) (fun _ U o U' => ∃ v L, o = .returned v ∧ QGS Z B t tt i ti r tr ku ko kt ki kr ct ci cr w2 zc ho v_ va vb n tl h0 n0 v U'.heap L ∧ FrameEnd U o U' L ({ frames := 4, cells := 3, slots := 10, locals := 66 } : Room).cells ({ frames := 4, cells := 3, slots := 10, locals := 66 } : Room).slots) := by
  refine MetFree.of_bodySF (plainFor_of_name pn_7) hisR ?_
  intro p e s m args below meth c s₁ Bd hml0 hP hK
  obtain ⟨rfl, hZ, hh⟩ := hP
  have hx := Bd.exec
  have hby := Bd.bytes
  have hml : c.maxLocals = 4 := hml0
  have hown : s.vm.findClass "com/example/entitlement/entitlement/CountedHolders" = some m.cls := findClass_of_methodNamed Bd.named
  have hnm := (name_of_methodNamed Bd.named Bd.method).1
  have X0 : Stand p l e ({ frames := 4, cells := 3, slots := 10, locals := 66 } : Room) s m #[(.ref ho), (.ref t)] below meth c s₁ [] 0 0 := Stand.of_body Bd
  have e0 : s₁.heap = h0 := by rw [← hh, Bd.state]; rfl
  have N0 := Fr.nil n0
  refine Goes.done ?_
  obtain ⟨W, hWd⟩ : ∃ W : State → Prop, W = EndW s below (QGS Z B t tt i ti r tr ku ko kt ki kr ct ci cr w2 zc ho v_ va vb n tl h0 n0) ({ frames := 4, cells := 3, slots := 10, locals := 66 } : Room).cells ({ frames := 4, cells := 3, slots := 10, locals := 66 } : Room).slots := ⟨_, rfl⟩
  rw [← hWd]
  have hef : entryFrame m #[(.ref ho), (.ref t)] 4 = (mkF m 0 #[vR ho, vR t, .unset, .unset] []) := by first | (simp [entryFrame, mkF, argsToLocals, Value.category]; done) | rfl
  rw [hef]
  have rV := F.ref
  have nho : ho ∉ [t, i, r] ++ tl := own_ninA (own_sub3 hod) (fun q => absurd lho (Nat.not_lt.mpr (F.bd ho q).1))
  refine Go s₁ (mkF m 1 #[vR ho, vR t, .unset, .unset] [(.ref t)]) ?_ (fun t_ k_ => XS.aloadN X0.here hx rfl (hb hby d21_0) rfl rfl k_)
  obtain ⟨T1, X1, e1, st1⟩ := instY X0 hx hZ hown (wq hw 133 rfl) e0 (Ins.self KY.s1.exa) (g := (mkF m 1 #[vR ho, vR t, .unset, .unset] [(.ref t)])) rfl rfl (hb hby d21_1)
  refine Go T1 (mkF m 4 #[vR ho, vR t, .unset, .unset] [(.int 1)]) ?_ st1
  refine Go T1 (mkF m 7 #[vR ho, vR t, .unset, .unset] []) ?_ (fun t_ k_ => XS.ifNo X1.here hx rfl (hb hby d21_4) rfl (by decide) k_)
  refine Go T1 (mkF m 8 #[vR ho, vR t, .unset, .unset] [(.ref t)]) ?_ (fun t_ k_ => XS.aloadN X1.here hx rfl (hb hby d21_7) rfl rfl k_)
  obtain ⟨T2, X2, e2, st2⟩ := castY X1 hx hZ hown (wq hw 133 rfl) e1 (Ins.self KY.s1.exa) (g := (mkF m 8 #[vR ho, vR t, .unset, .unset] [(.ref t)])) rfl rfl (hb hby d21_8)
  refine Go T2 (mkF m 11 #[vR ho, vR t, .unset, .unset] [(.ref t)]) ?_ st2
  refine Go T2 (mkF m 12 #[vR ho, vR t, vR t, .unset] []) ?_ (fun t_ k_ => XS.astoreN X2.here hx rfl (hb hby d21_11) rfl rfl (l' := #[vR ho, vR t, vR t, .unset]) rfl k_)
  refine Go T2 (mkF m 13 #[vR ho, vR t, vR t, .unset] [(.ref ho)]) ?_ (fun t_ k_ => XS.aloadN X2.here hx rfl (hb hby d21_12) rfl rfl k_)
  refine Go T2 (mkF m 14 #[vR ho, vR t, vR t, .unset] [(.ref ho), (.ref ho)]) ?_ (fun t_ k_ => XS.aloadN X2.here hx rfl (hb hby d21_13) rfl rfl k_)
  obtain ⟨T3, X3, e3, st3⟩ := getF X2 hx hZ hown (host := "") (Or.inl (wq hw 122 rfl)) Via.refl e2 FX (g := (mkF m 14 #[vR ho, vR t, vR t, .unset] [(.ref ho), (.ref ho)])) rfl rfl (hb hby d21_14)
  refine Go T3 (mkF m 17 #[vR ho, vR t, vR t, .unset] [v_, (.ref ho)]) ?_ st3
  refine Go T3 (mkF m 18 #[vR ho, vR t, vR t, .unset] [(.ref t), v_, (.ref ho)]) ?_ (fun t_ k_ => XS.aloadN X3.here hx rfl (hb hby d21_17) rfl rfl k_)
  obtain ⟨_, _, ⟨T4, Lq_4, kq_4, nq_4⟩, -, X4, ⟨Lc4, hQ4, l4, y4, z4⟩, st4⟩ := Jvm.LawKit.callS X3 hx (y := mN26) hown (mvT hZ (wq hw 147 rfl)) (mvT hZ (wq hw 148 rfl)) (mvT hZ (wq hw 103 rfl)) (mvT hZ (wq hw 149 rfl)) (by decide) (backOf (W := 1) (rmDS l Z a0 hw [] B t tt i ti r tr ku ko kt ki kr ct ci cr w2 zc v_ n tl h0 n0 Z0 KY KC gB bB CS hzc X0_ F rV h9) hZ (wq hw 149 rfl) (wq hw 103 rfl) (by decide) (by decide)) (g := (mkF m 18 #[vR ho, vR t, vR t, .unset] [(.ref t), v_, (.ref ho)])) rfl (by rw [hml]; rfl) (argsL := [v_, (.ref t)]) (rest := [(.ref ho)]) (lenOf pd_17 rfl) rfl (by show 2 * 0 + _ ≤ _; exact Nat.le_of_eq rfl) (hb hby d21_18) (fun _ _ => ⟨rfl, e3, (by decide : 0 + 3 ≤ _), (by decide : 0 + 10 ≤ _)⟩)
  dsimp only [Pt.U, Pt.locs, Pt.cells, Pt.slots] at X4 l4 y4 z4 st4 hQ4
  rw [l4, y4, z4] at X4
  change Stand p l e _ _ m _ below meth c T4 _ 3 10 at X4
  obtain ⟨v2, tl2, rfl, N4q, K4, KF, HN, SU⟩ := hQ4
  have N4 := Fr.app N0 N4q
  refine Go T4 (mkF m 21 #[vR ho, vR t, vR t, .unset] [v2, (.ref ho)]) ?_ st4
  have rV2 := HN.ref
  have Zr : n0 ≤ T4.heap.size := Nat.le_trans Z0 K4.1
  have G_wildcardTypes := FX.keep K4 nho
  have G_usersets := FA.keep K4 nho
  have G_objects := FB.keep K4 nho
  have G_E := E.keep K4
  obtain ⟨T5, h5, X5, e5, W5, st5⟩ := putF X4 hx hZ hown (host := "") (Or.inl (wq hw 122 rfl)) Via.refl rfl G_wildcardTypes G_E (Or.inl (wq hw 123 rfl)) (wq hw 102 rfl) (ty := (.object "com/example/entitlement/entitlement/Tally")) (by decide) (own_gn rV2) (own_gf rV2) (g := (mkF m 21 #[vR ho, vR t, vR t, .unset] [v2, (.ref ho)])) rfl rfl (hb hby d21_21)
  have N5 := Fr.snoc X5 N4 gho
  have Z5 : n0 ≤ h5.size := Nat.le_trans Zr (Nat.le_of_eq W5.size.symm)
  refine Go T5 (mkF m 24 #[vR ho, vR t, vR t, .unset] []) ?_ st5
  have fx6 := G_wildcardTypes.same W5
  have fx7 := G_usersets.other W5 (Or.inr (slot_ne (Or.inl (wq hw 121 rfl)) (Or.inl (wq hw 123 rfl)) (by decide) (t := (.object "com/example/entitlement/entitlement/Tally")) (t' := (.object "com/example/entitlement/entitlement/Tally")) (by decide) (by decide)))
  have fx8 := G_objects.other W5 (Or.inr (slot_ne (Or.inl (wq hw 119 rfl)) (Or.inl (wq hw 123 rfl)) (by decide) (t := (.object "com/example/entitlement/entitlement/Tally")) (t' := (.object "com/example/entitlement/entitlement/Tally")) (by decide) (by decide)))
  have fx9 := G_E.wr W5
  have kw : Keep T4.heap h5 [ho] := (Keep.refl _ [ho]).wr W5 (Or.inl (List.mem_cons_self ..))
  have KG := KF.keep1 kw hod
  have HG := HN.keep kw (fun y hy => ninS (fun q => absurd lho (Nat.not_lt.mpr (q ▸ (HN.bd y hy).1))) nin0)
  have kf : Keep h0 h5 ([t, i, r, ho] ++ tl) := ((Keep.refl h0 ([t, i, r, ho] ++ tl)).trans K4 (fun y hy => Or.inl (by simp only [List.mem_append, List.mem_cons, List.not_mem_nil, or_false] at hy ⊢; rcases hy with (q | q | q) | q <;> simp [q]))).trans kw (allS (Or.inl (by simp)) all0)
  refine Go T5 (mkF m 69 #[vR ho, vR t, vR t, .unset] []) ?_ (fun t_ k_ => XS.goto X5.here hx rfl (pc0 := 24) (pc' := 69) rfl (hb hby d21_24) (by decide) (by decide) k_)
  rw [hWd]
  exact Goes.retn X5 (v := none) (fun fs hr => X5.returnOut hx Bd.returns (hb hby d21_69) hr) (fun _ => rfl) Bd.notSynchronized (by decide) (by decide) (by rw [e5]; exact ⟨v2, tl2, rfl, N5, kf, KG, fx9, fx6, fx7, fx8, HG, SU⟩)
def QXS (Z : State) (B : Nat) (t tt i ti r tr ku ko : Addr) (kt ki kr : ClassId) (ct ci cr w2 : Int32) (zc : Int32) (ho : Addr) (v_ va vb : Value) (n : Nat) (tl : List Addr) (h0 : Heap) (n0 : Nat) (v : Option Value) (h : Heap) (L : List Loc) : Prop := ∃ v2 tl2, v = none ∧ Fr n0 L ∧ Keep h0 h ([t, i, r, ho] ++ tl) ∧ KA Z h t tt i ti r tr ku ko kt ki kr ct ci cr w2 ∧ Exa Z h ho "com/example/entitlement/entitlement/CountedHolders" ∧ Fld Z h ho "com/example/entitlement/entitlement/CountedHolders" "wildcardTypes" "Lcom/example/entitlement/entitlement/Tally;" v2 ∧ Fld Z h ho "com/example/entitlement/entitlement/CountedHolders" "usersets" "Lcom/example/entitlement/entitlement/Tally;" va ∧ Fld Z h ho "com/example/entitlement/entitlement/CountedHolders" "objects" "Lcom/example/entitlement/entitlement/Tally;" vb ∧ HF Z h B v2 t ct (n - 1) tl2 ∧ ∀ y ∈ tl2, y ∈ tl ∨ h0.size ≤ y
set_option maxRecDepth 65536 in
set_option maxHeartbeats 40000000 in
theorem rmXS (l : Launch) (Z : State) (a0 : Array Value) (hw : ∀ d ∈ tables_1, d.before a0 Z = true) (ws : List Jvm.Cond) (B : Nat) (t tt i ti r tr ku ko : Addr) (kt ki kr : ClassId) (ct ci cr w2 : Int32) (zc : Int32) (ho : Addr) (v_ va vb : Value) (n : Nat) (tl : List Addr) (h0 : Heap) (n0 : Nat) (Z0 : n0 ≤ h0.size) (KY : KA Z h0 t tt i ti r tr ku ko kt ki kr ct ci cr w2) (KC : KD n0 B t tt i ti r tr ku ko ct ci cr) (gB : n0 ≤ B) (bB : B ≤ h0.size) (CS : Sta Z Z.heap "java/lang/String" "COMPACT_STRINGS" "Z" (.int zc)) (hzc : ¬ zc = (0 : Int32)) (X0_ : Old Z n0 h0) (E : Exa Z h0 ho "com/example/entitlement/entitlement/CountedHolders") (FX : Fld Z h0 ho "com/example/entitlement/entitlement/CountedHolders" "wildcardTypes" "Lcom/example/entitlement/entitlement/Tally;" v_) (FA : Fld Z h0 ho "com/example/entitlement/entitlement/CountedHolders" "usersets" "Lcom/example/entitlement/entitlement/Tally;" va) (FB : Fld Z h0 ho "com/example/entitlement/entitlement/CountedHolders" "objects" "Lcom/example/entitlement/entitlement/Tally;" vb) (F : HF Z h0 B v_ t ct n tl) (h9 : n ≤ 8) (gho : n0 ≤ ho) (lho : ho < B) (hod : ho ∉ [t, tt, i, ti, r, tr, ku, ko]) :
    MetFree l mN29 (head1 (Jvm.Cond.code mN29 cD16 4 none :: ws) ({ frames := 4, cells := 0, slots := 0, locals := 66 } : Room)) (fun a_ U => a_ = #[(.ref ho), (.ref t)] ∧ Z.Warmed39 U.vm ∧ U.heap = h0) (fun _ _ _ _ _ => True) (fun _ U o U' => ∃ v L, o = .returned v ∧ QXS Z B t tt i ti r tr ku ko kt ki kr ct ci cr w2 zc ho v_ va vb n tl h0 n0 v U'.heap L ∧ FrameEnd U o U' L ({ frames := 4, cells := 0, slots := 0, locals := 66 } : Room).cells ({ frames := 4, cells := 0, slots := 0, locals := 66 } : Room).slots) := by
  refine MetFree.of_bodySF (plainFor_of_name pn_7) hisR ?_
  intro p e s m args below meth c s₁ Bd hml0 hP hK
  obtain ⟨rfl, hZ, hh⟩ := hP
  have hx := Bd.exec
  have hby := Bd.bytes
  have hml : c.maxLocals = 4 := hml0
  have hown : s.vm.findClass "com/example/entitlement/entitlement/CountedHolders" = some m.cls := findClass_of_methodNamed Bd.named
  have hnm := (name_of_methodNamed Bd.named Bd.method).1
  have X0 : Stand p l e ({ frames := 4, cells := 0, slots := 0, locals := 66 } : Room) s m #[(.ref ho), (.ref t)] below meth c s₁ [] 0 0 := Stand.of_body Bd
  have e0 : s₁.heap = h0 := by rw [← hh, Bd.state]; rfl
  have N0 := Fr.nil n0
  refine Goes.done ?_
  obtain ⟨W, hWd⟩ : ∃ W : State → Prop, W = EndW s below (QXS Z B t tt i ti r tr ku ko kt ki kr ct ci cr w2 zc ho v_ va vb n tl h0 n0) ({ frames := 4, cells := 0, slots := 0, locals := 66 } : Room).cells ({ frames := 4, cells := 0, slots := 0, locals := 66 } : Room).slots := ⟨_, rfl⟩
  rw [← hWd]
  have hef : entryFrame m #[(.ref ho), (.ref t)] 4 = (mkF m 0 #[vR ho, vR t, .unset, .unset] []) := by first | (simp [entryFrame, mkF, argsToLocals, Value.category]; done) | rfl
  rw [hef]
  have rV := F.ref
  have nho : ho ∉ [t, i, r] ++ tl := own_ninA (own_sub3 hod) (fun q => absurd lho (Nat.not_lt.mpr (F.bd ho q).1))
  refine Go s₁ (mkF m 1 #[vR ho, vR t, .unset, .unset] [(.ref t)]) ?_ (fun t_ k_ => XS.aloadN X0.here hx rfl (hb hby d19_0) rfl rfl k_)
  obtain ⟨T1, X1, e1, st1⟩ := instY X0 hx hZ hown (wq hw 133 rfl) e0 (Ins.self KY.s1.exa) (g := (mkF m 1 #[vR ho, vR t, .unset, .unset] [(.ref t)])) rfl rfl (hb hby d19_1)
  refine Go T1 (mkF m 4 #[vR ho, vR t, .unset, .unset] [(.int 1)]) ?_ st1
  refine Go T1 (mkF m 7 #[vR ho, vR t, .unset, .unset] []) ?_ (fun t_ k_ => XS.ifNo X1.here hx rfl (hb hby d19_4) rfl (by decide) k_)
  refine Go T1 (mkF m 8 #[vR ho, vR t, .unset, .unset] [(.ref t)]) ?_ (fun t_ k_ => XS.aloadN X1.here hx rfl (hb hby d19_7) rfl rfl k_)
  obtain ⟨T2, X2, e2, st2⟩ := castY X1 hx hZ hown (wq hw 133 rfl) e1 (Ins.self KY.s1.exa) (g := (mkF m 8 #[vR ho, vR t, .unset, .unset] [(.ref t)])) rfl rfl (hb hby d19_8)
  refine Go T2 (mkF m 11 #[vR ho, vR t, .unset, .unset] [(.ref t)]) ?_ st2
  refine Go T2 (mkF m 12 #[vR ho, vR t, vR t, .unset] []) ?_ (fun t_ k_ => XS.astoreN X2.here hx rfl (hb hby d19_11) rfl rfl (l' := #[vR ho, vR t, vR t, .unset]) rfl k_)
  refine Go T2 (mkF m 13 #[vR ho, vR t, vR t, .unset] [(.ref ho)]) ?_ (fun t_ k_ => XS.aloadN X2.here hx rfl (hb hby d19_12) rfl rfl k_)
  refine Go T2 (mkF m 14 #[vR ho, vR t, vR t, .unset] [(.ref ho), (.ref ho)]) ?_ (fun t_ k_ => XS.aloadN X2.here hx rfl (hb hby d19_13) rfl rfl k_)
  obtain ⟨T3, X3, e3, st3⟩ := getF X2 hx hZ hown (host := "") (Or.inl (wq hw 122 rfl)) Via.refl e2 FX (g := (mkF m 14 #[vR ho, vR t, vR t, .unset] [(.ref ho), (.ref ho)])) rfl rfl (hb hby d19_14)
  refine Go T3 (mkF m 17 #[vR ho, vR t, vR t, .unset] [v_, (.ref ho)]) ?_ st3
  refine Go T3 (mkF m 18 #[vR ho, vR t, vR t, .unset] [(.ref t), v_, (.ref ho)]) ?_ (fun t_ k_ => XS.aloadN X3.here hx rfl (hb hby d19_17) rfl rfl k_)
  obtain ⟨_, _, ⟨T4, Lq_4, kq_4, nq_4⟩, -, X4, ⟨Lc4, hQ4, l4, y4, z4⟩, st4⟩ := Jvm.LawKit.callS X3 hx (y := mN27) hown (mvT hZ (wq hw 134 rfl)) (mvT hZ (wq hw 135 rfl)) (mvT hZ (wq hw 103 rfl)) (mvT hZ (wq hw 136 rfl)) (by decide) (backOf (W := 1) (rmMS l Z a0 hw [] B t tt i ti r tr ku ko kt ki kr ct ci cr w2 zc v_ n tl h0 n0 Z0 KY KC gB bB CS hzc X0_ F rV h9) hZ (wq hw 136 rfl) (wq hw 103 rfl) (by decide) (by decide)) (g := (mkF m 18 #[vR ho, vR t, vR t, .unset] [(.ref t), v_, (.ref ho)])) rfl (by rw [hml]; rfl) (argsL := [v_, (.ref t)]) (rest := [(.ref ho)]) (lenOf pd_17 rfl) rfl (by show 2 * 0 + _ ≤ _; exact Nat.le_of_eq rfl) (hb hby d19_18) (fun _ _ => ⟨rfl, e3, (by decide : 0 + 0 ≤ _), (by decide : 0 + 0 ≤ _)⟩)
  dsimp only [Pt.U, Pt.locs, Pt.cells, Pt.slots] at X4 l4 y4 z4 st4 hQ4
  rw [l4, y4, z4] at X4
  change Stand p l e _ _ m _ below meth c T4 _ 0 0 at X4
  obtain ⟨v2, tl2, rfl, N4q, K4, KF, HN, SU⟩ := hQ4
  have N4 := Fr.app N0 N4q
  refine Go T4 (mkF m 21 #[vR ho, vR t, vR t, .unset] [v2, (.ref ho)]) ?_ st4
  have rV2 := HN.ref
  have Zr : n0 ≤ T4.heap.size := Nat.le_trans Z0 K4.1
  have G_wildcardTypes := FX.keep K4 nho
  have G_usersets := FA.keep K4 nho
  have G_objects := FB.keep K4 nho
  have G_E := E.keep K4
  obtain ⟨T5, h5, X5, e5, W5, st5⟩ := putF X4 hx hZ hown (host := "") (Or.inl (wq hw 122 rfl)) Via.refl rfl G_wildcardTypes G_E (Or.inl (wq hw 123 rfl)) (wq hw 102 rfl) (ty := (.object "com/example/entitlement/entitlement/Tally")) (by decide) (own_gn rV2) (own_gf rV2) (g := (mkF m 21 #[vR ho, vR t, vR t, .unset] [v2, (.ref ho)])) rfl rfl (hb hby d19_21)
  have N5 := Fr.snoc X5 N4 gho
  have Z5 : n0 ≤ h5.size := Nat.le_trans Zr (Nat.le_of_eq W5.size.symm)
  refine Go T5 (mkF m 24 #[vR ho, vR t, vR t, .unset] []) ?_ st5
  have fx6 := G_wildcardTypes.same W5
  have fx7 := G_usersets.other W5 (Or.inr (slot_ne (Or.inl (wq hw 121 rfl)) (Or.inl (wq hw 123 rfl)) (by decide) (t := (.object "com/example/entitlement/entitlement/Tally")) (t' := (.object "com/example/entitlement/entitlement/Tally")) (by decide) (by decide)))
  have fx8 := G_objects.other W5 (Or.inr (slot_ne (Or.inl (wq hw 119 rfl)) (Or.inl (wq hw 123 rfl)) (by decide) (t := (.object "com/example/entitlement/entitlement/Tally")) (t' := (.object "com/example/entitlement/entitlement/Tally")) (by decide) (by decide)))
  have fx9 := G_E.wr W5
  have kw : Keep T4.heap h5 [ho] := (Keep.refl _ [ho]).wr W5 (Or.inl (List.mem_cons_self ..))
  have KG := KF.keep1 kw hod
  have HG := HN.keep kw (fun y hy => ninS (fun q => absurd lho (Nat.not_lt.mpr (q ▸ (HN.bd y hy).1))) nin0)
  have kf : Keep h0 h5 ([t, i, r, ho] ++ tl) := ((Keep.refl h0 ([t, i, r, ho] ++ tl)).trans K4 (fun y hy => Or.inl (by simp only [List.mem_append, List.mem_cons, List.not_mem_nil, or_false] at hy ⊢; rcases hy with (q | q | q) | q <;> simp [q]))).trans kw (allS (Or.inl (by simp)) all0)
  refine Go T5 (mkF m 69 #[vR ho, vR t, vR t, .unset] []) ?_ (fun t_ k_ => XS.goto X5.here hx rfl (pc0 := 24) (pc' := 69) rfl (hb hby d19_24) (by decide) (by decide) k_)
  rw [hWd]
  exact Goes.retn X5 (v := none) (fun fs hr => X5.returnOut hx Bd.returns (hb hby d19_69) hr) (fun _ => rfl) Bd.notSynchronized (by decide) (by decide) (by rw [e5]; exact ⟨v2, tl2, rfl, N5, kf, KG, fx9, fx6, fx7, fx8, HG, SU⟩)
def QGU (Z : State) (B : Nat) (t tt i ti r tr ku ko : Addr) (kt ki kr : ClassId) (ct ci cr w2 : Int32) (zc : Int32) (ho : Addr) (v_ va vb : Value) (n : Nat) (tl : List Addr) (h0 : Heap) (n0 : Nat) (v : Option Value) (h : Heap) (L : List Loc) : Prop := ∃ v2 tl2, v = none ∧ Fr n0 L ∧ Keep h0 h ([t, i, r, ho] ++ tl) ∧ KA Z h t tt i ti r tr ku ko kt ki kr ct ci cr w2 ∧ Exa Z h ho "com/example/entitlement/entitlement/CountedHolders" ∧ Fld Z h ho "com/example/entitlement/entitlement/CountedHolders" "usersets" "Lcom/example/entitlement/entitlement/Tally;" v2 ∧ Fld Z h ho "com/example/entitlement/entitlement/CountedHolders" "wildcardTypes" "Lcom/example/entitlement/entitlement/Tally;" va ∧ Fld Z h ho "com/example/entitlement/entitlement/CountedHolders" "objects" "Lcom/example/entitlement/entitlement/Tally;" vb ∧ HF Z h B v2 ku (own_sh ct ci cr) (n + 1) tl2 ∧ ∀ y ∈ tl2, y ∈ tl ∨ h0.size ≤ y
set_option maxRecDepth 65536 in
set_option maxHeartbeats 40000000 in
theorem rmGU (l : Launch) (Z : State) (a0 : Array Value) (hw : ∀ d ∈ tables_1, d.before a0 Z = true) (ws : List Jvm.Cond) (B : Nat) (t tt i ti r tr ku ko : Addr) (kt ki kr : ClassId) (ct ci cr w2 : Int32) (zc : Int32) (ho : Addr) (v_ va vb : Value) (n : Nat) (tl : List Addr) (h0 : Heap) (n0 : Nat) (Z0 : n0 ≤ h0.size) (KY : KA Z h0 t tt i ti r tr ku ko kt ki kr ct ci cr w2) (KC : KD n0 B t tt i ti r tr ku ko ct ci cr) (gB : n0 ≤ B) (bB : B ≤ h0.size) (CS : Sta Z Z.heap "java/lang/String" "COMPACT_STRINGS" "Z" (.int zc)) (hzc : ¬ zc = (0 : Int32)) (X0_ : Old Z n0 h0) (E : Exa Z h0 ho "com/example/entitlement/entitlement/CountedHolders") (FX : Fld Z h0 ho "com/example/entitlement/entitlement/CountedHolders" "usersets" "Lcom/example/entitlement/entitlement/Tally;" v_) (FA : Fld Z h0 ho "com/example/entitlement/entitlement/CountedHolders" "wildcardTypes" "Lcom/example/entitlement/entitlement/Tally;" va) (FB : Fld Z h0 ho "com/example/entitlement/entitlement/CountedHolders" "objects" "Lcom/example/entitlement/entitlement/Tally;" vb) (F : HF Z h0 B v_ ku (own_sh ct ci cr) n tl) (h9 : n ≤ 8) (gho : n0 ≤ ho) (lho : ho < B) (hod : ho ∉ [t, tt, i, ti, r, tr, ku, ko]) :
    MetFree l mN28 (head1 (Jvm.Cond.code mN28 cD18 4 none :: ws) ({ frames := 7, cells := 4, slots := 13, locals := 102 } : Room)) (fun a_ U => a_ = #[(.ref ho), (.ref ku)] ∧ Z.Warmed39 U.vm ∧ U.heap = h0) (fun _ _ _ _ _ => True) (fun _ U o U' => ∃ v L, o = .returned v ∧ QGU Z B t tt i ti r tr ku ko kt ki kr ct ci cr w2 zc ho v_ va vb n tl h0 n0 v U'.heap L ∧ FrameEnd U o U' L ({ frames := 7, cells := 4, slots := 13, locals := 102 } : Room).cells ({ frames := 7, cells := 4, slots := 13, locals := 102 } : Room).slots) := by
  refine MetFree.of_bodySF (plainFor_of_name pn_7) hisR ?_
  intro p e s m args below meth c s₁ Bd hml0 hP hK
  obtain ⟨rfl, hZ, hh⟩ := hP
  have hx := Bd.exec
  have hby := Bd.bytes
  have hml : c.maxLocals = 4 := hml0
  have hown : s.vm.findClass "com/example/entitlement/entitlement/CountedHolders" = some m.cls := findClass_of_methodNamed Bd.named
  have hnm := (name_of_methodNamed Bd.named Bd.method).1
  have X0 : Stand p l e ({ frames := 7, cells := 4, slots := 13, locals := 102 } : Room) s m #[(.ref ho), (.ref ku)] below meth c s₁ [] 0 0 := Stand.of_body Bd
  have e0 : s₁.heap = h0 := by rw [← hh, Bd.state]; rfl
  have N0 := Fr.nil n0
  refine Goes.done ?_
  obtain ⟨W, hWd⟩ : ∃ W : State → Prop, W = EndW s below (QGU Z B t tt i ti r tr ku ko kt ki kr ct ci cr w2 zc ho v_ va vb n tl h0 n0) ({ frames := 7, cells := 4, slots := 13, locals := 102 } : Room).cells ({ frames := 7, cells := 4, slots := 13, locals := 102 } : Room).slots := ⟨_, rfl⟩
  rw [← hWd]
  have hef : entryFrame m #[(.ref ho), (.ref ku)] 4 = (mkF m 0 #[vR ho, vR ku, .unset, .unset] []) := by first | (simp [entryFrame, mkF, argsToLocals, Value.category]; done) | rfl
  rw [hef]
  have rV := F.ref
  have nho : ho ∉ [t, i, r] ++ tl := own_ninA (own_sub3 hod) (fun q => absurd lho (Nat.not_lt.mpr (F.bd ho q).1))
  refine Go s₁ (mkF m 1 #[vR ho, vR ku, .unset, .unset] [(.ref ku)]) ?_ (fun t_ k_ => XS.aloadN X0.here hx rfl (hb hby d21_0) rfl rfl k_)
  obtain ⟨T1, X1, e1, st1⟩ := instNo X0 hx hZ hown (wq hw 133 rfl) e0 KY.u0 (own_nosub (wq hw 138 rfl) (wq hw 205 rfl) (wq hw 10 rfl) (by decide) (by decide)) (g := (mkF m 1 #[vR ho, vR ku, .unset, .unset] [(.ref ku)])) rfl rfl (hb hby d21_1)
  refine Go T1 (mkF m 4 #[vR ho, vR ku, .unset, .unset] [(.int 0)]) ?_ st1
  refine Go T1 (mkF m 27 #[vR ho, vR ku, .unset, .unset] []) ?_ (fun t_ k_ => XS.ifYes X1.here hx rfl (pc0 := 4) (pc' := 27) rfl (hb hby d21_4) rfl (by decide) (by decide) (by decide) k_)
  refine Go T1 (mkF m 28 #[vR ho, vR ku, .unset, .unset] [(.ref ku)]) ?_ (fun t_ k_ => XS.aloadN X1.here hx rfl (hb hby d21_27) rfl rfl k_)
  obtain ⟨T2, X2, e2, st2⟩ := instY X1 hx hZ hown (wq hw 139 rfl) e1 (Ins.self KY.u0) (g := (mkF m 28 #[vR ho, vR ku, .unset, .unset] [(.ref ku)])) rfl rfl (hb hby d21_28)
  refine Go T2 (mkF m 31 #[vR ho, vR ku, .unset, .unset] [(.int 1)]) ?_ st2
  refine Go T2 (mkF m 34 #[vR ho, vR ku, .unset, .unset] []) ?_ (fun t_ k_ => XS.ifNo X2.here hx rfl (hb hby d21_31) rfl (by decide) k_)
  refine Go T2 (mkF m 35 #[vR ho, vR ku, .unset, .unset] [(.ref ku)]) ?_ (fun t_ k_ => XS.aloadN X2.here hx rfl (hb hby d21_34) rfl rfl k_)
  obtain ⟨T3, X3, e3, st3⟩ := castY X2 hx hZ hown (wq hw 139 rfl) e2 (Ins.self KY.u0) (g := (mkF m 35 #[vR ho, vR ku, .unset, .unset] [(.ref ku)])) rfl rfl (hb hby d21_35)
  refine Go T3 (mkF m 38 #[vR ho, vR ku, .unset, .unset] [(.ref ku)]) ?_ st3
  refine Go T3 (mkF m 39 #[vR ho, vR ku, .unset, vR ku] []) ?_ (fun t_ k_ => XS.astoreN X3.here hx rfl (hb hby d21_38) rfl rfl (l' := #[vR ho, vR ku, .unset, vR ku]) rfl k_)
  refine Go T3 (mkF m 40 #[vR ho, vR ku, .unset, vR ku] [(.ref ho)]) ?_ (fun t_ k_ => XS.aloadN X3.here hx rfl (hb hby d21_39) rfl rfl k_)
  refine Go T3 (mkF m 41 #[vR ho, vR ku, .unset, vR ku] [(.ref ho), (.ref ho)]) ?_ (fun t_ k_ => XS.aloadN X3.here hx rfl (hb hby d21_40) rfl rfl k_)
  obtain ⟨T4, X4, e4, st4⟩ := getF X3 hx hZ hown (host := "") (Or.inl (wq hw 120 rfl)) Via.refl e3 FX (g := (mkF m 41 #[vR ho, vR ku, .unset, vR ku] [(.ref ho), (.ref ho)])) rfl rfl (hb hby d21_41)
  refine Go T4 (mkF m 44 #[vR ho, vR ku, .unset, vR ku] [v_, (.ref ho)]) ?_ st4
  refine Go T4 (mkF m 45 #[vR ho, vR ku, .unset, vR ku] [(.ref ku), v_, (.ref ho)]) ?_ (fun t_ k_ => XS.aloadN X4.here hx rfl (hb hby d21_44) rfl rfl k_)
  obtain ⟨_, _, ⟨T5, Lq_5, kq_5, nq_5⟩, -, X5, ⟨Lc5, hQ5, l5, y5, z5⟩, st5⟩ := Jvm.LawKit.callS X4 hx (y := mN26) hown (mvT hZ (wq hw 147 rfl)) (mvT hZ (wq hw 148 rfl)) (mvT hZ (wq hw 103 rfl)) (mvT hZ (wq hw 149 rfl)) (by decide) (backOf (W := 1) (rmDU l Z a0 hw [] B t tt i ti r tr ku ko kt ki kr ct ci cr w2 zc v_ n tl h0 n0 Z0 KY KC gB bB CS hzc X0_ F rV h9) hZ (wq hw 149 rfl) (wq hw 103 rfl) (by decide) (by decide)) (g := (mkF m 45 #[vR ho, vR ku, .unset, vR ku] [(.ref ku), v_, (.ref ho)])) rfl (by rw [hml]; rfl) (argsL := [v_, (.ref ku)]) (rest := [(.ref ho)]) (lenOf pd_17 rfl) rfl (by show 2 * 0 + _ ≤ _; exact Nat.le_of_eq rfl) (hb hby d21_45) (fun _ _ => ⟨rfl, e4, (by decide : 0 + 4 ≤ _), (by decide : 0 + 13 ≤ _)⟩)
  dsimp only [Pt.U, Pt.locs, Pt.cells, Pt.slots] at X5 l5 y5 z5 st5 hQ5
  rw [l5, y5, z5] at X5
  change Stand p l e _ _ m _ below meth c T5 _ 4 13 at X5
  obtain ⟨v2, tl2, rfl, N5q, K5, KF, HN, SU⟩ := hQ5
  have N5 := Fr.app N0 N5q
  refine Go T5 (mkF m 48 #[vR ho, vR ku, .unset, vR ku] [v2, (.ref ho)]) ?_ st5
  have rV2 := HN.ref
  have Zr : n0 ≤ T5.heap.size := Nat.le_trans Z0 K5.1
  have G_usersets := FX.keep K5 nho
  have G_wildcardTypes := FA.keep K5 nho
  have G_objects := FB.keep K5 nho
  have G_E := E.keep K5
  obtain ⟨T6, h6, X6, e6, W6, st6⟩ := putF X5 hx hZ hown (host := "") (Or.inl (wq hw 120 rfl)) Via.refl rfl G_usersets G_E (Or.inl (wq hw 121 rfl)) (wq hw 102 rfl) (ty := (.object "com/example/entitlement/entitlement/Tally")) (by decide) (own_gn rV2) (own_gf rV2) (g := (mkF m 48 #[vR ho, vR ku, .unset, vR ku] [v2, (.ref ho)])) rfl rfl (hb hby d21_48)
  have N6 := Fr.snoc X6 N5 gho
  have Z6 : n0 ≤ h6.size := Nat.le_trans Zr (Nat.le_of_eq W6.size.symm)
  refine Go T6 (mkF m 51 #[vR ho, vR ku, .unset, vR ku] []) ?_ st6
  have fx7 := G_usersets.same W6
  have fx8 := G_wildcardTypes.other W6 (Or.inr (slot_ne (Or.inl (wq hw 123 rfl)) (Or.inl (wq hw 121 rfl)) (by decide) (t := (.object "com/example/entitlement/entitlement/Tally")) (t' := (.object "com/example/entitlement/entitlement/Tally")) (by decide) (by decide)))
  have fx9 := G_objects.other W6 (Or.inr (slot_ne (Or.inl (wq hw 119 rfl)) (Or.inl (wq hw 121 rfl)) (by decide) (t := (.object "com/example/entitlement/entitlement/Tally")) (t' := (.object "com/example/entitlement/entitlement/Tally")) (by decide) (by decide)))
  have fx10 := G_E.wr W6
  have kw : Keep T5.heap h6 [ho] := (Keep.refl _ [ho]).wr W6 (Or.inl (List.mem_cons_self ..))
  have KG := KF.keep1 kw hod
  have HG := HN.keep kw (fun y hy => ninS (fun q => absurd lho (Nat.not_lt.mpr (q ▸ (HN.bd y hy).1))) nin0)
  have kf : Keep h0 h6 ([t, i, r, ho] ++ tl) := ((Keep.refl h0 ([t, i, r, ho] ++ tl)).trans K5 (fun y hy => Or.inl (by simp only [List.mem_append, List.mem_cons, List.not_mem_nil, or_false] at hy ⊢; rcases hy with (q | q | q) | q <;> simp [q]))).trans kw (allS (Or.inl (by simp)) all0)
  refine Go T6 (mkF m 69 #[vR ho, vR ku, .unset, vR ku] []) ?_ (fun t_ k_ => XS.goto X6.here hx rfl (pc0 := 51) (pc' := 69) rfl (hb hby d21_51) (by decide) (by decide) k_)
  rw [hWd]
  exact Goes.retn X6 (v := none) (fun fs hr => X6.returnOut hx Bd.returns (hb hby d21_69) hr) (fun _ => rfl) Bd.notSynchronized (by decide) (by decide) (by rw [e6]; exact ⟨v2, tl2, rfl, N6, kf, KG, fx10, fx7, fx8, fx9, HG, SU⟩)
def QXU (Z : State) (B : Nat) (t tt i ti r tr ku ko : Addr) (kt ki kr : ClassId) (ct ci cr w2 : Int32) (zc : Int32) (ho : Addr) (v_ va vb : Value) (n : Nat) (tl : List Addr) (h0 : Heap) (n0 : Nat) (v : Option Value) (h : Heap) (L : List Loc) : Prop := ∃ v2 tl2, v = none ∧ Fr n0 L ∧ Keep h0 h ([t, i, r, ho] ++ tl) ∧ KA Z h t tt i ti r tr ku ko kt ki kr ct ci cr w2 ∧ Exa Z h ho "com/example/entitlement/entitlement/CountedHolders" ∧ Fld Z h ho "com/example/entitlement/entitlement/CountedHolders" "usersets" "Lcom/example/entitlement/entitlement/Tally;" v2 ∧ Fld Z h ho "com/example/entitlement/entitlement/CountedHolders" "wildcardTypes" "Lcom/example/entitlement/entitlement/Tally;" va ∧ Fld Z h ho "com/example/entitlement/entitlement/CountedHolders" "objects" "Lcom/example/entitlement/entitlement/Tally;" vb ∧ HF Z h B v2 ku (own_sh ct ci cr) (n - 1) tl2 ∧ ∀ y ∈ tl2, y ∈ tl ∨ h0.size ≤ y
set_option maxRecDepth 65536 in
set_option maxHeartbeats 40000000 in
theorem rmXU (l : Launch) (Z : State) (a0 : Array Value) (hw : ∀ d ∈ tables_1, d.before a0 Z = true) (ws : List Jvm.Cond) (B : Nat) (t tt i ti r tr ku ko : Addr) (kt ki kr : ClassId) (ct ci cr w2 : Int32) (zc : Int32) (ho : Addr) (v_ va vb : Value) (n : Nat) (tl : List Addr) (h0 : Heap) (n0 : Nat) (Z0 : n0 ≤ h0.size) (KY : KA Z h0 t tt i ti r tr ku ko kt ki kr ct ci cr w2) (KC : KD n0 B t tt i ti r tr ku ko ct ci cr) (gB : n0 ≤ B) (bB : B ≤ h0.size) (CS : Sta Z Z.heap "java/lang/String" "COMPACT_STRINGS" "Z" (.int zc)) (hzc : ¬ zc = (0 : Int32)) (X0_ : Old Z n0 h0) (E : Exa Z h0 ho "com/example/entitlement/entitlement/CountedHolders") (FX : Fld Z h0 ho "com/example/entitlement/entitlement/CountedHolders" "usersets" "Lcom/example/entitlement/entitlement/Tally;" v_) (FA : Fld Z h0 ho "com/example/entitlement/entitlement/CountedHolders" "wildcardTypes" "Lcom/example/entitlement/entitlement/Tally;" va) (FB : Fld Z h0 ho "com/example/entitlement/entitlement/CountedHolders" "objects" "Lcom/example/entitlement/entitlement/Tally;" vb) (F : HF Z h0 B v_ ku (own_sh ct ci cr) n tl) (h9 : n ≤ 8) (gho : n0 ≤ ho) (lho : ho < B) (hod : ho ∉ [t, tt, i, ti, r, tr, ku, ko]) :
    MetFree l mN29 (head1 (Jvm.Cond.code mN29 cD16 4 none :: ws) ({ frames := 7, cells := 1, slots := 3, locals := 102 } : Room)) (fun a_ U => a_ = #[(.ref ho), (.ref ku)] ∧ Z.Warmed39 U.vm ∧ U.heap = h0) (fun _ _ _ _ _ => True) (fun _ U o U' => ∃ v L, o = .returned v ∧ QXU Z B t tt i ti r tr ku ko kt ki kr ct ci cr w2 zc ho v_ va vb n tl h0 n0 v U'.heap L ∧ FrameEnd U o U' L ({ frames := 7, cells := 1, slots := 3, locals := 102 } : Room).cells ({ frames := 7, cells := 1, slots := 3, locals := 102 } : Room).slots) := by
  refine MetFree.of_bodySF (plainFor_of_name pn_7) hisR ?_
  intro p e s m args below meth c s₁ Bd hml0 hP hK
  obtain ⟨rfl, hZ, hh⟩ := hP
  have hx := Bd.exec
  have hby := Bd.bytes
  have hml : c.maxLocals = 4 := hml0
  have hown : s.vm.findClass "com/example/entitlement/entitlement/CountedHolders" = some m.cls := findClass_of_methodNamed Bd.named
  have hnm := (name_of_methodNamed Bd.named Bd.method).1
  have X0 : Stand p l e ({ frames := 7, cells := 1, slots := 3, locals := 102 } : Room) s m #[(.ref ho), (.ref ku)] below meth c s₁ [] 0 0 := Stand.of_body Bd
  have e0 : s₁.heap = h0 := by rw [← hh, Bd.state]; rfl
  have N0 := Fr.nil n0
  refine Goes.done ?_
  obtain ⟨W, hWd⟩ : ∃ W : State → Prop, W = EndW s below (QXU Z B t tt i ti r tr ku ko kt ki kr ct ci cr w2 zc ho v_ va vb n tl h0 n0) ({ frames := 7, cells := 1, slots := 3, locals := 102 } : Room).cells ({ frames := 7, cells := 1, slots := 3, locals := 102 } : Room).slots := ⟨_, rfl⟩
  rw [← hWd]
  have hef : entryFrame m #[(.ref ho), (.ref ku)] 4 = (mkF m 0 #[vR ho, vR ku, .unset, .unset] []) := by first | (simp [entryFrame, mkF, argsToLocals, Value.category]; done) | rfl
  rw [hef]
  have rV := F.ref
  have nho : ho ∉ [t, i, r] ++ tl := own_ninA (own_sub3 hod) (fun q => absurd lho (Nat.not_lt.mpr (F.bd ho q).1))
  refine Go s₁ (mkF m 1 #[vR ho, vR ku, .unset, .unset] [(.ref ku)]) ?_ (fun t_ k_ => XS.aloadN X0.here hx rfl (hb hby d19_0) rfl rfl k_)
  obtain ⟨T1, X1, e1, st1⟩ := instNo X0 hx hZ hown (wq hw 133 rfl) e0 KY.u0 (own_nosub (wq hw 138 rfl) (wq hw 205 rfl) (wq hw 10 rfl) (by decide) (by decide)) (g := (mkF m 1 #[vR ho, vR ku, .unset, .unset] [(.ref ku)])) rfl rfl (hb hby d19_1)
  refine Go T1 (mkF m 4 #[vR ho, vR ku, .unset, .unset] [(.int 0)]) ?_ st1
  refine Go T1 (mkF m 27 #[vR ho, vR ku, .unset, .unset] []) ?_ (fun t_ k_ => XS.ifYes X1.here hx rfl (pc0 := 4) (pc' := 27) rfl (hb hby d19_4) rfl (by decide) (by decide) (by decide) k_)
  refine Go T1 (mkF m 28 #[vR ho, vR ku, .unset, .unset] [(.ref ku)]) ?_ (fun t_ k_ => XS.aloadN X1.here hx rfl (hb hby d19_27) rfl rfl k_)
  obtain ⟨T2, X2, e2, st2⟩ := instY X1 hx hZ hown (wq hw 139 rfl) e1 (Ins.self KY.u0) (g := (mkF m 28 #[vR ho, vR ku, .unset, .unset] [(.ref ku)])) rfl rfl (hb hby d19_28)
  refine Go T2 (mkF m 31 #[vR ho, vR ku, .unset, .unset] [(.int 1)]) ?_ st2
  refine Go T2 (mkF m 34 #[vR ho, vR ku, .unset, .unset] []) ?_ (fun t_ k_ => XS.ifNo X2.here hx rfl (hb hby d19_31) rfl (by decide) k_)
  refine Go T2 (mkF m 35 #[vR ho, vR ku, .unset, .unset] [(.ref ku)]) ?_ (fun t_ k_ => XS.aloadN X2.here hx rfl (hb hby d19_34) rfl rfl k_)
  obtain ⟨T3, X3, e3, st3⟩ := castY X2 hx hZ hown (wq hw 139 rfl) e2 (Ins.self KY.u0) (g := (mkF m 35 #[vR ho, vR ku, .unset, .unset] [(.ref ku)])) rfl rfl (hb hby d19_35)
  refine Go T3 (mkF m 38 #[vR ho, vR ku, .unset, .unset] [(.ref ku)]) ?_ st3
  refine Go T3 (mkF m 39 #[vR ho, vR ku, .unset, vR ku] []) ?_ (fun t_ k_ => XS.astoreN X3.here hx rfl (hb hby d19_38) rfl rfl (l' := #[vR ho, vR ku, .unset, vR ku]) rfl k_)
  refine Go T3 (mkF m 40 #[vR ho, vR ku, .unset, vR ku] [(.ref ho)]) ?_ (fun t_ k_ => XS.aloadN X3.here hx rfl (hb hby d19_39) rfl rfl k_)
  refine Go T3 (mkF m 41 #[vR ho, vR ku, .unset, vR ku] [(.ref ho), (.ref ho)]) ?_ (fun t_ k_ => XS.aloadN X3.here hx rfl (hb hby d19_40) rfl rfl k_)
  obtain ⟨T4, X4, e4, st4⟩ := getF X3 hx hZ hown (host := "") (Or.inl (wq hw 120 rfl)) Via.refl e3 FX (g := (mkF m 41 #[vR ho, vR ku, .unset, vR ku] [(.ref ho), (.ref ho)])) rfl rfl (hb hby d19_41)
  refine Go T4 (mkF m 44 #[vR ho, vR ku, .unset, vR ku] [v_, (.ref ho)]) ?_ st4
  refine Go T4 (mkF m 45 #[vR ho, vR ku, .unset, vR ku] [(.ref ku), v_, (.ref ho)]) ?_ (fun t_ k_ => XS.aloadN X4.here hx rfl (hb hby d19_44) rfl rfl k_)
  obtain ⟨_, _, ⟨T5, Lq_5, kq_5, nq_5⟩, -, X5, ⟨Lc5, hQ5, l5, y5, z5⟩, st5⟩ := Jvm.LawKit.callS X4 hx (y := mN27) hown (mvT hZ (wq hw 134 rfl)) (mvT hZ (wq hw 135 rfl)) (mvT hZ (wq hw 103 rfl)) (mvT hZ (wq hw 136 rfl)) (by decide) (backOf (W := 1) (rmMU l Z a0 hw [] B t tt i ti r tr ku ko kt ki kr ct ci cr w2 zc v_ n tl h0 n0 Z0 KY KC gB bB CS hzc X0_ F rV h9) hZ (wq hw 136 rfl) (wq hw 103 rfl) (by decide) (by decide)) (g := (mkF m 45 #[vR ho, vR ku, .unset, vR ku] [(.ref ku), v_, (.ref ho)])) rfl (by rw [hml]; rfl) (argsL := [v_, (.ref ku)]) (rest := [(.ref ho)]) (lenOf pd_17 rfl) rfl (by show 2 * 0 + _ ≤ _; exact Nat.le_of_eq rfl) (hb hby d19_45) (fun _ _ => ⟨rfl, e4, (by decide : 0 + 1 ≤ _), (by decide : 0 + 3 ≤ _)⟩)
  dsimp only [Pt.U, Pt.locs, Pt.cells, Pt.slots] at X5 l5 y5 z5 st5 hQ5
  rw [l5, y5, z5] at X5
  change Stand p l e _ _ m _ below meth c T5 _ 1 3 at X5
  obtain ⟨v2, tl2, rfl, N5q, K5, KF, HN, SU⟩ := hQ5
  have N5 := Fr.app N0 N5q
  refine Go T5 (mkF m 48 #[vR ho, vR ku, .unset, vR ku] [v2, (.ref ho)]) ?_ st5
  have rV2 := HN.ref
  have Zr : n0 ≤ T5.heap.size := Nat.le_trans Z0 K5.1
  have G_usersets := FX.keep K5 nho
  have G_wildcardTypes := FA.keep K5 nho
  have G_objects := FB.keep K5 nho
  have G_E := E.keep K5
  obtain ⟨T6, h6, X6, e6, W6, st6⟩ := putF X5 hx hZ hown (host := "") (Or.inl (wq hw 120 rfl)) Via.refl rfl G_usersets G_E (Or.inl (wq hw 121 rfl)) (wq hw 102 rfl) (ty := (.object "com/example/entitlement/entitlement/Tally")) (by decide) (own_gn rV2) (own_gf rV2) (g := (mkF m 48 #[vR ho, vR ku, .unset, vR ku] [v2, (.ref ho)])) rfl rfl (hb hby d19_48)
  have N6 := Fr.snoc X6 N5 gho
  have Z6 : n0 ≤ h6.size := Nat.le_trans Zr (Nat.le_of_eq W6.size.symm)
  refine Go T6 (mkF m 51 #[vR ho, vR ku, .unset, vR ku] []) ?_ st6
  have fx7 := G_usersets.same W6
  have fx8 := G_wildcardTypes.other W6 (Or.inr (slot_ne (Or.inl (wq hw 123 rfl)) (Or.inl (wq hw 121 rfl)) (by decide) (t := (.object "com/example/entitlement/entitlement/Tally")) (t' := (.object "com/example/entitlement/entitlement/Tally")) (by decide) (by decide)))
  have fx9 := G_objects.other W6 (Or.inr (slot_ne (Or.inl (wq hw 119 rfl)) (Or.inl (wq hw 121 rfl)) (by decide) (t := (.object "com/example/entitlement/entitlement/Tally")) (t' := (.object "com/example/entitlement/entitlement/Tally")) (by decide) (by decide)))
  have fx10 := G_E.wr W6
  have kw : Keep T5.heap h6 [ho] := (Keep.refl _ [ho]).wr W6 (Or.inl (List.mem_cons_self ..))
  have KG := KF.keep1 kw hod
  have HG := HN.keep kw (fun y hy => ninS (fun q => absurd lho (Nat.not_lt.mpr (q ▸ (HN.bd y hy).1))) nin0)
  have kf : Keep h0 h6 ([t, i, r, ho] ++ tl) := ((Keep.refl h0 ([t, i, r, ho] ++ tl)).trans K5 (fun y hy => Or.inl (by simp only [List.mem_append, List.mem_cons, List.not_mem_nil, or_false] at hy ⊢; rcases hy with (q | q | q) | q <;> simp [q]))).trans kw (allS (Or.inl (by simp)) all0)
  refine Go T6 (mkF m 69 #[vR ho, vR ku, .unset, vR ku] []) ?_ (fun t_ k_ => XS.goto X6.here hx rfl (pc0 := 51) (pc' := 69) rfl (hb hby d19_51) (by decide) (by decide) k_)
  rw [hWd]
  exact Goes.retn X6 (v := none) (fun fs hr => X6.returnOut hx Bd.returns (hb hby d19_69) hr) (fun _ => rfl) Bd.notSynchronized (by decide) (by decide) (by rw [e6]; exact ⟨v2, tl2, rfl, N6, kf, KG, fx10, fx7, fx8, fx9, HG, SU⟩)
def QGO (Z : State) (B : Nat) (t tt i ti r tr ku ko : Addr) (kt ki kr : ClassId) (ct ci cr w2 : Int32) (zc : Int32) (ho : Addr) (v_ va vb : Value) (n : Nat) (tl : List Addr) (h0 : Heap) (n0 : Nat) (v : Option Value) (h : Heap) (L : List Loc) : Prop := ∃ v2 tl2, v = none ∧ Fr n0 L ∧ Keep h0 h ([t, i, r, ho] ++ tl) ∧ KA Z h t tt i ti r tr ku ko kt ki kr ct ci cr w2 ∧ Exa Z h ho "com/example/entitlement/entitlement/CountedHolders" ∧ Fld Z h ho "com/example/entitlement/entitlement/CountedHolders" "objects" "Lcom/example/entitlement/entitlement/Tally;" v2 ∧ Fld Z h ho "com/example/entitlement/entitlement/CountedHolders" "wildcardTypes" "Lcom/example/entitlement/entitlement/Tally;" va ∧ Fld Z h ho "com/example/entitlement/entitlement/CountedHolders" "usersets" "Lcom/example/entitlement/entitlement/Tally;" vb ∧ HF Z h B v2 ko w2 (n + 1) tl2 ∧ ∀ y ∈ tl2, y ∈ tl ∨ h0.size ≤ y
set_option maxRecDepth 65536 in
set_option maxHeartbeats 40000000 in
theorem rmGO (l : Launch) (Z : State) (a0 : Array Value) (hw : ∀ d ∈ tables_1, d.before a0 Z = true) (ws : List Jvm.Cond) (B : Nat) (t tt i ti r tr ku ko : Addr) (kt ki kr : ClassId) (ct ci cr w2 : Int32) (zc : Int32) (ho : Addr) (v_ va vb : Value) (n : Nat) (tl : List Addr) (h0 : Heap) (n0 : Nat) (Z0 : n0 ≤ h0.size) (KY : KA Z h0 t tt i ti r tr ku ko kt ki kr ct ci cr w2) (KC : KD n0 B t tt i ti r tr ku ko ct ci cr) (gB : n0 ≤ B) (bB : B ≤ h0.size) (CS : Sta Z Z.heap "java/lang/String" "COMPACT_STRINGS" "Z" (.int zc)) (hzc : ¬ zc = (0 : Int32)) (X0_ : Old Z n0 h0) (E : Exa Z h0 ho "com/example/entitlement/entitlement/CountedHolders") (FX : Fld Z h0 ho "com/example/entitlement/entitlement/CountedHolders" "objects" "Lcom/example/entitlement/entitlement/Tally;" v_) (FA : Fld Z h0 ho "com/example/entitlement/entitlement/CountedHolders" "wildcardTypes" "Lcom/example/entitlement/entitlement/Tally;" va) (FB : Fld Z h0 ho "com/example/entitlement/entitlement/CountedHolders" "usersets" "Lcom/example/entitlement/entitlement/Tally;" vb) (F : HF Z h0 B v_ ko w2 n tl) (h9 : n ≤ 8) (gho : n0 ≤ ho) (lho : ho < B) (hod : ho ∉ [t, tt, i, ti, r, tr, ku, ko]) :
    MetFree l mN28 (head1 (Jvm.Cond.code mN28 cD18 4 none :: ws) ({ frames := 4, cells := 3, slots := 10, locals := 66 } : Room)) (fun a_ U => a_ = #[(.ref ho), (.ref ko)] ∧ Z.Warmed39 U.vm ∧ U.heap = h0) (fun _ _ _ _ _ => True) (fun _ U o U' => ∃ v L, o = .returned v ∧ QGO Z B t tt i ti r tr ku ko kt ki kr ct ci cr w2 zc ho v_ va vb n tl h0 n0 v U'.heap L ∧ FrameEnd U o U' L ({ frames := 4, cells := 3, slots := 10, locals := 66 } : Room).cells ({ frames := 4, cells := 3, slots := 10, locals := 66 } : Room).slots) := by
  refine MetFree.of_bodySF (plainFor_of_name pn_7) hisR ?_
  intro p e s m args below meth c s₁ Bd hml0 hP hK
  obtain ⟨rfl, hZ, hh⟩ := hP
  have hx := Bd.exec
  have hby := Bd.bytes
  have hml : c.maxLocals = 4 := hml0
  have hown : s.vm.findClass "com/example/entitlement/entitlement/CountedHolders" = some m.cls := findClass_of_methodNamed Bd.named
  have hnm := (name_of_methodNamed Bd.named Bd.method).1
  have X0 : Stand p l e ({ frames := 4, cells := 3, slots := 10, locals := 66 } : Room) s m #[(.ref ho), (.ref ko)] below meth c s₁ [] 0 0 := Stand.of_body Bd
  have e0 : s₁.heap = h0 := by rw [← hh, Bd.state]; rfl
  have N0 := Fr.nil n0
  refine Goes.done ?_
  obtain ⟨W, hWd⟩ : ∃ W : State → Prop, W = EndW s below (QGO Z B t tt i ti r tr ku ko kt ki kr ct ci cr w2 zc ho v_ va vb n tl h0 n0) ({ frames := 4, cells := 3, slots := 10, locals := 66 } : Room).cells ({ frames := 4, cells := 3, slots := 10, locals := 66 } : Room).slots := ⟨_, rfl⟩
  rw [← hWd]
  have hef : entryFrame m #[(.ref ho), (.ref ko)] 4 = (mkF m 0 #[vR ho, vR ko, .unset, .unset] []) := by first | (simp [entryFrame, mkF, argsToLocals, Value.category]; done) | rfl
  rw [hef]
  have rV := F.ref
  have nho : ho ∉ [t, i, r] ++ tl := own_ninA (own_sub3 hod) (fun q => absurd lho (Nat.not_lt.mpr (F.bd ho q).1))
  refine Go s₁ (mkF m 1 #[vR ho, vR ko, .unset, .unset] [(.ref ko)]) ?_ (fun t_ k_ => XS.aloadN X0.here hx rfl (hb hby d21_0) rfl rfl k_)
  obtain ⟨T1, X1, e1, st1⟩ := instNo X0 hx hZ hown (wq hw 133 rfl) e0 KY.o0 (own_nosub (wq hw 138 rfl) (wq hw 137 rfl) (wq hw 10 rfl) (by decide) (by decide)) (g := (mkF m 1 #[vR ho, vR ko, .unset, .unset] [(.ref ko)])) rfl rfl (hb hby d21_1)
  refine Go T1 (mkF m 4 #[vR ho, vR ko, .unset, .unset] [(.int 0)]) ?_ st1
  refine Go T1 (mkF m 27 #[vR ho, vR ko, .unset, .unset] []) ?_ (fun t_ k_ => XS.ifYes X1.here hx rfl (pc0 := 4) (pc' := 27) rfl (hb hby d21_4) rfl (by decide) (by decide) (by decide) k_)
  refine Go T1 (mkF m 28 #[vR ho, vR ko, .unset, .unset] [(.ref ko)]) ?_ (fun t_ k_ => XS.aloadN X1.here hx rfl (hb hby d21_27) rfl rfl k_)
  obtain ⟨T2, X2, e2, st2⟩ := instNo X1 hx hZ hown (wq hw 139 rfl) e1 KY.o0 (own_nosub (wq hw 138 rfl) (wq hw 137 rfl) (wq hw 50 rfl) (by decide) (by decide)) (g := (mkF m 28 #[vR ho, vR ko, .unset, .unset] [(.ref ko)])) rfl rfl (hb hby d21_28)
  refine Go T2 (mkF m 31 #[vR ho, vR ko, .unset, .unset] [(.int 0)]) ?_ st2
  refine Go T2 (mkF m 54 #[vR ho, vR ko, .unset, .unset] []) ?_ (fun t_ k_ => XS.ifYes X2.here hx rfl (pc0 := 31) (pc' := 54) rfl (hb hby d21_31) rfl (by decide) (by decide) (by decide) k_)
  refine Go T2 (mkF m 55 #[vR ho, vR ko, .unset, .unset] [(.ref ho)]) ?_ (fun t_ k_ => XS.aloadN X2.here hx rfl (hb hby d21_54) rfl rfl k_)
  refine Go T2 (mkF m 56 #[vR ho, vR ko, .unset, .unset] [(.ref ho), (.ref ho)]) ?_ (fun t_ k_ => XS.aloadN X2.here hx rfl (hb hby d21_55) rfl rfl k_)
  obtain ⟨T3, X3, e3, st3⟩ := getF X2 hx hZ hown (host := "") (Or.inl (wq hw 118 rfl)) Via.refl e2 FX (g := (mkF m 56 #[vR ho, vR ko, .unset, .unset] [(.ref ho), (.ref ho)])) rfl rfl (hb hby d21_56)
  refine Go T3 (mkF m 59 #[vR ho, vR ko, .unset, .unset] [v_, (.ref ho)]) ?_ st3
  refine Go T3 (mkF m 60 #[vR ho, vR ko, .unset, .unset] [(.ref ko), v_, (.ref ho)]) ?_ (fun t_ k_ => XS.aloadN X3.here hx rfl (hb hby d21_59) rfl rfl k_)
  obtain ⟨T4, X4, e4, st4⟩ := castY X3 hx hZ hown (wq hw 140 rfl) e3 (Ins.self KY.o0) (g := (mkF m 60 #[vR ho, vR ko, .unset, .unset] [(.ref ko), v_, (.ref ho)])) rfl rfl (hb hby d21_60)
  refine Go T4 (mkF m 63 #[vR ho, vR ko, .unset, .unset] [(.ref ko), v_, (.ref ho)]) ?_ st4
  obtain ⟨_, _, ⟨T5, Lq_5, kq_5, nq_5⟩, -, X5, ⟨Lc5, hQ5, l5, y5, z5⟩, st5⟩ := Jvm.LawKit.callS X4 hx (y := mN26) hown (mvT hZ (wq hw 147 rfl)) (mvT hZ (wq hw 148 rfl)) (mvT hZ (wq hw 103 rfl)) (mvT hZ (wq hw 149 rfl)) (by decide) (backOf (W := 1) (rmDO l Z a0 hw [] B t tt i ti r tr ku ko kt ki kr ct ci cr w2 zc v_ n tl h0 n0 Z0 KY KC gB bB CS hzc X0_ F rV h9) hZ (wq hw 149 rfl) (wq hw 103 rfl) (by decide) (by decide)) (g := (mkF m 63 #[vR ho, vR ko, .unset, .unset] [(.ref ko), v_, (.ref ho)])) rfl (by rw [hml]; rfl) (argsL := [v_, (.ref ko)]) (rest := [(.ref ho)]) (lenOf pd_17 rfl) rfl (by show 2 * 0 + _ ≤ _; exact Nat.le_of_eq rfl) (hb hby d21_63) (fun _ _ => ⟨rfl, e4, (by decide : 0 + 3 ≤ _), (by decide : 0 + 10 ≤ _)⟩)
  dsimp only [Pt.U, Pt.locs, Pt.cells, Pt.slots] at X5 l5 y5 z5 st5 hQ5
  rw [l5, y5, z5] at X5
  change Stand p l e _ _ m _ below meth c T5 _ 3 10 at X5
  obtain ⟨v2, tl2, rfl, N5q, K5, KF, HN, SU⟩ := hQ5
  have N5 := Fr.app N0 N5q
  refine Go T5 (mkF m 66 #[vR ho, vR ko, .unset, .unset] [v2, (.ref ho)]) ?_ st5
  have rV2 := HN.ref
  have Zr : n0 ≤ T5.heap.size := Nat.le_trans Z0 K5.1
  have G_objects := FX.keep K5 nho
  have G_wildcardTypes := FA.keep K5 nho
  have G_usersets := FB.keep K5 nho
  have G_E := E.keep K5
  obtain ⟨T6, h6, X6, e6, W6, st6⟩ := putF X5 hx hZ hown (host := "") (Or.inl (wq hw 118 rfl)) Via.refl rfl G_objects G_E (Or.inl (wq hw 119 rfl)) (wq hw 102 rfl) (ty := (.object "com/example/entitlement/entitlement/Tally")) (by decide) (own_gn rV2) (own_gf rV2) (g := (mkF m 66 #[vR ho, vR ko, .unset, .unset] [v2, (.ref ho)])) rfl rfl (hb hby d21_66)
  have N6 := Fr.snoc X6 N5 gho
  have Z6 : n0 ≤ h6.size := Nat.le_trans Zr (Nat.le_of_eq W6.size.symm)
  refine Go T6 (mkF m 69 #[vR ho, vR ko, .unset, .unset] []) ?_ st6
  have fx7 := G_objects.same W6
  have fx8 := G_wildcardTypes.other W6 (Or.inr (slot_ne (Or.inl (wq hw 123 rfl)) (Or.inl (wq hw 119 rfl)) (by decide) (t := (.object "com/example/entitlement/entitlement/Tally")) (t' := (.object "com/example/entitlement/entitlement/Tally")) (by decide) (by decide)))
  have fx9 := G_usersets.other W6 (Or.inr (slot_ne (Or.inl (wq hw 121 rfl)) (Or.inl (wq hw 119 rfl)) (by decide) (t := (.object "com/example/entitlement/entitlement/Tally")) (t' := (.object "com/example/entitlement/entitlement/Tally")) (by decide) (by decide)))
  have fx10 := G_E.wr W6
  have kw : Keep T5.heap h6 [ho] := (Keep.refl _ [ho]).wr W6 (Or.inl (List.mem_cons_self ..))
  have KG := KF.keep1 kw hod
  have HG := HN.keep kw (fun y hy => ninS (fun q => absurd lho (Nat.not_lt.mpr (q ▸ (HN.bd y hy).1))) nin0)
  have kf : Keep h0 h6 ([t, i, r, ho] ++ tl) := ((Keep.refl h0 ([t, i, r, ho] ++ tl)).trans K5 (fun y hy => Or.inl (by simp only [List.mem_append, List.mem_cons, List.not_mem_nil, or_false] at hy ⊢; rcases hy with (q | q | q) | q <;> simp [q]))).trans kw (allS (Or.inl (by simp)) all0)
  rw [hWd]
  exact Goes.retn X6 (v := none) (fun fs hr => X6.returnOut hx Bd.returns (hb hby d21_69) hr) (fun _ => rfl) Bd.notSynchronized (by decide) (by decide) (by rw [e6]; exact ⟨v2, tl2, rfl, N6, kf, KG, fx10, fx7, fx8, fx9, HG, SU⟩)
def QXO (Z : State) (B : Nat) (t tt i ti r tr ku ko : Addr) (kt ki kr : ClassId) (ct ci cr w2 : Int32) (zc : Int32) (ho : Addr) (v_ va vb : Value) (n : Nat) (tl : List Addr) (h0 : Heap) (n0 : Nat) (v : Option Value) (h : Heap) (L : List Loc) : Prop := ∃ v2 tl2, v = none ∧ Fr n0 L ∧ Keep h0 h ([t, i, r, ho] ++ tl) ∧ KA Z h t tt i ti r tr ku ko kt ki kr ct ci cr w2 ∧ Exa Z h ho "com/example/entitlement/entitlement/CountedHolders" ∧ Fld Z h ho "com/example/entitlement/entitlement/CountedHolders" "objects" "Lcom/example/entitlement/entitlement/Tally;" v2 ∧ Fld Z h ho "com/example/entitlement/entitlement/CountedHolders" "wildcardTypes" "Lcom/example/entitlement/entitlement/Tally;" va ∧ Fld Z h ho "com/example/entitlement/entitlement/CountedHolders" "usersets" "Lcom/example/entitlement/entitlement/Tally;" vb ∧ HF Z h B v2 ko w2 (n - 1) tl2 ∧ ∀ y ∈ tl2, y ∈ tl ∨ h0.size ≤ y
set_option maxRecDepth 65536 in
set_option maxHeartbeats 40000000 in
theorem rmXO (l : Launch) (Z : State) (a0 : Array Value) (hw : ∀ d ∈ tables_1, d.before a0 Z = true) (ws : List Jvm.Cond) (B : Nat) (t tt i ti r tr ku ko : Addr) (kt ki kr : ClassId) (ct ci cr w2 : Int32) (zc : Int32) (ho : Addr) (v_ va vb : Value) (n : Nat) (tl : List Addr) (h0 : Heap) (n0 : Nat) (Z0 : n0 ≤ h0.size) (KY : KA Z h0 t tt i ti r tr ku ko kt ki kr ct ci cr w2) (KC : KD n0 B t tt i ti r tr ku ko ct ci cr) (gB : n0 ≤ B) (bB : B ≤ h0.size) (CS : Sta Z Z.heap "java/lang/String" "COMPACT_STRINGS" "Z" (.int zc)) (hzc : ¬ zc = (0 : Int32)) (X0_ : Old Z n0 h0) (E : Exa Z h0 ho "com/example/entitlement/entitlement/CountedHolders") (FX : Fld Z h0 ho "com/example/entitlement/entitlement/CountedHolders" "objects" "Lcom/example/entitlement/entitlement/Tally;" v_) (FA : Fld Z h0 ho "com/example/entitlement/entitlement/CountedHolders" "wildcardTypes" "Lcom/example/entitlement/entitlement/Tally;" va) (FB : Fld Z h0 ho "com/example/entitlement/entitlement/CountedHolders" "usersets" "Lcom/example/entitlement/entitlement/Tally;" vb) (F : HF Z h0 B v_ ko w2 n tl) (h9 : n ≤ 8) (gho : n0 ≤ ho) (lho : ho < B) (hod : ho ∉ [t, tt, i, ti, r, tr, ku, ko]) :
    MetFree l mN29 (head1 (Jvm.Cond.code mN29 cD16 4 none :: ws) ({ frames := 4, cells := 0, slots := 0, locals := 66 } : Room)) (fun a_ U => a_ = #[(.ref ho), (.ref ko)] ∧ Z.Warmed39 U.vm ∧ U.heap = h0) (fun _ _ _ _ _ => True) (fun _ U o U' => ∃ v L, o = .returned v ∧ QXO Z B t tt i ti r tr ku ko kt ki kr ct ci cr w2 zc ho v_ va vb n tl h0 n0 v U'.heap L ∧ FrameEnd U o U' L ({ frames := 4, cells := 0, slots := 0, locals := 66 } : Room).cells ({ frames := 4, cells := 0, slots := 0, locals := 66 } : Room).slots) := by
  refine MetFree.of_bodySF (plainFor_of_name pn_7) hisR ?_
  intro p e s m args below meth c s₁ Bd hml0 hP hK
  obtain ⟨rfl, hZ, hh⟩ := hP
  have hx := Bd.exec
  have hby := Bd.bytes
  have hml : c.maxLocals = 4 := hml0
  have hown : s.vm.findClass "com/example/entitlement/entitlement/CountedHolders" = some m.cls := findClass_of_methodNamed Bd.named
  have hnm := (name_of_methodNamed Bd.named Bd.method).1
  have X0 : Stand p l e ({ frames := 4, cells := 0, slots := 0, locals := 66 } : Room) s m #[(.ref ho), (.ref ko)] below meth c s₁ [] 0 0 := Stand.of_body Bd
  have e0 : s₁.heap = h0 := by rw [← hh, Bd.state]; rfl
  have N0 := Fr.nil n0
  refine Goes.done ?_
  obtain ⟨W, hWd⟩ : ∃ W : State → Prop, W = EndW s below (QXO Z B t tt i ti r tr ku ko kt ki kr ct ci cr w2 zc ho v_ va vb n tl h0 n0) ({ frames := 4, cells := 0, slots := 0, locals := 66 } : Room).cells ({ frames := 4, cells := 0, slots := 0, locals := 66 } : Room).slots := ⟨_, rfl⟩
  rw [← hWd]
  have hef : entryFrame m #[(.ref ho), (.ref ko)] 4 = (mkF m 0 #[vR ho, vR ko, .unset, .unset] []) := by first | (simp [entryFrame, mkF, argsToLocals, Value.category]; done) | rfl
  rw [hef]
  have rV := F.ref
  have nho : ho ∉ [t, i, r] ++ tl := own_ninA (own_sub3 hod) (fun q => absurd lho (Nat.not_lt.mpr (F.bd ho q).1))
  refine Go s₁ (mkF m 1 #[vR ho, vR ko, .unset, .unset] [(.ref ko)]) ?_ (fun t_ k_ => XS.aloadN X0.here hx rfl (hb hby d19_0) rfl rfl k_)
  obtain ⟨T1, X1, e1, st1⟩ := instNo X0 hx hZ hown (wq hw 133 rfl) e0 KY.o0 (own_nosub (wq hw 138 rfl) (wq hw 137 rfl) (wq hw 10 rfl) (by decide) (by decide)) (g := (mkF m 1 #[vR ho, vR ko, .unset, .unset] [(.ref ko)])) rfl rfl (hb hby d19_1)
  refine Go T1 (mkF m 4 #[vR ho, vR ko, .unset, .unset] [(.int 0)]) ?_ st1
  refine Go T1 (mkF m 27 #[vR ho, vR ko, .unset, .unset] []) ?_ (fun t_ k_ => XS.ifYes X1.here hx rfl (pc0 := 4) (pc' := 27) rfl (hb hby d19_4) rfl (by decide) (by decide) (by decide) k_)
  refine Go T1 (mkF m 28 #[vR ho, vR ko, .unset, .unset] [(.ref ko)]) ?_ (fun t_ k_ => XS.aloadN X1.here hx rfl (hb hby d19_27) rfl rfl k_)
  obtain ⟨T2, X2, e2, st2⟩ := instNo X1 hx hZ hown (wq hw 139 rfl) e1 KY.o0 (own_nosub (wq hw 138 rfl) (wq hw 137 rfl) (wq hw 50 rfl) (by decide) (by decide)) (g := (mkF m 28 #[vR ho, vR ko, .unset, .unset] [(.ref ko)])) rfl rfl (hb hby d19_28)
  refine Go T2 (mkF m 31 #[vR ho, vR ko, .unset, .unset] [(.int 0)]) ?_ st2
  refine Go T2 (mkF m 54 #[vR ho, vR ko, .unset, .unset] []) ?_ (fun t_ k_ => XS.ifYes X2.here hx rfl (pc0 := 31) (pc' := 54) rfl (hb hby d19_31) rfl (by decide) (by decide) (by decide) k_)
  refine Go T2 (mkF m 55 #[vR ho, vR ko, .unset, .unset] [(.ref ho)]) ?_ (fun t_ k_ => XS.aloadN X2.here hx rfl (hb hby d19_54) rfl rfl k_)
  refine Go T2 (mkF m 56 #[vR ho, vR ko, .unset, .unset] [(.ref ho), (.ref ho)]) ?_ (fun t_ k_ => XS.aloadN X2.here hx rfl (hb hby d19_55) rfl rfl k_)
  obtain ⟨T3, X3, e3, st3⟩ := getF X2 hx hZ hown (host := "") (Or.inl (wq hw 118 rfl)) Via.refl e2 FX (g := (mkF m 56 #[vR ho, vR ko, .unset, .unset] [(.ref ho), (.ref ho)])) rfl rfl (hb hby d19_56)
  refine Go T3 (mkF m 59 #[vR ho, vR ko, .unset, .unset] [v_, (.ref ho)]) ?_ st3
  refine Go T3 (mkF m 60 #[vR ho, vR ko, .unset, .unset] [(.ref ko), v_, (.ref ho)]) ?_ (fun t_ k_ => XS.aloadN X3.here hx rfl (hb hby d19_59) rfl rfl k_)
  obtain ⟨T4, X4, e4, st4⟩ := castY X3 hx hZ hown (wq hw 140 rfl) e3 (Ins.self KY.o0) (g := (mkF m 60 #[vR ho, vR ko, .unset, .unset] [(.ref ko), v_, (.ref ho)])) rfl rfl (hb hby d19_60)
  refine Go T4 (mkF m 63 #[vR ho, vR ko, .unset, .unset] [(.ref ko), v_, (.ref ho)]) ?_ st4
  obtain ⟨_, _, ⟨T5, Lq_5, kq_5, nq_5⟩, -, X5, ⟨Lc5, hQ5, l5, y5, z5⟩, st5⟩ := Jvm.LawKit.callS X4 hx (y := mN27) hown (mvT hZ (wq hw 134 rfl)) (mvT hZ (wq hw 135 rfl)) (mvT hZ (wq hw 103 rfl)) (mvT hZ (wq hw 136 rfl)) (by decide) (backOf (W := 1) (rmMO l Z a0 hw [] B t tt i ti r tr ku ko kt ki kr ct ci cr w2 zc v_ n tl h0 n0 Z0 KY KC gB bB CS hzc X0_ F rV h9) hZ (wq hw 136 rfl) (wq hw 103 rfl) (by decide) (by decide)) (g := (mkF m 63 #[vR ho, vR ko, .unset, .unset] [(.ref ko), v_, (.ref ho)])) rfl (by rw [hml]; rfl) (argsL := [v_, (.ref ko)]) (rest := [(.ref ho)]) (lenOf pd_17 rfl) rfl (by show 2 * 0 + _ ≤ _; exact Nat.le_of_eq rfl) (hb hby d19_63) (fun _ _ => ⟨rfl, e4, (by decide : 0 + 0 ≤ _), (by decide : 0 + 0 ≤ _)⟩)
  dsimp only [Pt.U, Pt.locs, Pt.cells, Pt.slots] at X5 l5 y5 z5 st5 hQ5
  rw [l5, y5, z5] at X5
  change Stand p l e _ _ m _ below meth c T5 _ 0 0 at X5
  obtain ⟨v2, tl2, rfl, N5q, K5, KF, HN, SU⟩ := hQ5
  have N5 := Fr.app N0 N5q
  refine Go T5 (mkF m 66 #[vR ho, vR ko, .unset, .unset] [v2, (.ref ho)]) ?_ st5
  have rV2 := HN.ref
  have Zr : n0 ≤ T5.heap.size := Nat.le_trans Z0 K5.1
  have G_objects := FX.keep K5 nho
  have G_wildcardTypes := FA.keep K5 nho
  have G_usersets := FB.keep K5 nho
  have G_E := E.keep K5
  obtain ⟨T6, h6, X6, e6, W6, st6⟩ := putF X5 hx hZ hown (host := "") (Or.inl (wq hw 118 rfl)) Via.refl rfl G_objects G_E (Or.inl (wq hw 119 rfl)) (wq hw 102 rfl) (ty := (.object "com/example/entitlement/entitlement/Tally")) (by decide) (own_gn rV2) (own_gf rV2) (g := (mkF m 66 #[vR ho, vR ko, .unset, .unset] [v2, (.ref ho)])) rfl rfl (hb hby d19_66)
  have N6 := Fr.snoc X6 N5 gho
  have Z6 : n0 ≤ h6.size := Nat.le_trans Zr (Nat.le_of_eq W6.size.symm)
  refine Go T6 (mkF m 69 #[vR ho, vR ko, .unset, .unset] []) ?_ st6
  have fx7 := G_objects.same W6
  have fx8 := G_wildcardTypes.other W6 (Or.inr (slot_ne (Or.inl (wq hw 123 rfl)) (Or.inl (wq hw 119 rfl)) (by decide) (t := (.object "com/example/entitlement/entitlement/Tally")) (t' := (.object "com/example/entitlement/entitlement/Tally")) (by decide) (by decide)))
  have fx9 := G_usersets.other W6 (Or.inr (slot_ne (Or.inl (wq hw 121 rfl)) (Or.inl (wq hw 119 rfl)) (by decide) (t := (.object "com/example/entitlement/entitlement/Tally")) (t' := (.object "com/example/entitlement/entitlement/Tally")) (by decide) (by decide)))
  have fx10 := G_E.wr W6
  have kw : Keep T5.heap h6 [ho] := (Keep.refl _ [ho]).wr W6 (Or.inl (List.mem_cons_self ..))
  have KG := KF.keep1 kw hod
  have HG := HN.keep kw (fun y hy => ninS (fun q => absurd lho (Nat.not_lt.mpr (q ▸ (HN.bd y hy).1))) nin0)
  have kf : Keep h0 h6 ([t, i, r, ho] ++ tl) := ((Keep.refl h0 ([t, i, r, ho] ++ tl)).trans K5 (fun y hy => Or.inl (by simp only [List.mem_append, List.mem_cons, List.not_mem_nil, or_false] at hy ⊢; rcases hy with (q | q | q) | q <;> simp [q]))).trans kw (allS (Or.inl (by simp)) all0)
  rw [hWd]
  exact Goes.retn X6 (v := none) (fun fs hr => X6.returnOut hx Bd.returns (hb hby d19_69) hr) (fun _ => rfl) Bd.notSynchronized (by decide) (by decide) (by rw [e6]; exact ⟨v2, tl2, rfl, N6, kf, KG, fx10, fx7, fx8, fx9, HG, SU⟩)
def QHE (Z : State) (ho : Addr) (v0 v1 v2 : Value) (h0 : Heap) (n0 : Nat) (v : Option Value) (h : Heap) (L : List Loc) : Prop := v = some (.int (own_emp v2 v1 v0)) ∧ Fr n0 L ∧ h = h0
set_option maxRecDepth 65536 in
set_option maxHeartbeats 40000000 in
theorem rmHE (l : Launch) (Z : State) (a0 : Array Value) (hw : ∀ d ∈ tables_1, d.before a0 Z = true) (ws : List Jvm.Cond) (ho : Addr) (v0 v1 v2 : Value) (h0 : Heap) (n0 : Nat) (Z0 : n0 ≤ h0.size) (F0 : Fld Z h0 ho "com/example/entitlement/entitlement/CountedHolders" "wildcardTypes" "Lcom/example/entitlement/entitlement/Tally;" v0) (F1 : Fld Z h0 ho "com/example/entitlement/entitlement/CountedHolders" "usersets" "Lcom/example/entitlement/entitlement/Tally;" v1) (F2 : Fld Z h0 ho "com/example/entitlement/entitlement/CountedHolders" "objects" "Lcom/example/entitlement/entitlement/Tally;" v2) (r0 : v0.isRef = true) (r1 : v1.isRef = true) (r2 : v2.isRef = true) :
    MetFree l mN30 (head1 (Jvm.Cond.code mN30 cD15 1 (some .boolean) :: ws) ({ frames := 0, cells := 0, slots := 0, locals := 0 } : Room)) (fun a_ U => a_ = #[(.ref ho)] ∧ Z.Warmed39 U.vm ∧ U.heap = h0) (fun _ _ _ _ _ => True) (fun _ U o U' => ∃ v L, o = .returned v ∧ QHE Z ho v0 v1 v2 h0 n0 v U'.heap L ∧ FrameEnd U o U' L ({ frames := 0, cells := 0, slots := 0, locals := 0 } : Room).cells ({ frames := 0, cells := 0, slots := 0, locals := 0 } : Room).slots) := by
  refine MetFree.of_bodySF (plainFor_of_name pn_7) hisR ?_
  intro p e s m args below meth c s₁ Bd hml0 hP hK
  obtain ⟨rfl, hZ, hh⟩ := hP
  have hx := Bd.exec
  have hby := Bd.bytes
  have hml : c.maxLocals = 1 := hml0
  have hown : s.vm.findClass "com/example/entitlement/entitlement/CountedHolders" = some m.cls := findClass_of_methodNamed Bd.named
  have hnm := (name_of_methodNamed Bd.named Bd.method).1
  have X0 : Stand p l e ({ frames := 0, cells := 0, slots := 0, locals := 0 } : Room) s m #[(.ref ho)] below meth c s₁ [] 0 0 := Stand.of_body Bd
  have e0 : s₁.heap = h0 := by rw [← hh, Bd.state]; rfl
  have N0 := Fr.nil n0
  refine Goes.done ?_
  obtain ⟨W, hWd⟩ : ∃ W : State → Prop, W = EndW s below (QHE Z ho v0 v1 v2 h0 n0) ({ frames := 0, cells := 0, slots := 0, locals := 0 } : Room).cells ({ frames := 0, cells := 0, slots := 0, locals := 0 } : Room).slots := ⟨_, rfl⟩
  rw [← hWd]
  have hef : entryFrame m #[(.ref ho)] 1 = (mkF m 0 #[vR ho] []) := by first | (simp [entryFrame, mkF, argsToLocals, Value.category]; done) | rfl
  rw [hef]
  refine Go s₁ (mkF m 1 #[vR ho] [(.ref ho)]) ?_ (fun t_ k_ => XS.aloadN X0.here hx rfl (hb hby d17_0) rfl rfl k_)
  obtain ⟨T1, X1, e1, st1⟩ := getF X0 hx hZ hown (host := "") (Or.inl (wq hw 118 rfl)) Via.refl e0 F2 (g := (mkF m 1 #[vR ho] [(.ref ho)])) rfl rfl (hb hby d17_1)
  refine Go T1 (mkF m 4 #[vR ho] [v2]) ?_ st1
  rcases ref_cases r2 with hq | ⟨q_, hq⟩
  · subst hq
    show Goes p e below W T1 (mkF m 4 #[vR ho] [.null])
    refine Go T1 (mkF m 7 #[vR ho] []) ?_ (fun t_ k_ => XS.ifnonnullNo X1.here hx rfl (hb hby d17_4) rfl k_)
    refine Go T1 (mkF m 8 #[vR ho] [(.ref ho)]) ?_ (fun t_ k_ => XS.aloadN X1.here hx rfl (hb hby d17_7) rfl rfl k_)
    obtain ⟨T2, X2, e2, st2⟩ := getF X1 hx hZ hown (host := "") (Or.inl (wq hw 120 rfl)) Via.refl e1 F1 (g := (mkF m 8 #[vR ho] [(.ref ho)])) rfl rfl (hb hby d17_8)
    refine Go T2 (mkF m 11 #[vR ho] [v1]) ?_ st2
    rcases ref_cases r1 with hq | ⟨q_, hq⟩
    · subst hq
      show Goes p e below W T2 (mkF m 11 #[vR ho] [.null])
      refine Go T2 (mkF m 14 #[vR ho] []) ?_ (fun t_ k_ => XS.ifnonnullNo X2.here hx rfl (hb hby d17_11) rfl k_)
      refine Go T2 (mkF m 15 #[vR ho] [(.ref ho)]) ?_ (fun t_ k_ => XS.aloadN X2.here hx rfl (hb hby d17_14) rfl rfl k_)
      obtain ⟨T3, X3, e3, st3⟩ := getF X2 hx hZ hown (host := "") (Or.inl (wq hw 122 rfl)) Via.refl e2 F0 (g := (mkF m 15 #[vR ho] [(.ref ho)])) rfl rfl (hb hby d17_15)
      refine Go T3 (mkF m 18 #[vR ho] [v0]) ?_ st3
      rcases ref_cases r0 with hq | ⟨q_, hq⟩
      · subst hq
        show Goes p e below W T3 (mkF m 18 #[vR ho] [.null])
        refine Go T3 (mkF m 21 #[vR ho] []) ?_ (fun t_ k_ => XS.ifnonnullNo X3.here hx rfl (hb hby d17_18) rfl k_)
        refine Go T3 (mkF m 22 #[vR ho] [(.int 1)]) ?_ (fun t_ k_ => XS.iconst X3.here hx rfl (hb hby d17_21) k_)
        refine Go T3 (mkF m 26 #[vR ho] [(.int 1)]) ?_ (fun t_ k_ => XS.goto X3.here hx rfl (pc0 := 22) (pc' := 26) rfl (hb hby d17_22) (by decide) (by decide) k_)
        rw [hWd]
        exact Goes.retn X3 (v := some (.int (nar .boolean (1 : Int32)))) (fun fs hr => retN X3 hx (t := .boolean) Bd.returns (by simp) (hb hby d17_26) hr) (fun h => by rw [Bd.returns] at h; cases h) Bd.notSynchronized (by decide) (by decide) (by rw [e3]; exact ⟨by first | (simp [own_emp]; done) | (simp [own_emp]; rfl) | rfl, N0, rfl⟩)
      · subst hq
        show Goes p e below W T3 (mkF m 18 #[vR ho] [(.ref q_)])
        refine Go T3 (mkF m 25 #[vR ho] []) ?_ (fun t_ k_ => XS.ifnonnullYes X3.here hx rfl (pc0 := 18) (pc' := 25) rfl (hb hby d17_18) rfl (by decide) (by decide) k_)
        refine Go T3 (mkF m 26 #[vR ho] [(.int 0)]) ?_ (fun t_ k_ => XS.iconst X3.here hx rfl (hb hby d17_25) k_)
        rw [hWd]
        exact Goes.retn X3 (v := some (.int (nar .boolean (0 : Int32)))) (fun fs hr => retN X3 hx (t := .boolean) Bd.returns (by simp) (hb hby d17_26) hr) (fun h => by rw [Bd.returns] at h; cases h) Bd.notSynchronized (by decide) (by decide) (by rw [e3]; exact ⟨by first | (simp [own_emp]; done) | (simp [own_emp]; rfl) | rfl, N0, rfl⟩)
    · subst hq
      show Goes p e below W T2 (mkF m 11 #[vR ho] [(.ref q_)])
      refine Go T2 (mkF m 25 #[vR ho] []) ?_ (fun t_ k_ => XS.ifnonnullYes X2.here hx rfl (pc0 := 11) (pc' := 25) rfl (hb hby d17_11) rfl (by decide) (by decide) k_)
      refine Go T2 (mkF m 26 #[vR ho] [(.int 0)]) ?_ (fun t_ k_ => XS.iconst X2.here hx rfl (hb hby d17_25) k_)
      rw [hWd]
      exact Goes.retn X2 (v := some (.int (nar .boolean (0 : Int32)))) (fun fs hr => retN X2 hx (t := .boolean) Bd.returns (by simp) (hb hby d17_26) hr) (fun h => by rw [Bd.returns] at h; cases h) Bd.notSynchronized (by decide) (by decide) (by rw [e2]; exact ⟨by first | (simp [own_emp]; done) | (simp [own_emp]; rfl) | rfl, N0, rfl⟩)
  · subst hq
    show Goes p e below W T1 (mkF m 4 #[vR ho] [(.ref q_)])
    refine Go T1 (mkF m 25 #[vR ho] []) ?_ (fun t_ k_ => XS.ifnonnullYes X1.here hx rfl (pc0 := 4) (pc' := 25) rfl (hb hby d17_4) rfl (by decide) (by decide) k_)
    refine Go T1 (mkF m 26 #[vR ho] [(.int 0)]) ?_ (fun t_ k_ => XS.iconst X1.here hx rfl (hb hby d17_25) k_)
    rw [hWd]
    exact Goes.retn X1 (v := some (.int (nar .boolean (0 : Int32)))) (fun fs hr => retN X1 hx (t := .boolean) Bd.returns (by simp) (hb hby d17_26) hr) (fun h => by rw [Bd.returns] at h; cases h) Bd.notSynchronized (by decide) (by decide) (by rw [e1]; exact ⟨by first | (simp [own_emp]; done) | (simp [own_emp]; rfl) | rfl, N0, rfl⟩)
def QHI (Z : State) (x : Addr) (h0 : Heap) (n0 : Nat) (v : Option Value) (h : Heap) (L : List Loc) : Prop := v = none ∧ Fr n0 L ∧ h = h0
set_option maxRecDepth 65536 in
set_option maxHeartbeats 40000000 in
theorem rmHI (l : Launch) (Z : State) (a0 : Array Value) (hw : ∀ d ∈ tables_1, d.before a0 Z = true) (ws : List Jvm.Cond) (x : Addr) (h0 : Heap) (n0 : Nat) (Z0 : n0 ≤ h0.size)  :
    MetFree l mN31 (head1 (Jvm.Cond.code mN31 cD14 1 none :: ws) ({ frames := 1, cells := 0, slots := 0, locals := 12 } : Room)) (fun a_ U => a_ = #[(.ref x)] ∧ Z.Warmed39 U.vm ∧ U.heap = h0) (fun _ _ _ _ _ => True) (fun _ U o U' => ∃ v L, o = .returned v ∧ QHI Z x h0 n0 v U'.heap L ∧ FrameEnd U o U' L ({ frames := 1, cells := 0, slots := 0, locals := 12 } : Room).cells ({ frames := 1, cells := 0, slots := 0, locals := 12 } : Room).slots) := by
  refine MetFree.of_bodySF (plainFor_of_name pn_8) hisR ?_
  intro p e s m args below meth c s₁ Bd hml0 hP hK
  obtain ⟨rfl, hZ, hh⟩ := hP
  have hx := Bd.exec
  have hby := Bd.bytes
  have hml : c.maxLocals = 1 := hml0
  have hown : s.vm.findClass "com/example/entitlement/entitlement/Holders" = some m.cls := findClass_of_methodNamed Bd.named
  have hnm := (name_of_methodNamed Bd.named Bd.method).1
  have X0 : Stand p l e ({ frames := 1, cells := 0, slots := 0, locals := 12 } : Room) s m #[(.ref x)] below meth c s₁ [] 0 0 := Stand.of_body Bd
  have e0 : s₁.heap = h0 := by rw [← hh, Bd.state]; rfl
  have N0 := Fr.nil n0
  refine Goes.done ?_
  obtain ⟨W, hWd⟩ : ∃ W : State → Prop, W = EndW s below (QHI Z x h0 n0) ({ frames := 1, cells := 0, slots := 0, locals := 12 } : Room).cells ({ frames := 1, cells := 0, slots := 0, locals := 12 } : Room).slots := ⟨_, rfl⟩
  rw [← hWd]
  have hef : entryFrame m #[(.ref x)] 1 = (mkF m 0 #[vR x] []) := by first | (simp [entryFrame, mkF, argsToLocals, Value.category]; done) | rfl
  rw [hef]
  refine Go s₁ (mkF m 1 #[vR x] [(.ref x)]) ?_ (fun t_ k_ => XS.aloadN X0.here hx rfl (hb hby d16_0) rfl rfl k_)
  obtain ⟨T1, X1, e1, st1⟩ := initO X0 hx hZ hown (wq hw 112 rfl) (wq hw 20 rfl) (wq hw 21 rfl) e0 (g := (mkF m 1 #[vR x] [(.ref x)])) rfl (by rw [hml]; rfl) rfl (hb hby d16_1) (by decide) (W := 0) (by show 2 * 0 + _ ≤ _; exact Nat.le_of_eq rfl) (by decide)
  refine Go T1 (mkF m 4 #[vR x] []) ?_ st1
  rw [hWd]
  exact Goes.retn X1 (v := none) (fun fs hr => X1.returnOut hx Bd.returns (hb hby d16_4) hr) (fun _ => rfl) Bd.notSynchronized (by decide) (by decide) (by rw [e1]; exact ⟨rfl, N0, rfl⟩)
def QCI (Z : State) (x : Addr) (h0 : Heap) (n0 : Nat) (v : Option Value) (h : Heap) (L : List Loc) : Prop := v = none ∧ Fr n0 L ∧ h = h0
set_option maxRecDepth 65536 in
set_option maxHeartbeats 40000000 in
theorem rmCI (l : Launch) (Z : State) (a0 : Array Value) (hw : ∀ d ∈ tables_1, d.before a0 Z = true) (ws : List Jvm.Cond) (x : Addr) (h0 : Heap) (n0 : Nat) (Z0 : n0 ≤ h0.size)  :
    MetFree l mN32 (head1 (Jvm.Cond.code mN32 cD13 1 none :: ws) ({ frames := 2, cells := 0, slots := 0, locals := 24 } : Room)) (fun a_ U => a_ = #[(.ref x)] ∧ Z.Warmed39 U.vm ∧ U.heap = h0) (fun _ _ _ _ _ => True) (fun _ U o U' => ∃ v L, o = .returned v ∧ QCI Z x h0 n0 v U'.heap L ∧ FrameEnd U o U' L ({ frames := 2, cells := 0, slots := 0, locals := 24 } : Room).cells ({ frames := 2, cells := 0, slots := 0, locals := 24 } : Room).slots) := by
  refine MetFree.of_bodySF (plainFor_of_name pn_7) hisR ?_
  intro p e s m args below meth c s₁ Bd hml0 hP hK
  obtain ⟨rfl, hZ, hh⟩ := hP
  have hx := Bd.exec
  have hby := Bd.bytes
  have hml : c.maxLocals = 1 := hml0
  have hown : s.vm.findClass "com/example/entitlement/entitlement/CountedHolders" = some m.cls := findClass_of_methodNamed Bd.named
  have hnm := (name_of_methodNamed Bd.named Bd.method).1
  have X0 : Stand p l e ({ frames := 2, cells := 0, slots := 0, locals := 24 } : Room) s m #[(.ref x)] below meth c s₁ [] 0 0 := Stand.of_body Bd
  have e0 : s₁.heap = h0 := by rw [← hh, Bd.state]; rfl
  have N0 := Fr.nil n0
  refine Goes.done ?_
  obtain ⟨W, hWd⟩ : ∃ W : State → Prop, W = EndW s below (QCI Z x h0 n0) ({ frames := 2, cells := 0, slots := 0, locals := 24 } : Room).cells ({ frames := 2, cells := 0, slots := 0, locals := 24 } : Room).slots := ⟨_, rfl⟩
  rw [← hWd]
  have hef : entryFrame m #[(.ref x)] 1 = (mkF m 0 #[vR x] []) := by first | (simp [entryFrame, mkF, argsToLocals, Value.category]; done) | rfl
  rw [hef]
  refine Go s₁ (mkF m 1 #[vR x] [(.ref x)]) ?_ (fun t_ k_ => XS.aloadN X0.here hx rfl (hb hby d15_0) rfl rfl k_)
  obtain ⟨_, _, ⟨T1, Lq_1, kq_1, nq_1⟩, -, X1, ⟨Lc1, hQ1, l1, y1, z1⟩, st1⟩ := X0.specialBack hx (y := mN31) rfl hown (mvT hZ (wq hw 107 rfl)) (mvT hZ (wq hw 108 rfl)) (mvT hZ (wq hw 111 rfl)) (by decide) (backOf (W := 0) (rmHI l Z a0 hw [] x h0 n0 Z0) hZ (wq hw 111 rfl) (wq hw 110 rfl) (by decide) (by decide)) (g := (mkF m 1 #[vR x] [(.ref x)])) rfl (by rw [hml]; rfl) (Steps.refl _) (a := x) (argsL := []) (rest := []) (lenOf pd_15 rfl) rfl (by show 2 * 0 + _ ≤ _; exact Nat.le_of_eq rfl) (hb hby d15_1) (fun _ _ => ⟨rfl, e0, (by decide : 0 + 0 ≤ _), (by decide : 0 + 0 ≤ _)⟩)
  dsimp only [Pt.U, Pt.locs, Pt.cells, Pt.slots] at X1 l1 y1 z1 st1 hQ1
  rw [l1, y1, z1] at X1
  change Stand p l e _ _ m _ below meth c T1 _ 0 0 at X1
  obtain ⟨rfl, N1q, eh1⟩ := hQ1
  have N1 := Fr.app N0 N1q
  refine Go T1 (mkF m 4 #[vR x] []) ?_ (fun t => st1.trans)
  rw [hWd]
  exact Goes.retn X1 (v := none) (fun fs hr => X1.returnOut hx Bd.returns (hb hby d15_4) hr) (fun _ => rfl) Bd.notSynchronized (by decide) (by decide) (by rw [eh1]; exact ⟨rfl, N1, rfl⟩)
def QSP (Z : State) (B : Nat) (t tt i ti r tr ku ko : Addr) (kt ki kr : ClassId) (ct ci cr w2 : Int32) (zc : Int32) (ho kA cA : Addr) (ka kc : ClassId) (m0 m1 m2 N : Nat) (op : Int32) (h0 : Heap) (n0 : Nat) (v : Option Value) (h : Heap) (L : List Loc) : Prop := v = some (.int 1) ∧ Fr n0 L ∧ Old Z n0 h ∧ h0.size ≤ h.size ∧ ∃ p0 p1 p2, p0 ≤ N + 1 ∧ p1 ≤ N + 1 ∧ p2 ≤ N + 1 ∧ HSt Z h B t tt i ti r tr ku ko kt ki kr ct ci cr w2 ho kA cA ka kc p0 p1 p2
set_option maxRecDepth 65536 in
set_option maxHeartbeats 40000000 in
theorem rmSP (l : Launch) (Z : State) (a0 : Array Value) (hw : ∀ d ∈ tables_1, d.before a0 Z = true) (ws : List Jvm.Cond) (B : Nat) (t tt i ti r tr ku ko : Addr) (kt ki kr : ClassId) (ct ci cr w2 : Int32) (zc : Int32) (ho kA cA : Addr) (ka kc : ClassId) (m0 m1 m2 N : Nat) (op : Int32) (h0 : Heap) (n0 : Nat) (Z0 : n0 ≤ h0.size) (HT : HSt Z h0 B t tt i ti r tr ku ko kt ki kr ct ci cr w2 ho kA cA ka kc m0 m1 m2) (SS : SD n0 B t tt i ti r tr ku ko ho kA cA) (KC : KD n0 B t tt i ti r tr ku ko ct ci cr) (gB : n0 ≤ B) (bB : B ≤ h0.size) (CS : Sta Z Z.heap "java/lang/String" "COMPACT_STRINGS" "Z" (.int zc)) (hzc : ¬ zc = (0 : Int32)) (X0_ : Old Z n0 h0) (qa0 : m0 ≤ N) (qa1 : m1 ≤ N) (qa2 : m2 ≤ N) (qa9 : N ≤ 7) :
    MetFree l mN33 (head1 (Jvm.Cond.code mN33 method_3_code 6 (some .boolean) :: ws) ({ frames := 8, cells := 4, slots := 13, locals := 117 } : Room)) (fun a_ U => a_ = #[(.ref ho), (.ref kA), (.ref cA), (.int op)] ∧ Z.Warmed39 U.vm ∧ U.heap = h0) (fun _ _ _ _ _ => True) (fun _ U o U' => ∃ v L, o = .returned v ∧ QSP Z B t tt i ti r tr ku ko kt ki kr ct ci cr w2 zc ho kA cA ka kc m0 m1 m2 N op h0 n0 v U'.heap L ∧ FrameEnd U o U' L ({ frames := 8, cells := 4, slots := 13, locals := 117 } : Room).cells ({ frames := 8, cells := 4, slots := 13, locals := 117 } : Room).slots) := by
  refine MetFree.of_bodySF (plainFor_of_name pn_9) hisR ?_
  intro p e s m args below meth c s₁ Bd hml0 hP hK
  obtain ⟨rfl, hZ, hh⟩ := hP
  have hx := Bd.exec
  have hby := Bd.bytes
  have hml : c.maxLocals = 6 := hml0
  have hown : s.vm.findClass "com/example/entitlement/entitlement/CountedHoldersIsEmptyPinLaw" = some m.cls := findClass_of_methodNamed Bd.named
  have hnm := (name_of_methodNamed Bd.named Bd.method).1
  have X0 : Stand p l e ({ frames := 8, cells := 4, slots := 13, locals := 117 } : Room) s m #[(.ref ho), (.ref kA), (.ref cA), (.int op)] below meth c s₁ [] 0 0 := Stand.of_body Bd
  have e0 : s₁.heap = h0 := by rw [← hh, Bd.state]; rfl
  have N0 := Fr.nil n0
  refine Goes.done ?_
  obtain ⟨W, hWd⟩ : ∃ W : State → Prop, W = EndW s below (QSP Z B t tt i ti r tr ku ko kt ki kr ct ci cr w2 zc ho kA cA ka kc m0 m1 m2 N op h0 n0) ({ frames := 8, cells := 4, slots := 13, locals := 117 } : Room).cells ({ frames := 8, cells := 4, slots := 13, locals := 117 } : Room).slots := ⟨_, rfl⟩
  rw [← hWd]
  have hef : entryFrame m #[(.ref ho), (.ref kA), (.ref cA), (.int op)] 6 = (mkF m 0 #[vR ho, vR kA, vR cA, vI op, .unset, .unset] []) := by first | (simp [entryFrame, mkF, argsToLocals, Value.category]; done) | rfl
  rw [hef]
  have K59 : ∀ (kd : Int32) (p0 p1 p2 : Nat) (T : State) (h : Heap) (locs : List Loc), Stand p l e ({ frames := 8, cells := 4, slots := 13, locals := 117 } : Room) s m #[(.ref ho), (.ref kA), (.ref cA), (.int op)] below meth c T locs 4 13 → T.heap = h → Fr n0 locs → Old Z n0 h → h0.size ≤ h.size → p0 ≤ N + 1 → p1 ≤ N + 1 → p2 ≤ N + 1 → HSt Z h B t tt i ti r tr ku ko kt ki kr ct ci cr w2 ho kA cA ka kc p0 p1 p2 → Goes p e below W T (mkF m 59 #[vR ho, vR kA, vR cA, vI op, vI kd, .unset] []) := by
    intro kd p0 p1 p2 T h locs X eT Nn xo hsz e0 e1 e2 HT2
    have Zh : n0 ≤ h.size := Nat.le_trans Z0 hsz
    obtain ⟨-, E, -, VC, v0, v1, v2, tq0, tq1, tq2, F0, F1, F2, G0, G1, G2, -, -, -⟩ := id HT2
    obtain ⟨cC, AC, qC, SC, MC, HC, GC⟩ := id VC
    refine Go T (mkF m 60 #[vR ho, vR kA, vR cA, vI op, vI kd, .unset] [(.ref cA)]) ?_ (fun t_ k_ => XS.aloadN X.here hx rfl (hb hby d18_59) rfl rfl k_)
    refine Go T (mkF m 61 #[vR ho, vR kA, vR cA, vI op, vI kd, .unset] [(.int 0), (.ref cA)]) ?_ (fun t_ k_ => XS.iconst X.here hx rfl (hb hby d18_60) k_)
    refine Go T (mkF m 62 #[vR ho, vR kA, vR cA, vI op, vI kd, .unset] [(.int (Int32.ofNat p0))]) ?_ (X.iaload hx (j := (0 : Int32)) (v := (.int (Int32.ofNat p0))) (by rw [eT]; exact AC.1) (State.isArrayOf_alike hZ.alike AC.2.1) AC.2.2 (inb_of SC ⟨by decide, by decide⟩) (by have q := HC 0 (by rw [SC]; decide); exact q) (g := (mkF m 61 #[vR ho, vR kA, vR cA, vI op, vI kd, .unset] [(.int 0), (.ref cA)])) rfl rfl (hb hby d18_61))
    refine Goes.ifN X hx rfl (pc0 := 62) (pc' := 81) rfl (hb hby d18_62) rfl (by decide) (by decide) (P := (Int32.ofNat p0) = (0 : Int32)) (ifc_ne _ _) (fun hc62 => ?_) (fun hc62 => ?_)
    · show Goes p e below W T (mkF m 81 #[vR ho, vR kA, vR cA, vI op, vI kd, .unset] [])
      refine Go T (mkF m 82 #[vR ho, vR kA, vR cA, vI op, vI kd, .unset] [(.int 0)]) ?_ (fun t_ k_ => XS.iconst X.here hx rfl (hb hby d18_81) k_)
      refine Go T (mkF m 84 #[vR ho, vR kA, vR cA, vI op, vI kd, vI 0] []) ?_ (fun t_ k_ => XS.istore X.here hx rfl (hb hby d18_82) rfl (l' := #[vR ho, vR kA, vR cA, vI op, vI kd, vI 0]) rfl k_)
      refine Go T (mkF m 85 #[vR ho, vR kA, vR cA, vI op, vI kd, vI 0] [(.ref ho)]) ?_ (fun t_ k_ => XS.aloadN X.here hx rfl (hb hby d18_84) rfl rfl k_)
      obtain ⟨cq1, kq1, q1a, q1b, q1c⟩ := isOf hZ eT E
      obtain ⟨_, _, ⟨T1, Lq_1, kq_1, nq_1⟩, -, X1, ⟨Lc1, hQ1, l1, y1, z1⟩, st1⟩ := X.virtualBack hx (y := mN30) (z := mN30) hown (mvT hZ (wq hw 113 rfl)) (mvT hZ (wq hw 114 rfl)) (notFace_of_selects (args := #[]) (mvT hZ (wq hw 116 rfl))) (mvT hZ (wq hw 116 rfl)) (mvT hZ (wq hw 115 rfl)) (by decide) (backOf (W := 0) (rmHE l Z a0 hw [] ho v0 v1 v2 h n0 Zh F0 F1 F2 G0.ref G1.ref G2.ref) hZ (wq hw 117 rfl) (wq hw 103 rfl) (by decide) (by decide)) q1a q1c (g := (mkF m 85 #[vR ho, vR kA, vR cA, vI op, vI kd, vI 0] [(.ref ho)])) rfl (by rw [hml]; rfl) (Steps.refl _) (argsL := []) (rest := []) (lenOf pd_4 rfl) rfl (by show 2 * 0 + _ ≤ _; exact Nat.le_of_eq rfl) (hb hby d18_85) (fun _ _ => ⟨rfl, eT, (by decide : 4 + 0 ≤ _), (by decide : 13 + 0 ≤ _)⟩)
      dsimp only [Pt.U, Pt.locs, Pt.cells, Pt.slots] at X1 l1 y1 z1 st1 hQ1
      rw [l1, y1, z1] at X1
      change Stand p l e _ _ m _ below meth c T1 _ 4 13 at X1
      obtain ⟨rfl, N1q, eh1⟩ := hQ1
      have N1 := Fr.app Nn N1q
      refine Go T1 (mkF m 88 #[vR ho, vR kA, vR cA, vI op, vI kd, vI 0] [(.int (own_emp v2 v1 v0))]) ?_ (fun t => st1.trans)
      refine Go T1 (mkF m 90 #[vR ho, vR kA, vR cA, vI op, vI kd, vI 0] [(.int 0), (.int (own_emp v2 v1 v0))]) ?_ (fun t_ k_ => XS.iload X1.here hx rfl (hb hby d18_88) rfl k_)
      refine Go T1 (mkF m 93 #[vR ho, vR kA, vR cA, vI op, vI kd, vI 0] []) ?_ (fun t_ k_ => XS.icmpNo X1.here hx rfl (hb hby d18_90) rfl (teq (show own_emp v2 v1 v0 = (0 : Int32) from by have y0 : ¬ (p0 = 0) := (by have q := hc62; rw [own_ge (by omega)] at q; exact q); simp only [own_emp, G0.nul, G1.nul, G2.nul, eq_false y0, if_true, if_false, ↓reduceIte]; try (split <;> (try split) <;> rfl))).2 k_)
      refine Go T1 (mkF m 94 #[vR ho, vR kA, vR cA, vI op, vI kd, vI 0] [(.int 1)]) ?_ (fun t_ k_ => XS.iconst X1.here hx rfl (hb hby d18_93) k_)
      refine Go T1 (mkF m 98 #[vR ho, vR kA, vR cA, vI op, vI kd, vI 0] [(.int 1)]) ?_ (fun t_ k_ => XS.goto X1.here hx rfl (pc0 := 94) (pc' := 98) rfl (hb hby d18_94) (by decide) (by decide) k_)
      rw [hWd]
      exact Goes.retn X1 (v := some (.int (nar .boolean (1 : Int32)))) (fun fs hr => retN X1 hx (t := .boolean) Bd.returns (by simp) (hb hby d18_98) hr) (fun h => by rw [Bd.returns] at h; cases h) Bd.notSynchronized (by decide) (by decide) (by rw [eh1]; exact ⟨rfl, N1, xo, hsz, p0, p1, p2, e0, e1, e2, HT2⟩)
    · show Goes p e below W T (mkF m 65 #[vR ho, vR kA, vR cA, vI op, vI kd, .unset] [])
      refine Go T (mkF m 66 #[vR ho, vR kA, vR cA, vI op, vI kd, .unset] [(.ref cA)]) ?_ (fun t_ k_ => XS.aloadN X.here hx rfl (hb hby d18_65) rfl rfl k_)
      refine Go T (mkF m 67 #[vR ho, vR kA, vR cA, vI op, vI kd, .unset] [(.int 1), (.ref cA)]) ?_ (fun t_ k_ => XS.iconst X.here hx rfl (hb hby d18_66) k_)
      refine Go T (mkF m 68 #[vR ho, vR kA, vR cA, vI op, vI kd, .unset] [(.int (Int32.ofNat p1))]) ?_ (X.iaload hx (j := (1 : Int32)) (v := (.int (Int32.ofNat p1))) (by rw [eT]; exact AC.1) (State.isArrayOf_alike hZ.alike AC.2.1) AC.2.2 (inb_of SC ⟨by decide, by decide⟩) (by have q := HC 1 (by rw [SC]; decide); exact q) (g := (mkF m 67 #[vR ho, vR kA, vR cA, vI op, vI kd, .unset] [(.int 1), (.ref cA)])) rfl rfl (hb hby d18_67))
      refine Goes.ifN X hx rfl (pc0 := 68) (pc' := 81) rfl (hb hby d18_68) rfl (by decide) (by decide) (P := (Int32.ofNat p1) = (0 : Int32)) (ifc_ne _ _) (fun hc68 => ?_) (fun hc68 => ?_)
      · show Goes p e below W T (mkF m 81 #[vR ho, vR kA, vR cA, vI op, vI kd, .unset] [])
        refine Go T (mkF m 82 #[vR ho, vR kA, vR cA, vI op, vI kd, .unset] [(.int 0)]) ?_ (fun t_ k_ => XS.iconst X.here hx rfl (hb hby d18_81) k_)
        refine Go T (mkF m 84 #[vR ho, vR kA, vR cA, vI op, vI kd, vI 0] []) ?_ (fun t_ k_ => XS.istore X.here hx rfl (hb hby d18_82) rfl (l' := #[vR ho, vR kA, vR cA, vI op, vI kd, vI 0]) rfl k_)
        refine Go T (mkF m 85 #[vR ho, vR kA, vR cA, vI op, vI kd, vI 0] [(.ref ho)]) ?_ (fun t_ k_ => XS.aloadN X.here hx rfl (hb hby d18_84) rfl rfl k_)
        obtain ⟨cq2, kq2, q2a, q2b, q2c⟩ := isOf hZ eT E
        obtain ⟨_, _, ⟨T2, Lq_2, kq_2, nq_2⟩, -, X2, ⟨Lc2, hQ2, l2, y2, z2⟩, st2⟩ := X.virtualBack hx (y := mN30) (z := mN30) hown (mvT hZ (wq hw 113 rfl)) (mvT hZ (wq hw 114 rfl)) (notFace_of_selects (args := #[]) (mvT hZ (wq hw 116 rfl))) (mvT hZ (wq hw 116 rfl)) (mvT hZ (wq hw 115 rfl)) (by decide) (backOf (W := 0) (rmHE l Z a0 hw [] ho v0 v1 v2 h n0 Zh F0 F1 F2 G0.ref G1.ref G2.ref) hZ (wq hw 117 rfl) (wq hw 103 rfl) (by decide) (by decide)) q2a q2c (g := (mkF m 85 #[vR ho, vR kA, vR cA, vI op, vI kd, vI 0] [(.ref ho)])) rfl (by rw [hml]; rfl) (Steps.refl _) (argsL := []) (rest := []) (lenOf pd_4 rfl) rfl (by show 2 * 0 + _ ≤ _; exact Nat.le_of_eq rfl) (hb hby d18_85) (fun _ _ => ⟨rfl, eT, (by decide : 4 + 0 ≤ _), (by decide : 13 + 0 ≤ _)⟩)
        dsimp only [Pt.U, Pt.locs, Pt.cells, Pt.slots] at X2 l2 y2 z2 st2 hQ2
        rw [l2, y2, z2] at X2
        change Stand p l e _ _ m _ below meth c T2 _ 4 13 at X2
        obtain ⟨rfl, N2q, eh2⟩ := hQ2
        have N2 := Fr.app Nn N2q
        refine Go T2 (mkF m 88 #[vR ho, vR kA, vR cA, vI op, vI kd, vI 0] [(.int (own_emp v2 v1 v0))]) ?_ (fun t => st2.trans)
        refine Go T2 (mkF m 90 #[vR ho, vR kA, vR cA, vI op, vI kd, vI 0] [(.int 0), (.int (own_emp v2 v1 v0))]) ?_ (fun t_ k_ => XS.iload X2.here hx rfl (hb hby d18_88) rfl k_)
        refine Go T2 (mkF m 93 #[vR ho, vR kA, vR cA, vI op, vI kd, vI 0] []) ?_ (fun t_ k_ => XS.icmpNo X2.here hx rfl (hb hby d18_90) rfl (teq (show own_emp v2 v1 v0 = (0 : Int32) from by have y0 : (p0 = 0) := (by have q := hc62; rw [own_ge (by omega)] at q; exact q); have y1 : ¬ (p1 = 0) := (by have q := hc68; rw [own_ge (by omega)] at q; exact q); simp only [own_emp, G0.nul, G1.nul, G2.nul, eq_true y0, eq_false y1, if_true, if_false, ↓reduceIte]; try (split <;> (try split) <;> rfl))).2 k_)
        refine Go T2 (mkF m 94 #[vR ho, vR kA, vR cA, vI op, vI kd, vI 0] [(.int 1)]) ?_ (fun t_ k_ => XS.iconst X2.here hx rfl (hb hby d18_93) k_)
        refine Go T2 (mkF m 98 #[vR ho, vR kA, vR cA, vI op, vI kd, vI 0] [(.int 1)]) ?_ (fun t_ k_ => XS.goto X2.here hx rfl (pc0 := 94) (pc' := 98) rfl (hb hby d18_94) (by decide) (by decide) k_)
        rw [hWd]
        exact Goes.retn X2 (v := some (.int (nar .boolean (1 : Int32)))) (fun fs hr => retN X2 hx (t := .boolean) Bd.returns (by simp) (hb hby d18_98) hr) (fun h => by rw [Bd.returns] at h; cases h) Bd.notSynchronized (by decide) (by decide) (by rw [eh2]; exact ⟨rfl, N2, xo, hsz, p0, p1, p2, e0, e1, e2, HT2⟩)
      · show Goes p e below W T (mkF m 71 #[vR ho, vR kA, vR cA, vI op, vI kd, .unset] [])
        refine Go T (mkF m 72 #[vR ho, vR kA, vR cA, vI op, vI kd, .unset] [(.ref cA)]) ?_ (fun t_ k_ => XS.aloadN X.here hx rfl (hb hby d18_71) rfl rfl k_)
        refine Go T (mkF m 73 #[vR ho, vR kA, vR cA, vI op, vI kd, .unset] [(.int 2), (.ref cA)]) ?_ (fun t_ k_ => XS.iconst X.here hx rfl (hb hby d18_72) k_)
        refine Go T (mkF m 74 #[vR ho, vR kA, vR cA, vI op, vI kd, .unset] [(.int (Int32.ofNat p2))]) ?_ (X.iaload hx (j := (2 : Int32)) (v := (.int (Int32.ofNat p2))) (by rw [eT]; exact AC.1) (State.isArrayOf_alike hZ.alike AC.2.1) AC.2.2 (inb_of SC ⟨by decide, by decide⟩) (by have q := HC 2 (by rw [SC]; decide); exact q) (g := (mkF m 73 #[vR ho, vR kA, vR cA, vI op, vI kd, .unset] [(.int 2), (.ref cA)])) rfl rfl (hb hby d18_73))
        refine Goes.ifN X hx rfl (pc0 := 74) (pc' := 81) rfl (hb hby d18_74) rfl (by decide) (by decide) (P := (Int32.ofNat p2) = (0 : Int32)) (ifc_ne _ _) (fun hc74 => ?_) (fun hc74 => ?_)
        · show Goes p e below W T (mkF m 81 #[vR ho, vR kA, vR cA, vI op, vI kd, .unset] [])
          refine Go T (mkF m 82 #[vR ho, vR kA, vR cA, vI op, vI kd, .unset] [(.int 0)]) ?_ (fun t_ k_ => XS.iconst X.here hx rfl (hb hby d18_81) k_)
          refine Go T (mkF m 84 #[vR ho, vR kA, vR cA, vI op, vI kd, vI 0] []) ?_ (fun t_ k_ => XS.istore X.here hx rfl (hb hby d18_82) rfl (l' := #[vR ho, vR kA, vR cA, vI op, vI kd, vI 0]) rfl k_)
          refine Go T (mkF m 85 #[vR ho, vR kA, vR cA, vI op, vI kd, vI 0] [(.ref ho)]) ?_ (fun t_ k_ => XS.aloadN X.here hx rfl (hb hby d18_84) rfl rfl k_)
          obtain ⟨cq3, kq3, q3a, q3b, q3c⟩ := isOf hZ eT E
          obtain ⟨_, _, ⟨T3, Lq_3, kq_3, nq_3⟩, -, X3, ⟨Lc3, hQ3, l3, y3, z3⟩, st3⟩ := X.virtualBack hx (y := mN30) (z := mN30) hown (mvT hZ (wq hw 113 rfl)) (mvT hZ (wq hw 114 rfl)) (notFace_of_selects (args := #[]) (mvT hZ (wq hw 116 rfl))) (mvT hZ (wq hw 116 rfl)) (mvT hZ (wq hw 115 rfl)) (by decide) (backOf (W := 0) (rmHE l Z a0 hw [] ho v0 v1 v2 h n0 Zh F0 F1 F2 G0.ref G1.ref G2.ref) hZ (wq hw 117 rfl) (wq hw 103 rfl) (by decide) (by decide)) q3a q3c (g := (mkF m 85 #[vR ho, vR kA, vR cA, vI op, vI kd, vI 0] [(.ref ho)])) rfl (by rw [hml]; rfl) (Steps.refl _) (argsL := []) (rest := []) (lenOf pd_4 rfl) rfl (by show 2 * 0 + _ ≤ _; exact Nat.le_of_eq rfl) (hb hby d18_85) (fun _ _ => ⟨rfl, eT, (by decide : 4 + 0 ≤ _), (by decide : 13 + 0 ≤ _)⟩)
          dsimp only [Pt.U, Pt.locs, Pt.cells, Pt.slots] at X3 l3 y3 z3 st3 hQ3
          rw [l3, y3, z3] at X3
          change Stand p l e _ _ m _ below meth c T3 _ 4 13 at X3
          obtain ⟨rfl, N3q, eh3⟩ := hQ3
          have N3 := Fr.app Nn N3q
          refine Go T3 (mkF m 88 #[vR ho, vR kA, vR cA, vI op, vI kd, vI 0] [(.int (own_emp v2 v1 v0))]) ?_ (fun t => st3.trans)
          refine Go T3 (mkF m 90 #[vR ho, vR kA, vR cA, vI op, vI kd, vI 0] [(.int 0), (.int (own_emp v2 v1 v0))]) ?_ (fun t_ k_ => XS.iload X3.here hx rfl (hb hby d18_88) rfl k_)
          refine Go T3 (mkF m 93 #[vR ho, vR kA, vR cA, vI op, vI kd, vI 0] []) ?_ (fun t_ k_ => XS.icmpNo X3.here hx rfl (hb hby d18_90) rfl (teq (show own_emp v2 v1 v0 = (0 : Int32) from by have y0 : (p0 = 0) := (by have q := hc62; rw [own_ge (by omega)] at q; exact q); have y1 : (p1 = 0) := (by have q := hc68; rw [own_ge (by omega)] at q; exact q); have y2 : ¬ (p2 = 0) := (by have q := hc74; rw [own_ge (by omega)] at q; exact q); simp only [own_emp, G0.nul, G1.nul, G2.nul, eq_true y0, eq_true y1, eq_false y2, if_true, if_false, ↓reduceIte]; try (split <;> (try split) <;> rfl))).2 k_)
          refine Go T3 (mkF m 94 #[vR ho, vR kA, vR cA, vI op, vI kd, vI 0] [(.int 1)]) ?_ (fun t_ k_ => XS.iconst X3.here hx rfl (hb hby d18_93) k_)
          refine Go T3 (mkF m 98 #[vR ho, vR kA, vR cA, vI op, vI kd, vI 0] [(.int 1)]) ?_ (fun t_ k_ => XS.goto X3.here hx rfl (pc0 := 94) (pc' := 98) rfl (hb hby d18_94) (by decide) (by decide) k_)
          rw [hWd]
          exact Goes.retn X3 (v := some (.int (nar .boolean (1 : Int32)))) (fun fs hr => retN X3 hx (t := .boolean) Bd.returns (by simp) (hb hby d18_98) hr) (fun h => by rw [Bd.returns] at h; cases h) Bd.notSynchronized (by decide) (by decide) (by rw [eh3]; exact ⟨rfl, N3, xo, hsz, p0, p1, p2, e0, e1, e2, HT2⟩)
        · show Goes p e below W T (mkF m 77 #[vR ho, vR kA, vR cA, vI op, vI kd, .unset] [])
          refine Go T (mkF m 78 #[vR ho, vR kA, vR cA, vI op, vI kd, .unset] [(.int 1)]) ?_ (fun t_ k_ => XS.iconst X.here hx rfl (hb hby d18_77) k_)
          refine Go T (mkF m 82 #[vR ho, vR kA, vR cA, vI op, vI kd, .unset] [(.int 1)]) ?_ (fun t_ k_ => XS.goto X.here hx rfl (pc0 := 78) (pc' := 82) rfl (hb hby d18_78) (by decide) (by decide) k_)
          refine Go T (mkF m 84 #[vR ho, vR kA, vR cA, vI op, vI kd, vI 1] []) ?_ (fun t_ k_ => XS.istore X.here hx rfl (hb hby d18_82) rfl (l' := #[vR ho, vR kA, vR cA, vI op, vI kd, vI 1]) rfl k_)
          refine Go T (mkF m 85 #[vR ho, vR kA, vR cA, vI op, vI kd, vI 1] [(.ref ho)]) ?_ (fun t_ k_ => XS.aloadN X.here hx rfl (hb hby d18_84) rfl rfl k_)
          obtain ⟨cq4, kq4, q4a, q4b, q4c⟩ := isOf hZ eT E
          obtain ⟨_, _, ⟨T4, Lq_4, kq_4, nq_4⟩, -, X4, ⟨Lc4, hQ4, l4, y4, z4⟩, st4⟩ := X.virtualBack hx (y := mN30) (z := mN30) hown (mvT hZ (wq hw 113 rfl)) (mvT hZ (wq hw 114 rfl)) (notFace_of_selects (args := #[]) (mvT hZ (wq hw 116 rfl))) (mvT hZ (wq hw 116 rfl)) (mvT hZ (wq hw 115 rfl)) (by decide) (backOf (W := 0) (rmHE l Z a0 hw [] ho v0 v1 v2 h n0 Zh F0 F1 F2 G0.ref G1.ref G2.ref) hZ (wq hw 117 rfl) (wq hw 103 rfl) (by decide) (by decide)) q4a q4c (g := (mkF m 85 #[vR ho, vR kA, vR cA, vI op, vI kd, vI 1] [(.ref ho)])) rfl (by rw [hml]; rfl) (Steps.refl _) (argsL := []) (rest := []) (lenOf pd_4 rfl) rfl (by show 2 * 0 + _ ≤ _; exact Nat.le_of_eq rfl) (hb hby d18_85) (fun _ _ => ⟨rfl, eT, (by decide : 4 + 0 ≤ _), (by decide : 13 + 0 ≤ _)⟩)
          dsimp only [Pt.U, Pt.locs, Pt.cells, Pt.slots] at X4 l4 y4 z4 st4 hQ4
          rw [l4, y4, z4] at X4
          change Stand p l e _ _ m _ below meth c T4 _ 4 13 at X4
          obtain ⟨rfl, N4q, eh4⟩ := hQ4
          have N4 := Fr.app Nn N4q
          refine Go T4 (mkF m 88 #[vR ho, vR kA, vR cA, vI op, vI kd, vI 1] [(.int (own_emp v2 v1 v0))]) ?_ (fun t => st4.trans)
          refine Go T4 (mkF m 90 #[vR ho, vR kA, vR cA, vI op, vI kd, vI 1] [(.int 1), (.int (own_emp v2 v1 v0))]) ?_ (fun t_ k_ => XS.iload X4.here hx rfl (hb hby d18_88) rfl k_)
          refine Go T4 (mkF m 93 #[vR ho, vR kA, vR cA, vI op, vI kd, vI 1] []) ?_ (fun t_ k_ => XS.icmpNo X4.here hx rfl (hb hby d18_90) rfl (teq (show own_emp v2 v1 v0 = (1 : Int32) from by have y0 : (p0 = 0) := (by have q := hc62; rw [own_ge (by omega)] at q; exact q); have y1 : (p1 = 0) := (by have q := hc68; rw [own_ge (by omega)] at q; exact q); have y2 : (p2 = 0) := (by have q := hc74; rw [own_ge (by omega)] at q; exact q); simp only [own_emp, G0.nul, G1.nul, G2.nul, eq_true y0, eq_true y1, eq_true y2, if_true, if_false, ↓reduceIte])).2 k_)
          refine Go T4 (mkF m 94 #[vR ho, vR kA, vR cA, vI op, vI kd, vI 1] [(.int 1)]) ?_ (fun t_ k_ => XS.iconst X4.here hx rfl (hb hby d18_93) k_)
          refine Go T4 (mkF m 98 #[vR ho, vR kA, vR cA, vI op, vI kd, vI 1] [(.int 1)]) ?_ (fun t_ k_ => XS.goto X4.here hx rfl (pc0 := 94) (pc' := 98) rfl (hb hby d18_94) (by decide) (by decide) k_)
          rw [hWd]
          exact Goes.retn X4 (v := some (.int (nar .boolean (1 : Int32)))) (fun fs hr => retN X4 hx (t := .boolean) Bd.returns (by simp) (hb hby d18_98) hr) (fun h => by rw [Bd.returns] at h; cases h) Bd.notSynchronized (by decide) (by decide) (by rw [eh4]; exact ⟨rfl, N4, xo, hsz, p0, p1, p2, e0, e1, e2, HT2⟩)
  obtain ⟨KY, E, VA, VC, v0, v1, v2, tq0, tq1, tq2, F0, F1, F2, G0, G1, G2, D01, D02, D12⟩ := id HT
  obtain ⟨cA_, AA, qA, SA, MA, HA, GA⟩ := id VA
  refine Go s₁ (mkF m 1 #[vR ho, vR kA, vR cA, vI op, .unset, .unset] [(.int op)]) ?_ (fun t_ k_ => XS.iloadN X0.here hx rfl (hb hby d18_0) rfl k_)
  refine Go s₁ (mkF m 2 #[vR ho, vR kA, vR cA, vI op, .unset, .unset] [(.int 3), (.int op)]) ?_ (fun t_ k_ => XS.iconst X0.here hx rfl (hb hby d18_1) k_)
  refine Go s₁ (mkF m 3 #[vR ho, vR kA, vR cA, vI op, .unset, .unset] [(.int (op &&& (3 : Int32)))]) ?_ (fun t_ k_ => XS.iand X0.here hx rfl (hb hby d18_2) rfl k_)
  refine Go s₁ (mkF m 4 #[vR ho, vR kA, vR cA, vI op, .unset, .unset] [(.int 3), (.int (op &&& (3 : Int32)))]) ?_ (fun t_ k_ => XS.iconst X0.here hx rfl (hb hby d18_3) k_)
  refine Go s₁ (mkF m 5 #[vR ho, vR kA, vR cA, vI op, .unset, .unset] [(.int ((op &&& (3 : Int32)) % (3 : Int32)))]) ?_ (fun t_ k_ => iremM X0 hx rfl (hb hby d18_4) rfl (by decide) k_)
  rcases own_kind op with hk | hk | hk
  · rw [hk]
    refine Go s₁ (mkF m 7 #[vR ho, vR kA, vR cA, vI op, vI 0, .unset] []) ?_ (fun t_ k_ => XS.istore X0.here hx rfl (hb hby d18_5) rfl (l' := #[vR ho, vR kA, vR cA, vI op, vI 0, .unset]) rfl k_)
    refine Go s₁ (mkF m 8 #[vR ho, vR kA, vR cA, vI op, vI 0, .unset] [(.int op)]) ?_ (fun t_ k_ => XS.iloadN X0.here hx rfl (hb hby d18_7) rfl k_)
    refine Go s₁ (mkF m 9 #[vR ho, vR kA, vR cA, vI op, vI 0, .unset] [(.int 4), (.int op)]) ?_ (fun t_ k_ => XS.iconst X0.here hx rfl (hb hby d18_8) k_)
    refine Go s₁ (mkF m 10 #[vR ho, vR kA, vR cA, vI op, vI 0, .unset] [(.int (op &&& (4 : Int32)))]) ?_ (fun t_ k_ => XS.iand X0.here hx rfl (hb hby d18_9) rfl k_)
    refine Goes.ifP X0 hx rfl (pc0 := 10) (pc' := 34) rfl (hb hby d18_10) rfl (by decide) (by decide) (P := (op &&& (4 : Int32)) = (0 : Int32)) (ifc_eq _ _) (fun hc10 => ?_) (fun hc10 => ?_)
    · show Goes p e below W s₁ (mkF m 34 #[vR ho, vR kA, vR cA, vI op, vI 0, .unset] [])
      refine Go s₁ (mkF m 35 #[vR ho, vR kA, vR cA, vI op, vI 0, .unset] [(.ref ho)]) ?_ (fun t_ k_ => XS.aloadN X0.here hx rfl (hb hby d18_34) rfl rfl k_)
      refine Go s₁ (mkF m 36 #[vR ho, vR kA, vR cA, vI op, vI 0, .unset] [(.ref kA), (.ref ho)]) ?_ (fun t_ k_ => XS.aloadN X0.here hx rfl (hb hby d18_35) rfl rfl k_)
      refine Go s₁ (mkF m 38 #[vR ho, vR kA, vR cA, vI op, vI 0, .unset] [(.int 0), (.ref kA), (.ref ho)]) ?_ (fun t_ k_ => XS.iload X0.here hx rfl (hb hby d18_36) rfl k_)
      refine Go s₁ (mkF m 39 #[vR ho, vR kA, vR cA, vI op, vI 0, .unset] [(.ref t), (.ref ho)]) ?_ (X0.aaload hx (j := (0 : Int32)) (v := (.ref t)) (by rw [e0]; exact AA.1) (State.isArrayOf_alike hZ.alike AA.2.1) rfl AA.2.2 (inb_of SA ⟨by decide, by decide⟩) (by have q := HA 0 (by rw [SA]; decide); exact q) (g := (mkF m 38 #[vR ho, vR kA, vR cA, vI op, vI 0, .unset] [(.int 0), (.ref kA), (.ref ho)])) rfl rfl (hb hby d18_38))
      obtain ⟨cq5, kq5, q5a, q5b, q5c⟩ := isOf hZ e0 E
      obtain ⟨_, _, ⟨T5, Lq_5, kq_5, nq_5⟩, -, X5, ⟨Lc5, hQ5, l5, y5, z5⟩, st5⟩ := X0.virtualBack hx (y := mN29) (z := mN29) hown (mvT hZ (wq hw 128 rfl)) (mvT hZ (wq hw 129 rfl)) (notFace_of_selects (args := #[]) (mvT hZ (wq hw 131 rfl))) (mvT hZ (wq hw 131 rfl)) (mvT hZ (wq hw 130 rfl)) (by decide) (backOf (W := 0) (rmXS l Z a0 hw [] B t tt i ti r tr ku ko kt ki kr ct ci cr w2 zc ho v0 v1 v2 m0 tq0 h0 n0 Z0 KY KC gB bB CS hzc X0_ E F0 F1 F2 G0 (by omega) SS.g1 SS.b1 SS.a1) hZ (wq hw 132 rfl) (wq hw 103 rfl) (by decide) (by decide)) q5a q5c (g := (mkF m 39 #[vR ho, vR kA, vR cA, vI op, vI 0, .unset] [(.ref t), (.ref ho)])) rfl (by rw [hml]; rfl) (Steps.refl _) (argsL := [(.ref t)]) (rest := []) (lenOf pd_16 rfl) rfl (by show 2 * 0 + _ ≤ _; exact Nat.le_of_eq rfl) (hb hby d18_39) (fun _ _ => ⟨rfl, e0, (by decide : 0 + 0 ≤ _), (by decide : 0 + 0 ≤ _)⟩)
      dsimp only [Pt.U, Pt.locs, Pt.cells, Pt.slots] at X5 l5 y5 z5 st5 hQ5
      rw [l5, y5, z5] at X5
      change Stand p l e _ _ m _ below meth c T5 _ 0 0 at X5
      obtain ⟨vn, tn, rfl, N5q, K5, KYn, En, Fn0, Fn1, Fn2, Gn0, SU⟩ := hQ5
      have N5 := Fr.app N0 N5q
      refine Go T5 (mkF m 42 #[vR ho, vR kA, vR cA, vI op, vI 0, .unset] []) ?_ (fun t => st5.trans)
      have Zr : n0 ≤ T5.heap.size := Nat.le_trans Z0 K5.1
      have gT : ∀ y ∈ tq0, n0 ≤ y := fun y hy => Nat.le_trans gB (G0.bd y hy).1
      have xr : Old Z n0 T5.heap := X0_.keep K5 (fun y hy => (List.mem_append.mp hy).elim (own_sfC (P := fun y => n0 ≤ y) KC.g1 (own_sfC KC.g2 (own_sfC KC.g3 (own_sfC SS.g1 (fun y hy => absurd hy List.not_mem_nil)))) y) (gT y))
      have nA : kA ∉ [t, i, r, ho] ++ tq0 := own_ninA (own_nin4 (own_sub3 SS.a2) SS.c1) (fun q => absurd SS.b2 (Nat.not_lt.mpr (G0.bd kA q).1))
      have nC : cA ∉ [t, i, r, ho] ++ tq0 := own_ninA (own_nin4 (own_sub3 SS.a3) SS.c2) (fun q => absurd SS.b3 (Nat.not_lt.mpr (G0.bd cA q).1))
      have VAn := VA.keep K5 nA
      have VCn := VC.keep K5 nC
      obtain ⟨cC, AC, qC, SC, MC, HC, GC⟩ := id VCn
      have Gn1 := own_hfk G1 K5 KC.lt SS.b1 (Dis.symm D01)
      have Gn2 := own_hfk G2 K5 KC.lt SS.b1 (Dis.symm D02)
      have Dn1 : Dis tn tq1 := Dis.grow D01 SU (fun y hy => (G1.bd y hy).2)
      have Dn2 : Dis tn tq2 := Dis.grow D02 SU (fun y hy => (G2.bd y hy).2)
      refine Go T5 (mkF m 43 #[vR ho, vR kA, vR cA, vI op, vI 0, .unset] [(.ref cA)]) ?_ (fun t_ k_ => XS.aloadN X5.here hx rfl (hb hby d18_42) rfl rfl k_)
      refine Go T5 (mkF m 45 #[vR ho, vR kA, vR cA, vI op, vI 0, .unset] [(.int 0), (.ref cA)]) ?_ (fun t_ k_ => XS.iload X5.here hx rfl (hb hby d18_43) rfl k_)
      refine Go T5 (mkF m 46 #[vR ho, vR kA, vR cA, vI op, vI 0, .unset] [(.int (Int32.ofNat m0))]) ?_ (X5.iaload hx (j := (0 : Int32)) (v := (.int (Int32.ofNat m0))) AC.1 (State.isArrayOf_alike hZ.alike AC.2.1) AC.2.2 (inb_of SC ⟨by decide, by decide⟩) (by have q := HC 0 (by rw [SC]; decide); exact q) (g := (mkF m 45 #[vR ho, vR kA, vR cA, vI op, vI 0, .unset] [(.int 0), (.ref cA)])) rfl rfl (hb hby d18_45))
      refine Goes.ifN X5 hx rfl (pc0 := 46) (pc' := 59) rfl (hb hby d18_46) rfl (by decide) (by decide) (P := (0 : Int32) < (Int32.ofNat m0)) (ifc_le _ _) (fun hc46 => ?_) (fun hc46 => ?_)
      · show Goes p e below W T5 (mkF m 59 #[vR ho, vR kA, vR cA, vI op, vI 0, .unset] [])
        have z0 : m0 = 0 := by have r := hc46; rw [own_pos (by omega)] at r; omega
        have zz : m0 - 1 = m0 := by omega
        rw [zz] at Gn0
        exact K59 _ m0 m1 m2 _ _ _ (X5.mono (by decide) (by decide)) rfl N5 xr (K5.1) (by omega) (by omega) (by omega) ⟨KYn, En, VAn, VCn, vn, v1, v2, tn, tq1, tq2, Fn0, Fn1, Fn2, Gn0, Gn1, Gn2, Dn1, Dn2, D12⟩
      · show Goes p e below W T5 (mkF m 49 #[vR ho, vR kA, vR cA, vI op, vI 0, .unset] [])
        refine Go T5 (mkF m 50 #[vR ho, vR kA, vR cA, vI op, vI 0, .unset] [(.ref cA)]) ?_ (fun t_ k_ => XS.aloadN X5.here hx rfl (hb hby d18_49) rfl rfl k_)
        refine Go T5 (mkF m 52 #[vR ho, vR kA, vR cA, vI op, vI 0, .unset] [(.int 0), (.ref cA)]) ?_ (fun t_ k_ => XS.iload X5.here hx rfl (hb hby d18_50) rfl k_)
        refine Go T5 (mkF m 53 #[vR ho, vR kA, vR cA, vI op, vI 0, .unset] [(.ref cA), (.int 0), (.ref cA)]) ?_ (fun t_ k_ => XS.aloadN X5.here hx rfl (hb hby d18_52) rfl rfl k_)
        refine Go T5 (mkF m 55 #[vR ho, vR kA, vR cA, vI op, vI 0, .unset] [(.int 0), (.ref cA), (.int 0), (.ref cA)]) ?_ (fun t_ k_ => XS.iload X5.here hx rfl (hb hby d18_53) rfl k_)
        refine Go T5 (mkF m 56 #[vR ho, vR kA, vR cA, vI op, vI 0, .unset] [(.int (Int32.ofNat m0)), (.int 0), (.ref cA)]) ?_ (X5.iaload hx (j := (0 : Int32)) (v := (.int (Int32.ofNat m0))) AC.1 (State.isArrayOf_alike hZ.alike AC.2.1) AC.2.2 (inb_of SC ⟨by decide, by decide⟩) (by have q := HC 0 (by rw [SC]; decide); exact q) (g := (mkF m 55 #[vR ho, vR kA, vR cA, vI op, vI 0, .unset] [(.int 0), (.ref cA), (.int 0), (.ref cA)])) rfl rfl (hb hby d18_55))
        refine Go T5 (mkF m 57 #[vR ho, vR kA, vR cA, vI op, vI 0, .unset] [(.int 1), (.int (Int32.ofNat m0)), (.int 0), (.ref cA)]) ?_ (fun t_ k_ => XS.iconst X5.here hx rfl (hb hby d18_56) k_)
        refine Go T5 (mkF m 58 #[vR ho, vR kA, vR cA, vI op, vI 0, .unset] [(.int ((Int32.ofNat m0) - (1 : Int32))), (.int 0), (.ref cA)]) ?_ (fun t_ k_ => XS.isub X5.here hx rfl (hb hby d18_57) rfl k_)
        obtain ⟨T6, h6, X6, e6, W6, st6⟩ := stI X5 hx hZ rfl AC (j := (0 : Int32)) (inb_of SC ⟨by decide, by decide⟩) (g := (mkF m 58 #[vR ho, vR kA, vR cA, vI op, vI 0, .unset] [(.int ((Int32.ofNat m0) - (1 : Int32))), (.int 0), (.ref cA)])) rfl rfl (hb hby d18_58)
        have N6 := Fr.snoc X6 N5 SS.g3
        have Z6 : n0 ≤ h6.size := Nat.le_trans Zr (Nat.le_of_eq W6.size.symm)
        refine Go T6 (mkF m 59 #[vR ho, vR kA, vR cA, vI op, vI 0, .unset] []) ?_ st6
        have V6 : Arv Z h6 cA kc .int 3 [.int (Int32.ofNat (m0 - 1)), .int (Int32.ofNat m1), .int (Int32.ofNat m2)] (.int 0) := by have q : Arv Z h6 cA kc .int 3 [.int (Int32.ofNat m0 - (1 : Int32)), .int (Int32.ofNat m1), .int (Int32.ofNat m2)] (.int 0) := Arv.set AC qC SC MC HC GC rfl W6 0 rfl (Nat.le_of_ble_eq_true rfl); rw [own_m1 (by have r := hc46; rw [own_pos (by omega)] at r; exact r) (by omega)] at q; exact q
        have kc_ : Keep T5.heap h6 [cA] := (Keep.refl _ [cA]).wr W6 (Or.inl (List.mem_cons_self ..))
        have ka_ := KYn.keep1 kc_ SS.a3
        have fw0 := Fn0.keep kc_ (ninS (Ne.symm SS.c2) nin0)
        have gw0 := Gn0.keep kc_ (fun y hy => ninS (fun q => absurd SS.b3 (Nat.not_lt.mpr (q ▸ (Gn0.bd y hy).1))) nin0)
        have fw1 := Fn1.keep kc_ (ninS (Ne.symm SS.c2) nin0)
        have gw1 := Gn1.keep kc_ (fun y hy => ninS (fun q => absurd SS.b3 (Nat.not_lt.mpr (q ▸ (Gn1.bd y hy).1))) nin0)
        have fw2 := Fn2.keep kc_ (ninS (Ne.symm SS.c2) nin0)
        have gw2 := Gn2.keep kc_ (fun y hy => ninS (fun q => absurd SS.b3 (Nat.not_lt.mpr (q ▸ (Gn2.bd y hy).1))) nin0)
        have ew := En.keep kc_
        have vw := VAn.keep kc_ (ninS SS.c3 nin0)
        have xw : Old Z n0 h6 := xr.wr W6 SS.g3
        exact K59 _ (m0 - 1) m1 m2 _ _ _ (X6.mono (by decide) (by decide)) e6 N6 xw (Nat.le_trans K5.1 (Nat.le_of_eq W6.size.symm)) (by omega) (by omega) (by omega) ⟨ka_, ew, vw, V6, vn, v1, v2, tn, tq1, tq2, fw0, fw1, fw2, gw0, gw1, gw2, Dn1, Dn2, D12⟩
    · show Goes p e below W s₁ (mkF m 13 #[vR ho, vR kA, vR cA, vI op, vI 0, .unset] [])
      refine Go s₁ (mkF m 14 #[vR ho, vR kA, vR cA, vI op, vI 0, .unset] [(.ref ho)]) ?_ (fun t_ k_ => XS.aloadN X0.here hx rfl (hb hby d18_13) rfl rfl k_)
      refine Go s₁ (mkF m 15 #[vR ho, vR kA, vR cA, vI op, vI 0, .unset] [(.ref kA), (.ref ho)]) ?_ (fun t_ k_ => XS.aloadN X0.here hx rfl (hb hby d18_14) rfl rfl k_)
      refine Go s₁ (mkF m 17 #[vR ho, vR kA, vR cA, vI op, vI 0, .unset] [(.int 0), (.ref kA), (.ref ho)]) ?_ (fun t_ k_ => XS.iload X0.here hx rfl (hb hby d18_15) rfl k_)
      refine Go s₁ (mkF m 18 #[vR ho, vR kA, vR cA, vI op, vI 0, .unset] [(.ref t), (.ref ho)]) ?_ (X0.aaload hx (j := (0 : Int32)) (v := (.ref t)) (by rw [e0]; exact AA.1) (State.isArrayOf_alike hZ.alike AA.2.1) rfl AA.2.2 (inb_of SA ⟨by decide, by decide⟩) (by have q := HA 0 (by rw [SA]; decide); exact q) (g := (mkF m 17 #[vR ho, vR kA, vR cA, vI op, vI 0, .unset] [(.int 0), (.ref kA), (.ref ho)])) rfl rfl (hb hby d18_17))
      obtain ⟨cq7, kq7, q7a, q7b, q7c⟩ := isOf hZ e0 E
      obtain ⟨_, _, ⟨T7, Lq_7, kq_7, nq_7⟩, -, X7, ⟨Lc7, hQ7, l7, y7, z7⟩, st7⟩ := X0.virtualBack hx (y := mN28) (z := mN28) hown (mvT hZ (wq hw 142 rfl)) (mvT hZ (wq hw 143 rfl)) (notFace_of_selects (args := #[]) (mvT hZ (wq hw 145 rfl))) (mvT hZ (wq hw 145 rfl)) (mvT hZ (wq hw 144 rfl)) (by decide) (backOf (W := 0) (rmGS l Z a0 hw [] B t tt i ti r tr ku ko kt ki kr ct ci cr w2 zc ho v0 v1 v2 m0 tq0 h0 n0 Z0 KY KC gB bB CS hzc X0_ E F0 F1 F2 G0 (by omega) SS.g1 SS.b1 SS.a1) hZ (wq hw 146 rfl) (wq hw 103 rfl) (by decide) (by decide)) q7a q7c (g := (mkF m 18 #[vR ho, vR kA, vR cA, vI op, vI 0, .unset] [(.ref t), (.ref ho)])) rfl (by rw [hml]; rfl) (Steps.refl _) (argsL := [(.ref t)]) (rest := []) (lenOf pd_16 rfl) rfl (by show 2 * 0 + _ ≤ _; exact Nat.le_of_eq rfl) (hb hby d18_18) (fun _ _ => ⟨rfl, e0, (by decide : 0 + 3 ≤ _), (by decide : 0 + 10 ≤ _)⟩)
      dsimp only [Pt.U, Pt.locs, Pt.cells, Pt.slots] at X7 l7 y7 z7 st7 hQ7
      rw [l7, y7, z7] at X7
      change Stand p l e _ _ m _ below meth c T7 _ 3 10 at X7
      obtain ⟨vn, tn, rfl, N7q, K7, KYn, En, Fn0, Fn1, Fn2, Gn0, SU⟩ := hQ7
      have N7 := Fr.app N0 N7q
      refine Go T7 (mkF m 21 #[vR ho, vR kA, vR cA, vI op, vI 0, .unset] []) ?_ (fun t => st7.trans)
      have Zr : n0 ≤ T7.heap.size := Nat.le_trans Z0 K7.1
      have gT : ∀ y ∈ tq0, n0 ≤ y := fun y hy => Nat.le_trans gB (G0.bd y hy).1
      have xr : Old Z n0 T7.heap := X0_.keep K7 (fun y hy => (List.mem_append.mp hy).elim (own_sfC (P := fun y => n0 ≤ y) KC.g1 (own_sfC KC.g2 (own_sfC KC.g3 (own_sfC SS.g1 (fun y hy => absurd hy List.not_mem_nil)))) y) (gT y))
      have nA : kA ∉ [t, i, r, ho] ++ tq0 := own_ninA (own_nin4 (own_sub3 SS.a2) SS.c1) (fun q => absurd SS.b2 (Nat.not_lt.mpr (G0.bd kA q).1))
      have nC : cA ∉ [t, i, r, ho] ++ tq0 := own_ninA (own_nin4 (own_sub3 SS.a3) SS.c2) (fun q => absurd SS.b3 (Nat.not_lt.mpr (G0.bd cA q).1))
      have VAn := VA.keep K7 nA
      have VCn := VC.keep K7 nC
      obtain ⟨cC, AC, qC, SC, MC, HC, GC⟩ := id VCn
      have Gn1 := own_hfk G1 K7 KC.lt SS.b1 (Dis.symm D01)
      have Gn2 := own_hfk G2 K7 KC.lt SS.b1 (Dis.symm D02)
      have Dn1 : Dis tn tq1 := Dis.grow D01 SU (fun y hy => (G1.bd y hy).2)
      have Dn2 : Dis tn tq2 := Dis.grow D02 SU (fun y hy => (G2.bd y hy).2)
      refine Go T7 (mkF m 22 #[vR ho, vR kA, vR cA, vI op, vI 0, .unset] [(.ref cA)]) ?_ (fun t_ k_ => XS.aloadN X7.here hx rfl (hb hby d18_21) rfl rfl k_)
      refine Go T7 (mkF m 24 #[vR ho, vR kA, vR cA, vI op, vI 0, .unset] [(.int 0), (.ref cA)]) ?_ (fun t_ k_ => XS.iload X7.here hx rfl (hb hby d18_22) rfl k_)
      refine Go T7 (mkF m 25 #[vR ho, vR kA, vR cA, vI op, vI 0, .unset] [(.ref cA), (.int 0), (.ref cA)]) ?_ (fun t_ k_ => XS.aloadN X7.here hx rfl (hb hby d18_24) rfl rfl k_)
      refine Go T7 (mkF m 27 #[vR ho, vR kA, vR cA, vI op, vI 0, .unset] [(.int 0), (.ref cA), (.int 0), (.ref cA)]) ?_ (fun t_ k_ => XS.iload X7.here hx rfl (hb hby d18_25) rfl k_)
      refine Go T7 (mkF m 28 #[vR ho, vR kA, vR cA, vI op, vI 0, .unset] [(.int (Int32.ofNat m0)), (.int 0), (.ref cA)]) ?_ (X7.iaload hx (j := (0 : Int32)) (v := (.int (Int32.ofNat m0))) AC.1 (State.isArrayOf_alike hZ.alike AC.2.1) AC.2.2 (inb_of SC ⟨by decide, by decide⟩) (by have q := HC 0 (by rw [SC]; decide); exact q) (g := (mkF m 27 #[vR ho, vR kA, vR cA, vI op, vI 0, .unset] [(.int 0), (.ref cA), (.int 0), (.ref cA)])) rfl rfl (hb hby d18_27))
      refine Go T7 (mkF m 29 #[vR ho, vR kA, vR cA, vI op, vI 0, .unset] [(.int 1), (.int (Int32.ofNat m0)), (.int 0), (.ref cA)]) ?_ (fun t_ k_ => XS.iconst X7.here hx rfl (hb hby d18_28) k_)
      refine Go T7 (mkF m 30 #[vR ho, vR kA, vR cA, vI op, vI 0, .unset] [(.int ((Int32.ofNat m0) + (1 : Int32))), (.int 0), (.ref cA)]) ?_ (fun t_ k_ => XS.iadd X7.here hx rfl (hb hby d18_29) rfl k_)
      obtain ⟨T8, h8, X8, e8, W8, st8⟩ := stI X7 hx hZ rfl AC (j := (0 : Int32)) (inb_of SC ⟨by decide, by decide⟩) (g := (mkF m 30 #[vR ho, vR kA, vR cA, vI op, vI 0, .unset] [(.int ((Int32.ofNat m0) + (1 : Int32))), (.int 0), (.ref cA)])) rfl rfl (hb hby d18_30)
      have N8 := Fr.snoc X8 N7 SS.g3
      have Z8 : n0 ≤ h8.size := Nat.le_trans Zr (Nat.le_of_eq W8.size.symm)
      refine Go T8 (mkF m 31 #[vR ho, vR kA, vR cA, vI op, vI 0, .unset] []) ?_ st8
      have V8 : Arv Z h8 cA kc .int 3 [.int (Int32.ofNat (m0 + 1)), .int (Int32.ofNat m1), .int (Int32.ofNat m2)] (.int 0) := by have q : Arv Z h8 cA kc .int 3 [.int (Int32.ofNat m0 + (1 : Int32)), .int (Int32.ofNat m1), .int (Int32.ofNat m2)] (.int 0) := Arv.set AC qC SC MC HC GC rfl W8 0 rfl (Nat.le_of_ble_eq_true rfl); rw [own_p1] at q; exact q
      refine Go T8 (mkF m 59 #[vR ho, vR kA, vR cA, vI op, vI 0, .unset] []) ?_ (fun t_ k_ => XS.goto X8.here hx rfl (pc0 := 31) (pc' := 59) rfl (hb hby d18_31) (by decide) (by decide) k_)
      have kc_ : Keep T7.heap h8 [cA] := (Keep.refl _ [cA]).wr W8 (Or.inl (List.mem_cons_self ..))
      have ka_ := KYn.keep1 kc_ SS.a3
      have fw0 := Fn0.keep kc_ (ninS (Ne.symm SS.c2) nin0)
      have gw0 := Gn0.keep kc_ (fun y hy => ninS (fun q => absurd SS.b3 (Nat.not_lt.mpr (q ▸ (Gn0.bd y hy).1))) nin0)
      have fw1 := Fn1.keep kc_ (ninS (Ne.symm SS.c2) nin0)
      have gw1 := Gn1.keep kc_ (fun y hy => ninS (fun q => absurd SS.b3 (Nat.not_lt.mpr (q ▸ (Gn1.bd y hy).1))) nin0)
      have fw2 := Fn2.keep kc_ (ninS (Ne.symm SS.c2) nin0)
      have gw2 := Gn2.keep kc_ (fun y hy => ninS (fun q => absurd SS.b3 (Nat.not_lt.mpr (q ▸ (Gn2.bd y hy).1))) nin0)
      have ew := En.keep kc_
      have vw := VAn.keep kc_ (ninS SS.c3 nin0)
      have xw : Old Z n0 h8 := xr.wr W8 SS.g3
      exact K59 _ (m0 + 1) m1 m2 _ _ _ (X8.mono (by decide) (by decide)) e8 N8 xw (Nat.le_trans K7.1 (Nat.le_of_eq W8.size.symm)) (by omega) (by omega) (by omega) ⟨ka_, ew, vw, V8, vn, v1, v2, tn, tq1, tq2, fw0, fw1, fw2, gw0, gw1, gw2, Dn1, Dn2, D12⟩
  · rw [hk]
    refine Go s₁ (mkF m 7 #[vR ho, vR kA, vR cA, vI op, vI 1, .unset] []) ?_ (fun t_ k_ => XS.istore X0.here hx rfl (hb hby d18_5) rfl (l' := #[vR ho, vR kA, vR cA, vI op, vI 1, .unset]) rfl k_)
    refine Go s₁ (mkF m 8 #[vR ho, vR kA, vR cA, vI op, vI 1, .unset] [(.int op)]) ?_ (fun t_ k_ => XS.iloadN X0.here hx rfl (hb hby d18_7) rfl k_)
    refine Go s₁ (mkF m 9 #[vR ho, vR kA, vR cA, vI op, vI 1, .unset] [(.int 4), (.int op)]) ?_ (fun t_ k_ => XS.iconst X0.here hx rfl (hb hby d18_8) k_)
    refine Go s₁ (mkF m 10 #[vR ho, vR kA, vR cA, vI op, vI 1, .unset] [(.int (op &&& (4 : Int32)))]) ?_ (fun t_ k_ => XS.iand X0.here hx rfl (hb hby d18_9) rfl k_)
    refine Goes.ifP X0 hx rfl (pc0 := 10) (pc' := 34) rfl (hb hby d18_10) rfl (by decide) (by decide) (P := (op &&& (4 : Int32)) = (0 : Int32)) (ifc_eq _ _) (fun hc10 => ?_) (fun hc10 => ?_)
    · show Goes p e below W s₁ (mkF m 34 #[vR ho, vR kA, vR cA, vI op, vI 1, .unset] [])
      refine Go s₁ (mkF m 35 #[vR ho, vR kA, vR cA, vI op, vI 1, .unset] [(.ref ho)]) ?_ (fun t_ k_ => XS.aloadN X0.here hx rfl (hb hby d18_34) rfl rfl k_)
      refine Go s₁ (mkF m 36 #[vR ho, vR kA, vR cA, vI op, vI 1, .unset] [(.ref kA), (.ref ho)]) ?_ (fun t_ k_ => XS.aloadN X0.here hx rfl (hb hby d18_35) rfl rfl k_)
      refine Go s₁ (mkF m 38 #[vR ho, vR kA, vR cA, vI op, vI 1, .unset] [(.int 1), (.ref kA), (.ref ho)]) ?_ (fun t_ k_ => XS.iload X0.here hx rfl (hb hby d18_36) rfl k_)
      refine Go s₁ (mkF m 39 #[vR ho, vR kA, vR cA, vI op, vI 1, .unset] [(.ref ku), (.ref ho)]) ?_ (X0.aaload hx (j := (1 : Int32)) (v := (.ref ku)) (by rw [e0]; exact AA.1) (State.isArrayOf_alike hZ.alike AA.2.1) rfl AA.2.2 (inb_of SA ⟨by decide, by decide⟩) (by have q := HA 1 (by rw [SA]; decide); exact q) (g := (mkF m 38 #[vR ho, vR kA, vR cA, vI op, vI 1, .unset] [(.int 1), (.ref kA), (.ref ho)])) rfl rfl (hb hby d18_38))
      obtain ⟨cq9, kq9, q9a, q9b, q9c⟩ := isOf hZ e0 E
      obtain ⟨_, _, ⟨T9, Lq_9, kq_9, nq_9⟩, -, X9, ⟨Lc9, hQ9, l9, y9, z9⟩, st9⟩ := X0.virtualBack hx (y := mN29) (z := mN29) hown (mvT hZ (wq hw 128 rfl)) (mvT hZ (wq hw 129 rfl)) (notFace_of_selects (args := #[]) (mvT hZ (wq hw 131 rfl))) (mvT hZ (wq hw 131 rfl)) (mvT hZ (wq hw 130 rfl)) (by decide) (backOf (W := 0) (rmXU l Z a0 hw [] B t tt i ti r tr ku ko kt ki kr ct ci cr w2 zc ho v1 v0 v2 m1 tq1 h0 n0 Z0 KY KC gB bB CS hzc X0_ E F1 F0 F2 G1 (by omega) SS.g1 SS.b1 SS.a1) hZ (wq hw 132 rfl) (wq hw 103 rfl) (by decide) (by decide)) q9a q9c (g := (mkF m 39 #[vR ho, vR kA, vR cA, vI op, vI 1, .unset] [(.ref ku), (.ref ho)])) rfl (by rw [hml]; rfl) (Steps.refl _) (argsL := [(.ref ku)]) (rest := []) (lenOf pd_16 rfl) rfl (by show 2 * 0 + _ ≤ _; exact Nat.le_of_eq rfl) (hb hby d18_39) (fun _ _ => ⟨rfl, e0, (by decide : 0 + 1 ≤ _), (by decide : 0 + 3 ≤ _)⟩)
      dsimp only [Pt.U, Pt.locs, Pt.cells, Pt.slots] at X9 l9 y9 z9 st9 hQ9
      rw [l9, y9, z9] at X9
      change Stand p l e _ _ m _ below meth c T9 _ 1 3 at X9
      obtain ⟨vn, tn, rfl, N9q, K9, KYn, En, Fn1, Fn0, Fn2, Gn1, SU⟩ := hQ9
      have N9 := Fr.app N0 N9q
      refine Go T9 (mkF m 42 #[vR ho, vR kA, vR cA, vI op, vI 1, .unset] []) ?_ (fun t => st9.trans)
      have Zr : n0 ≤ T9.heap.size := Nat.le_trans Z0 K9.1
      have gT : ∀ y ∈ tq1, n0 ≤ y := fun y hy => Nat.le_trans gB (G1.bd y hy).1
      have xr : Old Z n0 T9.heap := X0_.keep K9 (fun y hy => (List.mem_append.mp hy).elim (own_sfC (P := fun y => n0 ≤ y) KC.g1 (own_sfC KC.g2 (own_sfC KC.g3 (own_sfC SS.g1 (fun y hy => absurd hy List.not_mem_nil)))) y) (gT y))
      have nA : kA ∉ [t, i, r, ho] ++ tq1 := own_ninA (own_nin4 (own_sub3 SS.a2) SS.c1) (fun q => absurd SS.b2 (Nat.not_lt.mpr (G1.bd kA q).1))
      have nC : cA ∉ [t, i, r, ho] ++ tq1 := own_ninA (own_nin4 (own_sub3 SS.a3) SS.c2) (fun q => absurd SS.b3 (Nat.not_lt.mpr (G1.bd cA q).1))
      have VAn := VA.keep K9 nA
      have VCn := VC.keep K9 nC
      obtain ⟨cC, AC, qC, SC, MC, HC, GC⟩ := id VCn
      have Gn0 := own_hfk G0 K9 KC.lt SS.b1 D01
      have Gn2 := own_hfk G2 K9 KC.lt SS.b1 (Dis.symm D12)
      have Dn0 : Dis tn tq0 := Dis.grow (Dis.symm D01) SU (fun y hy => (G0.bd y hy).2)
      have Dn2 : Dis tn tq2 := Dis.grow D12 SU (fun y hy => (G2.bd y hy).2)
      refine Go T9 (mkF m 43 #[vR ho, vR kA, vR cA, vI op, vI 1, .unset] [(.ref cA)]) ?_ (fun t_ k_ => XS.aloadN X9.here hx rfl (hb hby d18_42) rfl rfl k_)
      refine Go T9 (mkF m 45 #[vR ho, vR kA, vR cA, vI op, vI 1, .unset] [(.int 1), (.ref cA)]) ?_ (fun t_ k_ => XS.iload X9.here hx rfl (hb hby d18_43) rfl k_)
      refine Go T9 (mkF m 46 #[vR ho, vR kA, vR cA, vI op, vI 1, .unset] [(.int (Int32.ofNat m1))]) ?_ (X9.iaload hx (j := (1 : Int32)) (v := (.int (Int32.ofNat m1))) AC.1 (State.isArrayOf_alike hZ.alike AC.2.1) AC.2.2 (inb_of SC ⟨by decide, by decide⟩) (by have q := HC 1 (by rw [SC]; decide); exact q) (g := (mkF m 45 #[vR ho, vR kA, vR cA, vI op, vI 1, .unset] [(.int 1), (.ref cA)])) rfl rfl (hb hby d18_45))
      refine Goes.ifN X9 hx rfl (pc0 := 46) (pc' := 59) rfl (hb hby d18_46) rfl (by decide) (by decide) (P := (0 : Int32) < (Int32.ofNat m1)) (ifc_le _ _) (fun hc46 => ?_) (fun hc46 => ?_)
      · show Goes p e below W T9 (mkF m 59 #[vR ho, vR kA, vR cA, vI op, vI 1, .unset] [])
        have z0 : m1 = 0 := by have r := hc46; rw [own_pos (by omega)] at r; omega
        have zz : m1 - 1 = m1 := by omega
        rw [zz] at Gn1
        exact K59 _ m0 m1 m2 _ _ _ (X9.mono (by decide) (by decide)) rfl N9 xr (K9.1) (by omega) (by omega) (by omega) ⟨KYn, En, VAn, VCn, v0, vn, v2, tq0, tn, tq2, Fn0, Fn1, Fn2, Gn0, Gn1, Gn2, (Dis.symm Dn0), D02, Dn2⟩
      · show Goes p e below W T9 (mkF m 49 #[vR ho, vR kA, vR cA, vI op, vI 1, .unset] [])
        refine Go T9 (mkF m 50 #[vR ho, vR kA, vR cA, vI op, vI 1, .unset] [(.ref cA)]) ?_ (fun t_ k_ => XS.aloadN X9.here hx rfl (hb hby d18_49) rfl rfl k_)
        refine Go T9 (mkF m 52 #[vR ho, vR kA, vR cA, vI op, vI 1, .unset] [(.int 1), (.ref cA)]) ?_ (fun t_ k_ => XS.iload X9.here hx rfl (hb hby d18_50) rfl k_)
        refine Go T9 (mkF m 53 #[vR ho, vR kA, vR cA, vI op, vI 1, .unset] [(.ref cA), (.int 1), (.ref cA)]) ?_ (fun t_ k_ => XS.aloadN X9.here hx rfl (hb hby d18_52) rfl rfl k_)
        refine Go T9 (mkF m 55 #[vR ho, vR kA, vR cA, vI op, vI 1, .unset] [(.int 1), (.ref cA), (.int 1), (.ref cA)]) ?_ (fun t_ k_ => XS.iload X9.here hx rfl (hb hby d18_53) rfl k_)
        refine Go T9 (mkF m 56 #[vR ho, vR kA, vR cA, vI op, vI 1, .unset] [(.int (Int32.ofNat m1)), (.int 1), (.ref cA)]) ?_ (X9.iaload hx (j := (1 : Int32)) (v := (.int (Int32.ofNat m1))) AC.1 (State.isArrayOf_alike hZ.alike AC.2.1) AC.2.2 (inb_of SC ⟨by decide, by decide⟩) (by have q := HC 1 (by rw [SC]; decide); exact q) (g := (mkF m 55 #[vR ho, vR kA, vR cA, vI op, vI 1, .unset] [(.int 1), (.ref cA), (.int 1), (.ref cA)])) rfl rfl (hb hby d18_55))
        refine Go T9 (mkF m 57 #[vR ho, vR kA, vR cA, vI op, vI 1, .unset] [(.int 1), (.int (Int32.ofNat m1)), (.int 1), (.ref cA)]) ?_ (fun t_ k_ => XS.iconst X9.here hx rfl (hb hby d18_56) k_)
        refine Go T9 (mkF m 58 #[vR ho, vR kA, vR cA, vI op, vI 1, .unset] [(.int ((Int32.ofNat m1) - (1 : Int32))), (.int 1), (.ref cA)]) ?_ (fun t_ k_ => XS.isub X9.here hx rfl (hb hby d18_57) rfl k_)
        obtain ⟨T10, h10, X10, e10, W10, st10⟩ := stI X9 hx hZ rfl AC (j := (1 : Int32)) (inb_of SC ⟨by decide, by decide⟩) (g := (mkF m 58 #[vR ho, vR kA, vR cA, vI op, vI 1, .unset] [(.int ((Int32.ofNat m1) - (1 : Int32))), (.int 1), (.ref cA)])) rfl rfl (hb hby d18_58)
        have N10 := Fr.snoc X10 N9 SS.g3
        have Z10 : n0 ≤ h10.size := Nat.le_trans Zr (Nat.le_of_eq W10.size.symm)
        refine Go T10 (mkF m 59 #[vR ho, vR kA, vR cA, vI op, vI 1, .unset] []) ?_ st10
        have V10 : Arv Z h10 cA kc .int 3 [.int (Int32.ofNat m0), .int (Int32.ofNat (m1 - 1)), .int (Int32.ofNat m2)] (.int 0) := by have q : Arv Z h10 cA kc .int 3 [.int (Int32.ofNat m0), .int (Int32.ofNat m1 - (1 : Int32)), .int (Int32.ofNat m2)] (.int 0) := Arv.set AC qC SC MC HC GC rfl W10 1 rfl (Nat.le_of_ble_eq_true rfl); rw [own_m1 (by have r := hc46; rw [own_pos (by omega)] at r; exact r) (by omega)] at q; exact q
        have kc_ : Keep T9.heap h10 [cA] := (Keep.refl _ [cA]).wr W10 (Or.inl (List.mem_cons_self ..))
        have ka_ := KYn.keep1 kc_ SS.a3
        have fw0 := Fn0.keep kc_ (ninS (Ne.symm SS.c2) nin0)
        have gw0 := Gn0.keep kc_ (fun y hy => ninS (fun q => absurd SS.b3 (Nat.not_lt.mpr (q ▸ (Gn0.bd y hy).1))) nin0)
        have fw1 := Fn1.keep kc_ (ninS (Ne.symm SS.c2) nin0)
        have gw1 := Gn1.keep kc_ (fun y hy => ninS (fun q => absurd SS.b3 (Nat.not_lt.mpr (q ▸ (Gn1.bd y hy).1))) nin0)
        have fw2 := Fn2.keep kc_ (ninS (Ne.symm SS.c2) nin0)
        have gw2 := Gn2.keep kc_ (fun y hy => ninS (fun q => absurd SS.b3 (Nat.not_lt.mpr (q ▸ (Gn2.bd y hy).1))) nin0)
        have ew := En.keep kc_
        have vw := VAn.keep kc_ (ninS SS.c3 nin0)
        have xw : Old Z n0 h10 := xr.wr W10 SS.g3
        exact K59 _ m0 (m1 - 1) m2 _ _ _ (X10.mono (by decide) (by decide)) e10 N10 xw (Nat.le_trans K9.1 (Nat.le_of_eq W10.size.symm)) (by omega) (by omega) (by omega) ⟨ka_, ew, vw, V10, v0, vn, v2, tq0, tn, tq2, fw0, fw1, fw2, gw0, gw1, gw2, (Dis.symm Dn0), D02, Dn2⟩
    · show Goes p e below W s₁ (mkF m 13 #[vR ho, vR kA, vR cA, vI op, vI 1, .unset] [])
      refine Go s₁ (mkF m 14 #[vR ho, vR kA, vR cA, vI op, vI 1, .unset] [(.ref ho)]) ?_ (fun t_ k_ => XS.aloadN X0.here hx rfl (hb hby d18_13) rfl rfl k_)
      refine Go s₁ (mkF m 15 #[vR ho, vR kA, vR cA, vI op, vI 1, .unset] [(.ref kA), (.ref ho)]) ?_ (fun t_ k_ => XS.aloadN X0.here hx rfl (hb hby d18_14) rfl rfl k_)
      refine Go s₁ (mkF m 17 #[vR ho, vR kA, vR cA, vI op, vI 1, .unset] [(.int 1), (.ref kA), (.ref ho)]) ?_ (fun t_ k_ => XS.iload X0.here hx rfl (hb hby d18_15) rfl k_)
      refine Go s₁ (mkF m 18 #[vR ho, vR kA, vR cA, vI op, vI 1, .unset] [(.ref ku), (.ref ho)]) ?_ (X0.aaload hx (j := (1 : Int32)) (v := (.ref ku)) (by rw [e0]; exact AA.1) (State.isArrayOf_alike hZ.alike AA.2.1) rfl AA.2.2 (inb_of SA ⟨by decide, by decide⟩) (by have q := HA 1 (by rw [SA]; decide); exact q) (g := (mkF m 17 #[vR ho, vR kA, vR cA, vI op, vI 1, .unset] [(.int 1), (.ref kA), (.ref ho)])) rfl rfl (hb hby d18_17))
      obtain ⟨cq11, kq11, q11a, q11b, q11c⟩ := isOf hZ e0 E
      obtain ⟨_, _, ⟨T11, Lq_11, kq_11, nq_11⟩, -, X11, ⟨Lc11, hQ11, l11, y11, z11⟩, st11⟩ := X0.virtualBack hx (y := mN28) (z := mN28) hown (mvT hZ (wq hw 142 rfl)) (mvT hZ (wq hw 143 rfl)) (notFace_of_selects (args := #[]) (mvT hZ (wq hw 145 rfl))) (mvT hZ (wq hw 145 rfl)) (mvT hZ (wq hw 144 rfl)) (by decide) (backOf (W := 0) (rmGU l Z a0 hw [] B t tt i ti r tr ku ko kt ki kr ct ci cr w2 zc ho v1 v0 v2 m1 tq1 h0 n0 Z0 KY KC gB bB CS hzc X0_ E F1 F0 F2 G1 (by omega) SS.g1 SS.b1 SS.a1) hZ (wq hw 146 rfl) (wq hw 103 rfl) (by decide) (by decide)) q11a q11c (g := (mkF m 18 #[vR ho, vR kA, vR cA, vI op, vI 1, .unset] [(.ref ku), (.ref ho)])) rfl (by rw [hml]; rfl) (Steps.refl _) (argsL := [(.ref ku)]) (rest := []) (lenOf pd_16 rfl) rfl (by show 2 * 0 + _ ≤ _; exact Nat.le_of_eq rfl) (hb hby d18_18) (fun _ _ => ⟨rfl, e0, (by decide : 0 + 4 ≤ _), (by decide : 0 + 13 ≤ _)⟩)
      dsimp only [Pt.U, Pt.locs, Pt.cells, Pt.slots] at X11 l11 y11 z11 st11 hQ11
      rw [l11, y11, z11] at X11
      change Stand p l e _ _ m _ below meth c T11 _ 4 13 at X11
      obtain ⟨vn, tn, rfl, N11q, K11, KYn, En, Fn1, Fn0, Fn2, Gn1, SU⟩ := hQ11
      have N11 := Fr.app N0 N11q
      refine Go T11 (mkF m 21 #[vR ho, vR kA, vR cA, vI op, vI 1, .unset] []) ?_ (fun t => st11.trans)
      have Zr : n0 ≤ T11.heap.size := Nat.le_trans Z0 K11.1
      have gT : ∀ y ∈ tq1, n0 ≤ y := fun y hy => Nat.le_trans gB (G1.bd y hy).1
      have xr : Old Z n0 T11.heap := X0_.keep K11 (fun y hy => (List.mem_append.mp hy).elim (own_sfC (P := fun y => n0 ≤ y) KC.g1 (own_sfC KC.g2 (own_sfC KC.g3 (own_sfC SS.g1 (fun y hy => absurd hy List.not_mem_nil)))) y) (gT y))
      have nA : kA ∉ [t, i, r, ho] ++ tq1 := own_ninA (own_nin4 (own_sub3 SS.a2) SS.c1) (fun q => absurd SS.b2 (Nat.not_lt.mpr (G1.bd kA q).1))
      have nC : cA ∉ [t, i, r, ho] ++ tq1 := own_ninA (own_nin4 (own_sub3 SS.a3) SS.c2) (fun q => absurd SS.b3 (Nat.not_lt.mpr (G1.bd cA q).1))
      have VAn := VA.keep K11 nA
      have VCn := VC.keep K11 nC
      obtain ⟨cC, AC, qC, SC, MC, HC, GC⟩ := id VCn
      have Gn0 := own_hfk G0 K11 KC.lt SS.b1 D01
      have Gn2 := own_hfk G2 K11 KC.lt SS.b1 (Dis.symm D12)
      have Dn0 : Dis tn tq0 := Dis.grow (Dis.symm D01) SU (fun y hy => (G0.bd y hy).2)
      have Dn2 : Dis tn tq2 := Dis.grow D12 SU (fun y hy => (G2.bd y hy).2)
      refine Go T11 (mkF m 22 #[vR ho, vR kA, vR cA, vI op, vI 1, .unset] [(.ref cA)]) ?_ (fun t_ k_ => XS.aloadN X11.here hx rfl (hb hby d18_21) rfl rfl k_)
      refine Go T11 (mkF m 24 #[vR ho, vR kA, vR cA, vI op, vI 1, .unset] [(.int 1), (.ref cA)]) ?_ (fun t_ k_ => XS.iload X11.here hx rfl (hb hby d18_22) rfl k_)
      refine Go T11 (mkF m 25 #[vR ho, vR kA, vR cA, vI op, vI 1, .unset] [(.ref cA), (.int 1), (.ref cA)]) ?_ (fun t_ k_ => XS.aloadN X11.here hx rfl (hb hby d18_24) rfl rfl k_)
      refine Go T11 (mkF m 27 #[vR ho, vR kA, vR cA, vI op, vI 1, .unset] [(.int 1), (.ref cA), (.int 1), (.ref cA)]) ?_ (fun t_ k_ => XS.iload X11.here hx rfl (hb hby d18_25) rfl k_)
      refine Go T11 (mkF m 28 #[vR ho, vR kA, vR cA, vI op, vI 1, .unset] [(.int (Int32.ofNat m1)), (.int 1), (.ref cA)]) ?_ (X11.iaload hx (j := (1 : Int32)) (v := (.int (Int32.ofNat m1))) AC.1 (State.isArrayOf_alike hZ.alike AC.2.1) AC.2.2 (inb_of SC ⟨by decide, by decide⟩) (by have q := HC 1 (by rw [SC]; decide); exact q) (g := (mkF m 27 #[vR ho, vR kA, vR cA, vI op, vI 1, .unset] [(.int 1), (.ref cA), (.int 1), (.ref cA)])) rfl rfl (hb hby d18_27))
      refine Go T11 (mkF m 29 #[vR ho, vR kA, vR cA, vI op, vI 1, .unset] [(.int 1), (.int (Int32.ofNat m1)), (.int 1), (.ref cA)]) ?_ (fun t_ k_ => XS.iconst X11.here hx rfl (hb hby d18_28) k_)
      refine Go T11 (mkF m 30 #[vR ho, vR kA, vR cA, vI op, vI 1, .unset] [(.int ((Int32.ofNat m1) + (1 : Int32))), (.int 1), (.ref cA)]) ?_ (fun t_ k_ => XS.iadd X11.here hx rfl (hb hby d18_29) rfl k_)
      obtain ⟨T12, h12, X12, e12, W12, st12⟩ := stI X11 hx hZ rfl AC (j := (1 : Int32)) (inb_of SC ⟨by decide, by decide⟩) (g := (mkF m 30 #[vR ho, vR kA, vR cA, vI op, vI 1, .unset] [(.int ((Int32.ofNat m1) + (1 : Int32))), (.int 1), (.ref cA)])) rfl rfl (hb hby d18_30)
      have N12 := Fr.snoc X12 N11 SS.g3
      have Z12 : n0 ≤ h12.size := Nat.le_trans Zr (Nat.le_of_eq W12.size.symm)
      refine Go T12 (mkF m 31 #[vR ho, vR kA, vR cA, vI op, vI 1, .unset] []) ?_ st12
      have V12 : Arv Z h12 cA kc .int 3 [.int (Int32.ofNat m0), .int (Int32.ofNat (m1 + 1)), .int (Int32.ofNat m2)] (.int 0) := by have q : Arv Z h12 cA kc .int 3 [.int (Int32.ofNat m0), .int (Int32.ofNat m1 + (1 : Int32)), .int (Int32.ofNat m2)] (.int 0) := Arv.set AC qC SC MC HC GC rfl W12 1 rfl (Nat.le_of_ble_eq_true rfl); rw [own_p1] at q; exact q
      refine Go T12 (mkF m 59 #[vR ho, vR kA, vR cA, vI op, vI 1, .unset] []) ?_ (fun t_ k_ => XS.goto X12.here hx rfl (pc0 := 31) (pc' := 59) rfl (hb hby d18_31) (by decide) (by decide) k_)
      have kc_ : Keep T11.heap h12 [cA] := (Keep.refl _ [cA]).wr W12 (Or.inl (List.mem_cons_self ..))
      have ka_ := KYn.keep1 kc_ SS.a3
      have fw0 := Fn0.keep kc_ (ninS (Ne.symm SS.c2) nin0)
      have gw0 := Gn0.keep kc_ (fun y hy => ninS (fun q => absurd SS.b3 (Nat.not_lt.mpr (q ▸ (Gn0.bd y hy).1))) nin0)
      have fw1 := Fn1.keep kc_ (ninS (Ne.symm SS.c2) nin0)
      have gw1 := Gn1.keep kc_ (fun y hy => ninS (fun q => absurd SS.b3 (Nat.not_lt.mpr (q ▸ (Gn1.bd y hy).1))) nin0)
      have fw2 := Fn2.keep kc_ (ninS (Ne.symm SS.c2) nin0)
      have gw2 := Gn2.keep kc_ (fun y hy => ninS (fun q => absurd SS.b3 (Nat.not_lt.mpr (q ▸ (Gn2.bd y hy).1))) nin0)
      have ew := En.keep kc_
      have vw := VAn.keep kc_ (ninS SS.c3 nin0)
      have xw : Old Z n0 h12 := xr.wr W12 SS.g3
      exact K59 _ m0 (m1 + 1) m2 _ _ _ (X12.mono (by decide) (by decide)) e12 N12 xw (Nat.le_trans K11.1 (Nat.le_of_eq W12.size.symm)) (by omega) (by omega) (by omega) ⟨ka_, ew, vw, V12, v0, vn, v2, tq0, tn, tq2, fw0, fw1, fw2, gw0, gw1, gw2, (Dis.symm Dn0), D02, Dn2⟩
  · rw [hk]
    refine Go s₁ (mkF m 7 #[vR ho, vR kA, vR cA, vI op, vI 2, .unset] []) ?_ (fun t_ k_ => XS.istore X0.here hx rfl (hb hby d18_5) rfl (l' := #[vR ho, vR kA, vR cA, vI op, vI 2, .unset]) rfl k_)
    refine Go s₁ (mkF m 8 #[vR ho, vR kA, vR cA, vI op, vI 2, .unset] [(.int op)]) ?_ (fun t_ k_ => XS.iloadN X0.here hx rfl (hb hby d18_7) rfl k_)
    refine Go s₁ (mkF m 9 #[vR ho, vR kA, vR cA, vI op, vI 2, .unset] [(.int 4), (.int op)]) ?_ (fun t_ k_ => XS.iconst X0.here hx rfl (hb hby d18_8) k_)
    refine Go s₁ (mkF m 10 #[vR ho, vR kA, vR cA, vI op, vI 2, .unset] [(.int (op &&& (4 : Int32)))]) ?_ (fun t_ k_ => XS.iand X0.here hx rfl (hb hby d18_9) rfl k_)
    refine Goes.ifP X0 hx rfl (pc0 := 10) (pc' := 34) rfl (hb hby d18_10) rfl (by decide) (by decide) (P := (op &&& (4 : Int32)) = (0 : Int32)) (ifc_eq _ _) (fun hc10 => ?_) (fun hc10 => ?_)
    · show Goes p e below W s₁ (mkF m 34 #[vR ho, vR kA, vR cA, vI op, vI 2, .unset] [])
      refine Go s₁ (mkF m 35 #[vR ho, vR kA, vR cA, vI op, vI 2, .unset] [(.ref ho)]) ?_ (fun t_ k_ => XS.aloadN X0.here hx rfl (hb hby d18_34) rfl rfl k_)
      refine Go s₁ (mkF m 36 #[vR ho, vR kA, vR cA, vI op, vI 2, .unset] [(.ref kA), (.ref ho)]) ?_ (fun t_ k_ => XS.aloadN X0.here hx rfl (hb hby d18_35) rfl rfl k_)
      refine Go s₁ (mkF m 38 #[vR ho, vR kA, vR cA, vI op, vI 2, .unset] [(.int 2), (.ref kA), (.ref ho)]) ?_ (fun t_ k_ => XS.iload X0.here hx rfl (hb hby d18_36) rfl k_)
      refine Go s₁ (mkF m 39 #[vR ho, vR kA, vR cA, vI op, vI 2, .unset] [(.ref ko), (.ref ho)]) ?_ (X0.aaload hx (j := (2 : Int32)) (v := (.ref ko)) (by rw [e0]; exact AA.1) (State.isArrayOf_alike hZ.alike AA.2.1) rfl AA.2.2 (inb_of SA ⟨by decide, by decide⟩) (by have q := HA 2 (by rw [SA]; decide); exact q) (g := (mkF m 38 #[vR ho, vR kA, vR cA, vI op, vI 2, .unset] [(.int 2), (.ref kA), (.ref ho)])) rfl rfl (hb hby d18_38))
      obtain ⟨cq13, kq13, q13a, q13b, q13c⟩ := isOf hZ e0 E
      obtain ⟨_, _, ⟨T13, Lq_13, kq_13, nq_13⟩, -, X13, ⟨Lc13, hQ13, l13, y13, z13⟩, st13⟩ := X0.virtualBack hx (y := mN29) (z := mN29) hown (mvT hZ (wq hw 128 rfl)) (mvT hZ (wq hw 129 rfl)) (notFace_of_selects (args := #[]) (mvT hZ (wq hw 131 rfl))) (mvT hZ (wq hw 131 rfl)) (mvT hZ (wq hw 130 rfl)) (by decide) (backOf (W := 0) (rmXO l Z a0 hw [] B t tt i ti r tr ku ko kt ki kr ct ci cr w2 zc ho v2 v0 v1 m2 tq2 h0 n0 Z0 KY KC gB bB CS hzc X0_ E F2 F0 F1 G2 (by omega) SS.g1 SS.b1 SS.a1) hZ (wq hw 132 rfl) (wq hw 103 rfl) (by decide) (by decide)) q13a q13c (g := (mkF m 39 #[vR ho, vR kA, vR cA, vI op, vI 2, .unset] [(.ref ko), (.ref ho)])) rfl (by rw [hml]; rfl) (Steps.refl _) (argsL := [(.ref ko)]) (rest := []) (lenOf pd_16 rfl) rfl (by show 2 * 0 + _ ≤ _; exact Nat.le_of_eq rfl) (hb hby d18_39) (fun _ _ => ⟨rfl, e0, (by decide : 0 + 0 ≤ _), (by decide : 0 + 0 ≤ _)⟩)
      dsimp only [Pt.U, Pt.locs, Pt.cells, Pt.slots] at X13 l13 y13 z13 st13 hQ13
      rw [l13, y13, z13] at X13
      change Stand p l e _ _ m _ below meth c T13 _ 0 0 at X13
      obtain ⟨vn, tn, rfl, N13q, K13, KYn, En, Fn2, Fn0, Fn1, Gn2, SU⟩ := hQ13
      have N13 := Fr.app N0 N13q
      refine Go T13 (mkF m 42 #[vR ho, vR kA, vR cA, vI op, vI 2, .unset] []) ?_ (fun t => st13.trans)
      have Zr : n0 ≤ T13.heap.size := Nat.le_trans Z0 K13.1
      have gT : ∀ y ∈ tq2, n0 ≤ y := fun y hy => Nat.le_trans gB (G2.bd y hy).1
      have xr : Old Z n0 T13.heap := X0_.keep K13 (fun y hy => (List.mem_append.mp hy).elim (own_sfC (P := fun y => n0 ≤ y) KC.g1 (own_sfC KC.g2 (own_sfC KC.g3 (own_sfC SS.g1 (fun y hy => absurd hy List.not_mem_nil)))) y) (gT y))
      have nA : kA ∉ [t, i, r, ho] ++ tq2 := own_ninA (own_nin4 (own_sub3 SS.a2) SS.c1) (fun q => absurd SS.b2 (Nat.not_lt.mpr (G2.bd kA q).1))
      have nC : cA ∉ [t, i, r, ho] ++ tq2 := own_ninA (own_nin4 (own_sub3 SS.a3) SS.c2) (fun q => absurd SS.b3 (Nat.not_lt.mpr (G2.bd cA q).1))
      have VAn := VA.keep K13 nA
      have VCn := VC.keep K13 nC
      obtain ⟨cC, AC, qC, SC, MC, HC, GC⟩ := id VCn
      have Gn0 := own_hfk G0 K13 KC.lt SS.b1 D02
      have Gn1 := own_hfk G1 K13 KC.lt SS.b1 D12
      have Dn0 : Dis tn tq0 := Dis.grow (Dis.symm D02) SU (fun y hy => (G0.bd y hy).2)
      have Dn1 : Dis tn tq1 := Dis.grow (Dis.symm D12) SU (fun y hy => (G1.bd y hy).2)
      refine Go T13 (mkF m 43 #[vR ho, vR kA, vR cA, vI op, vI 2, .unset] [(.ref cA)]) ?_ (fun t_ k_ => XS.aloadN X13.here hx rfl (hb hby d18_42) rfl rfl k_)
      refine Go T13 (mkF m 45 #[vR ho, vR kA, vR cA, vI op, vI 2, .unset] [(.int 2), (.ref cA)]) ?_ (fun t_ k_ => XS.iload X13.here hx rfl (hb hby d18_43) rfl k_)
      refine Go T13 (mkF m 46 #[vR ho, vR kA, vR cA, vI op, vI 2, .unset] [(.int (Int32.ofNat m2))]) ?_ (X13.iaload hx (j := (2 : Int32)) (v := (.int (Int32.ofNat m2))) AC.1 (State.isArrayOf_alike hZ.alike AC.2.1) AC.2.2 (inb_of SC ⟨by decide, by decide⟩) (by have q := HC 2 (by rw [SC]; decide); exact q) (g := (mkF m 45 #[vR ho, vR kA, vR cA, vI op, vI 2, .unset] [(.int 2), (.ref cA)])) rfl rfl (hb hby d18_45))
      refine Goes.ifN X13 hx rfl (pc0 := 46) (pc' := 59) rfl (hb hby d18_46) rfl (by decide) (by decide) (P := (0 : Int32) < (Int32.ofNat m2)) (ifc_le _ _) (fun hc46 => ?_) (fun hc46 => ?_)
      · show Goes p e below W T13 (mkF m 59 #[vR ho, vR kA, vR cA, vI op, vI 2, .unset] [])
        have z0 : m2 = 0 := by have r := hc46; rw [own_pos (by omega)] at r; omega
        have zz : m2 - 1 = m2 := by omega
        rw [zz] at Gn2
        exact K59 _ m0 m1 m2 _ _ _ (X13.mono (by decide) (by decide)) rfl N13 xr (K13.1) (by omega) (by omega) (by omega) ⟨KYn, En, VAn, VCn, v0, v1, vn, tq0, tq1, tn, Fn0, Fn1, Fn2, Gn0, Gn1, Gn2, D01, (Dis.symm Dn0), (Dis.symm Dn1)⟩
      · show Goes p e below W T13 (mkF m 49 #[vR ho, vR kA, vR cA, vI op, vI 2, .unset] [])
        refine Go T13 (mkF m 50 #[vR ho, vR kA, vR cA, vI op, vI 2, .unset] [(.ref cA)]) ?_ (fun t_ k_ => XS.aloadN X13.here hx rfl (hb hby d18_49) rfl rfl k_)
        refine Go T13 (mkF m 52 #[vR ho, vR kA, vR cA, vI op, vI 2, .unset] [(.int 2), (.ref cA)]) ?_ (fun t_ k_ => XS.iload X13.here hx rfl (hb hby d18_50) rfl k_)
        refine Go T13 (mkF m 53 #[vR ho, vR kA, vR cA, vI op, vI 2, .unset] [(.ref cA), (.int 2), (.ref cA)]) ?_ (fun t_ k_ => XS.aloadN X13.here hx rfl (hb hby d18_52) rfl rfl k_)
        refine Go T13 (mkF m 55 #[vR ho, vR kA, vR cA, vI op, vI 2, .unset] [(.int 2), (.ref cA), (.int 2), (.ref cA)]) ?_ (fun t_ k_ => XS.iload X13.here hx rfl (hb hby d18_53) rfl k_)
        refine Go T13 (mkF m 56 #[vR ho, vR kA, vR cA, vI op, vI 2, .unset] [(.int (Int32.ofNat m2)), (.int 2), (.ref cA)]) ?_ (X13.iaload hx (j := (2 : Int32)) (v := (.int (Int32.ofNat m2))) AC.1 (State.isArrayOf_alike hZ.alike AC.2.1) AC.2.2 (inb_of SC ⟨by decide, by decide⟩) (by have q := HC 2 (by rw [SC]; decide); exact q) (g := (mkF m 55 #[vR ho, vR kA, vR cA, vI op, vI 2, .unset] [(.int 2), (.ref cA), (.int 2), (.ref cA)])) rfl rfl (hb hby d18_55))
        refine Go T13 (mkF m 57 #[vR ho, vR kA, vR cA, vI op, vI 2, .unset] [(.int 1), (.int (Int32.ofNat m2)), (.int 2), (.ref cA)]) ?_ (fun t_ k_ => XS.iconst X13.here hx rfl (hb hby d18_56) k_)
        refine Go T13 (mkF m 58 #[vR ho, vR kA, vR cA, vI op, vI 2, .unset] [(.int ((Int32.ofNat m2) - (1 : Int32))), (.int 2), (.ref cA)]) ?_ (fun t_ k_ => XS.isub X13.here hx rfl (hb hby d18_57) rfl k_)
        obtain ⟨T14, h14, X14, e14, W14, st14⟩ := stI X13 hx hZ rfl AC (j := (2 : Int32)) (inb_of SC ⟨by decide, by decide⟩) (g := (mkF m 58 #[vR ho, vR kA, vR cA, vI op, vI 2, .unset] [(.int ((Int32.ofNat m2) - (1 : Int32))), (.int 2), (.ref cA)])) rfl rfl (hb hby d18_58)
        have N14 := Fr.snoc X14 N13 SS.g3
        have Z14 : n0 ≤ h14.size := Nat.le_trans Zr (Nat.le_of_eq W14.size.symm)
        refine Go T14 (mkF m 59 #[vR ho, vR kA, vR cA, vI op, vI 2, .unset] []) ?_ st14
        have V14 : Arv Z h14 cA kc .int 3 [.int (Int32.ofNat m0), .int (Int32.ofNat m1), .int (Int32.ofNat (m2 - 1))] (.int 0) := by have q : Arv Z h14 cA kc .int 3 [.int (Int32.ofNat m0), .int (Int32.ofNat m1), .int (Int32.ofNat m2 - (1 : Int32))] (.int 0) := Arv.set AC qC SC MC HC GC rfl W14 2 rfl (Nat.le_of_ble_eq_true rfl); rw [own_m1 (by have r := hc46; rw [own_pos (by omega)] at r; exact r) (by omega)] at q; exact q
        have kc_ : Keep T13.heap h14 [cA] := (Keep.refl _ [cA]).wr W14 (Or.inl (List.mem_cons_self ..))
        have ka_ := KYn.keep1 kc_ SS.a3
        have fw0 := Fn0.keep kc_ (ninS (Ne.symm SS.c2) nin0)
        have gw0 := Gn0.keep kc_ (fun y hy => ninS (fun q => absurd SS.b3 (Nat.not_lt.mpr (q ▸ (Gn0.bd y hy).1))) nin0)
        have fw1 := Fn1.keep kc_ (ninS (Ne.symm SS.c2) nin0)
        have gw1 := Gn1.keep kc_ (fun y hy => ninS (fun q => absurd SS.b3 (Nat.not_lt.mpr (q ▸ (Gn1.bd y hy).1))) nin0)
        have fw2 := Fn2.keep kc_ (ninS (Ne.symm SS.c2) nin0)
        have gw2 := Gn2.keep kc_ (fun y hy => ninS (fun q => absurd SS.b3 (Nat.not_lt.mpr (q ▸ (Gn2.bd y hy).1))) nin0)
        have ew := En.keep kc_
        have vw := VAn.keep kc_ (ninS SS.c3 nin0)
        have xw : Old Z n0 h14 := xr.wr W14 SS.g3
        exact K59 _ m0 m1 (m2 - 1) _ _ _ (X14.mono (by decide) (by decide)) e14 N14 xw (Nat.le_trans K13.1 (Nat.le_of_eq W14.size.symm)) (by omega) (by omega) (by omega) ⟨ka_, ew, vw, V14, v0, v1, vn, tq0, tq1, tn, fw0, fw1, fw2, gw0, gw1, gw2, D01, (Dis.symm Dn0), (Dis.symm Dn1)⟩
    · show Goes p e below W s₁ (mkF m 13 #[vR ho, vR kA, vR cA, vI op, vI 2, .unset] [])
      refine Go s₁ (mkF m 14 #[vR ho, vR kA, vR cA, vI op, vI 2, .unset] [(.ref ho)]) ?_ (fun t_ k_ => XS.aloadN X0.here hx rfl (hb hby d18_13) rfl rfl k_)
      refine Go s₁ (mkF m 15 #[vR ho, vR kA, vR cA, vI op, vI 2, .unset] [(.ref kA), (.ref ho)]) ?_ (fun t_ k_ => XS.aloadN X0.here hx rfl (hb hby d18_14) rfl rfl k_)
      refine Go s₁ (mkF m 17 #[vR ho, vR kA, vR cA, vI op, vI 2, .unset] [(.int 2), (.ref kA), (.ref ho)]) ?_ (fun t_ k_ => XS.iload X0.here hx rfl (hb hby d18_15) rfl k_)
      refine Go s₁ (mkF m 18 #[vR ho, vR kA, vR cA, vI op, vI 2, .unset] [(.ref ko), (.ref ho)]) ?_ (X0.aaload hx (j := (2 : Int32)) (v := (.ref ko)) (by rw [e0]; exact AA.1) (State.isArrayOf_alike hZ.alike AA.2.1) rfl AA.2.2 (inb_of SA ⟨by decide, by decide⟩) (by have q := HA 2 (by rw [SA]; decide); exact q) (g := (mkF m 17 #[vR ho, vR kA, vR cA, vI op, vI 2, .unset] [(.int 2), (.ref kA), (.ref ho)])) rfl rfl (hb hby d18_17))
      obtain ⟨cq15, kq15, q15a, q15b, q15c⟩ := isOf hZ e0 E
      obtain ⟨_, _, ⟨T15, Lq_15, kq_15, nq_15⟩, -, X15, ⟨Lc15, hQ15, l15, y15, z15⟩, st15⟩ := X0.virtualBack hx (y := mN28) (z := mN28) hown (mvT hZ (wq hw 142 rfl)) (mvT hZ (wq hw 143 rfl)) (notFace_of_selects (args := #[]) (mvT hZ (wq hw 145 rfl))) (mvT hZ (wq hw 145 rfl)) (mvT hZ (wq hw 144 rfl)) (by decide) (backOf (W := 0) (rmGO l Z a0 hw [] B t tt i ti r tr ku ko kt ki kr ct ci cr w2 zc ho v2 v0 v1 m2 tq2 h0 n0 Z0 KY KC gB bB CS hzc X0_ E F2 F0 F1 G2 (by omega) SS.g1 SS.b1 SS.a1) hZ (wq hw 146 rfl) (wq hw 103 rfl) (by decide) (by decide)) q15a q15c (g := (mkF m 18 #[vR ho, vR kA, vR cA, vI op, vI 2, .unset] [(.ref ko), (.ref ho)])) rfl (by rw [hml]; rfl) (Steps.refl _) (argsL := [(.ref ko)]) (rest := []) (lenOf pd_16 rfl) rfl (by show 2 * 0 + _ ≤ _; exact Nat.le_of_eq rfl) (hb hby d18_18) (fun _ _ => ⟨rfl, e0, (by decide : 0 + 3 ≤ _), (by decide : 0 + 10 ≤ _)⟩)
      dsimp only [Pt.U, Pt.locs, Pt.cells, Pt.slots] at X15 l15 y15 z15 st15 hQ15
      rw [l15, y15, z15] at X15
      change Stand p l e _ _ m _ below meth c T15 _ 3 10 at X15
      obtain ⟨vn, tn, rfl, N15q, K15, KYn, En, Fn2, Fn0, Fn1, Gn2, SU⟩ := hQ15
      have N15 := Fr.app N0 N15q
      refine Go T15 (mkF m 21 #[vR ho, vR kA, vR cA, vI op, vI 2, .unset] []) ?_ (fun t => st15.trans)
      have Zr : n0 ≤ T15.heap.size := Nat.le_trans Z0 K15.1
      have gT : ∀ y ∈ tq2, n0 ≤ y := fun y hy => Nat.le_trans gB (G2.bd y hy).1
      have xr : Old Z n0 T15.heap := X0_.keep K15 (fun y hy => (List.mem_append.mp hy).elim (own_sfC (P := fun y => n0 ≤ y) KC.g1 (own_sfC KC.g2 (own_sfC KC.g3 (own_sfC SS.g1 (fun y hy => absurd hy List.not_mem_nil)))) y) (gT y))
      have nA : kA ∉ [t, i, r, ho] ++ tq2 := own_ninA (own_nin4 (own_sub3 SS.a2) SS.c1) (fun q => absurd SS.b2 (Nat.not_lt.mpr (G2.bd kA q).1))
      have nC : cA ∉ [t, i, r, ho] ++ tq2 := own_ninA (own_nin4 (own_sub3 SS.a3) SS.c2) (fun q => absurd SS.b3 (Nat.not_lt.mpr (G2.bd cA q).1))
      have VAn := VA.keep K15 nA
      have VCn := VC.keep K15 nC
      obtain ⟨cC, AC, qC, SC, MC, HC, GC⟩ := id VCn
      have Gn0 := own_hfk G0 K15 KC.lt SS.b1 D02
      have Gn1 := own_hfk G1 K15 KC.lt SS.b1 D12
      have Dn0 : Dis tn tq0 := Dis.grow (Dis.symm D02) SU (fun y hy => (G0.bd y hy).2)
      have Dn1 : Dis tn tq1 := Dis.grow (Dis.symm D12) SU (fun y hy => (G1.bd y hy).2)
      refine Go T15 (mkF m 22 #[vR ho, vR kA, vR cA, vI op, vI 2, .unset] [(.ref cA)]) ?_ (fun t_ k_ => XS.aloadN X15.here hx rfl (hb hby d18_21) rfl rfl k_)
      refine Go T15 (mkF m 24 #[vR ho, vR kA, vR cA, vI op, vI 2, .unset] [(.int 2), (.ref cA)]) ?_ (fun t_ k_ => XS.iload X15.here hx rfl (hb hby d18_22) rfl k_)
      refine Go T15 (mkF m 25 #[vR ho, vR kA, vR cA, vI op, vI 2, .unset] [(.ref cA), (.int 2), (.ref cA)]) ?_ (fun t_ k_ => XS.aloadN X15.here hx rfl (hb hby d18_24) rfl rfl k_)
      refine Go T15 (mkF m 27 #[vR ho, vR kA, vR cA, vI op, vI 2, .unset] [(.int 2), (.ref cA), (.int 2), (.ref cA)]) ?_ (fun t_ k_ => XS.iload X15.here hx rfl (hb hby d18_25) rfl k_)
      refine Go T15 (mkF m 28 #[vR ho, vR kA, vR cA, vI op, vI 2, .unset] [(.int (Int32.ofNat m2)), (.int 2), (.ref cA)]) ?_ (X15.iaload hx (j := (2 : Int32)) (v := (.int (Int32.ofNat m2))) AC.1 (State.isArrayOf_alike hZ.alike AC.2.1) AC.2.2 (inb_of SC ⟨by decide, by decide⟩) (by have q := HC 2 (by rw [SC]; decide); exact q) (g := (mkF m 27 #[vR ho, vR kA, vR cA, vI op, vI 2, .unset] [(.int 2), (.ref cA), (.int 2), (.ref cA)])) rfl rfl (hb hby d18_27))
      refine Go T15 (mkF m 29 #[vR ho, vR kA, vR cA, vI op, vI 2, .unset] [(.int 1), (.int (Int32.ofNat m2)), (.int 2), (.ref cA)]) ?_ (fun t_ k_ => XS.iconst X15.here hx rfl (hb hby d18_28) k_)
      refine Go T15 (mkF m 30 #[vR ho, vR kA, vR cA, vI op, vI 2, .unset] [(.int ((Int32.ofNat m2) + (1 : Int32))), (.int 2), (.ref cA)]) ?_ (fun t_ k_ => XS.iadd X15.here hx rfl (hb hby d18_29) rfl k_)
      obtain ⟨T16, h16, X16, e16, W16, st16⟩ := stI X15 hx hZ rfl AC (j := (2 : Int32)) (inb_of SC ⟨by decide, by decide⟩) (g := (mkF m 30 #[vR ho, vR kA, vR cA, vI op, vI 2, .unset] [(.int ((Int32.ofNat m2) + (1 : Int32))), (.int 2), (.ref cA)])) rfl rfl (hb hby d18_30)
      have N16 := Fr.snoc X16 N15 SS.g3
      have Z16 : n0 ≤ h16.size := Nat.le_trans Zr (Nat.le_of_eq W16.size.symm)
      refine Go T16 (mkF m 31 #[vR ho, vR kA, vR cA, vI op, vI 2, .unset] []) ?_ st16
      have V16 : Arv Z h16 cA kc .int 3 [.int (Int32.ofNat m0), .int (Int32.ofNat m1), .int (Int32.ofNat (m2 + 1))] (.int 0) := by have q : Arv Z h16 cA kc .int 3 [.int (Int32.ofNat m0), .int (Int32.ofNat m1), .int (Int32.ofNat m2 + (1 : Int32))] (.int 0) := Arv.set AC qC SC MC HC GC rfl W16 2 rfl (Nat.le_of_ble_eq_true rfl); rw [own_p1] at q; exact q
      refine Go T16 (mkF m 59 #[vR ho, vR kA, vR cA, vI op, vI 2, .unset] []) ?_ (fun t_ k_ => XS.goto X16.here hx rfl (pc0 := 31) (pc' := 59) rfl (hb hby d18_31) (by decide) (by decide) k_)
      have kc_ : Keep T15.heap h16 [cA] := (Keep.refl _ [cA]).wr W16 (Or.inl (List.mem_cons_self ..))
      have ka_ := KYn.keep1 kc_ SS.a3
      have fw0 := Fn0.keep kc_ (ninS (Ne.symm SS.c2) nin0)
      have gw0 := Gn0.keep kc_ (fun y hy => ninS (fun q => absurd SS.b3 (Nat.not_lt.mpr (q ▸ (Gn0.bd y hy).1))) nin0)
      have fw1 := Fn1.keep kc_ (ninS (Ne.symm SS.c2) nin0)
      have gw1 := Gn1.keep kc_ (fun y hy => ninS (fun q => absurd SS.b3 (Nat.not_lt.mpr (q ▸ (Gn1.bd y hy).1))) nin0)
      have fw2 := Fn2.keep kc_ (ninS (Ne.symm SS.c2) nin0)
      have gw2 := Gn2.keep kc_ (fun y hy => ninS (fun q => absurd SS.b3 (Nat.not_lt.mpr (q ▸ (Gn2.bd y hy).1))) nin0)
      have ew := En.keep kc_
      have vw := VAn.keep kc_ (ninS SS.c3 nin0)
      have xw : Old Z n0 h16 := xr.wr W16 SS.g3
      exact K59 _ m0 m1 (m2 + 1) _ _ _ (X16.mono (by decide) (by decide)) e16 N16 xw (Nat.le_trans K15.1 (Nat.le_of_eq W16.size.symm)) (by omega) (by omega) (by omega) ⟨ka_, ew, vw, V16, v0, v1, vn, tq0, tq1, tn, fw0, fw1, fw2, gw0, gw1, gw2, D01, (Dis.symm Dn0), (Dis.symm Dn1)⟩
def Q0 (Z : State) (h0 : Heap) (n0 : Nat) (v : Option Value) (h : Heap) (L : List Loc) : Prop := v = some (.int 1) ∧ Fr n0 L
set_option maxRecDepth 65536 in
set_option maxHeartbeats 40000000 in
theorem rm0 (l : Launch) (Z : State) (a0 : Array Value) (hw : ∀ d ∈ tables_1, d.before a0 Z = true) (ws : List Jvm.Cond) (ya0 ya1 ya2 ya3 : Int32) (zc : Int32) (h0 : Heap) (n0 : Nat) (Z0 : n0 ≤ h0.size) (hh0 : Z.heap = h0) (hn0 : n0 = h0.size) (hCH0 : CHv Z consts_1 Z.vm h0) (CS : Sta Z Z.heap "java/lang/String" "COMPACT_STRINGS" "Z" (.int zc)) (hzc : ¬ zc = (0 : Int32)) (X0_ : Old Z n0 h0) :
    MetFree l x (head1 (Jvm.Cond.code x code maxLocals ret :: ws) room_1) (fun a_ U => a_ = #[(.int ya0), (.int ya1), (.int ya2), (.int ya3)] ∧ U = Z) (fun _ _ _ _ _ => True) (fun _ U o U' => ∃ v L, o = .returned v ∧ Q0 Z h0 n0 v U'.heap L ∧ ReturnedEndW U o U' L room_1.cells room_1.slots) := by
  refine MetFree.of_bodySF (plainFor_of_name pn_9) hisR ?_
  intro p e s m args below meth c s₁ Bd hml0 hP hK
  obtain ⟨rfl, hUZ⟩ := hP
  have hZ : Z.Warmed39 s.vm := by rw [hUZ]; exact State.Warmed39.refl Z
  have hh : s.heap = h0 := by rw [hUZ]; exact hh0
  have hkeep : ∀ (b : Addr) (cl : Cell), Z.heap[b]? = some cl → s.heap[b]? = some cl := by rw [hUZ]; exact fun _ _ h => h
  have I0 : IB Z s.vm [] := by rw [hUZ]; exact IB.start
  have hS0 : s.Since s.vm h0.size := (State.WarmedH.refl s).since _
  have hx := Bd.exec
  have hby := Bd.bytes
  have hml : c.maxLocals = 16 := hml0
  have hown : s.vm.findClass "com/example/entitlement/entitlement/CountedHoldersIsEmptyPinLaw" = some m.cls := findClass_of_methodNamed Bd.named
  have hnm := (name_of_methodNamed Bd.named Bd.method).1
  have X0 : Stand p l e room_1 s m #[(.int ya0), (.int ya1), (.int ya2), (.int ya3)] below meth c s₁ [] 0 0 := Stand.of_body Bd
  have e0 : s₁.heap = h0 := by rw [← hh, Bd.state]; rfl
  have N0 := Fr.nil n0
  refine Goes.doneW ?_
  obtain ⟨W, hWd⟩ : ∃ W : State → Prop, W = EndWW s below (Q0 Z h0 n0) room_1.cells room_1.slots := ⟨_, rfl⟩
  rw [← hWd]
  have hef : entryFrame m #[(.int ya0), (.int ya1), (.int ya2), (.int ya3)] maxLocals = (mkF m 0 #[vI ya0, vI ya1, vI ya2, vI ya3, .unset, .unset, .unset, .unset, .unset, .unset, .unset, .unset, .unset, .unset, .unset, .unset] []) := by first | (simp [entryFrame, mkF, argsToLocals, Value.category, maxLocals]; done) | rfl
  rw [hef]
  have hwS := own_wS hw
  have hEL := own_EW hw
  have C0 : CHr Z consts_1 s.vm h0 s.vm h0 := CHr.refl (by rw [hUZ]; exact hCH0)
  refine Go s₁ (mkF m 1 #[vI ya0, vI ya1, vI ya2, vI ya3, .unset, .unset, .unset, .unset, .unset, .unset, .unset, .unset, .unset, .unset, .unset, .unset] [(.int ya3)]) ?_ (fun t_ k_ => XS.iloadN X0.here hx rfl (hb hby at_0) rfl k_)
  refine Go s₁ (mkF m 4 #[vI ya0, vI ya1, vI ya2, vI ya3, .unset, .unset, .unset, .unset, .unset, .unset, .unset, .unset, .unset, .unset, .unset, .unset] [(.int 255), (.int ya3)]) ?_ (fun t_ k_ => XS.sipush X0.here hx rfl (hb hby at_1) k_)
  refine Go s₁ (mkF m 5 #[vI ya0, vI ya1, vI ya2, vI ya3, .unset, .unset, .unset, .unset, .unset, .unset, .unset, .unset, .unset, .unset, .unset, .unset] [(.int (ya3 &&& (255 : Int32)))]) ?_ (fun t_ k_ => XS.iand X0.here hx rfl (hb hby at_4) rfl k_)
  refine Go s₁ (mkF m 6 #[vI ya0, vI ya1, vI ya2, vI ya3, .unset, .unset, .unset, .unset, .unset, .unset, .unset, .unset, .unset, .unset, .unset, .unset] [(.int ((ya3 &&& (255 : Int32)).toUInt32.toUInt16.toUInt32.toInt32))]) ?_ (fun t_ k_ => XS.i2c X0.here hx rfl (hb hby at_5) rfl k_)
  obtain ⟨c1, ec1, c1a, c1b⟩ := own_c255 ya3
  rw [ec1]
  refine Go s₁ (mkF m 8 #[vI ya0, vI ya1, vI ya2, vI ya3, vI c1, .unset, .unset, .unset, .unset, .unset, .unset, .unset, .unset, .unset, .unset, .unset] []) ?_ (fun t_ k_ => XS.istore X0.here hx rfl (hb hby at_6) rfl (l' := #[vI ya0, vI ya1, vI ya2, vI ya3, vI c1, .unset, .unset, .unset, .unset, .unset, .unset, .unset, .unset, .unset, .unset, .unset]) rfl k_)
  refine Go s₁ (mkF m 9 #[vI ya0, vI ya1, vI ya2, vI ya3, vI c1, .unset, .unset, .unset, .unset, .unset, .unset, .unset, .unset, .unset, .unset, .unset] [(.int ya3)]) ?_ (fun t_ k_ => XS.iloadN X0.here hx rfl (hb hby at_8) rfl k_)
  refine Go s₁ (mkF m 11 #[vI ya0, vI ya1, vI ya2, vI ya3, vI c1, .unset, .unset, .unset, .unset, .unset, .unset, .unset, .unset, .unset, .unset, .unset] [(.int 8), (.int ya3)]) ?_ (fun t_ k_ => XS.bipush X0.here hx rfl (hb hby at_9) k_)
  refine Go s₁ (mkF m 12 #[vI ya0, vI ya1, vI ya2, vI ya3, vI c1, .unset, .unset, .unset, .unset, .unset, .unset, .unset, .unset, .unset, .unset, .unset] [(.int ((ya3.toUInt32 >>> ((8 : Int32) &&& 31).toUInt32).toInt32))]) ?_ (fun t_ k_ => XS.iushr X0.here hx rfl (hb hby at_11) rfl k_)
  refine Go s₁ (mkF m 15 #[vI ya0, vI ya1, vI ya2, vI ya3, vI c1, .unset, .unset, .unset, .unset, .unset, .unset, .unset, .unset, .unset, .unset, .unset] [(.int 255), (.int ((ya3.toUInt32 >>> ((8 : Int32) &&& 31).toUInt32).toInt32))]) ?_ (fun t_ k_ => XS.sipush X0.here hx rfl (hb hby at_12) k_)
  refine Go s₁ (mkF m 16 #[vI ya0, vI ya1, vI ya2, vI ya3, vI c1, .unset, .unset, .unset, .unset, .unset, .unset, .unset, .unset, .unset, .unset, .unset] [(.int (((ya3.toUInt32 >>> ((8 : Int32) &&& 31).toUInt32).toInt32) &&& (255 : Int32)))]) ?_ (fun t_ k_ => XS.iand X0.here hx rfl (hb hby at_15) rfl k_)
  refine Go s₁ (mkF m 17 #[vI ya0, vI ya1, vI ya2, vI ya3, vI c1, .unset, .unset, .unset, .unset, .unset, .unset, .unset, .unset, .unset, .unset, .unset] [(.int ((((ya3.toUInt32 >>> ((8 : Int32) &&& 31).toUInt32).toInt32) &&& (255 : Int32)).toUInt32.toUInt16.toUInt32.toInt32))]) ?_ (fun t_ k_ => XS.i2c X0.here hx rfl (hb hby at_16) rfl k_)
  obtain ⟨c2, ec2, c2a, c2b⟩ := own_c255 ((ya3.toUInt32 >>> ((8 : Int32) &&& 31).toUInt32).toInt32)
  rw [ec2]
  refine Go s₁ (mkF m 19 #[vI ya0, vI ya1, vI ya2, vI ya3, vI c1, vI c2, .unset, .unset, .unset, .unset, .unset, .unset, .unset, .unset, .unset, .unset] []) ?_ (fun t_ k_ => XS.istore X0.here hx rfl (hb hby at_17) rfl (l' := #[vI ya0, vI ya1, vI ya2, vI ya3, vI c1, vI c2, .unset, .unset, .unset, .unset, .unset, .unset, .unset, .unset, .unset, .unset]) rfl k_)
  refine Go s₁ (mkF m 20 #[vI ya0, vI ya1, vI ya2, vI ya3, vI c1, vI c2, .unset, .unset, .unset, .unset, .unset, .unset, .unset, .unset, .unset, .unset] [(.int ya3)]) ?_ (fun t_ k_ => XS.iloadN X0.here hx rfl (hb hby at_19) rfl k_)
  refine Go s₁ (mkF m 22 #[vI ya0, vI ya1, vI ya2, vI ya3, vI c1, vI c2, .unset, .unset, .unset, .unset, .unset, .unset, .unset, .unset, .unset, .unset] [(.int 16), (.int ya3)]) ?_ (fun t_ k_ => XS.bipush X0.here hx rfl (hb hby at_20) k_)
  refine Go s₁ (mkF m 23 #[vI ya0, vI ya1, vI ya2, vI ya3, vI c1, vI c2, .unset, .unset, .unset, .unset, .unset, .unset, .unset, .unset, .unset, .unset] [(.int ((ya3.toUInt32 >>> ((16 : Int32) &&& 31).toUInt32).toInt32))]) ?_ (fun t_ k_ => XS.iushr X0.here hx rfl (hb hby at_22) rfl k_)
  refine Go s₁ (mkF m 26 #[vI ya0, vI ya1, vI ya2, vI ya3, vI c1, vI c2, .unset, .unset, .unset, .unset, .unset, .unset, .unset, .unset, .unset, .unset] [(.int 255), (.int ((ya3.toUInt32 >>> ((16 : Int32) &&& 31).toUInt32).toInt32))]) ?_ (fun t_ k_ => XS.sipush X0.here hx rfl (hb hby at_23) k_)
  refine Go s₁ (mkF m 27 #[vI ya0, vI ya1, vI ya2, vI ya3, vI c1, vI c2, .unset, .unset, .unset, .unset, .unset, .unset, .unset, .unset, .unset, .unset] [(.int (((ya3.toUInt32 >>> ((16 : Int32) &&& 31).toUInt32).toInt32) &&& (255 : Int32)))]) ?_ (fun t_ k_ => XS.iand X0.here hx rfl (hb hby at_26) rfl k_)
  refine Go s₁ (mkF m 28 #[vI ya0, vI ya1, vI ya2, vI ya3, vI c1, vI c2, .unset, .unset, .unset, .unset, .unset, .unset, .unset, .unset, .unset, .unset] [(.int ((((ya3.toUInt32 >>> ((16 : Int32) &&& 31).toUInt32).toInt32) &&& (255 : Int32)).toUInt32.toUInt16.toUInt32.toInt32))]) ?_ (fun t_ k_ => XS.i2c X0.here hx rfl (hb hby at_27) rfl k_)
  obtain ⟨c3, ec3, c3a, c3b⟩ := own_c255 ((ya3.toUInt32 >>> ((16 : Int32) &&& 31).toUInt32).toInt32)
  rw [ec3]
  refine Go s₁ (mkF m 30 #[vI ya0, vI ya1, vI ya2, vI ya3, vI c1, vI c2, vI c3, .unset, .unset, .unset, .unset, .unset, .unset, .unset, .unset, .unset] []) ?_ (fun t_ k_ => XS.istore X0.here hx rfl (hb hby at_28) rfl (l' := #[vI ya0, vI ya1, vI ya2, vI ya3, vI c1, vI c2, vI c3, .unset, .unset, .unset, .unset, .unset, .unset, .unset, .unset, .unset]) rfl k_)
  refine Go s₁ (mkF m 32 #[vI ya0, vI ya1, vI ya2, vI ya3, vI c1, vI c2, vI c3, .unset, .unset, .unset, .unset, .unset, .unset, .unset, .unset, .unset] [(.int c2)]) ?_ (fun t_ k_ => XS.iload X0.here hx rfl (hb hby at_30) rfl k_)
  refine Go s₁ (mkF m 34 #[vI ya0, vI ya1, vI ya2, vI ya3, vI c1, vI c2, vI c3, vI c2, .unset, .unset, .unset, .unset, .unset, .unset, .unset, .unset] []) ?_ (fun t_ k_ => XS.istore X0.here hx rfl (hb hby at_32) rfl (l' := #[vI ya0, vI ya1, vI ya2, vI ya3, vI c1, vI c2, vI c3, vI c2, .unset, .unset, .unset, .unset, .unset, .unset, .unset, .unset]) rfl k_)
  have J45 : ∀ ic : Int32, ¬ ic < 0 → ¬ (255 : Int32) < ic → ¬ ic = 42 → Goes p e below W s₁ (mkF m 45 #[vI ya0, vI ya1, vI ya2, vI ya3, vI c1, vI c2, vI c3, vI ic, .unset, .unset, .unset, .unset, .unset, .unset, .unset, .unset] []) := by
    intro ic ica icb ine
    refine Go s₁ (mkF m 47 #[vI ya0, vI ya1, vI ya2, vI ya3, vI c1, vI c2, vI c3, vI ic, .unset, .unset, .unset, .unset, .unset, .unset, .unset, .unset] [(.int c1)]) ?_ (fun t_ k_ => XS.iload X0.here hx rfl (hb hby at_45) rfl k_)
    obtain ⟨_, _, ⟨T1, Lq_1, kq_1, nq_1⟩, -, X1, ⟨Lc1, hQ1, l1, y1, z1⟩, st1⟩ := Jvm.LawKit.callS X0 hx (y := mN3) hown (mvT hZ (wq hw 0 rfl)) (mvT hZ (wq hw 1 rfl)) (mvT hZ (wq hw 2 rfl)) (mvT hZ (wq hw 3 rfl)) (by decide) (backOf (W := 0) (rmVO l Z a0 hw [] c1 zc h0 n0 Z0 c1a c1b CS hzc X0_) hZ (wq hw 3 rfl) (wq hw 2 rfl) (by decide) (by decide)) (g := (mkF m 47 #[vI ya0, vI ya1, vI ya2, vI ya3, vI c1, vI c2, vI c3, vI ic, .unset, .unset, .unset, .unset, .unset, .unset, .unset, .unset] [(.int c1)])) rfl (by rw [hml]; rfl) (argsL := [(.int c1)]) (rest := []) (lenOf pd_18 rfl) rfl (by show 2 * 0 + _ ≤ _; exact Nat.le_of_eq rfl) (hb hby at_47) (fun _ _ => ⟨rfl, e0, (by decide : 0 + 2 ≤ _), (by decide : 0 + 5 ≤ _)⟩)
    dsimp only [Pt.U, Pt.locs, Pt.cells, Pt.slots] at X1 l1 y1 z1 st1 hQ1
    rw [l1, y1, z1] at X1
    change Stand p l e _ _ m _ below meth c T1 _ 2 5 at X1
    obtain ⟨t, tt, kt, rfl, N1q, K1, szx1, szt1, S_t⟩ := hQ1
    have N1 := Fr.app N0 N1q
    refine Go T1 (mkF m 50 #[vI ya0, vI ya1, vI ya2, vI ya3, vI c1, vI c2, vI c3, vI ic, .unset, .unset, .unset, .unset, .unset, .unset, .unset, .unset] [(.ref t)]) ?_ st1
    have Zv1 : n0 ≤ T1.heap.size := Nat.le_trans Z0 K1.1
    have g_t : n0 ≤ t := Nat.le_trans Z0 szx1
    have Sn_t : Safe Z consts_1 s.vm h0 t := Safe.new szx1
    have hs2 := (show ∀ y ∈ ([] : List Addr), Safe Z consts_1 s.vm h0 y from fun y hy => absurd hy List.not_mem_nil)
    have Sf2_t := Safe.keep K1 hs2 C0.1 Sn_t
    have C3 := C0.trans (CHr.keep K1 hs2 C0.1)
    have lf4_X := X0_.keep K1 all0
    refine Go T1 (mkF m 52 #[vI ya0, vI ya1, vI ya2, vI ya3, vI c1, vI c2, vI c3, vI ic, vR t, .unset, .unset, .unset, .unset, .unset, .unset, .unset] []) ?_ (fun t_ k_ => XS.astore X1.here hx rfl (hb hby at_50) rfl rfl (l' := #[vI ya0, vI ya1, vI ya2, vI ya3, vI c1, vI c2, vI c3, vI ic, vR t, .unset, .unset, .unset, .unset, .unset, .unset, .unset]) rfl k_)
    refine Go T1 (mkF m 53 #[vI ya0, vI ya1, vI ya2, vI ya3, vI c1, vI c2, vI c3, vI ic, vR t, .unset, .unset, .unset, .unset, .unset, .unset, .unset] [(.int 3)]) ?_ (fun t_ k_ => XS.iconst X1.here hx rfl (hb hby at_52) k_)
    obtain ⟨T5, h5, k5, X5, e5, E5, A5, O5, st5⟩ := newR X1 hx hZ hown (wq hw 26 rfl) (wq hw 27 rfl) rfl (g := (mkF m 53 #[vI ya0, vI ya1, vI ya2, vI ya3, vI c1, vI c2, vI c3, vI ic, vR t, .unset, .unset, .unset, .unset, .unset, .unset, .unset] [(.int 3)])) rfl (hb hby at_53) rfl (by decide) (cap := 3) (by decide) (by decide) (by decide) (by decide)
    obtain ⟨b5, gb5⟩ : ∃ z, z = T1.heap.size := ⟨_, rfl⟩
    rw [← gb5] at A5 st5
    have V5 := Arv.new A5 (by decide)
    have Z5 : n0 ≤ h5.size := Nat.le_trans Zv1 E5.1
    have g_b5 : n0 ≤ b5 := Nat.le_trans Zv1 (Nat.le_of_eq gb5.symm)
    refine Go T5 (mkF m 56 #[vI ya0, vI ya1, vI ya2, vI ya3, vI c1, vI c2, vI c3, vI ic, vR t, .unset, .unset, .unset, .unset, .unset, .unset, .unset] [(.ref b5)]) ?_ st5
    have Sf6_t := Sf2_t.ext E5 C3.1
    have C7 := C3.trans (CHr.ext E5 C3.1)
    have ke5 : Keep _ _ [] := (Keep.refl _ []).ext E5
    have lf8_X := lf4_X.keep ke5 all0
    have lf8_S_t := S_t.keep ke5 nin0 nin0
    obtain ⟨kA, ekA⟩ : ∃ z, z = b5 := ⟨_, rfl⟩
    rw [← ekA] at V5 g_b5 ⊢
    have VV0 : Arv Z h5 kA k5 (.object "java/lang/Object") (3 : Int32) [.null, .null, .null] .null := V5.pad (pad_rep [] .null 3)
    refine Go T5 (mkF m 58 #[vI ya0, vI ya1, vI ya2, vI ya3, vI c1, vI c2, vI c3, vI ic, vR t, vR kA, .unset, .unset, .unset, .unset, .unset, .unset] []) ?_ (fun t_ k_ => XS.astore X5.here hx rfl (hb hby at_56) rfl rfl (l' := #[vI ya0, vI ya1, vI ya2, vI ya3, vI c1, vI c2, vI c3, vI ic, vR t, vR kA, .unset, .unset, .unset, .unset, .unset, .unset]) rfl k_)
    refine Go T5 (mkF m 60 #[vI ya0, vI ya1, vI ya2, vI ya3, vI c1, vI c2, vI c3, vI ic, vR t, vR kA, .unset, .unset, .unset, .unset, .unset, .unset] [(.ref kA)]) ?_ (fun t_ k_ => XS.aload X5.here hx rfl (hb hby at_58) rfl rfl k_)
    refine Go T5 (mkF m 61 #[vI ya0, vI ya1, vI ya2, vI ya3, vI c1, vI c2, vI c3, vI ic, vR t, vR kA, .unset, .unset, .unset, .unset, .unset, .unset] [(.int 0), (.ref kA)]) ?_ (fun t_ k_ => XS.iconst X5.here hx rfl (hb hby at_60) k_)
    refine Go T5 (mkF m 63 #[vI ya0, vI ya1, vI ya2, vI ya3, vI c1, vI c2, vI c3, vI ic, vR t, vR kA, .unset, .unset, .unset, .unset, .unset, .unset] [(.ref t), (.int 0), (.ref kA)]) ?_ (fun t_ k_ => XS.aload X5.here hx rfl (hb hby at_61) rfl rfl k_)
    obtain ⟨cc9, A9, q9, S9, M9, H9, G9⟩ := id VV0
    obtain ⟨T10, h10, X10, e10, W10, st10⟩ := stR X5 hx hZ e5 A9 (j := (0 : Int32)) (inb_of S9 ⟨by decide, by decide⟩) rfl (Sto.ofV A9 q9 O5 (Ins.of_exa lf8_S_t.exa (wq hw 28 rfl))) (g := (mkF m 63 #[vI ya0, vI ya1, vI ya2, vI ya3, vI c1, vI c2, vI c3, vI ic, vR t, vR kA, .unset, .unset, .unset, .unset, .unset, .unset] [(.ref t), (.int 0), (.ref kA)])) rfl rfl (hb hby at_63)
    have N10 := Fr.snoc X10 N1 g_b5
    have Z10 : n0 ≤ h10.size := Nat.le_trans Z5 (Nat.le_of_eq W10.size.symm)
    refine Go T10 (mkF m 64 #[vI ya0, vI ya1, vI ya2, vI ya3, vI c1, vI c2, vI c3, vI ic, vR t, vR kA, .unset, .unset, .unset, .unset, .unset, .unset] []) ?_ st10
    have Sf11_t := Safe.wr W10 (Safe.arr hZ.alike A9 (fun q => nomatch q)) C7.1 Sf6_t
    have C12 := C7.trans (CHr.wr W10 (Safe.arr hZ.alike A9 (fun q => nomatch q)) C7.1)
    have kw10 : Keep _ _ [kA] := (Keep.refl _ [kA]).wr W10 (Or.inl (List.mem_cons_self ..))
    have V10 : Arv Z h10 kA k5 (.object "java/lang/Object") (3 : Int32) [.ref t, .null, .null] .null := Arv.set A9 q9 S9 M9 H9 G9 rfl W10 0 rfl (Nat.le_of_ble_eq_true rfl)
    have lf13_X := lf8_X.keep kw10 (allS g_b5 all0)
    have lf13_S_t := lf8_S_t.keep kw10 (ninS (Exa.neArv lf8_S_t.exa VV0 (wq hw 10 rfl)) nin0) (ninS (own_arvne lf8_S_t.arv VV0 (fun q => nomatch q)) nin0)
    refine Go T10 (mkF m 66 #[vI ya0, vI ya1, vI ya2, vI ya3, vI c1, vI c2, vI c3, vI ic, vR t, vR kA, .unset, .unset, .unset, .unset, .unset, .unset] [(.ref kA)]) ?_ (fun t_ k_ => XS.aload X10.here hx rfl (hb hby at_64) rfl rfl k_)
    refine Go T10 (mkF m 67 #[vI ya0, vI ya1, vI ya2, vI ya3, vI c1, vI c2, vI c3, vI ic, vR t, vR kA, .unset, .unset, .unset, .unset, .unset, .unset] [(.int 1), (.ref kA)]) ?_ (fun t_ k_ => XS.iconst X10.here hx rfl (hb hby at_66) k_)
    refine Go T10 (mkF m 69 #[vI ya0, vI ya1, vI ya2, vI ya3, vI c1, vI c2, vI c3, vI ic, vR t, vR kA, .unset, .unset, .unset, .unset, .unset, .unset] [(.ref t), (.int 1), (.ref kA)]) ?_ (fun t_ k_ => XS.aload X10.here hx rfl (hb hby at_67) rfl rfl k_)
    refine Go T10 (mkF m 71 #[vI ya0, vI ya1, vI ya2, vI ya3, vI c1, vI c2, vI c3, vI ic, vR t, vR kA, .unset, .unset, .unset, .unset, .unset, .unset] [(.int ic), (.ref t), (.int 1), (.ref kA)]) ?_ (fun t_ k_ => XS.iload X10.here hx rfl (hb hby at_69) rfl k_)
    obtain ⟨_, _, ⟨T14, Lq_14, kq_14, nq_14⟩, -, X14, ⟨Lc14, hQ14, l14, y14, z14⟩, st14⟩ := Jvm.LawKit.callS X10 hx (y := mN3) hown (mvT hZ (wq hw 0 rfl)) (mvT hZ (wq hw 1 rfl)) (mvT hZ (wq hw 2 rfl)) (mvT hZ (wq hw 3 rfl)) (by decide) (backOf (W := 3) (rmVO l Z a0 hw [] ic zc h10 n0 Z10 ica icb CS hzc lf13_X) hZ (wq hw 3 rfl) (wq hw 2 rfl) (by decide) (by decide)) (g := (mkF m 71 #[vI ya0, vI ya1, vI ya2, vI ya3, vI c1, vI c2, vI c3, vI ic, vR t, vR kA, .unset, .unset, .unset, .unset, .unset, .unset] [(.int ic), (.ref t), (.int 1), (.ref kA)])) rfl (by rw [hml]; rfl) (argsL := [(.int ic)]) (rest := [(.ref t), (.int 1), (.ref kA)]) (lenOf pd_18 rfl) rfl (by show 2 * 0 + _ ≤ _; exact Nat.le_of_eq rfl) (hb hby at_71) (fun _ _ => ⟨rfl, e10, (by decide : 3 + 2 ≤ _), (by decide : 8 + 5 ≤ _)⟩)
    dsimp only [Pt.U, Pt.locs, Pt.cells, Pt.slots] at X14 l14 y14 z14 st14 hQ14
    rw [l14, y14, z14] at X14
    change Stand p l e _ _ m _ below meth c T14 _ 5 13 at X14
    obtain ⟨i, ti, ki, rfl, N14q, K14, szx14, szt14, S_i⟩ := hQ14
    have N14 := Fr.app N10 N14q
    refine Go T14 (mkF m 74 #[vI ya0, vI ya1, vI ya2, vI ya3, vI c1, vI c2, vI c3, vI ic, vR t, vR kA, .unset, .unset, .unset, .unset, .unset, .unset] [(.ref i), (.ref t), (.int 1), (.ref kA)]) ?_ st14
    have Zv14 : n0 ≤ T14.heap.size := Nat.le_trans Z10 K14.1
    have g_i : n0 ≤ i := Nat.le_trans Z10 szx14
    have ne_t_i : t ≠ i := Nat.ne_of_lt (Nat.lt_of_lt_of_le lf13_S_t.exa.lt szx14)
    have Sn_i : Safe Z consts_1 s.vm h10 i := Safe.new szx14
    have hs15 := (show ∀ y ∈ ([] : List Addr), Safe Z consts_1 s.vm h10 y from fun y hy => absurd hy List.not_mem_nil)
    have Sf15_t := Safe.keep K14 hs15 C12.1 Sf11_t
    have Sf15_i := Safe.keep K14 hs15 C12.1 Sn_i
    have C16 := C12.trans (CHr.keep K14 hs15 C12.1)
    have lf17_X := lf13_X.keep K14 all0
    have lf17_S_t := lf13_S_t.keep K14 nin0 nin0
    have lf17_VA := V10.keep K14 nin0
    refine Go T14 (mkF m 76 #[vI ya0, vI ya1, vI ya2, vI ya3, vI c1, vI c2, vI c3, vI ic, vR t, vR kA, .unset, .unset, .unset, .unset, .unset, .unset] [(.int c3), (.ref i), (.ref t), (.int 1), (.ref kA)]) ?_ (fun t_ k_ => XS.iload X14.here hx rfl (hb hby at_74) rfl k_)
    obtain ⟨_, _, ⟨T18, Lq_18, kq_18, nq_18⟩, -, X18, ⟨Lc18, hQ18, l18, y18, z18⟩, st18⟩ := Jvm.LawKit.callS X14 hx (y := mN3) hown (mvT hZ (wq hw 0 rfl)) (mvT hZ (wq hw 1 rfl)) (mvT hZ (wq hw 2 rfl)) (mvT hZ (wq hw 3 rfl)) (by decide) (backOf (W := 4) (rmVO l Z a0 hw [] c3 zc T14.heap n0 Zv14 c3a c3b CS hzc lf17_X) hZ (wq hw 3 rfl) (wq hw 2 rfl) (by decide) (by decide)) (g := (mkF m 76 #[vI ya0, vI ya1, vI ya2, vI ya3, vI c1, vI c2, vI c3, vI ic, vR t, vR kA, .unset, .unset, .unset, .unset, .unset, .unset] [(.int c3), (.ref i), (.ref t), (.int 1), (.ref kA)])) rfl (by rw [hml]; rfl) (argsL := [(.int c3)]) (rest := [(.ref i), (.ref t), (.int 1), (.ref kA)]) (lenOf pd_18 rfl) rfl (by show 2 * 0 + _ ≤ _; exact Nat.le_of_eq rfl) (hb hby at_76) (fun _ _ => ⟨rfl, rfl, (by decide : 5 + 2 ≤ _), (by decide : 13 + 5 ≤ _)⟩)
    dsimp only [Pt.U, Pt.locs, Pt.cells, Pt.slots] at X18 l18 y18 z18 st18 hQ18
    rw [l18, y18, z18] at X18
    change Stand p l e _ _ m _ below meth c T18 _ 7 18 at X18
    obtain ⟨r, tr, kr, rfl, N18q, K18, szx18, szt18, S_r⟩ := hQ18
    have N18 := Fr.app N14 N18q
    refine Go T18 (mkF m 79 #[vI ya0, vI ya1, vI ya2, vI ya3, vI c1, vI c2, vI c3, vI ic, vR t, vR kA, .unset, .unset, .unset, .unset, .unset, .unset] [(.ref r), (.ref i), (.ref t), (.int 1), (.ref kA)]) ?_ st18
    have Zv18 : n0 ≤ T18.heap.size := Nat.le_trans Zv14 K18.1
    have g_r : n0 ≤ r := Nat.le_trans Zv14 szx18
    have ne_t_r : t ≠ r := Nat.ne_of_lt (Nat.lt_of_lt_of_le lf17_S_t.exa.lt szx18)
    have ne_i_r : i ≠ r := Nat.ne_of_lt (Nat.lt_of_lt_of_le S_i.exa.lt szx18)
    have Sn_r : Safe Z consts_1 s.vm T14.heap r := Safe.new szx18
    have hs19 := (show ∀ y ∈ ([] : List Addr), Safe Z consts_1 s.vm T14.heap y from fun y hy => absurd hy List.not_mem_nil)
    have Sf19_t := Safe.keep K18 hs19 C16.1 Sf15_t
    have Sf19_i := Safe.keep K18 hs19 C16.1 Sf15_i
    have Sf19_r := Safe.keep K18 hs19 C16.1 Sn_r
    have C20 := C16.trans (CHr.keep K18 hs19 C16.1)
    have lf21_X := lf17_X.keep K18 all0
    have lf21_S_t := lf17_S_t.keep K18 nin0 nin0
    have lf21_VA := lf17_VA.keep K18 nin0
    have lf21_S_i := S_i.keep K18 nin0 nin0
    obtain ⟨_, _, ⟨T22, Lq_22, kq_22, nq_22⟩, -, X22a, S22a, G22a, ⟨Lc22, hQ22, l22, y22, z22, D22⟩, st22⟩ := Jvm.RoadKit.callSS (s := s.setVm s.vm) X18 hx (y := mN11) hown (mvT hZ (wq hw 29 rfl)) (mvT hZ (wq hw 30 rfl)) (mvT hZ (wq hw 31 rfl)) (mvT hZ (wq hw 32 rfl)) (by decide) (backSH (s := s) (vm0 := s.vm) (W := 2) (xs := []) (rmUU l Z a0 hw [] t i r ti ki ic zc T18.heap n0 Zv18 hEL lf21_S_t.exa lf21_S_i.1 (own_not42 ica icb ine) CS hzc lf21_X) hZ (wq hw 32 rfl) (wq hw 31 rfl) (by decide) (by decide) hEL C20.1 (fun y hy => absurd hy List.not_mem_nil)) (g := (mkF m 79 #[vI ya0, vI ya1, vI ya2, vI ya3, vI c1, vI c2, vI c3, vI ic, vR t, vR kA, .unset, .unset, .unset, .unset, .unset, .unset] [(.ref r), (.ref i), (.ref t), (.int 1), (.ref kA)])) rfl (by rw [hml]; rfl) (argsL := [(.ref t), (.ref i), (.ref r)]) (rest := [(.int 1), (.ref kA)]) (lenOf pd_19 rfl) rfl (by show 2 * 0 + _ ≤ _; exact Nat.le_of_eq rfl) (hb hby at_79) (fun _ _ => ⟨rfl, rfl, (by decide : 7 + 9 ≤ _), (by decide : 18 + 79 ≤ _)⟩)
    dsimp only [Pt.U, Pt.locs, Pt.cells, Pt.slots] at X22a S22a G22a l22 y22 z22 st22 hQ22 D22
    rw [l22, y22, z22] at X22a
    obtain ⟨X22, hS22, hZ, hown⟩ := rebS (s := s) (vm0 := s.vm) hS0 (Nat.le_trans (Nat.le_trans (Nat.le_trans (Nat.le_trans (Nat.le_trans (Nat.le_refl _) K1.1) E5.1) (Nat.le_of_eq W10.size.symm)) K14.1) K18.1) X22a S22a G22a hZ hown
    change Stand p l e _ _ m _ below meth c T22 _ 16 97 at X22
    obtain ⟨ku, rfl, N22q, K22, szb, U0, U1, U2, U3⟩ := hQ22
    have N22 := Fr.app N18 N22q
    have Sf22_t := D22.safe lf21_S_t.exa.lt Sf19_t
    have Sf22_i := D22.safe lf21_S_i.exa.lt Sf19_i
    have Sf22_r := D22.safe S_r.exa.lt Sf19_r
    have Z22 : n0 ≤ T22.heap.size := Nat.le_trans Zv18 D22.2.1
    have C23 := C20.trans D22
    refine Go T22 (mkF m 82 #[vI ya0, vI ya1, vI ya2, vI ya3, vI c1, vI c2, vI c3, vI ic, vR t, vR kA, .unset, .unset, .unset, .unset, .unset, .unset] [(.ref ku), (.int 1), (.ref kA)]) ?_ (fun t => st22.trans)
    have lf24_X := lf21_X.keep K22 all0
    have lf24_S_t := lf21_S_t.keep K22 nin0 nin0
    have lf24_VA := lf21_VA.keep K22 nin0
    have lf24_S_i := lf21_S_i.keep K22 nin0 nin0
    have lf24_S_r := S_r.keep K22 nin0 nin0
    obtain ⟨cc25, A25, q25, S25, M25, H25, G25⟩ := id lf24_VA
    obtain ⟨T26, h26, X26, e26, W26, st26⟩ := stR X22 hx hZ rfl A25 (j := (1 : Int32)) (inb_of S25 ⟨by decide, by decide⟩) rfl (Sto.ofV A25 q25 O5 (Ins.of_exa U0 (wq hw 64 rfl))) (g := (mkF m 82 #[vI ya0, vI ya1, vI ya2, vI ya3, vI c1, vI c2, vI c3, vI ic, vR t, vR kA, .unset, .unset, .unset, .unset, .unset, .unset] [(.ref ku), (.int 1), (.ref kA)])) rfl rfl (hb hby at_82)
    have N26 := Fr.snoc X26 N22 g_b5
    have Z26 : n0 ≤ h26.size := Nat.le_trans Z22 (Nat.le_of_eq W26.size.symm)
    refine Go T26 (mkF m 83 #[vI ya0, vI ya1, vI ya2, vI ya3, vI c1, vI c2, vI c3, vI ic, vR t, vR kA, .unset, .unset, .unset, .unset, .unset, .unset] []) ?_ st26
    have Sf27_t := Safe.wr W26 (Safe.arr hZ.alike A25 (fun q => nomatch q)) C23.1 Sf22_t
    have Sf27_i := Safe.wr W26 (Safe.arr hZ.alike A25 (fun q => nomatch q)) C23.1 Sf22_i
    have Sf27_r := Safe.wr W26 (Safe.arr hZ.alike A25 (fun q => nomatch q)) C23.1 Sf22_r
    have C28 := C23.trans (CHr.wr W26 (Safe.arr hZ.alike A25 (fun q => nomatch q)) C23.1)
    have kw26 : Keep _ _ [kA] := (Keep.refl _ [kA]).wr W26 (Or.inl (List.mem_cons_self ..))
    have V26 : Arv Z h26 kA k5 (.object "java/lang/Object") (3 : Int32) [.ref t, .ref ku, .null] .null := Arv.set A25 q25 S25 M25 H25 G25 rfl W26 1 rfl (Nat.le_of_ble_eq_true rfl)
    have lf29_X := lf24_X.keep kw26 (allS g_b5 all0)
    have lf29_S_t := lf24_S_t.keep kw26 (ninS (Exa.neArv lf24_S_t.exa lf24_VA (wq hw 10 rfl)) nin0) (ninS (own_arvne lf24_S_t.arv lf24_VA (fun q => nomatch q)) nin0)
    have lf29_S_i := lf24_S_i.keep kw26 (ninS (Exa.neArv lf24_S_i.exa lf24_VA (wq hw 10 rfl)) nin0) (ninS (own_arvne lf24_S_i.arv lf24_VA (fun q => nomatch q)) nin0)
    have lf29_S_r := lf24_S_r.keep kw26 (ninS (Exa.neArv lf24_S_r.exa lf24_VA (wq hw 10 rfl)) nin0) (ninS (own_arvne lf24_S_r.arv lf24_VA (fun q => nomatch q)) nin0)
    have lf29_U0 := U0.keep kw26
    have lf29_U1 := U1.keep kw26 (ninS (Exa.neArv U0 lf24_VA (wq hw 50 rfl)) nin0)
    have lf29_U2 := U2.keep kw26 (ninS (Exa.neArv U0 lf24_VA (wq hw 50 rfl)) nin0)
    have lf29_U3 := U3.keep kw26 (ninS (Exa.neArv U0 lf24_VA (wq hw 50 rfl)) nin0)
    refine Go T26 (mkF m 85 #[vI ya0, vI ya1, vI ya2, vI ya3, vI c1, vI c2, vI c3, vI ic, vR t, vR kA, .unset, .unset, .unset, .unset, .unset, .unset] [(.ref kA)]) ?_ (fun t_ k_ => XS.aload X26.here hx rfl (hb hby at_83) rfl rfl k_)
    refine Go T26 (mkF m 86 #[vI ya0, vI ya1, vI ya2, vI ya3, vI c1, vI c2, vI c3, vI ic, vR t, vR kA, .unset, .unset, .unset, .unset, .unset, .unset] [(.int 2), (.ref kA)]) ?_ (fun t_ k_ => XS.iconst X26.here hx rfl (hb hby at_85) k_)
    obtain ⟨T30, h30, X30, e30, E30, A30, D30, -, st30⟩ := newO X26 hx hZ hown (wq hw 65 rfl) (wq hw 66 rfl) (wq hw 67 rfl) e26 (g := (mkF m 86 #[vI ya0, vI ya1, vI ya2, vI ya3, vI c1, vI c2, vI c3, vI ic, vR t, vR kA, .unset, .unset, .unset, .unset, .unset, .unset] [(.int 2), (.ref kA)])) rfl (hb hby at_86) (by decide) (by decide)
    obtain ⟨b30, gb30⟩ : ∃ z, z = h26.size := ⟨_, rfl⟩
    rw [← gb30] at A30 D30 st30
    have Z30 : n0 ≤ h30.size := Nat.le_trans Z26 E30.1
    have g_b30 : n0 ≤ b30 := Nat.le_trans Z26 (Nat.le_of_eq gb30.symm)
    refine Go T30 (mkF m 89 #[vI ya0, vI ya1, vI ya2, vI ya3, vI c1, vI c2, vI c3, vI ic, vR t, vR kA, .unset, .unset, .unset, .unset, .unset, .unset] [(.ref b30), (.int 2), (.ref kA)]) ?_ st30
    have Sf31_t := Sf27_t.ext E30 C28.1
    have Sf31_i := Sf27_i.ext E30 C28.1
    have Sf31_r := Sf27_r.ext E30 C28.1
    have C32 := C28.trans (CHr.ext E30 C28.1)
    have ke30 : Keep _ _ [] := (Keep.refl _ []).ext E30
    have lf33_X := lf29_X.keep ke30 all0
    have lf33_S_t := lf29_S_t.keep ke30 nin0 nin0
    have lf33_VA := V26.keep ke30 nin0
    have lf33_S_i := lf29_S_i.keep ke30 nin0 nin0
    have lf33_S_r := lf29_S_r.keep ke30 nin0 nin0
    have lf33_U0 := lf29_U0.keep ke30
    have lf33_U1 := lf29_U1.keep ke30 nin0
    have lf33_U2 := lf29_U2.keep ke30 nin0
    have lf33_U3 := lf29_U3.keep ke30 nin0
    have F30_type : Fld Z h30 b30 "com/example/entitlement/entitlement/ObjectRef" "type" "Ljava/lang/String;" .null := D30 (Or.inr (wq hw 76 rfl)) (ty := (.object "java/lang/String")) (by decide)
    have F30_id : Fld Z h30 b30 "com/example/entitlement/entitlement/ObjectRef" "id" "Ljava/lang/String;" .null := D30 (Or.inr (wq hw 79 rfl)) (ty := (.object "java/lang/String")) (by decide)
    have F30_hash : Fld Z h30 b30 "com/example/entitlement/entitlement/ObjectRef" "hash" "I" (.int 0) := D30 (Or.inr (wq hw 98 rfl)) (ty := .int) (by decide)
    obtain ⟨ko, ek2⟩ : ∃ z, z = b30 := ⟨_, rfl⟩
    rw [← ek2] at A30 g_b30 F30_type F30_id F30_hash ⊢
    refine Go T30 (mkF m 90 #[vI ya0, vI ya1, vI ya2, vI ya3, vI c1, vI c2, vI c3, vI ic, vR t, vR kA, .unset, .unset, .unset, .unset, .unset, .unset] [(.ref ko), (.ref ko), (.int 2), (.ref kA)]) ?_ (fun t_ k_ => XS.dup X30.here hx rfl (hb hby at_89) rfl rfl k_)
    refine Go T30 (mkF m 92 #[vI ya0, vI ya1, vI ya2, vI ya3, vI c1, vI c2, vI c3, vI ic, vR t, vR kA, .unset, .unset, .unset, .unset, .unset, .unset] [(.ref t), (.ref ko), (.ref ko), (.int 2), (.ref kA)]) ?_ (fun t_ k_ => XS.aload X30.here hx rfl (hb hby at_90) rfl rfl k_)
    refine Go T30 (mkF m 94 #[vI ya0, vI ya1, vI ya2, vI ya3, vI c1, vI c2, vI c3, vI ic, vR t, vR kA, .unset, .unset, .unset, .unset, .unset, .unset] [(.int c2), (.ref t), (.ref ko), (.ref ko), (.int 2), (.ref kA)]) ?_ (fun t_ k_ => XS.iload X30.here hx rfl (hb hby at_92) rfl k_)
    obtain ⟨_, _, ⟨T34, Lq_34, kq_34, nq_34⟩, -, X34, ⟨Lc34, hQ34, l34, y34, z34⟩, st34⟩ := Jvm.LawKit.callS X30 hx (y := mN3) hown (mvT hZ (wq hw 0 rfl)) (mvT hZ (wq hw 1 rfl)) (mvT hZ (wq hw 2 rfl)) (mvT hZ (wq hw 3 rfl)) (by decide) (backOf (W := 5) (rmVO l Z a0 hw [] c2 zc h30 n0 Z30 c2a c2b CS hzc lf33_X) hZ (wq hw 3 rfl) (wq hw 2 rfl) (by decide) (by decide)) (g := (mkF m 94 #[vI ya0, vI ya1, vI ya2, vI ya3, vI c1, vI c2, vI c3, vI ic, vR t, vR kA, .unset, .unset, .unset, .unset, .unset, .unset] [(.int c2), (.ref t), (.ref ko), (.ref ko), (.int 2), (.ref kA)])) rfl (by rw [hml]; rfl) (argsL := [(.int c2)]) (rest := [(.ref t), (.ref ko), (.ref ko), (.int 2), (.ref kA)]) (lenOf pd_18 rfl) rfl (by show 2 * 0 + _ ≤ _; exact Nat.le_of_eq rfl) (hb hby at_94) (fun _ _ => ⟨rfl, e30, (by decide : 17 + 2 ≤ _), (by decide : 100 + 5 ≤ _)⟩)
    dsimp only [Pt.U, Pt.locs, Pt.cells, Pt.slots] at X34 l34 y34 z34 st34 hQ34
    rw [l34, y34, z34] at X34
    change Stand p l e _ _ m _ below meth c T34 _ 19 105 at X34
    obtain ⟨jd, jt, kj, rfl, N34q, K34, szx34, szt34, S_jd⟩ := hQ34
    have N34 := Fr.app N26 N34q
    refine Go T34 (mkF m 97 #[vI ya0, vI ya1, vI ya2, vI ya3, vI c1, vI c2, vI c3, vI ic, vR t, vR kA, .unset, .unset, .unset, .unset, .unset, .unset] [(.ref jd), (.ref t), (.ref ko), (.ref ko), (.int 2), (.ref kA)]) ?_ st34
    have Zv34 : n0 ≤ T34.heap.size := Nat.le_trans Z30 K34.1
    have g_jd : n0 ≤ jd := Nat.le_trans Z30 szx34
    have ne_t_jd : t ≠ jd := Nat.ne_of_lt (Nat.lt_of_lt_of_le lf33_S_t.exa.lt szx34)
    have ne_i_jd : i ≠ jd := Nat.ne_of_lt (Nat.lt_of_lt_of_le lf33_S_i.exa.lt szx34)
    have ne_r_jd : r ≠ jd := Nat.ne_of_lt (Nat.lt_of_lt_of_le lf33_S_r.exa.lt szx34)
    have Sn_jd : Safe Z consts_1 T22.vm h30 jd := Safe.new szx34
    have hs35 := (show ∀ y ∈ ([] : List Addr), Safe Z consts_1 T22.vm h30 y from fun y hy => absurd hy List.not_mem_nil)
    have Sf35_t := Safe.keep K34 hs35 C32.1 Sf31_t
    have Sf35_i := Safe.keep K34 hs35 C32.1 Sf31_i
    have Sf35_r := Safe.keep K34 hs35 C32.1 Sf31_r
    have Sf35_jd := Safe.keep K34 hs35 C32.1 Sn_jd
    have C36 := C32.trans (CHr.keep K34 hs35 C32.1)
    have lf37_X := lf33_X.keep K34 all0
    have lf37_S_t := lf33_S_t.keep K34 nin0 nin0
    have lf37_VA := lf33_VA.keep K34 nin0
    have lf37_S_i := lf33_S_i.keep K34 nin0 nin0
    have lf37_S_r := lf33_S_r.keep K34 nin0 nin0
    have lf37_U0 := lf33_U0.keep K34
    have lf37_U1 := lf33_U1.keep K34 nin0
    have lf37_U2 := lf33_U2.keep K34 nin0
    have lf37_U3 := lf33_U3.keep K34 nin0
    have lf37_O0 := A30.keep K34
    have lf37_Of0 := F30_type.keep K34 nin0
    have lf37_Of1 := F30_id.keep K34 nin0
    have lf37_Of2 := F30_hash.keep K34 nin0
    obtain ⟨_, _, ⟨T38, Lq_38, kq_38, nq_38⟩, -, X38a, S38a, G38a, ⟨Lc38, hQ38, l38, y38, z38, D38⟩, st38⟩ := Jvm.Stand.specialBackS (s := s.setVm T22.vm) X34 hx (y := mN12) rfl hown (mvT hZ (wq hw 68 rfl)) (mvT hZ (wq hw 69 rfl)) (mvT hZ (wq hw 70 rfl)) (by decide) (backSH (s := s) (vm0 := T22.vm) (W := 3) (xs := [t, jd]) (rmOI l Z a0 hw [] ko t jd tt jt kt kj c1 c2 zc T34.heap n0 Zv34 hEL lf37_O0 lf37_Of0 lf37_Of1 lf37_Of2 g_b30 lf37_S_t S_jd g_t g_jd ne_t_jd c1a c1b c2a c2b CS hzc lf37_X) hZ (wq hw 70 rfl) (wq hw 67 rfl) (by decide) (by decide) hEL C36.1 (own_sfC ⟨lf37_S_t.exa.lt, Sf35_t⟩ (own_sfC ⟨S_jd.exa.lt, Sf35_jd⟩ (fun y hy => absurd hy List.not_mem_nil)))) (g := (mkF m 97 #[vI ya0, vI ya1, vI ya2, vI ya3, vI c1, vI c2, vI c3, vI ic, vR t, vR kA, .unset, .unset, .unset, .unset, .unset, .unset] [(.ref jd), (.ref t), (.ref ko), (.ref ko), (.int 2), (.ref kA)])) rfl (by rw [hml]; rfl) (Steps.refl _) (a := ko) (argsL := [(.ref t), (.ref jd)]) (rest := [(.ref ko), (.int 2), (.ref kA)]) (lenOf pd_20 rfl) rfl (by show 2 * 0 + _ ≤ _; exact Nat.le_of_eq rfl) (hb hby at_97) (fun _ _ => ⟨rfl, rfl, (by decide : 19 + 4 ≤ _), (by decide : 105 + 32 ≤ _)⟩)
    dsimp only [Pt.U, Pt.locs, Pt.cells, Pt.slots] at X38a S38a G38a l38 y38 z38 st38 hQ38 D38
    rw [l38, y38, z38] at X38a
    obtain ⟨X38, hS38, hZ, hown⟩ := rebS (s := s) (vm0 := T22.vm) hS22 (Nat.le_trans (Nat.le_trans (Nat.le_trans (Nat.le_refl _) (Nat.le_of_eq W26.size.symm)) E30.1) K34.1) X38a S38a G38a hZ hown
    change Stand p l e _ _ m _ below meth c T38 _ 23 137 at X38
    obtain ⟨rfl, N38q, K38, O0n, O1n, S_tn⟩ := hQ38
    have N38 := Fr.app N34 N38q
    have Sf38_t := D38.safe lf37_S_t.exa.lt Sf35_t
    have Sf38_i := D38.safe lf37_S_i.exa.lt Sf35_i
    have Sf38_r := D38.safe lf37_S_r.exa.lt Sf35_r
    have Sf38_jd := D38.safe S_jd.exa.lt Sf35_jd
    have Z38 : n0 ≤ T38.heap.size := Nat.le_trans Zv34 D38.2.1
    have C39 := C36.trans D38
    refine Go T38 (mkF m 100 #[vI ya0, vI ya1, vI ya2, vI ya3, vI c1, vI c2, vI c3, vI ic, vR t, vR kA, .unset, .unset, .unset, .unset, .unset, .unset] [(.ref ko), (.int 2), (.ref kA)]) ?_ (fun t => st38.trans)
    have lf40_X := lf37_X.keep K38 (allS g_b30 (allS g_t (allS g_jd all0)))
    have lf40_VA := lf37_VA.keep K38 (ninS (Ne.symm (Exa.neArv lf37_O0 lf37_VA (wq hw 66 rfl))) (ninS (Ne.symm (Exa.neArv lf37_S_t.exa lf37_VA (wq hw 10 rfl))) (ninS (Ne.symm (Exa.neArv S_jd.exa lf37_VA (wq hw 10 rfl))) nin0)))
    have lf40_S_i := lf37_S_i.keep K38 (ninS (Exa.ne lf37_S_i.exa lf37_O0 (by decide)) (ninS (Ne.symm ne_t_i) (ninS ne_i_jd nin0))) (ninS (Ne.symm (Exa.neArv lf37_O0 lf37_S_i.arv (wq hw 66 rfl))) (ninS (Ne.symm (Exa.neArv lf37_S_t.exa lf37_S_i.arv (wq hw 10 rfl))) (ninS (Ne.symm (Exa.neArv S_jd.exa lf37_S_i.arv (wq hw 10 rfl))) nin0)))
    have lf40_S_r := lf37_S_r.keep K38 (ninS (Exa.ne lf37_S_r.exa lf37_O0 (by decide)) (ninS (Ne.symm ne_t_r) (ninS ne_r_jd nin0))) (ninS (Ne.symm (Exa.neArv lf37_O0 lf37_S_r.arv (wq hw 66 rfl))) (ninS (Ne.symm (Exa.neArv lf37_S_t.exa lf37_S_r.arv (wq hw 10 rfl))) (ninS (Ne.symm (Exa.neArv S_jd.exa lf37_S_r.arv (wq hw 10 rfl))) nin0)))
    have lf40_U0 := lf37_U0.keep K38
    have lf40_U1 := lf37_U1.keep K38 (ninS (Exa.ne lf37_U0 lf37_O0 (by decide)) (ninS (Exa.ne lf37_U0 lf37_S_t.exa (by decide)) (ninS (Exa.ne lf37_U0 S_jd.exa (by decide)) nin0)))
    have lf40_U2 := lf37_U2.keep K38 (ninS (Exa.ne lf37_U0 lf37_O0 (by decide)) (ninS (Exa.ne lf37_U0 lf37_S_t.exa (by decide)) (ninS (Exa.ne lf37_U0 S_jd.exa (by decide)) nin0)))
    have lf40_U3 := lf37_U3.keep K38 (ninS (Exa.ne lf37_U0 lf37_O0 (by decide)) (ninS (Exa.ne lf37_U0 lf37_S_t.exa (by decide)) (ninS (Exa.ne lf37_U0 S_jd.exa (by decide)) nin0)))
    obtain ⟨cc41, A41, q41, S41, M41, H41, G41⟩ := id lf40_VA
    obtain ⟨T42, h42, X42, e42, W42, st42⟩ := stR X38 hx hZ rfl A41 (j := (2 : Int32)) (inb_of S41 ⟨by decide, by decide⟩) rfl (Sto.ofV A41 q41 O5 (Ins.of_exa O0n (wq hw 99 rfl))) (g := (mkF m 100 #[vI ya0, vI ya1, vI ya2, vI ya3, vI c1, vI c2, vI c3, vI ic, vR t, vR kA, .unset, .unset, .unset, .unset, .unset, .unset] [(.ref ko), (.int 2), (.ref kA)])) rfl rfl (hb hby at_100)
    have N42 := Fr.snoc X42 N38 g_b5
    have Z42 : n0 ≤ h42.size := Nat.le_trans Z38 (Nat.le_of_eq W42.size.symm)
    refine Go T42 (mkF m 101 #[vI ya0, vI ya1, vI ya2, vI ya3, vI c1, vI c2, vI c3, vI ic, vR t, vR kA, .unset, .unset, .unset, .unset, .unset, .unset] []) ?_ st42
    have Sf43_t := Safe.wr W42 (Safe.arr hZ.alike A41 (fun q => nomatch q)) C39.1 Sf38_t
    have Sf43_i := Safe.wr W42 (Safe.arr hZ.alike A41 (fun q => nomatch q)) C39.1 Sf38_i
    have Sf43_r := Safe.wr W42 (Safe.arr hZ.alike A41 (fun q => nomatch q)) C39.1 Sf38_r
    have Sf43_jd := Safe.wr W42 (Safe.arr hZ.alike A41 (fun q => nomatch q)) C39.1 Sf38_jd
    have C44 := C39.trans (CHr.wr W42 (Safe.arr hZ.alike A41 (fun q => nomatch q)) C39.1)
    have kw42 : Keep _ _ [kA] := (Keep.refl _ [kA]).wr W42 (Or.inl (List.mem_cons_self ..))
    have V42 : Arv Z h42 kA k5 (.object "java/lang/Object") (3 : Int32) [.ref t, .ref ku, .ref ko] .null := Arv.set A41 q41 S41 M41 H41 G41 rfl W42 2 rfl (Nat.le_of_ble_eq_true rfl)
    have lf45_X := lf40_X.keep kw42 (allS g_b5 all0)
    have lf45_S_t := S_tn.keep kw42 (ninS (Exa.neArv S_tn.exa lf40_VA (wq hw 10 rfl)) nin0) (ninS (own_arvne S_tn.arv lf40_VA (fun q => nomatch q)) nin0)
    have lf45_S_i := lf40_S_i.keep kw42 (ninS (Exa.neArv lf40_S_i.exa lf40_VA (wq hw 10 rfl)) nin0) (ninS (own_arvne lf40_S_i.arv lf40_VA (fun q => nomatch q)) nin0)
    have lf45_S_r := lf40_S_r.keep kw42 (ninS (Exa.neArv lf40_S_r.exa lf40_VA (wq hw 10 rfl)) nin0) (ninS (own_arvne lf40_S_r.arv lf40_VA (fun q => nomatch q)) nin0)
    have lf45_U0 := lf40_U0.keep kw42
    have lf45_U1 := lf40_U1.keep kw42 (ninS (Exa.neArv lf40_U0 lf40_VA (wq hw 50 rfl)) nin0)
    have lf45_U2 := lf40_U2.keep kw42 (ninS (Exa.neArv lf40_U0 lf40_VA (wq hw 50 rfl)) nin0)
    have lf45_U3 := lf40_U3.keep kw42 (ninS (Exa.neArv lf40_U0 lf40_VA (wq hw 50 rfl)) nin0)
    have lf45_O0 := O0n.keep kw42
    have lf45_O1 := O1n.keep kw42 (ninS (Exa.neArv O0n lf40_VA (wq hw 66 rfl)) nin0)
    refine Go T42 (mkF m 102 #[vI ya0, vI ya1, vI ya2, vI ya3, vI c1, vI c2, vI c3, vI ic, vR t, vR kA, .unset, .unset, .unset, .unset, .unset, .unset] [(.int 3)]) ?_ (fun t_ k_ => XS.iconst X42.here hx rfl (hb hby at_101) k_)
    obtain ⟨T46, h46, k46, X46, e46, E46, A46, st46⟩ := newP X42 hx hZ (wq hw 100 rfl) e42 (g := (mkF m 102 #[vI ya0, vI ya1, vI ya2, vI ya3, vI c1, vI c2, vI c3, vI ic, vR t, vR kA, .unset, .unset, .unset, .unset, .unset, .unset] [(.int 3)])) rfl (hb hby at_102) rfl (by decide) (cap := 3) (by decide) (by decide) (by decide) (by decide)
    obtain ⟨b46, gb46⟩ : ∃ z, z = h42.size := ⟨_, rfl⟩
    rw [← gb46] at A46 st46
    have V46 := Arv.new A46 (by decide)
    have Z46 : n0 ≤ h46.size := Nat.le_trans Z42 E46.1
    have g_b46 : n0 ≤ b46 := Nat.le_trans Z42 (Nat.le_of_eq gb46.symm)
    refine Go T46 (mkF m 104 #[vI ya0, vI ya1, vI ya2, vI ya3, vI c1, vI c2, vI c3, vI ic, vR t, vR kA, .unset, .unset, .unset, .unset, .unset, .unset] [(.ref b46)]) ?_ st46
    have ke46 : Keep _ _ [] := (Keep.refl _ []).ext E46
    have lf47_X := lf45_X.keep ke46 all0
    have lf47_S_t := lf45_S_t.keep ke46 nin0 nin0
    have lf47_VA := V42.keep ke46 nin0
    have lf47_S_i := lf45_S_i.keep ke46 nin0 nin0
    have lf47_S_r := lf45_S_r.keep ke46 nin0 nin0
    have lf47_U0 := lf45_U0.keep ke46
    have lf47_U1 := lf45_U1.keep ke46 nin0
    have lf47_U2 := lf45_U2.keep ke46 nin0
    have lf47_U3 := lf45_U3.keep ke46 nin0
    have lf47_O0 := lf45_O0.keep ke46
    have lf47_O1 := lf45_O1.keep ke46 nin0
    obtain ⟨cA, ecA⟩ : ∃ z, z = b46 := ⟨_, rfl⟩
    rw [← ecA] at V46 g_b46 ⊢
    have VC0 : Arv Z h46 cA k46 .int 3 [.int (Int32.ofNat 0), .int (Int32.ofNat 0), .int (Int32.ofNat 0)] (.int 0) := V46.pad (pad_rep [] (.int 0) 3)
    refine Go T46 (mkF m 106 #[vI ya0, vI ya1, vI ya2, vI ya3, vI c1, vI c2, vI c3, vI ic, vR t, vR kA, vR cA, .unset, .unset, .unset, .unset, .unset] []) ?_ (fun t_ k_ => XS.astore X46.here hx rfl (hb hby at_104) rfl rfl (l' := #[vI ya0, vI ya1, vI ya2, vI ya3, vI c1, vI c2, vI c3, vI ic, vR t, vR kA, vR cA, .unset, .unset, .unset, .unset, .unset]) rfl k_)
    obtain ⟨T48, h48, X48, e48, E48, A48, D48, -, st48⟩ := newO X46 hx hZ hown (wq hw 101 rfl) (wq hw 102 rfl) (wq hw 103 rfl) e46 (g := (mkF m 106 #[vI ya0, vI ya1, vI ya2, vI ya3, vI c1, vI c2, vI c3, vI ic, vR t, vR kA, vR cA, .unset, .unset, .unset, .unset, .unset] [])) rfl (hb hby at_106) (by decide) (by decide)
    obtain ⟨b48, gb48⟩ : ∃ z, z = h46.size := ⟨_, rfl⟩
    rw [← gb48] at A48 D48 st48
    have Z48 : n0 ≤ h48.size := Nat.le_trans Z46 E48.1
    have g_b48 : n0 ≤ b48 := Nat.le_trans Z46 (Nat.le_of_eq gb48.symm)
    refine Go T48 (mkF m 109 #[vI ya0, vI ya1, vI ya2, vI ya3, vI c1, vI c2, vI c3, vI ic, vR t, vR kA, vR cA, .unset, .unset, .unset, .unset, .unset] [(.ref b48)]) ?_ st48
    have ke48 : Keep _ _ [] := (Keep.refl _ []).ext E48
    have lf49_X := lf47_X.keep ke48 all0
    have lf49_S_t := lf47_S_t.keep ke48 nin0 nin0
    have lf49_VA := lf47_VA.keep ke48 nin0
    have lf49_S_i := lf47_S_i.keep ke48 nin0 nin0
    have lf49_S_r := lf47_S_r.keep ke48 nin0 nin0
    have lf49_U0 := lf47_U0.keep ke48
    have lf49_U1 := lf47_U1.keep ke48 nin0
    have lf49_U2 := lf47_U2.keep ke48 nin0
    have lf49_U3 := lf47_U3.keep ke48 nin0
    have lf49_O0 := lf47_O0.keep ke48
    have lf49_O1 := lf47_O1.keep ke48 nin0
    have lf49_VC := VC0.keep ke48 nin0
    have F48_wildcardTypes : Fld Z h48 b48 "com/example/entitlement/entitlement/CountedHolders" "wildcardTypes" "Lcom/example/entitlement/entitlement/Tally;" .null := D48 (Or.inl (wq hw 123 rfl)) (ty := (.object "com/example/entitlement/entitlement/Tally")) (by decide)
    have F48_usersets : Fld Z h48 b48 "com/example/entitlement/entitlement/CountedHolders" "usersets" "Lcom/example/entitlement/entitlement/Tally;" .null := D48 (Or.inl (wq hw 121 rfl)) (ty := (.object "com/example/entitlement/entitlement/Tally")) (by decide)
    have F48_objects : Fld Z h48 b48 "com/example/entitlement/entitlement/CountedHolders" "objects" "Lcom/example/entitlement/entitlement/Tally;" .null := D48 (Or.inl (wq hw 119 rfl)) (ty := (.object "com/example/entitlement/entitlement/Tally")) (by decide)
    obtain ⟨ho, eho⟩ : ∃ z, z = b48 := ⟨_, rfl⟩
    rw [← eho] at A48 g_b48 F48_wildcardTypes F48_usersets F48_objects ⊢
    refine Go T48 (mkF m 110 #[vI ya0, vI ya1, vI ya2, vI ya3, vI c1, vI c2, vI c3, vI ic, vR t, vR kA, vR cA, .unset, .unset, .unset, .unset, .unset] [(.ref ho), (.ref ho)]) ?_ (fun t_ k_ => XS.dup X48.here hx rfl (hb hby at_109) rfl rfl k_)
    obtain ⟨_, _, ⟨T50, Lq_50, kq_50, nq_50⟩, -, X50, ⟨Lc50, hQ50, l50, y50, z50⟩, st50⟩ := X48.specialBack hx (y := mN32) rfl hown (mvT hZ (wq hw 104 rfl)) (mvT hZ (wq hw 105 rfl)) (mvT hZ (wq hw 106 rfl)) (by decide) (backOf (W := 1) (rmCI l Z a0 hw [] ho h48 n0 Z48) hZ (wq hw 106 rfl) (wq hw 103 rfl) (by decide) (by decide)) (g := (mkF m 110 #[vI ya0, vI ya1, vI ya2, vI ya3, vI c1, vI c2, vI c3, vI ic, vR t, vR kA, vR cA, .unset, .unset, .unset, .unset, .unset] [(.ref ho), (.ref ho)])) rfl (by rw [hml]; rfl) (Steps.refl _) (a := ho) (argsL := []) (rest := [(.ref ho)]) (lenOf pd_15 rfl) rfl (by show 2 * 0 + _ ≤ _; exact Nat.le_of_eq rfl) (hb hby at_110) (fun _ _ => ⟨rfl, e48, (by decide : 25 + 0 ≤ _), (by decide : 143 + 0 ≤ _)⟩)
    dsimp only [Pt.U, Pt.locs, Pt.cells, Pt.slots] at X50 l50 y50 z50 st50 hQ50
    rw [l50, y50, z50] at X50
    change Stand p l e _ _ m _ below meth c T50 _ 25 143 at X50
    obtain ⟨rfl, N50q, eh50⟩ := hQ50
    have N50 := Fr.app N42 N50q
    refine Go T50 (mkF m 113 #[vI ya0, vI ya1, vI ya2, vI ya3, vI c1, vI c2, vI c3, vI ic, vR t, vR kA, vR cA, .unset, .unset, .unset, .unset, .unset] [(.ref ho)]) ?_ (fun t => st50.trans)
    refine Go T50 (mkF m 115 #[vI ya0, vI ya1, vI ya2, vI ya3, vI c1, vI c2, vI c3, vI ic, vR t, vR kA, vR cA, vR ho, .unset, .unset, .unset, .unset] []) ?_ (fun t_ k_ => XS.astore X50.here hx rfl (hb hby at_113) rfl rfl (l' := #[vI ya0, vI ya1, vI ya2, vI ya3, vI c1, vI c2, vI c3, vI ic, vR t, vR kA, vR cA, vR ho, .unset, .unset, .unset, .unset]) rfl k_)
    refine Go T50 (mkF m 117 #[vI ya0, vI ya1, vI ya2, vI ya3, vI c1, vI c2, vI c3, vI ic, vR t, vR kA, vR cA, vR ho, .unset, .unset, .unset, .unset] [(.ref ho)]) ?_ (fun t_ k_ => XS.aload X50.here hx rfl (hb hby at_115) rfl rfl k_)
    obtain ⟨cq51, kq51, q51a, q51b, q51c⟩ := isOf hZ eh50 A48
    obtain ⟨_, _, ⟨T51, Lq_51, kq_51, nq_51⟩, -, X51, ⟨Lc51, hQ51, l51, y51, z51⟩, st51⟩ := X50.virtualBack hx (y := mN30) (z := mN30) hown (mvT hZ (wq hw 113 rfl)) (mvT hZ (wq hw 114 rfl)) (notFace_of_selects (args := #[]) (mvT hZ (wq hw 116 rfl))) (mvT hZ (wq hw 116 rfl)) (mvT hZ (wq hw 115 rfl)) (by decide) (backOf (W := 0) (rmHE l Z a0 hw [] ho .null .null .null h48 n0 Z48 F48_wildcardTypes F48_usersets F48_objects rfl rfl rfl) hZ (wq hw 117 rfl) (wq hw 103 rfl) (by decide) (by decide)) q51a q51c (g := (mkF m 117 #[vI ya0, vI ya1, vI ya2, vI ya3, vI c1, vI c2, vI c3, vI ic, vR t, vR kA, vR cA, vR ho, .unset, .unset, .unset, .unset] [(.ref ho)])) rfl (by rw [hml]; rfl) (Steps.refl _) (argsL := []) (rest := []) (lenOf pd_4 rfl) rfl (by show 2 * 0 + _ ≤ _; exact Nat.le_of_eq rfl) (hb hby at_117) (fun _ _ => ⟨rfl, eh50, (by decide : 25 + 0 ≤ _), (by decide : 143 + 0 ≤ _)⟩)
    dsimp only [Pt.U, Pt.locs, Pt.cells, Pt.slots] at X51 l51 y51 z51 st51 hQ51
    rw [l51, y51, z51] at X51
    change Stand p l e _ _ m _ below meth c T51 _ 25 143 at X51
    obtain ⟨rfl, N51q, eh51⟩ := hQ51
    have N51 := Fr.app N50 N51q
    refine Go T51 (mkF m 120 #[vI ya0, vI ya1, vI ya2, vI ya3, vI c1, vI c2, vI c3, vI ic, vR t, vR kA, vR cA, vR ho, .unset, .unset, .unset, .unset] [(.int (own_emp .null .null .null))]) ?_ (fun t => st51.trans)
    rw [show own_emp .null .null .null = (1 : Int32) from rfl]
    obtain ⟨B, eB⟩ : ∃ z, z = h48.size := ⟨_, rfl⟩
    have ltB : ∀ {y : Addr}, y < h48.size → y < B := fun q => eB ▸ q
    have KC : KD n0 B t tt i ti r tr ku ko c1 ic c3 := ⟨ne_t_i, ne_t_r, ne_i_r, (Ne.symm (Exa.neArv lf49_S_t.exa lf49_S_i.arv (wq hw 10 rfl))), (Ne.symm (Exa.neArv lf49_S_t.exa lf49_S_r.arv (wq hw 10 rfl))), (Ne.symm (Exa.neArv lf49_S_i.exa lf49_S_t.arv (wq hw 10 rfl))), (Ne.symm (Exa.neArv lf49_S_i.exa lf49_S_r.arv (wq hw 10 rfl))), (Ne.symm (Exa.neArv lf49_S_r.exa lf49_S_t.arv (wq hw 10 rfl))), (Ne.symm (Exa.neArv lf49_S_r.exa lf49_S_i.arv (wq hw 10 rfl))), (Exa.ne lf49_U0 lf49_S_t.exa (by decide)), (Exa.ne lf49_U0 lf49_S_i.exa (by decide)), (Exa.ne lf49_U0 lf49_S_r.exa (by decide)), (Exa.ne lf49_O0 lf49_S_t.exa (by decide)), (Exa.ne lf49_O0 lf49_S_i.exa (by decide)), (Exa.ne lf49_O0 lf49_S_r.exa (by decide)), g_t, g_i, g_r, ltB lf49_S_t.exa.lt, ltB lf49_S_t.arv.lt, ltB lf49_S_i.exa.lt, ltB lf49_S_i.arv.lt, ltB lf49_S_r.exa.lt, ltB lf49_S_r.arv.lt, ltB lf49_U0.lt, ltB lf49_O0.lt, c1a, c1b, ica, icb, c3a, c3b⟩
    have SS : SD n0 B t tt i ti r tr ku ko ho kA cA := ⟨(ninS (Exa.ne A48 lf49_S_t.exa (by decide)) (ninS (Exa.neArv A48 lf49_S_t.arv (wq hw 102 rfl)) (ninS (Exa.ne A48 lf49_S_i.exa (by decide)) (ninS (Exa.neArv A48 lf49_S_i.arv (wq hw 102 rfl)) (ninS (Exa.ne A48 lf49_S_r.exa (by decide)) (ninS (Exa.neArv A48 lf49_S_r.arv (wq hw 102 rfl)) (ninS (Exa.ne A48 lf49_U0 (by decide)) (ninS (Exa.ne A48 lf49_O0 (by decide)) nin0)))))))), (ninS (Ne.symm (Exa.neArv lf49_S_t.exa lf49_VA (wq hw 10 rfl))) (ninS (own_arvne lf49_VA lf49_S_t.arv (fun q => nomatch q)) (ninS (Ne.symm (Exa.neArv lf49_S_i.exa lf49_VA (wq hw 10 rfl))) (ninS (own_arvne lf49_VA lf49_S_i.arv (fun q => nomatch q)) (ninS (Ne.symm (Exa.neArv lf49_S_r.exa lf49_VA (wq hw 10 rfl))) (ninS (own_arvne lf49_VA lf49_S_r.arv (fun q => nomatch q)) (ninS (Ne.symm (Exa.neArv lf49_U0 lf49_VA (wq hw 50 rfl))) (ninS (Ne.symm (Exa.neArv lf49_O0 lf49_VA (wq hw 66 rfl))) nin0)))))))), (ninS (Ne.symm (Exa.neArv lf49_S_t.exa lf49_VC (wq hw 10 rfl))) (ninS (own_arvne lf49_VC lf49_S_t.arv (fun q => nomatch q)) (ninS (Ne.symm (Exa.neArv lf49_S_i.exa lf49_VC (wq hw 10 rfl))) (ninS (own_arvne lf49_VC lf49_S_i.arv (fun q => nomatch q)) (ninS (Ne.symm (Exa.neArv lf49_S_r.exa lf49_VC (wq hw 10 rfl))) (ninS (own_arvne lf49_VC lf49_S_r.arv (fun q => nomatch q)) (ninS (Ne.symm (Exa.neArv lf49_U0 lf49_VC (wq hw 50 rfl))) (ninS (Ne.symm (Exa.neArv lf49_O0 lf49_VC (wq hw 66 rfl))) nin0)))))))), ltB A48.lt, ltB lf49_VA.lt, ltB lf49_VC.lt, (Ne.symm (Exa.neArv A48 lf49_VA (wq hw 102 rfl))), (Ne.symm (Exa.neArv A48 lf49_VC (wq hw 102 rfl))), (own_arvne lf49_VA lf49_VC (fun q => nomatch q)), g_b48, g_b46⟩
    have HT : HSt Z h48 B t tt i ti r tr ku ko kt ki kr c1 ic c3 ((31 : Int32) * c1 + c2) ho kA cA k5 k46 0 0 0 := ⟨⟨lf49_S_t, lf49_S_i, lf49_S_r, lf49_U0, lf49_U1, lf49_U2, lf49_U3, lf49_O0, lf49_O1⟩, A48, lf49_VA, lf49_VC, .null, .null, .null, [], [], [], F48_wildcardTypes, F48_usersets, F48_objects, Or.inl ⟨rfl, rfl, rfl⟩, Or.inl ⟨rfl, rfl, rfl⟩, Or.inl ⟨rfl, rfl, rfl⟩, fun y hy => absurd hy List.not_mem_nil, fun y hy => absurd hy List.not_mem_nil, fun y hy => absurd hy List.not_mem_nil⟩
    have gB : n0 ≤ B := eB ▸ Z48
    have bB0 : B ≤ h48.size := Nat.le_of_eq eB
    refine Go T51 (mkF m 122 #[vI ya0, vI ya1, vI ya2, vI ya3, vI c1, vI c2, vI c3, vI ic, vR t, vR kA, vR cA, vR ho, vI 1, .unset, .unset, .unset] []) ?_ (fun t_ k_ => XS.istore X51.here hx rfl (hb hby at_120) rfl (l' := #[vI ya0, vI ya1, vI ya2, vI ya3, vI c1, vI c2, vI c3, vI ic, vR t, vR kA, vR cA, vR ho, vI 1, .unset, .unset, .unset]) rfl k_)
    refine Go T51 (mkF m 124 #[vI ya0, vI ya1, vI ya2, vI ya3, vI c1, vI c2, vI c3, vI ic, vR t, vR kA, vR cA, vR ho, vI 1, .unset, .unset, .unset] [(.ref ho)]) ?_ (fun t_ k_ => XS.aload X51.here hx rfl (hb hby at_122) rfl rfl k_)
    refine Go T51 (mkF m 126 #[vI ya0, vI ya1, vI ya2, vI ya3, vI c1, vI c2, vI c3, vI ic, vR t, vR kA, vR cA, vR ho, vI 1, .unset, .unset, .unset] [(.ref kA), (.ref ho)]) ?_ (fun t_ k_ => XS.aload X51.here hx rfl (hb hby at_124) rfl rfl k_)
    refine Go T51 (mkF m 128 #[vI ya0, vI ya1, vI ya2, vI ya3, vI c1, vI c2, vI c3, vI ic, vR t, vR kA, vR cA, vR ho, vI 1, .unset, .unset, .unset] [(.ref cA), (.ref kA), (.ref ho)]) ?_ (fun t_ k_ => XS.aload X51.here hx rfl (hb hby at_126) rfl rfl k_)
    refine Go T51 (mkF m 129 #[vI ya0, vI ya1, vI ya2, vI ya3, vI c1, vI c2, vI c3, vI ic, vR t, vR kA, vR cA, vR ho, vI 1, .unset, .unset, .unset] [(.int ya0), (.ref cA), (.ref kA), (.ref ho)]) ?_ (fun t_ k_ => XS.iloadN X51.here hx rfl (hb hby at_128) rfl k_)
    obtain ⟨_, _, ⟨T52, Lq_52, kq_52, nq_52⟩, -, X52, ⟨Lc52, hQ52, l52, y52, z52⟩, st52⟩ := Jvm.LawKit.callS X51 hx (y := mN33) hown (mvT hZ (wq hw 124 rfl)) (mvT hZ (wq hw 125 rfl)) (mvT hZ (wq hw 126 rfl)) (mvT hZ (wq hw 127 rfl)) (by decide) (backOf (W := 0) (rmSP l Z a0 hw [] B t tt i ti r tr ku ko kt ki kr c1 ic c3 ((31 : Int32) * c1 + c2) zc ho kA cA k5 k46 0 0 0 0 ya0 h48 n0 Z48 HT SS KC gB bB0 CS hzc lf49_X (by omega) (by omega) (by omega) (by omega)) hZ (wq hw 127 rfl) (wq hw 126 rfl) (by decide) (by decide)) (g := (mkF m 129 #[vI ya0, vI ya1, vI ya2, vI ya3, vI c1, vI c2, vI c3, vI ic, vR t, vR kA, vR cA, vR ho, vI 1, .unset, .unset, .unset] [(.int ya0), (.ref cA), (.ref kA), (.ref ho)])) rfl (by rw [hml]; rfl) (argsL := [(.ref ho), (.ref kA), (.ref cA), (.int ya0)]) (rest := []) (lenOf pd_21 rfl) rfl (by show 2 * 0 + _ ≤ _; exact Nat.le_of_eq rfl) (hb hby at_129) (fun _ _ => ⟨rfl, eh51, (by decide : 25 + 4 ≤ _), (by decide : 143 + 13 ≤ _)⟩)
    dsimp only [Pt.U, Pt.locs, Pt.cells, Pt.slots] at X52 l52 y52 z52 st52 hQ52
    rw [l52, y52, z52] at X52
    change Stand p l e _ _ m _ below meth c T52 _ 29 156 at X52
    obtain ⟨rfl, N52q, XX0, ZZ0, ⟨p0_0, p0_1, p0_2, b0_0, b0_1, b0_2, HT0⟩⟩ := hQ52
    have N52 := Fr.app N51 N52q
    refine Go T52 (mkF m 132 #[vI ya0, vI ya1, vI ya2, vI ya3, vI c1, vI c2, vI c3, vI ic, vR t, vR kA, vR cA, vR ho, vI 1, .unset, .unset, .unset] [(.int 1)]) ?_ st52
    have Zs0 : n0 ≤ T52.heap.size := Nat.le_trans Z48 ZZ0
    have bB0_ : B ≤ T52.heap.size := Nat.le_trans bB0 ZZ0
    refine Go T52 (mkF m 134 #[vI ya0, vI ya1, vI ya2, vI ya3, vI c1, vI c2, vI c3, vI ic, vR t, vR kA, vR cA, vR ho, vI 1, vI 1, .unset, .unset] []) ?_ (fun t_ k_ => XS.istore X52.here hx rfl (hb hby at_132) rfl (l' := #[vI ya0, vI ya1, vI ya2, vI ya3, vI c1, vI c2, vI c3, vI ic, vR t, vR kA, vR cA, vR ho, vI 1, vI 1, .unset, .unset]) rfl k_)
    refine Go T52 (mkF m 136 #[vI ya0, vI ya1, vI ya2, vI ya3, vI c1, vI c2, vI c3, vI ic, vR t, vR kA, vR cA, vR ho, vI 1, vI 1, .unset, .unset] [(.ref ho)]) ?_ (fun t_ k_ => XS.aload X52.here hx rfl (hb hby at_134) rfl rfl k_)
    refine Go T52 (mkF m 138 #[vI ya0, vI ya1, vI ya2, vI ya3, vI c1, vI c2, vI c3, vI ic, vR t, vR kA, vR cA, vR ho, vI 1, vI 1, .unset, .unset] [(.ref kA), (.ref ho)]) ?_ (fun t_ k_ => XS.aload X52.here hx rfl (hb hby at_136) rfl rfl k_)
    refine Go T52 (mkF m 140 #[vI ya0, vI ya1, vI ya2, vI ya3, vI c1, vI c2, vI c3, vI ic, vR t, vR kA, vR cA, vR ho, vI 1, vI 1, .unset, .unset] [(.ref cA), (.ref kA), (.ref ho)]) ?_ (fun t_ k_ => XS.aload X52.here hx rfl (hb hby at_138) rfl rfl k_)
    refine Go T52 (mkF m 141 #[vI ya0, vI ya1, vI ya2, vI ya3, vI c1, vI c2, vI c3, vI ic, vR t, vR kA, vR cA, vR ho, vI 1, vI 1, .unset, .unset] [(.int ya1), (.ref cA), (.ref kA), (.ref ho)]) ?_ (fun t_ k_ => XS.iloadN X52.here hx rfl (hb hby at_140) rfl k_)
    obtain ⟨_, _, ⟨T53, Lq_53, kq_53, nq_53⟩, -, X53, ⟨Lc53, hQ53, l53, y53, z53⟩, st53⟩ := Jvm.LawKit.callS X52 hx (y := mN33) hown (mvT hZ (wq hw 124 rfl)) (mvT hZ (wq hw 125 rfl)) (mvT hZ (wq hw 126 rfl)) (mvT hZ (wq hw 127 rfl)) (by decide) (backOf (W := 0) (rmSP l Z a0 hw [] B t tt i ti r tr ku ko kt ki kr c1 ic c3 ((31 : Int32) * c1 + c2) zc ho kA cA k5 k46 p0_0 p0_1 p0_2 1 ya1 T52.heap n0 Zs0 HT0 SS KC gB bB0_ CS hzc XX0 (by omega) (by omega) (by omega) (by omega)) hZ (wq hw 127 rfl) (wq hw 126 rfl) (by decide) (by decide)) (g := (mkF m 141 #[vI ya0, vI ya1, vI ya2, vI ya3, vI c1, vI c2, vI c3, vI ic, vR t, vR kA, vR cA, vR ho, vI 1, vI 1, .unset, .unset] [(.int ya1), (.ref cA), (.ref kA), (.ref ho)])) rfl (by rw [hml]; rfl) (argsL := [(.ref ho), (.ref kA), (.ref cA), (.int ya1)]) (rest := []) (lenOf pd_21 rfl) rfl (by show 2 * 0 + _ ≤ _; exact Nat.le_of_eq rfl) (hb hby at_141) (fun _ _ => ⟨rfl, rfl, (by decide : 29 + 4 ≤ _), (by decide : 156 + 13 ≤ _)⟩)
    dsimp only [Pt.U, Pt.locs, Pt.cells, Pt.slots] at X53 l53 y53 z53 st53 hQ53
    rw [l53, y53, z53] at X53
    change Stand p l e _ _ m _ below meth c T53 _ 33 169 at X53
    obtain ⟨rfl, N53q, XX1, ZZ1, ⟨p1_0, p1_1, p1_2, b1_0, b1_1, b1_2, HT1⟩⟩ := hQ53
    have N53 := Fr.app N52 N53q
    refine Go T53 (mkF m 144 #[vI ya0, vI ya1, vI ya2, vI ya3, vI c1, vI c2, vI c3, vI ic, vR t, vR kA, vR cA, vR ho, vI 1, vI 1, .unset, .unset] [(.int 1)]) ?_ st53
    have Zs1 : n0 ≤ T53.heap.size := Nat.le_trans Zs0 ZZ1
    have bB1_ : B ≤ T53.heap.size := Nat.le_trans bB0_ ZZ1
    refine Go T53 (mkF m 146 #[vI ya0, vI ya1, vI ya2, vI ya3, vI c1, vI c2, vI c3, vI ic, vR t, vR kA, vR cA, vR ho, vI 1, vI 1, vI 1, .unset] []) ?_ (fun t_ k_ => XS.istore X53.here hx rfl (hb hby at_144) rfl (l' := #[vI ya0, vI ya1, vI ya2, vI ya3, vI c1, vI c2, vI c3, vI ic, vR t, vR kA, vR cA, vR ho, vI 1, vI 1, vI 1, .unset]) rfl k_)
    refine Go T53 (mkF m 148 #[vI ya0, vI ya1, vI ya2, vI ya3, vI c1, vI c2, vI c3, vI ic, vR t, vR kA, vR cA, vR ho, vI 1, vI 1, vI 1, .unset] [(.ref ho)]) ?_ (fun t_ k_ => XS.aload X53.here hx rfl (hb hby at_146) rfl rfl k_)
    refine Go T53 (mkF m 150 #[vI ya0, vI ya1, vI ya2, vI ya3, vI c1, vI c2, vI c3, vI ic, vR t, vR kA, vR cA, vR ho, vI 1, vI 1, vI 1, .unset] [(.ref kA), (.ref ho)]) ?_ (fun t_ k_ => XS.aload X53.here hx rfl (hb hby at_148) rfl rfl k_)
    refine Go T53 (mkF m 152 #[vI ya0, vI ya1, vI ya2, vI ya3, vI c1, vI c2, vI c3, vI ic, vR t, vR kA, vR cA, vR ho, vI 1, vI 1, vI 1, .unset] [(.ref cA), (.ref kA), (.ref ho)]) ?_ (fun t_ k_ => XS.aload X53.here hx rfl (hb hby at_150) rfl rfl k_)
    refine Go T53 (mkF m 153 #[vI ya0, vI ya1, vI ya2, vI ya3, vI c1, vI c2, vI c3, vI ic, vR t, vR kA, vR cA, vR ho, vI 1, vI 1, vI 1, .unset] [(.int ya2), (.ref cA), (.ref kA), (.ref ho)]) ?_ (fun t_ k_ => XS.iloadN X53.here hx rfl (hb hby at_152) rfl k_)
    obtain ⟨_, _, ⟨T54, Lq_54, kq_54, nq_54⟩, -, X54, ⟨Lc54, hQ54, l54, y54, z54⟩, st54⟩ := Jvm.LawKit.callS X53 hx (y := mN33) hown (mvT hZ (wq hw 124 rfl)) (mvT hZ (wq hw 125 rfl)) (mvT hZ (wq hw 126 rfl)) (mvT hZ (wq hw 127 rfl)) (by decide) (backOf (W := 0) (rmSP l Z a0 hw [] B t tt i ti r tr ku ko kt ki kr c1 ic c3 ((31 : Int32) * c1 + c2) zc ho kA cA k5 k46 p1_0 p1_1 p1_2 2 ya2 T53.heap n0 Zs1 HT1 SS KC gB bB1_ CS hzc XX1 (by omega) (by omega) (by omega) (by omega)) hZ (wq hw 127 rfl) (wq hw 126 rfl) (by decide) (by decide)) (g := (mkF m 153 #[vI ya0, vI ya1, vI ya2, vI ya3, vI c1, vI c2, vI c3, vI ic, vR t, vR kA, vR cA, vR ho, vI 1, vI 1, vI 1, .unset] [(.int ya2), (.ref cA), (.ref kA), (.ref ho)])) rfl (by rw [hml]; rfl) (argsL := [(.ref ho), (.ref kA), (.ref cA), (.int ya2)]) (rest := []) (lenOf pd_21 rfl) rfl (by show 2 * 0 + _ ≤ _; exact Nat.le_of_eq rfl) (hb hby at_153) (fun _ _ => ⟨rfl, rfl, (by decide : 33 + 4 ≤ _), (by decide : 169 + 13 ≤ _)⟩)
    dsimp only [Pt.U, Pt.locs, Pt.cells, Pt.slots] at X54 l54 y54 z54 st54 hQ54
    rw [l54, y54, z54] at X54
    change Stand p l e _ _ m _ below meth c T54 _ 37 182 at X54
    obtain ⟨rfl, N54q, XX2, ZZ2, ⟨p2_0, p2_1, p2_2, b2_0, b2_1, b2_2, HT2⟩⟩ := hQ54
    have N54 := Fr.app N53 N54q
    refine Go T54 (mkF m 156 #[vI ya0, vI ya1, vI ya2, vI ya3, vI c1, vI c2, vI c3, vI ic, vR t, vR kA, vR cA, vR ho, vI 1, vI 1, vI 1, .unset] [(.int 1)]) ?_ st54
    have Zs2 : n0 ≤ T54.heap.size := Nat.le_trans Zs1 ZZ2
    have bB2_ : B ≤ T54.heap.size := Nat.le_trans bB1_ ZZ2
    refine Go T54 (mkF m 158 #[vI ya0, vI ya1, vI ya2, vI ya3, vI c1, vI c2, vI c3, vI ic, vR t, vR kA, vR cA, vR ho, vI 1, vI 1, vI 1, vI 1] []) ?_ (fun t_ k_ => XS.istore X54.here hx rfl (hb hby at_156) rfl (l' := #[vI ya0, vI ya1, vI ya2, vI ya3, vI c1, vI c2, vI c3, vI ic, vR t, vR kA, vR cA, vR ho, vI 1, vI 1, vI 1, vI 1]) rfl k_)
    refine Go T54 (mkF m 160 #[vI ya0, vI ya1, vI ya2, vI ya3, vI c1, vI c2, vI c3, vI ic, vR t, vR kA, vR cA, vR ho, vI 1, vI 1, vI 1, vI 1] [(.int 1)]) ?_ (fun t_ k_ => XS.iload X54.here hx rfl (hb hby at_158) rfl k_)
    refine Go T54 (mkF m 163 #[vI ya0, vI ya1, vI ya2, vI ya3, vI c1, vI c2, vI c3, vI ic, vR t, vR kA, vR cA, vR ho, vI 1, vI 1, vI 1, vI 1] []) ?_ (fun t_ k_ => XS.ifNo X54.here hx rfl (hb hby at_160) rfl (by decide) k_)
    refine Go T54 (mkF m 165 #[vI ya0, vI ya1, vI ya2, vI ya3, vI c1, vI c2, vI c3, vI ic, vR t, vR kA, vR cA, vR ho, vI 1, vI 1, vI 1, vI 1] [(.int 1)]) ?_ (fun t_ k_ => XS.iload X54.here hx rfl (hb hby at_163) rfl k_)
    refine Go T54 (mkF m 168 #[vI ya0, vI ya1, vI ya2, vI ya3, vI c1, vI c2, vI c3, vI ic, vR t, vR kA, vR cA, vR ho, vI 1, vI 1, vI 1, vI 1] []) ?_ (fun t_ k_ => XS.ifNo X54.here hx rfl (hb hby at_165) rfl (by decide) k_)
    refine Go T54 (mkF m 170 #[vI ya0, vI ya1, vI ya2, vI ya3, vI c1, vI c2, vI c3, vI ic, vR t, vR kA, vR cA, vR ho, vI 1, vI 1, vI 1, vI 1] [(.int 1)]) ?_ (fun t_ k_ => XS.iload X54.here hx rfl (hb hby at_168) rfl k_)
    refine Go T54 (mkF m 173 #[vI ya0, vI ya1, vI ya2, vI ya3, vI c1, vI c2, vI c3, vI ic, vR t, vR kA, vR cA, vR ho, vI 1, vI 1, vI 1, vI 1] []) ?_ (fun t_ k_ => XS.ifNo X54.here hx rfl (hb hby at_170) rfl (by decide) k_)
    refine Go T54 (mkF m 175 #[vI ya0, vI ya1, vI ya2, vI ya3, vI c1, vI c2, vI c3, vI ic, vR t, vR kA, vR cA, vR ho, vI 1, vI 1, vI 1, vI 1] [(.int 1)]) ?_ (fun t_ k_ => XS.iload X54.here hx rfl (hb hby at_173) rfl k_)
    refine Go T54 (mkF m 178 #[vI ya0, vI ya1, vI ya2, vI ya3, vI c1, vI c2, vI c3, vI ic, vR t, vR kA, vR cA, vR ho, vI 1, vI 1, vI 1, vI 1] []) ?_ (fun t_ k_ => XS.ifNo X54.here hx rfl (hb hby at_175) rfl (by decide) k_)
    refine Go T54 (mkF m 179 #[vI ya0, vI ya1, vI ya2, vI ya3, vI c1, vI c2, vI c3, vI ic, vR t, vR kA, vR cA, vR ho, vI 1, vI 1, vI 1, vI 1] [(.int 1)]) ?_ (fun t_ k_ => XS.iconst X54.here hx rfl (hb hby at_178) k_)
    refine Go T54 (mkF m 183 #[vI ya0, vI ya1, vI ya2, vI ya3, vI c1, vI c2, vI c3, vI ic, vR t, vR kA, vR cA, vR ho, vI 1, vI 1, vI 1, vI 1] [(.int 1)]) ?_ (fun t_ k_ => XS.goto X54.here hx rfl (pc0 := 179) (pc' := 183) rfl (hb hby at_179) (by decide) (by decide) k_)
    rw [hWd]
    exact Goes.retnW X54 hS38 (Nat.le_trans (Nat.le_trans (Nat.le_trans (Nat.le_trans (Nat.le_trans (Nat.le_trans (Nat.le_refl _) (Nat.le_of_eq W42.size.symm)) E46.1) E48.1) ZZ0) ZZ1) ZZ2) (v := some (.int (nar .boolean (1 : Int32)))) (fun fs hr => retN X54 hx (t := .boolean) Bd.returns (by simp) (hb hby at_183) hr) (fun h => by rw [Bd.returns] at h; cases h) Bd.notSynchronized (by decide) (by decide) ⟨rfl, N54⟩
  refine Go s₁ (mkF m 36 #[vI ya0, vI ya1, vI ya2, vI ya3, vI c1, vI c2, vI c3, vI c2, .unset, .unset, .unset, .unset, .unset, .unset, .unset, .unset] [(.int c2)]) ?_ (fun t_ k_ => XS.iload X0.here hx rfl (hb hby at_34) rfl k_)
  refine Go s₁ (mkF m 38 #[vI ya0, vI ya1, vI ya2, vI ya3, vI c1, vI c2, vI c3, vI c2, .unset, .unset, .unset, .unset, .unset, .unset, .unset, .unset] [(.int 42), (.int c2)]) ?_ (fun t_ k_ => XS.bipush X0.here hx rfl (hb hby at_36) k_)
  refine Goes.icmpN X0 hx rfl (pc0 := 38) (pc' := 45) rfl (hb hby at_38) rfl (by decide) (by decide) (P := c2 = (42 : Int32)) (cmp_ne _ _) (fun hc38 => ?_) (fun hc38 => ?_)
  · show Goes p e below W s₁ (mkF m 45 #[vI ya0, vI ya1, vI ya2, vI ya3, vI c1, vI c2, vI c3, vI c2, .unset, .unset, .unset, .unset, .unset, .unset, .unset, .unset] [])
    exact J45 _ c2a c2b hc38
  · show Goes p e below W s₁ (mkF m 41 #[vI ya0, vI ya1, vI ya2, vI ya3, vI c1, vI c2, vI c3, vI c2, .unset, .unset, .unset, .unset, .unset, .unset, .unset, .unset] [])
    refine Go s₁ (mkF m 43 #[vI ya0, vI ya1, vI ya2, vI ya3, vI c1, vI c2, vI c3, vI c2, .unset, .unset, .unset, .unset, .unset, .unset, .unset, .unset] [(.int 43)]) ?_ (fun t_ k_ => XS.bipush X0.here hx rfl (hb hby at_41) k_)
    refine Go s₁ (mkF m 45 #[vI ya0, vI ya1, vI ya2, vI ya3, vI c1, vI c2, vI c3, vI 43, .unset, .unset, .unset, .unset, .unset, .unset, .unset, .unset] []) ?_ (fun t_ k_ => XS.istore X0.here hx rfl (hb hby at_43) rfl (l' := #[vI ya0, vI ya1, vI ya2, vI ya3, vI c1, vI c2, vI c3, vI 43, .unset, .unset, .unset, .unset, .unset, .unset, .unset, .unset]) rfl k_)
    exact J45 _ (by decide) (by decide) (by decide)
set_option maxRecDepth 65536 in
set_option maxHeartbeats 40000000 in
theorem comes_1 {Post : Tables → Env → Array Value → State → Outcome → State → Prop} (hpost : ∀ tb e args s v u, (limb_1_1.after args s (.returned v) u = true ∧ limb_1_2.after args s (.returned v) u = true ∧ True) → ReturnedEndW s (.returned v) u (Jvm.fieldLocs frame_1_writes args s ++ Jvm.arrayLocs frame_1_arrays args s ++ Jvm.staticLocs frame_1_statics s) 72 6400 → Post tb e args s (.returned v) u) :
    ArmFor flags0 classFile x code maxLocals ret World_1 tables_1 room_1 Calls_1 rest_1 Pre_1 Post := by
  intro l hfl _ _ p e ha hc hk s m args below hf hA hF happ hP
  obtain ⟨hcalls, hrest, hpre⟩ := hP
  obtain ⟨-, -, -, hnamed, -, -, -, hat⟩ := (Spec.applies_iff hf).mp happ
  obtain ⟨hg, hn⟩ := and_e (Cond.before_iff.mp (show (Jvm.Cond.and given_1 narrow_1).before args s = true from hpre))
  obtain ⟨hcount, hq0⟩ := and_e hg
  obtain ⟨ha0, hq1⟩ := and_e hq0
  obtain ⟨ha1, hq2⟩ := and_e hq1
  obtain ⟨ha2, hq3⟩ := and_e hq2
  have ha3 := hq3
  obtain ⟨w0, w1, w2, w3, rfl⟩ : ∃ w0 w1 w2 w3 : Value, args = #[w0, w1, w2, w3] := by
    have hs : args.size = 4 := by simpa [Cond.value, given_1] using hcount
    obtain ⟨L⟩ := args
    match L, hs with
    | [w0, w1, w2, w3], _ => exact ⟨w0, w1, w2, w3, rfl⟩
  have hw := fun d (hd : d ∈ tables_1) => atoms_spec (ws := Jvm.Cond.code x code maxLocals ret :: tables_1) hat d (List.mem_cons_of_mem _ hd)
  obtain ⟨hsets, hown0⟩ := atoms_of _ (rest_1_c_eq ▸ (show rest_1_c.before _ s = true from hrest))
  have hfit : Fit s := fun {y c} hc i hi => by
    obtain ⟨ha, rfl⟩ := Array.getElem?_eq_some_iff.mp hc
    have q := List.all_eq_true.mp ((Array.all_eq_true_iff_forall_mem.mp hF) _ (Array.getElem_mem ha)) i (List.mem_range.mpr hi)
    simpa [Array.getElem?_eq_getElem hi] using q
  obtain ⟨i0, ea0⟩ := is_v ha0
  obtain rfl : w0 = (.int i0) := Option.some.inj ea0
  obtain ⟨i1, ea1⟩ := is_v ha1
  obtain rfl : w1 = (.int i1) := Option.some.inj ea1
  obtain ⟨i2, ea2⟩ := is_v ha2
  obtain rfl : w2 = (.int i2) := Option.some.inj ea2
  obtain ⟨i3, ea3⟩ := is_v ha3
  obtain rfl : w3 = (.int i3) := Option.some.inj ea3
  obtain ⟨zc, ecz⟩ := is_v (Cond.before_iff.mp (hsets _ (List.mem_of_getElem? (i := 1) rfl)))
  have CS : Sta s s.heap "java/lang/String" "COMPACT_STRINGS" "Z" (.int zc) := Sta.start ecz (Or.inl (hsets _ (List.mem_of_getElem? (i := 0) rfl)))
  have hzc : ¬ zc = (0 : Int32) := gotF (Cond.eq_ints ecz (Term.int_eval (0))) (not_v (Cond.before_iff.mp (hsets _ (List.mem_of_getElem? (i := 2) rfl))))
  have hCH0 : CHv s consts_1 s.vm s.heap := CHv.start (own_EW hw) (fun p hp => hcalls.1 p hp) (hsets _ (List.mem_of_getElem? (i := 2) rfl)) (wq hw 14 rfl) (wq hw 10 rfl)
  obtain ⟨n, o, h1, h2, h3, _, L, rfl, ⟨rfl, N⟩, hq⟩ := rm0 l s _ hw tables_1 i0 i1 i2 i3 zc s.heap s.heap.size (Nat.le_refl _) rfl rfl hCH0 CS hzc (Old.start s) p e ha hc hk s m _ below hf ((Spec.applies_iff_loose hf).mp happ).1 ⟨rfl, rfl⟩ trivial
  refine ⟨n, _, h1, h2, h3, hpost _ _ _ _ _ _ ⟨Cond.after_iff.mpr rfl, Cond.after_iff.mpr (eq_i res_at (Term.int_eval (1)) rfl), trivial⟩ ⟨hq.1, hq.2.1, hq.2.2.1, (hq.2.2.2.sift fun y hy => Or.inr (N y hy)).mono (by decide) (by decide)⟩⟩
theorem main_1_1 : Claimed_1_1 := comes_1 fun _ _ _ _ _ _ h hF => ⟨h.1, hF⟩
theorem main_1_2 : Claimed_1_2 := comes_1 fun _ _ _ _ _ _ h hF => ⟨h.2.1, hF⟩
end Jvm.Pilot.@@N@@
namespace Jvm.Pilot.@@N@@
open Jvm Jvm.ClassFile Sem Op Lib Jvm.Free Jvm.Stand Jvm.Pilot.@@N@@.Jvm.D
/-! MADE BY PROGRAM (witnessworld.py) out of the Statement's table words and the real class files: 24 classes; the members and pool entries that the words name. The judged class is class 1, her method 1. -/
namespace start1
open Jvm.ClassFile
def u (s : String) : CpInfo := .utf8 (stringToUtf16 s)
/-- a pool by its gaps: so many unusable entries, then the entry; so many at the end -/
def gap : Nat → List CpInfo → List CpInfo
  | 0, r => r
  | n + 1, r => .unusable :: gap n r
def poolList (es : List (Nat × CpInfo)) (last : Nat) : List CpInfo := es.foldr (fun e r => gap e.1 (e.2 :: r)) (gap last [])
def pool (es : List (Nat × CpInfo)) (last : Nat) : Array CpInfo := ⟨poolList es last⟩
def fileOf (pool : Array CpInfo) (this : Nat) (attrs : Array Attribute := #[]) (ms : Array MethodInfo := #[]) (fl : Nat := 33) (sup : Nat := 0) (ifs : Array Nat := #[]) (fds : Array FieldInfo := #[]) : ClassFile where
  minorVersion := 0
  majorVersion := 65
  constantPool := pool
  accessFlags := fl
  thisClass := this
  superClass := sup
  interfaces := ifs
  fields := fds
  methods := ms
  attributes := attrs
def plain (name : String) (sup : Option ClassId) : Class where
  name := name
  kind := .ordinary
  loader := none
  accessFlags := 33
  super := sup
  interfaces := #[]
  cf := none
  fields := #[]
  methods := #[]
  instanceTypes := #[]
  staticTypes := #[]
  resolved := #[]
  callSites := []
  init := .initialized
  statics := none
  mirror := none

def pool0 : Array CpInfo := pool [(5, u "<init>"), (0, u "()V"), (1, .class_ 10), (1, u "java/lang/Object"), (16, u "hashCode"), (0, u "()I"), (63, u "equals"), (0, u "(Ljava/lang/Object;)Z")] 30

def k0c0 : Code := { maxStack := 0, maxLocals := 1, code := object_method_1_code, exceptionTable := #[], attributes := #[] }
def k0m0 : Method := { name := "<init>", desc := "()V", sig := { parameters := [], returnType := none }, accessFlags := 1, code := some k0c0 }
def k0m1 : Method := { name := "hashCode", desc := "()I", sig := { parameters := [], returnType := some .int }, accessFlags := 257, code := none }
def k0c2 : Code := { maxStack := 2, maxLocals := 2, code := ⟨#[0x2a, 0x2b, 0xa6, 0x00, 0x07, 0x04, 0xa7, 0x00, 0x04, 0x03, 0xac]⟩, exceptionTable := #[], attributes := #[] }
def k0m2 : Method := { name := "equals", desc := "(Ljava/lang/Object;)Z", sig := { parameters := [(.object "java/lang/Object")], returnType := some .boolean }, accessFlags := 1, code := some k0c2 }
/-- java/lang/Object -/
def k0 : Class := { plain "java/lang/Object" none with
  accessFlags := 33
  interfaces := #[]
  cf := some (fileOf pool0 8 #[] #[{ accessFlags := 1, nameIndex := 5, descriptorIndex := 6, attributes := #[] }, { accessFlags := 257, nameIndex := 27, descriptorIndex := 28, attributes := #[] }, { accessFlags := 1, nameIndex := 92, descriptorIndex := 93, attributes := #[] }] 33 0 #[] #[])
  fields := #[]
  methods := #[k0m0, k0m1, k0m2]
  instanceTypes := #[]
  staticTypes := #[]
  resolved := Array.replicate 124 none
  statics := none }

def pool1 : Array CpInfo := pool [(2, .class_ 4), (0, .nameAndType 5 6), (0, u "java/lang/Object"), (0, u "<init>"), (0, u "()V"), (0, .methodref 8 9), (0, .class_ 10), (0, .nameAndType 11 12), (0, u "java/lang/String"), (0, u "valueOf"), (0, u "(C)Ljava/lang/String;"), (0, .methodref 14 15), (0, .class_ 16), (0, .nameAndType 17 18), (0, u "com/example/entitlement/entitlement/Subject"), (0, u "userset"), (0, u "(Ljava/lang/String;Ljava/lang/String;Ljava/lang/String;)Lcom/example/entitlement/entitlement/Subject;"), (0, .class_ 20), (0, u "com/example/entitlement/entitlement/ObjectRef"), (0, .methodref 19 22), (0, .nameAndType 5 23), (0, u "(Ljava/lang/String;Ljava/lang/String;)V"), (0, .class_ 25), (0, u "com/example/entitlement/entitlement/CountedHolders"), (0, .methodref 24 3), (0, .methodref 24 28), (0, .nameAndType 29 30), (0, u "isEmpty"), (0, u "()Z"), (0, .methodref 32 33), (0, .class_ 34), (0, .nameAndType 35 36), (0, u "com/example/entitlement/entitlement/CountedHoldersIsEmptyPinLaw"), (0, u "step"), (0, u "(Lcom/example/entitlement/entitlement/CountedHolders;[Ljava/lang/Object;[II)Z"), (0, .methodref 24 38), (0, .nameAndType 39 40), (0, u "add"), (0, u "(Ljava/lang/Object;)V"), (0, .methodref 24 42), (0, .nameAndType 43 40), (0, u "remove"), (2, u "law"), (0, u "(IIII)Z")] 7

def k1m0 : Method := { name := "<init>", desc := "()V", sig := { parameters := [], returnType := none }, accessFlags := 1, code := none }
def k1c1 : Code := { maxStack := 6, maxLocals := 16, code := code, exceptionTable := #[], attributes := #[] }
def k1m1 : Method := { name := "law", desc := "(IIII)Z", sig := { parameters := [.int, .int, .int, .int], returnType := some .boolean }, accessFlags := 9, code := some k1c1 }
def k1c2 : Code := { maxStack := 4, maxLocals := 6, code := method_3_code, exceptionTable := #[], attributes := #[] }
def k1m2 : Method := { name := "step", desc := "(Lcom/example/entitlement/entitlement/CountedHolders;[Ljava/lang/Object;[II)Z", sig := { parameters := [(.object "com/example/entitlement/entitlement/CountedHolders"), (.array (.object "java/lang/Object")), (.array .int), .int], returnType := some .boolean }, accessFlags := 10, code := some k1c2 }
/-- com/example/entitlement/entitlement/CountedHoldersIsEmptyPinLaw -/
def k1 : Class := { plain "com/example/entitlement/entitlement/CountedHoldersIsEmptyPinLaw" (some 0) with
  accessFlags := 49
  interfaces := #[]
  cf := some (fileOf pool1 32 #[] #[{ accessFlags := 1, nameIndex := 5, descriptorIndex := 6, attributes := #[] }, { accessFlags := 9, nameIndex := 46, descriptorIndex := 47, attributes := #[] }, { accessFlags := 10, nameIndex := 35, descriptorIndex := 36, attributes := #[] }] 49 2 #[] #[])
  fields := #[]
  methods := #[k1m0, k1m1, k1m2]
  instanceTypes := #[]
  staticTypes := #[]
  resolved := Array.replicate 55 none
  statics := none }

def pool2 : Array CpInfo := pool [(1, .class_ 2), (0, u "java/io/Serializable"), (0, .class_ 4), (0, u "java/lang/Object")] 2

/-- java/io/Serializable -/
def k2 : Class := { plain "java/io/Serializable" (some 0) with
  accessFlags := 1537
  interfaces := #[]
  cf := some (fileOf pool2 1 #[] #[] 1537 3 #[] #[])
  fields := #[]
  methods := #[]
  instanceTypes := #[]
  staticTypes := #[]
  resolved := Array.replicate 7 none
  statics := none }

def pool3 : Array CpInfo := pool [(1, .class_ 2), (0, u "java/lang/Comparable"), (0, .class_ 4), (0, u "java/lang/Object")] 7

/-- java/lang/Comparable -/
def k3 : Class := { plain "java/lang/Comparable" (some 0) with
  accessFlags := 1537
  interfaces := #[]
  cf := some (fileOf pool3 1 #[] #[] 1537 3 #[] #[])
  fields := #[]
  methods := #[]
  instanceTypes := #[]
  staticTypes := #[]
  resolved := Array.replicate 12 none
  statics := none }

def pool4 : Array CpInfo := pool [(2, .class_ 4), (1, u "java/lang/CharSequence"), (42, .class_ 48), (0, u "java/lang/CharSequence$1CodePointIterator"), (10, .class_ 60), (0, u "java/lang/CharSequence$1CharIterator"), (5, .class_ 67), (0, u "java/lang/Object")] 63

/-- java/lang/CharSequence -/
def k4 : Class := { plain "java/lang/CharSequence" (some 0) with
  accessFlags := 1537
  interfaces := #[]
  cf := some (fileOf pool4 2 #[.nestMembers #[47, 59]] #[] 1537 66 #[] #[])
  fields := #[]
  methods := #[]
  instanceTypes := #[]
  staticTypes := #[]
  resolved := Array.replicate 131 none
  statics := none }

def pool5 : Array CpInfo := pool [(1, .class_ 2), (0, u "java/lang/constant/Constable"), (0, .class_ 4), (0, u "java/lang/Object")] 6

/-- java/lang/constant/Constable -/
def k5 : Class := { plain "java/lang/constant/Constable" (some 0) with
  accessFlags := 1537
  interfaces := #[]
  cf := some (fileOf pool5 1 #[] #[] 1537 3 #[] #[])
  fields := #[]
  methods := #[]
  instanceTypes := #[]
  staticTypes := #[]
  resolved := Array.replicate 11 none
  statics := none }

def pool6 : Array CpInfo := pool [(1, .class_ 2), (0, u "java/lang/constant/ConstantDesc"), (0, .class_ 4), (0, u "java/lang/Object")] 32

/-- java/lang/constant/ConstantDesc -/
def k6 : Class := { plain "java/lang/constant/ConstantDesc" (some 0) with
  accessFlags := 1537
  interfaces := #[]
  cf := some (fileOf pool6 1 #[] #[] 1537 3 #[] #[])
  fields := #[]
  methods := #[]
  instanceTypes := #[]
  staticTypes := #[]
  resolved := Array.replicate 37 none
  statics := none }

def pool7 : Array CpInfo := pool [(1, .methodref 2 3), (0, .class_ 4), (0, .nameAndType 5 6), (0, u "java/lang/Object"), (0, u "<init>"), (0, u "()V"), (2, .fieldref 10 11), (0, .class_ 12), (0, .nameAndType 13 14), (0, u "java/lang/String"), (0, u "value"), (0, u "[B"), (0, .fieldref 10 16), (0, .nameAndType 17 18), (0, u "coder"), (0, u "B"), (0, .fieldref 10 20), (0, .nameAndType 21 22), (0, u "hash"), (0, u "I"), (0, .fieldref 10 24), (0, .nameAndType 25 26), (0, u "hashIsZero"), (0, u "Z"), (11, .fieldref 10 39), (0, .nameAndType 40 26), (0, u "COMPACT_STRINGS"), (12, u "toBytes"), (53, .class_ 109), (1, u "java/lang/StringLatin1"), (32, u "()Z"), (66, .methodref 10 210), (0, .nameAndType 5 211), (0, u "([BB)V"), (122, u "()I"), (34, u "(C)Z"), (122, .methodref 10 493), (0, .nameAndType 494 142), (0, u "isLatin1"), (46, .methodref 107 542), (0, .nameAndType 543 544), (0, u "equals"), (0, u "([B[B)Z"), (28, u "(Ljava/lang/Object;)Z"), (1, .class_ 576), (0, u "java/lang/CharSequence"), (22, u "CASE_INSENSITIVE_ORDER"), (0, u "Ljava/util/Comparator;"), (27, .methodref 107 629), (0, .nameAndType 630 631), (0, u "hashCode"), (0, u "([B)I"), (150, u "valueOf"), (0, u "(C)Ljava/lang/String;"), (231, .methodref 107 1016), (0, .nameAndType 1017 369), (0, u "canEncode"), (0, .methodref 107 1019), (0, .nameAndType 53 1020), (0, u "(C)[B"), (80, u "serialPersistentFields"), (0, u "[Ljava/io/ObjectStreamField;"), (0, .class_ 1104), (0, u "java/lang/String$CaseInsensitiveComparator"), (1, .class_ 1107), (0, u "java/io/Serializable"), (0, .class_ 1109), (0, u "java/lang/Comparable"), (0, .class_ 1111), (0, u "java/lang/constant/Constable"), (0, .class_ 1113), (0, u "java/lang/constant/ConstantDesc"), (2, u "serialVersionUID"), (0, u "J"), (3, u "REPL"), (0, u "C"), (2, u "LATIN1"), (1, u "UTF16")] 323

def k7m0 : Method := { name := "<init>", desc := "()V", sig := { parameters := [], returnType := none }, accessFlags := 1, code := none }
def k7c1 : Code := { maxStack := 2, maxLocals := 3, code := jdk_42_method_66_code, exceptionTable := #[], attributes := #[] }
def k7m1 : Method := { name := "equals", desc := "(Ljava/lang/Object;)Z", sig := { parameters := [(.object "java/lang/Object")], returnType := some .boolean }, accessFlags := 1, code := some k7c1 }
def k7c2 : Code := { maxStack := 2, maxLocals := 2, code := jdk_42_method_78_code, exceptionTable := #[], attributes := #[] }
def k7m2 : Method := { name := "hashCode", desc := "()I", sig := { parameters := [], returnType := some .int }, accessFlags := 1, code := some k7c2 }
def k7c3 : Code := { maxStack := 4, maxLocals := 1, code := jdk_42_method_139_code, exceptionTable := #[], attributes := #[] }
def k7m3 : Method := { name := "valueOf", desc := "(C)Ljava/lang/String;", sig := { parameters := [.char], returnType := some (.object "java/lang/String") }, accessFlags := 9, code := some k7c3 }
def k7c4 : Code := { maxStack := 2, maxLocals := 3, code := jdk_42_method_151_code, exceptionTable := #[], attributes := #[] }
def k7m4 : Method := { name := "<init>", desc := "([BB)V", sig := { parameters := [(.array .byte), .byte], returnType := none }, accessFlags := 0, code := some k7c4 }
def k7c5 : Code := { maxStack := 1, maxLocals := 1, code := jdk_42_method_154_code, exceptionTable := #[], attributes := #[] }
def k7m5 : Method := { name := "isLatin1", desc := "()Z", sig := { parameters := [], returnType := some .boolean }, accessFlags := 0, code := some k7c5 }
/-- java/lang/String -/
def k7 : Class := { plain "java/lang/String" (some 0) with
  accessFlags := 49
  interfaces := #[2, 3, 4, 5, 6]
  cf := some (fileOf pool7 10 #[.nestMembers #[1103]] #[{ accessFlags := 1, nameIndex := 5, descriptorIndex := 6, attributes := #[] }, { accessFlags := 1, nameIndex := 543, descriptorIndex := 573, attributes := #[] }, { accessFlags := 1, nameIndex := 630, descriptorIndex := 334, attributes := #[] }, { accessFlags := 9, nameIndex := 782, descriptorIndex := 783, attributes := #[] }, { accessFlags := 0, nameIndex := 5, descriptorIndex := 211, attributes := #[] }, { accessFlags := 0, nameIndex := 494, descriptorIndex := 142, attributes := #[] }] 49 2 #[1106, 1108, 575, 1110, 1112] #[{ accessFlags := 18, nameIndex := 13, descriptorIndex := 14, attributes := #[] }, { accessFlags := 18, nameIndex := 17, descriptorIndex := 18, attributes := #[] }, { accessFlags := 2, nameIndex := 21, descriptorIndex := 22, attributes := #[] }, { accessFlags := 2, nameIndex := 25, descriptorIndex := 26, attributes := #[] }, { accessFlags := 26, nameIndex := 1116, descriptorIndex := 1117, attributes := #[] }, { accessFlags := 24, nameIndex := 40, descriptorIndex := 26, attributes := #[] }, { accessFlags := 26, nameIndex := 1101, descriptorIndex := 1102, attributes := #[] }, { accessFlags := 26, nameIndex := 1121, descriptorIndex := 1122, attributes := #[] }, { accessFlags := 25, nameIndex := 599, descriptorIndex := 600, attributes := #[] }, { accessFlags := 24, nameIndex := 1125, descriptorIndex := 18, attributes := #[] }, { accessFlags := 24, nameIndex := 1127, descriptorIndex := 18, attributes := #[] }])
  fields := #[{ name := "value", type := (.array .byte), accessFlags := 18, slot := 0, constantValue := 0 }, { name := "coder", type := .byte, accessFlags := 18, slot := 1, constantValue := 0 }, { name := "hash", type := .int, accessFlags := 2, slot := 2, constantValue := 0 }, { name := "hashIsZero", type := .boolean, accessFlags := 2, slot := 3, constantValue := 0 }, { name := "serialVersionUID", type := .long, accessFlags := 26, slot := 0, constantValue := 0 }, { name := "COMPACT_STRINGS", type := .boolean, accessFlags := 24, slot := 1, constantValue := 0 }, { name := "serialPersistentFields", type := (.array (.object "java/io/ObjectStreamField")), accessFlags := 26, slot := 2, constantValue := 0 }, { name := "REPL", type := .char, accessFlags := 26, slot := 3, constantValue := 0 }, { name := "CASE_INSENSITIVE_ORDER", type := (.object "java/util/Comparator"), accessFlags := 25, slot := 4, constantValue := 0 }, { name := "LATIN1", type := .byte, accessFlags := 24, slot := 5, constantValue := 0 }, { name := "UTF16", type := .byte, accessFlags := 24, slot := 6, constantValue := 0 }]
  methods := #[k7m0, k7m1, k7m2, k7m3, k7m4, k7m5]
  instanceTypes := #[(.array .byte), .byte, .int, .boolean]
  staticTypes := #[.long, .boolean, (.array (.object "java/io/ObjectStreamField")), .char, (.object "java/util/Comparator"), .byte, .byte]
  resolved := Array.replicate 1451 none
  statics := some 0 }

def pool8 : Array CpInfo := pool [(4, .class_ 6), (1, u "java/lang/Object"), (0, u "<init>"), (0, u "()V"), (5, .class_ 16), (1, u "java/lang/StringLatin1"), (40, u "([B)I"), (32, u "canEncode"), (14, u "(C)Z"), (15, u "$assertionsDisabled"), (0, u "Z"), (98, .class_ 223), (1, u "java/lang/StringLatin1$LinesSpliterator"), (57, u "equals"), (0, u "([B[B)Z"), (15, u "hashCode"), (81, u "toBytes"), (1, u "(C)[B"), (7, .class_ 391), (0, u "java/lang/StringLatin1$CharsSpliterator")] 3

def k8m0 : Method := { name := "<init>", desc := "()V", sig := { parameters := [], returnType := none }, accessFlags := 0, code := none }
def k8c1 : Code := { maxStack := 2, maxLocals := 1, code := jdk_43_method_3_code, exceptionTable := #[], attributes := #[] }
def k8m1 : Method := { name := "canEncode", desc := "(C)Z", sig := { parameters := [.char], returnType := some .boolean }, accessFlags := 9, code := some k8c1 }
def k8c2 : Code := { maxStack := 3, maxLocals := 3, code := jdk_43_method_13_code, exceptionTable := #[], attributes := #[] }
def k8m2 : Method := { name := "equals", desc := "([B[B)Z", sig := { parameters := [(.array .byte), (.array .byte)], returnType := some .boolean }, accessFlags := 9, code := some k8c2 }
def k8c3 : Code := { maxStack := 5, maxLocals := 1, code := jdk_43_method_21_code, exceptionTable := #[], attributes := #[] }
def k8m3 : Method := { name := "hashCode", desc := "([B)I", sig := { parameters := [(.array .byte)], returnType := some .int }, accessFlags := 9, code := some k8c3 }
def k8c4 : Code := { maxStack := 4, maxLocals := 1, code := jdk_43_method_46_code, exceptionTable := #[], attributes := #[] }
def k8m4 : Method := { name := "toBytes", desc := "(C)[B", sig := { parameters := [.char], returnType := some (.array .byte) }, accessFlags := 9, code := some k8c4 }
/-- java/lang/StringLatin1 -/
def k8 : Class := { plain "java/lang/StringLatin1" (some 0) with
  accessFlags := 48
  interfaces := #[]
  cf := some (fileOf pool8 14 #[.nestMembers #[390, 221]] #[{ accessFlags := 0, nameIndex := 7, descriptorIndex := 8, attributes := #[] }, { accessFlags := 9, nameIndex := 90, descriptorIndex := 105, attributes := #[] }, { accessFlags := 9, nameIndex := 281, descriptorIndex := 282, attributes := #[] }, { accessFlags := 9, nameIndex := 298, descriptorIndex := 57, attributes := #[] }, { accessFlags := 9, nameIndex := 380, descriptorIndex := 382, attributes := #[] }] 48 4 #[] #[{ accessFlags := 4120, nameIndex := 121, descriptorIndex := 122, attributes := #[] }])
  fields := #[{ name := "$assertionsDisabled", type := .boolean, accessFlags := 4120, slot := 0, constantValue := 0 }]
  methods := #[k8m0, k8m1, k8m2, k8m3, k8m4]
  instanceTypes := #[]
  staticTypes := #[.boolean]
  resolved := Array.replicate 395 none
  statics := none }

def pool9 : Array CpInfo := pool [(1, .methodref 2 3), (0, .class_ 4), (0, .nameAndType 5 6), (0, u "java/lang/Object"), (0, u "<init>"), (0, u "()V"), (0, .string 8), (0, u "type"), (0, .methodref 10 11), (0, .class_ 12), (0, .nameAndType 13 14), (0, u "java/util/Objects"), (0, u "requireNonNull"), (0, u "(Ljava/lang/Object;Ljava/lang/String;)Ljava/lang/Object;"), (0, .class_ 16), (0, u "java/lang/String"), (0, .fieldref 18 19), (0, .class_ 20), (0, .nameAndType 8 21), (0, u "com/example/entitlement/entitlement/Subject"), (0, u "Ljava/lang/String;"), (0, .string 23), (0, u "id"), (0, .fieldref 18 25), (0, .nameAndType 23 21), (0, .fieldref 18 27), (0, .nameAndType 28 21), (0, u "relation"), (0, .methodref 18 30), (0, .nameAndType 5 31), (0, u "(Ljava/lang/String;Ljava/lang/String;Ljava/lang/String;)V"), (0, .string 28), (0, .string 34), (0, u "*"), (0, .methodref 15 36), (0, .nameAndType 37 38), (0, u "equals"), (0, u "(Ljava/lang/Object;)Z"), (23, .methodref 10 63), (0, .nameAndType 64 65), (0, u "hash"), (0, u "([Ljava/lang/Object;)I"), (6, u "WILDCARD"), (5, u "userset"), (0, u "(Ljava/lang/String;Ljava/lang/String;Ljava/lang/String;)Lcom/example/entitlement/entitlement/Subject;"), (14, u "hashCode"), (0, u "()I")] 22

def k9c0 : Code := { maxStack := 3, maxLocals := 4, code := prog_35_method_1_code, exceptionTable := #[], attributes := #[] }
def k9m0 : Method := { name := "<init>", desc := "(Ljava/lang/String;Ljava/lang/String;Ljava/lang/String;)V", sig := { parameters := [(.object "java/lang/String"), (.object "java/lang/String"), (.object "java/lang/String")], returnType := none }, accessFlags := 2, code := some k9c0 }
def k9c1 : Code := { maxStack := 5, maxLocals := 3, code := prog_35_method_3_code, exceptionTable := #[], attributes := #[] }
def k9m1 : Method := { name := "userset", desc := "(Ljava/lang/String;Ljava/lang/String;Ljava/lang/String;)Lcom/example/entitlement/entitlement/Subject;", sig := { parameters := [(.object "java/lang/String"), (.object "java/lang/String"), (.object "java/lang/String")], returnType := some (.object "com/example/entitlement/entitlement/Subject") }, accessFlags := 9, code := some k9c1 }
def k9c2 : Code := { maxStack := 4, maxLocals := 1, code := prog_35_method_11_code, exceptionTable := #[], attributes := #[] }
def k9m2 : Method := { name := "hashCode", desc := "()I", sig := { parameters := [], returnType := some .int }, accessFlags := 1, code := some k9c2 }
/-- com/example/entitlement/entitlement/Subject -/
def k9 : Class := { plain "com/example/entitlement/entitlement/Subject" (some 0) with
  accessFlags := 33
  interfaces := #[]
  cf := some (fileOf pool9 18 #[] #[{ accessFlags := 2, nameIndex := 5, descriptorIndex := 31, attributes := #[] }, { accessFlags := 9, nameIndex := 78, descriptorIndex := 79, attributes := #[] }, { accessFlags := 1, nameIndex := 94, descriptorIndex := 95, attributes := #[] }] 33 2 #[] #[{ accessFlags := 26, nameIndex := 72, descriptorIndex := 21, attributes := #[] }, { accessFlags := 18, nameIndex := 8, descriptorIndex := 21, attributes := #[] }, { accessFlags := 18, nameIndex := 23, descriptorIndex := 21, attributes := #[] }, { accessFlags := 18, nameIndex := 28, descriptorIndex := 21, attributes := #[] }])
  fields := #[{ name := "WILDCARD", type := (.object "java/lang/String"), accessFlags := 26, slot := 0, constantValue := 0 }, { name := "type", type := (.object "java/lang/String"), accessFlags := 18, slot := 0, constantValue := 0 }, { name := "id", type := (.object "java/lang/String"), accessFlags := 18, slot := 1, constantValue := 0 }, { name := "relation", type := (.object "java/lang/String"), accessFlags := 18, slot := 2, constantValue := 0 }]
  methods := #[k9m0, k9m1, k9m2]
  instanceTypes := #[(.object "java/lang/String"), (.object "java/lang/String"), (.object "java/lang/String")]
  staticTypes := #[(.object "java/lang/String")]
  resolved := Array.replicate 118 none
  statics := none }

def pool10 : Array CpInfo := pool [(2, .class_ 4), (1, u "java/lang/Object"), (0, u "<init>"), (0, u "()V"), (12, .class_ 21), (1, u "java/util/Arrays"), (4, u "hashCode"), (1, .methodref 19 29), (0, .nameAndType 26 30), (0, u "([Ljava/lang/Object;)I"), (11, .class_ 44), (1, u "java/util/Objects"), (0, u "requireNonNull"), (48, u "(Ljava/lang/Object;Ljava/lang/String;)Ljava/lang/Object;"), (42, u "hash")] 46

def k10m0 : Method := { name := "<init>", desc := "()V", sig := { parameters := [], returnType := none }, accessFlags := 2, code := none }
def k10c1 : Code := { maxStack := 1, maxLocals := 1, code := jdk_31_method_5_code, exceptionTable := #[], attributes := #[] }
def k10m1 : Method := { name := "hash", desc := "([Ljava/lang/Object;)I", sig := { parameters := [(.array (.object "java/lang/Object"))], returnType := some .int }, accessFlags := 137, code := some k10c1 }
def k10c2 : Code := { maxStack := 3, maxLocals := 2, code := jdk_31_method_11_code, exceptionTable := #[], attributes := #[] }
def k10m2 : Method := { name := "requireNonNull", desc := "(Ljava/lang/Object;Ljava/lang/String;)Ljava/lang/Object;", sig := { parameters := [(.object "java/lang/Object"), (.object "java/lang/String")], returnType := some (.object "java/lang/Object") }, accessFlags := 9, code := some k10c2 }
/-- java/util/Objects -/
def k10 : Class := { plain "java/util/Objects" (some 0) with
  accessFlags := 49
  interfaces := #[]
  cf := some (fileOf pool10 42 #[] #[{ accessFlags := 2, nameIndex := 5, descriptorIndex := 6, attributes := #[] }, { accessFlags := 137, nameIndex := 137, descriptorIndex := 30, attributes := #[] }, { accessFlags := 9, nameIndex := 45, descriptorIndex := 94, attributes := #[] }] 49 2 #[] #[])
  fields := #[]
  methods := #[k10m0, k10m1, k10m2]
  instanceTypes := #[]
  staticTypes := #[]
  resolved := Array.replicate 184 none
  statics := none }

def pool11 : Array CpInfo := pool [(1, .methodref 2 3), (0, .class_ 4), (0, .nameAndType 5 6), (0, u "java/lang/Object"), (0, u "<init>"), (0, u "()V"), (0, .string 8), (0, u "type"), (0, .methodref 10 11), (0, .class_ 12), (0, .nameAndType 13 14), (0, u "java/util/Objects"), (0, u "requireNonNull"), (0, u "(Ljava/lang/Object;Ljava/lang/String;)Ljava/lang/Object;"), (0, .class_ 16), (0, u "java/lang/String"), (0, .fieldref 18 19), (0, .class_ 20), (0, .nameAndType 8 21), (0, u "com/example/entitlement/entitlement/ObjectRef"), (0, u "Ljava/lang/String;"), (0, .string 23), (0, u "id"), (0, .fieldref 18 25), (0, .nameAndType 23 21), (0, .methodref 15 27), (0, .nameAndType 28 29), (0, u "hashCode"), (0, u "()I"), (0, .fieldref 18 31), (0, .nameAndType 32 33), (0, u "hash"), (0, u "I"), (8, u "(Ljava/lang/String;Ljava/lang/String;)V")] 24

def k11c0 : Code := { maxStack := 3, maxLocals := 3, code := prog_20_method_1_code, exceptionTable := #[], attributes := #[] }
def k11m0 : Method := { name := "<init>", desc := "(Ljava/lang/String;Ljava/lang/String;)V", sig := { parameters := [(.object "java/lang/String"), (.object "java/lang/String")], returnType := none }, accessFlags := 1, code := some k11c0 }
def k11c1 : Code := { maxStack := 1, maxLocals := 1, code := prog_20_method_5_code, exceptionTable := #[], attributes := #[] }
def k11m1 : Method := { name := "hashCode", desc := "()I", sig := { parameters := [], returnType := some .int }, accessFlags := 1, code := some k11c1 }
/-- com/example/entitlement/entitlement/ObjectRef -/
def k11 : Class := { plain "com/example/entitlement/entitlement/ObjectRef" (some 0) with
  accessFlags := 33
  interfaces := #[]
  cf := some (fileOf pool11 18 #[] #[{ accessFlags := 1, nameIndex := 5, descriptorIndex := 42, attributes := #[] }, { accessFlags := 1, nameIndex := 28, descriptorIndex := 29, attributes := #[] }] 33 2 #[] #[{ accessFlags := 18, nameIndex := 8, descriptorIndex := 21, attributes := #[] }, { accessFlags := 18, nameIndex := 23, descriptorIndex := 21, attributes := #[] }, { accessFlags := 18, nameIndex := 32, descriptorIndex := 33, attributes := #[] }])
  fields := #[{ name := "type", type := (.object "java/lang/String"), accessFlags := 18, slot := 0, constantValue := 0 }, { name := "id", type := (.object "java/lang/String"), accessFlags := 18, slot := 1, constantValue := 0 }, { name := "hash", type := .int, accessFlags := 18, slot := 2, constantValue := 0 }]
  methods := #[k11m0, k11m1]
  instanceTypes := #[(.object "java/lang/String"), (.object "java/lang/String"), .int]
  staticTypes := #[]
  resolved := Array.replicate 67 none
  statics := none }

def pool12 : Array CpInfo := pool [(1, .methodref 2 3), (0, .class_ 4), (0, .nameAndType 5 6), (0, u "java/lang/Object"), (0, u "<init>"), (0, u "()V"), (43, .class_ 52), (1, u "com/example/entitlement/entitlement/Holders"), (0, u "NONE"), (0, u "Lcom/example/entitlement/entitlement/Holders;")] 25

def k12c0 : Code := { maxStack := 1, maxLocals := 1, code := prog_10_method_1_code, exceptionTable := #[], attributes := #[] }
def k12m0 : Method := { name := "<init>", desc := "()V", sig := { parameters := [], returnType := none }, accessFlags := 0, code := some k12c0 }
/-- com/example/entitlement/entitlement/Holders -/
def k12 : Class := { plain "com/example/entitlement/entitlement/Holders" (some 0) with
  accessFlags := 1056
  interfaces := #[]
  cf := some (fileOf pool12 50 #[] #[{ accessFlags := 0, nameIndex := 5, descriptorIndex := 6, attributes := #[] }] 1056 2 #[] #[{ accessFlags := 24, nameIndex := 53, descriptorIndex := 54, attributes := #[] }])
  fields := #[{ name := "NONE", type := (.object "com/example/entitlement/entitlement/Holders"), accessFlags := 24, slot := 0, constantValue := 0 }]
  methods := #[k12m0]
  instanceTypes := #[]
  staticTypes := #[(.object "com/example/entitlement/entitlement/Holders")]
  resolved := Array.replicate 80 none
  statics := none }

def pool13 : Array CpInfo := pool [(1, .methodref 2 3), (0, .class_ 4), (0, .nameAndType 5 6), (0, u "com/example/entitlement/entitlement/Holders"), (0, u "<init>"), (0, u "()V"), (0, .class_ 8), (0, u "java/lang/String"), (0, .fieldref 10 11), (0, .class_ 12), (0, .nameAndType 13 14), (0, u "com/example/entitlement/entitlement/CountedHolders"), (0, u "wildcardTypes"), (0, u "Lcom/example/entitlement/entitlement/Tally;"), (0, .methodref 10 16), (0, .nameAndType 17 18), (0, u "addOne"), (0, u "(Lcom/example/entitlement/entitlement/Tally;Ljava/lang/Object;)Lcom/example/entitlement/entitlement/Tally;"), (0, .class_ 20), (0, u "com/example/entitlement/entitlement/Subject"), (0, .fieldref 10 22), (0, .nameAndType 23 14), (0, u "usersets"), (0, .fieldref 10 25), (0, .nameAndType 26 14), (0, u "objects"), (0, .class_ 28), (0, u "com/example/entitlement/entitlement/ObjectRef"), (0, .methodref 10 30), (0, .nameAndType 31 18), (0, u "removeOne"), (17, .class_ 51), (1, u "com/example/entitlement/entitlement/Tally"), (10, .methodref 49 3), (0, .methodref 49 64), (0, .nameAndType 65 66), (0, u "add"), (0, u "(Ljava/lang/Object;)V"), (0, .methodref 49 68), (0, .nameAndType 69 70), (0, u "remove"), (0, u "(Ljava/lang/Object;)Z"), (0, .methodref 49 72), (0, .nameAndType 73 74), (0, u "isEmpty"), (0, u "()Z")] 34

def k13c0 : Code := { maxStack := 1, maxLocals := 1, code := prog_5_method_1_code, exceptionTable := #[], attributes := #[] }
def k13m0 : Method := { name := "<init>", desc := "()V", sig := { parameters := [], returnType := none }, accessFlags := 0, code := some k13c0 }
def k13c1 : Code := { maxStack := 3, maxLocals := 4, code := prog_5_method_2_code, exceptionTable := #[], attributes := #[] }
def k13m1 : Method := { name := "add", desc := "(Ljava/lang/Object;)V", sig := { parameters := [(.object "java/lang/Object")], returnType := none }, accessFlags := 0, code := some k13c1 }
def k13c2 : Code := { maxStack := 3, maxLocals := 4, code := prog_5_method_3_code, exceptionTable := #[], attributes := #[] }
def k13m2 : Method := { name := "remove", desc := "(Ljava/lang/Object;)V", sig := { parameters := [(.object "java/lang/Object")], returnType := none }, accessFlags := 0, code := some k13c2 }
def k13c3 : Code := { maxStack := 1, maxLocals := 1, code := prog_5_method_7_code, exceptionTable := #[], attributes := #[] }
def k13m3 : Method := { name := "isEmpty", desc := "()Z", sig := { parameters := [], returnType := some .boolean }, accessFlags := 0, code := some k13c3 }
def k13c4 : Code := { maxStack := 2, maxLocals := 3, code := prog_5_method_11_code, exceptionTable := #[], attributes := #[] }
def k13m4 : Method := { name := "addOne", desc := "(Lcom/example/entitlement/entitlement/Tally;Ljava/lang/Object;)Lcom/example/entitlement/entitlement/Tally;", sig := { parameters := [(.object "com/example/entitlement/entitlement/Tally"), (.object "java/lang/Object")], returnType := some (.object "com/example/entitlement/entitlement/Tally") }, accessFlags := 10, code := some k13c4 }
def k13c5 : Code := { maxStack := 2, maxLocals := 3, code := prog_5_method_12_code, exceptionTable := #[], attributes := #[] }
def k13m5 : Method := { name := "removeOne", desc := "(Lcom/example/entitlement/entitlement/Tally;Ljava/lang/Object;)Lcom/example/entitlement/entitlement/Tally;", sig := { parameters := [(.object "com/example/entitlement/entitlement/Tally"), (.object "java/lang/Object")], returnType := some (.object "com/example/entitlement/entitlement/Tally") }, accessFlags := 10, code := some k13c5 }
/-- com/example/entitlement/entitlement/CountedHolders -/
def k13 : Class := { plain "com/example/entitlement/entitlement/CountedHolders" (some 12) with
  accessFlags := 32
  interfaces := #[]
  cf := some (fileOf pool13 10 #[] #[{ accessFlags := 0, nameIndex := 5, descriptorIndex := 6, attributes := #[] }, { accessFlags := 0, nameIndex := 65, descriptorIndex := 66, attributes := #[] }, { accessFlags := 0, nameIndex := 69, descriptorIndex := 66, attributes := #[] }, { accessFlags := 0, nameIndex := 73, descriptorIndex := 74, attributes := #[] }, { accessFlags := 10, nameIndex := 17, descriptorIndex := 18, attributes := #[] }, { accessFlags := 10, nameIndex := 31, descriptorIndex := 18, attributes := #[] }] 32 2 #[] #[{ accessFlags := 2, nameIndex := 26, descriptorIndex := 14, attributes := #[] }, { accessFlags := 2, nameIndex := 23, descriptorIndex := 14, attributes := #[] }, { accessFlags := 2, nameIndex := 13, descriptorIndex := 14, attributes := #[] }])
  fields := #[{ name := "objects", type := (.object "com/example/entitlement/entitlement/Tally"), accessFlags := 2, slot := 0, constantValue := 0 }, { name := "usersets", type := (.object "com/example/entitlement/entitlement/Tally"), accessFlags := 2, slot := 1, constantValue := 0 }, { name := "wildcardTypes", type := (.object "com/example/entitlement/entitlement/Tally"), accessFlags := 2, slot := 2, constantValue := 0 }]
  methods := #[k13m0, k13m1, k13m2, k13m3, k13m4, k13m5]
  instanceTypes := #[(.object "com/example/entitlement/entitlement/Tally"), (.object "com/example/entitlement/entitlement/Tally"), (.object "com/example/entitlement/entitlement/Tally")]
  staticTypes := #[]
  resolved := Array.replicate 109 none
  statics := none }

def pool14 : Array CpInfo := pool [(1, .methodref 2 3), (0, .class_ 4), (0, .nameAndType 5 6), (0, u "java/lang/Object"), (0, u "<init>"), (0, u "()V"), (0, .fieldref 8 9), (0, .class_ 10), (0, .nameAndType 11 12), (0, u "com/example/entitlement/entitlement/Tally"), (0, u "hashesAndCounts"), (0, u "[I"), (0, .fieldref 8 14), (0, .nameAndType 15 16), (0, u "keys"), (0, u "[Ljava/lang/Object;"), (0, .fieldref 8 18), (0, .nameAndType 19 20), (0, u "shift"), (0, u "I"), (0, .methodref 2 22), (0, .nameAndType 23 24), (0, u "hashCode"), (0, u "()I"), (0, .methodref 8 26), (0, .nameAndType 27 28), (0, u "find"), (0, u "(Ljava/lang/Object;I)I"), (0, .fieldref 8 30), (0, .nameAndType 31 20), (0, u "size"), (3, .methodref 8 36), (0, .nameAndType 37 38), (0, u "place"), (0, u "(IILjava/lang/Object;I)V"), (0, .methodref 8 40), (0, .nameAndType 41 42), (0, u "empty"), (0, u "(I)V"), (7, u "(I)I"), (0, .class_ 52), (0, u "com/example/entitlement/entitlement/Tally$Keys"), (3, .methodref 8 57), (0, .nameAndType 58 50), (0, u "home"), (0, .methodref 2 60), (0, .nameAndType 61 62), (0, u "equals"), (0, u "(Ljava/lang/Object;)Z"), (0, .integer 2654435769), (0, u "GOLDEN"), (3, u "add"), (0, u "(Ljava/lang/Object;)V"), (3, u "remove"), (3, u "isEmpty"), (0, u "()Z"), (12, .class_ 92), (0, u "com/example/entitlement/entitlement/Tally$Keys$1")] 2

def k14c0 : Code := { maxStack := 2, maxLocals := 1, code := prog_38_method_1_code, exceptionTable := #[], attributes := #[] }
def k14m0 : Method := { name := "<init>", desc := "()V", sig := { parameters := [], returnType := none }, accessFlags := 0, code := some k14c0 }
def k14c1 : Code := { maxStack := 5, maxLocals := 4, code := prog_38_method_2_code, exceptionTable := #[], attributes := #[] }
def k14m1 : Method := { name := "add", desc := "(Ljava/lang/Object;)V", sig := { parameters := [(.object "java/lang/Object")], returnType := none }, accessFlags := 0, code := some k14c1 }
def k14c2 : Code := { maxStack := 4, maxLocals := 4, code := prog_38_method_3_code, exceptionTable := #[], attributes := #[] }
def k14m2 : Method := { name := "remove", desc := "(Ljava/lang/Object;)Z", sig := { parameters := [(.object "java/lang/Object")], returnType := some .boolean }, accessFlags := 0, code := some k14c2 }
def k14c3 : Code := { maxStack := 1, maxLocals := 1, code := prog_38_method_6_code, exceptionTable := #[], attributes := #[] }
def k14m3 : Method := { name := "isEmpty", desc := "()Z", sig := { parameters := [], returnType := some .boolean }, accessFlags := 0, code := some k14c3 }
def k14c4 : Code := { maxStack := 3, maxLocals := 6, code := prog_38_method_9_code, exceptionTable := #[], attributes := #[] }
def k14m4 : Method := { name := "find", desc := "(Ljava/lang/Object;I)I", sig := { parameters := [(.object "java/lang/Object"), .int], returnType := some .int }, accessFlags := 2, code := some k14c4 }
def k14c5 : Code := { maxStack := 2, maxLocals := 2, code := prog_38_method_10_code, exceptionTable := #[], attributes := #[] }
def k14m5 : Method := { name := "home", desc := "(I)I", sig := { parameters := [.int], returnType := some .int }, accessFlags := 2, code := some k14c5 }
def k14c6 : Code := { maxStack := 3, maxLocals := 5, code := prog_38_method_11_code, exceptionTable := #[], attributes := #[] }
def k14m6 : Method := { name := "place", desc := "(IILjava/lang/Object;I)V", sig := { parameters := [.int, .int, (.object "java/lang/Object"), .int], returnType := none }, accessFlags := 2, code := some k14c6 }
def k14c7 : Code := { maxStack := 7, maxLocals := 6, code := prog_38_method_12_code, exceptionTable := #[], attributes := #[] }
def k14m7 : Method := { name := "empty", desc := "(I)V", sig := { parameters := [.int], returnType := none }, accessFlags := 2, code := some k14c7 }
/-- com/example/entitlement/entitlement/Tally -/
def k14 : Class := { plain "com/example/entitlement/entitlement/Tally" (some 0) with
  accessFlags := 32
  interfaces := #[]
  cf := some (fileOf pool14 8 #[.nestMembers #[51, 91]] #[{ accessFlags := 0, nameIndex := 5, descriptorIndex := 6, attributes := #[] }, { accessFlags := 0, nameIndex := 68, descriptorIndex := 69, attributes := #[] }, { accessFlags := 0, nameIndex := 73, descriptorIndex := 62, attributes := #[] }, { accessFlags := 0, nameIndex := 77, descriptorIndex := 78, attributes := #[] }, { accessFlags := 2, nameIndex := 27, descriptorIndex := 28, attributes := #[] }, { accessFlags := 2, nameIndex := 58, descriptorIndex := 50, attributes := #[] }, { accessFlags := 2, nameIndex := 37, descriptorIndex := 38, attributes := #[] }, { accessFlags := 2, nameIndex := 41, descriptorIndex := 42, attributes := #[] }] 32 2 #[] #[{ accessFlags := 26, nameIndex := 64, descriptorIndex := 20, attributes := #[] }, { accessFlags := 2, nameIndex := 11, descriptorIndex := 12, attributes := #[] }, { accessFlags := 2, nameIndex := 15, descriptorIndex := 16, attributes := #[] }, { accessFlags := 2, nameIndex := 31, descriptorIndex := 20, attributes := #[] }, { accessFlags := 2, nameIndex := 19, descriptorIndex := 20, attributes := #[] }])
  fields := #[{ name := "GOLDEN", type := .int, accessFlags := 26, slot := 0, constantValue := 0 }, { name := "hashesAndCounts", type := (.array .int), accessFlags := 2, slot := 0, constantValue := 0 }, { name := "keys", type := (.array (.object "java/lang/Object")), accessFlags := 2, slot := 1, constantValue := 0 }, { name := "size", type := .int, accessFlags := 2, slot := 2, constantValue := 0 }, { name := "shift", type := .int, accessFlags := 2, slot := 3, constantValue := 0 }]
  methods := #[k14m0, k14m1, k14m2, k14m3, k14m4, k14m5, k14m6, k14m7]
  instanceTypes := #[(.array .int), (.array (.object "java/lang/Object")), .int, .int]
  staticTypes := #[.int]
  resolved := Array.replicate 95 none
  statics := none }

def pool15 : Array CpInfo := pool [(2, .class_ 4), (1, u "java/lang/Object"), (0, u "<init>"), (0, u "()V"), (7, .class_ 16), (1, u "java/util/Arrays"), (25, u "()I"), (31, .class_ 76), (1, u "java/util/Arrays$NaturalOrder"), (36, .class_ 115), (1, u "java/util/Arrays$LegacyMergeSort"), (1, u "Z"), (257, .class_ 376), (0, u "java/util/Arrays$ArrayList"), (6, .methodref 2 384), (0, .nameAndType 385 42), (0, u "hashCode"), (3, u "([Ljava/lang/Object;)I"), (55, u "$assertionsDisabled"), (269, u "MIN_ARRAY_SORT_GRAN"), (0, u "I"), (2, u "INSERTIONSORT_THRESHOLD"), (255, .class_ 976), (0, u "java/util/Arrays$ArrayItr")] 52

def k15m0 : Method := { name := "<init>", desc := "()V", sig := { parameters := [], returnType := none }, accessFlags := 2, code := none }
def k15c1 : Code := { maxStack := 2, maxLocals := 6, code := jdk_65_method_157_code, exceptionTable := #[], attributes := #[] }
def k15m1 : Method := { name := "hashCode", desc := "([Ljava/lang/Object;)I", sig := { parameters := [(.array (.object "java/lang/Object"))], returnType := some .int }, accessFlags := 9, code := some k15c1 }
/-- java/util/Arrays -/
def k15 : Class := { plain "java/util/Arrays" (some 0) with
  accessFlags := 49
  interfaces := #[]
  cf := some (fileOf pool15 14 #[.nestMembers #[975, 375, 113, 74]] #[{ accessFlags := 2, nameIndex := 5, descriptorIndex := 6, attributes := #[] }, { accessFlags := 9, nameIndex := 385, descriptorIndex := 389, attributes := #[] }] 49 2 #[] #[{ accessFlags := 26, nameIndex := 715, descriptorIndex := 716, attributes := #[] }, { accessFlags := 26, nameIndex := 719, descriptorIndex := 716, attributes := #[] }, { accessFlags := 4120, nameIndex := 445, descriptorIndex := 117, attributes := #[] }])
  fields := #[{ name := "MIN_ARRAY_SORT_GRAN", type := .int, accessFlags := 26, slot := 0, constantValue := 0 }, { name := "INSERTIONSORT_THRESHOLD", type := .int, accessFlags := 26, slot := 1, constantValue := 0 }, { name := "$assertionsDisabled", type := .boolean, accessFlags := 4120, slot := 2, constantValue := 0 }]
  methods := #[k15m0, k15m1]
  instanceTypes := #[]
  staticTypes := #[.int, .int, .boolean]
  resolved := Array.replicate 1029 none
  statics := none }

def pool16 : Array CpInfo := pool [(2, .class_ 4), (1, u "java/lang/Object"), (0, u "<init>"), (0, u "()V"), (17, .class_ 26), (1, u "jdk/internal/util/Preconditions"), (28, .class_ 56), (0, u "jdk/internal/util/Preconditions$4"), (57, .class_ 115), (0, u "jdk/internal/util/Preconditions$1"), (7, u "SIOOBE_FORMATTER"), (0, u "Ljava/util/function/BiFunction;"), (0, .class_ 126), (0, u "jdk/internal/util/Preconditions$2"), (3, u "AIOOBE_FORMATTER"), (0, .class_ 132), (0, u "jdk/internal/util/Preconditions$3"), (3, u "IOOBE_FORMATTER")] 57

def k16m0 : Method := { name := "<init>", desc := "()V", sig := { parameters := [], returnType := none }, accessFlags := 1, code := none }
/-- jdk/internal/util/Preconditions -/
def k16 : Class := { plain "jdk/internal/util/Preconditions" (some 0) with
  accessFlags := 33
  interfaces := #[]
  cf := some (fileOf pool16 24 #[.nestMembers #[55, 131, 125, 114]] #[{ accessFlags := 1, nameIndex := 5, descriptorIndex := 6, attributes := #[] }] 33 2 #[] #[{ accessFlags := 25, nameIndex := 123, descriptorIndex := 124, attributes := #[] }, { accessFlags := 25, nameIndex := 130, descriptorIndex := 124, attributes := #[] }, { accessFlags := 25, nameIndex := 136, descriptorIndex := 124, attributes := #[] }])
  fields := #[{ name := "SIOOBE_FORMATTER", type := (.object "java/util/function/BiFunction"), accessFlags := 25, slot := 0, constantValue := 0 }, { name := "AIOOBE_FORMATTER", type := (.object "java/util/function/BiFunction"), accessFlags := 25, slot := 1, constantValue := 0 }, { name := "IOOBE_FORMATTER", type := (.object "java/util/function/BiFunction"), accessFlags := 25, slot := 2, constantValue := 0 }]
  methods := #[k16m0]
  instanceTypes := #[]
  staticTypes := #[(.object "java/util/function/BiFunction"), (.object "java/util/function/BiFunction"), (.object "java/util/function/BiFunction")]
  resolved := Array.replicate 194 none
  statics := some 1 }

def pool17 : Array CpInfo := pool [(9, u "<init>"), (6, .class_ 18), (1, u "java/lang/Object"), (0, u "()V"), (1, .class_ 23), (1, u "jdk/internal/util/ArraysSupport"), (0, u "LOG2_ARRAY_LONG_INDEX_SCALE"), (0, u "I"), (2, u "U"), (0, u "Ljdk/internal/misc/Unsafe;"), (8, u "BIG_ENDIAN"), (0, u "Z"), (8, u "LOG2_BYTE_BIT_SIZE"), (4, u "LOG2_ARRAY_INT_INDEX_SCALE"), (54, u "JLA"), (0, u "Ljdk/internal/access/JavaLangAccess;"), (11, u "LOG2_ARRAY_BOOLEAN_INDEX_SCALE"), (9, u "LOG2_ARRAY_BYTE_INDEX_SCALE"), (5, u "LOG2_ARRAY_CHAR_INDEX_SCALE"), (5, u "LOG2_ARRAY_SHORT_INDEX_SCALE"), (18, u "LOG2_ARRAY_FLOAT_INDEX_SCALE"), (24, u "LOG2_ARRAY_DOUBLE_INDEX_SCALE"), (89, u "T_BOOLEAN"), (2, u "T_CHAR"), (1, u "T_FLOAT"), (1, u "T_DOUBLE"), (1, u "T_BYTE"), (1, u "T_SHORT"), (1, u "T_INT"), (1, u "T_LONG"), (1, u "SOFT_MAX_ARRAY_LENGTH")] 83

def k17m0 : Method := { name := "<init>", desc := "()V", sig := { parameters := [], returnType := none }, accessFlags := 2, code := none }
/-- jdk/internal/util/ArraysSupport -/
def k17 : Class := { plain "jdk/internal/util/ArraysSupport" (some 0) with
  accessFlags := 33
  interfaces := #[]
  cf := some (fileOf pool17 21 #[] #[{ accessFlags := 2, nameIndex := 9, descriptorIndex := 19, attributes := #[] }] 33 16 #[] #[{ accessFlags := 24, nameIndex := 28, descriptorIndex := 29, attributes := #[] }, { accessFlags := 26, nameIndex := 38, descriptorIndex := 39, attributes := #[] }, { accessFlags := 25, nameIndex := 121, descriptorIndex := 25, attributes := #[] }, { accessFlags := 25, nameIndex := 131, descriptorIndex := 25, attributes := #[] }, { accessFlags := 25, nameIndex := 137, descriptorIndex := 25, attributes := #[] }, { accessFlags := 25, nameIndex := 143, descriptorIndex := 25, attributes := #[] }, { accessFlags := 25, nameIndex := 53, descriptorIndex := 25, attributes := #[] }, { accessFlags := 25, nameIndex := 24, descriptorIndex := 25, attributes := #[] }, { accessFlags := 25, nameIndex := 162, descriptorIndex := 25, attributes := #[] }, { accessFlags := 25, nameIndex := 187, descriptorIndex := 25, attributes := #[] }, { accessFlags := 26, nameIndex := 48, descriptorIndex := 25, attributes := #[] }, { accessFlags := 25, nameIndex := 277, descriptorIndex := 25, attributes := #[] }, { accessFlags := 25, nameIndex := 280, descriptorIndex := 25, attributes := #[] }, { accessFlags := 25, nameIndex := 282, descriptorIndex := 25, attributes := #[] }, { accessFlags := 25, nameIndex := 284, descriptorIndex := 25, attributes := #[] }, { accessFlags := 25, nameIndex := 286, descriptorIndex := 25, attributes := #[] }, { accessFlags := 25, nameIndex := 288, descriptorIndex := 25, attributes := #[] }, { accessFlags := 25, nameIndex := 290, descriptorIndex := 25, attributes := #[] }, { accessFlags := 25, nameIndex := 292, descriptorIndex := 25, attributes := #[] }, { accessFlags := 26, nameIndex := 108, descriptorIndex := 109, attributes := #[] }, { accessFlags := 25, nameIndex := 294, descriptorIndex := 25, attributes := #[] }])
  fields := #[{ name := "U", type := (.object "jdk/internal/misc/Unsafe"), accessFlags := 24, slot := 0, constantValue := 0 }, { name := "BIG_ENDIAN", type := .boolean, accessFlags := 26, slot := 1, constantValue := 0 }, { name := "LOG2_ARRAY_BOOLEAN_INDEX_SCALE", type := .int, accessFlags := 25, slot := 2, constantValue := 0 }, { name := "LOG2_ARRAY_BYTE_INDEX_SCALE", type := .int, accessFlags := 25, slot := 3, constantValue := 0 }, { name := "LOG2_ARRAY_CHAR_INDEX_SCALE", type := .int, accessFlags := 25, slot := 4, constantValue := 0 }, { name := "LOG2_ARRAY_SHORT_INDEX_SCALE", type := .int, accessFlags := 25, slot := 5, constantValue := 0 }, { name := "LOG2_ARRAY_INT_INDEX_SCALE", type := .int, accessFlags := 25, slot := 6, constantValue := 0 }, { name := "LOG2_ARRAY_LONG_INDEX_SCALE", type := .int, accessFlags := 25, slot := 7, constantValue := 0 }, { name := "LOG2_ARRAY_FLOAT_INDEX_SCALE", type := .int, accessFlags := 25, slot := 8, constantValue := 0 }, { name := "LOG2_ARRAY_DOUBLE_INDEX_SCALE", type := .int, accessFlags := 25, slot := 9, constantValue := 0 }, { name := "LOG2_BYTE_BIT_SIZE", type := .int, accessFlags := 26, slot := 10, constantValue := 0 }, { name := "T_BOOLEAN", type := .int, accessFlags := 25, slot := 11, constantValue := 0 }, { name := "T_CHAR", type := .int, accessFlags := 25, slot := 12, constantValue := 0 }, { name := "T_FLOAT", type := .int, accessFlags := 25, slot := 13, constantValue := 0 }, { name := "T_DOUBLE", type := .int, accessFlags := 25, slot := 14, constantValue := 0 }, { name := "T_BYTE", type := .int, accessFlags := 25, slot := 15, constantValue := 0 }, { name := "T_SHORT", type := .int, accessFlags := 25, slot := 16, constantValue := 0 }, { name := "T_INT", type := .int, accessFlags := 25, slot := 17, constantValue := 0 }, { name := "T_LONG", type := .int, accessFlags := 25, slot := 18, constantValue := 0 }, { name := "JLA", type := (.object "jdk/internal/access/JavaLangAccess"), accessFlags := 26, slot := 19, constantValue := 0 }, { name := "SOFT_MAX_ARRAY_LENGTH", type := .int, accessFlags := 25, slot := 20, constantValue := 0 }]
  methods := #[k17m0]
  instanceTypes := #[]
  staticTypes := #[(.object "jdk/internal/misc/Unsafe"), .boolean, .int, .int, .int, .int, .int, .int, .int, .int, .int, .int, .int, .int, .int, .int, .int, .int, .int, (.object "jdk/internal/access/JavaLangAccess"), .int]
  resolved := Array.replicate 378 none
  statics := none }

def pool18 : Array CpInfo := pool [(1, u "java/lang/Cloneable"), (0, .class_ 1), (0, u "java/lang/Object"), (0, .class_ 3)] 3

/-- java/lang/Cloneable -/
def k18 : Class := { plain "java/lang/Cloneable" (some 0) with
  accessFlags := 1537
  interfaces := #[]
  cf := some (fileOf pool18 2 #[] #[] 1537 4 #[] #[])
  fields := #[]
  methods := #[]
  instanceTypes := #[]
  staticTypes := #[]
  resolved := Array.replicate 8 none
  statics := none }

/-- the primitive byte -/
def k19 : Class := { plain "byte" none with kind := .primitive 'B', accessFlags := 0x411 }
/-- [B -/
def k20 : Class := { plain "[B" (some 0) with kind := .array 19 .byte, interfaces := #[18, 2], accessFlags := 1041 }

/-- the primitive int -/
def k21 : Class := { plain "int" none with kind := .primitive 'I', accessFlags := 0x411 }
/-- [I -/
def k22 : Class := { plain "[I" (some 0) with kind := .array 21 .int, interfaces := #[18, 2], accessFlags := 1041 }

/-- [Ljava/lang/Object; -/
def k23 : Class := { plain "[Ljava/lang/Object;" (some 0) with kind := .array 0 (.object "java/lang/Object"), interfaces := #[18, 2], accessFlags := 1041 }

def heap : Heap := #[{ cls := 7, slots := #[.long 0, .int 1, .null, .int 0, .null, .int 0, .int 0], vm := .statics 7 },
  { cls := 16, slots := #[.null, .null, .null], vm := .statics 16 }]
def classes : Array Class := #[k0, k1, k2, k3, k4, k5, k6, k7, k8, k9, k10, k11, k12, k13, k14, k15, k16, k17, k18, k19, k20, k21, k22, k23]
def interned : List (Array UInt16 × Addr) := []
def slotsUsed : Nat := 10
def theMethod : MethodId := ⟨1, 1⟩
def args0 : Array Value := #[.int 5, .int 1, .int 2, .int 3]
def aboutOver (below : List Frame) : State where
  vm := { classes := classes, interned := interned.toArray }
  heap := heap
  slotsUsed := slotsUsed
  threads := #[{ frames := .invoking theMethod args0 :: below }]
def below0 : List Frame := [.native { method := ⟨0, 0⟩, args := #[] }]
def about1 : State := aboutOver below0
def p0 : Program := .bare "" "" ""
def e0 : Env := launch0.env 0 0 0
theorem w_frames : about1.frames = Frame.invoking theMethod args0 :: below0 := rfl
set_option maxRecDepth 65536 in
theorem w_args : argsFit about1.vm theMethod args0 = true := by decide +kernel
set_option maxRecDepth 65536 in
theorem w_heap : heapFits about1 = true := by decide +kernel
set_option maxRecDepth 65536 in
theorem w_runnable : about1.curStatus? = some .runnable := by decide +kernel
set_option maxRecDepth 65536 in
theorem w_alone : about1.alone = true := by decide +kernel
set_option maxRecDepth 65536 in
theorem w_named : about1.methodNamed? x = some theMethod := by decide +kernel
set_option maxRecDepth 65536 in
theorem w_hears : about1.hears theMethod below0 = true := by decide +kernel
set_option maxRecDepth 65536 in
theorem w_ripe : about1.ripe theMethod args0 below0 = true := by decide +kernel
theorem w_running : about1.status = .running := rfl
set_option maxRecDepth 65536 in
theorem w_room : about1.hasRoom e0.platform room_1 = true :=
  launch0.hasRoom_least _ room_1 (by decide +kernel) (by decide +kernel) (by decide +kernel) (by decide +kernel) (by decide +kernel) (by decide +kernel)
theorem allAtoms_all (ts : List Jvm.Cond) (a : Array Jvm.Value) (st : Jvm.State) : (allAtoms ts).before a st = ts.all (fun c => c.before a st) := by
  induction ts with
  | nil => rfl
  | cons c t ih =>
    show (Jvm.Cond.and c (allAtoms t)).before a st = _
    rw [Jvm.Cond.before_and, ih, List.all_cons]
def words1 : List Jvm.Cond := Jvm.Cond.code x code maxLocals ret :: tables_1
/-- a 'code' word, met by the world's own term for the bytes: nothing is compared byte by byte -/
theorem code_word {y : MethodName} {bytes : ByteArray} {mx : Nat} {rt : Option FieldType} {a : Array Value} {s : State} {m : MethodId} {meth : Method} {c : Code} (h1 : s.methodNamed? y = some m) (h2 : s.vm.method? m = some meth) (h3 : meth.code = some c) (h4 : c.code = bytes)
    (h5 : (c.maxLocals == mx && c.exceptionTable.isEmpty && decide (c.maxStack ≤ mostOperands) && decide (meth.sig.returnType = rt) && !meth.locks && decide (parseMethodDescriptor y.desc = some meth.sig)) = true) : (Jvm.Cond.code y bytes mx rt).before a s = true := by
  simp only [Bool.and_eq_true, beq_iff_eq, Bool.not_eq_true', decide_eq_true_eq] at h5
  obtain ⟨⟨⟨⟨⟨g1, g2⟩, g3⟩, g4⟩, g5⟩, g6⟩ := h5
  simp [Cond.before, Cond.holds, Cond.value, h1, h2, h3, h4, g1, g2, g3, g4, g5, g6]
def isCode : Jvm.Cond → Bool
  | .code _ _ _ _ => true
  | _ => false
theorem all_split {L : List Jvm.Cond} {P : Jvm.Cond → Bool} (h1 : L.all (fun c => isCode c || P c) = true) (h2 : ∀ c ∈ L.filter isCode, P c = true) : L.all P = true := by
  refine List.all_eq_true.mpr fun c hc => ?_
  have h := List.all_eq_true.mp h1 c hc
  rcases Bool.eq_false_or_eq_true (isCode c) with hi | hi
  · exact h2 c (List.mem_filter.mpr ⟨hc, hi⟩)
  · simpa [hi] using h
set_option maxRecDepth 65536 in
theorem w_c0 : (Jvm.Cond.code x code maxLocals ret).before args0 about1 = true := code_word (m := ⟨1, 1⟩) (meth := k1m1) (c := k1c1) (by decide +kernel) rfl rfl rfl (by decide +kernel)
set_option maxRecDepth 65536 in
theorem w_c1 : (Jvm.Cond.code ({ cls := "java/lang/String", name := "valueOf", desc := "(C)Ljava/lang/String;" } : Jvm.MethodName) jdk_42_method_139_code (1 : Nat) (Option.some (Jvm.ClassFile.FieldType.object "java/lang/String"))).before args0 about1 = true := code_word (m := ⟨7, 3⟩) (meth := k7m3) (c := k7c3) (by decide +kernel) rfl rfl rfl (by decide +kernel)
set_option maxRecDepth 65536 in
theorem w_c2 : (Jvm.Cond.code ({ cls := "java/lang/StringLatin1", name := "canEncode", desc := "(C)Z" } : Jvm.MethodName) jdk_43_method_3_code (1 : Nat) (Option.some Jvm.ClassFile.FieldType.boolean)).before args0 about1 = true := code_word (m := ⟨8, 1⟩) (meth := k8m1) (c := k8c1) (by decide +kernel) rfl rfl rfl (by decide +kernel)
set_option maxRecDepth 65536 in
theorem w_c3 : (Jvm.Cond.code ({ cls := "java/lang/StringLatin1", name := "toBytes", desc := "(C)[B" } : Jvm.MethodName) jdk_43_method_46_code (1 : Nat) (Option.some (Jvm.ClassFile.FieldType.array Jvm.ClassFile.FieldType.byte))).before args0 about1 = true := code_word (m := ⟨8, 4⟩) (meth := k8m4) (c := k8c4) (by decide +kernel) rfl rfl rfl (by decide +kernel)
set_option maxRecDepth 65536 in
theorem w_c4 : (Jvm.Cond.code ({ cls := "java/lang/String", name := "<init>", desc := "([BB)V" } : Jvm.MethodName) jdk_42_method_151_code (3 : Nat) (Option.none : Option Jvm.ClassFile.FieldType)).before args0 about1 = true := code_word (m := ⟨7, 4⟩) (meth := k7m4) (c := k7c4) (by decide +kernel) rfl rfl rfl (by decide +kernel)
set_option maxRecDepth 65536 in
theorem w_c5 : (Jvm.Cond.code ({ cls := "java/lang/Object", name := "<init>", desc := "()V" } : Jvm.MethodName) object_method_1_code (1 : Nat) (Option.none : Option Jvm.ClassFile.FieldType)).before args0 about1 = true := code_word (m := ⟨0, 0⟩) (meth := k0m0) (c := k0c0) (by decide +kernel) rfl rfl rfl (by decide +kernel)
set_option maxRecDepth 65536 in
theorem w_c6 : (Jvm.Cond.code ({ cls := "com/example/entitlement/entitlement/Subject", name := "userset", desc := "(Ljava/lang/String;Ljava/lang/String;Ljava/lang/String;)Lcom/example/entitlement/entitlement/Subject;" } : Jvm.MethodName) prog_35_method_3_code (3 : Nat) (Option.some (Jvm.ClassFile.FieldType.object "com/example/entitlement/entitlement/Subject"))).before args0 about1 = true := code_word (m := ⟨9, 1⟩) (meth := k9m1) (c := k9c1) (by decide +kernel) rfl rfl rfl (by decide +kernel)
set_option maxRecDepth 65536 in
theorem w_c7 : (Jvm.Cond.code ({ cls := "java/util/Objects", name := "requireNonNull", desc := "(Ljava/lang/Object;Ljava/lang/String;)Ljava/lang/Object;" } : Jvm.MethodName) jdk_31_method_11_code (2 : Nat) (Option.some (Jvm.ClassFile.FieldType.object "java/lang/Object"))).before args0 about1 = true := code_word (m := ⟨10, 2⟩) (meth := k10m2) (c := k10c2) (by decide +kernel) rfl rfl rfl (by decide +kernel)
set_option maxRecDepth 65536 in
theorem w_c8 : (Jvm.Cond.code ({ cls := "java/lang/String", name := "equals", desc := "(Ljava/lang/Object;)Z" } : Jvm.MethodName) jdk_42_method_66_code (3 : Nat) (Option.some Jvm.ClassFile.FieldType.boolean)).before args0 about1 = true := code_word (m := ⟨7, 1⟩) (meth := k7m1) (c := k7c1) (by decide +kernel) rfl rfl rfl (by decide +kernel)
set_option maxRecDepth 65536 in
theorem w_c9 : (Jvm.Cond.code ({ cls := "java/lang/StringLatin1", name := "equals", desc := "([B[B)Z" } : Jvm.MethodName) jdk_43_method_13_code (3 : Nat) (Option.some Jvm.ClassFile.FieldType.boolean)).before args0 about1 = true := code_word (m := ⟨8, 2⟩) (meth := k8m2) (c := k8c2) (by decide +kernel) rfl rfl rfl (by decide +kernel)
set_option maxRecDepth 65536 in
theorem w_c10 : (Jvm.Cond.code ({ cls := "com/example/entitlement/entitlement/Subject", name := "<init>", desc := "(Ljava/lang/String;Ljava/lang/String;Ljava/lang/String;)V" } : Jvm.MethodName) prog_35_method_1_code (4 : Nat) (Option.none : Option Jvm.ClassFile.FieldType)).before args0 about1 = true := code_word (m := ⟨9, 0⟩) (meth := k9m0) (c := k9c0) (by decide +kernel) rfl rfl rfl (by decide +kernel)
set_option maxRecDepth 65536 in
theorem w_c11 : (Jvm.Cond.code ({ cls := "com/example/entitlement/entitlement/ObjectRef", name := "<init>", desc := "(Ljava/lang/String;Ljava/lang/String;)V" } : Jvm.MethodName) prog_20_method_1_code (3 : Nat) (Option.none : Option Jvm.ClassFile.FieldType)).before args0 about1 = true := code_word (m := ⟨11, 0⟩) (meth := k11m0) (c := k11c0) (by decide +kernel) rfl rfl rfl (by decide +kernel)
set_option maxRecDepth 65536 in
theorem w_c12 : (Jvm.Cond.code ({ cls := "java/lang/String", name := "hashCode", desc := "()I" } : Jvm.MethodName) jdk_42_method_78_code (2 : Nat) (Option.some Jvm.ClassFile.FieldType.int)).before args0 about1 = true := code_word (m := ⟨7, 2⟩) (meth := k7m2) (c := k7c2) (by decide +kernel) rfl rfl rfl (by decide +kernel)
set_option maxRecDepth 65536 in
theorem w_c13 : (Jvm.Cond.code ({ cls := "java/lang/String", name := "isLatin1", desc := "()Z" } : Jvm.MethodName) jdk_42_method_154_code (1 : Nat) (Option.some Jvm.ClassFile.FieldType.boolean)).before args0 about1 = true := code_word (m := ⟨7, 5⟩) (meth := k7m5) (c := k7c5) (by decide +kernel) rfl rfl rfl (by decide +kernel)
set_option maxRecDepth 65536 in
theorem w_c14 : (Jvm.Cond.code ({ cls := "java/lang/StringLatin1", name := "hashCode", desc := "([B)I" } : Jvm.MethodName) jdk_43_method_21_code (1 : Nat) (Option.some Jvm.ClassFile.FieldType.int)).before args0 about1 = true := code_word (m := ⟨8, 3⟩) (meth := k8m3) (c := k8c3) (by decide +kernel) rfl rfl rfl (by decide +kernel)
set_option maxRecDepth 65536 in
theorem w_c15 : (Jvm.Cond.code ({ cls := "com/example/entitlement/entitlement/CountedHolders", name := "<init>", desc := "()V" } : Jvm.MethodName) prog_5_method_1_code (1 : Nat) (Option.none : Option Jvm.ClassFile.FieldType)).before args0 about1 = true := code_word (m := ⟨13, 0⟩) (meth := k13m0) (c := k13c0) (by decide +kernel) rfl rfl rfl (by decide +kernel)
set_option maxRecDepth 65536 in
theorem w_c16 : (Jvm.Cond.code ({ cls := "com/example/entitlement/entitlement/Holders", name := "<init>", desc := "()V" } : Jvm.MethodName) prog_10_method_1_code (1 : Nat) (Option.none : Option Jvm.ClassFile.FieldType)).before args0 about1 = true := code_word (m := ⟨12, 0⟩) (meth := k12m0) (c := k12c0) (by decide +kernel) rfl rfl rfl (by decide +kernel)
set_option maxRecDepth 65536 in
theorem w_c17 : (Jvm.Cond.code ({ cls := "com/example/entitlement/entitlement/CountedHolders", name := "isEmpty", desc := "()Z" } : Jvm.MethodName) prog_5_method_7_code (1 : Nat) (Option.some Jvm.ClassFile.FieldType.boolean)).before args0 about1 = true := code_word (m := ⟨13, 3⟩) (meth := k13m3) (c := k13c3) (by decide +kernel) rfl rfl rfl (by decide +kernel)
set_option maxRecDepth 65536 in
theorem w_c18 : (Jvm.Cond.code ({ cls := "com/example/entitlement/entitlement/CountedHoldersIsEmptyPinLaw", name := "step", desc := "(Lcom/example/entitlement/entitlement/CountedHolders;[Ljava/lang/Object;[II)Z" } : Jvm.MethodName) method_3_code (6 : Nat) (Option.some Jvm.ClassFile.FieldType.boolean)).before args0 about1 = true := code_word (m := ⟨1, 2⟩) (meth := k1m2) (c := k1c2) (by decide +kernel) rfl rfl rfl (by decide +kernel)
set_option maxRecDepth 65536 in
theorem w_c19 : (Jvm.Cond.code ({ cls := "com/example/entitlement/entitlement/CountedHolders", name := "remove", desc := "(Ljava/lang/Object;)V" } : Jvm.MethodName) prog_5_method_3_code (4 : Nat) (Option.none : Option Jvm.ClassFile.FieldType)).before args0 about1 = true := code_word (m := ⟨13, 2⟩) (meth := k13m2) (c := k13c2) (by decide +kernel) rfl rfl rfl (by decide +kernel)
set_option maxRecDepth 65536 in
theorem w_c20 : (Jvm.Cond.code ({ cls := "com/example/entitlement/entitlement/CountedHolders", name := "removeOne", desc := "(Lcom/example/entitlement/entitlement/Tally;Ljava/lang/Object;)Lcom/example/entitlement/entitlement/Tally;" } : Jvm.MethodName) prog_5_method_12_code (3 : Nat) (Option.some (Jvm.ClassFile.FieldType.object "com/example/entitlement/entitlement/Tally"))).before args0 about1 = true := code_word (m := ⟨13, 5⟩) (meth := k13m5) (c := k13c5) (by decide +kernel) rfl rfl rfl (by decide +kernel)
set_option maxRecDepth 65536 in
theorem w_c21 : (Jvm.Cond.code ({ cls := "com/example/entitlement/entitlement/CountedHolders", name := "add", desc := "(Ljava/lang/Object;)V" } : Jvm.MethodName) prog_5_method_2_code (4 : Nat) (Option.none : Option Jvm.ClassFile.FieldType)).before args0 about1 = true := code_word (m := ⟨13, 1⟩) (meth := k13m1) (c := k13c1) (by decide +kernel) rfl rfl rfl (by decide +kernel)
set_option maxRecDepth 65536 in
theorem w_c22 : (Jvm.Cond.code ({ cls := "com/example/entitlement/entitlement/CountedHolders", name := "addOne", desc := "(Lcom/example/entitlement/entitlement/Tally;Ljava/lang/Object;)Lcom/example/entitlement/entitlement/Tally;" } : Jvm.MethodName) prog_5_method_11_code (3 : Nat) (Option.some (Jvm.ClassFile.FieldType.object "com/example/entitlement/entitlement/Tally"))).before args0 about1 = true := code_word (m := ⟨13, 4⟩) (meth := k13m4) (c := k13c4) (by decide +kernel) rfl rfl rfl (by decide +kernel)
set_option maxRecDepth 65536 in
theorem w_c23 : (Jvm.Cond.code ({ cls := "com/example/entitlement/entitlement/Tally", name := "<init>", desc := "()V" } : Jvm.MethodName) prog_38_method_1_code (1 : Nat) (Option.none : Option Jvm.ClassFile.FieldType)).before args0 about1 = true := code_word (m := ⟨14, 0⟩) (meth := k14m0) (c := k14c0) (by decide +kernel) rfl rfl rfl (by decide +kernel)
set_option maxRecDepth 65536 in
theorem w_c24 : (Jvm.Cond.code ({ cls := "com/example/entitlement/entitlement/Tally", name := "add", desc := "(Ljava/lang/Object;)V" } : Jvm.MethodName) prog_38_method_2_code (4 : Nat) (Option.none : Option Jvm.ClassFile.FieldType)).before args0 about1 = true := code_word (m := ⟨14, 1⟩) (meth := k14m1) (c := k14c1) (by decide +kernel) rfl rfl rfl (by decide +kernel)
set_option maxRecDepth 65536 in
theorem w_c25 : (Jvm.Cond.code ({ cls := "com/example/entitlement/entitlement/Tally", name := "find", desc := "(Ljava/lang/Object;I)I" } : Jvm.MethodName) prog_38_method_9_code (6 : Nat) (Option.some Jvm.ClassFile.FieldType.int)).before args0 about1 = true := code_word (m := ⟨14, 4⟩) (meth := k14m4) (c := k14c4) (by decide +kernel) rfl rfl rfl (by decide +kernel)
set_option maxRecDepth 65536 in
theorem w_c26 : (Jvm.Cond.code ({ cls := "com/example/entitlement/entitlement/Tally", name := "home", desc := "(I)I" } : Jvm.MethodName) prog_38_method_10_code (2 : Nat) (Option.some Jvm.ClassFile.FieldType.int)).before args0 about1 = true := code_word (m := ⟨14, 5⟩) (meth := k14m5) (c := k14c5) (by decide +kernel) rfl rfl rfl (by decide +kernel)
set_option maxRecDepth 65536 in
theorem w_c27 : (Jvm.Cond.code ({ cls := "com/example/entitlement/entitlement/Tally", name := "place", desc := "(IILjava/lang/Object;I)V" } : Jvm.MethodName) prog_38_method_11_code (5 : Nat) (Option.none : Option Jvm.ClassFile.FieldType)).before args0 about1 = true := code_word (m := ⟨14, 6⟩) (meth := k14m6) (c := k14c6) (by decide +kernel) rfl rfl rfl (by decide +kernel)
set_option maxRecDepth 65536 in
theorem w_c28 : (Jvm.Cond.code ({ cls := "com/example/entitlement/entitlement/Tally", name := "remove", desc := "(Ljava/lang/Object;)Z" } : Jvm.MethodName) prog_38_method_3_code (4 : Nat) (Option.some Jvm.ClassFile.FieldType.boolean)).before args0 about1 = true := code_word (m := ⟨14, 2⟩) (meth := k14m2) (c := k14c2) (by decide +kernel) rfl rfl rfl (by decide +kernel)
set_option maxRecDepth 65536 in
theorem w_c29 : (Jvm.Cond.code ({ cls := "com/example/entitlement/entitlement/Tally", name := "empty", desc := "(I)V" } : Jvm.MethodName) prog_38_method_12_code (6 : Nat) (Option.none : Option Jvm.ClassFile.FieldType)).before args0 about1 = true := code_word (m := ⟨14, 7⟩) (meth := k14m7) (c := k14c7) (by decide +kernel) rfl rfl rfl (by decide +kernel)
set_option maxRecDepth 65536 in
theorem w_c30 : (Jvm.Cond.code ({ cls := "com/example/entitlement/entitlement/Tally", name := "isEmpty", desc := "()Z" } : Jvm.MethodName) prog_38_method_6_code (1 : Nat) (Option.some Jvm.ClassFile.FieldType.boolean)).before args0 about1 = true := code_word (m := ⟨14, 3⟩) (meth := k14m3) (c := k14c3) (by decide +kernel) rfl rfl rfl (by decide +kernel)
set_option maxRecDepth 65536 in
theorem w_c31 : (Jvm.Cond.code ({ cls := "com/example/entitlement/entitlement/ObjectRef", name := "hashCode", desc := "()I" } : Jvm.MethodName) prog_20_method_5_code (1 : Nat) (Option.some Jvm.ClassFile.FieldType.int)).before args0 about1 = true := code_word (m := ⟨11, 1⟩) (meth := k11m1) (c := k11c1) (by decide +kernel) rfl rfl rfl (by decide +kernel)
set_option maxRecDepth 65536 in
theorem w_c32 : (Jvm.Cond.code ({ cls := "com/example/entitlement/entitlement/Subject", name := "hashCode", desc := "()I" } : Jvm.MethodName) prog_35_method_11_code (1 : Nat) (Option.some Jvm.ClassFile.FieldType.int)).before args0 about1 = true := code_word (m := ⟨9, 2⟩) (meth := k9m2) (c := k9c2) (by decide +kernel) rfl rfl rfl (by decide +kernel)
set_option maxRecDepth 65536 in
theorem w_c33 : (Jvm.Cond.code ({ cls := "java/util/Objects", name := "hash", desc := "([Ljava/lang/Object;)I" } : Jvm.MethodName) jdk_31_method_5_code (1 : Nat) (Option.some Jvm.ClassFile.FieldType.int)).before args0 about1 = true := code_word (m := ⟨10, 1⟩) (meth := k10m1) (c := k10c1) (by decide +kernel) rfl rfl rfl (by decide +kernel)
set_option maxRecDepth 65536 in
theorem w_c34 : (Jvm.Cond.code ({ cls := "java/util/Arrays", name := "hashCode", desc := "([Ljava/lang/Object;)I" } : Jvm.MethodName) jdk_65_method_157_code (6 : Nat) (Option.some Jvm.ClassFile.FieldType.int)).before args0 about1 = true := code_word (m := ⟨15, 1⟩) (meth := k15m1) (c := k15c1) (by decide +kernel) rfl rfl rfl (by decide +kernel)
def codes1 : List Jvm.Cond := [Jvm.Cond.code x code maxLocals ret, Jvm.Cond.code ({ cls := "java/lang/String", name := "valueOf", desc := "(C)Ljava/lang/String;" } : Jvm.MethodName) jdk_42_method_139_code (1 : Nat) (Option.some (Jvm.ClassFile.FieldType.object "java/lang/String")), Jvm.Cond.code ({ cls := "java/lang/StringLatin1", name := "canEncode", desc := "(C)Z" } : Jvm.MethodName) jdk_43_method_3_code (1 : Nat) (Option.some Jvm.ClassFile.FieldType.boolean), Jvm.Cond.code ({ cls := "java/lang/StringLatin1", name := "toBytes", desc := "(C)[B" } : Jvm.MethodName) jdk_43_method_46_code (1 : Nat) (Option.some (Jvm.ClassFile.FieldType.array Jvm.ClassFile.FieldType.byte)), Jvm.Cond.code ({ cls := "java/lang/String", name := "<init>", desc := "([BB)V" } : Jvm.MethodName) jdk_42_method_151_code (3 : Nat) (Option.none : Option Jvm.ClassFile.FieldType), Jvm.Cond.code ({ cls := "java/lang/Object", name := "<init>", desc := "()V" } : Jvm.MethodName) object_method_1_code (1 : Nat) (Option.none : Option Jvm.ClassFile.FieldType), Jvm.Cond.code ({ cls := "com/example/entitlement/entitlement/Subject", name := "userset", desc := "(Ljava/lang/String;Ljava/lang/String;Ljava/lang/String;)Lcom/example/entitlement/entitlement/Subject;" } : Jvm.MethodName) prog_35_method_3_code (3 : Nat) (Option.some (Jvm.ClassFile.FieldType.object "com/example/entitlement/entitlement/Subject")), Jvm.Cond.code ({ cls := "java/util/Objects", name := "requireNonNull", desc := "(Ljava/lang/Object;Ljava/lang/String;)Ljava/lang/Object;" } : Jvm.MethodName) jdk_31_method_11_code (2 : Nat) (Option.some (Jvm.ClassFile.FieldType.object "java/lang/Object")), Jvm.Cond.code ({ cls := "java/lang/String", name := "equals", desc := "(Ljava/lang/Object;)Z" } : Jvm.MethodName) jdk_42_method_66_code (3 : Nat) (Option.some Jvm.ClassFile.FieldType.boolean), Jvm.Cond.code ({ cls := "java/lang/StringLatin1", name := "equals", desc := "([B[B)Z" } : Jvm.MethodName) jdk_43_method_13_code (3 : Nat) (Option.some Jvm.ClassFile.FieldType.boolean), Jvm.Cond.code ({ cls := "com/example/entitlement/entitlement/Subject", name := "<init>", desc := "(Ljava/lang/String;Ljava/lang/String;Ljava/lang/String;)V" } : Jvm.MethodName) prog_35_method_1_code (4 : Nat) (Option.none : Option Jvm.ClassFile.FieldType), Jvm.Cond.code ({ cls := "com/example/entitlement/entitlement/ObjectRef", name := "<init>", desc := "(Ljava/lang/String;Ljava/lang/String;)V" } : Jvm.MethodName) prog_20_method_1_code (3 : Nat) (Option.none : Option Jvm.ClassFile.FieldType), Jvm.Cond.code ({ cls := "java/lang/String", name := "hashCode", desc := "()I" } : Jvm.MethodName) jdk_42_method_78_code (2 : Nat) (Option.some Jvm.ClassFile.FieldType.int), Jvm.Cond.code ({ cls := "java/lang/String", name := "isLatin1", desc := "()Z" } : Jvm.MethodName) jdk_42_method_154_code (1 : Nat) (Option.some Jvm.ClassFile.FieldType.boolean), Jvm.Cond.code ({ cls := "java/lang/StringLatin1", name := "hashCode", desc := "([B)I" } : Jvm.MethodName) jdk_43_method_21_code (1 : Nat) (Option.some Jvm.ClassFile.FieldType.int), Jvm.Cond.code ({ cls := "com/example/entitlement/entitlement/CountedHolders", name := "<init>", desc := "()V" } : Jvm.MethodName) prog_5_method_1_code (1 : Nat) (Option.none : Option Jvm.ClassFile.FieldType), Jvm.Cond.code ({ cls := "com/example/entitlement/entitlement/Holders", name := "<init>", desc := "()V" } : Jvm.MethodName) prog_10_method_1_code (1 : Nat) (Option.none : Option Jvm.ClassFile.FieldType), Jvm.Cond.code ({ cls := "com/example/entitlement/entitlement/CountedHolders", name := "isEmpty", desc := "()Z" } : Jvm.MethodName) prog_5_method_7_code (1 : Nat) (Option.some Jvm.ClassFile.FieldType.boolean), Jvm.Cond.code ({ cls := "com/example/entitlement/entitlement/CountedHoldersIsEmptyPinLaw", name := "step", desc := "(Lcom/example/entitlement/entitlement/CountedHolders;[Ljava/lang/Object;[II)Z" } : Jvm.MethodName) method_3_code (6 : Nat) (Option.some Jvm.ClassFile.FieldType.boolean), Jvm.Cond.code ({ cls := "com/example/entitlement/entitlement/CountedHolders", name := "remove", desc := "(Ljava/lang/Object;)V" } : Jvm.MethodName) prog_5_method_3_code (4 : Nat) (Option.none : Option Jvm.ClassFile.FieldType), Jvm.Cond.code ({ cls := "com/example/entitlement/entitlement/CountedHolders", name := "removeOne", desc := "(Lcom/example/entitlement/entitlement/Tally;Ljava/lang/Object;)Lcom/example/entitlement/entitlement/Tally;" } : Jvm.MethodName) prog_5_method_12_code (3 : Nat) (Option.some (Jvm.ClassFile.FieldType.object "com/example/entitlement/entitlement/Tally")), Jvm.Cond.code ({ cls := "com/example/entitlement/entitlement/CountedHolders", name := "add", desc := "(Ljava/lang/Object;)V" } : Jvm.MethodName) prog_5_method_2_code (4 : Nat) (Option.none : Option Jvm.ClassFile.FieldType), Jvm.Cond.code ({ cls := "com/example/entitlement/entitlement/CountedHolders", name := "addOne", desc := "(Lcom/example/entitlement/entitlement/Tally;Ljava/lang/Object;)Lcom/example/entitlement/entitlement/Tally;" } : Jvm.MethodName) prog_5_method_11_code (3 : Nat) (Option.some (Jvm.ClassFile.FieldType.object "com/example/entitlement/entitlement/Tally")), Jvm.Cond.code ({ cls := "com/example/entitlement/entitlement/Tally", name := "<init>", desc := "()V" } : Jvm.MethodName) prog_38_method_1_code (1 : Nat) (Option.none : Option Jvm.ClassFile.FieldType), Jvm.Cond.code ({ cls := "com/example/entitlement/entitlement/Tally", name := "add", desc := "(Ljava/lang/Object;)V" } : Jvm.MethodName) prog_38_method_2_code (4 : Nat) (Option.none : Option Jvm.ClassFile.FieldType), Jvm.Cond.code ({ cls := "com/example/entitlement/entitlement/Tally", name := "find", desc := "(Ljava/lang/Object;I)I" } : Jvm.MethodName) prog_38_method_9_code (6 : Nat) (Option.some Jvm.ClassFile.FieldType.int), Jvm.Cond.code ({ cls := "com/example/entitlement/entitlement/Tally", name := "home", desc := "(I)I" } : Jvm.MethodName) prog_38_method_10_code (2 : Nat) (Option.some Jvm.ClassFile.FieldType.int), Jvm.Cond.code ({ cls := "com/example/entitlement/entitlement/Tally", name := "place", desc := "(IILjava/lang/Object;I)V" } : Jvm.MethodName) prog_38_method_11_code (5 : Nat) (Option.none : Option Jvm.ClassFile.FieldType), Jvm.Cond.code ({ cls := "com/example/entitlement/entitlement/Tally", name := "remove", desc := "(Ljava/lang/Object;)Z" } : Jvm.MethodName) prog_38_method_3_code (4 : Nat) (Option.some Jvm.ClassFile.FieldType.boolean), Jvm.Cond.code ({ cls := "com/example/entitlement/entitlement/Tally", name := "empty", desc := "(I)V" } : Jvm.MethodName) prog_38_method_12_code (6 : Nat) (Option.none : Option Jvm.ClassFile.FieldType), Jvm.Cond.code ({ cls := "com/example/entitlement/entitlement/Tally", name := "isEmpty", desc := "()Z" } : Jvm.MethodName) prog_38_method_6_code (1 : Nat) (Option.some Jvm.ClassFile.FieldType.boolean), Jvm.Cond.code ({ cls := "com/example/entitlement/entitlement/ObjectRef", name := "hashCode", desc := "()I" } : Jvm.MethodName) prog_20_method_5_code (1 : Nat) (Option.some Jvm.ClassFile.FieldType.int), Jvm.Cond.code ({ cls := "com/example/entitlement/entitlement/Subject", name := "hashCode", desc := "()I" } : Jvm.MethodName) prog_35_method_11_code (1 : Nat) (Option.some Jvm.ClassFile.FieldType.int), Jvm.Cond.code ({ cls := "java/util/Objects", name := "hash", desc := "([Ljava/lang/Object;)I" } : Jvm.MethodName) jdk_31_method_5_code (1 : Nat) (Option.some Jvm.ClassFile.FieldType.int), Jvm.Cond.code ({ cls := "java/util/Arrays", name := "hashCode", desc := "([Ljava/lang/Object;)I" } : Jvm.MethodName) jdk_65_method_157_code (6 : Nat) (Option.some Jvm.ClassFile.FieldType.int)]
set_option maxRecDepth 65536 in
theorem codes_eq : words1.filter isCode = codes1 := rfl
theorem w_codes : ∀ c ∈ words1.filter isCode, c.before args0 about1 = true := by
  rw [codes_eq]
  intro c hc
  simp only [codes1, List.mem_cons, List.not_mem_nil, or_false] at hc
  rcases hc with rfl | rfl | rfl | rfl | rfl | rfl | rfl | rfl | rfl | rfl | rfl | rfl | rfl | rfl | rfl | rfl | rfl | rfl | rfl | rfl | rfl | rfl | rfl | rfl | rfl | rfl | rfl | rfl | rfl | rfl | rfl | rfl | rfl | rfl | rfl
  · exact w_c0
  · exact w_c1
  · exact w_c2
  · exact w_c3
  · exact w_c4
  · exact w_c5
  · exact w_c6
  · exact w_c7
  · exact w_c8
  · exact w_c9
  · exact w_c10
  · exact w_c11
  · exact w_c12
  · exact w_c13
  · exact w_c14
  · exact w_c15
  · exact w_c16
  · exact w_c17
  · exact w_c18
  · exact w_c19
  · exact w_c20
  · exact w_c21
  · exact w_c22
  · exact w_c23
  · exact w_c24
  · exact w_c25
  · exact w_c26
  · exact w_c27
  · exact w_c28
  · exact w_c29
  · exact w_c30
  · exact w_c31
  · exact w_c32
  · exact w_c33
  · exact w_c34
set_option maxRecDepth 65536 in
theorem w_t1 : (words1.take 24).all (fun c => isCode c || c.before args0 about1) = true := by decide +kernel
set_option maxRecDepth 65536 in
theorem w_t2 : ((words1.drop 24).take 24).all (fun c => isCode c || c.before args0 about1) = true := by decide +kernel
set_option maxRecDepth 65536 in
theorem w_t3 : (((words1.drop 24).drop 24).take 24).all (fun c => isCode c || c.before args0 about1) = true := by decide +kernel
set_option maxRecDepth 65536 in
theorem w_t4 : ((((words1.drop 24).drop 24).drop 24).take 24).all (fun c => isCode c || c.before args0 about1) = true := by decide +kernel
set_option maxRecDepth 65536 in
theorem w_t5 : (((((words1.drop 24).drop 24).drop 24).drop 24).take 24).all (fun c => isCode c || c.before args0 about1) = true := by decide +kernel
set_option maxRecDepth 65536 in
theorem w_t6 : ((((((words1.drop 24).drop 24).drop 24).drop 24).drop 24).take 24).all (fun c => isCode c || c.before args0 about1) = true := by decide +kernel
set_option maxRecDepth 65536 in
theorem w_t7 : (((((((words1.drop 24).drop 24).drop 24).drop 24).drop 24).drop 24).take 24).all (fun c => isCode c || c.before args0 about1) = true := by decide +kernel
set_option maxRecDepth 65536 in
theorem w_t8 : ((((((((words1.drop 24).drop 24).drop 24).drop 24).drop 24).drop 24).drop 24).take 24).all (fun c => isCode c || c.before args0 about1) = true := by decide +kernel
set_option maxRecDepth 65536 in
theorem w_t9 : (((((((((words1.drop 24).drop 24).drop 24).drop 24).drop 24).drop 24).drop 24).drop 24).take 24).all (fun c => isCode c || c.before args0 about1) = true := by decide +kernel
set_option maxRecDepth 65536 in
theorem w_t10 : (((((((((words1.drop 24).drop 24).drop 24).drop 24).drop 24).drop 24).drop 24).drop 24).drop 24).all (fun c => isCode c || c.before args0 about1) = true := by decide +kernel
theorem w_tables : (allAtoms (Jvm.Cond.code x code maxLocals ret :: tables_1)).before args0 about1 = true := by
  rw [allAtoms_all]
  show words1.all (fun c => c.before args0 about1) = true
  refine all_split ?_ w_codes
  rw [← List.take_append_drop 24 words1, List.all_append, w_t1, ← List.take_append_drop 24 (words1.drop 24), List.all_append, w_t2, ← List.take_append_drop 24 ((words1.drop 24).drop 24), List.all_append, w_t3, ← List.take_append_drop 24 (((words1.drop 24).drop 24).drop 24), List.all_append, w_t4, ← List.take_append_drop 24 ((((words1.drop 24).drop 24).drop 24).drop 24), List.all_append, w_t5, ← List.take_append_drop 24 (((((words1.drop 24).drop 24).drop 24).drop 24).drop 24), List.all_append, w_t6, ← List.take_append_drop 24 ((((((words1.drop 24).drop 24).drop 24).drop 24).drop 24).drop 24), List.all_append, w_t7, ← List.take_append_drop 24 (((((((words1.drop 24).drop 24).drop 24).drop 24).drop 24).drop 24).drop 24), List.all_append, w_t8, ← List.take_append_drop 24 ((((((((words1.drop 24).drop 24).drop 24).drop 24).drop 24).drop 24).drop 24).drop 24), List.all_append, w_t9, w_t10]
  rfl
set_option maxRecDepth 65536 in
theorem w_rest : rest_1_c.before args0 about1 = true := by decide +kernel
set_option maxRecDepth 65536 in
theorem w_case : (Jvm.Cond.and given_1 narrow_1).before args0 about1 = true := by decide +kernel
set_option maxRecDepth 65536 in
theorem w_consts : constsHeld consts_1 about1 := Jvm.Lit.constsHeldB_iff.mp (by decide +kernel)
theorem w_applies : (headSpec (Jvm.Cond.code x code maxLocals ret :: tables_1) room_1).applies x e0.platform about1 = true :=
  (Spec.applies_iff w_frames).mpr ⟨w_running, w_runnable, w_alone, w_named, w_hears, w_ripe, w_room, w_tables⟩
theorem atStart : AtStart classFile x code maxLocals ret World_1 tables_1 room_1 Calls_1 rest_1 Pre_1 launch0 p0 e0 about1 theMethod args0 below0 :=
  ⟨lists_1, trivial, launch0.admits_env _ _ _, launch0.least_env, fairChoices_fair.cas, fairChoices_fair.clock, w_frames, w_args, w_heap, w_applies, ⟨w_consts, trivial⟩, w_rest, w_case⟩
end start1
theorem witness_1 : WitnessClaimed_1 := ⟨start1.p0, start1.e0, start1.about1, start1.theMethod, start1.args0, start1.below0, start1.atStart⟩
end Jvm.Pilot.@@N@@
