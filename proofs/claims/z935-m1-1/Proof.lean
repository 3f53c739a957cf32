import JvmDerived
import JvmDerived.Pilot.@@N@@Statement
import JvmDerived.Pilot.@@N@@Code
set_option linter.unusedVariables false
set_option linter.unusedSimpArgs false
@@BLOCK:NumsL.lean.txt@@
namespace Jvm.RoadKit
open Sem ClassFile Op Lib Jvm.Stand Jvm.Free Jvm.LawKit
section New
variable {p : Program} {l : Launch} {e : Env} {R : Room} {s : State} {m : MethodId} {args : Array Value} {below : List Frame} {meth : Method} {c : Code} {T T' : State} {locs : List Loc} {cells slots : Nat}
theorem retI (X : Stand p l e R s m args below meth c T locs cells slots) (hx : p.tables.exec = Jvm.exec) {pc : Nat} {Ls : Array Slot} {z : Int32} {rest : List Value} (hret : meth.sig.returnType = some .int) (hd : decode c.code pc = .ok (.ireturn, 1)) {fs : List Frame}
    (hl : ∀ (f : JFrame) (acts : List Action), f.method = m → f.locked = none → f.entered = [] → (doReturn e (T.setTop f) acts (some (.int z))).1 = T.setFrames fs) : Steps p.tables e below (T.setTop (mkF m pc Ls (.int z :: rest))) (T.setFrames fs) :=
  retOut X hx hret rfl (Or.inl ⟨rfl, Or.inl rfl, _, rfl⟩) hd hl
theorem retL (X : Stand p l e R s m args below meth c T locs cells slots) (hx : p.tables.exec = Jvm.exec) {pc : Nat} {Ls : Array Slot} {z : Int64} {rest : List Value} (hret : meth.sig.returnType = some .long) (hd : decode c.code pc = .ok (.lreturn, 1)) {fs : List Frame}
    (hl : ∀ (f : JFrame) (acts : List Action), f.method = m → f.locked = none → f.entered = [] → (doReturn e (T.setTop f) acts (some (.long z))).1 = T.setFrames fs) : Steps p.tables e below (T.setTop (mkF m pc Ls (.long z :: rest))) (T.setFrames fs) :=
  retOut X hx hret rfl (Or.inr (Or.inl ⟨rfl, rfl, _, rfl⟩)) hd hl
theorem retA (X : Stand p l e R s m args below meth c T locs cells slots) (hx : p.tables.exec = Jvm.exec) {pc : Nat} {Ls : Array Slot} {w : Value} {t : FieldType} {rest : List Value} (hret : meth.sig.returnType = some t) (ht : t.isReference = true) (hw : w.isRef = true) (hd : decode c.code pc = .ok (.areturn, 1)) {fs : List Frame}
    (hl : ∀ (f : JFrame) (acts : List Action), f.method = m → f.locked = none → f.entered = [] → (doReturn e (T.setTop f) acts (some w)).1 = T.setFrames fs) : Steps p.tables e below (T.setTop (mkF m pc Ls (w :: rest))) (T.setFrames fs) :=
  retOut X hx hret (by rcases ref_cases hw with rfl | ⟨a, rfl⟩ <;> cases t <;> first | rfl | cases ht) (Or.inr (Or.inr (Or.inr (Or.inr ⟨rfl, ht, hw⟩)))) hd hl
/-! the walk by continuations -/
variable {W : State → Prop} {g g' : JFrame}
def Goes (p : Program) (e : Env) (below : List Frame) (W : State → Prop) (T : State) (g : JFrame) : Prop := ∃ t, Steps p.tables e below (T.setTop g) t ∧ W t
def EndW (s : State) (below : List Frame) (Q : Option Value → Heap → List Loc → Prop) (k n : Nat) (t : State) : Prop := t.status = .running ∧ ∃ o, Ended t below o ∧ ∃ v L, o = .returned v ∧ Q v t.heap L ∧ FrameEnd s o t L k n
theorem Goes.on (k : Goes p e below W T' g') (h : ∀ t, Steps p.tables e below (T'.setTop g') t → Steps p.tables e below (T.setTop g) t) : Goes p e below W T g := by
  obtain ⟨t, h1, h2⟩ := k; exact ⟨t, h t h1, h2⟩
theorem Goes.done {Q : Option Value → Heap → List Loc → Prop} {k n : Nat} (h : Goes p e below (EndW s below Q k n) T g) :
    ∃ s₂ o, Steps p.tables e below (T.setTop g) s₂ ∧ s₂.status = .running ∧ Ended s₂ below o ∧ ∃ v L, o = .returned v ∧ Q v s₂.heap L ∧ FrameEnd s o s₂ L k n := by
  obtain ⟨t, h1, h2, o, h3, h4⟩ := h; exact ⟨t, o, h1, h2, h3, h4⟩
theorem Goes.retn {Q : Option Value → Heap → List Loc → Prop} {k n : Nat} (X : Stand p l e R s m args below meth c T locs cells slots) {v : Option Value}
    (st : ∀ fs, (∀ (f : JFrame) (acts : List Action), f.method = m → f.locked = none → f.entered = [] → (doReturn e (T.setTop f) acts v).1 = T.setFrames fs) → Steps p.tables e below (T.setTop g) (T.setFrames fs))
    (hv : meth.sig.returnType = none → v = none) (hlocks : meth.locks = false) (hk : cells ≤ k) (hn : slots ≤ n) (hQ : Q v T.heap locs) : Goes p e below (EndW s below Q k n) T g := by
  obtain ⟨fs, hr, hrun, hended, hW, hsame⟩ := X.leave hv hlocks
  exact ⟨_, st fs hr, hrun, _, hended, _, _, rfl, hQ, ⟨_, rfl⟩, hW, hsame.mono hk hn⟩
theorem cmp_eq (x y : Int32) : if_icmp.holds .eq x y = decide (x = y) := by by_cases h : x = y <;> simp [h, (teq · |>.1), (feq · |>.1)]
theorem cmp_ne (x y : Int32) : if_icmp.holds .ne x y = !decide (x = y) := by by_cases h : x = y <;> simp [h, (teq · |>.2), (feq · |>.2)]
theorem cmp_lt (x y : Int32) : if_icmp.holds .lt x y = decide (x < y) := by simp [if_icmp.holds]
theorem cmp_ge (x y : Int32) : if_icmp.holds .ge x y = !decide (x < y) := by by_cases h : x < y <;> simp [h, (tlt · |>.2.1), (flt · |>.2.1)]
theorem cmp_gt (x y : Int32) : if_icmp.holds .gt x y = decide (y < x) := by by_cases h : y < x <;> simp [h, (tlt · |>.2.2.1), (flt · |>.2.2.1)]
theorem cmp_le (x y : Int32) : if_icmp.holds .le x y = !decide (y < x) := by by_cases h : y < x <;> simp [h, (tlt · |>.2.2.2), (flt · |>.2.2.2)]
theorem ifc_eq (x y : Int32) (h : y = 0 := by rfl) : ifCond.holds .eq x = decide (x = y) := by subst h; rw [if0, cmp_eq]
theorem ifc_ne (x y : Int32) (h : y = 0 := by rfl) : ifCond.holds .ne x = !decide (x = y) := by subst h; rw [if0, cmp_ne]
theorem ifc_lt (x y : Int32) (h : y = 0 := by rfl) : ifCond.holds .lt x = decide (x < y) := by subst h; rw [if0, cmp_lt]
theorem ifc_ge (x y : Int32) (h : y = 0 := by rfl) : ifCond.holds .ge x = !decide (x < y) := by subst h; rw [if0, cmp_ge]
theorem ifc_gt (x y : Int32) (h : y = 0 := by rfl) : ifCond.holds .gt x = decide (y < x) := by subst h; rw [if0, cmp_gt]
theorem ifc_le (x y : Int32) (h : y = 0 := by rfl) : ifCond.holds .le x = !decide (y < x) := by subst h; rw [if0, cmp_le]
theorem Goes.icmpP (X : Stand p l e R s m args below meth c T locs cells slots) (hx : p.tables.exec = Jvm.exec) (hg : g.method = m) {cd : ClassFile.Cond} {o : Int} {x y : Int32} {rest : List Value} {pc0 pc' : Nat} (hpc : g.pc = pc0) (hd : decode c.code g.pc = .ok (.if_icmp cd o, 3)) (hs : g.stack = .int y :: .int x :: rest) (ho : 0 ≤ (pc0 : Int) + o) (hp : ((pc0 : Int) + o).toNat = pc') {P : Prop} [Decidable P] (hP : if_icmp.holds cd x y = decide P)
    (yes : P → Goes p e below W T { g with pc := pc', stack := rest }) (no : ¬ P → Goes p e below W T { g with pc := g.pc + 3, stack := rest }) : Goes p e below W T g := by
  by_cases h : P
  · exact (yes h).on fun t k => XS.icmpYes X.here hx hg hpc hd hs (by rw [hP]; exact decide_eq_true h) ho hp k
  · exact (no h).on fun t k => XS.icmpNo X.here hx hg hd hs (by rw [hP]; exact decide_eq_false h) k
theorem Goes.icmpN (X : Stand p l e R s m args below meth c T locs cells slots) (hx : p.tables.exec = Jvm.exec) (hg : g.method = m) {cd : ClassFile.Cond} {o : Int} {x y : Int32} {rest : List Value} {pc0 pc' : Nat} (hpc : g.pc = pc0) (hd : decode c.code g.pc = .ok (.if_icmp cd o, 3)) (hs : g.stack = .int y :: .int x :: rest) (ho : 0 ≤ (pc0 : Int) + o) (hp : ((pc0 : Int) + o).toNat = pc') {P : Prop} [Decidable P] (hP : if_icmp.holds cd x y = !decide P)
    (yes : ¬ P → Goes p e below W T { g with pc := pc', stack := rest }) (no : P → Goes p e below W T { g with pc := g.pc + 3, stack := rest }) : Goes p e below W T g := by
  by_cases h : P
  · exact (no h).on fun t k => XS.icmpNo X.here hx hg hd hs (by rw [hP, decide_eq_true h]; rfl) k
  · exact (yes h).on fun t k => XS.icmpYes X.here hx hg hpc hd hs (by rw [hP, decide_eq_false h]; rfl) ho hp k
theorem Goes.ifP (X : Stand p l e R s m args below meth c T locs cells slots) (hx : p.tables.exec = Jvm.exec) (hg : g.method = m) {cd : ClassFile.Cond} {o : Int} {x : Int32} {rest : List Value} {pc0 pc' : Nat} (hpc : g.pc = pc0) (hd : decode c.code g.pc = .ok (.ifCond cd o, 3)) (hs : g.stack = .int x :: rest) (ho : 0 ≤ (pc0 : Int) + o) (hp : ((pc0 : Int) + o).toNat = pc') {P : Prop} [Decidable P] (hP : ifCond.holds cd x = decide P)
    (yes : P → Goes p e below W T { g with pc := pc', stack := rest }) (no : ¬ P → Goes p e below W T { g with pc := g.pc + 3, stack := rest }) : Goes p e below W T g := by
  by_cases h : P
  · exact (yes h).on fun t k => XS.ifYes X.here hx hg hpc hd hs (by rw [hP]; exact decide_eq_true h) ho hp k
  · exact (no h).on fun t k => XS.ifNo X.here hx hg hd hs (by rw [hP]; exact decide_eq_false h) k
theorem Goes.ifN (X : Stand p l e R s m args below meth c T locs cells slots) (hx : p.tables.exec = Jvm.exec) (hg : g.method = m) {cd : ClassFile.Cond} {o : Int} {x : Int32} {rest : List Value} {pc0 pc' : Nat} (hpc : g.pc = pc0) (hd : decode c.code g.pc = .ok (.ifCond cd o, 3)) (hs : g.stack = .int x :: rest) (ho : 0 ≤ (pc0 : Int) + o) (hp : ((pc0 : Int) + o).toNat = pc') {P : Prop} [Decidable P] (hP : ifCond.holds cd x = !decide P)
    (yes : ¬ P → Goes p e below W T { g with pc := pc', stack := rest }) (no : P → Goes p e below W T { g with pc := g.pc + 3, stack := rest }) : Goes p e below W T g := by
  by_cases h : P
  · exact (no h).on fun t k => XS.ifNo X.here hx hg hd hs (by rw [hP, decide_eq_true h]; rfl) k
  · exact (yes h).on fun t k => XS.ifYes X.here hx hg hpc hd hs (by rw [hP, decide_eq_false h]; rfl) ho hp k
theorem Goes.acmpR (X : Stand p l e R s m args below meth c T locs cells slots) (hx : p.tables.exec = Jvm.exec) (hg : g.method = m) {cd : ACond} {o : Int} {a b : Addr} {rest : List Value} {pc0 pcE pcN : Nat} (hpc : g.pc = pc0) (hd : decode c.code g.pc = .ok (.if_acmp cd o, 3)) (hs : g.stack = .ref b :: .ref a :: rest) (ho : 0 ≤ (pc0 : Int) + o)
    (hE : pcE = if acV cd true = true then ((pc0 : Int) + o).toNat else pc0 + 3) (hN : pcN = if acV cd false = true then ((pc0 : Int) + o).toNat else pc0 + 3)
    (eq : a = b → Goes p e below W T { g with pc := pcE, stack := rest }) (ne : ¬ a = b → Goes p e below W T { g with pc := pcN, stack := rest }) : Goes p e below W T g := by
  by_cases h : a = b
  · exact (eq h).on fun t k => Jvm.RoadKit.acmp X hx hg rfl rfl hpc hd hs (decide_eq_true (congrArg Value.ref h)) ho hE k
  · exact (ne h).on fun t k => Jvm.RoadKit.acmp X hx hg rfl rfl hpc hd hs (decide_eq_false fun q => h (Value.ref.inj q)) ho hN k
/-! the same where String constants may be loaded cold -/
def EndWW (s : State) (below : List Frame) (Q : Option Value → Heap → List Loc → Prop) (k n : Nat) (t : State) : Prop := t.status = .running ∧ ∃ o, Ended t below o ∧ ∃ v L, o = .returned v ∧ Q v t.heap L ∧ ReturnedEndW s o t L k n
theorem Goes.doneW {Q : Option Value → Heap → List Loc → Prop} {k n : Nat} (h : Goes p e below (EndWW s below Q k n) T g) :
    ∃ s₂ o, Steps p.tables e below (T.setTop g) s₂ ∧ s₂.status = .running ∧ Ended s₂ below o ∧ ∃ v L, o = .returned v ∧ Q v s₂.heap L ∧ ReturnedEndW s o s₂ L k n := by
  obtain ⟨t, h1, h2, o, h3, h4⟩ := h; exact ⟨t, o, h1, h2, h3, h4⟩
theorem Goes.retnW {Q : Option Value → Heap → List Loc → Prop} {k n n1 : Nat} {vm₁ : Vm} (X : Stand p l e R (s.setVm vm₁) m args below meth c T locs cells slots) (hS : s.Since vm₁ n1) (hle : n1 ≤ T.heap.size) {v : Option Value}
    (st : ∀ fs, (∀ (f : JFrame) (acts : List Action), f.method = m → f.locked = none → f.entered = [] → (doReturn e (T.setTop f) acts v).1 = T.setFrames fs) → Steps p.tables e below (T.setTop g) (T.setFrames fs))
    (hv : meth.sig.returnType = none → v = none) (hlocks : meth.locks = false) (hk : cells ≤ k) (hn : slots ≤ n) (hQ : Q v T.heap locs) : Goes p e below (EndWW s below Q k n) T g := by
  obtain ⟨fs, hr, hrun, hended, hW⟩ := X.leaveW hS hle hv hlocks
  exact ⟨_, st fs hr, hrun, _, hended, _, _, rfl, hQ, hW.1, hW.2.1, hW.2.2.1, hW.2.2.2.mono hk hn⟩
end New
end Jvm.RoadKit
namespace Jvm.Pilot.@@N@@
open Jvm Jvm.ClassFile Sem Op Lib Jvm.Free Jvm.Stand Jvm.LawKit Jvm.RoadKit Bundle Jvm.Pilot.@@N@@.Jvm.D
theorem d1_0 : decode method_2_code 0 = .ok (.iload_n 0, 1) := by decide +kernel
theorem d1_1 : decode method_2_code 1 = .ok (.ifCond .ne 7, 3) := by decide +kernel
theorem d1_4 : decode method_2_code 4 = .ok (.getstatic 7, 3) := by decide +kernel
theorem d1_7 : decode method_2_code 7 = .ok (.areturn, 1) := by decide +kernel
theorem d1_8 : decode method_2_code 8 = .ok (.iload_n 0, 1) := by decide +kernel
theorem d1_9 : decode method_2_code 9 = .ok (.iconst 1, 1) := by decide +kernel
theorem d1_10 : decode method_2_code 10 = .ok (.if_icmp .ne 7, 3) := by decide +kernel
theorem d1_13 : decode method_2_code 13 = .ok (.getstatic 13, 3) := by decide +kernel
theorem d1_16 : decode method_2_code 16 = .ok (.areturn, 1) := by decide +kernel
theorem d1_17 : decode method_2_code 17 = .ok (.iload_n 0, 1) := by decide +kernel
theorem d1_18 : decode method_2_code 18 = .ok (.iconst 2, 1) := by decide +kernel
theorem d1_19 : decode method_2_code 19 = .ok (.if_icmp .ne 7, 3) := by decide +kernel
theorem d1_22 : decode method_2_code 22 = .ok (.getstatic 16, 3) := by decide +kernel
theorem d1_25 : decode method_2_code 25 = .ok (.areturn, 1) := by decide +kernel
theorem d1_26 : decode method_2_code 26 = .ok (.iload_n 0, 1) := by decide +kernel
theorem d1_27 : decode method_2_code 27 = .ok (.iconst 3, 1) := by decide +kernel
theorem d1_28 : decode method_2_code 28 = .ok (.if_icmp .ne 7, 3) := by decide +kernel
theorem d1_31 : decode method_2_code 31 = .ok (.getstatic 19, 3) := by decide +kernel
theorem d1_34 : decode method_2_code 34 = .ok (.areturn, 1) := by decide +kernel
theorem d1_35 : decode method_2_code 35 = .ok (.iload_n 0, 1) := by decide +kernel
theorem d1_36 : decode method_2_code 36 = .ok (.iconst 4, 1) := by decide +kernel
theorem d1_37 : decode method_2_code 37 = .ok (.if_icmp .ne 7, 3) := by decide +kernel
theorem d1_40 : decode method_2_code 40 = .ok (.getstatic 22, 3) := by decide +kernel
theorem d1_43 : decode method_2_code 43 = .ok (.areturn, 1) := by decide +kernel
theorem d1_44 : decode method_2_code 44 = .ok (.iload_n 0, 1) := by decide +kernel
theorem d1_45 : decode method_2_code 45 = .ok (.iconst 5, 1) := by decide +kernel
theorem d1_46 : decode method_2_code 46 = .ok (.if_icmp .ne 7, 3) := by decide +kernel
theorem d1_49 : decode method_2_code 49 = .ok (.getstatic 25, 3) := by decide +kernel
theorem d1_52 : decode method_2_code 52 = .ok (.areturn, 1) := by decide +kernel
theorem d1_53 : decode method_2_code 53 = .ok (.iload_n 0, 1) := by decide +kernel
theorem d1_54 : decode method_2_code 54 = .ok (.bipush 6, 2) := by decide +kernel
theorem d1_56 : decode method_2_code 56 = .ok (.if_icmp .ne 7, 3) := by decide +kernel
theorem d1_59 : decode method_2_code 59 = .ok (.getstatic 28, 3) := by decide +kernel
theorem d1_62 : decode method_2_code 62 = .ok (.areturn, 1) := by decide +kernel
theorem d1_63 : decode method_2_code 63 = .ok (.iload_n 0, 1) := by decide +kernel
theorem d1_64 : decode method_2_code 64 = .ok (.bipush 7, 2) := by decide +kernel
theorem d1_66 : decode method_2_code 66 = .ok (.if_icmp .ne 7, 3) := by decide +kernel
theorem d1_69 : decode method_2_code 69 = .ok (.getstatic 31, 3) := by decide +kernel
theorem d1_72 : decode method_2_code 72 = .ok (.areturn, 1) := by decide +kernel
theorem d1_73 : decode method_2_code 73 = .ok (.iload_n 0, 1) := by decide +kernel
theorem d1_74 : decode method_2_code 74 = .ok (.bipush 8, 2) := by decide +kernel
theorem d1_76 : decode method_2_code 76 = .ok (.if_icmp .ne 7, 3) := by decide +kernel
theorem d1_79 : decode method_2_code 79 = .ok (.getstatic 34, 3) := by decide +kernel
theorem d1_82 : decode method_2_code 82 = .ok (.areturn, 1) := by decide +kernel
theorem d1_83 : decode method_2_code 83 = .ok (.getstatic 37, 3) := by decide +kernel
theorem d1_86 : decode method_2_code 86 = .ok (.areturn, 1) := by decide +kernel
theorem d2_0 : decode prog_43_method_4_code 0 = .ok (.aload_n 0, 1) := by decide +kernel
theorem d2_1 : decode prog_43_method_4_code 1 = .ok (.getstatic 3, 3) := by decide +kernel
theorem d2_4 : decode prog_43_method_4_code 4 = .ok (.if_acmp .eq 17, 3) := by decide +kernel
theorem d2_7 : decode prog_43_method_4_code 7 = .ok (.aload_n 0, 1) := by decide +kernel
theorem d2_8 : decode prog_43_method_4_code 8 = .ok (.getstatic 7, 3) := by decide +kernel
theorem d2_11 : decode prog_43_method_4_code 11 = .ok (.if_acmp .eq 10, 3) := by decide +kernel
theorem d2_14 : decode prog_43_method_4_code 14 = .ok (.aload_n 0, 1) := by decide +kernel
theorem d2_15 : decode prog_43_method_4_code 15 = .ok (.getstatic 10, 3) := by decide +kernel
theorem d2_18 : decode prog_43_method_4_code 18 = .ok (.if_acmp .ne 7, 3) := by decide +kernel
theorem d2_21 : decode prog_43_method_4_code 21 = .ok (.iconst 1, 1) := by decide +kernel
theorem d2_22 : decode prog_43_method_4_code 22 = .ok (.goto 4, 3) := by decide +kernel
theorem d2_25 : decode prog_43_method_4_code 25 = .ok (.iconst 0, 1) := by decide +kernel
theorem d2_26 : decode prog_43_method_4_code 26 = .ok (.ireturn, 1) := by decide +kernel
theorem pn_0 : plainName "com/example/ballard/ballard/item/AttributeTypeIsKeyTypePinLaw" = true := by first | (simp [plainName, overriddenIn]; done) | decide +kernel
theorem pn_1 : plainName "com/example/ballard/ballard/item/AttributeType" = true := by first | (simp [plainName, overriddenIn]; done) | decide +kernel
theorem pd_0 : parseMethodDescriptor "(I)Lcom/example/ballard/ballard/item/AttributeType;" = some ⟨[.int], some (.object "com/example/ballard/ballard/item/AttributeType")⟩ := by decide +kernel
theorem pd_1 : parseMethodDescriptor "()Z" = some ⟨[], some .boolean⟩ := by decide +kernel
def own_pick (k : Int32) (aS aN aB aBOOL aNULL aM aL aSS aNS aBS : Addr) : Addr := if k = (0 : Int32) then aS else if k = (1 : Int32) then aN else if k = (2 : Int32) then aB else if k = (3 : Int32) then aBOOL else if k = (4 : Int32) then aNULL else if k = (5 : Int32) then aM else if k = (6 : Int32) then aL else if k = (7 : Int32) then aSS else if k = (8 : Int32) then aNS else aBS
theorem own_exa {Z : State} {h : Heap} {k : Int32} {aS aN aB aBOOL aNULL aM aL aSS aNS aBS : Addr} {C : String} (ES : Exa Z h aS C) (EN : Exa Z h aN C) (EB : Exa Z h aB C) (EBOOL : Exa Z h aBOOL C) (ENULL : Exa Z h aNULL C) (EM : Exa Z h aM C) (EL : Exa Z h aL C) (ESS : Exa Z h aSS C) (ENS : Exa Z h aNS C) (EBS : Exa Z h aBS C) : Exa Z h (own_pick k aS aN aB aBOOL aNULL aM aL aSS aNS aBS) C := by
  unfold own_pick
  repeat' split
  all_goals assumption
theorem own_k0 (x : Int32) : ¬ ((x &&& (2147483647 : Int32)) % (10 : Int32)) < (0 : Int32) := by
  have e1 : (x &&& (2147483647 : Int32)).toInt = x.toInt % 2 ^ 31 := Jvm.Kit.i32_mask x _ (k := 31) (by decide) (by decide)
  have h0 : (0 : Int) ≤ (x &&& (2147483647 : Int32)).toInt := by rw [e1]; omega
  have e2 := Jvm.Kit.i32_rem_nonneg (x := x &&& (2147483647 : Int32)) (y := (10 : Int32)) h0
  have e3 : (10 : Int32).toInt = 10 := rfl
  have e4 : (0 : Int32).toInt = 0 := rfl
  rw [Int32.lt_iff_toInt_lt, e2, e3, e4]; omega
theorem own_in {k : Int32} (h0 : ¬ k < (0 : Int32)) (h3 : k < (3 : Int32)) {aS aN aB aBOOL aNULL aM aL aSS aNS aBS : Addr} : own_pick k aS aN aB aBOOL aNULL aM aL aSS aNS aBS = aS ∨ own_pick k aS aN aB aBOOL aNULL aM aL aSS aNS aBS = aN ∨ own_pick k aS aN aB aBOOL aNULL aM aL aSS aNS aBS = aB := by
  have t1 := mt Int32.lt_iff_toInt_lt.mpr h0
  have t2 := Int32.lt_iff_toInt_lt.mp h3
  have z0 : (0 : Int32).toInt = 0 := rfl
  have z3 : (3 : Int32).toInt = 3 := rfl
  have hk : k = 0 ∨ k = 1 ∨ k = 2 := by
    simp only [← Int32.toInt_inj]
    have z1 : (1 : Int32).toInt = 1 := rfl
    have z2 : (2 : Int32).toInt = 2 := rfl
    omega
  rcases hk with rfl | rfl | rfl
  · exact Or.inl (if_pos rfl)
  · refine Or.inr (Or.inl ?_); unfold own_pick; rw [if_neg (by decide), if_pos rfl]
  · refine Or.inr (Or.inr ?_); unfold own_pick; rw [if_neg (by decide), if_neg (by decide), if_pos rfl]
theorem own_out {k : Int32} (h3 : ¬ k < (3 : Int32)) {aS aN aB aBOOL aNULL aM aL aSS aNS aBS t : Addr} (hB : aBOOL ≠ t) (hN : aNULL ≠ t) (hM : aM ≠ t) (hL : aL ≠ t) (hSS : aSS ≠ t) (hNS : aNS ≠ t) (hBS : aBS ≠ t) : ¬ own_pick k aS aN aB aBOOL aNULL aM aL aSS aNS aBS = t := by
  have n0 : ¬ k = 0 := fun h => h3 (by rw [h]; decide)
  have n1 : ¬ k = 1 := fun h => h3 (by rw [h]; decide)
  have n2 : ¬ k = 2 := fun h => h3 (by rw [h]; decide)
  unfold own_pick
  rw [if_neg n0, if_neg n1, if_neg n2]
  repeat' split
  all_goals assumption
def own_key (a aS aN aB : Addr) : Int32 := if a = aS then 1 else if a = aN then 1 else if a = aB then 1 else 0
theorem own_ord {Z : State} {args : Array Value} {t : Term} {a : Addr} {k : Int32} (ev : t.eval args Z none [] Z = some (.ref a)) (h : (Cond.eq (Term.field t "java/lang/Enum" "ordinal" "I") (Term.int k)).value args Z none Z [] = some true) : Fld Z Z.heap a "java/lang/Enum" "ordinal" "I" (.int k) := by
  obtain ⟨x, y, h1, h2, h3, h4⟩ := cmp_v (Or.inl h)
  cases (Term.int_eval k).symm.trans h2
  obtain ⟨z, rfl⟩ := h4
  have e := gotT (Cond.eq_ints h1 (Term.int_eval k)) h
  subst e
  rw [fld_at ev] at h1
  exact Fld.start h1
def QP (Z : State) (k : Int32) (aS aN aB aBOOL aNULL aM aL aSS aNS aBS : Addr) (h0 : Heap) (n0 : Nat) (v : Option Value) (h : Heap) (L : List Loc) : Prop := v = some (.ref (own_pick k aS aN aB aBOOL aNULL aM aL aSS aNS aBS)) ∧ Fr n0 L ∧ h = h0
set_option maxRecDepth 65536 in
set_option maxHeartbeats 40000000 in
theorem rmP (l : Launch) (Z : State) (a0 : Array Value) (hw : ∀ d ∈ tables_1, d.before a0 Z = true) (ws : List Jvm.Cond) (k : Int32) (aS aN aB aBOOL aNULL aM aL aSS aNS aBS : Addr) (h0 : Heap) (n0 : Nat) (Z0 : n0 ≤ h0.size) (SS : Sta Z h0 "com/example/ballard/ballard/item/AttributeType" "S" "Lcom/example/ballard/ballard/item/AttributeType;" (.ref aS)) (SN : Sta Z h0 "com/example/ballard/ballard/item/AttributeType" "N" "Lcom/example/ballard/ballard/item/AttributeType;" (.ref aN)) (SB : Sta Z h0 "com/example/ballard/ballard/item/AttributeType" "B" "Lcom/example/ballard/ballard/item/AttributeType;" (.ref aB)) (SBOOL : Sta Z h0 "com/example/ballard/ballard/item/AttributeType" "BOOL" "Lcom/example/ballard/ballard/item/AttributeType;" (.ref aBOOL)) (SNULL : Sta Z h0 "com/example/ballard/ballard/item/AttributeType" "NULL" "Lcom/example/ballard/ballard/item/AttributeType;" (.ref aNULL)) (SM : Sta Z h0 "com/example/ballard/ballard/item/AttributeType" "M" "Lcom/example/ballard/ballard/item/AttributeType;" (.ref aM)) (SL : Sta Z h0 "com/example/ballard/ballard/item/AttributeType" "L" "Lcom/example/ballard/ballard/item/AttributeType;" (.ref aL)) (SSS : Sta Z h0 "com/example/ballard/ballard/item/AttributeType" "SS" "Lcom/example/ballard/ballard/item/AttributeType;" (.ref aSS)) (SNS : Sta Z h0 "com/example/ballard/ballard/item/AttributeType" "NS" "Lcom/example/ballard/ballard/item/AttributeType;" (.ref aNS)) (SBS : Sta Z h0 "com/example/ballard/ballard/item/AttributeType" "BS" "Lcom/example/ballard/ballard/item/AttributeType;" (.ref aBS)) :
    MetFree l (⟨"com/example/ballard/ballard/item/AttributeTypeIsKeyTypePinLaw", "pick", "(I)Lcom/example/ballard/ballard/item/AttributeType;"⟩ : MethodName) (head1 (Jvm.Cond.code (⟨"com/example/ballard/ballard/item/AttributeTypeIsKeyTypePinLaw", "pick", "(I)Lcom/example/ballard/ballard/item/AttributeType;"⟩ : MethodName) method_2_code 1 (some (.object "com/example/ballard/ballard/item/AttributeType")) :: ws) ({ frames := 0, cells := 0, slots := 0, locals := 0 } : Room)) (fun a_ U => a_ = #[(.int k)] ∧ Z.Warmed39 U.vm ∧ U.heap = h0) (fun _ _ _ _ _ => True) (fun _ U o U' => ∃ v L, o = .returned v ∧ QP Z k aS aN aB aBOOL aNULL aM aL aSS aNS aBS h0 n0 v U'.heap L ∧ FrameEnd U o U' L ({ frames := 0, cells := 0, slots := 0, locals := 0 } : Room).cells ({ frames := 0, cells := 0, slots := 0, locals := 0 } : Room).slots) := by
  refine MetFree.of_bodySF (plainFor_of_name pn_0) hisR ?_
  intro p e s m args below meth c s₁ Bd hml0 hP hK
  obtain ⟨rfl, hZ, hh⟩ := hP
  have hx := Bd.exec
  have hby := Bd.bytes
  have hml : c.maxLocals = 1 := hml0
  have hown : s.vm.findClass "com/example/ballard/ballard/item/AttributeTypeIsKeyTypePinLaw" = some m.cls := findClass_of_methodNamed Bd.named
  have hnm := (name_of_methodNamed Bd.named Bd.method).1
  have X0 : Stand p l e ({ frames := 0, cells := 0, slots := 0, locals := 0 } : Room) s m #[(.int k)] below meth c s₁ [] 0 0 := Stand.of_body Bd
  have e0 : s₁.heap = h0 := by rw [← hh, Bd.state]; rfl
  have N0 := Fr.nil n0
  refine Goes.done ?_
  obtain ⟨W, hWd⟩ : ∃ W : State → Prop, W = EndW s below (QP Z k aS aN aB aBOOL aNULL aM aL aSS aNS aBS h0 n0) ({ frames := 0, cells := 0, slots := 0, locals := 0 } : Room).cells ({ frames := 0, cells := 0, slots := 0, locals := 0 } : Room).slots := ⟨_, rfl⟩
  rw [← hWd]
  have hef : entryFrame m #[(.int k)] 1 = (mkF m 0 #[.val (.int k)] []) := by first | (simp [entryFrame, mkF, argsToLocals, Value.category]; done) | rfl
  rw [hef]
  refine Goes.on (T' := s₁) (g' := (mkF m 1 #[.val (.int k)] [(.int k)])) ?_ (fun t k => XS.iloadN X0.here hx rfl (hb hby d1_0) rfl k)
  refine Goes.ifN X0 hx rfl (pc0 := 1) (pc' := 8) rfl (hb hby d1_1) rfl (by decide) (by decide) (P := k = (0 : Int32)) (ifc_ne _ _) (fun hc1 => ?_) (fun hc1 => ?_)
  · show Goes p e below W s₁ (mkF m 8 #[.val (.int k)] [])
    refine Goes.on (T' := s₁) (g' := (mkF m 9 #[.val (.int k)] [(.int k)])) ?_ (fun t k => XS.iloadN X0.here hx rfl (hb hby d1_8) rfl k)
    refine Goes.on (T' := s₁) (g' := (mkF m 10 #[.val (.int k)] [(.int (1 : Int32)), (.int k)])) ?_ (fun t k => XS.iconst X0.here hx rfl (hb hby d1_9) k)
    refine Goes.icmpN X0 hx rfl (pc0 := 10) (pc' := 17) rfl (hb hby d1_10) rfl (by decide) (by decide) (P := k = (1 : Int32)) (cmp_ne _ _) (fun hc10 => ?_) (fun hc10 => ?_)
    · show Goes p e below W s₁ (mkF m 17 #[.val (.int k)] [])
      refine Goes.on (T' := s₁) (g' := (mkF m 18 #[.val (.int k)] [(.int k)])) ?_ (fun t k => XS.iloadN X0.here hx rfl (hb hby d1_17) rfl k)
      refine Goes.on (T' := s₁) (g' := (mkF m 19 #[.val (.int k)] [(.int (2 : Int32)), (.int k)])) ?_ (fun t k => XS.iconst X0.here hx rfl (hb hby d1_18) k)
      refine Goes.icmpN X0 hx rfl (pc0 := 19) (pc' := 26) rfl (hb hby d1_19) rfl (by decide) (by decide) (P := k = (2 : Int32)) (cmp_ne _ _) (fun hc19 => ?_) (fun hc19 => ?_)
      · show Goes p e below W s₁ (mkF m 26 #[.val (.int k)] [])
        refine Goes.on (T' := s₁) (g' := (mkF m 27 #[.val (.int k)] [(.int k)])) ?_ (fun t k => XS.iloadN X0.here hx rfl (hb hby d1_26) rfl k)
        refine Goes.on (T' := s₁) (g' := (mkF m 28 #[.val (.int k)] [(.int (3 : Int32)), (.int k)])) ?_ (fun t k => XS.iconst X0.here hx rfl (hb hby d1_27) k)
        refine Goes.icmpN X0 hx rfl (pc0 := 28) (pc' := 35) rfl (hb hby d1_28) rfl (by decide) (by decide) (P := k = (3 : Int32)) (cmp_ne _ _) (fun hc28 => ?_) (fun hc28 => ?_)
        · show Goes p e below W s₁ (mkF m 35 #[.val (.int k)] [])
          refine Goes.on (T' := s₁) (g' := (mkF m 36 #[.val (.int k)] [(.int k)])) ?_ (fun t k => XS.iloadN X0.here hx rfl (hb hby d1_35) rfl k)
          refine Goes.on (T' := s₁) (g' := (mkF m 37 #[.val (.int k)] [(.int (4 : Int32)), (.int k)])) ?_ (fun t k => XS.iconst X0.here hx rfl (hb hby d1_36) k)
          refine Goes.icmpN X0 hx rfl (pc0 := 37) (pc' := 44) rfl (hb hby d1_37) rfl (by decide) (by decide) (P := k = (4 : Int32)) (cmp_ne _ _) (fun hc37 => ?_) (fun hc37 => ?_)
          · show Goes p e below W s₁ (mkF m 44 #[.val (.int k)] [])
            refine Goes.on (T' := s₁) (g' := (mkF m 45 #[.val (.int k)] [(.int k)])) ?_ (fun t k => XS.iloadN X0.here hx rfl (hb hby d1_44) rfl k)
            refine Goes.on (T' := s₁) (g' := (mkF m 46 #[.val (.int k)] [(.int (5 : Int32)), (.int k)])) ?_ (fun t k => XS.iconst X0.here hx rfl (hb hby d1_45) k)
            refine Goes.icmpN X0 hx rfl (pc0 := 46) (pc' := 53) rfl (hb hby d1_46) rfl (by decide) (by decide) (P := k = (5 : Int32)) (cmp_ne _ _) (fun hc46 => ?_) (fun hc46 => ?_)
            · show Goes p e below W s₁ (mkF m 53 #[.val (.int k)] [])
              refine Goes.on (T' := s₁) (g' := (mkF m 54 #[.val (.int k)] [(.int k)])) ?_ (fun t k => XS.iloadN X0.here hx rfl (hb hby d1_53) rfl k)
              refine Goes.on (T' := s₁) (g' := (mkF m 56 #[.val (.int k)] [(.int (6 : Int32)), (.int k)])) ?_ (fun t k => XS.bipush X0.here hx rfl (hb hby d1_54) k)
              refine Goes.icmpN X0 hx rfl (pc0 := 56) (pc' := 63) rfl (hb hby d1_56) rfl (by decide) (by decide) (P := k = (6 : Int32)) (cmp_ne _ _) (fun hc56 => ?_) (fun hc56 => ?_)
              · show Goes p e below W s₁ (mkF m 63 #[.val (.int k)] [])
                refine Goes.on (T' := s₁) (g' := (mkF m 64 #[.val (.int k)] [(.int k)])) ?_ (fun t k => XS.iloadN X0.here hx rfl (hb hby d1_63) rfl k)
                refine Goes.on (T' := s₁) (g' := (mkF m 66 #[.val (.int k)] [(.int (7 : Int32)), (.int k)])) ?_ (fun t k => XS.bipush X0.here hx rfl (hb hby d1_64) k)
                refine Goes.icmpN X0 hx rfl (pc0 := 66) (pc' := 73) rfl (hb hby d1_66) rfl (by decide) (by decide) (P := k = (7 : Int32)) (cmp_ne _ _) (fun hc66 => ?_) (fun hc66 => ?_)
                · show Goes p e below W s₁ (mkF m 73 #[.val (.int k)] [])
                  refine Goes.on (T' := s₁) (g' := (mkF m 74 #[.val (.int k)] [(.int k)])) ?_ (fun t k => XS.iloadN X0.here hx rfl (hb hby d1_73) rfl k)
                  refine Goes.on (T' := s₁) (g' := (mkF m 76 #[.val (.int k)] [(.int (8 : Int32)), (.int k)])) ?_ (fun t k => XS.bipush X0.here hx rfl (hb hby d1_74) k)
                  refine Goes.icmpN X0 hx rfl (pc0 := 76) (pc' := 83) rfl (hb hby d1_76) rfl (by decide) (by decide) (P := k = (8 : Int32)) (cmp_ne _ _) (fun hc76 => ?_) (fun hc76 => ?_)
                  · show Goes p e below W s₁ (mkF m 83 #[.val (.int k)] [])
                    obtain ⟨T1, X1, e1, st1⟩ := getS2 X0 hx hZ hown (host := "") (Or.inl (hw _ (List.mem_of_getElem? (i := 28) rfl))) Via.refl e0 SBS (g := (mkF m 83 #[.val (.int k)] [])) rfl (hb hby d1_83)
                    refine Goes.on (T' := T1) (g' := (mkF m 86 #[.val (.int k)] [(.ref aBS)])) ?_ st1
                    rw [hWd]
                    exact Goes.retn X1 (v := some (.ref aBS)) (fun fs hr => retA X1 hx Bd.returns rfl rfl (hb hby d1_86) hr) (fun h => by rw [Bd.returns] at h; cases h) Bd.notSynchronized (by decide) (by decide) (by rw [e1]; exact ⟨by unfold own_pick; rw [if_neg hc1, if_neg hc10, if_neg hc19, if_neg hc28, if_neg hc37, if_neg hc46, if_neg hc56, if_neg hc66, if_neg hc76], N0, rfl⟩)
                  · show Goes p e below W s₁ (mkF m 79 #[.val (.int k)] [])
                    obtain ⟨T2, X2, e2, st2⟩ := getS2 X0 hx hZ hown (host := "") (Or.inl (hw _ (List.mem_of_getElem? (i := 26) rfl))) Via.refl e0 SNS (g := (mkF m 79 #[.val (.int k)] [])) rfl (hb hby d1_79)
                    refine Goes.on (T' := T2) (g' := (mkF m 82 #[.val (.int k)] [(.ref aNS)])) ?_ st2
                    rw [hWd]
                    exact Goes.retn X2 (v := some (.ref aNS)) (fun fs hr => retA X2 hx Bd.returns rfl rfl (hb hby d1_82) hr) (fun h => by rw [Bd.returns] at h; cases h) Bd.notSynchronized (by decide) (by decide) (by rw [e2]; exact ⟨by unfold own_pick; rw [if_neg hc1, if_neg hc10, if_neg hc19, if_neg hc28, if_neg hc37, if_neg hc46, if_neg hc56, if_neg hc66, if_pos hc76], N0, rfl⟩)
                · show Goes p e below W s₁ (mkF m 69 #[.val (.int k)] [])
                  obtain ⟨T3, X3, e3, st3⟩ := getS2 X0 hx hZ hown (host := "") (Or.inl (hw _ (List.mem_of_getElem? (i := 23) rfl))) Via.refl e0 SSS (g := (mkF m 69 #[.val (.int k)] [])) rfl (hb hby d1_69)
                  refine Goes.on (T' := T3) (g' := (mkF m 72 #[.val (.int k)] [(.ref aSS)])) ?_ st3
                  rw [hWd]
                  exact Goes.retn X3 (v := some (.ref aSS)) (fun fs hr => retA X3 hx Bd.returns rfl rfl (hb hby d1_72) hr) (fun h => by rw [Bd.returns] at h; cases h) Bd.notSynchronized (by decide) (by decide) (by rw [e3]; exact ⟨by unfold own_pick; rw [if_neg hc1, if_neg hc10, if_neg hc19, if_neg hc28, if_neg hc37, if_neg hc46, if_neg hc56, if_pos hc66], N0, rfl⟩)
              · show Goes p e below W s₁ (mkF m 59 #[.val (.int k)] [])
                obtain ⟨T4, X4, e4, st4⟩ := getS2 X0 hx hZ hown (host := "") (Or.inl (hw _ (List.mem_of_getElem? (i := 32) rfl))) Via.refl e0 SL (g := (mkF m 59 #[.val (.int k)] [])) rfl (hb hby d1_59)
                refine Goes.on (T' := T4) (g' := (mkF m 62 #[.val (.int k)] [(.ref aL)])) ?_ st4
                rw [hWd]
                exact Goes.retn X4 (v := some (.ref aL)) (fun fs hr => retA X4 hx Bd.returns rfl rfl (hb hby d1_62) hr) (fun h => by rw [Bd.returns] at h; cases h) Bd.notSynchronized (by decide) (by decide) (by rw [e4]; exact ⟨by unfold own_pick; rw [if_neg hc1, if_neg hc10, if_neg hc19, if_neg hc28, if_neg hc37, if_neg hc46, if_pos hc56], N0, rfl⟩)
            · show Goes p e below W s₁ (mkF m 49 #[.val (.int k)] [])
              obtain ⟨T5, X5, e5, st5⟩ := getS2 X0 hx hZ hown (host := "") (Or.inl (hw _ (List.mem_of_getElem? (i := 30) rfl))) Via.refl e0 SM (g := (mkF m 49 #[.val (.int k)] [])) rfl (hb hby d1_49)
              refine Goes.on (T' := T5) (g' := (mkF m 52 #[.val (.int k)] [(.ref aM)])) ?_ st5
              rw [hWd]
              exact Goes.retn X5 (v := some (.ref aM)) (fun fs hr => retA X5 hx Bd.returns rfl rfl (hb hby d1_52) hr) (fun h => by rw [Bd.returns] at h; cases h) Bd.notSynchronized (by decide) (by decide) (by rw [e5]; exact ⟨by unfold own_pick; rw [if_neg hc1, if_neg hc10, if_neg hc19, if_neg hc28, if_neg hc37, if_pos hc46], N0, rfl⟩)
          · show Goes p e below W s₁ (mkF m 40 #[.val (.int k)] [])
            obtain ⟨T6, X6, e6, st6⟩ := getS2 X0 hx hZ hown (host := "") (Or.inl (hw _ (List.mem_of_getElem? (i := 21) rfl))) Via.refl e0 SNULL (g := (mkF m 40 #[.val (.int k)] [])) rfl (hb hby d1_40)
            refine Goes.on (T' := T6) (g' := (mkF m 43 #[.val (.int k)] [(.ref aNULL)])) ?_ st6
            rw [hWd]
            exact Goes.retn X6 (v := some (.ref aNULL)) (fun fs hr => retA X6 hx Bd.returns rfl rfl (hb hby d1_43) hr) (fun h => by rw [Bd.returns] at h; cases h) Bd.notSynchronized (by decide) (by decide) (by rw [e6]; exact ⟨by unfold own_pick; rw [if_neg hc1, if_neg hc10, if_neg hc19, if_neg hc28, if_pos hc37], N0, rfl⟩)
        · show Goes p e below W s₁ (mkF m 31 #[.val (.int k)] [])
          obtain ⟨T7, X7, e7, st7⟩ := getS2 X0 hx hZ hown (host := "") (Or.inl (hw _ (List.mem_of_getElem? (i := 14) rfl))) Via.refl e0 SBOOL (g := (mkF m 31 #[.val (.int k)] [])) rfl (hb hby d1_31)
          refine Goes.on (T' := T7) (g' := (mkF m 34 #[.val (.int k)] [(.ref aBOOL)])) ?_ st7
          rw [hWd]
          exact Goes.retn X7 (v := some (.ref aBOOL)) (fun fs hr => retA X7 hx Bd.returns rfl rfl (hb hby d1_34) hr) (fun h => by rw [Bd.returns] at h; cases h) Bd.notSynchronized (by decide) (by decide) (by rw [e7]; exact ⟨by unfold own_pick; rw [if_neg hc1, if_neg hc10, if_neg hc19, if_pos hc28], N0, rfl⟩)
      · show Goes p e below W s₁ (mkF m 22 #[.val (.int k)] [])
        obtain ⟨T8, X8, e8, st8⟩ := getS2 X0 hx hZ hown (host := "") (Or.inl (hw _ (List.mem_of_getElem? (i := 25) rfl))) Via.refl e0 SB (g := (mkF m 22 #[.val (.int k)] [])) rfl (hb hby d1_22)
        refine Goes.on (T' := T8) (g' := (mkF m 25 #[.val (.int k)] [(.ref aB)])) ?_ st8
        rw [hWd]
        exact Goes.retn X8 (v := some (.ref aB)) (fun fs hr => retA X8 hx Bd.returns rfl rfl (hb hby d1_25) hr) (fun h => by rw [Bd.returns] at h; cases h) Bd.notSynchronized (by decide) (by decide) (by rw [e8]; exact ⟨by unfold own_pick; rw [if_neg hc1, if_neg hc10, if_pos hc19], N0, rfl⟩)
    · show Goes p e below W s₁ (mkF m 13 #[.val (.int k)] [])
      obtain ⟨T9, X9, e9, st9⟩ := getS2 X0 hx hZ hown (host := "") (Or.inl (hw _ (List.mem_of_getElem? (i := 20) rfl))) Via.refl e0 SN (g := (mkF m 13 #[.val (.int k)] [])) rfl (hb hby d1_13)
      refine Goes.on (T' := T9) (g' := (mkF m 16 #[.val (.int k)] [(.ref aN)])) ?_ st9
      rw [hWd]
      exact Goes.retn X9 (v := some (.ref aN)) (fun fs hr => retA X9 hx Bd.returns rfl rfl (hb hby d1_16) hr) (fun h => by rw [Bd.returns] at h; cases h) Bd.notSynchronized (by decide) (by decide) (by rw [e9]; exact ⟨by unfold own_pick; rw [if_neg hc1, if_pos hc10], N0, rfl⟩)
  · show Goes p e below W s₁ (mkF m 4 #[.val (.int k)] [])
    obtain ⟨T10, X10, e10, st10⟩ := getS2 X0 hx hZ hown (host := "") (Or.inl (hw _ (List.mem_of_getElem? (i := 5) rfl))) Via.refl e0 SS (g := (mkF m 4 #[.val (.int k)] [])) rfl (hb hby d1_4)
    refine Goes.on (T' := T10) (g' := (mkF m 7 #[.val (.int k)] [(.ref aS)])) ?_ st10
    rw [hWd]
    exact Goes.retn X10 (v := some (.ref aS)) (fun fs hr => retA X10 hx Bd.returns rfl rfl (hb hby d1_7) hr) (fun h => by rw [Bd.returns] at h; cases h) Bd.notSynchronized (by decide) (by decide) (by rw [e10]; exact ⟨by unfold own_pick; rw [if_pos hc1], N0, rfl⟩)
def QK (Z : State) (a aS aN aB : Addr) (h0 : Heap) (n0 : Nat) (v : Option Value) (h : Heap) (L : List Loc) : Prop := v = some (.int (own_key a aS aN aB)) ∧ Fr n0 L ∧ h = h0
set_option maxRecDepth 65536 in
set_option maxHeartbeats 40000000 in
theorem rmK (l : Launch) (Z : State) (a0 : Array Value) (hw : ∀ d ∈ tables_1, d.before a0 Z = true) (ws : List Jvm.Cond) (a aS aN aB : Addr) (h0 : Heap) (n0 : Nat) (Z0 : n0 ≤ h0.size) (SS : Sta Z h0 "com/example/ballard/ballard/item/AttributeType" "S" "Lcom/example/ballard/ballard/item/AttributeType;" (.ref aS)) (SN : Sta Z h0 "com/example/ballard/ballard/item/AttributeType" "N" "Lcom/example/ballard/ballard/item/AttributeType;" (.ref aN)) (SB : Sta Z h0 "com/example/ballard/ballard/item/AttributeType" "B" "Lcom/example/ballard/ballard/item/AttributeType;" (.ref aB)) :
    MetFree l (⟨"com/example/ballard/ballard/item/AttributeType", "isKeyType", "()Z"⟩ : MethodName) (head1 (Jvm.Cond.code (⟨"com/example/ballard/ballard/item/AttributeType", "isKeyType", "()Z"⟩ : MethodName) prog_43_method_4_code 1 (some .boolean) :: ws) ({ frames := 0, cells := 0, slots := 0, locals := 0 } : Room)) (fun a_ U => a_ = #[(.ref a)] ∧ Z.Warmed39 U.vm ∧ U.heap = h0) (fun _ _ _ _ _ => True) (fun _ U o U' => ∃ v L, o = .returned v ∧ QK Z a aS aN aB h0 n0 v U'.heap L ∧ FrameEnd U o U' L ({ frames := 0, cells := 0, slots := 0, locals := 0 } : Room).cells ({ frames := 0, cells := 0, slots := 0, locals := 0 } : Room).slots) := by
  refine MetFree.of_bodySF (plainFor_of_name pn_1) hisR ?_
  intro p e s m args below meth c s₁ Bd hml0 hP hK
  obtain ⟨rfl, hZ, hh⟩ := hP
  have hx := Bd.exec
  have hby := Bd.bytes
  have hml : c.maxLocals = 1 := hml0
  have hown : s.vm.findClass "com/example/ballard/ballard/item/AttributeType" = some m.cls := findClass_of_methodNamed Bd.named
  have hnm := (name_of_methodNamed Bd.named Bd.method).1
  have X0 : Stand p l e ({ frames := 0, cells := 0, slots := 0, locals := 0 } : Room) s m #[(.ref a)] below meth c s₁ [] 0 0 := Stand.of_body Bd
  have e0 : s₁.heap = h0 := by rw [← hh, Bd.state]; rfl
  have N0 := Fr.nil n0
  refine Goes.done ?_
  obtain ⟨W, hWd⟩ : ∃ W : State → Prop, W = EndW s below (QK Z a aS aN aB h0 n0) ({ frames := 0, cells := 0, slots := 0, locals := 0 } : Room).cells ({ frames := 0, cells := 0, slots := 0, locals := 0 } : Room).slots := ⟨_, rfl⟩
  rw [← hWd]
  have hef : entryFrame m #[(.ref a)] 1 = (mkF m 0 #[.val (.ref a)] []) := by first | (simp [entryFrame, mkF, argsToLocals, Value.category]; done) | rfl
  rw [hef]
  refine Goes.on (T' := s₁) (g' := (mkF m 1 #[.val (.ref a)] [(.ref a)])) ?_ (fun t k => XS.aloadN X0.here hx rfl (hb hby d2_0) rfl rfl k)
  obtain ⟨T1, X1, e1, st1⟩ := getS2 X0 hx hZ hown (host := "") (Or.inl (hw _ (List.mem_of_getElem? (i := 13) rfl))) Via.refl e0 SS (g := (mkF m 1 #[.val (.ref a)] [(.ref a)])) rfl (hb hby d2_1)
  refine Goes.on (T' := T1) (g' := (mkF m 4 #[.val (.ref a)] [(.ref aS), (.ref a)])) ?_ st1
  refine Goes.acmpR X1 hx rfl (pc0 := 4) (pcE := 21) (pcN := 7) rfl (hb hby d2_4) rfl (by decide) (by decide) (by decide) (fun hc4 => ?_) (fun hc4 => ?_)
  · show Goes p e below W T1 (mkF m 21 #[.val (.ref a)] [])
    refine Goes.on (T' := T1) (g' := (mkF m 22 #[.val (.ref a)] [(.int (1 : Int32))])) ?_ (fun t k => XS.iconst X1.here hx rfl (hb hby d2_21) k)
    refine Goes.on (T' := T1) (g' := (mkF m 26 #[.val (.ref a)] [(.int (1 : Int32))])) ?_ (fun t k => XS.goto X1.here hx rfl (pc0 := 22) (pc' := 26) rfl (hb hby d2_22) (by decide) (by decide) k)
    rw [hWd]
    exact Goes.retn X1 (v := some (.int (nar .boolean (1 : Int32)))) (fun fs hr => retN X1 hx (t := .boolean) Bd.returns (by simp) (hb hby d2_26) hr) (fun h => by rw [Bd.returns] at h; cases h) Bd.notSynchronized (by decide) (by decide) (by rw [e1]; exact ⟨by unfold own_key; rw [if_pos hc4]; rfl, N0, rfl⟩)
  · show Goes p e below W T1 (mkF m 7 #[.val (.ref a)] [])
    refine Goes.on (T' := T1) (g' := (mkF m 8 #[.val (.ref a)] [(.ref a)])) ?_ (fun t k => XS.aloadN X1.here hx rfl (hb hby d2_7) rfl rfl k)
    obtain ⟨T2, X2, e2, st2⟩ := getS2 X1 hx hZ hown (host := "") (Or.inl (hw _ (List.mem_of_getElem? (i := 16) rfl))) Via.refl e1 SN (g := (mkF m 8 #[.val (.ref a)] [(.ref a)])) rfl (hb hby d2_8)
    refine Goes.on (T' := T2) (g' := (mkF m 11 #[.val (.ref a)] [(.ref aN), (.ref a)])) ?_ st2
    refine Goes.acmpR X2 hx rfl (pc0 := 11) (pcE := 21) (pcN := 14) rfl (hb hby d2_11) rfl (by decide) (by decide) (by decide) (fun hc11 => ?_) (fun hc11 => ?_)
    · show Goes p e below W T2 (mkF m 21 #[.val (.ref a)] [])
      refine Goes.on (T' := T2) (g' := (mkF m 22 #[.val (.ref a)] [(.int (1 : Int32))])) ?_ (fun t k => XS.iconst X2.here hx rfl (hb hby d2_21) k)
      refine Goes.on (T' := T2) (g' := (mkF m 26 #[.val (.ref a)] [(.int (1 : Int32))])) ?_ (fun t k => XS.goto X2.here hx rfl (pc0 := 22) (pc' := 26) rfl (hb hby d2_22) (by decide) (by decide) k)
      rw [hWd]
      exact Goes.retn X2 (v := some (.int (nar .boolean (1 : Int32)))) (fun fs hr => retN X2 hx (t := .boolean) Bd.returns (by simp) (hb hby d2_26) hr) (fun h => by rw [Bd.returns] at h; cases h) Bd.notSynchronized (by decide) (by decide) (by rw [e2]; exact ⟨by unfold own_key; rw [if_neg hc4, if_pos hc11]; rfl, N0, rfl⟩)
    · show Goes p e below W T2 (mkF m 14 #[.val (.ref a)] [])
      refine Goes.on (T' := T2) (g' := (mkF m 15 #[.val (.ref a)] [(.ref a)])) ?_ (fun t k => XS.aloadN X2.here hx rfl (hb hby d2_14) rfl rfl k)
      obtain ⟨T3, X3, e3, st3⟩ := getS2 X2 hx hZ hown (host := "") (Or.inl (hw _ (List.mem_of_getElem? (i := 18) rfl))) Via.refl e2 SB (g := (mkF m 15 #[.val (.ref a)] [(.ref a)])) rfl (hb hby d2_15)
      refine Goes.on (T' := T3) (g' := (mkF m 18 #[.val (.ref a)] [(.ref aB), (.ref a)])) ?_ st3
      refine Goes.acmpR X3 hx rfl (pc0 := 18) (pcE := 21) (pcN := 25) rfl (hb hby d2_18) rfl (by decide) (by decide) (by decide) (fun hc18 => ?_) (fun hc18 => ?_)
      · show Goes p e below W T3 (mkF m 21 #[.val (.ref a)] [])
        refine Goes.on (T' := T3) (g' := (mkF m 22 #[.val (.ref a)] [(.int (1 : Int32))])) ?_ (fun t k => XS.iconst X3.here hx rfl (hb hby d2_21) k)
        refine Goes.on (T' := T3) (g' := (mkF m 26 #[.val (.ref a)] [(.int (1 : Int32))])) ?_ (fun t k => XS.goto X3.here hx rfl (pc0 := 22) (pc' := 26) rfl (hb hby d2_22) (by decide) (by decide) k)
        rw [hWd]
        exact Goes.retn X3 (v := some (.int (nar .boolean (1 : Int32)))) (fun fs hr => retN X3 hx (t := .boolean) Bd.returns (by simp) (hb hby d2_26) hr) (fun h => by rw [Bd.returns] at h; cases h) Bd.notSynchronized (by decide) (by decide) (by rw [e3]; exact ⟨by unfold own_key; rw [if_neg hc4, if_neg hc11, if_pos hc18]; rfl, N0, rfl⟩)
      · show Goes p e below W T3 (mkF m 25 #[.val (.ref a)] [])
        refine Goes.on (T' := T3) (g' := (mkF m 26 #[.val (.ref a)] [(.int (0 : Int32))])) ?_ (fun t k => XS.iconst X3.here hx rfl (hb hby d2_25) k)
        rw [hWd]
        exact Goes.retn X3 (v := some (.int (nar .boolean (0 : Int32)))) (fun fs hr => retN X3 hx (t := .boolean) Bd.returns (by simp) (hb hby d2_26) hr) (fun h => by rw [Bd.returns] at h; cases h) Bd.notSynchronized (by decide) (by decide) (by rw [e3]; exact ⟨by unfold own_key; rw [if_neg hc4, if_neg hc11, if_neg hc18]; rfl, N0, rfl⟩)
def Q0 (Z : State) (p1 : Int32) (h0 : Heap) (n0 : Nat) (v : Option Value) (h : Heap) (L : List Loc) : Prop := v = some (.int (1 : Int32)) ∧ Fr n0 L
set_option maxRecDepth 65536 in
set_option maxHeartbeats 40000000 in
theorem rm0 (l : Launch) (Z : State) (a0 : Array Value) (hw : ∀ d ∈ tables_1, d.before a0 Z = true) (ws : List Jvm.Cond) (p1 : Int32) (aS aN aB aBOOL aNULL aM aL aSS aNS aBS : Addr) (h0 : Heap) (n0 : Nat) (Z0 : n0 ≤ h0.size) (SS : Sta Z h0 "com/example/ballard/ballard/item/AttributeType" "S" "Lcom/example/ballard/ballard/item/AttributeType;" (.ref aS)) (SN : Sta Z h0 "com/example/ballard/ballard/item/AttributeType" "N" "Lcom/example/ballard/ballard/item/AttributeType;" (.ref aN)) (SB : Sta Z h0 "com/example/ballard/ballard/item/AttributeType" "B" "Lcom/example/ballard/ballard/item/AttributeType;" (.ref aB)) (SBOOL : Sta Z h0 "com/example/ballard/ballard/item/AttributeType" "BOOL" "Lcom/example/ballard/ballard/item/AttributeType;" (.ref aBOOL)) (SNULL : Sta Z h0 "com/example/ballard/ballard/item/AttributeType" "NULL" "Lcom/example/ballard/ballard/item/AttributeType;" (.ref aNULL)) (SM : Sta Z h0 "com/example/ballard/ballard/item/AttributeType" "M" "Lcom/example/ballard/ballard/item/AttributeType;" (.ref aM)) (SL : Sta Z h0 "com/example/ballard/ballard/item/AttributeType" "L" "Lcom/example/ballard/ballard/item/AttributeType;" (.ref aL)) (SSS : Sta Z h0 "com/example/ballard/ballard/item/AttributeType" "SS" "Lcom/example/ballard/ballard/item/AttributeType;" (.ref aSS)) (SNS : Sta Z h0 "com/example/ballard/ballard/item/AttributeType" "NS" "Lcom/example/ballard/ballard/item/AttributeType;" (.ref aNS)) (SBS : Sta Z h0 "com/example/ballard/ballard/item/AttributeType" "BS" "Lcom/example/ballard/ballard/item/AttributeType;" (.ref aBS)) (ES : Exa Z h0 aS "com/example/ballard/ballard/item/AttributeType") (EN : Exa Z h0 aN "com/example/ballard/ballard/item/AttributeType") (EB : Exa Z h0 aB "com/example/ballard/ballard/item/AttributeType") (EBOOL : Exa Z h0 aBOOL "com/example/ballard/ballard/item/AttributeType") (ENULL : Exa Z h0 aNULL "com/example/ballard/ballard/item/AttributeType") (EM : Exa Z h0 aM "com/example/ballard/ballard/item/AttributeType") (EL : Exa Z h0 aL "com/example/ballard/ballard/item/AttributeType") (ESS : Exa Z h0 aSS "com/example/ballard/ballard/item/AttributeType") (ENS : Exa Z h0 aNS "com/example/ballard/ballard/item/AttributeType") (EBS : Exa Z h0 aBS "com/example/ballard/ballard/item/AttributeType") (nBOOL_S : aBOOL ≠ aS) (nBOOL_N : aBOOL ≠ aN) (nBOOL_B : aBOOL ≠ aB) (nNULL_S : aNULL ≠ aS) (nNULL_N : aNULL ≠ aN) (nNULL_B : aNULL ≠ aB) (nM_S : aM ≠ aS) (nM_N : aM ≠ aN) (nM_B : aM ≠ aB) (nL_S : aL ≠ aS) (nL_N : aL ≠ aN) (nL_B : aL ≠ aB) (nSS_S : aSS ≠ aS) (nSS_N : aSS ≠ aN) (nSS_B : aSS ≠ aB) (nNS_S : aNS ≠ aS) (nNS_N : aNS ≠ aN) (nNS_B : aNS ≠ aB) (nBS_S : aBS ≠ aS) (nBS_N : aBS ≠ aN) (nBS_B : aBS ≠ aB) :
    MetFree l x (head1 (Jvm.Cond.code x code maxLocals ret :: ws) room_1) (fun a_ U => a_ = #[(.int p1)] ∧ Z.Warmed39 U.vm ∧ U.heap = h0) (fun _ _ _ _ _ => True) (fun _ U o U' => ∃ v L, o = .returned v ∧ Q0 Z p1 h0 n0 v U'.heap L ∧ FrameEnd U o U' L room_1.cells room_1.slots) := by
  refine MetFree.of_bodySF (plainFor_of_name pn_0) hisR ?_
  intro p e s m args below meth c s₁ Bd hml0 hP hK
  obtain ⟨rfl, hZ, hh⟩ := hP
  have hx := Bd.exec
  have hby := Bd.bytes
  have hml : c.maxLocals = 4 := hml0
  have hown : s.vm.findClass "com/example/ballard/ballard/item/AttributeTypeIsKeyTypePinLaw" = some m.cls := findClass_of_methodNamed Bd.named
  have hnm := (name_of_methodNamed Bd.named Bd.method).1
  have X0 : Stand p l e room_1 s m #[(.int p1)] below meth c s₁ [] 0 0 := Stand.of_body Bd
  have e0 : s₁.heap = h0 := by rw [← hh, Bd.state]; rfl
  have N0 := Fr.nil n0
  refine Goes.done ?_
  obtain ⟨W, hWd⟩ : ∃ W : State → Prop, W = EndW s below (Q0 Z p1 h0 n0) room_1.cells room_1.slots := ⟨_, rfl⟩
  rw [← hWd]
  have hef : entryFrame m #[(.int p1)] maxLocals = (mkF m 0 #[.val (.int p1), .unset, .unset, .unset] []) := by first | (simp [entryFrame, mkF, argsToLocals, Value.category, maxLocals]; done) | rfl
  rw [hef]
  refine Goes.on (T' := s₁) (g' := (mkF m 1 #[.val (.int p1), .unset, .unset, .unset] [(.int p1)])) ?_ (fun t k => XS.iloadN X0.here hx rfl (hb hby at_0) rfl k)
  refine Goes.on (T' := s₁) (g' := (mkF m 3 #[.val (.int p1), .unset, .unset, .unset] [(.int (2147483647 : Int32)), (.int p1)])) ?_ (X0.ldcInt hx hown (mvT hZ (hw _ (List.mem_of_getElem? (i := 0) rfl))) (g := (mkF m 1 #[.val (.int p1), .unset, .unset, .unset] [(.int p1)])) rfl (hb hby at_1))
  refine Goes.on (T' := s₁) (g' := (mkF m 4 #[.val (.int p1), .unset, .unset, .unset] [(.int (p1 &&& (2147483647 : Int32)))])) ?_ (fun t k => XS.iand X0.here hx rfl (hb hby at_3) rfl k)
  refine Goes.on (T' := s₁) (g' := (mkF m 6 #[.val (.int p1), .unset, .unset, .unset] [(.int (10 : Int32)), (.int (p1 &&& (2147483647 : Int32)))])) ?_ (fun t k => XS.bipush X0.here hx rfl (hb hby at_4) k)
  refine Goes.on (T' := s₁) (g' := (mkF m 7 #[.val (.int p1), .unset, .unset, .unset] [(.int ((p1 &&& (2147483647 : Int32)) % (10 : Int32)))])) ?_ (fun t k => iremM X0 hx rfl (hb hby at_6) rfl (by decide) k)
  refine Goes.on (T' := s₁) (g' := (mkF m 8 #[.val (.int p1), .val (.int ((p1 &&& (2147483647 : Int32)) % (10 : Int32))), .unset, .unset] [])) ?_ (fun t k => XS.istoreN X0.here hx rfl (hb hby at_7) rfl (l' := #[.val (.int p1), .val (.int ((p1 &&& (2147483647 : Int32)) % (10 : Int32))), .unset, .unset]) rfl k)
  refine Goes.on (T' := s₁) (g' := (mkF m 9 #[.val (.int p1), .val (.int ((p1 &&& (2147483647 : Int32)) % (10 : Int32))), .unset, .unset] [(.int ((p1 &&& (2147483647 : Int32)) % (10 : Int32)))])) ?_ (fun t k => XS.iloadN X0.here hx rfl (hb hby at_8) rfl k)
  obtain ⟨_, _, ⟨T1, L1, k1, n1⟩, -, X1, ⟨Lc1, hQ1, l1, y1, z1⟩, st1⟩ := Jvm.LawKit.callS X0 hx (y := (⟨"com/example/ballard/ballard/item/AttributeTypeIsKeyTypePinLaw", "pick", "(I)Lcom/example/ballard/ballard/item/AttributeType;"⟩ : MethodName)) hown (mvT hZ (hw _ (List.mem_of_getElem? (i := 1) rfl))) (mvT hZ (hw _ (List.mem_of_getElem? (i := 2) rfl))) (mvT hZ (hw _ (List.mem_of_getElem? (i := 3) rfl))) (mvT hZ (hw _ (List.mem_of_getElem? (i := 4) rfl))) (by decide) (backOf (W := 0) (rmP l Z a0 hw [] ((p1 &&& (2147483647 : Int32)) % (10 : Int32)) aS aN aB aBOOL aNULL aM aL aSS aNS aBS h0 n0 Z0 SS SN SB SBOOL SNULL SM SL SSS SNS SBS) hZ (hw _ (List.mem_of_getElem? (i := 4) rfl)) (hw _ (List.mem_of_getElem? (i := 3) rfl)) (by decide) (by decide)) (g := (mkF m 9 #[.val (.int p1), .val (.int ((p1 &&& (2147483647 : Int32)) % (10 : Int32))), .unset, .unset] [(.int ((p1 &&& (2147483647 : Int32)) % (10 : Int32)))])) rfl (by rw [hml]; rfl) (argsL := [(.int ((p1 &&& (2147483647 : Int32)) % (10 : Int32)))]) (rest := []) (lenOf pd_0 rfl) rfl (by show 2 * 0 + _ ≤ _; exact Nat.le_of_eq rfl) (hb hby at_9) (fun _ _ => ⟨rfl, e0, (by decide : 0 + 0 ≤ _), (by decide : 0 + 0 ≤ _)⟩)
  dsimp only [Pt.U, Pt.locs, Pt.cells, Pt.slots] at X1 l1 y1 z1 st1 hQ1
  subst l1 y1 z1
  obtain ⟨rfl, N1q, eh1⟩ := hQ1
  have N1 := Fr.app N0 N1q
  refine Goes.on (T' := T1) (g' := (mkF m 12 #[.val (.int p1), .val (.int ((p1 &&& (2147483647 : Int32)) % (10 : Int32))), .unset, .unset] [(.ref (own_pick ((p1 &&& (2147483647 : Int32)) % (10 : Int32)) aS aN aB aBOOL aNULL aM aL aSS aNS aBS))])) ?_ st1
  have Et : Exa Z h0 (own_pick ((p1 &&& (2147483647 : Int32)) % (10 : Int32)) aS aN aB aBOOL aNULL aM aL aSS aNS aBS) "com/example/ballard/ballard/item/AttributeType" := own_exa ES EN EB EBOOL ENULL EM EL ESS ENS EBS
  refine Goes.on (T' := T1) (g' := (mkF m 13 #[.val (.int p1), .val (.int ((p1 &&& (2147483647 : Int32)) % (10 : Int32))), .val (.ref (own_pick ((p1 &&& (2147483647 : Int32)) % (10 : Int32)) aS aN aB aBOOL aNULL aM aL aSS aNS aBS)), .unset] [])) ?_ (fun t k => XS.astoreN X1.here hx rfl (hb hby at_12) rfl rfl (l' := #[.val (.int p1), .val (.int ((p1 &&& (2147483647 : Int32)) % (10 : Int32))), .val (.ref (own_pick ((p1 &&& (2147483647 : Int32)) % (10 : Int32)) aS aN aB aBOOL aNULL aM aL aSS aNS aBS)), .unset]) rfl k)
  refine Goes.on (T' := T1) (g' := (mkF m 14 #[.val (.int p1), .val (.int ((p1 &&& (2147483647 : Int32)) % (10 : Int32))), .val (.ref (own_pick ((p1 &&& (2147483647 : Int32)) % (10 : Int32)) aS aN aB aBOOL aNULL aM aL aSS aNS aBS)), .unset] [(.int ((p1 &&& (2147483647 : Int32)) % (10 : Int32)))])) ?_ (fun t k => XS.iloadN X1.here hx rfl (hb hby at_13) rfl k)
  refine Goes.on (T' := T1) (g' := (mkF m 15 #[.val (.int p1), .val (.int ((p1 &&& (2147483647 : Int32)) % (10 : Int32))), .val (.ref (own_pick ((p1 &&& (2147483647 : Int32)) % (10 : Int32)) aS aN aB aBOOL aNULL aM aL aSS aNS aBS)), .unset] [(.int (3 : Int32)), (.int ((p1 &&& (2147483647 : Int32)) % (10 : Int32)))])) ?_ (fun t k => XS.iconst X1.here hx rfl (hb hby at_14) k)
  refine Goes.icmpN X1 hx rfl (pc0 := 15) (pc' := 22) rfl (hb hby at_15) rfl (by decide) (by decide) (P := ((p1 &&& (2147483647 : Int32)) % (10 : Int32)) < (3 : Int32)) (cmp_ge _ _) (fun hc15 => ?_) (fun hc15 => ?_)
  · show Goes p e below W T1 (mkF m 22 #[.val (.int p1), .val (.int ((p1 &&& (2147483647 : Int32)) % (10 : Int32))), .val (.ref (own_pick ((p1 &&& (2147483647 : Int32)) % (10 : Int32)) aS aN aB aBOOL aNULL aM aL aSS aNS aBS)), .unset] [])
    refine Goes.on (T' := T1) (g' := (mkF m 23 #[.val (.int p1), .val (.int ((p1 &&& (2147483647 : Int32)) % (10 : Int32))), .val (.ref (own_pick ((p1 &&& (2147483647 : Int32)) % (10 : Int32)) aS aN aB aBOOL aNULL aM aL aSS aNS aBS)), .unset] [(.int (0 : Int32))])) ?_ (fun t k => XS.iconst X1.here hx rfl (hb hby at_22) k)
    refine Goes.on (T' := T1) (g' := (mkF m 24 #[.val (.int p1), .val (.int ((p1 &&& (2147483647 : Int32)) % (10 : Int32))), .val (.ref (own_pick ((p1 &&& (2147483647 : Int32)) % (10 : Int32)) aS aN aB aBOOL aNULL aM aL aSS aNS aBS)), .val (.int (0 : Int32))] [])) ?_ (fun t k => XS.istoreN X1.here hx rfl (hb hby at_23) rfl (l' := #[.val (.int p1), .val (.int ((p1 &&& (2147483647 : Int32)) % (10 : Int32))), .val (.ref (own_pick ((p1 &&& (2147483647 : Int32)) % (10 : Int32)) aS aN aB aBOOL aNULL aM aL aSS aNS aBS)), .val (.int (0 : Int32))]) rfl k)
    refine Goes.on (T' := T1) (g' := (mkF m 25 #[.val (.int p1), .val (.int ((p1 &&& (2147483647 : Int32)) % (10 : Int32))), .val (.ref (own_pick ((p1 &&& (2147483647 : Int32)) % (10 : Int32)) aS aN aB aBOOL aNULL aM aL aSS aNS aBS)), .val (.int (0 : Int32))] [(.ref (own_pick ((p1 &&& (2147483647 : Int32)) % (10 : Int32)) aS aN aB aBOOL aNULL aM aL aSS aNS aBS))])) ?_ (fun t k => XS.aloadN X1.here hx rfl (hb hby at_24) rfl rfl k)
    obtain ⟨cq2, kq2, q2a, q2b, q2c⟩ := isOf hZ eh1 Et
    obtain ⟨_, _, ⟨T2, L2, k2, n2⟩, -, X2, ⟨Lc2, hQ2, l2, y2, z2⟩, st2⟩ := X1.virtualBack hx (y := (⟨"com/example/ballard/ballard/item/AttributeType", "isKeyType", "()Z"⟩ : MethodName)) (z := (⟨"com/example/ballard/ballard/item/AttributeType", "isKeyType", "()Z"⟩ : MethodName)) hown (mvT hZ (hw _ (List.mem_of_getElem? (i := 8) rfl))) (mvT hZ (hw _ (List.mem_of_getElem? (i := 9) rfl))) (notFace_of_selects (args := #[]) (mvT hZ (hw _ (List.mem_of_getElem? (i := 11) rfl)))) (mvT hZ (hw _ (List.mem_of_getElem? (i := 11) rfl))) (mvT hZ (hw _ (List.mem_of_getElem? (i := 10) rfl))) (by decide) (backOf (W := 0) (rmK l Z a0 hw [] (own_pick ((p1 &&& (2147483647 : Int32)) % (10 : Int32)) aS aN aB aBOOL aNULL aM aL aSS aNS aBS) aS aN aB h0 n0 Z0 SS SN SB) hZ (hw _ (List.mem_of_getElem? (i := 12) rfl)) (hw _ (List.mem_of_getElem? (i := 6) rfl)) (by decide) (by decide)) q2a q2c (g := (mkF m 25 #[.val (.int p1), .val (.int ((p1 &&& (2147483647 : Int32)) % (10 : Int32))), .val (.ref (own_pick ((p1 &&& (2147483647 : Int32)) % (10 : Int32)) aS aN aB aBOOL aNULL aM aL aSS aNS aBS)), .val (.int (0 : Int32))] [(.ref (own_pick ((p1 &&& (2147483647 : Int32)) % (10 : Int32)) aS aN aB aBOOL aNULL aM aL aSS aNS aBS))])) rfl (by rw [hml]; rfl) (Steps.refl _) (argsL := []) (rest := []) (lenOf pd_1 rfl) rfl (by show 2 * 0 + _ ≤ _; exact Nat.le_of_eq rfl) (hb hby at_25) (fun _ _ => ⟨rfl, eh1, (by decide : 0 + 0 ≤ _), (by decide : 0 + 0 ≤ _)⟩)
    dsimp only [Pt.U, Pt.locs, Pt.cells, Pt.slots] at X2 l2 y2 z2 st2 hQ2
    subst l2 y2 z2
    obtain ⟨rfl, N2q, eh2⟩ := hQ2
    have N2 := Fr.app N1 N2q
    refine Goes.on (T' := T2) (g' := (mkF m 28 #[.val (.int p1), .val (.int ((p1 &&& (2147483647 : Int32)) % (10 : Int32))), .val (.ref (own_pick ((p1 &&& (2147483647 : Int32)) % (10 : Int32)) aS aN aB aBOOL aNULL aM aL aSS aNS aBS)), .val (.int (0 : Int32))] [(.int (own_key (own_pick ((p1 &&& (2147483647 : Int32)) % (10 : Int32)) aS aN aB aBOOL aNULL aM aL aSS aNS aBS) aS aN aB))])) ?_ (fun t => st2.trans)
    refine Goes.on (T' := T2) (g' := (mkF m 29 #[.val (.int p1), .val (.int ((p1 &&& (2147483647 : Int32)) % (10 : Int32))), .val (.ref (own_pick ((p1 &&& (2147483647 : Int32)) % (10 : Int32)) aS aN aB aBOOL aNULL aM aL aSS aNS aBS)), .val (.int (0 : Int32))] [(.int (0 : Int32)), (.int (own_key (own_pick ((p1 &&& (2147483647 : Int32)) % (10 : Int32)) aS aN aB aBOOL aNULL aM aL aSS aNS aBS) aS aN aB))])) ?_ (fun t k => XS.iloadN X2.here hx rfl (hb hby at_28) rfl k)
    have hkey : own_key (own_pick ((p1 &&& (2147483647 : Int32)) % (10 : Int32)) aS aN aB aBOOL aNULL aM aL aSS aNS aBS) aS aN aB = (0 : Int32) := by unfold own_key; rw [if_neg (own_out hc15 nBOOL_S nNULL_S nM_S nL_S nSS_S nNS_S nBS_S), if_neg (own_out hc15 nBOOL_N nNULL_N nM_N nL_N nSS_N nNS_N nBS_N), if_neg (own_out hc15 nBOOL_B nNULL_B nM_B nL_B nSS_B nNS_B nBS_B)]
    refine Goes.on (T' := T2) (g' := (mkF m 32 #[.val (.int p1), .val (.int ((p1 &&& (2147483647 : Int32)) % (10 : Int32))), .val (.ref (own_pick ((p1 &&& (2147483647 : Int32)) % (10 : Int32)) aS aN aB aBOOL aNULL aM aL aSS aNS aBS)), .val (.int (0 : Int32))] [])) ?_ (fun t k => XS.icmpNo X2.here hx rfl (hb hby at_29) rfl (teq hkey).2 k)
    refine Goes.on (T' := T2) (g' := (mkF m 33 #[.val (.int p1), .val (.int ((p1 &&& (2147483647 : Int32)) % (10 : Int32))), .val (.ref (own_pick ((p1 &&& (2147483647 : Int32)) % (10 : Int32)) aS aN aB aBOOL aNULL aM aL aSS aNS aBS)), .val (.int (0 : Int32))] [(.int (1 : Int32))])) ?_ (fun t k => XS.iconst X2.here hx rfl (hb hby at_32) k)
    refine Goes.on (T' := T2) (g' := (mkF m 37 #[.val (.int p1), .val (.int ((p1 &&& (2147483647 : Int32)) % (10 : Int32))), .val (.ref (own_pick ((p1 &&& (2147483647 : Int32)) % (10 : Int32)) aS aN aB aBOOL aNULL aM aL aSS aNS aBS)), .val (.int (0 : Int32))] [(.int (1 : Int32))])) ?_ (fun t k => XS.goto X2.here hx rfl (pc0 := 33) (pc' := 37) rfl (hb hby at_33) (by decide) (by decide) k)
    rw [hWd]
    exact Goes.retn X2 (v := some (.int (nar .boolean (1 : Int32)))) (fun fs hr => retN X2 hx (t := .boolean) Bd.returns (by simp) (hb hby at_37) hr) (fun h => by rw [Bd.returns] at h; cases h) Bd.notSynchronized (by decide) (by decide) (by rw [eh2]; exact ⟨rfl, N2⟩)
  · show Goes p e below W T1 (mkF m 18 #[.val (.int p1), .val (.int ((p1 &&& (2147483647 : Int32)) % (10 : Int32))), .val (.ref (own_pick ((p1 &&& (2147483647 : Int32)) % (10 : Int32)) aS aN aB aBOOL aNULL aM aL aSS aNS aBS)), .unset] [])
    refine Goes.on (T' := T1) (g' := (mkF m 19 #[.val (.int p1), .val (.int ((p1 &&& (2147483647 : Int32)) % (10 : Int32))), .val (.ref (own_pick ((p1 &&& (2147483647 : Int32)) % (10 : Int32)) aS aN aB aBOOL aNULL aM aL aSS aNS aBS)), .unset] [(.int (1 : Int32))])) ?_ (fun t k => XS.iconst X1.here hx rfl (hb hby at_18) k)
    refine Goes.on (T' := T1) (g' := (mkF m 23 #[.val (.int p1), .val (.int ((p1 &&& (2147483647 : Int32)) % (10 : Int32))), .val (.ref (own_pick ((p1 &&& (2147483647 : Int32)) % (10 : Int32)) aS aN aB aBOOL aNULL aM aL aSS aNS aBS)), .unset] [(.int (1 : Int32))])) ?_ (fun t k => XS.goto X1.here hx rfl (pc0 := 19) (pc' := 23) rfl (hb hby at_19) (by decide) (by decide) k)
    refine Goes.on (T' := T1) (g' := (mkF m 24 #[.val (.int p1), .val (.int ((p1 &&& (2147483647 : Int32)) % (10 : Int32))), .val (.ref (own_pick ((p1 &&& (2147483647 : Int32)) % (10 : Int32)) aS aN aB aBOOL aNULL aM aL aSS aNS aBS)), .val (.int (1 : Int32))] [])) ?_ (fun t k => XS.istoreN X1.here hx rfl (hb hby at_23) rfl (l' := #[.val (.int p1), .val (.int ((p1 &&& (2147483647 : Int32)) % (10 : Int32))), .val (.ref (own_pick ((p1 &&& (2147483647 : Int32)) % (10 : Int32)) aS aN aB aBOOL aNULL aM aL aSS aNS aBS)), .val (.int (1 : Int32))]) rfl k)
    refine Goes.on (T' := T1) (g' := (mkF m 25 #[.val (.int p1), .val (.int ((p1 &&& (2147483647 : Int32)) % (10 : Int32))), .val (.ref (own_pick ((p1 &&& (2147483647 : Int32)) % (10 : Int32)) aS aN aB aBOOL aNULL aM aL aSS aNS aBS)), .val (.int (1 : Int32))] [(.ref (own_pick ((p1 &&& (2147483647 : Int32)) % (10 : Int32)) aS aN aB aBOOL aNULL aM aL aSS aNS aBS))])) ?_ (fun t k => XS.aloadN X1.here hx rfl (hb hby at_24) rfl rfl k)
    obtain ⟨cq3, kq3, q3a, q3b, q3c⟩ := isOf hZ eh1 Et
    obtain ⟨_, _, ⟨T3, L3, k3, n3⟩, -, X3, ⟨Lc3, hQ3, l3, y3, z3⟩, st3⟩ := X1.virtualBack hx (y := (⟨"com/example/ballard/ballard/item/AttributeType", "isKeyType", "()Z"⟩ : MethodName)) (z := (⟨"com/example/ballard/ballard/item/AttributeType", "isKeyType", "()Z"⟩ : MethodName)) hown (mvT hZ (hw _ (List.mem_of_getElem? (i := 8) rfl))) (mvT hZ (hw _ (List.mem_of_getElem? (i := 9) rfl))) (notFace_of_selects (args := #[]) (mvT hZ (hw _ (List.mem_of_getElem? (i := 11) rfl)))) (mvT hZ (hw _ (List.mem_of_getElem? (i := 11) rfl))) (mvT hZ (hw _ (List.mem_of_getElem? (i := 10) rfl))) (by decide) (backOf (W := 0) (rmK l Z a0 hw [] (own_pick ((p1 &&& (2147483647 : Int32)) % (10 : Int32)) aS aN aB aBOOL aNULL aM aL aSS aNS aBS) aS aN aB h0 n0 Z0 SS SN SB) hZ (hw _ (List.mem_of_getElem? (i := 12) rfl)) (hw _ (List.mem_of_getElem? (i := 6) rfl)) (by decide) (by decide)) q3a q3c (g := (mkF m 25 #[.val (.int p1), .val (.int ((p1 &&& (2147483647 : Int32)) % (10 : Int32))), .val (.ref (own_pick ((p1 &&& (2147483647 : Int32)) % (10 : Int32)) aS aN aB aBOOL aNULL aM aL aSS aNS aBS)), .val (.int (1 : Int32))] [(.ref (own_pick ((p1 &&& (2147483647 : Int32)) % (10 : Int32)) aS aN aB aBOOL aNULL aM aL aSS aNS aBS))])) rfl (by rw [hml]; rfl) (Steps.refl _) (argsL := []) (rest := []) (lenOf pd_1 rfl) rfl (by show 2 * 0 + _ ≤ _; exact Nat.le_of_eq rfl) (hb hby at_25) (fun _ _ => ⟨rfl, eh1, (by decide : 0 + 0 ≤ _), (by decide : 0 + 0 ≤ _)⟩)
    dsimp only [Pt.U, Pt.locs, Pt.cells, Pt.slots] at X3 l3 y3 z3 st3 hQ3
    subst l3 y3 z3
    obtain ⟨rfl, N3q, eh3⟩ := hQ3
    have N3 := Fr.app N1 N3q
    refine Goes.on (T' := T3) (g' := (mkF m 28 #[.val (.int p1), .val (.int ((p1 &&& (2147483647 : Int32)) % (10 : Int32))), .val (.ref (own_pick ((p1 &&& (2147483647 : Int32)) % (10 : Int32)) aS aN aB aBOOL aNULL aM aL aSS aNS aBS)), .val (.int (1 : Int32))] [(.int (own_key (own_pick ((p1 &&& (2147483647 : Int32)) % (10 : Int32)) aS aN aB aBOOL aNULL aM aL aSS aNS aBS) aS aN aB))])) ?_ (fun t => st3.trans)
    refine Goes.on (T' := T3) (g' := (mkF m 29 #[.val (.int p1), .val (.int ((p1 &&& (2147483647 : Int32)) % (10 : Int32))), .val (.ref (own_pick ((p1 &&& (2147483647 : Int32)) % (10 : Int32)) aS aN aB aBOOL aNULL aM aL aSS aNS aBS)), .val (.int (1 : Int32))] [(.int (1 : Int32)), (.int (own_key (own_pick ((p1 &&& (2147483647 : Int32)) % (10 : Int32)) aS aN aB aBOOL aNULL aM aL aSS aNS aBS) aS aN aB))])) ?_ (fun t k => XS.iloadN X3.here hx rfl (hb hby at_28) rfl k)
    have hkey : own_key (own_pick ((p1 &&& (2147483647 : Int32)) % (10 : Int32)) aS aN aB aBOOL aNULL aM aL aSS aNS aBS) aS aN aB = (1 : Int32) := by rcases own_in (own_k0 p1) hc15 (aS := aS) (aN := aN) (aB := aB) (aBOOL := aBOOL) (aNULL := aNULL) (aM := aM) (aL := aL) (aSS := aSS) (aNS := aNS) (aBS := aBS) with h | h | h <;> unfold own_key <;> rw [h] <;> repeat' (split; rfl) <;> simp_all
    refine Goes.on (T' := T3) (g' := (mkF m 32 #[.val (.int p1), .val (.int ((p1 &&& (2147483647 : Int32)) % (10 : Int32))), .val (.ref (own_pick ((p1 &&& (2147483647 : Int32)) % (10 : Int32)) aS aN aB aBOOL aNULL aM aL aSS aNS aBS)), .val (.int (1 : Int32))] [])) ?_ (fun t k => XS.icmpNo X3.here hx rfl (hb hby at_29) rfl (teq hkey).2 k)
    refine Goes.on (T' := T3) (g' := (mkF m 33 #[.val (.int p1), .val (.int ((p1 &&& (2147483647 : Int32)) % (10 : Int32))), .val (.ref (own_pick ((p1 &&& (2147483647 : Int32)) % (10 : Int32)) aS aN aB aBOOL aNULL aM aL aSS aNS aBS)), .val (.int (1 : Int32))] [(.int (1 : Int32))])) ?_ (fun t k => XS.iconst X3.here hx rfl (hb hby at_32) k)
    refine Goes.on (T' := T3) (g' := (mkF m 37 #[.val (.int p1), .val (.int ((p1 &&& (2147483647 : Int32)) % (10 : Int32))), .val (.ref (own_pick ((p1 &&& (2147483647 : Int32)) % (10 : Int32)) aS aN aB aBOOL aNULL aM aL aSS aNS aBS)), .val (.int (1 : Int32))] [(.int (1 : Int32))])) ?_ (fun t k => XS.goto X3.here hx rfl (pc0 := 33) (pc' := 37) rfl (hb hby at_33) (by decide) (by decide) k)
    rw [hWd]
    exact Goes.retn X3 (v := some (.int (nar .boolean (1 : Int32)))) (fun fs hr => retN X3 hx (t := .boolean) Bd.returns (by simp) (hb hby at_37) hr) (fun h => by rw [Bd.returns] at h; cases h) Bd.notSynchronized (by decide) (by decide) (by rw [eh3]; exact ⟨rfl, N3⟩)
set_option maxRecDepth 65536 in
set_option maxHeartbeats 40000000 in
theorem comes_1 {Post : Tables → Env → Array Value → State → Outcome → State → Prop} (hpost : ∀ tb e args s v u, (limb_1_1.after args s (.returned v) u = true ∧ limb_1_2.after args s (.returned v) u = true ∧ True) → FrameEnd s (.returned v) u (Jvm.fieldLocs frame_1_writes args s ++ Jvm.arrayLocs frame_1_arrays args s ++ Jvm.staticLocs frame_1_statics s) 0 0 → Post tb e args s (.returned v) u) :
    ArmFor flags0 classFile x code maxLocals ret World_1 tables_1 room_1 Calls_1 rest_1 Pre_1 Post := by
  intro l hfl _ _ p e ha hc hk s m args below hf hA hF happ hP
  obtain ⟨hcalls, hrest, hpre⟩ := hP
  obtain ⟨-, -, -, hnamed, -, -, -, hat⟩ := (Spec.applies_iff hf).mp happ
  obtain ⟨hg, hn⟩ := and_e (Cond.before_iff.mp (show (Jvm.Cond.and given_1 narrow_1).before args s = true from hpre))
  obtain ⟨hcount, hq0⟩ := and_e hg
  have ha0 := hq0
  obtain ⟨w0, rfl⟩ : ∃ w0 : Value, args = #[w0] := by
    have hs : args.size = 1 := by simpa [Cond.value, given_1] using hcount
    obtain ⟨L⟩ := args
    match L, hs with
    | [w0], _ => exact ⟨w0, rfl⟩
  have hw := fun d (hd : d ∈ tables_1) => atoms_spec (ws := Jvm.Cond.code x code maxLocals ret :: tables_1) hat d (List.mem_cons_of_mem _ hd)
  have hfit : Fit s := fun {y c} hc i hi => by
    obtain ⟨ha, rfl⟩ := Array.getElem?_eq_some_iff.mp hc
    have q := List.all_eq_true.mp ((Array.all_eq_true_iff_forall_mem.mp hF) _ (Array.getElem_mem ha)) i (List.mem_range.mpr hi)
    simpa [Array.getElem?_eq_getElem hi] using q
  obtain ⟨i0, ea0⟩ := is_v ha0
  obtain rfl : w0 = (.int i0) := Option.some.inj ea0
  obtain ⟨xS, hr0⟩ := and_e hn
  obtain ⟨xBOOL, hr1⟩ := and_e hr0
  obtain ⟨oBOOL, hr2⟩ := and_e hr1
  obtain ⟨oS, hr3⟩ := and_e hr2
  obtain ⟨xN, hr4⟩ := and_e hr3
  obtain ⟨oN, hr5⟩ := and_e hr4
  obtain ⟨xB, hr6⟩ := and_e hr5
  obtain ⟨oB, hr7⟩ := and_e hr6
  obtain ⟨xNULL, hr8⟩ := and_e hr7
  obtain ⟨oNULL, hr9⟩ := and_e hr8
  obtain ⟨xSS, hr10⟩ := and_e hr9
  obtain ⟨oSS, hr11⟩ := and_e hr10
  obtain ⟨xNS, hr12⟩ := and_e hr11
  obtain ⟨oNS, hr13⟩ := and_e hr12
  obtain ⟨xBS, hr14⟩ := and_e hr13
  obtain ⟨oBS, hr15⟩ := and_e hr14
  obtain ⟨xM, hr16⟩ := and_e hr15
  obtain ⟨oM, hr17⟩ := and_e hr16
  obtain ⟨xL, hr18⟩ := and_e hr17
  have oL := hr18
  obtain ⟨aS, evS⟩ := exa_v xS
  have ES := Exa.start evS xS
  have SS : Sta s s.heap "com/example/ballard/ballard/item/AttributeType" "S" "Lcom/example/ballard/ballard/item/AttributeType;" (.ref aS) := Sta.start evS (Or.inr ⟨(hw _ (List.mem_of_getElem? (i := 6) rfl)), (hw _ (List.mem_of_getElem? (i := 7) rfl))⟩)
  have FS := own_ord evS oS
  obtain ⟨aN, evN⟩ := exa_v xN
  have EN := Exa.start evN xN
  have SN : Sta s s.heap "com/example/ballard/ballard/item/AttributeType" "N" "Lcom/example/ballard/ballard/item/AttributeType;" (.ref aN) := Sta.start evN (Or.inr ⟨(hw _ (List.mem_of_getElem? (i := 6) rfl)), (hw _ (List.mem_of_getElem? (i := 17) rfl))⟩)
  have FN := own_ord evN oN
  obtain ⟨aB, evB⟩ := exa_v xB
  have EB := Exa.start evB xB
  have SB : Sta s s.heap "com/example/ballard/ballard/item/AttributeType" "B" "Lcom/example/ballard/ballard/item/AttributeType;" (.ref aB) := Sta.start evB (Or.inr ⟨(hw _ (List.mem_of_getElem? (i := 6) rfl)), (hw _ (List.mem_of_getElem? (i := 19) rfl))⟩)
  have FB := own_ord evB oB
  obtain ⟨aBOOL, evBOOL⟩ := exa_v xBOOL
  have EBOOL := Exa.start evBOOL xBOOL
  have SBOOL : Sta s s.heap "com/example/ballard/ballard/item/AttributeType" "BOOL" "Lcom/example/ballard/ballard/item/AttributeType;" (.ref aBOOL) := Sta.start evBOOL (Or.inr ⟨(hw _ (List.mem_of_getElem? (i := 6) rfl)), (hw _ (List.mem_of_getElem? (i := 15) rfl))⟩)
  have FBOOL := own_ord evBOOL oBOOL
  obtain ⟨aNULL, evNULL⟩ := exa_v xNULL
  have ENULL := Exa.start evNULL xNULL
  have SNULL : Sta s s.heap "com/example/ballard/ballard/item/AttributeType" "NULL" "Lcom/example/ballard/ballard/item/AttributeType;" (.ref aNULL) := Sta.start evNULL (Or.inr ⟨(hw _ (List.mem_of_getElem? (i := 6) rfl)), (hw _ (List.mem_of_getElem? (i := 22) rfl))⟩)
  have FNULL := own_ord evNULL oNULL
  obtain ⟨aM, evM⟩ := exa_v xM
  have EM := Exa.start evM xM
  have SM : Sta s s.heap "com/example/ballard/ballard/item/AttributeType" "M" "Lcom/example/ballard/ballard/item/AttributeType;" (.ref aM) := Sta.start evM (Or.inr ⟨(hw _ (List.mem_of_getElem? (i := 6) rfl)), (hw _ (List.mem_of_getElem? (i := 31) rfl))⟩)
  have FM := own_ord evM oM
  obtain ⟨aL, evL⟩ := exa_v xL
  have EL := Exa.start evL xL
  have SL : Sta s s.heap "com/example/ballard/ballard/item/AttributeType" "L" "Lcom/example/ballard/ballard/item/AttributeType;" (.ref aL) := Sta.start evL (Or.inr ⟨(hw _ (List.mem_of_getElem? (i := 6) rfl)), (hw _ (List.mem_of_getElem? (i := 33) rfl))⟩)
  have FL := own_ord evL oL
  obtain ⟨aSS, evSS⟩ := exa_v xSS
  have ESS := Exa.start evSS xSS
  have SSS : Sta s s.heap "com/example/ballard/ballard/item/AttributeType" "SS" "Lcom/example/ballard/ballard/item/AttributeType;" (.ref aSS) := Sta.start evSS (Or.inr ⟨(hw _ (List.mem_of_getElem? (i := 6) rfl)), (hw _ (List.mem_of_getElem? (i := 24) rfl))⟩)
  have FSS := own_ord evSS oSS
  obtain ⟨aNS, evNS⟩ := exa_v xNS
  have ENS := Exa.start evNS xNS
  have SNS : Sta s s.heap "com/example/ballard/ballard/item/AttributeType" "NS" "Lcom/example/ballard/ballard/item/AttributeType;" (.ref aNS) := Sta.start evNS (Or.inr ⟨(hw _ (List.mem_of_getElem? (i := 6) rfl)), (hw _ (List.mem_of_getElem? (i := 27) rfl))⟩)
  have FNS := own_ord evNS oNS
  obtain ⟨aBS, evBS⟩ := exa_v xBS
  have EBS := Exa.start evBS xBS
  have SBS : Sta s s.heap "com/example/ballard/ballard/item/AttributeType" "BS" "Lcom/example/ballard/ballard/item/AttributeType;" (.ref aBS) := Sta.start evBS (Or.inr ⟨(hw _ (List.mem_of_getElem? (i := 6) rfl)), (hw _ (List.mem_of_getElem? (i := 29) rfl))⟩)
  have FBS := own_ord evBS oBS
  have nBOOL_S : aBOOL ≠ aS := FBOOL.ne FS (by decide)
  have nBOOL_N : aBOOL ≠ aN := FBOOL.ne FN (by decide)
  have nBOOL_B : aBOOL ≠ aB := FBOOL.ne FB (by decide)
  have nNULL_S : aNULL ≠ aS := FNULL.ne FS (by decide)
  have nNULL_N : aNULL ≠ aN := FNULL.ne FN (by decide)
  have nNULL_B : aNULL ≠ aB := FNULL.ne FB (by decide)
  have nM_S : aM ≠ aS := FM.ne FS (by decide)
  have nM_N : aM ≠ aN := FM.ne FN (by decide)
  have nM_B : aM ≠ aB := FM.ne FB (by decide)
  have nL_S : aL ≠ aS := FL.ne FS (by decide)
  have nL_N : aL ≠ aN := FL.ne FN (by decide)
  have nL_B : aL ≠ aB := FL.ne FB (by decide)
  have nSS_S : aSS ≠ aS := FSS.ne FS (by decide)
  have nSS_N : aSS ≠ aN := FSS.ne FN (by decide)
  have nSS_B : aSS ≠ aB := FSS.ne FB (by decide)
  have nNS_S : aNS ≠ aS := FNS.ne FS (by decide)
  have nNS_N : aNS ≠ aN := FNS.ne FN (by decide)
  have nNS_B : aNS ≠ aB := FNS.ne FB (by decide)
  have nBS_S : aBS ≠ aS := FBS.ne FS (by decide)
  have nBS_N : aBS ≠ aN := FBS.ne FN (by decide)
  have nBS_B : aBS ≠ aB := FBS.ne FB (by decide)
  obtain ⟨n, o, h1, h2, h3, _, L, rfl, ⟨rfl, N⟩, hq⟩ := rm0 l s _ hw tables_1 i0 aS aN aB aBOOL aNULL aM aL aSS aNS aBS s.heap s.heap.size (Nat.le_refl _) SS SN SB SBOOL SNULL SM SL SSS SNS SBS ES EN EB EBOOL ENULL EM EL ESS ENS EBS nBOOL_S nBOOL_N nBOOL_B nNULL_S nNULL_N nNULL_B nM_S nM_N nM_B nL_S nL_N nL_B nSS_S nSS_N nSS_B nNS_S nNS_N nNS_B nBS_S nBS_N nBS_B p e ha hc hk s m _ below hf ((Spec.applies_iff_loose hf).mp happ).1 ⟨rfl, State.Warmed39.refl s, rfl⟩ trivial
  refine ⟨n, _, h1, h2, h3, hpost _ _ _ _ _ _ ⟨Cond.after_iff.mpr rfl, Cond.after_iff.mpr (eq_i res_at (Term.int_eval (1)) rfl), trivial⟩ ⟨hq.1, hq.2.1, (hq.2.2.sift fun y hy => Or.inr (N y hy)).mono (by decide) (by decide)⟩⟩
theorem main_1_1 : Claimed_1_1 := comes_1 fun _ _ _ _ _ _ h hF => ⟨h.1, hF⟩
theorem main_1_2 : Claimed_1_2 := comes_1 fun _ _ _ _ _ _ h hF => ⟨h.2.1, hF⟩
end Jvm.Pilot.@@N@@
namespace Jvm.Pilot.@@N@@
open Jvm Jvm.ClassFile Sem Op Lib Jvm.Free Jvm.Stand Jvm.Pilot.@@N@@.Jvm.D
/-! MADE BY PROGRAM (witnessworld.py) out of the Statement's table words and the real class files: 12 classes; the members and pool entries that the words name. The judged class is class 1, her method 2. -/
namespace start1
open Jvm.ClassFile
def u (s : String) : CpInfo := .utf8 (stringToUtf16 s)
/-- a pool by its gaps: so many unusable entries, then the entry; so many at the end -/
def gap : Nat → List CpInfo → List CpInfo
  | 0, r => r
  | n + 1, r => .unusable :: gap n r
def poolList (es : List (Nat × CpInfo)) (last : Nat) : List CpInfo := es.foldr (fun e r => gap e.1 (e.2 :: r)) (gap last [])
def pool (es : List (Nat × CpInfo)) (last : Nat) : Array CpInfo := ⟨poolList es last⟩
def fileOf (pool : Array CpInfo) (this : Nat) (attrs : Array Attribute := #[]) (ms : Array MethodInfo := #[]) (fl : Nat := 33) (sup : Nat := 0) (ifs : Array Nat := #[]) (fds : Array FieldInfo := #[]) : ClassFile where
  minorVersion := 0
  majorVersion := 65
  constantPool := pool
  accessFlags := fl
  thisClass := this
  superClass := sup
  interfaces := ifs
  fields := fds
  methods := ms
  attributes := attrs
def plain (name : String) (sup : Option ClassId) : Class where
  name := name
  kind := .ordinary
  loader := none
  accessFlags := 33
  super := sup
  interfaces := #[]
  cf := none
  fields := #[]
  methods := #[]
  instanceTypes := #[]
  staticTypes := #[]
  resolved := #[]
  callSites := []
  init := .initialized
  statics := none
  mirror := none

def pool0 : Array CpInfo := pool [(5, u "<init>"), (0, u "()V"), (1, .class_ 10), (1, u "java/lang/Object")] 113

def k0m0 : Method := { name := "<init>", desc := "()V", sig := { parameters := [], returnType := none }, accessFlags := 1, code := none }
/-- java/lang/Object -/
def k0 : Class := { plain "java/lang/Object" none with
  accessFlags := 33
  interfaces := #[]
  cf := some (fileOf pool0 8 #[] #[{ accessFlags := 1, nameIndex := 5, descriptorIndex := 6, attributes := #[] }] 33 0 #[] #[])
  fields := #[]
  methods := #[k0m0]
  instanceTypes := #[]
  staticTypes := #[]
  resolved := Array.replicate 124 none
  statics := none }

def pool1 : Array CpInfo := pool [(2, .class_ 4), (1, u "java/lang/Object"), (0, u "<init>"), (0, u "()V"), (0, .fieldref 8 9), (0, .class_ 10), (0, .nameAndType 11 12), (0, u "com/example/ballard/ballard/item/AttributeType"), (0, u "S"), (0, u "Lcom/example/ballard/ballard/item/AttributeType;"), (0, .fieldref 8 14), (0, .nameAndType 15 12), (0, u "N"), (0, .fieldref 8 17), (0, .nameAndType 18 12), (0, u "B"), (0, .fieldref 8 20), (0, .nameAndType 21 12), (0, u "BOOL"), (0, .fieldref 8 23), (0, .nameAndType 24 12), (0, u "NULL"), (0, .fieldref 8 26), (0, .nameAndType 27 12), (0, u "M"), (0, .fieldref 8 29), (0, .nameAndType 30 12), (0, u "L"), (0, .fieldref 8 32), (0, .nameAndType 33 12), (0, u "SS"), (0, .fieldref 8 35), (0, .nameAndType 36 12), (0, u "NS"), (0, .fieldref 8 38), (0, .nameAndType 39 12), (0, u "BS"), (0, .integer 2147483647), (0, .methodref 42 43), (0, .class_ 44), (0, .nameAndType 45 46), (0, u "com/example/ballard/ballard/item/AttributeTypeIsKeyTypePinLaw"), (0, u "pick"), (0, u "(I)Lcom/example/ballard/ballard/item/AttributeType;"), (0, .methodref 8 48), (0, .nameAndType 49 50), (0, u "isKeyType"), (0, u "()Z"), (3, u "law"), (0, u "(I)Z")] 2

def k1m0 : Method := { name := "<init>", desc := "()V", sig := { parameters := [], returnType := none }, accessFlags := 2, code := none }
def k1c1 : Code := { maxStack := 2, maxLocals := 1, code := method_2_code, exceptionTable := #[], attributes := #[] }
def k1m1 : Method := { name := "pick", desc := "(I)Lcom/example/ballard/ballard/item/AttributeType;", sig := { parameters := [.int], returnType := some (.object "com/example/ballard/ballard/item/AttributeType") }, accessFlags := 10, code := some k1c1 }
def k1c2 : Code := { maxStack := 2, maxLocals := 4, code := code, exceptionTable := #[], attributes := #[] }
def k1m2 : Method := { name := "law", desc := "(I)Z", sig := { parameters := [.int], returnType := some .boolean }, accessFlags := 9, code := some k1c2 }
/-- com/example/ballard/ballard/item/AttributeTypeIsKeyTypePinLaw -/
def k1 : Class := { plain "com/example/ballard/ballard/item/AttributeTypeIsKeyTypePinLaw" (some 0) with
  accessFlags := 49
  interfaces := #[]
  cf := some (fileOf pool1 42 #[] #[{ accessFlags := 2, nameIndex := 5, descriptorIndex := 6, attributes := #[] }, { accessFlags := 10, nameIndex := 45, descriptorIndex := 46, attributes := #[] }, { accessFlags := 9, nameIndex := 54, descriptorIndex := 55, attributes := #[] }] 49 2 #[] #[])
  fields := #[]
  methods := #[k1m0, k1m1, k1m2]
  instanceTypes := #[]
  staticTypes := #[]
  resolved := Array.replicate 58 none
  statics := none }

def pool2 : Array CpInfo := pool [(1, .class_ 2), (0, u "java/lang/constant/Constable"), (0, .class_ 4), (0, u "java/lang/Object")] 6

/-- java/lang/constant/Constable -/
def k2 : Class := { plain "java/lang/constant/Constable" (some 0) with
  accessFlags := 1537
  interfaces := #[]
  cf := some (fileOf pool2 1 #[] #[] 1537 3 #[] #[])
  fields := #[]
  methods := #[]
  instanceTypes := #[]
  staticTypes := #[]
  resolved := Array.replicate 11 none
  statics := none }

def pool3 : Array CpInfo := pool [(1, .class_ 2), (0, u "java/lang/Comparable"), (0, .class_ 4), (0, u "java/lang/Object")] 7

/-- java/lang/Comparable -/
def k3 : Class := { plain "java/lang/Comparable" (some 0) with
  accessFlags := 1537
  interfaces := #[]
  cf := some (fileOf pool3 1 #[] #[] 1537 3 #[] #[])
  fields := #[]
  methods := #[]
  instanceTypes := #[]
  staticTypes := #[]
  resolved := Array.replicate 12 none
  statics := none }

def pool4 : Array CpInfo := pool [(1, .class_ 2), (0, u "java/io/Serializable"), (0, .class_ 4), (0, u "java/lang/Object")] 2

/-- java/io/Serializable -/
def k4 : Class := { plain "java/io/Serializable" (some 0) with
  accessFlags := 1537
  interfaces := #[]
  cf := some (fileOf pool4 1 #[] #[] 1537 3 #[] #[])
  fields := #[]
  methods := #[]
  instanceTypes := #[]
  staticTypes := #[]
  resolved := Array.replicate 7 none
  statics := none }

def pool5 : Array CpInfo := pool [(2, .class_ 4), (1, u "java/lang/Enum"), (0, u "name"), (0, u "Ljava/lang/String;"), (2, u "ordinal"), (0, u "I"), (1, .class_ 14), (1, u "java/lang/Object"), (4, u "hash"), (86, .class_ 108), (1, u "java/lang/Enum$EnumDesc"), (2, .class_ 112), (0, u "java/lang/constant/Constable"), (0, .class_ 114), (0, u "java/lang/Comparable"), (0, .class_ 116), (0, u "java/io/Serializable")] 87

/-- java/lang/Enum -/
def k5 : Class := { plain "java/lang/Enum" (some 0) with
  accessFlags := 1057
  interfaces := #[2, 3, 4]
  cf := some (fileOf pool5 2 #[.nestMembers #[106]] #[] 1057 12 #[111, 113, 115] #[{ accessFlags := 18, nameIndex := 5, descriptorIndex := 6, attributes := #[] }, { accessFlags := 18, nameIndex := 9, descriptorIndex := 10, attributes := #[] }, { accessFlags := 2, nameIndex := 19, descriptorIndex := 10, attributes := #[] }])
  fields := #[{ name := "name", type := (.object "java/lang/String"), accessFlags := 18, slot := 0, constantValue := 0 }, { name := "ordinal", type := .int, accessFlags := 18, slot := 1, constantValue := 0 }, { name := "hash", type := .int, accessFlags := 2, slot := 2, constantValue := 0 }]
  methods := #[]
  instanceTypes := #[(.object "java/lang/String"), .int, .int]
  staticTypes := #[]
  resolved := Array.replicate 204 none
  statics := none }

def pool6 : Array CpInfo := pool [(1, .class_ 2), (0, u "com/example/ballard/ballard/item/AttributeType"), (0, .fieldref 1 4), (0, .nameAndType 5 6), (0, u "S"), (0, u "Lcom/example/ballard/ballard/item/AttributeType;"), (0, .fieldref 1 8), (0, .nameAndType 9 6), (0, u "N"), (0, .fieldref 1 11), (0, .nameAndType 12 6), (0, u "B"), (2, u "BOOL"), (2, u "NULL"), (2, u "M"), (2, u "L"), (2, u "SS"), (2, u "NS"), (2, u "BS"), (2, u "$VALUES"), (0, u "[Lcom/example/ballard/ballard/item/AttributeType;"), (6, .class_ 46), (1, u "java/lang/Enum"), (32, u "ALL"), (0, u "Ljava/util/List;"), (7, u "isKeyType"), (0, u "()Z")] 5

def k6c0 : Code := { maxStack := 2, maxLocals := 1, code := prog_43_method_4_code, exceptionTable := #[], attributes := #[] }
def k6m0 : Method := { name := "isKeyType", desc := "()Z", sig := { parameters := [], returnType := some .boolean }, accessFlags := 1, code := some k6c0 }
/-- com/example/ballard/ballard/item/AttributeType -/
def k6 : Class := { plain "com/example/ballard/ballard/item/AttributeType" (some 5) with
  accessFlags := 16433
  interfaces := #[]
  cf := some (fileOf pool6 1 #[] #[{ accessFlags := 1, nameIndex := 88, descriptorIndex := 89, attributes := #[] }] 16433 44 #[] #[{ accessFlags := 16409, nameIndex := 5, descriptorIndex := 6, attributes := #[] }, { accessFlags := 16409, nameIndex := 9, descriptorIndex := 6, attributes := #[] }, { accessFlags := 16409, nameIndex := 12, descriptorIndex := 6, attributes := #[] }, { accessFlags := 16409, nameIndex := 15, descriptorIndex := 6, attributes := #[] }, { accessFlags := 16409, nameIndex := 18, descriptorIndex := 6, attributes := #[] }, { accessFlags := 16409, nameIndex := 21, descriptorIndex := 6, attributes := #[] }, { accessFlags := 16409, nameIndex := 24, descriptorIndex := 6, attributes := #[] }, { accessFlags := 16409, nameIndex := 27, descriptorIndex := 6, attributes := #[] }, { accessFlags := 16409, nameIndex := 30, descriptorIndex := 6, attributes := #[] }, { accessFlags := 16409, nameIndex := 33, descriptorIndex := 6, attributes := #[] }, { accessFlags := 25, nameIndex := 79, descriptorIndex := 80, attributes := #[] }, { accessFlags := 4122, nameIndex := 36, descriptorIndex := 37, attributes := #[] }])
  fields := #[{ name := "S", type := (.object "com/example/ballard/ballard/item/AttributeType"), accessFlags := 16409, slot := 0, constantValue := 0 }, { name := "N", type := (.object "com/example/ballard/ballard/item/AttributeType"), accessFlags := 16409, slot := 1, constantValue := 0 }, { name := "B", type := (.object "com/example/ballard/ballard/item/AttributeType"), accessFlags := 16409, slot := 2, constantValue := 0 }, { name := "BOOL", type := (.object "com/example/ballard/ballard/item/AttributeType"), accessFlags := 16409, slot := 3, constantValue := 0 }, { name := "NULL", type := (.object "com/example/ballard/ballard/item/AttributeType"), accessFlags := 16409, slot := 4, constantValue := 0 }, { name := "M", type := (.object "com/example/ballard/ballard/item/AttributeType"), accessFlags := 16409, slot := 5, constantValue := 0 }, { name := "L", type := (.object "com/example/ballard/ballard/item/AttributeType"), accessFlags := 16409, slot := 6, constantValue := 0 }, { name := "SS", type := (.object "com/example/ballard/ballard/item/AttributeType"), accessFlags := 16409, slot := 7, constantValue := 0 }, { name := "NS", type := (.object "com/example/ballard/ballard/item/AttributeType"), accessFlags := 16409, slot := 8, constantValue := 0 }, { name := "BS", type := (.object "com/example/ballard/ballard/item/AttributeType"), accessFlags := 16409, slot := 9, constantValue := 0 }, { name := "ALL", type := (.object "java/util/List"), accessFlags := 25, slot := 10, constantValue := 0 }, { name := "$VALUES", type := (.array (.object "com/example/ballard/ballard/item/AttributeType")), accessFlags := 4122, slot := 11, constantValue := 0 }]
  methods := #[k6m0]
  instanceTypes := #[(.object "java/lang/String"), .int, .int]
  staticTypes := #[(.object "com/example/ballard/ballard/item/AttributeType"), (.object "com/example/ballard/ballard/item/AttributeType"), (.object "com/example/ballard/ballard/item/AttributeType"), (.object "com/example/ballard/ballard/item/AttributeType"), (.object "com/example/ballard/ballard/item/AttributeType"), (.object "com/example/ballard/ballard/item/AttributeType"), (.object "com/example/ballard/ballard/item/AttributeType"), (.object "com/example/ballard/ballard/item/AttributeType"), (.object "com/example/ballard/ballard/item/AttributeType"), (.object "com/example/ballard/ballard/item/AttributeType"), (.object "java/util/List"), (.array (.object "com/example/ballard/ballard/item/AttributeType"))]
  resolved := Array.replicate 95 none
  statics := some 0 }

def pool7 : Array CpInfo := pool [(1, u "java/lang/Cloneable"), (0, .class_ 1), (0, u "java/lang/Object"), (0, .class_ 3)] 3

/-- java/lang/Cloneable -/
def k7 : Class := { plain "java/lang/Cloneable" (some 0) with
  accessFlags := 1537
  interfaces := #[]
  cf := some (fileOf pool7 2 #[] #[] 1537 4 #[] #[])
  fields := #[]
  methods := #[]
  instanceTypes := #[]
  staticTypes := #[]
  resolved := Array.replicate 8 none
  statics := none }

/-- the primitive byte -/
def k8 : Class := { plain "byte" none with kind := .primitive 'B', accessFlags := 0x411 }
/-- [B -/
def k9 : Class := { plain "[B" (some 0) with kind := .array 8 .byte, interfaces := #[7, 4], accessFlags := 1041 }

/-- the primitive int -/
def k10 : Class := { plain "int" none with kind := .primitive 'I', accessFlags := 0x411 }
/-- [I -/
def k11 : Class := { plain "[I" (some 0) with kind := .array 10 .int, interfaces := #[7, 4], accessFlags := 1041 }

def heap : Heap := #[{ cls := 6, slots := #[.ref 1, .ref 2, .ref 3, .ref 4, .ref 5, .ref 6, .ref 7, .ref 8, .ref 9, .ref 10, .null, .null], vm := .statics 6 },
  { cls := 6, slots := #[.null, .int 0, .int 0], vm := .none },
  { cls := 6, slots := #[.null, .int 1, .int 0], vm := .none },
  { cls := 6, slots := #[.null, .int 2, .int 0], vm := .none },
  { cls := 6, slots := #[.null, .int 3, .int 0], vm := .none },
  { cls := 6, slots := #[.null, .int 4, .int 0], vm := .none },
  { cls := 6, slots := #[.null, .int 5, .int 0], vm := .none },
  { cls := 6, slots := #[.null, .int 6, .int 0], vm := .none },
  { cls := 6, slots := #[.null, .int 7, .int 0], vm := .none },
  { cls := 6, slots := #[.null, .int 8, .int 0], vm := .none },
  { cls := 6, slots := #[.null, .int 9, .int 0], vm := .none }]
def classes : Array Class := #[k0, k1, k2, k3, k4, k5, k6, k7, k8, k9, k10, k11]
def interned : List (Array UInt16 × Addr) := []
def slotsUsed : Nat := 42
def theMethod : MethodId := ⟨1, 2⟩
def args0 : Array Value := #[.int 5]
def aboutOver (below : List Frame) : State where
  vm := { classes := classes, interned := interned.toArray }
  heap := heap
  slotsUsed := slotsUsed
  threads := #[{ frames := .invoking theMethod args0 :: below }]
def below0 : List Frame := [.native { method := ⟨0, 0⟩, args := #[] }]
def about1 : State := aboutOver below0
def p0 : Program := .bare "" "" ""
def e0 : Env := launch0.env 0 0 0
theorem w_frames : about1.frames = Frame.invoking theMethod args0 :: below0 := rfl
set_option maxRecDepth 65536 in
theorem w_args : argsFit about1.vm theMethod args0 = true := by decide +kernel
set_option maxRecDepth 65536 in
theorem w_heap : heapFits about1 = true := by decide +kernel
set_option maxRecDepth 65536 in
theorem w_runnable : about1.curStatus? = some .runnable := by decide +kernel
set_option maxRecDepth 65536 in
theorem w_alone : about1.alone = true := by decide +kernel
set_option maxRecDepth 65536 in
theorem w_named : about1.methodNamed? x = some theMethod := by decide +kernel
set_option maxRecDepth 65536 in
theorem w_hears : about1.hears theMethod below0 = true := by decide +kernel
set_option maxRecDepth 65536 in
theorem w_ripe : about1.ripe theMethod args0 below0 = true := by decide +kernel
theorem w_running : about1.status = .running := rfl
set_option maxRecDepth 65536 in
theorem w_room : about1.hasRoom e0.platform room_1 = true :=
  launch0.hasRoom_least _ room_1 (by decide +kernel) (by decide +kernel) (by decide +kernel) (by decide +kernel) (by decide +kernel) (by decide +kernel)
theorem allAtoms_all (ts : List Jvm.Cond) (a : Array Jvm.Value) (st : Jvm.State) : (allAtoms ts).before a st = ts.all (fun c => c.before a st) := by
  induction ts with
  | nil => rfl
  | cons c t ih =>
    show (Jvm.Cond.and c (allAtoms t)).before a st = _
    rw [Jvm.Cond.before_and, ih, List.all_cons]
def words1 : List Jvm.Cond := Jvm.Cond.code x code maxLocals ret :: tables_1
/-- a 'code' word, met by the world's own term for the bytes: nothing is compared byte by byte -/
theorem code_word {y : MethodName} {bytes : ByteArray} {mx : Nat} {rt : Option FieldType} {a : Array Value} {s : State} {m : MethodId} {meth : Method} {c : Code} (h1 : s.methodNamed? y = some m) (h2 : s.vm.method? m = some meth) (h3 : meth.code = some c) (h4 : c.code = bytes)
    (h5 : (c.maxLocals == mx && c.exceptionTable.isEmpty && decide (c.maxStack ≤ mostOperands) && decide (meth.sig.returnType = rt) && !meth.locks && decide (parseMethodDescriptor y.desc = some meth.sig)) = true) : (Jvm.Cond.code y bytes mx rt).before a s = true := by
  simp only [Bool.and_eq_true, beq_iff_eq, Bool.not_eq_true', decide_eq_true_eq] at h5
  obtain ⟨⟨⟨⟨⟨g1, g2⟩, g3⟩, g4⟩, g5⟩, g6⟩ := h5
  simp [Cond.before, Cond.holds, Cond.value, h1, h2, h3, h4, g1, g2, g3, g4, g5, g6]
def isCode : Jvm.Cond → Bool
  | .code _ _ _ _ => true
  | _ => false
theorem all_split {L : List Jvm.Cond} {P : Jvm.Cond → Bool} (h1 : L.all (fun c => isCode c || P c) = true) (h2 : ∀ c ∈ L.filter isCode, P c = true) : L.all P = true := by
  refine List.all_eq_true.mpr fun c hc => ?_
  have h := List.all_eq_true.mp h1 c hc
  rcases Bool.eq_false_or_eq_true (isCode c) with hi | hi
  · exact h2 c (List.mem_filter.mpr ⟨hc, hi⟩)
  · simpa [hi] using h
set_option maxRecDepth 65536 in
theorem w_c0 : (Jvm.Cond.code x code maxLocals ret).before args0 about1 = true := code_word (m := ⟨1, 2⟩) (meth := k1m2) (c := k1c2) (by decide +kernel) rfl rfl rfl (by decide +kernel)
set_option maxRecDepth 65536 in
theorem w_c1 : (Jvm.Cond.code ({ cls := "com/example/ballard/ballard/item/AttributeTypeIsKeyTypePinLaw", name := "pick", desc := "(I)Lcom/example/ballard/ballard/item/AttributeType;" } : Jvm.MethodName) method_2_code (1 : Nat) (Option.some (Jvm.ClassFile.FieldType.object "com/example/ballard/ballard/item/AttributeType"))).before args0 about1 = true := code_word (m := ⟨1, 1⟩) (meth := k1m1) (c := k1c1) (by decide +kernel) rfl rfl rfl (by decide +kernel)
set_option maxRecDepth 65536 in
theorem w_c2 : (Jvm.Cond.code ({ cls := "com/example/ballard/ballard/item/AttributeType", name := "isKeyType", desc := "()Z" } : Jvm.MethodName) prog_43_method_4_code (1 : Nat) (Option.some Jvm.ClassFile.FieldType.boolean)).before args0 about1 = true := code_word (m := ⟨6, 0⟩) (meth := k6m0) (c := k6c0) (by decide +kernel) rfl rfl rfl (by decide +kernel)
def codes1 : List Jvm.Cond := [Jvm.Cond.code x code maxLocals ret, Jvm.Cond.code ({ cls := "com/example/ballard/ballard/item/AttributeTypeIsKeyTypePinLaw", name := "pick", desc := "(I)Lcom/example/ballard/ballard/item/AttributeType;" } : Jvm.MethodName) method_2_code (1 : Nat) (Option.some (Jvm.ClassFile.FieldType.object "com/example/ballard/ballard/item/AttributeType")), Jvm.Cond.code ({ cls := "com/example/ballard/ballard/item/AttributeType", name := "isKeyType", desc := "()Z" } : Jvm.MethodName) prog_43_method_4_code (1 : Nat) (Option.some Jvm.ClassFile.FieldType.boolean)]
set_option maxRecDepth 65536 in
theorem codes_eq : words1.filter isCode = codes1 := rfl
theorem w_codes : ∀ c ∈ words1.filter isCode, c.before args0 about1 = true := by
  rw [codes_eq]
  intro c hc
  simp only [codes1, List.mem_cons, List.not_mem_nil, or_false] at hc
  rcases hc with rfl | rfl | rfl
  · exact w_c0
  · exact w_c1
  · exact w_c2
set_option maxRecDepth 65536 in
theorem w_t1 : (words1.take 24).all (fun c => isCode c || c.before args0 about1) = true := by decide +kernel
set_option maxRecDepth 65536 in
theorem w_t2 : (words1.drop 24).all (fun c => isCode c || c.before args0 about1) = true := by decide +kernel
theorem w_tables : (allAtoms (Jvm.Cond.code x code maxLocals ret :: tables_1)).before args0 about1 = true := by
  rw [allAtoms_all]
  show words1.all (fun c => c.before args0 about1) = true
  refine all_split ?_ w_codes
  rw [← List.take_append_drop 24 words1, List.all_append, w_t1, w_t2]
  rfl
set_option maxRecDepth 65536 in
theorem w_case : (Jvm.Cond.and given_1 narrow_1).before args0 about1 = true := by decide +kernel
theorem w_applies : (headSpec (Jvm.Cond.code x code maxLocals ret :: tables_1) room_1).applies x e0.platform about1 = true :=
  (Spec.applies_iff w_frames).mpr ⟨w_running, w_runnable, w_alone, w_named, w_hears, w_ripe, w_room, w_tables⟩
theorem atStart : AtStart classFile x code maxLocals ret World_1 tables_1 room_1 Calls_1 rest_1 Pre_1 launch0 p0 e0 about1 theMethod args0 below0 :=
  ⟨lists_1, trivial, launch0.admits_env _ _ _, launch0.least_env, fairChoices_fair.cas, fairChoices_fair.clock, w_frames, w_args, w_heap, w_applies, trivial, trivial, w_case⟩
end start1
theorem witness_1 : WitnessClaimed_1 := ⟨start1.p0, start1.e0, start1.about1, start1.theMethod, start1.args0, start1.below0, start1.atStart⟩
end Jvm.Pilot.@@N@@
