import JvmDerived
import JvmDerived.Pilot.@@N@@Statement
import JvmDerived.Pilot.@@N@@Code
set_option linter.unusedVariables false
set_option linter.unusedSimpArgs false
namespace Jvm.RoadKit
open Sem ClassFile Op Lib Jvm.Stand Jvm.Free Jvm.LawKit
section New
variable {p : Program} {l : Launch} {e : Env} {R : Room} {s : State} {m : MethodId} {args : Array Value} {below : List Frame} {meth : Method} {c : Code} {T T' : State} {locs : List Loc} {cells slots : Nat}
theorem retI (X : Stand p l e R s m args below meth c T locs cells slots) (hx : p.tables.exec = Jvm.exec) {pc : Nat} {Ls : Array Slot} {z : Int32} {rest : List Value} (hret : meth.sig.returnType = some .int) (hd : decode c.code pc = .ok (.ireturn, 1)) {fs : List Frame}
    (hl : ∀ (f : JFrame) (acts : List Action), f.method = m → f.locked = none → f.entered = [] → (doReturn e (T.setTop f) acts (some (.int z))).1 = T.setFrames fs) : Steps p.tables e below (T.setTop (mkF m pc Ls (.int z :: rest))) (T.setFrames fs) :=
  retOut X hx hret rfl (Or.inl ⟨rfl, Or.inl rfl, _, rfl⟩) hd hl
theorem retL (X : Stand p l e R s m args below meth c T locs cells slots) (hx : p.tables.exec = Jvm.exec) {pc : Nat} {Ls : Array Slot} {z : Int64} {rest : List Value} (hret : meth.sig.returnType = some .long) (hd : decode c.code pc = .ok (.lreturn, 1)) {fs : List Frame}
    (hl : ∀ (f : JFrame) (acts : List Action), f.method = m → f.locked = none → f.entered = [] → (doReturn e (T.setTop f) acts (some (.long z))).1 = T.setFrames fs) : Steps p.tables e below (T.setTop (mkF m pc Ls (.long z :: rest))) (T.setFrames fs) :=
  retOut X hx hret rfl (Or.inr (Or.inl ⟨rfl, rfl, _, rfl⟩)) hd hl
theorem retA (X : Stand p l e R s m args below meth c T locs cells slots) (hx : p.tables.exec = Jvm.exec) {pc : Nat} {Ls : Array Slot} {w : Value} {t : FieldType} {rest : List Value} (hret : meth.sig.returnType = some t) (ht : t.isReference = true) (hw : w.isRef = true) (hd : decode c.code pc = .ok (.areturn, 1)) {fs : List Frame}
    (hl : ∀ (f : JFrame) (acts : List Action), f.method = m → f.locked = none → f.entered = [] → (doReturn e (T.setTop f) acts (some w)).1 = T.setFrames fs) : Steps p.tables e below (T.setTop (mkF m pc Ls (w :: rest))) (T.setFrames fs) :=
  retOut X hx hret (by rcases ref_cases hw with rfl | ⟨a, rfl⟩ <;> cases t <;> first | rfl | cases ht) (Or.inr (Or.inr (Or.inr (Or.inr ⟨rfl, ht, hw⟩)))) hd hl
/-! the walk by continuations -/
variable {W : State → Prop} {g g' : JFrame}
def Goes (p : Program) (e : Env) (below : List Frame) (W : State → Prop) (T : State) (g : JFrame) : Prop := ∃ t, Steps p.tables e below (T.setTop g) t ∧ W t
def EndW (s : State) (below : List Frame) (Q : Option Value → Heap → List Loc → Prop) (k n : Nat) (t : State) : Prop := t.status = .running ∧ ∃ o, Ended t below o ∧ ∃ v L, o = .returned v ∧ Q v t.heap L ∧ FrameEnd s o t L k n
theorem Goes.on (k : Goes p e below W T' g') (h : ∀ t, Steps p.tables e below (T'.setTop g') t → Steps p.tables e below (T.setTop g) t) : Goes p e below W T g := by
  obtain ⟨t, h1, h2⟩ := k; exact ⟨t, h t h1, h2⟩
theorem Goes.done {Q : Option Value → Heap → List Loc → Prop} {k n : Nat} (h : Goes p e below (EndW s below Q k n) T g) :
    ∃ s₂ o, Steps p.tables e below (T.setTop g) s₂ ∧ s₂.status = .running ∧ Ended s₂ below o ∧ ∃ v L, o = .returned v ∧ Q v s₂.heap L ∧ FrameEnd s o s₂ L k n := by
  obtain ⟨t, h1, h2, o, h3, h4⟩ := h; exact ⟨t, o, h1, h2, h3, h4⟩
theorem Goes.retn {Q : Option Value → Heap → List Loc → Prop} {k n : Nat} (X : Stand p l e R s m args below meth c T locs cells slots) {v : Option Value}
    (st : ∀ fs, (∀ (f : JFrame) (acts : List Action), f.method = m → f.locked = none → f.entered = [] → (doReturn e (T.setTop f) acts v).1 = T.setFrames fs) → Steps p.tables e below (T.setTop g) (T.setFrames fs))
    (hv : meth.sig.returnType = none → v = none) (hlocks : meth.locks = false) (hk : cells ≤ k) (hn : slots ≤ n) (hQ : Q v T.heap locs) : Goes p e below (EndW s below Q k n) T g := by
  obtain ⟨fs, hr, hrun, hended, hW, hsame⟩ := X.leave hv hlocks
  exact ⟨_, st fs hr, hrun, _, hended, _, _, rfl, hQ, ⟨_, rfl⟩, hW, hsame.mono hk hn⟩
theorem cmp_eq (x y : Int32) : if_icmp.holds .eq x y = decide (x = y) := by by_cases h : x = y <;> simp [h, (teq · |>.1), (feq · |>.1)]
theorem cmp_ne (x y : Int32) : if_icmp.holds .ne x y = !decide (x = y) := by by_cases h : x = y <;> simp [h, (teq · |>.2), (feq · |>.2)]
theorem cmp_lt (x y : Int32) : if_icmp.holds .lt x y = decide (x < y) := by simp [if_icmp.holds]
theorem cmp_ge (x y : Int32) : if_icmp.holds .ge x y = !decide (x < y) := by by_cases h : x < y <;> simp [h, (tlt · |>.2.1), (flt · |>.2.1)]
theorem cmp_gt (x y : Int32) : if_icmp.holds .gt x y = decide (y < x) := by by_cases h : y < x <;> simp [h, (tlt · |>.2.2.1), (flt · |>.2.2.1)]
theorem cmp_le (x y : Int32) : if_icmp.holds .le x y = !decide (y < x) := by by_cases h : y < x <;> simp [h, (tlt · |>.2.2.2), (flt · |>.2.2.2)]
theorem ifc_eq (x y : Int32) (h : y = 0 := by rfl) : ifCond.holds .eq x = decide (x = y) := by subst h; rw [if0, cmp_eq]
theorem ifc_ne (x y : Int32) (h : y = 0 := by rfl) : ifCond.holds .ne x = !decide (x = y) := by subst h; rw [if0, cmp_ne]
theorem ifc_lt (x y : Int32) (h : y = 0 := by rfl) : ifCond.holds .lt x = decide (x < y) := by subst h; rw [if0, cmp_lt]
theorem ifc_ge (x y : Int32) (h : y = 0 := by rfl) : ifCond.holds .ge x = !decide (x < y) := by subst h; rw [if0, cmp_ge]
theorem ifc_gt (x y : Int32) (h : y = 0 := by rfl) : ifCond.holds .gt x = decide (y < x) := by subst h; rw [if0, cmp_gt]
theorem ifc_le (x y : Int32) (h : y = 0 := by rfl) : ifCond.holds .le x = !decide (y < x) := by subst h; rw [if0, cmp_le]
theorem Goes.icmpP (X : Stand p l e R s m args below meth c T locs cells slots) (hx : p.tables.exec = Jvm.exec) (hg : g.method = m) {cd : ClassFile.Cond} {o : Int} {x y : Int32} {rest : List Value} {pc0 pc' : Nat} (hpc : g.pc = pc0) (hd : decode c.code g.pc = .ok (.if_icmp cd o, 3)) (hs : g.stack = .int y :: .int x :: rest) (ho : 0 ≤ (pc0 : Int) + o) (hp : ((pc0 : Int) + o).toNat = pc') {P : Prop} [Decidable P] (hP : if_icmp.holds cd x y = decide P)
    (yes : P → Goes p e below W T { g with pc := pc', stack := rest }) (no : ¬ P → Goes p e below W T { g with pc := g.pc + 3, stack := rest }) : Goes p e below W T g := by
  by_cases h : P
  · exact (yes h).on fun t k => XS.icmpYes X.here hx hg hpc hd hs (by rw [hP]; exact decide_eq_true h) ho hp k
  · exact (no h).on fun t k => XS.icmpNo X.here hx hg hd hs (by rw [hP]; exact decide_eq_false h) k
theorem Goes.icmpN (X : Stand p l e R s m args below meth c T locs cells slots) (hx : p.tables.exec = Jvm.exec) (hg : g.method = m) {cd : ClassFile.Cond} {o : Int} {x y : Int32} {rest : List Value} {pc0 pc' : Nat} (hpc : g.pc = pc0) (hd : decode c.code g.pc = .ok (.if_icmp cd o, 3)) (hs : g.stack = .int y :: .int x :: rest) (ho : 0 ≤ (pc0 : Int) + o) (hp : ((pc0 : Int) + o).toNat = pc') {P : Prop} [Decidable P] (hP : if_icmp.holds cd x y = !decide P)
    (yes : ¬ P → Goes p e below W T { g with pc := pc', stack := rest }) (no : P → Goes p e below W T { g with pc := g.pc + 3, stack := rest }) : Goes p e below W T g := by
  by_cases h : P
  · exact (no h).on fun t k => XS.icmpNo X.here hx hg hd hs (by rw [hP, decide_eq_true h]; rfl) k
  · exact (yes h).on fun t k => XS.icmpYes X.here hx hg hpc hd hs (by rw [hP, decide_eq_false h]; rfl) ho hp k
theorem Goes.ifP (X : Stand p l e R s m args below meth c T locs cells slots) (hx : p.tables.exec = Jvm.exec) (hg : g.method = m) {cd : ClassFile.Cond} {o : Int} {x : Int32} {rest : List Value} {pc0 pc' : Nat} (hpc : g.pc = pc0) (hd : decode c.code g.pc = .ok (.ifCond cd o, 3)) (hs : g.stack = .int x :: rest) (ho : 0 ≤ (pc0 : Int) + o) (hp : ((pc0 : Int) + o).toNat = pc') {P : Prop} [Decidable P] (hP : ifCond.holds cd x = decide P)
    (yes : P → Goes p e below W T { g with pc := pc', stack := rest }) (no : ¬ P → Goes p e below W T { g with pc := g.pc + 3, stack := rest }) : Goes p e below W T g := by
  by_cases h : P
  · exact (yes h).on fun t k => XS.ifYes X.here hx hg hpc hd hs (by rw [hP]; exact decide_eq_true h) ho hp k
  · exact (no h).on fun t k => XS.ifNo X.here hx hg hd hs (by rw [hP]; exact decide_eq_false h) k
theorem Goes.ifN (X : Stand p l e R s m args below meth c T locs cells slots) (hx : p.tables.exec = Jvm.exec) (hg : g.method = m) {cd : ClassFile.Cond} {o : Int} {x : Int32} {rest : List Value} {pc0 pc' : Nat} (hpc : g.pc = pc0) (hd : decode c.code g.pc = .ok (.ifCond cd o, 3)) (hs : g.stack = .int x :: rest) (ho : 0 ≤ (pc0 : Int) + o) (hp : ((pc0 : Int) + o).toNat = pc') {P : Prop} [Decidable P] (hP : ifCond.holds cd x = !decide P)
    (yes : ¬ P → Goes p e below W T { g with pc := pc', stack := rest }) (no : P → Goes p e below W T { g with pc := g.pc + 3, stack := rest }) : Goes p e below W T g := by
  by_cases h : P
  · exact (no h).on fun t k => XS.ifNo X.here hx hg hd hs (by rw [hP, decide_eq_true h]; rfl) k
  · exact (yes h).on fun t k => XS.ifYes X.here hx hg hpc hd hs (by rw [hP, decide_eq_false h]; rfl) ho hp k
theorem Goes.acmpR (X : Stand p l e R s m args below meth c T locs cells slots) (hx : p.tables.exec = Jvm.exec) (hg : g.method = m) {cd : ACond} {o : Int} {a b : Addr} {rest : List Value} {pc0 pcE pcN : Nat} (hpc : g.pc = pc0) (hd : decode c.code g.pc = .ok (.if_acmp cd o, 3)) (hs : g.stack = .ref b :: .ref a :: rest) (ho : 0 ≤ (pc0 : Int) + o)
    (hE : pcE = if acV cd true = true then ((pc0 : Int) + o).toNat else pc0 + 3) (hN : pcN = if acV cd false = true then ((pc0 : Int) + o).toNat else pc0 + 3)
    (eq : a = b → Goes p e below W T { g with pc := pcE, stack := rest }) (ne : ¬ a = b → Goes p e below W T { g with pc := pcN, stack := rest }) : Goes p e below W T g := by
  by_cases h : a = b
  · exact (eq h).on fun t k => Jvm.RoadKit.acmp X hx hg rfl rfl hpc hd hs (decide_eq_true (congrArg Value.ref h)) ho hE k
  · exact (ne h).on fun t k => Jvm.RoadKit.acmp X hx hg rfl rfl hpc hd hs (decide_eq_false fun q => h (Value.ref.inj q)) ho hN k
/-! the same where String constants may be loaded cold -/
def EndWW (s : State) (below : List Frame) (Q : Option Value → Heap → List Loc → Prop) (k n : Nat) (t : State) : Prop := t.status = .running ∧ ∃ o, Ended t below o ∧ ∃ v L, o = .returned v ∧ Q v t.heap L ∧ ReturnedEndW s o t L k n
theorem Goes.doneW {Q : Option Value → Heap → List Loc → Prop} {k n : Nat} (h : Goes p e below (EndWW s below Q k n) T g) :
    ∃ s₂ o, Steps p.tables e below (T.setTop g) s₂ ∧ s₂.status = .running ∧ Ended s₂ below o ∧ ∃ v L, o = .returned v ∧ Q v s₂.heap L ∧ ReturnedEndW s o s₂ L k n := by
  obtain ⟨t, h1, h2, o, h3, h4⟩ := h; exact ⟨t, o, h1, h2, h3, h4⟩
theorem Goes.retnW {Q : Option Value → Heap → List Loc → Prop} {k n n1 : Nat} {vm₁ : Vm} (X : Stand p l e R (s.setVm vm₁) m args below meth c T locs cells slots) (hS : s.Since vm₁ n1) (hle : n1 ≤ T.heap.size) {v : Option Value}
    (st : ∀ fs, (∀ (f : JFrame) (acts : List Action), f.method = m → f.locked = none → f.entered = [] → (doReturn e (T.setTop f) acts v).1 = T.setFrames fs) → Steps p.tables e below (T.setTop g) (T.setFrames fs))
    (hv : meth.sig.returnType = none → v = none) (hlocks : meth.locks = false) (hk : cells ≤ k) (hn : slots ≤ n) (hQ : Q v T.heap locs) : Goes p e below (EndWW s below Q k n) T g := by
  obtain ⟨fs, hr, hrun, hended, hW⟩ := X.leaveW hS hle hv hlocks
  exact ⟨_, st fs hr, hrun, _, hended, _, _, rfl, hQ, hW.1, hW.2.1, hW.2.2.1, hW.2.2.2.mono hk hn⟩
end New
end Jvm.RoadKit
namespace Jvm.Pilot.@@N@@
open Jvm Jvm.ClassFile Sem Op Lib Jvm.Free Jvm.Stand Jvm.LawKit Jvm.RoadKit Bundle Jvm.Pilot.@@N@@.Jvm.D
theorem d1_0 : decode prog_73_method_5_code 0 = .ok (.aload_n 0, 1) := by decide +kernel
theorem d1_1 : decode prog_73_method_5_code 1 = .ok (.getstatic 7, 3) := by decide +kernel
theorem d1_4 : decode prog_73_method_5_code 4 = .ok (.if_acmp .ne 7, 3) := by decide +kernel
theorem d1_7 : decode prog_73_method_5_code 7 = .ok (.iconst 1, 1) := by decide +kernel
theorem d1_8 : decode prog_73_method_5_code 8 = .ok (.goto 4, 3) := by decide +kernel
theorem d1_11 : decode prog_73_method_5_code 11 = .ok (.iconst 0, 1) := by decide +kernel
theorem d1_12 : decode prog_73_method_5_code 12 = .ok (.ireturn, 1) := by decide +kernel
theorem d2_0 : decode prog_73_method_4_code 0 = .ok (.aload_n 0, 1) := by decide +kernel
theorem d2_1 : decode prog_73_method_4_code 1 = .ok (.getfield 29, 3) := by decide +kernel
theorem d2_4 : decode prog_73_method_4_code 4 = .ok (.areturn, 1) := by decide +kernel
theorem d3_0 : decode jdk_42_method_66_code 0 = .ok (.aload_n 0, 1) := by decide +kernel
theorem d3_1 : decode jdk_42_method_66_code 1 = .ok (.aload_n 1, 1) := by decide +kernel
theorem d3_2 : decode jdk_42_method_66_code 2 = .ok (.if_acmp .ne 5, 3) := by decide +kernel
theorem d3_5 : decode jdk_42_method_66_code 5 = .ok (.iconst 1, 1) := by decide +kernel
theorem d3_6 : decode jdk_42_method_66_code 6 = .ok (.ireturn, 1) := by decide +kernel
theorem d3_7 : decode jdk_42_method_66_code 7 = .ok (.aload_n 1, 1) := by decide +kernel
theorem d3_8 : decode jdk_42_method_66_code 8 = .ok (.instanceof 10, 3) := by decide +kernel
theorem d3_11 : decode jdk_42_method_66_code 11 = .ok (.ifCond .eq 43, 3) := by decide +kernel
theorem d3_14 : decode jdk_42_method_66_code 14 = .ok (.aload_n 1, 1) := by decide +kernel
theorem d3_15 : decode jdk_42_method_66_code 15 = .ok (.checkcast 10, 3) := by decide +kernel
theorem d3_18 : decode jdk_42_method_66_code 18 = .ok (.astore_n 2, 1) := by decide +kernel
theorem d3_19 : decode jdk_42_method_66_code 19 = .ok (.getstatic 38, 3) := by decide +kernel
theorem d3_22 : decode jdk_42_method_66_code 22 = .ok (.ifCond .eq 14, 3) := by decide +kernel
theorem d3_25 : decode jdk_42_method_66_code 25 = .ok (.aload_n 0, 1) := by decide +kernel
theorem d3_26 : decode jdk_42_method_66_code 26 = .ok (.getfield 15, 3) := by decide +kernel
theorem d3_29 : decode jdk_42_method_66_code 29 = .ok (.aload_n 2, 1) := by decide +kernel
theorem d3_30 : decode jdk_42_method_66_code 30 = .ok (.getfield 15, 3) := by decide +kernel
theorem d3_33 : decode jdk_42_method_66_code 33 = .ok (.if_icmp .ne 21, 3) := by decide +kernel
theorem d3_36 : decode jdk_42_method_66_code 36 = .ok (.aload_n 0, 1) := by decide +kernel
theorem d3_37 : decode jdk_42_method_66_code 37 = .ok (.getfield 9, 3) := by decide +kernel
theorem d3_40 : decode jdk_42_method_66_code 40 = .ok (.aload_n 2, 1) := by decide +kernel
theorem d3_41 : decode jdk_42_method_66_code 41 = .ok (.getfield 9, 3) := by decide +kernel
theorem d3_44 : decode jdk_42_method_66_code 44 = .ok (.invokestatic 541, 3) := by decide +kernel
theorem d3_47 : decode jdk_42_method_66_code 47 = .ok (.ifCond .eq 7, 3) := by decide +kernel
theorem d3_50 : decode jdk_42_method_66_code 50 = .ok (.iconst 1, 1) := by decide +kernel
theorem d3_51 : decode jdk_42_method_66_code 51 = .ok (.goto 4, 3) := by decide +kernel
theorem d3_54 : decode jdk_42_method_66_code 54 = .ok (.iconst 0, 1) := by decide +kernel
theorem d3_55 : decode jdk_42_method_66_code 55 = .ok (.ireturn, 1) := by decide +kernel
theorem d4_0 : decode jdk_43_method_13_code 0 = .ok (.aload_n 0, 1) := by decide +kernel
theorem d4_1 : decode jdk_43_method_13_code 1 = .ok (.arraylength, 1) := by decide +kernel
theorem d4_2 : decode jdk_43_method_13_code 2 = .ok (.aload_n 1, 1) := by decide +kernel
theorem d4_3 : decode jdk_43_method_13_code 3 = .ok (.arraylength, 1) := by decide +kernel
theorem d4_4 : decode jdk_43_method_13_code 4 = .ok (.if_icmp .ne 30, 3) := by decide +kernel
theorem d4_7 : decode jdk_43_method_13_code 7 = .ok (.iconst 0, 1) := by decide +kernel
theorem d4_8 : decode jdk_43_method_13_code 8 = .ok (.istore_n 2, 1) := by decide +kernel
theorem d4_9 : decode jdk_43_method_13_code 9 = .ok (.iload_n 2, 1) := by decide +kernel
theorem d4_10 : decode jdk_43_method_13_code 10 = .ok (.aload_n 0, 1) := by decide +kernel
theorem d4_11 : decode jdk_43_method_13_code 11 = .ok (.arraylength, 1) := by decide +kernel
theorem d4_12 : decode jdk_43_method_13_code 12 = .ok (.if_icmp .ge 20, 3) := by decide +kernel
theorem d4_15 : decode jdk_43_method_13_code 15 = .ok (.aload_n 0, 1) := by decide +kernel
theorem d4_16 : decode jdk_43_method_13_code 16 = .ok (.iload_n 2, 1) := by decide +kernel
theorem d4_17 : decode jdk_43_method_13_code 17 = .ok (.baload, 1) := by decide +kernel
theorem d4_18 : decode jdk_43_method_13_code 18 = .ok (.aload_n 1, 1) := by decide +kernel
theorem d4_19 : decode jdk_43_method_13_code 19 = .ok (.iload_n 2, 1) := by decide +kernel
theorem d4_20 : decode jdk_43_method_13_code 20 = .ok (.baload, 1) := by decide +kernel
theorem d4_21 : decode jdk_43_method_13_code 21 = .ok (.if_icmp .eq 5, 3) := by decide +kernel
theorem d4_24 : decode jdk_43_method_13_code 24 = .ok (.iconst 0, 1) := by decide +kernel
theorem d4_25 : decode jdk_43_method_13_code 25 = .ok (.ireturn, 1) := by decide +kernel
theorem d4_26 : decode jdk_43_method_13_code 26 = .ok (.iinc 2 1, 3) := by decide +kernel
theorem d4_29 : decode jdk_43_method_13_code 29 = .ok (.goto (-20), 3) := by decide +kernel
theorem d4_32 : decode jdk_43_method_13_code 32 = .ok (.iconst 1, 1) := by decide +kernel
theorem d4_33 : decode jdk_43_method_13_code 33 = .ok (.ireturn, 1) := by decide +kernel
theorem d4_34 : decode jdk_43_method_13_code 34 = .ok (.iconst 0, 1) := by decide +kernel
theorem d4_35 : decode jdk_43_method_13_code 35 = .ok (.ireturn, 1) := by decide +kernel
theorem pn_0 : plainName "java/lang/StringLatin1" = true := by first | (simp [plainName, overriddenIn]; done) | decide +kernel
theorem pn_1 : plainName "java/lang/String" = true := by first | (simp [plainName, overriddenIn]; done) | decide +kernel
theorem pd_0 : parseMethodDescriptor "([B[B)Z" = some ⟨[(.array .byte), (.array .byte)], some .boolean⟩ := by decide +kernel
theorem pn_2 : plainName "com/example/syndic/syndic/terms/CdAdjustment" = true := by first | (simp [plainName, overriddenIn]; done) | decide +kernel
theorem pn_3 : plainName "com/example/syndic/syndic/terms/CdAdjustmentAddsAssessmentPinLaw" = true := by first | (simp [plainName, overriddenIn]; done) | decide +kernel
theorem pd_1 : parseMethodDescriptor "()Z" = some ⟨[], some .boolean⟩ := by decide +kernel
theorem pd_2 : parseMethodDescriptor "()Ljava/lang/String;" = some ⟨[], some (.object "java/lang/String")⟩ := by decide +kernel
theorem pd_3 : parseMethodDescriptor "(Ljava/lang/Object;)Z" = some ⟨[(.object "java/lang/Object")], some .boolean⟩ := by decide +kernel
theorem own_nat {n : Nat} (h : n < 2147483648) : (Int32.ofNat n).toInt = n := Int32.toInt_ofNat_small h
theorem own_clamp {n : Nat} (h : n < 2147483648) : (Int32.ofNat n).toNatClampNeg = n := by simp only [Int32.toNatClampNeg, own_nat h]; rfl
theorem own_nlt {i n : Nat} (hi : i < 2147483648) (hn : n < 2147483648) : Int32.ofNat i < Int32.ofNat n ↔ i < n := by rw [Int32.lt_iff_toInt_lt, own_nat hi, own_nat hn]; omega
theorem own_ninj {i n : Nat} (hi : i < 2147483648) (hn : n < 2147483648) : Int32.ofNat i = Int32.ofNat n ↔ i = n := by rw [← Int32.toInt_inj, own_nat hi, own_nat hn]; omega
theorem own_succ {i : Nat} : Int32.ofNat i + (1 : Int32) = Int32.ofNat (i + 1) := by rw [Int32.ofNat_add]; rfl
theorem own_nn {n : Nat} (h : n < 2147483648) : ¬ Int32.ofNat n < 0 := by rw [Int32.lt_iff_toInt_lt, own_nat h]; show ¬ (n : Int) < 0; omega
theorem own_bget (bs : List Int32) (j : Nat) : (bs.map Value.int).getD j (.int 0) = .int (bs.getD j 0) := by
  simp only [List.getD_eq_getElem?_getD, List.getElem?_map]
  cases bs[j]? <;> rfl
theorem own_bext {bs ds : List Int32} (hl : bs.length = ds.length) (h : ∀ j, j < bs.length → bs.getD j 0 = ds.getD j 0) : bs = ds := by
  apply List.ext_getElem hl
  intro j h1 h2
  have q := h j h1
  simp only [List.getD_eq_getElem?_getD, List.getElem?_eq_getElem h1, List.getElem?_eq_getElem h2, Option.getD_some] at q
  exact q
/-- a Latin-1 String: its class, coder, value array, and the bytes in it -/
def Lat (Z : State) (h : Heap) (x : Addr) (t : Addr) (kb : ClassId) (bs : List Int32) : Prop := Exa Z h x "java/lang/String" ∧ Fld Z h x "java/lang/String" "coder" "B" (.int (0 : Int32)) ∧ Fld Z h x "java/lang/String" "value" "[B" (.ref t) ∧ Arv Z h t kb .byte (Int32.ofNat bs.length) (bs.map Value.int) (.int 0) ∧ bs.length ≤ 4000
theorem own_arveq {Z : State} {h : Heap} {t : Addr} {kb kb' : ClassId} {bs ds : List Int32} (K : Arv Z h t kb .byte (Int32.ofNat bs.length) (bs.map Value.int) (.int 0)) (K' : Arv Z h t kb' .byte (Int32.ofNat ds.length) (ds.map Value.int) (.int 0)) (l1 : bs.length ≤ 4000) (l2 : ds.length ≤ 4000) : bs = ds := by
  obtain ⟨c1, A1, -, S1, -, H1, -⟩ := K
  obtain ⟨c2, A2, -, S2, -, H2, -⟩ := K'
  cases A1.1.symm.trans A2.1
  rw [own_clamp (by omega)] at S1 S2
  refine own_bext (S1.symm.trans S2) fun j hj => ?_
  have q := (H1 j (by omega)).symm.trans (H2 j (by omega))
  rw [own_bget, own_bget] at q
  simpa using q
theorem Lat.same {Z : State} {h : Heap} {x t t' : Addr} {kb kb' : ClassId} {bs ds : List Int32} (A : Lat Z h x t kb bs) (B : Lat Z h x t' kb' ds) : bs = ds := by
  by_cases q : t = t'
  · subst q; exact own_arveq A.2.2.2.1 B.2.2.2.1 A.2.2.2.2 B.2.2.2.2
  · exact absurd rfl (A.2.2.1.ne B.2.2.1 (fun e => q (Value.ref.inj e)))
theorem Lat.ext {Z : State} {h h' : Heap} {x t : Addr} {kb : ClassId} {bs : List Int32} (A : Lat Z h x t kb bs) (E : Ext h h') : Lat Z h' x t kb bs := ⟨A.1.ext E, A.2.1.ext E, A.2.2.1.ext E, A.2.2.2.1.ext E, A.2.2.2.2⟩
theorem Lat.keep {Z : State} {h h' : Heap} {x t : Addr} {kb : ClassId} {bs : List Int32} {ws : List Addr} (A : Lat Z h x t kb bs) (K : Keep h h' ws) (q1 : x ∉ ws) (q2 : t ∉ ws) : Lat Z h' x t kb bs := ⟨A.1.keep K, A.2.1.keep K q1, A.2.2.1.keep K q1, A.2.2.2.1.keep K q2, A.2.2.2.2⟩
theorem own_ord {Z : State} {args : Array Value} {t : Term} {a : Addr} {k : Int32} (ev : t.eval args Z none [] Z = some (.ref a)) (h : (Cond.eq (Term.field t "java/lang/Enum" "ordinal" "I") (Term.int k)).value args Z none Z [] = some true) : Fld Z Z.heap a "java/lang/Enum" "ordinal" "I" (.int k) := by
  obtain ⟨x, y, h1, h2, h3, h4⟩ := cmp_v (Or.inl h)
  cases (Term.int_eval k).symm.trans h2
  obtain ⟨z, rfl⟩ := h4
  have e := gotT (Cond.eq_ints h1 (Term.int_eval k)) h
  subst e
  rw [fld_at ev] at h1
  exact Fld.start h1
theorem own_eqi {Z : State} {args : Array Value} {t : Term} {k : Int32} (h : (Cond.eq t (Term.int k)).value args Z none Z [] = some true) : t.eval args Z none [] Z = some (.int k) := by
  obtain ⟨x, y, h1, h2, h3, h4⟩ := cmp_v (Or.inl h)
  cases (Term.int_eval k).symm.trans h2
  obtain ⟨z, rfl⟩ := h4
  have e := gotT (Cond.eq_ints h1 (Term.int_eval k)) h
  subst e; exact h1
/-- the words on an array's components, one after the other -/
def own_els (Z : State) (args : Array Value) (t : Term) : Nat → List Int32 → Prop
  | _, [] => True
  | i, b :: r => (Cond.eq (Term.elem t (Term.int (Int32.ofNat i))) (Term.int b)).value args Z none Z [] = some true ∧ own_els Z args t (i + 1) r
theorem own_hasl {Z : State} {args : Array Value} {t : Term} {a : Addr} {cl : Cell} (ev : t.eval args Z none [] Z = some (.ref a)) (hc : Z.heap[a]? = some cl) : ∀ (bs : List Int32) (i : Nat), i + bs.length < 2147483648 → own_els Z args t i bs → HasL cl i (bs.map Value.int)
  | [], _, _, _ => trivial
  | b :: r, i, hl, h => by
    refine ⟨?_, own_hasl ev hc r (i + 1) (by simp at hl ⊢; omega) h.2⟩
    have q := (elem_in (own_eqi h.1) ev (Term.int_eval _) hc).2
    rw [own_clamp (by simp at hl; omega)] at q
    exact q
theorem own_lat {Z : State} {args : Array Value} {t : Term} {x : Addr} (hf : Fit Z) (ev : t.eval args Z none [] Z = some (.ref x)) (hx : (Cond.exactly t "java/lang/String").value args Z none Z [] = some true)
    (hc : (Cond.eq (Term.field t "java/lang/String" "coder" "B") (Term.int 0)).value args Z none Z [] = some true) (hv : (Cond.arrayOf (Term.field t "java/lang/String" "value" "[B") .byte).value args Z none Z [] = some true)
    {bs : List Int32} (hb : bs.length ≤ 4000) (hl : (Cond.eq (Term.length (Term.field t "java/lang/String" "value" "[B")) (Term.int (Int32.ofNat bs.length))).value args Z none Z [] = some true)
    (he : own_els Z args (Term.field t "java/lang/String" "value" "[B") 0 bs) : ∃ tt kb, Lat Z Z.heap x tt kb bs := by
  obtain ⟨tt, ett⟩ := arr_v hv
  obtain ⟨cl, A⟩ := Arr.start ett hv
  have hlen := own_eqi hl
  have hat := A.fin (Vm.Alike.refl _)
  have h31 : cl.slots.size < 2 ^ 31 := Jvm.Free.SBG.length_lt ett hat hlen
  have hz : cl.slots.size.toInt32 = Int32.ofNat bs.length := by
    have q := (len_f ett hat h31).symm.trans hlen
    simpa using q
  refine ⟨tt, cl.cls, Exa.start ev hx, Fld.start ((fld_at ev).symm.trans (own_eqi hc)), Fld.start ((fld_at ev).symm.trans ett), Arv.start hf A h31 hz (own_nn (by omega)) (by rw [own_clamp (by omega)]; simp) (own_hasl ett A.1 bs 0 (by omega) he), hb⟩
def QLE (Z : State) (t t' : Addr) (bs ds : List Int32) (h0 : Heap) (n0 : Nat) (v : Option Value) (h : Heap) (L : List Loc) : Prop := v = some (.int (if bs = ds then 1 else 0)) ∧ Fr n0 L ∧ h = h0
set_option maxRecDepth 65536 in
set_option maxHeartbeats 40000000 in
theorem rmLE (l : Launch) (Z : State) (a0 : Array Value) (hw : ∀ d ∈ tables_1, d.before a0 Z = true) (ws : List Jvm.Cond) (t t' : Addr) (kb kb' : ClassId) (bs ds : List Int32) (h0 : Heap) (n0 : Nat) (Z0 : n0 ≤ h0.size) (K : Arv Z h0 t kb .byte (Int32.ofNat bs.length) (bs.map Value.int) (.int 0)) (K' : Arv Z h0 t' kb' .byte (Int32.ofNat ds.length) (ds.map Value.int) (.int 0)) (l1 : bs.length ≤ 4000) (l2 : ds.length ≤ 4000) :
    MetFree l (⟨"java/lang/StringLatin1", "equals", "([B[B)Z"⟩ : MethodName) (head1 (Jvm.Cond.code (⟨"java/lang/StringLatin1", "equals", "([B[B)Z"⟩ : MethodName) jdk_43_method_13_code 3 (some .boolean) :: ws) ({ frames := 0, cells := 0, slots := 0, locals := 0 } : Room)) (fun a_ U => a_ = #[(.ref t), (.ref t')] ∧ Z.Warmed39 U.vm ∧ U.heap = h0) (fun _ _ _ _ _ => True) (fun _ U o U' => ∃ v L, o = .returned v ∧ QLE Z t t' bs ds h0 n0 v U'.heap L ∧ FrameEnd U o U' L ({ frames := 0, cells := 0, slots := 0, locals := 0 } : Room).cells ({ frames := 0, cells := 0, slots := 0, locals := 0 } : Room).slots) := by
  refine MetFree.of_bodySF (plainFor_of_name pn_0) hisR ?_
  intro p e s m args below meth c s₁ Bd hml0 hP hK
  obtain ⟨rfl, hZ, hh⟩ := hP
  have hx := Bd.exec
  have hby := Bd.bytes
  have hml : c.maxLocals = 3 := hml0
  have hown : s.vm.findClass "java/lang/StringLatin1" = some m.cls := findClass_of_methodNamed Bd.named
  have hnm := (name_of_methodNamed Bd.named Bd.method).1
  have X0 : Stand p l e ({ frames := 0, cells := 0, slots := 0, locals := 0 } : Room) s m #[(.ref t), (.ref t')] below meth c s₁ [] 0 0 := Stand.of_body Bd
  have e0 : s₁.heap = h0 := by rw [← hh, Bd.state]; rfl
  have N0 := Fr.nil n0
  refine Goes.done ?_
  obtain ⟨W, hWd⟩ : ∃ W : State → Prop, W = EndW s below (QLE Z t t' bs ds h0 n0) ({ frames := 0, cells := 0, slots := 0, locals := 0 } : Room).cells ({ frames := 0, cells := 0, slots := 0, locals := 0 } : Room).slots := ⟨_, rfl⟩
  rw [← hWd]
  have hef : entryFrame m #[(.ref t), (.ref t')] 3 = (mkF m 0 #[.val (.ref t), .val (.ref t'), .unset] []) := by first | (simp [entryFrame, mkF, argsToLocals, Value.category]; done) | rfl
  rw [hef]
  obtain ⟨c1, A1, -, S1, M1, H1, -⟩ := K
  obtain ⟨c2, A2, -, S2, M2, H2, -⟩ := K'
  have S1n : c1.slots.size = bs.length := by rw [S1, own_clamp (by omega)]
  have S2n : c2.slots.size = ds.length := by rw [S2, own_clamp (by omega)]
  have K9 : bs.length = ds.length → ∀ d i : Nat, i + d = bs.length → (∀ j, j < i → bs.getD j 0 = ds.getD j 0) → Goes p e below W s₁ (mkF m 9 #[.val (.ref t), .val (.ref t'), .val (.int (Int32.ofNat i))] []) := by
    intro hln d
    induction d with
    | zero =>
      intro i hi hpre
      have hge : ¬ (Int32.ofNat i < Int32.ofNat bs.length) := by rw [own_nlt (by omega) (by omega)]; omega
      refine Goes.on (T' := s₁) (g' := (mkF m 10 #[.val (.ref t), .val (.ref t'), .val (.int (Int32.ofNat i))] [(.int (Int32.ofNat i))])) ?_ (fun t_ k_ => XS.iloadN X0.here hx rfl (hb hby d4_9) rfl k_)
      refine Goes.on (T' := s₁) (g' := (mkF m 11 #[.val (.ref t), .val (.ref t'), .val (.int (Int32.ofNat i))] [(.ref t), (.int (Int32.ofNat i))])) ?_ (fun t_ k_ => XS.aloadN X0.here hx rfl (hb hby d4_10) rfl rfl k_)
      refine Goes.on (T' := s₁) (g' := (mkF m 12 #[.val (.ref t), .val (.ref t'), .val (.int (Int32.ofNat i))] [(.int c1.slots.size.toInt32), (.int (Int32.ofNat i))])) ?_ (X0.arraylength hx (by rw [e0]; exact A1.1) (State.isArrayOf_alike hZ.alike A1.2.1) (g := (mkF m 11 #[.val (.ref t), .val (.ref t'), .val (.int (Int32.ofNat i))] [(.ref t), (.int (Int32.ofNat i))])) rfl rfl (hb hby d4_11))
      rw [len_of S1 M1]
      refine Goes.on (T' := s₁) (g' := (mkF m 32 #[.val (.ref t), .val (.ref t'), .val (.int (Int32.ofNat i))] [])) ?_ (fun t_ k_ => XS.icmpYes X0.here hx rfl (pc0 := 12) (pc' := 32) rfl (hb hby d4_12) rfl (flt hge).2.1 (by decide) (by decide) k_)
      refine Goes.on (T' := s₁) (g' := (mkF m 33 #[.val (.ref t), .val (.ref t'), .val (.int (Int32.ofNat i))] [(.int (1 : Int32))])) ?_ (fun t_ k_ => XS.iconst X0.here hx rfl (hb hby d4_32) k_)
      rw [hWd]
      exact Goes.retn X0 (v := some (.int (nar .boolean (1 : Int32)))) (fun fs hr => retN X0 hx (t := .boolean) Bd.returns (by simp) (hb hby d4_33) hr) (fun h => by rw [Bd.returns] at h; cases h) Bd.notSynchronized (by decide) (by decide) (by rw [e0]; exact ⟨by rw [if_pos (own_bext hln (fun j hj => hpre j (by omega)))]; rfl, N0, rfl⟩)
    | succ d ih =>
      intro i hi hpre
      have hlt : Int32.ofNat i < Int32.ofNat bs.length := by rw [own_nlt (by omega) (by omega)]; omega
      have hc : (Int32.ofNat i).toNatClampNeg = i := own_clamp (by omega)
      have in1 : ¬ ((Int32.ofNat i) < 0 ∨ c1.slots.size ≤ (Int32.ofNat i).toNatClampNeg) := by rw [hc, S1n]; intro q; rcases q with q | q; exact own_nn (by omega) q; omega
      have in2 : ¬ ((Int32.ofNat i) < 0 ∨ c2.slots.size ≤ (Int32.ofNat i).toNatClampNeg) := by rw [hc, S2n]; intro q; rcases q with q | q; exact own_nn (by omega) q; omega
      have at1 : c1.slots[(Int32.ofNat i).toNatClampNeg]? = some (.int (bs.getD i 0)) := by rw [hc, H1 i (by omega), own_bget]
      have at2 : c2.slots[(Int32.ofNat i).toNatClampNeg]? = some (.int (ds.getD i 0)) := by rw [hc, H2 i (by omega), own_bget]
      refine Goes.on (T' := s₁) (g' := (mkF m 10 #[.val (.ref t), .val (.ref t'), .val (.int (Int32.ofNat i))] [(.int (Int32.ofNat i))])) ?_ (fun t_ k_ => XS.iloadN X0.here hx rfl (hb hby d4_9) rfl k_)
      refine Goes.on (T' := s₁) (g' := (mkF m 11 #[.val (.ref t), .val (.ref t'), .val (.int (Int32.ofNat i))] [(.ref t), (.int (Int32.ofNat i))])) ?_ (fun t_ k_ => XS.aloadN X0.here hx rfl (hb hby d4_10) rfl rfl k_)
      refine Goes.on (T' := s₁) (g' := (mkF m 12 #[.val (.ref t), .val (.ref t'), .val (.int (Int32.ofNat i))] [(.int c1.slots.size.toInt32), (.int (Int32.ofNat i))])) ?_ (X0.arraylength hx (by rw [e0]; exact A1.1) (State.isArrayOf_alike hZ.alike A1.2.1) (g := (mkF m 11 #[.val (.ref t), .val (.ref t'), .val (.int (Int32.ofNat i))] [(.ref t), (.int (Int32.ofNat i))])) rfl rfl (hb hby d4_11))
      rw [len_of S1 M1]
      refine Goes.on (T' := s₁) (g' := (mkF m 15 #[.val (.ref t), .val (.ref t'), .val (.int (Int32.ofNat i))] [])) ?_ (fun t_ k_ => XS.icmpNo X0.here hx rfl (hb hby d4_12) rfl (tlt hlt).2.1 k_)
      refine Goes.on (T' := s₁) (g' := (mkF m 16 #[.val (.ref t), .val (.ref t'), .val (.int (Int32.ofNat i))] [(.ref t)])) ?_ (fun t_ k_ => XS.aloadN X0.here hx rfl (hb hby d4_15) rfl rfl k_)
      refine Goes.on (T' := s₁) (g' := (mkF m 17 #[.val (.ref t), .val (.ref t'), .val (.int (Int32.ofNat i))] [(.int (Int32.ofNat i)), (.ref t)])) ?_ (fun t_ k_ => XS.iloadN X0.here hx rfl (hb hby d4_16) rfl k_)
      refine Goes.on (T' := s₁) (g' := (mkF m 18 #[.val (.ref t), .val (.ref t'), .val (.int (Int32.ofNat i))] [(.int (bs.getD i 0))])) ?_ (X0.baloadBytes hx (j := (Int32.ofNat i)) (v := (.int (bs.getD i 0))) (by rw [e0]; exact A1.1) (State.isArrayOf_alike hZ.alike A1.2.1) A1.2.2 in1 at1 (g := (mkF m 17 #[.val (.ref t), .val (.ref t'), .val (.int (Int32.ofNat i))] [(.int (Int32.ofNat i)), (.ref t)])) rfl rfl (hb hby d4_17))
      refine Goes.on (T' := s₁) (g' := (mkF m 19 #[.val (.ref t), .val (.ref t'), .val (.int (Int32.ofNat i))] [(.ref t'), (.int (bs.getD i 0))])) ?_ (fun t_ k_ => XS.aloadN X0.here hx rfl (hb hby d4_18) rfl rfl k_)
      refine Goes.on (T' := s₁) (g' := (mkF m 20 #[.val (.ref t), .val (.ref t'), .val (.int (Int32.ofNat i))] [(.int (Int32.ofNat i)), (.ref t'), (.int (bs.getD i 0))])) ?_ (fun t_ k_ => XS.iloadN X0.here hx rfl (hb hby d4_19) rfl k_)
      refine Goes.on (T' := s₁) (g' := (mkF m 21 #[.val (.ref t), .val (.ref t'), .val (.int (Int32.ofNat i))] [(.int (ds.getD i 0)), (.int (bs.getD i 0))])) ?_ (X0.baloadBytes hx (j := (Int32.ofNat i)) (v := (.int (ds.getD i 0))) (by rw [e0]; exact A2.1) (State.isArrayOf_alike hZ.alike A2.2.1) A2.2.2 in2 at2 (g := (mkF m 20 #[.val (.ref t), .val (.ref t'), .val (.int (Int32.ofNat i))] [(.int (Int32.ofNat i)), (.ref t'), (.int (bs.getD i 0))])) rfl rfl (hb hby d4_20))
      refine Goes.icmpP X0 hx rfl (pc0 := 21) (pc' := 26) rfl (hb hby d4_21) rfl (by decide) (by decide) (P := (bs.getD i 0) = (ds.getD i 0)) (cmp_eq _ _) (fun hc21 => ?_) (fun hc21 => ?_)
      · show Goes p e below W s₁ (mkF m 26 #[.val (.ref t), .val (.ref t'), .val (.int (Int32.ofNat i))] [])
        refine Goes.on (T' := s₁) (g' := (mkF m 29 #[.val (.ref t), .val (.ref t'), .val (.int ((Int32.ofNat i) + (1 : Int32)))] [])) ?_ (fun t_ k_ => XS.iinc X0.here hx rfl (hb hby d4_26) rfl (l' := #[.val (.ref t), .val (.ref t'), .val (.int ((Int32.ofNat i) + (1 : Int32)))]) rfl k_)
        refine Goes.on (T' := s₁) (g' := (mkF m 9 #[.val (.ref t), .val (.ref t'), .val (.int ((Int32.ofNat i) + (1 : Int32)))] [])) ?_ (fun t_ k_ => XS.goto X0.here hx rfl (pc0 := 29) (pc' := 9) rfl (hb hby d4_29) (by decide) (by decide) k_)
        rw [own_succ]
        exact ih (i + 1) (by omega) (fun j hj => by rcases Nat.lt_succ_iff_lt_or_eq.mp hj with q | q; exact hpre j q; rw [q]; exact hc21)
      · show Goes p e below W s₁ (mkF m 24 #[.val (.ref t), .val (.ref t'), .val (.int (Int32.ofNat i))] [])
        refine Goes.on (T' := s₁) (g' := (mkF m 25 #[.val (.ref t), .val (.ref t'), .val (.int (Int32.ofNat i))] [(.int (0 : Int32))])) ?_ (fun t_ k_ => XS.iconst X0.here hx rfl (hb hby d4_24) k_)
        rw [hWd]
        exact Goes.retn X0 (v := some (.int (nar .boolean (0 : Int32)))) (fun fs hr => retN X0 hx (t := .boolean) Bd.returns (by simp) (hb hby d4_25) hr) (fun h => by rw [Bd.returns] at h; cases h) Bd.notSynchronized (by decide) (by decide) (by rw [e0]; exact ⟨by rw [if_neg (fun q => hc21 (by rw [q]))]; rfl, N0, rfl⟩)
  refine Goes.on (T' := s₁) (g' := (mkF m 1 #[.val (.ref t), .val (.ref t'), .unset] [(.ref t)])) ?_ (fun t_ k_ => XS.aloadN X0.here hx rfl (hb hby d4_0) rfl rfl k_)
  refine Goes.on (T' := s₁) (g' := (mkF m 2 #[.val (.ref t), .val (.ref t'), .unset] [(.int c1.slots.size.toInt32)])) ?_ (X0.arraylength hx (by rw [e0]; exact A1.1) (State.isArrayOf_alike hZ.alike A1.2.1) (g := (mkF m 1 #[.val (.ref t), .val (.ref t'), .unset] [(.ref t)])) rfl rfl (hb hby d4_1))
  rw [len_of S1 M1]
  refine Goes.on (T' := s₁) (g' := (mkF m 3 #[.val (.ref t), .val (.ref t'), .unset] [(.ref t'), (.int (Int32.ofNat bs.length))])) ?_ (fun t_ k_ => XS.aloadN X0.here hx rfl (hb hby d4_2) rfl rfl k_)
  refine Goes.on (T' := s₁) (g' := (mkF m 4 #[.val (.ref t), .val (.ref t'), .unset] [(.int c2.slots.size.toInt32), (.int (Int32.ofNat bs.length))])) ?_ (X0.arraylength hx (by rw [e0]; exact A2.1) (State.isArrayOf_alike hZ.alike A2.2.1) (g := (mkF m 3 #[.val (.ref t), .val (.ref t'), .unset] [(.ref t'), (.int (Int32.ofNat bs.length))])) rfl rfl (hb hby d4_3))
  rw [len_of S2 M2]
  refine Goes.icmpN X0 hx rfl (pc0 := 4) (pc' := 34) rfl (hb hby d4_4) rfl (by decide) (by decide) (P := (Int32.ofNat bs.length) = (Int32.ofNat ds.length)) (cmp_ne _ _) (fun hc4 => ?_) (fun hc4 => ?_)
  · show Goes p e below W s₁ (mkF m 34 #[.val (.ref t), .val (.ref t'), .unset] [])
    refine Goes.on (T' := s₁) (g' := (mkF m 35 #[.val (.ref t), .val (.ref t'), .unset] [(.int (0 : Int32))])) ?_ (fun t_ k_ => XS.iconst X0.here hx rfl (hb hby d4_34) k_)
    rw [hWd]
    exact Goes.retn X0 (v := some (.int (nar .boolean (0 : Int32)))) (fun fs hr => retN X0 hx (t := .boolean) Bd.returns (by simp) (hb hby d4_35) hr) (fun h => by rw [Bd.returns] at h; cases h) Bd.notSynchronized (by decide) (by decide) (by rw [e0]; exact ⟨by rw [if_neg (fun q => hc4 (by rw [q]))]; rfl, N0, rfl⟩)
  · show Goes p e below W s₁ (mkF m 7 #[.val (.ref t), .val (.ref t'), .unset] [])
    refine Goes.on (T' := s₁) (g' := (mkF m 8 #[.val (.ref t), .val (.ref t'), .unset] [(.int (0 : Int32))])) ?_ (fun t_ k_ => XS.iconst X0.here hx rfl (hb hby d4_7) k_)
    refine Goes.on (T' := s₁) (g' := (mkF m 9 #[.val (.ref t), .val (.ref t'), .val (.int (0 : Int32))] [])) ?_ (fun t_ k_ => XS.istoreN X0.here hx rfl (hb hby d4_8) rfl (l' := #[.val (.ref t), .val (.ref t'), .val (.int (0 : Int32))]) rfl k_)
    have hln : bs.length = ds.length := (own_ninj (by omega) (by omega)).mp hc4
    exact K9 hln bs.length 0 (by omega) (fun j hj => absurd hj (Nat.not_lt_zero j))
def QSE (Z : State) (x y : Addr) (bs ds : List Int32) (h0 : Heap) (n0 : Nat) (v : Option Value) (h : Heap) (L : List Loc) : Prop := v = some (.int (if bs = ds then 1 else 0)) ∧ Fr n0 L ∧ h = h0
set_option maxRecDepth 65536 in
set_option maxHeartbeats 40000000 in
theorem rmSE (l : Launch) (Z : State) (a0 : Array Value) (hw : ∀ d ∈ tables_1, d.before a0 Z = true) (ws : List Jvm.Cond) (x y t t' : Addr) (kb kb' : ClassId) (bs ds : List Int32) (cz : Int32) (h0 : Heap) (n0 : Nat) (Z0 : n0 ≤ h0.size) (A : Lat Z h0 x t kb bs) (B : Lat Z h0 y t' kb' ds) (CS : Sta Z h0 "java/lang/String" "COMPACT_STRINGS" "Z" (.int cz)) (hcz : ¬ cz = (0 : Int32)) :
    MetFree l (⟨"java/lang/String", "equals", "(Ljava/lang/Object;)Z"⟩ : MethodName) (head1 (Jvm.Cond.code (⟨"java/lang/String", "equals", "(Ljava/lang/Object;)Z"⟩ : MethodName) jdk_42_method_66_code 3 (some .boolean) :: ws) ({ frames := 1, cells := 0, slots := 0, locals := 14 } : Room)) (fun a_ U => a_ = #[(.ref x), (.ref y)] ∧ Z.Warmed39 U.vm ∧ U.heap = h0) (fun _ _ _ _ _ => True) (fun _ U o U' => ∃ v L, o = .returned v ∧ QSE Z x y bs ds h0 n0 v U'.heap L ∧ FrameEnd U o U' L ({ frames := 1, cells := 0, slots := 0, locals := 14 } : Room).cells ({ frames := 1, cells := 0, slots := 0, locals := 14 } : Room).slots) := by
  refine MetFree.of_bodySF (plainFor_of_name pn_1) hisR ?_
  intro p e s m args below meth c s₁ Bd hml0 hP hK
  obtain ⟨rfl, hZ, hh⟩ := hP
  have hx := Bd.exec
  have hby := Bd.bytes
  have hml : c.maxLocals = 3 := hml0
  have hown : s.vm.findClass "java/lang/String" = some m.cls := findClass_of_methodNamed Bd.named
  have hnm := (name_of_methodNamed Bd.named Bd.method).1
  have X0 : Stand p l e ({ frames := 1, cells := 0, slots := 0, locals := 14 } : Room) s m #[(.ref x), (.ref y)] below meth c s₁ [] 0 0 := Stand.of_body Bd
  have e0 : s₁.heap = h0 := by rw [← hh, Bd.state]; rfl
  have N0 := Fr.nil n0
  refine Goes.done ?_
  obtain ⟨W, hWd⟩ : ∃ W : State → Prop, W = EndW s below (QSE Z x y bs ds h0 n0) ({ frames := 1, cells := 0, slots := 0, locals := 14 } : Room).cells ({ frames := 1, cells := 0, slots := 0, locals := 14 } : Room).slots := ⟨_, rfl⟩
  rw [← hWd]
  have hef : entryFrame m #[(.ref x), (.ref y)] 3 = (mkF m 0 #[.val (.ref x), .val (.ref y), .unset] []) := by first | (simp [entryFrame, mkF, argsToLocals, Value.category]; done) | rfl
  rw [hef]
  refine Goes.on (T' := s₁) (g' := (mkF m 1 #[.val (.ref x), .val (.ref y), .unset] [(.ref x)])) ?_ (fun t_ k_ => XS.aloadN X0.here hx rfl (hb hby d3_0) rfl rfl k_)
  refine Goes.on (T' := s₁) (g' := (mkF m 2 #[.val (.ref x), .val (.ref y), .unset] [(.ref y), (.ref x)])) ?_ (fun t_ k_ => XS.aloadN X0.here hx rfl (hb hby d3_1) rfl rfl k_)
  refine Goes.acmpR X0 hx rfl (pc0 := 2) (pcE := 5) (pcN := 7) rfl (hb hby d3_2) rfl (by decide) (by decide) (by decide) (fun hc2 => ?_) (fun hc2 => ?_)
  · show Goes p e below W s₁ (mkF m 5 #[.val (.ref x), .val (.ref y), .unset] [])
    refine Goes.on (T' := s₁) (g' := (mkF m 6 #[.val (.ref x), .val (.ref y), .unset] [(.int (1 : Int32))])) ?_ (fun t_ k_ => XS.iconst X0.here hx rfl (hb hby d3_5) k_)
    rw [hWd]
    exact Goes.retn X0 (v := some (.int (nar .boolean (1 : Int32)))) (fun fs hr => retN X0 hx (t := .boolean) Bd.returns (by simp) (hb hby d3_6) hr) (fun h => by rw [Bd.returns] at h; cases h) Bd.notSynchronized (by decide) (by decide) (by rw [e0]; exact ⟨by subst hc2; rw [if_pos (A.same B)]; rfl, N0, rfl⟩)
  · show Goes p e below W s₁ (mkF m 7 #[.val (.ref x), .val (.ref y), .unset] [])
    refine Goes.on (T' := s₁) (g' := (mkF m 8 #[.val (.ref x), .val (.ref y), .unset] [(.ref y)])) ?_ (fun t_ k_ => XS.aloadN X0.here hx rfl (hb hby d3_7) rfl rfl k_)
    obtain ⟨T1, X1, e1, st1⟩ := instY X0 hx hZ hown (hw _ (List.mem_of_getElem? (i := 30) rfl)) e0 (Ins.self B.1) (g := (mkF m 8 #[.val (.ref x), .val (.ref y), .unset] [(.ref y)])) rfl rfl (hb hby d3_8)
    refine Goes.on (T' := T1) (g' := (mkF m 11 #[.val (.ref x), .val (.ref y), .unset] [(.int (1 : Int32))])) ?_ st1
    refine Goes.on (T' := T1) (g' := (mkF m 14 #[.val (.ref x), .val (.ref y), .unset] [])) ?_ (fun t_ k_ => XS.ifNo X1.here hx rfl (hb hby d3_11) rfl (by decide) k_)
    refine Goes.on (T' := T1) (g' := (mkF m 15 #[.val (.ref x), .val (.ref y), .unset] [(.ref y)])) ?_ (fun t_ k_ => XS.aloadN X1.here hx rfl (hb hby d3_14) rfl rfl k_)
    obtain ⟨T2, X2, e2, st2⟩ := castY X1 hx hZ hown (hw _ (List.mem_of_getElem? (i := 30) rfl)) e1 (Ins.self B.1) (g := (mkF m 15 #[.val (.ref x), .val (.ref y), .unset] [(.ref y)])) rfl rfl (hb hby d3_15)
    refine Goes.on (T' := T2) (g' := (mkF m 18 #[.val (.ref x), .val (.ref y), .unset] [(.ref y)])) ?_ st2
    refine Goes.on (T' := T2) (g' := (mkF m 19 #[.val (.ref x), .val (.ref y), .val (.ref y)] [])) ?_ (fun t_ k_ => XS.astoreN X2.here hx rfl (hb hby d3_18) rfl rfl (l' := #[.val (.ref x), .val (.ref y), .val (.ref y)]) rfl k_)
    obtain ⟨T3, X3, e3, st3⟩ := getS2 X2 hx hZ hown (host := "") (Or.inl (hw _ (List.mem_of_getElem? (i := 32) rfl))) Via.refl e2 CS (g := (mkF m 19 #[.val (.ref x), .val (.ref y), .val (.ref y)] [])) rfl (hb hby d3_19)
    refine Goes.on (T' := T3) (g' := (mkF m 22 #[.val (.ref x), .val (.ref y), .val (.ref y)] [(.int cz)])) ?_ st3
    refine Goes.on (T' := T3) (g' := (mkF m 25 #[.val (.ref x), .val (.ref y), .val (.ref y)] [])) ?_ (fun t_ k_ => XS.ifNo X3.here hx rfl (hb hby d3_22) rfl ((if0 _ _).trans (feq hcz).1) k_)
    refine Goes.on (T' := T3) (g' := (mkF m 26 #[.val (.ref x), .val (.ref y), .val (.ref y)] [(.ref x)])) ?_ (fun t_ k_ => XS.aloadN X3.here hx rfl (hb hby d3_25) rfl rfl k_)
    obtain ⟨T4, X4, e4, st4⟩ := getF X3 hx hZ hown (host := "") (Or.inl (hw _ (List.mem_of_getElem? (i := 33) rfl))) Via.refl e3 A.2.1 (g := (mkF m 26 #[.val (.ref x), .val (.ref y), .val (.ref y)] [(.ref x)])) rfl rfl (hb hby d3_26)
    refine Goes.on (T' := T4) (g' := (mkF m 29 #[.val (.ref x), .val (.ref y), .val (.ref y)] [(.int (0 : Int32))])) ?_ st4
    refine Goes.on (T' := T4) (g' := (mkF m 30 #[.val (.ref x), .val (.ref y), .val (.ref y)] [(.ref y), (.int (0 : Int32))])) ?_ (fun t_ k_ => XS.aloadN X4.here hx rfl (hb hby d3_29) rfl rfl k_)
    obtain ⟨T5, X5, e5, st5⟩ := getF X4 hx hZ hown (host := "") (Or.inl (hw _ (List.mem_of_getElem? (i := 33) rfl))) Via.refl e4 B.2.1 (g := (mkF m 30 #[.val (.ref x), .val (.ref y), .val (.ref y)] [(.ref y), (.int (0 : Int32))])) rfl rfl (hb hby d3_30)
    refine Goes.on (T' := T5) (g' := (mkF m 33 #[.val (.ref x), .val (.ref y), .val (.ref y)] [(.int (0 : Int32)), (.int (0 : Int32))])) ?_ st5
    refine Goes.on (T' := T5) (g' := (mkF m 36 #[.val (.ref x), .val (.ref y), .val (.ref y)] [])) ?_ (fun t_ k_ => XS.icmpNo X5.here hx rfl (hb hby d3_33) rfl (by decide) k_)
    refine Goes.on (T' := T5) (g' := (mkF m 37 #[.val (.ref x), .val (.ref y), .val (.ref y)] [(.ref x)])) ?_ (fun t_ k_ => XS.aloadN X5.here hx rfl (hb hby d3_36) rfl rfl k_)
    obtain ⟨T6, X6, e6, st6⟩ := getF X5 hx hZ hown (host := "") (Or.inl (hw _ (List.mem_of_getElem? (i := 34) rfl))) Via.refl e5 A.2.2.1 (g := (mkF m 37 #[.val (.ref x), .val (.ref y), .val (.ref y)] [(.ref x)])) rfl rfl (hb hby d3_37)
    refine Goes.on (T' := T6) (g' := (mkF m 40 #[.val (.ref x), .val (.ref y), .val (.ref y)] [(.ref t)])) ?_ st6
    refine Goes.on (T' := T6) (g' := (mkF m 41 #[.val (.ref x), .val (.ref y), .val (.ref y)] [(.ref y), (.ref t)])) ?_ (fun t_ k_ => XS.aloadN X6.here hx rfl (hb hby d3_40) rfl rfl k_)
    obtain ⟨T7, X7, e7, st7⟩ := getF X6 hx hZ hown (host := "") (Or.inl (hw _ (List.mem_of_getElem? (i := 34) rfl))) Via.refl e6 B.2.2.1 (g := (mkF m 41 #[.val (.ref x), .val (.ref y), .val (.ref y)] [(.ref y), (.ref t)])) rfl rfl (hb hby d3_41)
    refine Goes.on (T' := T7) (g' := (mkF m 44 #[.val (.ref x), .val (.ref y), .val (.ref y)] [(.ref t'), (.ref t)])) ?_ st7
    obtain ⟨_, _, ⟨T8, Lq_8, kq_8, nq_8⟩, -, X8, ⟨Lc8, hQ8, l8, y8, z8⟩, st8⟩ := Jvm.LawKit.callS X7 hx (y := (⟨"java/lang/StringLatin1", "equals", "([B[B)Z"⟩ : MethodName)) hown (mvT hZ (hw _ (List.mem_of_getElem? (i := 35) rfl))) (mvT hZ (hw _ (List.mem_of_getElem? (i := 36) rfl))) (mvT hZ (hw _ (List.mem_of_getElem? (i := 37) rfl))) (mvT hZ (hw _ (List.mem_of_getElem? (i := 38) rfl))) (by decide) (backOf (W := 0) (rmLE l Z a0 hw [] t t' kb kb' bs ds h0 n0 Z0 A.2.2.2.1 B.2.2.2.1 A.2.2.2.2 B.2.2.2.2) hZ (hw _ (List.mem_of_getElem? (i := 38) rfl)) (hw _ (List.mem_of_getElem? (i := 37) rfl)) (by decide) (by decide)) (g := (mkF m 44 #[.val (.ref x), .val (.ref y), .val (.ref y)] [(.ref t'), (.ref t)])) rfl (by rw [hml]; rfl) (argsL := [(.ref t), (.ref t')]) (rest := []) (lenOf pd_0 rfl) rfl (by show 2 * 0 + _ ≤ _; exact Nat.le_of_eq rfl) (hb hby d3_44) (fun _ _ => ⟨rfl, e7, (by decide : 0 + 0 ≤ _), (by decide : 0 + 0 ≤ _)⟩)
    dsimp only [Pt.U, Pt.locs, Pt.cells, Pt.slots] at X8 l8 y8 z8 st8 hQ8
    subst l8 y8 z8
    obtain ⟨rfl, N8q, eh8⟩ := hQ8
    have N8 := Fr.app N0 N8q
    refine Goes.on (T' := T8) (g' := (mkF m 47 #[.val (.ref x), .val (.ref y), .val (.ref y)] [(.int (if bs = ds then 1 else 0))])) ?_ st8
    refine Goes.ifP X8 hx rfl (pc0 := 47) (pc' := 54) rfl (hb hby d3_47) rfl (by decide) (by decide) (P := (if bs = ds then 1 else 0) = (0 : Int32)) (ifc_eq _ _) (fun hc47 => ?_) (fun hc47 => ?_)
    · show Goes p e below W T8 (mkF m 54 #[.val (.ref x), .val (.ref y), .val (.ref y)] [])
      refine Goes.on (T' := T8) (g' := (mkF m 55 #[.val (.ref x), .val (.ref y), .val (.ref y)] [(.int (0 : Int32))])) ?_ (fun t_ k_ => XS.iconst X8.here hx rfl (hb hby d3_54) k_)
      rw [hWd]
      exact Goes.retn X8 (v := some (.int (nar .boolean (0 : Int32)))) (fun fs hr => retN X8 hx (t := .boolean) Bd.returns (by simp) (hb hby d3_55) hr) (fun h => by rw [Bd.returns] at h; cases h) Bd.notSynchronized (by decide) (by decide) (by rw [eh8]; exact ⟨by split at hc47; exact absurd hc47 (by decide); rw [if_neg (by assumption)]; rfl, N8, rfl⟩)
    · show Goes p e below W T8 (mkF m 50 #[.val (.ref x), .val (.ref y), .val (.ref y)] [])
      refine Goes.on (T' := T8) (g' := (mkF m 51 #[.val (.ref x), .val (.ref y), .val (.ref y)] [(.int (1 : Int32))])) ?_ (fun t_ k_ => XS.iconst X8.here hx rfl (hb hby d3_50) k_)
      refine Goes.on (T' := T8) (g' := (mkF m 55 #[.val (.ref x), .val (.ref y), .val (.ref y)] [(.int (1 : Int32))])) ?_ (fun t_ k_ => XS.goto X8.here hx rfl (pc0 := 51) (pc' := 55) rfl (hb hby d3_51) (by decide) (by decide) k_)
      rw [hWd]
      exact Goes.retn X8 (v := some (.int (nar .boolean (1 : Int32)))) (fun fs hr => retN X8 hx (t := .boolean) Bd.returns (by simp) (hb hby d3_55) hr) (fun h => by rw [Bd.returns] at h; cases h) Bd.notSynchronized (by decide) (by decide) (by rw [eh8]; exact ⟨by split at hc47; rw [if_pos (by assumption)]; rfl; exact absurd rfl hc47, N8, rfl⟩)
def QA (Z : State) (a r : Addr) (h0 : Heap) (n0 : Nat) (v : Option Value) (h : Heap) (L : List Loc) : Prop := v = some (.int (if a = r then 1 else 0)) ∧ Fr n0 L ∧ h = h0
set_option maxRecDepth 65536 in
set_option maxHeartbeats 40000000 in
theorem rmA (l : Launch) (Z : State) (a0 : Array Value) (hw : ∀ d ∈ tables_1, d.before a0 Z = true) (ws : List Jvm.Cond) (a r : Addr) (h0 : Heap) (n0 : Nat) (Z0 : n0 ≤ h0.size) (S2 : Sta Z h0 "com/example/syndic/syndic/terms/CdAdjustment" "RESERVE_AND_ASSESSMENT" "Lcom/example/syndic/syndic/terms/CdAdjustment;" (.ref r)) :
    MetFree l (⟨"com/example/syndic/syndic/terms/CdAdjustment", "addsAssessment", "()Z"⟩ : MethodName) (head1 (Jvm.Cond.code (⟨"com/example/syndic/syndic/terms/CdAdjustment", "addsAssessment", "()Z"⟩ : MethodName) prog_73_method_5_code 1 (some .boolean) :: ws) ({ frames := 0, cells := 0, slots := 0, locals := 0 } : Room)) (fun a_ U => a_ = #[(.ref a)] ∧ Z.Warmed39 U.vm ∧ U.heap = h0) (fun _ _ _ _ _ => True) (fun _ U o U' => ∃ v L, o = .returned v ∧ QA Z a r h0 n0 v U'.heap L ∧ FrameEnd U o U' L ({ frames := 0, cells := 0, slots := 0, locals := 0 } : Room).cells ({ frames := 0, cells := 0, slots := 0, locals := 0 } : Room).slots) := by
  refine MetFree.of_bodySF (plainFor_of_name pn_2) hisR ?_
  intro p e s m args below meth c s₁ Bd hml0 hP hK
  obtain ⟨rfl, hZ, hh⟩ := hP
  have hx := Bd.exec
  have hby := Bd.bytes
  have hml : c.maxLocals = 1 := hml0
  have hown : s.vm.findClass "com/example/syndic/syndic/terms/CdAdjustment" = some m.cls := findClass_of_methodNamed Bd.named
  have hnm := (name_of_methodNamed Bd.named Bd.method).1
  have X0 : Stand p l e ({ frames := 0, cells := 0, slots := 0, locals := 0 } : Room) s m #[(.ref a)] below meth c s₁ [] 0 0 := Stand.of_body Bd
  have e0 : s₁.heap = h0 := by rw [← hh, Bd.state]; rfl
  have N0 := Fr.nil n0
  refine Goes.done ?_
  obtain ⟨W, hWd⟩ : ∃ W : State → Prop, W = EndW s below (QA Z a r h0 n0) ({ frames := 0, cells := 0, slots := 0, locals := 0 } : Room).cells ({ frames := 0, cells := 0, slots := 0, locals := 0 } : Room).slots := ⟨_, rfl⟩
  rw [← hWd]
  have hef : entryFrame m #[(.ref a)] 1 = (mkF m 0 #[.val (.ref a)] []) := by first | (simp [entryFrame, mkF, argsToLocals, Value.category]; done) | rfl
  rw [hef]
  refine Goes.on (T' := s₁) (g' := (mkF m 1 #[.val (.ref a)] [(.ref a)])) ?_ (fun t_ k_ => XS.aloadN X0.here hx rfl (hb hby d1_0) rfl rfl k_)
  obtain ⟨T1, X1, e1, st1⟩ := getS2 X0 hx hZ hown (host := "") (Or.inl (hw _ (List.mem_of_getElem? (i := 8) rfl))) Via.refl e0 S2 (g := (mkF m 1 #[.val (.ref a)] [(.ref a)])) rfl (hb hby d1_1)
  refine Goes.on (T' := T1) (g' := (mkF m 4 #[.val (.ref a)] [(.ref r), (.ref a)])) ?_ st1
  refine Goes.acmpR X1 hx rfl (pc0 := 4) (pcE := 7) (pcN := 11) rfl (hb hby d1_4) rfl (by decide) (by decide) (by decide) (fun hc4 => ?_) (fun hc4 => ?_)
  · show Goes p e below W T1 (mkF m 7 #[.val (.ref a)] [])
    refine Goes.on (T' := T1) (g' := (mkF m 8 #[.val (.ref a)] [(.int (1 : Int32))])) ?_ (fun t_ k_ => XS.iconst X1.here hx rfl (hb hby d1_7) k_)
    refine Goes.on (T' := T1) (g' := (mkF m 12 #[.val (.ref a)] [(.int (1 : Int32))])) ?_ (fun t_ k_ => XS.goto X1.here hx rfl (pc0 := 8) (pc' := 12) rfl (hb hby d1_8) (by decide) (by decide) k_)
    rw [hWd]
    exact Goes.retn X1 (v := some (.int (nar .boolean (1 : Int32)))) (fun fs hr => retN X1 hx (t := .boolean) Bd.returns (by simp) (hb hby d1_12) hr) (fun h => by rw [Bd.returns] at h; cases h) Bd.notSynchronized (by decide) (by decide) (by rw [e1]; exact ⟨by rw [if_pos hc4]; rfl, N0, rfl⟩)
  · show Goes p e below W T1 (mkF m 11 #[.val (.ref a)] [])
    refine Goes.on (T' := T1) (g' := (mkF m 12 #[.val (.ref a)] [(.int (0 : Int32))])) ?_ (fun t_ k_ => XS.iconst X1.here hx rfl (hb hby d1_11) k_)
    rw [hWd]
    exact Goes.retn X1 (v := some (.int (nar .boolean (0 : Int32)))) (fun fs hr => retN X1 hx (t := .boolean) Bd.returns (by simp) (hb hby d1_12) hr) (fun h => by rw [Bd.returns] at h; cases h) Bd.notSynchronized (by decide) (by decide) (by rw [e1]; exact ⟨by rw [if_neg hc4]; rfl, N0, rfl⟩)
def QW (Z : State) (a r : Addr) (h0 : Heap) (n0 : Nat) (v : Option Value) (h : Heap) (L : List Loc) : Prop := v = some (.ref r) ∧ Fr n0 L ∧ h = h0
set_option maxRecDepth 65536 in
set_option maxHeartbeats 40000000 in
theorem rmW (l : Launch) (Z : State) (a0 : Array Value) (hw : ∀ d ∈ tables_1, d.before a0 Z = true) (ws : List Jvm.Cond) (a r : Addr) (h0 : Heap) (n0 : Nat) (Z0 : n0 ≤ h0.size) (F : Fld Z h0 a "com/example/syndic/syndic/terms/CdAdjustment" "word" "Ljava/lang/String;" (.ref r)) :
    MetFree l (⟨"com/example/syndic/syndic/terms/CdAdjustment", "word", "()Ljava/lang/String;"⟩ : MethodName) (head1 (Jvm.Cond.code (⟨"com/example/syndic/syndic/terms/CdAdjustment", "word", "()Ljava/lang/String;"⟩ : MethodName) prog_73_method_4_code 1 (some (.object "java/lang/String")) :: ws) ({ frames := 0, cells := 0, slots := 0, locals := 0 } : Room)) (fun a_ U => a_ = #[(.ref a)] ∧ Z.Warmed39 U.vm ∧ U.heap = h0) (fun _ _ _ _ _ => True) (fun _ U o U' => ∃ v L, o = .returned v ∧ QW Z a r h0 n0 v U'.heap L ∧ FrameEnd U o U' L ({ frames := 0, cells := 0, slots := 0, locals := 0 } : Room).cells ({ frames := 0, cells := 0, slots := 0, locals := 0 } : Room).slots) := by
  refine MetFree.of_bodySF (plainFor_of_name pn_2) hisR ?_
  intro p e s m args below meth c s₁ Bd hml0 hP hK
  obtain ⟨rfl, hZ, hh⟩ := hP
  have hx := Bd.exec
  have hby := Bd.bytes
  have hml : c.maxLocals = 1 := hml0
  have hown : s.vm.findClass "com/example/syndic/syndic/terms/CdAdjustment" = some m.cls := findClass_of_methodNamed Bd.named
  have hnm := (name_of_methodNamed Bd.named Bd.method).1
  have X0 : Stand p l e ({ frames := 0, cells := 0, slots := 0, locals := 0 } : Room) s m #[(.ref a)] below meth c s₁ [] 0 0 := Stand.of_body Bd
  have e0 : s₁.heap = h0 := by rw [← hh, Bd.state]; rfl
  have N0 := Fr.nil n0
  refine Goes.done ?_
  obtain ⟨W, hWd⟩ : ∃ W : State → Prop, W = EndW s below (QW Z a r h0 n0) ({ frames := 0, cells := 0, slots := 0, locals := 0 } : Room).cells ({ frames := 0, cells := 0, slots := 0, locals := 0 } : Room).slots := ⟨_, rfl⟩
  rw [← hWd]
  have hef : entryFrame m #[(.ref a)] 1 = (mkF m 0 #[.val (.ref a)] []) := by first | (simp [entryFrame, mkF, argsToLocals, Value.category]; done) | rfl
  rw [hef]
  refine Goes.on (T' := s₁) (g' := (mkF m 1 #[.val (.ref a)] [(.ref a)])) ?_ (fun t_ k_ => XS.aloadN X0.here hx rfl (hb hby d2_0) rfl rfl k_)
  obtain ⟨T1, X1, e1, st1⟩ := getF X0 hx hZ hown (host := "") (Or.inl (hw _ (List.mem_of_getElem? (i := 15) rfl))) Via.refl e0 F (g := (mkF m 1 #[.val (.ref a)] [(.ref a)])) rfl rfl (hb hby d2_1)
  refine Goes.on (T' := T1) (g' := (mkF m 4 #[.val (.ref a)] [(.ref r)])) ?_ st1
  rw [hWd]
  exact Goes.retn X1 (v := some (.ref r)) (fun fs hr => retA X1 hx Bd.returns rfl rfl (hb hby d2_4) hr) (fun h => by rw [Bd.returns] at h; cases h) Bd.notSynchronized (by decide) (by decide) (by rw [e1]; exact ⟨rfl, N0, rfl⟩)
def Q0 (Z : State) (p1 : Int32) (h0 : Heap) (n0 : Nat) (v : Option Value) (h : Heap) (L : List Loc) : Prop := v = some (.int (1 : Int32)) ∧ Fr n0 L
set_option maxRecDepth 65536 in
set_option maxHeartbeats 40000000 in
theorem rm0 (l : Launch) (Z : State) (a0 : Array Value) (hw : ∀ d ∈ tables_1, d.before a0 Z = true) (ws : List Jvm.Cond) (p1 : Int32) (a1 a2 x1 x2 t1 t2 : Addr) (k1 k2 : ClassId) (cz : Int32) (h0 : Heap) (n0 : Nat) (Z0 : n0 ≤ h0.size) (hh0 : Z.heap = h0) (hn0 : n0 = h0.size) (S1 : Sta Z h0 "com/example/syndic/syndic/terms/CdAdjustment" "RESERVE" "Lcom/example/syndic/syndic/terms/CdAdjustment;" (.ref a1)) (S2 : Sta Z h0 "com/example/syndic/syndic/terms/CdAdjustment" "RESERVE_AND_ASSESSMENT" "Lcom/example/syndic/syndic/terms/CdAdjustment;" (.ref a2)) (E1 : Exa Z h0 a1 "com/example/syndic/syndic/terms/CdAdjustment") (E2 : Exa Z h0 a2 "com/example/syndic/syndic/terms/CdAdjustment") (hne : ¬ a1 = a2) (F1 : Fld Z h0 a1 "com/example/syndic/syndic/terms/CdAdjustment" "word" "Ljava/lang/String;" (.ref x1)) (F2 : Fld Z h0 a2 "com/example/syndic/syndic/terms/CdAdjustment" "word" "Ljava/lang/String;" (.ref x2)) (L1 : Lat Z h0 x1 t1 k1 ([114, 101, 115, 101, 114, 118, 101] : List Int32)) (L2 : Lat Z h0 x2 t2 k2 ([114, 101, 115, 101, 114, 118, 101, 45, 97, 110, 100, 45, 97, 115, 115, 101, 115, 115, 109, 101, 110, 116] : List Int32)) (CS : Sta Z h0 "java/lang/String" "COMPACT_STRINGS" "Z" (.int cz)) (hcz : ¬ cz = (0 : Int32)) (hh1 : Jvm.Lit.constHeld Z "com/example/syndic/syndic/terms/CdAdjustmentAddsAssessmentPinLaw" 24) (hcw : Jvm.Lit.compactW.before a0 Z = true) :
    MetFree l x (head1 (Jvm.Cond.code x code maxLocals ret :: ws) room_1) (fun a_ U => a_ = #[(.int p1)] ∧ U = Z) (fun _ _ _ _ _ => True) (fun _ U o U' => ∃ v L, o = .returned v ∧ Q0 Z p1 h0 n0 v U'.heap L ∧ ReturnedEndW U o U' L room_1.cells room_1.slots) := by
  refine MetFree.of_bodySF (plainFor_of_name pn_3) hisR ?_
  intro p e s m args below meth c s₁ Bd hml0 hP hK
  obtain ⟨rfl, hUZ⟩ := hP
  have hZ : Z.Warmed39 s.vm := by rw [hUZ]; exact State.Warmed39.refl Z
  have hh : s.heap = h0 := by rw [hUZ]; exact hh0
  have hkeep : ∀ (b : Addr) (cl : Cell), Z.heap[b]? = some cl → s.heap[b]? = some cl := by rw [hUZ]; exact fun _ _ h => h
  have I0 : IB Z s.vm [] := by rw [hUZ]; exact IB.start
  have hS0 : s.Since s.vm h0.size := (State.WarmedH.refl s).since _
  have hx := Bd.exec
  have hby := Bd.bytes
  have hml : c.maxLocals = 5 := hml0
  have hown : s.vm.findClass "com/example/syndic/syndic/terms/CdAdjustmentAddsAssessmentPinLaw" = some m.cls := findClass_of_methodNamed Bd.named
  have hnm := (name_of_methodNamed Bd.named Bd.method).1
  have X0 : Stand p l e room_1 s m #[(.int p1)] below meth c s₁ [] 0 0 := Stand.of_body Bd
  have e0 : s₁.heap = h0 := by rw [← hh, Bd.state]; rfl
  have N0 := Fr.nil n0
  refine Goes.doneW ?_
  obtain ⟨W, hWd⟩ : ∃ W : State → Prop, W = EndWW s below (Q0 Z p1 h0 n0) room_1.cells room_1.slots := ⟨_, rfl⟩
  rw [← hWd]
  have hef : entryFrame m #[(.int p1)] maxLocals = (mkF m 0 #[.val (.int p1), .unset, .unset, .unset, .unset] []) := by first | (simp [entryFrame, mkF, argsToLocals, Value.category, maxLocals]; done) | rfl
  rw [hef]
  have hwS : ∀ d ∈ Bundle.stringAtoms, d.before a0 Z = true := fun d hd => hw d ((by decide +kernel : ∀ d ∈ Bundle.stringAtoms, d ∈ tables_1) d hd)
  refine Goes.on (T' := s₁) (g' := (mkF m 1 #[.val (.int p1), .unset, .unset, .unset, .unset] [(.int p1)])) ?_ (fun t_ k_ => XS.iloadN X0.here hx rfl (hb hby at_0) rfl k_)
  refine Goes.on (T' := s₁) (g' := (mkF m 2 #[.val (.int p1), .unset, .unset, .unset, .unset] [(.int (1 : Int32)), (.int p1)])) ?_ (fun t_ k_ => XS.iconst X0.here hx rfl (hb hby at_1) k_)
  refine Goes.on (T' := s₁) (g' := (mkF m 3 #[.val (.int p1), .unset, .unset, .unset, .unset] [(.int (p1 &&& (1 : Int32)))])) ?_ (fun t_ k_ => XS.iand X0.here hx rfl (hb hby at_2) rfl k_)
  refine Goes.ifP X0 hx rfl (pc0 := 3) (pc' := 10) rfl (hb hby at_3) rfl (by decide) (by decide) (P := (p1 &&& (1 : Int32)) = (0 : Int32)) (ifc_eq _ _) (fun hc3 => ?_) (fun hc3 => ?_)
  · show Goes p e below W s₁ (mkF m 10 #[.val (.int p1), .unset, .unset, .unset, .unset] [])
    refine Goes.on (T' := s₁) (g' := (mkF m 11 #[.val (.int p1), .unset, .unset, .unset, .unset] [(.int (0 : Int32))])) ?_ (fun t_ k_ => XS.iconst X0.here hx rfl (hb hby at_10) k_)
    refine Goes.on (T' := s₁) (g' := (mkF m 12 #[.val (.int p1), .val (.int (0 : Int32)), .unset, .unset, .unset] [])) ?_ (fun t_ k_ => XS.istoreN X0.here hx rfl (hb hby at_11) rfl (l' := #[.val (.int p1), .val (.int (0 : Int32)), .unset, .unset, .unset]) rfl k_)
    refine Goes.on (T' := s₁) (g' := (mkF m 13 #[.val (.int p1), .val (.int (0 : Int32)), .unset, .unset, .unset] [(.int (0 : Int32))])) ?_ (fun t_ k_ => XS.iloadN X0.here hx rfl (hb hby at_12) rfl k_)
    refine Goes.on (T' := s₁) (g' := (mkF m 22 #[.val (.int p1), .val (.int (0 : Int32)), .unset, .unset, .unset] [])) ?_ (fun t_ k_ => XS.ifYes X0.here hx rfl (pc0 := 13) (pc' := 22) rfl (hb hby at_13) rfl (by decide) (by decide) (by decide) k_)
    obtain ⟨T1, X1, e1, st1⟩ := getS2 X0 hx hZ hown (host := "") (Or.inl (hw _ (List.mem_of_getElem? (i := 0) rfl))) Via.refl e0 S1 (g := (mkF m 22 #[.val (.int p1), .val (.int (0 : Int32)), .unset, .unset, .unset] [])) rfl (hb hby at_22)
    refine Goes.on (T' := T1) (g' := (mkF m 25 #[.val (.int p1), .val (.int (0 : Int32)), .unset, .unset, .unset] [(.ref a1)])) ?_ st1
    refine Goes.on (T' := T1) (g' := (mkF m 26 #[.val (.int p1), .val (.int (0 : Int32)), .val (.ref a1), .unset, .unset] [])) ?_ (fun t_ k_ => XS.astoreN X1.here hx rfl (hb hby at_25) rfl rfl (l' := #[.val (.int p1), .val (.int (0 : Int32)), .val (.ref a1), .unset, .unset]) rfl k_)
    refine Goes.on (T' := T1) (g' := (mkF m 27 #[.val (.int p1), .val (.int (0 : Int32)), .val (.ref a1), .unset, .unset] [(.ref a1)])) ?_ (fun t_ k_ => XS.aloadN X1.here hx rfl (hb hby at_26) rfl rfl k_)
    obtain ⟨cq2, kq2, q2a, q2b, q2c⟩ := isOf hZ e1 E1
    obtain ⟨_, _, ⟨T2, Lq_2, kq_2, nq_2⟩, -, X2, ⟨Lc2, hQ2, l2, y2, z2⟩, st2⟩ := X1.virtualBack hx (y := (⟨"com/example/syndic/syndic/terms/CdAdjustment", "addsAssessment", "()Z"⟩ : MethodName)) (z := (⟨"com/example/syndic/syndic/terms/CdAdjustment", "addsAssessment", "()Z"⟩ : MethodName)) hown (mvT hZ (hw _ (List.mem_of_getElem? (i := 3) rfl))) (mvT hZ (hw _ (List.mem_of_getElem? (i := 4) rfl))) (notFace_of_selects (args := #[]) (mvT hZ (hw _ (List.mem_of_getElem? (i := 6) rfl)))) (mvT hZ (hw _ (List.mem_of_getElem? (i := 6) rfl))) (mvT hZ (hw _ (List.mem_of_getElem? (i := 5) rfl))) (by decide) (backOf (W := 0) (rmA l Z a0 hw [] a1 a2 h0 n0 Z0 S2) hZ (hw _ (List.mem_of_getElem? (i := 7) rfl)) (hw _ (List.mem_of_getElem? (i := 1) rfl)) (by decide) (by decide)) q2a q2c (g := (mkF m 27 #[.val (.int p1), .val (.int (0 : Int32)), .val (.ref a1), .unset, .unset] [(.ref a1)])) rfl (by rw [hml]; rfl) (Steps.refl _) (argsL := []) (rest := []) (lenOf pd_1 rfl) rfl (by show 2 * 0 + _ ≤ _; exact Nat.le_of_eq rfl) (hb hby at_27) (fun _ _ => ⟨rfl, e1, (by decide : 0 + 0 ≤ _), (by decide : 0 + 0 ≤ _)⟩)
    dsimp only [Pt.U, Pt.locs, Pt.cells, Pt.slots] at X2 l2 y2 z2 st2 hQ2
    subst l2 y2 z2
    obtain ⟨rfl, N2q, eh2⟩ := hQ2
    have N2 := Fr.app N0 N2q
    refine Goes.on (T' := T2) (g' := (mkF m 30 #[.val (.int p1), .val (.int (0 : Int32)), .val (.ref a1), .unset, .unset] [(.int (if a1 = a2 then 1 else 0))])) ?_ (fun t => st2.trans)
    rw [if_neg hne]
    refine Goes.on (T' := T2) (g' := (mkF m 31 #[.val (.int p1), .val (.int (0 : Int32)), .val (.ref a1), .val (.int (0 : Int32)), .unset] [])) ?_ (fun t_ k_ => XS.istoreN X2.here hx rfl (hb hby at_30) rfl (l' := #[.val (.int p1), .val (.int (0 : Int32)), .val (.ref a1), .val (.int (0 : Int32)), .unset]) rfl k_)
    refine Goes.on (T' := T2) (g' := (mkF m 32 #[.val (.int p1), .val (.int (0 : Int32)), .val (.ref a1), .val (.int (0 : Int32)), .unset] [(.ref a1)])) ?_ (fun t_ k_ => XS.aloadN X2.here hx rfl (hb hby at_31) rfl rfl k_)
    obtain ⟨cq3, kq3, q3a, q3b, q3c⟩ := isOf hZ eh2 E1
    obtain ⟨_, _, ⟨T3, Lq_3, kq_3, nq_3⟩, -, X3, ⟨Lc3, hQ3, l3, y3, z3⟩, st3⟩ := X2.virtualBack hx (y := (⟨"com/example/syndic/syndic/terms/CdAdjustment", "word", "()Ljava/lang/String;"⟩ : MethodName)) (z := (⟨"com/example/syndic/syndic/terms/CdAdjustment", "word", "()Ljava/lang/String;"⟩ : MethodName)) hown (mvT hZ (hw _ (List.mem_of_getElem? (i := 10) rfl))) (mvT hZ (hw _ (List.mem_of_getElem? (i := 11) rfl))) (notFace_of_selects (args := #[]) (mvT hZ (hw _ (List.mem_of_getElem? (i := 13) rfl)))) (mvT hZ (hw _ (List.mem_of_getElem? (i := 13) rfl))) (mvT hZ (hw _ (List.mem_of_getElem? (i := 12) rfl))) (by decide) (backOf (W := 0) (rmW l Z a0 hw [] a1 x1 h0 n0 Z0 F1) hZ (hw _ (List.mem_of_getElem? (i := 14) rfl)) (hw _ (List.mem_of_getElem? (i := 1) rfl)) (by decide) (by decide)) q3a q3c (g := (mkF m 32 #[.val (.int p1), .val (.int (0 : Int32)), .val (.ref a1), .val (.int (0 : Int32)), .unset] [(.ref a1)])) rfl (by rw [hml]; rfl) (Steps.refl _) (argsL := []) (rest := []) (lenOf pd_2 rfl) rfl (by show 2 * 0 + _ ≤ _; exact Nat.le_of_eq rfl) (hb hby at_32) (fun _ _ => ⟨rfl, eh2, (by decide : 0 + 0 ≤ _), (by decide : 0 + 0 ≤ _)⟩)
    dsimp only [Pt.U, Pt.locs, Pt.cells, Pt.slots] at X3 l3 y3 z3 st3 hQ3
    subst l3 y3 z3
    obtain ⟨rfl, N3q, eh3⟩ := hQ3
    have N3 := Fr.app N2 N3q
    refine Goes.on (T' := T3) (g' := (mkF m 35 #[.val (.int p1), .val (.int (0 : Int32)), .val (.ref a1), .val (.int (0 : Int32)), .unset] [(.ref x1)])) ?_ (fun t => st3.trans)
    have NZ : Fr s.heap.size _ := (by rw [hh, ← hn0]; exact N3)
    obtain ⟨u4, T4, h4, q4, b4, kc4, X4, e4, E4, hS4, hk4, hZ, hown, Eu4, Cu4, Vu4, Ku4, -, -, I4, st4⟩ := ldcSV (s := s) (vm0 := s.vm) X3 hx hZ hown (hw _ (List.mem_of_getElem? (i := 17) rfl)) hwS eh3 hS0 (Nat.le_refl _) NZ hkeep I0 (by simp) hh1 hcw (vs := ([114, 101, 115, 101, 114, 118, 101, 45, 97, 110, 100, 45, 97, 115, 115, 101, 115, 115, 109, 101, 110, 116] : List Int32).map Value.int) (z := Int32.ofNat ([114, 101, 115, 101, 114, 118, 101, 45, 97, 110, 100, 45, 97, 115, 115, 101, 115, 115, 109, 101, 110, 116] : List Int32).length) ⟨by decide, by decide⟩ (by decide) (by decide) (g := (mkF m 35 #[.val (.int p1), .val (.int (0 : Int32)), .val (.ref a1), .val (.int (0 : Int32)), .unset] [(.ref x1)])) rfl (hb hby at_35) (n := 88) (by decide) (by decide) (by decide) (by decide)
    have Lu : Lat Z h4 u4 b4 kc4 ([114, 101, 115, 101, 114, 118, 101, 45, 97, 110, 100, 45, 97, 115, 115, 101, 115, 115, 109, 101, 110, 116] : List Int32) := ⟨Eu4, Cu4, Vu4, Ku4, by decide⟩
    have CS4 := CS.ext E4
    have L1x := L1.ext E4
    have L2x := L2.ext E4
    have Z4 : n0 ≤ h4.size := Nat.le_trans Z0 E4.1
    refine Goes.on (T' := T4) (g' := (mkF m 37 #[.val (.int p1), .val (.int (0 : Int32)), .val (.ref a1), .val (.int (0 : Int32)), .unset] [(.ref u4), (.ref x1)])) ?_ st4
    obtain ⟨cq5, kq5, q5a, q5b, q5c⟩ := isOf hZ e4 L1x.1
    obtain ⟨_, _, ⟨T5, Lq_5, kq_5, nq_5⟩, -, X5, ⟨Lc5, hQ5, l5, y5, z5⟩, st5⟩ := X4.virtualBack hx (y := (⟨"java/lang/String", "equals", "(Ljava/lang/Object;)Z"⟩ : MethodName)) (z := (⟨"java/lang/String", "equals", "(Ljava/lang/Object;)Z"⟩ : MethodName)) hown (mvT hZ (hw _ (List.mem_of_getElem? (i := 25) rfl))) (mvT hZ (hw _ (List.mem_of_getElem? (i := 26) rfl))) (notFace_of_selects (args := #[]) (mvT hZ (hw _ (List.mem_of_getElem? (i := 28) rfl)))) (mvT hZ (hw _ (List.mem_of_getElem? (i := 28) rfl))) (mvT hZ (hw _ (List.mem_of_getElem? (i := 27) rfl))) (by decide) (backOf (W := 0) (rmSE l Z a0 hw [] x1 u4 t1 b4 k1 kc4 ([114, 101, 115, 101, 114, 118, 101] : List Int32) ([114, 101, 115, 101, 114, 118, 101, 45, 97, 110, 100, 45, 97, 115, 115, 101, 115, 115, 109, 101, 110, 116] : List Int32) cz h4 n0 Z4 L1x Lu CS4 hcz) hZ (hw _ (List.mem_of_getElem? (i := 29) rfl)) (hw _ (List.mem_of_getElem? (i := 18) rfl)) (by decide) (by decide)) q5a q5c (g := (mkF m 37 #[.val (.int p1), .val (.int (0 : Int32)), .val (.ref a1), .val (.int (0 : Int32)), .unset] [(.ref u4), (.ref x1)])) rfl (by rw [hml]; rfl) (Steps.refl _) (argsL := [(.ref u4)]) (rest := []) (lenOf pd_3 rfl) rfl (by show 2 * 0 + _ ≤ _; exact Nat.le_of_eq rfl) (hb hby at_37) (fun _ _ => ⟨rfl, e4, (by decide : 2 + 0 ≤ _), (by decide : 92 + 0 ≤ _)⟩)
    dsimp only [Pt.U, Pt.locs, Pt.cells, Pt.slots] at X5 l5 y5 z5 st5 hQ5
    subst l5 y5 z5
    obtain ⟨rfl, N5q, eh5⟩ := hQ5
    have N5 := Fr.app N3 N5q
    refine Goes.on (T' := T5) (g' := (mkF m 40 #[.val (.int p1), .val (.int (0 : Int32)), .val (.ref a1), .val (.int (0 : Int32)), .unset] [(.int (if ([114, 101, 115, 101, 114, 118, 101] : List Int32) = ([114, 101, 115, 101, 114, 118, 101, 45, 97, 110, 100, 45, 97, 115, 115, 101, 115, 115, 109, 101, 110, 116] : List Int32) then 1 else 0))])) ?_ (fun t => st5.trans)
    rw [if_neg (by decide)]
    refine Goes.on (T' := T5) (g' := (mkF m 42 #[.val (.int p1), .val (.int (0 : Int32)), .val (.ref a1), .val (.int (0 : Int32)), .val (.int (0 : Int32))] [])) ?_ (fun t_ k_ => XS.istore X5.here hx rfl (hb hby at_40) rfl (l' := #[.val (.int p1), .val (.int (0 : Int32)), .val (.ref a1), .val (.int (0 : Int32)), .val (.int (0 : Int32))]) rfl k_)
    refine Goes.on (T' := T5) (g' := (mkF m 43 #[.val (.int p1), .val (.int (0 : Int32)), .val (.ref a1), .val (.int (0 : Int32)), .val (.int (0 : Int32))] [(.int (0 : Int32))])) ?_ (fun t_ k_ => XS.iloadN X5.here hx rfl (hb hby at_42) rfl k_)
    refine Goes.on (T' := T5) (g' := (mkF m 44 #[.val (.int p1), .val (.int (0 : Int32)), .val (.ref a1), .val (.int (0 : Int32)), .val (.int (0 : Int32))] [(.int (0 : Int32)), (.int (0 : Int32))])) ?_ (fun t_ k_ => XS.iloadN X5.here hx rfl (hb hby at_43) rfl k_)
    refine Goes.on (T' := T5) (g' := (mkF m 47 #[.val (.int p1), .val (.int (0 : Int32)), .val (.ref a1), .val (.int (0 : Int32)), .val (.int (0 : Int32))] [])) ?_ (fun t_ k_ => XS.icmpNo X5.here hx rfl (hb hby at_44) rfl (by decide) k_)
    refine Goes.on (T' := T5) (g' := (mkF m 48 #[.val (.int p1), .val (.int (0 : Int32)), .val (.ref a1), .val (.int (0 : Int32)), .val (.int (0 : Int32))] [(.int (0 : Int32))])) ?_ (fun t_ k_ => XS.iloadN X5.here hx rfl (hb hby at_47) rfl k_)
    refine Goes.on (T' := T5) (g' := (mkF m 50 #[.val (.int p1), .val (.int (0 : Int32)), .val (.ref a1), .val (.int (0 : Int32)), .val (.int (0 : Int32))] [(.int (0 : Int32)), (.int (0 : Int32))])) ?_ (fun t_ k_ => XS.iload X5.here hx rfl (hb hby at_48) rfl k_)
    refine Goes.on (T' := T5) (g' := (mkF m 53 #[.val (.int p1), .val (.int (0 : Int32)), .val (.ref a1), .val (.int (0 : Int32)), .val (.int (0 : Int32))] [])) ?_ (fun t_ k_ => XS.icmpNo X5.here hx rfl (hb hby at_50) rfl (by decide) k_)
    refine Goes.on (T' := T5) (g' := (mkF m 54 #[.val (.int p1), .val (.int (0 : Int32)), .val (.ref a1), .val (.int (0 : Int32)), .val (.int (0 : Int32))] [(.int (1 : Int32))])) ?_ (fun t_ k_ => XS.iconst X5.here hx rfl (hb hby at_53) k_)
    refine Goes.on (T' := T5) (g' := (mkF m 58 #[.val (.int p1), .val (.int (0 : Int32)), .val (.ref a1), .val (.int (0 : Int32)), .val (.int (0 : Int32))] [(.int (1 : Int32))])) ?_ (fun t_ k_ => XS.goto X5.here hx rfl (pc0 := 54) (pc' := 58) rfl (hb hby at_54) (by decide) (by decide) k_)
    rw [hWd]
    exact Goes.retnW X5 hS4 (by rw [eh5]; exact hk4) (v := some (.int (nar .boolean (1 : Int32)))) (fun fs hr => retN X5 hx (t := .boolean) Bd.returns (by simp) (hb hby at_58) hr) (fun h => by rw [Bd.returns] at h; cases h) Bd.notSynchronized (by decide) (by decide) (by rw [eh5]; exact ⟨rfl, N5⟩)
  · show Goes p e below W s₁ (mkF m 6 #[.val (.int p1), .unset, .unset, .unset, .unset] [])
    refine Goes.on (T' := s₁) (g' := (mkF m 7 #[.val (.int p1), .unset, .unset, .unset, .unset] [(.int (1 : Int32))])) ?_ (fun t_ k_ => XS.iconst X0.here hx rfl (hb hby at_6) k_)
    refine Goes.on (T' := s₁) (g' := (mkF m 11 #[.val (.int p1), .unset, .unset, .unset, .unset] [(.int (1 : Int32))])) ?_ (fun t_ k_ => XS.goto X0.here hx rfl (pc0 := 7) (pc' := 11) rfl (hb hby at_7) (by decide) (by decide) k_)
    refine Goes.on (T' := s₁) (g' := (mkF m 12 #[.val (.int p1), .val (.int (1 : Int32)), .unset, .unset, .unset] [])) ?_ (fun t_ k_ => XS.istoreN X0.here hx rfl (hb hby at_11) rfl (l' := #[.val (.int p1), .val (.int (1 : Int32)), .unset, .unset, .unset]) rfl k_)
    refine Goes.on (T' := s₁) (g' := (mkF m 13 #[.val (.int p1), .val (.int (1 : Int32)), .unset, .unset, .unset] [(.int (1 : Int32))])) ?_ (fun t_ k_ => XS.iloadN X0.here hx rfl (hb hby at_12) rfl k_)
    refine Goes.on (T' := s₁) (g' := (mkF m 16 #[.val (.int p1), .val (.int (1 : Int32)), .unset, .unset, .unset] [])) ?_ (fun t_ k_ => XS.ifNo X0.here hx rfl (hb hby at_13) rfl (by decide) k_)
    obtain ⟨T6, X6, e6, st6⟩ := getS2 X0 hx hZ hown (host := "") (Or.inl (hw _ (List.mem_of_getElem? (i := 39) rfl))) Via.refl e0 S2 (g := (mkF m 16 #[.val (.int p1), .val (.int (1 : Int32)), .unset, .unset, .unset] [])) rfl (hb hby at_16)
    refine Goes.on (T' := T6) (g' := (mkF m 19 #[.val (.int p1), .val (.int (1 : Int32)), .unset, .unset, .unset] [(.ref a2)])) ?_ st6
    refine Goes.on (T' := T6) (g' := (mkF m 25 #[.val (.int p1), .val (.int (1 : Int32)), .unset, .unset, .unset] [(.ref a2)])) ?_ (fun t_ k_ => XS.goto X6.here hx rfl (pc0 := 19) (pc' := 25) rfl (hb hby at_19) (by decide) (by decide) k_)
    refine Goes.on (T' := T6) (g' := (mkF m 26 #[.val (.int p1), .val (.int (1 : Int32)), .val (.ref a2), .unset, .unset] [])) ?_ (fun t_ k_ => XS.astoreN X6.here hx rfl (hb hby at_25) rfl rfl (l' := #[.val (.int p1), .val (.int (1 : Int32)), .val (.ref a2), .unset, .unset]) rfl k_)
    refine Goes.on (T' := T6) (g' := (mkF m 27 #[.val (.int p1), .val (.int (1 : Int32)), .val (.ref a2), .unset, .unset] [(.ref a2)])) ?_ (fun t_ k_ => XS.aloadN X6.here hx rfl (hb hby at_26) rfl rfl k_)
    obtain ⟨cq7, kq7, q7a, q7b, q7c⟩ := isOf hZ e6 E2
    obtain ⟨_, _, ⟨T7, Lq_7, kq_7, nq_7⟩, -, X7, ⟨Lc7, hQ7, l7, y7, z7⟩, st7⟩ := X6.virtualBack hx (y := (⟨"com/example/syndic/syndic/terms/CdAdjustment", "addsAssessment", "()Z"⟩ : MethodName)) (z := (⟨"com/example/syndic/syndic/terms/CdAdjustment", "addsAssessment", "()Z"⟩ : MethodName)) hown (mvT hZ (hw _ (List.mem_of_getElem? (i := 3) rfl))) (mvT hZ (hw _ (List.mem_of_getElem? (i := 4) rfl))) (notFace_of_selects (args := #[]) (mvT hZ (hw _ (List.mem_of_getElem? (i := 6) rfl)))) (mvT hZ (hw _ (List.mem_of_getElem? (i := 6) rfl))) (mvT hZ (hw _ (List.mem_of_getElem? (i := 5) rfl))) (by decide) (backOf (W := 0) (rmA l Z a0 hw [] a2 a2 h0 n0 Z0 S2) hZ (hw _ (List.mem_of_getElem? (i := 7) rfl)) (hw _ (List.mem_of_getElem? (i := 1) rfl)) (by decide) (by decide)) q7a q7c (g := (mkF m 27 #[.val (.int p1), .val (.int (1 : Int32)), .val (.ref a2), .unset, .unset] [(.ref a2)])) rfl (by rw [hml]; rfl) (Steps.refl _) (argsL := []) (rest := []) (lenOf pd_1 rfl) rfl (by show 2 * 0 + _ ≤ _; exact Nat.le_of_eq rfl) (hb hby at_27) (fun _ _ => ⟨rfl, e6, (by decide : 0 + 0 ≤ _), (by decide : 0 + 0 ≤ _)⟩)
    dsimp only [Pt.U, Pt.locs, Pt.cells, Pt.slots] at X7 l7 y7 z7 st7 hQ7
    subst l7 y7 z7
    obtain ⟨rfl, N7q, eh7⟩ := hQ7
    have N7 := Fr.app N0 N7q
    refine Goes.on (T' := T7) (g' := (mkF m 30 #[.val (.int p1), .val (.int (1 : Int32)), .val (.ref a2), .unset, .unset] [(.int (if a2 = a2 then 1 else 0))])) ?_ (fun t => st7.trans)
    rw [if_pos rfl]
    refine Goes.on (T' := T7) (g' := (mkF m 31 #[.val (.int p1), .val (.int (1 : Int32)), .val (.ref a2), .val (.int (1 : Int32)), .unset] [])) ?_ (fun t_ k_ => XS.istoreN X7.here hx rfl (hb hby at_30) rfl (l' := #[.val (.int p1), .val (.int (1 : Int32)), .val (.ref a2), .val (.int (1 : Int32)), .unset]) rfl k_)
    refine Goes.on (T' := T7) (g' := (mkF m 32 #[.val (.int p1), .val (.int (1 : Int32)), .val (.ref a2), .val (.int (1 : Int32)), .unset] [(.ref a2)])) ?_ (fun t_ k_ => XS.aloadN X7.here hx rfl (hb hby at_31) rfl rfl k_)
    obtain ⟨cq8, kq8, q8a, q8b, q8c⟩ := isOf hZ eh7 E2
    obtain ⟨_, _, ⟨T8, Lq_8, kq_8, nq_8⟩, -, X8, ⟨Lc8, hQ8, l8, y8, z8⟩, st8⟩ := X7.virtualBack hx (y := (⟨"com/example/syndic/syndic/terms/CdAdjustment", "word", "()Ljava/lang/String;"⟩ : MethodName)) (z := (⟨"com/example/syndic/syndic/terms/CdAdjustment", "word", "()Ljava/lang/String;"⟩ : MethodName)) hown (mvT hZ (hw _ (List.mem_of_getElem? (i := 10) rfl))) (mvT hZ (hw _ (List.mem_of_getElem? (i := 11) rfl))) (notFace_of_selects (args := #[]) (mvT hZ (hw _ (List.mem_of_getElem? (i := 13) rfl)))) (mvT hZ (hw _ (List.mem_of_getElem? (i := 13) rfl))) (mvT hZ (hw _ (List.mem_of_getElem? (i := 12) rfl))) (by decide) (backOf (W := 0) (rmW l Z a0 hw [] a2 x2 h0 n0 Z0 F2) hZ (hw _ (List.mem_of_getElem? (i := 14) rfl)) (hw _ (List.mem_of_getElem? (i := 1) rfl)) (by decide) (by decide)) q8a q8c (g := (mkF m 32 #[.val (.int p1), .val (.int (1 : Int32)), .val (.ref a2), .val (.int (1 : Int32)), .unset] [(.ref a2)])) rfl (by rw [hml]; rfl) (Steps.refl _) (argsL := []) (rest := []) (lenOf pd_2 rfl) rfl (by show 2 * 0 + _ ≤ _; exact Nat.le_of_eq rfl) (hb hby at_32) (fun _ _ => ⟨rfl, eh7, (by decide : 0 + 0 ≤ _), (by decide : 0 + 0 ≤ _)⟩)
    dsimp only [Pt.U, Pt.locs, Pt.cells, Pt.slots] at X8 l8 y8 z8 st8 hQ8
    subst l8 y8 z8
    obtain ⟨rfl, N8q, eh8⟩ := hQ8
    have N8 := Fr.app N7 N8q
    refine Goes.on (T' := T8) (g' := (mkF m 35 #[.val (.int p1), .val (.int (1 : Int32)), .val (.ref a2), .val (.int (1 : Int32)), .unset] [(.ref x2)])) ?_ (fun t => st8.trans)
    have NZ : Fr s.heap.size _ := (by rw [hh, ← hn0]; exact N8)
    obtain ⟨u9, T9, h9, q9, b9, kc9, X9, e9, E9, hS9, hk9, hZ, hown, Eu9, Cu9, Vu9, Ku9, -, -, I9, st9⟩ := ldcSV (s := s) (vm0 := s.vm) X8 hx hZ hown (hw _ (List.mem_of_getElem? (i := 17) rfl)) hwS eh8 hS0 (Nat.le_refl _) NZ hkeep I0 (by simp) hh1 hcw (vs := ([114, 101, 115, 101, 114, 118, 101, 45, 97, 110, 100, 45, 97, 115, 115, 101, 115, 115, 109, 101, 110, 116] : List Int32).map Value.int) (z := Int32.ofNat ([114, 101, 115, 101, 114, 118, 101, 45, 97, 110, 100, 45, 97, 115, 115, 101, 115, 115, 109, 101, 110, 116] : List Int32).length) ⟨by decide, by decide⟩ (by decide) (by decide) (g := (mkF m 35 #[.val (.int p1), .val (.int (1 : Int32)), .val (.ref a2), .val (.int (1 : Int32)), .unset] [(.ref x2)])) rfl (hb hby at_35) (n := 88) (by decide) (by decide) (by decide) (by decide)
    have Lu : Lat Z h9 u9 b9 kc9 ([114, 101, 115, 101, 114, 118, 101, 45, 97, 110, 100, 45, 97, 115, 115, 101, 115, 115, 109, 101, 110, 116] : List Int32) := ⟨Eu9, Cu9, Vu9, Ku9, by decide⟩
    have CS9 := CS.ext E9
    have L1x := L1.ext E9
    have L2x := L2.ext E9
    have Z9 : n0 ≤ h9.size := Nat.le_trans Z0 E9.1
    refine Goes.on (T' := T9) (g' := (mkF m 37 #[.val (.int p1), .val (.int (1 : Int32)), .val (.ref a2), .val (.int (1 : Int32)), .unset] [(.ref u9), (.ref x2)])) ?_ st9
    obtain ⟨cq10, kq10, q10a, q10b, q10c⟩ := isOf hZ e9 L2x.1
    obtain ⟨_, _, ⟨T10, Lq_10, kq_10, nq_10⟩, -, X10, ⟨Lc10, hQ10, l10, y10, z10⟩, st10⟩ := X9.virtualBack hx (y := (⟨"java/lang/String", "equals", "(Ljava/lang/Object;)Z"⟩ : MethodName)) (z := (⟨"java/lang/String", "equals", "(Ljava/lang/Object;)Z"⟩ : MethodName)) hown (mvT hZ (hw _ (List.mem_of_getElem? (i := 25) rfl))) (mvT hZ (hw _ (List.mem_of_getElem? (i := 26) rfl))) (notFace_of_selects (args := #[]) (mvT hZ (hw _ (List.mem_of_getElem? (i := 28) rfl)))) (mvT hZ (hw _ (List.mem_of_getElem? (i := 28) rfl))) (mvT hZ (hw _ (List.mem_of_getElem? (i := 27) rfl))) (by decide) (backOf (W := 0) (rmSE l Z a0 hw [] x2 u9 t2 b9 k2 kc9 ([114, 101, 115, 101, 114, 118, 101, 45, 97, 110, 100, 45, 97, 115, 115, 101, 115, 115, 109, 101, 110, 116] : List Int32) ([114, 101, 115, 101, 114, 118, 101, 45, 97, 110, 100, 45, 97, 115, 115, 101, 115, 115, 109, 101, 110, 116] : List Int32) cz h9 n0 Z9 L2x Lu CS9 hcz) hZ (hw _ (List.mem_of_getElem? (i := 29) rfl)) (hw _ (List.mem_of_getElem? (i := 18) rfl)) (by decide) (by decide)) q10a q10c (g := (mkF m 37 #[.val (.int p1), .val (.int (1 : Int32)), .val (.ref a2), .val (.int (1 : Int32)), .unset] [(.ref u9), (.ref x2)])) rfl (by rw [hml]; rfl) (Steps.refl _) (argsL := [(.ref u9)]) (rest := []) (lenOf pd_3 rfl) rfl (by show 2 * 0 + _ ≤ _; exact Nat.le_of_eq rfl) (hb hby at_37) (fun _ _ => ⟨rfl, e9, (by decide : 2 + 0 ≤ _), (by decide : 92 + 0 ≤ _)⟩)
    dsimp only [Pt.U, Pt.locs, Pt.cells, Pt.slots] at X10 l10 y10 z10 st10 hQ10
    subst l10 y10 z10
    obtain ⟨rfl, N10q, eh10⟩ := hQ10
    have N10 := Fr.app N8 N10q
    refine Goes.on (T' := T10) (g' := (mkF m 40 #[.val (.int p1), .val (.int (1 : Int32)), .val (.ref a2), .val (.int (1 : Int32)), .unset] [(.int (if ([114, 101, 115, 101, 114, 118, 101, 45, 97, 110, 100, 45, 97, 115, 115, 101, 115, 115, 109, 101, 110, 116] : List Int32) = ([114, 101, 115, 101, 114, 118, 101, 45, 97, 110, 100, 45, 97, 115, 115, 101, 115, 115, 109, 101, 110, 116] : List Int32) then 1 else 0))])) ?_ (fun t => st10.trans)
    rw [if_pos rfl]
    refine Goes.on (T' := T10) (g' := (mkF m 42 #[.val (.int p1), .val (.int (1 : Int32)), .val (.ref a2), .val (.int (1 : Int32)), .val (.int (1 : Int32))] [])) ?_ (fun t_ k_ => XS.istore X10.here hx rfl (hb hby at_40) rfl (l' := #[.val (.int p1), .val (.int (1 : Int32)), .val (.ref a2), .val (.int (1 : Int32)), .val (.int (1 : Int32))]) rfl k_)
    refine Goes.on (T' := T10) (g' := (mkF m 43 #[.val (.int p1), .val (.int (1 : Int32)), .val (.ref a2), .val (.int (1 : Int32)), .val (.int (1 : Int32))] [(.int (1 : Int32))])) ?_ (fun t_ k_ => XS.iloadN X10.here hx rfl (hb hby at_42) rfl k_)
    refine Goes.on (T' := T10) (g' := (mkF m 44 #[.val (.int p1), .val (.int (1 : Int32)), .val (.ref a2), .val (.int (1 : Int32)), .val (.int (1 : Int32))] [(.int (1 : Int32)), (.int (1 : Int32))])) ?_ (fun t_ k_ => XS.iloadN X10.here hx rfl (hb hby at_43) rfl k_)
    refine Goes.on (T' := T10) (g' := (mkF m 47 #[.val (.int p1), .val (.int (1 : Int32)), .val (.ref a2), .val (.int (1 : Int32)), .val (.int (1 : Int32))] [])) ?_ (fun t_ k_ => XS.icmpNo X10.here hx rfl (hb hby at_44) rfl (by decide) k_)
    refine Goes.on (T' := T10) (g' := (mkF m 48 #[.val (.int p1), .val (.int (1 : Int32)), .val (.ref a2), .val (.int (1 : Int32)), .val (.int (1 : Int32))] [(.int (1 : Int32))])) ?_ (fun t_ k_ => XS.iloadN X10.here hx rfl (hb hby at_47) rfl k_)
    refine Goes.on (T' := T10) (g' := (mkF m 50 #[.val (.int p1), .val (.int (1 : Int32)), .val (.ref a2), .val (.int (1 : Int32)), .val (.int (1 : Int32))] [(.int (1 : Int32)), (.int (1 : Int32))])) ?_ (fun t_ k_ => XS.iload X10.here hx rfl (hb hby at_48) rfl k_)
    refine Goes.on (T' := T10) (g' := (mkF m 53 #[.val (.int p1), .val (.int (1 : Int32)), .val (.ref a2), .val (.int (1 : Int32)), .val (.int (1 : Int32))] [])) ?_ (fun t_ k_ => XS.icmpNo X10.here hx rfl (hb hby at_50) rfl (by decide) k_)
    refine Goes.on (T' := T10) (g' := (mkF m 54 #[.val (.int p1), .val (.int (1 : Int32)), .val (.ref a2), .val (.int (1 : Int32)), .val (.int (1 : Int32))] [(.int (1 : Int32))])) ?_ (fun t_ k_ => XS.iconst X10.here hx rfl (hb hby at_53) k_)
    refine Goes.on (T' := T10) (g' := (mkF m 58 #[.val (.int p1), .val (.int (1 : Int32)), .val (.ref a2), .val (.int (1 : Int32)), .val (.int (1 : Int32))] [(.int (1 : Int32))])) ?_ (fun t_ k_ => XS.goto X10.here hx rfl (pc0 := 54) (pc' := 58) rfl (hb hby at_54) (by decide) (by decide) k_)
    rw [hWd]
    exact Goes.retnW X10 hS9 (by rw [eh10]; exact hk9) (v := some (.int (nar .boolean (1 : Int32)))) (fun fs hr => retN X10 hx (t := .boolean) Bd.returns (by simp) (hb hby at_58) hr) (fun h => by rw [Bd.returns] at h; cases h) Bd.notSynchronized (by decide) (by decide) (by rw [eh10]; exact ⟨rfl, N10⟩)
set_option maxRecDepth 65536 in
set_option maxHeartbeats 40000000 in
theorem comes_1 {Post : Tables → Env → Array Value → State → Outcome → State → Prop} (hpost : ∀ tb e args s v u, (limb_1_1.after args s (.returned v) u = true ∧ limb_1_2.after args s (.returned v) u = true ∧ True) → ReturnedEndW s (.returned v) u (Jvm.fieldLocs frame_1_writes args s ++ Jvm.arrayLocs frame_1_arrays args s ++ Jvm.staticLocs frame_1_statics s) 8 1088 → Post tb e args s (.returned v) u) :
    ArmFor flags0 classFile x code maxLocals ret World_1 tables_1 room_1 Calls_1 rest_1 Pre_1 Post := by
  intro l hfl _ _ p e ha hc hk s m args below hf hA hF happ hP
  obtain ⟨hcalls, hrest, hpre⟩ := hP
  obtain ⟨-, -, -, hnamed, -, -, -, hat⟩ := (Spec.applies_iff hf).mp happ
  obtain ⟨hg, hn⟩ := and_e (Cond.before_iff.mp (show (Jvm.Cond.and given_1 narrow_1).before args s = true from hpre))
  obtain ⟨hcount, hq0⟩ := and_e hg
  have ha0 := hq0
  obtain ⟨w0, rfl⟩ : ∃ w0 : Value, args = #[w0] := by
    have hs : args.size = 1 := by simpa [Cond.value, given_1] using hcount
    obtain ⟨L⟩ := args
    match L, hs with
    | [w0], _ => exact ⟨w0, rfl⟩
  have hw := fun d (hd : d ∈ tables_1) => atoms_spec (ws := Jvm.Cond.code x code maxLocals ret :: tables_1) hat d (List.mem_cons_of_mem _ hd)
  obtain ⟨hsets, hown0⟩ := atoms_of _ (rest_1_c_eq ▸ (show rest_1_c.before _ s = true from hrest))
  have hfit : Fit s := fun {y c} hc i hi => by
    obtain ⟨ha, rfl⟩ := Array.getElem?_eq_some_iff.mp hc
    have q := List.all_eq_true.mp ((Array.all_eq_true_iff_forall_mem.mp hF) _ (Array.getElem_mem ha)) i (List.mem_range.mpr hi)
    simpa [Array.getElem?_eq_getElem hi] using q
  obtain ⟨i0, ea0⟩ := is_v ha0
  obtain rfl : w0 = (.int i0) := Option.some.inj ea0
  obtain ⟨x1_, hr0⟩ := and_e hn
  obtain ⟨x2_, hr1⟩ := and_e hr0
  obtain ⟨o1_, hr2⟩ := and_e hr1
  obtain ⟨o2_, hr3⟩ := and_e hr2
  obtain ⟨y1_, hr4⟩ := and_e hr3
  obtain ⟨c1_, hr5⟩ := and_e hr4
  obtain ⟨v1_, hr6⟩ := and_e hr5
  obtain ⟨n1_, hr7⟩ := and_e hr6
  obtain ⟨y2_, hr8⟩ := and_e hr7
  obtain ⟨c2_, hr9⟩ := and_e hr8
  obtain ⟨v2_, hr10⟩ := and_e hr9
  obtain ⟨n2_, hr11⟩ := and_e hr10
  obtain ⟨p0, hs0⟩ := and_e hr11
  obtain ⟨p1, hs1⟩ := and_e hs0
  obtain ⟨p2, hs2⟩ := and_e hs1
  obtain ⟨p3, hs3⟩ := and_e hs2
  obtain ⟨p4, hs4⟩ := and_e hs3
  obtain ⟨p5, hs5⟩ := and_e hs4
  obtain ⟨p6, hs6⟩ := and_e hs5
  obtain ⟨q0, hs7⟩ := and_e hs6
  obtain ⟨q1, hs8⟩ := and_e hs7
  obtain ⟨q2, hs9⟩ := and_e hs8
  obtain ⟨q3, hs10⟩ := and_e hs9
  obtain ⟨q4, hs11⟩ := and_e hs10
  obtain ⟨q5, hs12⟩ := and_e hs11
  obtain ⟨q6, hs13⟩ := and_e hs12
  obtain ⟨q7, hs14⟩ := and_e hs13
  obtain ⟨q8, hs15⟩ := and_e hs14
  obtain ⟨q9, hs16⟩ := and_e hs15
  obtain ⟨q10, hs17⟩ := and_e hs16
  obtain ⟨q11, hs18⟩ := and_e hs17
  obtain ⟨q12, hs19⟩ := and_e hs18
  obtain ⟨q13, hs20⟩ := and_e hs19
  obtain ⟨q14, hs21⟩ := and_e hs20
  obtain ⟨q15, hs22⟩ := and_e hs21
  obtain ⟨q16, hs23⟩ := and_e hs22
  obtain ⟨q17, hs24⟩ := and_e hs23
  obtain ⟨q18, hs25⟩ := and_e hs24
  obtain ⟨q19, hs26⟩ := and_e hs25
  obtain ⟨q20, hs27⟩ := and_e hs26
  have q21 := hs27
  obtain ⟨a1, ev1⟩ := exa_v x1_
  have E1 := Exa.start ev1 x1_
  have S1 : Sta s s.heap "com/example/syndic/syndic/terms/CdAdjustment" "RESERVE" "Lcom/example/syndic/syndic/terms/CdAdjustment;" (.ref a1) := Sta.start ev1 (Or.inr ⟨(hw _ (List.mem_of_getElem? (i := 1) rfl)), (hw _ (List.mem_of_getElem? (i := 2) rfl))⟩)
  have O1 := own_ord ev1 o1_
  obtain ⟨a2, ev2⟩ := exa_v x2_
  have E2 := Exa.start ev2 x2_
  have S2 : Sta s s.heap "com/example/syndic/syndic/terms/CdAdjustment" "RESERVE_AND_ASSESSMENT" "Lcom/example/syndic/syndic/terms/CdAdjustment;" (.ref a2) := Sta.start ev2 (Or.inr ⟨(hw _ (List.mem_of_getElem? (i := 1) rfl)), (hw _ (List.mem_of_getElem? (i := 9) rfl))⟩)
  have O2 := own_ord ev2 o2_
  have hne : ¬ a1 = a2 := O1.ne O2 (by decide)
  obtain ⟨x1, ex1⟩ := exa_v y1_
  have F1 := Fld.start ((fld_at ev1).symm.trans ex1)
  obtain ⟨t1, k1, L1⟩ := own_lat hfit ex1 y1_ c1_ v1_ (bs := ([114, 101, 115, 101, 114, 118, 101] : List Int32)) (by decide) n1_ ⟨p0, p1, p2, p3, p4, p5, p6, trivial⟩
  obtain ⟨x2, ex2⟩ := exa_v y2_
  have F2 := Fld.start ((fld_at ev2).symm.trans ex2)
  obtain ⟨t2, k2, L2⟩ := own_lat hfit ex2 y2_ c2_ v2_ (bs := ([114, 101, 115, 101, 114, 118, 101, 45, 97, 110, 100, 45, 97, 115, 115, 101, 115, 115, 109, 101, 110, 116] : List Int32)) (by decide) n2_ ⟨q0, q1, q2, q3, q4, q5, q6, q7, q8, q9, q10, q11, q12, q13, q14, q15, q16, q17, q18, q19, q20, q21, trivial⟩
  obtain ⟨cz, ecz⟩ := is_v (Cond.before_iff.mp (hsets _ (List.mem_of_getElem? (i := 1) rfl)))
  have CS : Sta s s.heap "java/lang/String" "COMPACT_STRINGS" "Z" (.int cz) := Sta.start ecz (Or.inl (hsets _ (List.mem_of_getElem? (i := 0) rfl)))
  have hcz : ¬ cz = (0 : Int32) := gotF (Cond.eq_ints ecz (Term.int_eval (0))) (not_v (Cond.before_iff.mp (hsets _ (List.mem_of_getElem? (i := 2) rfl))))
  have hh1 : Jvm.Lit.constHeld s "com/example/syndic/syndic/terms/CdAdjustmentAddsAssessmentPinLaw" 24 := hcalls.1 _ (List.mem_cons_self ..)
  have hcw := hsets _ (List.mem_of_getElem? (i := 2) rfl)
  obtain ⟨n, o, h1, h2, h3, _, L, rfl, ⟨rfl, N⟩, hq⟩ := rm0 l s _ hw tables_1 i0 a1 a2 x1 x2 t1 t2 k1 k2 cz s.heap s.heap.size (Nat.le_refl _) rfl rfl S1 S2 E1 E2 hne F1 F2 L1 L2 CS hcz hh1 hcw p e ha hc hk s m _ below hf ((Spec.applies_iff_loose hf).mp happ).1 ⟨rfl, rfl⟩ trivial
  refine ⟨n, _, h1, h2, h3, hpost _ _ _ _ _ _ ⟨Cond.after_iff.mpr rfl, Cond.after_iff.mpr (eq_i res_at (Term.int_eval (1)) rfl), trivial⟩ ⟨hq.1, hq.2.1, hq.2.2.1, (hq.2.2.2.sift fun y hy => Or.inr (N y hy)).mono (by decide) (by decide)⟩⟩
theorem main_1_1 : Claimed_1_1 := comes_1 fun _ _ _ _ _ _ h hF => ⟨h.1, hF⟩
theorem main_1_2 : Claimed_1_2 := comes_1 fun _ _ _ _ _ _ h hF => ⟨h.2.1, hF⟩
end Jvm.Pilot.@@N@@
namespace Jvm.Pilot.@@N@@
open Jvm Jvm.ClassFile Sem Op Lib Jvm.Free Jvm.Stand Jvm.Pilot.@@N@@.Jvm.D
/-! MADE BY PROGRAM (witnessworld.py) out of the Statement's table words and the real class files: 18 classes; the members and pool entries that the words name. The judged class is class 1, her method 1. -/
namespace start1
open Jvm.ClassFile
def u (s : String) : CpInfo := .utf8 (stringToUtf16 s)
/-- a pool by its gaps: so many unusable entries, then the entry; so many at the end -/
def gap : Nat → List CpInfo → List CpInfo
  | 0, r => r
  | n + 1, r => .unusable :: gap n r
def poolList (es : List (Nat × CpInfo)) (last : Nat) : List CpInfo := es.foldr (fun e r => gap e.1 (e.2 :: r)) (gap last [])
def pool (es : List (Nat × CpInfo)) (last : Nat) : Array CpInfo := ⟨poolList es last⟩
def fileOf (pool : Array CpInfo) (this : Nat) (attrs : Array Attribute := #[]) (ms : Array MethodInfo := #[]) (fl : Nat := 33) (sup : Nat := 0) (ifs : Array Nat := #[]) (fds : Array FieldInfo := #[]) : ClassFile where
  minorVersion := 0
  majorVersion := 65
  constantPool := pool
  accessFlags := fl
  thisClass := this
  superClass := sup
  interfaces := ifs
  fields := fds
  methods := ms
  attributes := attrs
def plain (name : String) (sup : Option ClassId) : Class where
  name := name
  kind := .ordinary
  loader := none
  accessFlags := 33
  super := sup
  interfaces := #[]
  cf := none
  fields := #[]
  methods := #[]
  instanceTypes := #[]
  staticTypes := #[]
  resolved := #[]
  callSites := []
  init := .initialized
  statics := none
  mirror := none

def pool0 : Array CpInfo := pool [(5, u "<init>"), (0, u "()V"), (1, .class_ 10), (1, u "java/lang/Object")] 113

def k0m0 : Method := { name := "<init>", desc := "()V", sig := { parameters := [], returnType := none }, accessFlags := 1, code := none }
/-- java/lang/Object -/
def k0 : Class := { plain "java/lang/Object" none with
  accessFlags := 33
  interfaces := #[]
  cf := some (fileOf pool0 8 #[] #[{ accessFlags := 1, nameIndex := 5, descriptorIndex := 6, attributes := #[] }] 33 0 #[] #[])
  fields := #[]
  methods := #[k0m0]
  instanceTypes := #[]
  staticTypes := #[]
  resolved := Array.replicate 124 none
  statics := none }

def pool1 : Array CpInfo := pool [(2, .class_ 4), (1, u "java/lang/Object"), (0, u "<init>"), (0, u "()V"), (0, .fieldref 8 9), (0, .class_ 10), (0, .nameAndType 11 12), (0, u "com/example/syndic/syndic/terms/CdAdjustment"), (0, u "RESERVE_AND_ASSESSMENT"), (0, u "Lcom/example/syndic/syndic/terms/CdAdjustment;"), (0, .fieldref 8 14), (0, .nameAndType 15 12), (0, u "RESERVE"), (0, .methodref 8 17), (0, .nameAndType 18 19), (0, u "addsAssessment"), (0, u "()Z"), (0, .methodref 8 21), (0, .nameAndType 22 23), (0, u "word"), (0, u "()Ljava/lang/String;"), (0, .string 25), (0, u "reserve-and-assessment"), (0, .methodref 27 28), (0, .class_ 29), (0, .nameAndType 30 31), (0, u "java/lang/String"), (0, u "equals"), (0, u "(Ljava/lang/Object;)Z"), (0, .class_ 33), (0, u "com/example/syndic/syndic/terms/CdAdjustmentAddsAssessmentPinLaw"), (2, u "law"), (0, u "(I)Z")] 3

def k1m0 : Method := { name := "<init>", desc := "()V", sig := { parameters := [], returnType := none }, accessFlags := 2, code := none }
def k1c1 : Code := { maxStack := 2, maxLocals := 5, code := code, exceptionTable := #[], attributes := #[] }
def k1m1 : Method := { name := "law", desc := "(I)Z", sig := { parameters := [.int], returnType := some .boolean }, accessFlags := 9, code := some k1c1 }
/-- com/example/syndic/syndic/terms/CdAdjustmentAddsAssessmentPinLaw -/
def k1 : Class := { plain "com/example/syndic/syndic/terms/CdAdjustmentAddsAssessmentPinLaw" (some 0) with
  accessFlags := 49
  interfaces := #[]
  cf := some (fileOf pool1 32 #[] #[{ accessFlags := 2, nameIndex := 5, descriptorIndex := 6, attributes := #[] }, { accessFlags := 9, nameIndex := 36, descriptorIndex := 37, attributes := #[] }] 49 2 #[] #[])
  fields := #[]
  methods := #[k1m0, k1m1]
  instanceTypes := #[]
  staticTypes := #[]
  resolved := Array.replicate 41 none
  statics := none }

def pool2 : Array CpInfo := pool [(1, .class_ 2), (0, u "java/lang/constant/Constable"), (0, .class_ 4), (0, u "java/lang/Object")] 6

/-- java/lang/constant/Constable -/
def k2 : Class := { plain "java/lang/constant/Constable" (some 0) with
  accessFlags := 1537
  interfaces := #[]
  cf := some (fileOf pool2 1 #[] #[] 1537 3 #[] #[])
  fields := #[]
  methods := #[]
  instanceTypes := #[]
  staticTypes := #[]
  resolved := Array.replicate 11 none
  statics := none }

def pool3 : Array CpInfo := pool [(1, .class_ 2), (0, u "java/lang/Comparable"), (0, .class_ 4), (0, u "java/lang/Object")] 7

/-- java/lang/Comparable -/
def k3 : Class := { plain "java/lang/Comparable" (some 0) with
  accessFlags := 1537
  interfaces := #[]
  cf := some (fileOf pool3 1 #[] #[] 1537 3 #[] #[])
  fields := #[]
  methods := #[]
  instanceTypes := #[]
  staticTypes := #[]
  resolved := Array.replicate 12 none
  statics := none }

def pool4 : Array CpInfo := pool [(1, .class_ 2), (0, u "java/io/Serializable"), (0, .class_ 4), (0, u "java/lang/Object")] 2

/-- java/io/Serializable -/
def k4 : Class := { plain "java/io/Serializable" (some 0) with
  accessFlags := 1537
  interfaces := #[]
  cf := some (fileOf pool4 1 #[] #[] 1537 3 #[] #[])
  fields := #[]
  methods := #[]
  instanceTypes := #[]
  staticTypes := #[]
  resolved := Array.replicate 7 none
  statics := none }

def pool5 : Array CpInfo := pool [(2, .class_ 4), (1, u "java/lang/Enum"), (0, u "name"), (0, u "Ljava/lang/String;"), (2, u "ordinal"), (0, u "I"), (1, .class_ 14), (1, u "java/lang/Object"), (4, u "hash"), (86, .class_ 108), (1, u "java/lang/Enum$EnumDesc"), (2, .class_ 112), (0, u "java/lang/constant/Constable"), (0, .class_ 114), (0, u "java/lang/Comparable"), (0, .class_ 116), (0, u "java/io/Serializable")] 87

/-- java/lang/Enum -/
def k5 : Class := { plain "java/lang/Enum" (some 0) with
  accessFlags := 1057
  interfaces := #[2, 3, 4]
  cf := some (fileOf pool5 2 #[.nestMembers #[106]] #[] 1057 12 #[111, 113, 115] #[{ accessFlags := 18, nameIndex := 5, descriptorIndex := 6, attributes := #[] }, { accessFlags := 18, nameIndex := 9, descriptorIndex := 10, attributes := #[] }, { accessFlags := 2, nameIndex := 19, descriptorIndex := 10, attributes := #[] }])
  fields := #[{ name := "name", type := (.object "java/lang/String"), accessFlags := 18, slot := 0, constantValue := 0 }, { name := "ordinal", type := .int, accessFlags := 18, slot := 1, constantValue := 0 }, { name := "hash", type := .int, accessFlags := 2, slot := 2, constantValue := 0 }]
  methods := #[]
  instanceTypes := #[(.object "java/lang/String"), .int, .int]
  staticTypes := #[]
  resolved := Array.replicate 204 none
  statics := none }

def pool6 : Array CpInfo := pool [(1, .class_ 2), (0, u "com/example/syndic/syndic/terms/CdAdjustment"), (2, u "RESERVE"), (0, u "Lcom/example/syndic/syndic/terms/CdAdjustment;"), (0, .fieldref 1 8), (0, .nameAndType 9 6), (0, u "RESERVE_AND_ASSESSMENT"), (2, u "$VALUES"), (0, u "[Lcom/example/syndic/syndic/terms/CdAdjustment;"), (6, .class_ 22), (1, u "java/lang/Enum"), (6, .fieldref 1 30), (0, .nameAndType 31 32), (0, u "word"), (0, u "Ljava/lang/String;"), (20, u "()Ljava/lang/String;"), (0, u "addsAssessment"), (0, u "()Z")] 6

def k6c0 : Code := { maxStack := 1, maxLocals := 1, code := prog_73_method_4_code, exceptionTable := #[], attributes := #[] }
def k6m0 : Method := { name := "word", desc := "()Ljava/lang/String;", sig := { parameters := [], returnType := some (.object "java/lang/String") }, accessFlags := 1, code := some k6c0 }
def k6c1 : Code := { maxStack := 2, maxLocals := 1, code := prog_73_method_5_code, exceptionTable := #[], attributes := #[] }
def k6m1 : Method := { name := "addsAssessment", desc := "()Z", sig := { parameters := [], returnType := some .boolean }, accessFlags := 1, code := some k6c1 }
/-- com/example/syndic/syndic/terms/CdAdjustment -/
def k6 : Class := { plain "com/example/syndic/syndic/terms/CdAdjustment" (some 5) with
  accessFlags := 16433
  interfaces := #[]
  cf := some (fileOf pool6 1 #[] #[{ accessFlags := 1, nameIndex := 31, descriptorIndex := 53, attributes := #[] }, { accessFlags := 1, nameIndex := 54, descriptorIndex := 55, attributes := #[] }] 16433 20 #[] #[{ accessFlags := 16409, nameIndex := 5, descriptorIndex := 6, attributes := #[] }, { accessFlags := 16409, nameIndex := 9, descriptorIndex := 6, attributes := #[] }, { accessFlags := 18, nameIndex := 31, descriptorIndex := 32, attributes := #[] }, { accessFlags := 4122, nameIndex := 12, descriptorIndex := 13, attributes := #[] }])
  fields := #[{ name := "RESERVE", type := (.object "com/example/syndic/syndic/terms/CdAdjustment"), accessFlags := 16409, slot := 0, constantValue := 0 }, { name := "RESERVE_AND_ASSESSMENT", type := (.object "com/example/syndic/syndic/terms/CdAdjustment"), accessFlags := 16409, slot := 1, constantValue := 0 }, { name := "word", type := (.object "java/lang/String"), accessFlags := 18, slot := 3, constantValue := 0 }, { name := "$VALUES", type := (.array (.object "com/example/syndic/syndic/terms/CdAdjustment")), accessFlags := 4122, slot := 2, constantValue := 0 }]
  methods := #[k6m0, k6m1]
  instanceTypes := #[(.object "java/lang/String"), .int, .int, (.object "java/lang/String")]
  staticTypes := #[(.object "com/example/syndic/syndic/terms/CdAdjustment"), (.object "com/example/syndic/syndic/terms/CdAdjustment"), (.array (.object "com/example/syndic/syndic/terms/CdAdjustment"))]
  resolved := Array.replicate 62 none
  statics := some 0 }

def pool7 : Array CpInfo := pool [(2, .class_ 4), (1, u "java/lang/CharSequence"), (42, .class_ 48), (0, u "java/lang/CharSequence$1CodePointIterator"), (10, .class_ 60), (0, u "java/lang/CharSequence$1CharIterator"), (5, .class_ 67), (0, u "java/lang/Object")] 63

/-- java/lang/CharSequence -/
def k7 : Class := { plain "java/lang/CharSequence" (some 0) with
  accessFlags := 1537
  interfaces := #[]
  cf := some (fileOf pool7 2 #[.nestMembers #[47, 59]] #[] 1537 66 #[] #[])
  fields := #[]
  methods := #[]
  instanceTypes := #[]
  staticTypes := #[]
  resolved := Array.replicate 131 none
  statics := none }

def pool8 : Array CpInfo := pool [(1, .class_ 2), (0, u "java/lang/constant/ConstantDesc"), (0, .class_ 4), (0, u "java/lang/Object")] 32

/-- java/lang/constant/ConstantDesc -/
def k8 : Class := { plain "java/lang/constant/ConstantDesc" (some 0) with
  accessFlags := 1537
  interfaces := #[]
  cf := some (fileOf pool8 1 #[] #[] 1537 3 #[] #[])
  fields := #[]
  methods := #[]
  instanceTypes := #[]
  staticTypes := #[]
  resolved := Array.replicate 37 none
  statics := none }

def pool9 : Array CpInfo := pool [(2, .class_ 4), (1, u "java/lang/Object"), (0, u "<init>"), (0, u "()V"), (2, .fieldref 10 11), (0, .class_ 12), (0, .nameAndType 13 14), (0, u "java/lang/String"), (0, u "value"), (0, u "[B"), (0, .fieldref 10 16), (0, .nameAndType 17 18), (0, u "coder"), (0, u "B"), (2, u "hash"), (0, u "I"), (2, u "hashIsZero"), (0, u "Z"), (11, .fieldref 10 39), (0, .nameAndType 40 26), (0, u "COMPACT_STRINGS"), (66, .class_ 109), (1, u "java/lang/StringLatin1"), (431, .methodref 107 542), (0, .nameAndType 543 544), (0, u "equals"), (0, u "([B[B)Z"), (28, u "(Ljava/lang/Object;)Z"), (1, .class_ 576), (0, u "java/lang/CharSequence"), (22, u "CASE_INSENSITIVE_ORDER"), (0, u "Ljava/util/Comparator;"), (500, u "serialPersistentFields"), (0, u "[Ljava/io/ObjectStreamField;"), (0, .class_ 1104), (0, u "java/lang/String$CaseInsensitiveComparator"), (1, .class_ 1107), (0, u "java/io/Serializable"), (0, .class_ 1109), (0, u "java/lang/Comparable"), (0, .class_ 1111), (0, u "java/lang/constant/Constable"), (0, .class_ 1113), (0, u "java/lang/constant/ConstantDesc"), (2, u "serialVersionUID"), (0, u "J"), (3, u "REPL"), (0, u "C"), (2, u "LATIN1"), (1, u "UTF16")] 323

def k9m0 : Method := { name := "<init>", desc := "()V", sig := { parameters := [], returnType := none }, accessFlags := 1, code := none }
def k9c1 : Code := { maxStack := 2, maxLocals := 3, code := jdk_42_method_66_code, exceptionTable := #[], attributes := #[] }
def k9m1 : Method := { name := "equals", desc := "(Ljava/lang/Object;)Z", sig := { parameters := [(.object "java/lang/Object")], returnType := some .boolean }, accessFlags := 1, code := some k9c1 }
/-- java/lang/String -/
def k9 : Class := { plain "java/lang/String" (some 0) with
  accessFlags := 49
  interfaces := #[4, 3, 7, 2, 8]
  cf := some (fileOf pool9 10 #[.nestMembers #[1103]] #[{ accessFlags := 1, nameIndex := 5, descriptorIndex := 6, attributes := #[] }, { accessFlags := 1, nameIndex := 543, descriptorIndex := 573, attributes := #[] }] 49 2 #[1106, 1108, 575, 1110, 1112] #[{ accessFlags := 18, nameIndex := 13, descriptorIndex := 14, attributes := #[] }, { accessFlags := 18, nameIndex := 17, descriptorIndex := 18, attributes := #[] }, { accessFlags := 2, nameIndex := 21, descriptorIndex := 22, attributes := #[] }, { accessFlags := 2, nameIndex := 25, descriptorIndex := 26, attributes := #[] }, { accessFlags := 26, nameIndex := 1116, descriptorIndex := 1117, attributes := #[] }, { accessFlags := 24, nameIndex := 40, descriptorIndex := 26, attributes := #[] }, { accessFlags := 26, nameIndex := 1101, descriptorIndex := 1102, attributes := #[] }, { accessFlags := 26, nameIndex := 1121, descriptorIndex := 1122, attributes := #[] }, { accessFlags := 25, nameIndex := 599, descriptorIndex := 600, attributes := #[] }, { accessFlags := 24, nameIndex := 1125, descriptorIndex := 18, attributes := #[] }, { accessFlags := 24, nameIndex := 1127, descriptorIndex := 18, attributes := #[] }])
  fields := #[{ name := "value", type := (.array .byte), accessFlags := 18, slot := 0, constantValue := 0 }, { name := "coder", type := .byte, accessFlags := 18, slot := 1, constantValue := 0 }, { name := "hash", type := .int, accessFlags := 2, slot := 2, constantValue := 0 }, { name := "hashIsZero", type := .boolean, accessFlags := 2, slot := 3, constantValue := 0 }, { name := "serialVersionUID", type := .long, accessFlags := 26, slot := 0, constantValue := 0 }, { name := "COMPACT_STRINGS", type := .boolean, accessFlags := 24, slot := 1, constantValue := 0 }, { name := "serialPersistentFields", type := (.array (.object "java/io/ObjectStreamField")), accessFlags := 26, slot := 2, constantValue := 0 }, { name := "REPL", type := .char, accessFlags := 26, slot := 3, constantValue := 0 }, { name := "CASE_INSENSITIVE_ORDER", type := (.object "java/util/Comparator"), accessFlags := 25, slot := 4, constantValue := 0 }, { name := "LATIN1", type := .byte, accessFlags := 24, slot := 5, constantValue := 0 }, { name := "UTF16", type := .byte, accessFlags := 24, slot := 6, constantValue := 0 }]
  methods := #[k9m0, k9m1]
  instanceTypes := #[(.array .byte), .byte, .int, .boolean]
  staticTypes := #[.long, .boolean, (.array (.object "java/io/ObjectStreamField")), .char, (.object "java/util/Comparator"), .byte, .byte]
  resolved := Array.replicate 1451 none
  statics := some 1 }

def pool10 : Array CpInfo := pool [(4, .class_ 6), (1, u "java/lang/Object"), (0, u "<init>"), (0, u "()V"), (5, .class_ 16), (1, u "java/lang/StringLatin1"), (104, u "$assertionsDisabled"), (0, u "Z"), (98, .class_ 223), (1, u "java/lang/StringLatin1$LinesSpliterator"), (57, u "equals"), (0, u "([B[B)Z"), (107, .class_ 391), (0, u "java/lang/StringLatin1$CharsSpliterator")] 3

def k10m0 : Method := { name := "<init>", desc := "()V", sig := { parameters := [], returnType := none }, accessFlags := 0, code := none }
def k10c1 : Code := { maxStack := 3, maxLocals := 3, code := jdk_43_method_13_code, exceptionTable := #[], attributes := #[] }
def k10m1 : Method := { name := "equals", desc := "([B[B)Z", sig := { parameters := [(.array .byte), (.array .byte)], returnType := some .boolean }, accessFlags := 9, code := some k10c1 }
/-- java/lang/StringLatin1 -/
def k10 : Class := { plain "java/lang/StringLatin1" (some 0) with
  accessFlags := 48
  interfaces := #[]
  cf := some (fileOf pool10 14 #[.nestMembers #[390, 221]] #[{ accessFlags := 0, nameIndex := 7, descriptorIndex := 8, attributes := #[] }, { accessFlags := 9, nameIndex := 281, descriptorIndex := 282, attributes := #[] }] 48 4 #[] #[{ accessFlags := 4120, nameIndex := 121, descriptorIndex := 122, attributes := #[] }])
  fields := #[{ name := "$assertionsDisabled", type := .boolean, accessFlags := 4120, slot := 0, constantValue := 0 }]
  methods := #[k10m0, k10m1]
  instanceTypes := #[]
  staticTypes := #[.boolean]
  resolved := Array.replicate 395 none
  statics := none }

def pool11 : Array CpInfo := pool [(2, .class_ 4), (1, u "java/lang/Object"), (0, u "<init>"), (0, u "()V"), (17, .class_ 26), (1, u "jdk/internal/util/Preconditions"), (28, .class_ 56), (0, u "jdk/internal/util/Preconditions$4"), (57, .class_ 115), (0, u "jdk/internal/util/Preconditions$1"), (7, u "SIOOBE_FORMATTER"), (0, u "Ljava/util/function/BiFunction;"), (0, .class_ 126), (0, u "jdk/internal/util/Preconditions$2"), (3, u "AIOOBE_FORMATTER"), (0, .class_ 132), (0, u "jdk/internal/util/Preconditions$3"), (3, u "IOOBE_FORMATTER")] 57

def k11m0 : Method := { name := "<init>", desc := "()V", sig := { parameters := [], returnType := none }, accessFlags := 1, code := none }
/-- jdk/internal/util/Preconditions -/
def k11 : Class := { plain "jdk/internal/util/Preconditions" (some 0) with
  accessFlags := 33
  interfaces := #[]
  cf := some (fileOf pool11 24 #[.nestMembers #[55, 131, 125, 114]] #[{ accessFlags := 1, nameIndex := 5, descriptorIndex := 6, attributes := #[] }] 33 2 #[] #[{ accessFlags := 25, nameIndex := 123, descriptorIndex := 124, attributes := #[] }, { accessFlags := 25, nameIndex := 130, descriptorIndex := 124, attributes := #[] }, { accessFlags := 25, nameIndex := 136, descriptorIndex := 124, attributes := #[] }])
  fields := #[{ name := "SIOOBE_FORMATTER", type := (.object "java/util/function/BiFunction"), accessFlags := 25, slot := 0, constantValue := 0 }, { name := "AIOOBE_FORMATTER", type := (.object "java/util/function/BiFunction"), accessFlags := 25, slot := 1, constantValue := 0 }, { name := "IOOBE_FORMATTER", type := (.object "java/util/function/BiFunction"), accessFlags := 25, slot := 2, constantValue := 0 }]
  methods := #[k11m0]
  instanceTypes := #[]
  staticTypes := #[(.object "java/util/function/BiFunction"), (.object "java/util/function/BiFunction"), (.object "java/util/function/BiFunction")]
  resolved := Array.replicate 194 none
  statics := some 2 }

def pool12 : Array CpInfo := pool [(9, u "<init>"), (6, .class_ 18), (1, u "java/lang/Object"), (0, u "()V"), (1, .class_ 23), (1, u "jdk/internal/util/ArraysSupport"), (0, u "LOG2_ARRAY_LONG_INDEX_SCALE"), (0, u "I"), (2, u "U"), (0, u "Ljdk/internal/misc/Unsafe;"), (8, u "BIG_ENDIAN"), (0, u "Z"), (8, u "LOG2_BYTE_BIT_SIZE"), (4, u "LOG2_ARRAY_INT_INDEX_SCALE"), (54, u "JLA"), (0, u "Ljdk/internal/access/JavaLangAccess;"), (11, u "LOG2_ARRAY_BOOLEAN_INDEX_SCALE"), (9, u "LOG2_ARRAY_BYTE_INDEX_SCALE"), (5, u "LOG2_ARRAY_CHAR_INDEX_SCALE"), (5, u "LOG2_ARRAY_SHORT_INDEX_SCALE"), (18, u "LOG2_ARRAY_FLOAT_INDEX_SCALE"), (24, u "LOG2_ARRAY_DOUBLE_INDEX_SCALE"), (89, u "T_BOOLEAN"), (2, u "T_CHAR"), (1, u "T_FLOAT"), (1, u "T_DOUBLE"), (1, u "T_BYTE"), (1, u "T_SHORT"), (1, u "T_INT"), (1, u "T_LONG"), (1, u "SOFT_MAX_ARRAY_LENGTH")] 83

def k12m0 : Method := { name := "<init>", desc := "()V", sig := { parameters := [], returnType := none }, accessFlags := 2, code := none }
/-- jdk/internal/util/ArraysSupport -/
def k12 : Class := { plain "jdk/internal/util/ArraysSupport" (some 0) with
  accessFlags := 33
  interfaces := #[]
  cf := some (fileOf pool12 21 #[] #[{ accessFlags := 2, nameIndex := 9, descriptorIndex := 19, attributes := #[] }] 33 16 #[] #[{ accessFlags := 24, nameIndex := 28, descriptorIndex := 29, attributes := #[] }, { accessFlags := 26, nameIndex := 38, descriptorIndex := 39, attributes := #[] }, { accessFlags := 25, nameIndex := 121, descriptorIndex := 25, attributes := #[] }, { accessFlags := 25, nameIndex := 131, descriptorIndex := 25, attributes := #[] }, { accessFlags := 25, nameIndex := 137, descriptorIndex := 25, attributes := #[] }, { accessFlags := 25, nameIndex := 143, descriptorIndex := 25, attributes := #[] }, { accessFlags := 25, nameIndex := 53, descriptorIndex := 25, attributes := #[] }, { accessFlags := 25, nameIndex := 24, descriptorIndex := 25, attributes := #[] }, { accessFlags := 25, nameIndex := 162, descriptorIndex := 25, attributes := #[] }, { accessFlags := 25, nameIndex := 187, descriptorIndex := 25, attributes := #[] }, { accessFlags := 26, nameIndex := 48, descriptorIndex := 25, attributes := #[] }, { accessFlags := 25, nameIndex := 277, descriptorIndex := 25, attributes := #[] }, { accessFlags := 25, nameIndex := 280, descriptorIndex := 25, attributes := #[] }, { accessFlags := 25, nameIndex := 282, descriptorIndex := 25, attributes := #[] }, { accessFlags := 25, nameIndex := 284, descriptorIndex := 25, attributes := #[] }, { accessFlags := 25, nameIndex := 286, descriptorIndex := 25, attributes := #[] }, { accessFlags := 25, nameIndex := 288, descriptorIndex := 25, attributes := #[] }, { accessFlags := 25, nameIndex := 290, descriptorIndex := 25, attributes := #[] }, { accessFlags := 25, nameIndex := 292, descriptorIndex := 25, attributes := #[] }, { accessFlags := 26, nameIndex := 108, descriptorIndex := 109, attributes := #[] }, { accessFlags := 25, nameIndex := 294, descriptorIndex := 25, attributes := #[] }])
  fields := #[{ name := "U", type := (.object "jdk/internal/misc/Unsafe"), accessFlags := 24, slot := 0, constantValue := 0 }, { name := "BIG_ENDIAN", type := .boolean, accessFlags := 26, slot := 1, constantValue := 0 }, { name := "LOG2_ARRAY_BOOLEAN_INDEX_SCALE", type := .int, accessFlags := 25, slot := 2, constantValue := 0 }, { name := "LOG2_ARRAY_BYTE_INDEX_SCALE", type := .int, accessFlags := 25, slot := 3, constantValue := 0 }, { name := "LOG2_ARRAY_CHAR_INDEX_SCALE", type := .int, accessFlags := 25, slot := 4, constantValue := 0 }, { name := "LOG2_ARRAY_SHORT_INDEX_SCALE", type := .int, accessFlags := 25, slot := 5, constantValue := 0 }, { name := "LOG2_ARRAY_INT_INDEX_SCALE", type := .int, accessFlags := 25, slot := 6, constantValue := 0 }, { name := "LOG2_ARRAY_LONG_INDEX_SCALE", type := .int, accessFlags := 25, slot := 7, constantValue := 0 }, { name := "LOG2_ARRAY_FLOAT_INDEX_SCALE", type := .int, accessFlags := 25, slot := 8, constantValue := 0 }, { name := "LOG2_ARRAY_DOUBLE_INDEX_SCALE", type := .int, accessFlags := 25, slot := 9, constantValue := 0 }, { name := "LOG2_BYTE_BIT_SIZE", type := .int, accessFlags := 26, slot := 10, constantValue := 0 }, { name := "T_BOOLEAN", type := .int, accessFlags := 25, slot := 11, constantValue := 0 }, { name := "T_CHAR", type := .int, accessFlags := 25, slot := 12, constantValue := 0 }, { name := "T_FLOAT", type := .int, accessFlags := 25, slot := 13, constantValue := 0 }, { name := "T_DOUBLE", type := .int, accessFlags := 25, slot := 14, constantValue := 0 }, { name := "T_BYTE", type := .int, accessFlags := 25, slot := 15, constantValue := 0 }, { name := "T_SHORT", type := .int, accessFlags := 25, slot := 16, constantValue := 0 }, { name := "T_INT", type := .int, accessFlags := 25, slot := 17, constantValue := 0 }, { name := "T_LONG", type := .int, accessFlags := 25, slot := 18, constantValue := 0 }, { name := "JLA", type := (.object "jdk/internal/access/JavaLangAccess"), accessFlags := 26, slot := 19, constantValue := 0 }, { name := "SOFT_MAX_ARRAY_LENGTH", type := .int, accessFlags := 25, slot := 20, constantValue := 0 }]
  methods := #[k12m0]
  instanceTypes := #[]
  staticTypes := #[(.object "jdk/internal/misc/Unsafe"), .boolean, .int, .int, .int, .int, .int, .int, .int, .int, .int, .int, .int, .int, .int, .int, .int, .int, .int, (.object "jdk/internal/access/JavaLangAccess"), .int]
  resolved := Array.replicate 378 none
  statics := none }

def pool13 : Array CpInfo := pool [(1, u "java/lang/Cloneable"), (0, .class_ 1), (0, u "java/lang/Object"), (0, .class_ 3)] 3

/-- java/lang/Cloneable -/
def k13 : Class := { plain "java/lang/Cloneable" (some 0) with
  accessFlags := 1537
  interfaces := #[]
  cf := some (fileOf pool13 2 #[] #[] 1537 4 #[] #[])
  fields := #[]
  methods := #[]
  instanceTypes := #[]
  staticTypes := #[]
  resolved := Array.replicate 8 none
  statics := none }

/-- the primitive byte -/
def k14 : Class := { plain "byte" none with kind := .primitive 'B', accessFlags := 0x411 }
/-- [B -/
def k15 : Class := { plain "[B" (some 0) with kind := .array 14 .byte, interfaces := #[13, 4], accessFlags := 1041 }

/-- the primitive int -/
def k16 : Class := { plain "int" none with kind := .primitive 'I', accessFlags := 0x411 }
/-- [I -/
def k17 : Class := { plain "[I" (some 0) with kind := .array 16 .int, interfaces := #[13, 4], accessFlags := 1041 }

def heap : Heap := #[{ cls := 6, slots := #[.ref 7, .ref 8, .null], vm := .statics 6 },
  { cls := 9, slots := #[.long 0, .int 1, .null, .int 0, .null, .int 0, .int 0], vm := .statics 9 },
  { cls := 11, slots := #[.null, .null, .null], vm := .statics 11 },
  { cls := 15, slots := #[.int 114, .int 101, .int 115, .int 101, .int 114, .int 118, .int 101], vm := .none },
  { cls := 15, slots := #[.int 114, .int 101, .int 115, .int 101, .int 114, .int 118, .int 101, .int 45, .int 97, .int 110, .int 100, .int 45, .int 97, .int 115, .int 115, .int 101, .int 115, .int 115, .int 109, .int 101, .int 110, .int 116], vm := .none },
  { cls := 9, slots := #[.ref 3, .int 0, .int 0, .int 0], vm := .none },
  { cls := 9, slots := #[.ref 4, .int 0, .int 0, .int 0], vm := .none },
  { cls := 6, slots := #[.null, .int 0, .int 0, .ref 5], vm := .none },
  { cls := 6, slots := #[.null, .int 1, .int 0, .ref 6], vm := .none }]
def classes : Array Class := #[k0, k1, k2, k3, k4, k5, k6, k7, k8, k9, k10, k11, k12, k13, k14, k15, k16, k17]
def interned : List (Array UInt16 × Addr) := []
def slotsUsed : Nat := 58
def theMethod : MethodId := ⟨1, 1⟩
def args0 : Array Value := #[.int 5]
def aboutOver (below : List Frame) : State where
  vm := { classes := classes, interned := interned.toArray }
  heap := heap
  slotsUsed := slotsUsed
  threads := #[{ frames := .invoking theMethod args0 :: below }]
def below0 : List Frame := [.native { method := ⟨0, 0⟩, args := #[] }]
def about1 : State := aboutOver below0
def p0 : Program := .bare "" "" ""
def e0 : Env := launch0.env 0 0 0
theorem w_frames : about1.frames = Frame.invoking theMethod args0 :: below0 := rfl
set_option maxRecDepth 65536 in
theorem w_args : argsFit about1.vm theMethod args0 = true := by decide +kernel
set_option maxRecDepth 65536 in
theorem w_heap : heapFits about1 = true := by decide +kernel
set_option maxRecDepth 65536 in
theorem w_runnable : about1.curStatus? = some .runnable := by decide +kernel
set_option maxRecDepth 65536 in
theorem w_alone : about1.alone = true := by decide +kernel
set_option maxRecDepth 65536 in
theorem w_named : about1.methodNamed? x = some theMethod := by decide +kernel
set_option maxRecDepth 65536 in
theorem w_hears : about1.hears theMethod below0 = true := by decide +kernel
set_option maxRecDepth 65536 in
theorem w_ripe : about1.ripe theMethod args0 below0 = true := by decide +kernel
theorem w_running : about1.status = .running := rfl
set_option maxRecDepth 65536 in
theorem w_room : about1.hasRoom e0.platform room_1 = true :=
  launch0.hasRoom_least _ room_1 (by decide +kernel) (by decide +kernel) (by decide +kernel) (by decide +kernel) (by decide +kernel) (by decide +kernel)
theorem allAtoms_all (ts : List Jvm.Cond) (a : Array Jvm.Value) (st : Jvm.State) : (allAtoms ts).before a st = ts.all (fun c => c.before a st) := by
  induction ts with
  | nil => rfl
  | cons c t ih =>
    show (Jvm.Cond.and c (allAtoms t)).before a st = _
    rw [Jvm.Cond.before_and, ih, List.all_cons]
def words1 : List Jvm.Cond := Jvm.Cond.code x code maxLocals ret :: tables_1
/-- a 'code' word, met by the world's own term for the bytes: nothing is compared byte by byte -/
theorem code_word {y : MethodName} {bytes : ByteArray} {mx : Nat} {rt : Option FieldType} {a : Array Value} {s : State} {m : MethodId} {meth : Method} {c : Code} (h1 : s.methodNamed? y = some m) (h2 : s.vm.method? m = some meth) (h3 : meth.code = some c) (h4 : c.code = bytes)
    (h5 : (c.maxLocals == mx && c.exceptionTable.isEmpty && decide (c.maxStack ≤ mostOperands) && decide (meth.sig.returnType = rt) && !meth.locks && decide (parseMethodDescriptor y.desc = some meth.sig)) = true) : (Jvm.Cond.code y bytes mx rt).before a s = true := by
  simp only [Bool.and_eq_true, beq_iff_eq, Bool.not_eq_true', decide_eq_true_eq] at h5
  obtain ⟨⟨⟨⟨⟨g1, g2⟩, g3⟩, g4⟩, g5⟩, g6⟩ := h5
  simp [Cond.before, Cond.holds, Cond.value, h1, h2, h3, h4, g1, g2, g3, g4, g5, g6]
def isCode : Jvm.Cond → Bool
  | .code _ _ _ _ => true
  | _ => false
theorem all_split {L : List Jvm.Cond} {P : Jvm.Cond → Bool} (h1 : L.all (fun c => isCode c || P c) = true) (h2 : ∀ c ∈ L.filter isCode, P c = true) : L.all P = true := by
  refine List.all_eq_true.mpr fun c hc => ?_
  have h := List.all_eq_true.mp h1 c hc
  rcases Bool.eq_false_or_eq_true (isCode c) with hi | hi
  · exact h2 c (List.mem_filter.mpr ⟨hc, hi⟩)
  · simpa [hi] using h
set_option maxRecDepth 65536 in
theorem w_c0 : (Jvm.Cond.code x code maxLocals ret).before args0 about1 = true := code_word (m := ⟨1, 1⟩) (meth := k1m1) (c := k1c1) (by decide +kernel) rfl rfl rfl (by decide +kernel)
set_option maxRecDepth 65536 in
theorem w_c1 : (Jvm.Cond.code ({ cls := "com/example/syndic/syndic/terms/CdAdjustment", name := "addsAssessment", desc := "()Z" } : Jvm.MethodName) prog_73_method_5_code (1 : Nat) (Option.some Jvm.ClassFile.FieldType.boolean)).before args0 about1 = true := code_word (m := ⟨6, 1⟩) (meth := k6m1) (c := k6c1) (by decide +kernel) rfl rfl rfl (by decide +kernel)
set_option maxRecDepth 65536 in
theorem w_c2 : (Jvm.Cond.code ({ cls := "com/example/syndic/syndic/terms/CdAdjustment", name := "word", desc := "()Ljava/lang/String;" } : Jvm.MethodName) prog_73_method_4_code (1 : Nat) (Option.some (Jvm.ClassFile.FieldType.object "java/lang/String"))).before args0 about1 = true := code_word (m := ⟨6, 0⟩) (meth := k6m0) (c := k6c0) (by decide +kernel) rfl rfl rfl (by decide +kernel)
set_option maxRecDepth 65536 in
theorem w_c3 : (Jvm.Cond.code ({ cls := "java/lang/String", name := "equals", desc := "(Ljava/lang/Object;)Z" } : Jvm.MethodName) jdk_42_method_66_code (3 : Nat) (Option.some Jvm.ClassFile.FieldType.boolean)).before args0 about1 = true := code_word (m := ⟨9, 1⟩) (meth := k9m1) (c := k9c1) (by decide +kernel) rfl rfl rfl (by decide +kernel)
set_option maxRecDepth 65536 in
theorem w_c4 : (Jvm.Cond.code ({ cls := "java/lang/StringLatin1", name := "equals", desc := "([B[B)Z" } : Jvm.MethodName) jdk_43_method_13_code (3 : Nat) (Option.some Jvm.ClassFile.FieldType.boolean)).before args0 about1 = true := code_word (m := ⟨10, 1⟩) (meth := k10m1) (c := k10c1) (by decide +kernel) rfl rfl rfl (by decide +kernel)
def codes1 : List Jvm.Cond := [Jvm.Cond.code x code maxLocals ret, Jvm.Cond.code ({ cls := "com/example/syndic/syndic/terms/CdAdjustment", name := "addsAssessment", desc := "()Z" } : Jvm.MethodName) prog_73_method_5_code (1 : Nat) (Option.some Jvm.ClassFile.FieldType.boolean), Jvm.Cond.code ({ cls := "com/example/syndic/syndic/terms/CdAdjustment", name := "word", desc := "()Ljava/lang/String;" } : Jvm.MethodName) prog_73_method_4_code (1 : Nat) (Option.some (Jvm.ClassFile.FieldType.object "java/lang/String")), Jvm.Cond.code ({ cls := "java/lang/String", name := "equals", desc := "(Ljava/lang/Object;)Z" } : Jvm.MethodName) jdk_42_method_66_code (3 : Nat) (Option.some Jvm.ClassFile.FieldType.boolean), Jvm.Cond.code ({ cls := "java/lang/StringLatin1", name := "equals", desc := "([B[B)Z" } : Jvm.MethodName) jdk_43_method_13_code (3 : Nat) (Option.some Jvm.ClassFile.FieldType.boolean)]
set_option maxRecDepth 65536 in
theorem codes_eq : words1.filter isCode = codes1 := rfl
theorem w_codes : ∀ c ∈ words1.filter isCode, c.before args0 about1 = true := by
  rw [codes_eq]
  intro c hc
  simp only [codes1, List.mem_cons, List.not_mem_nil, or_false] at hc
  rcases hc with rfl | rfl | rfl | rfl | rfl
  · exact w_c0
  · exact w_c1
  · exact w_c2
  · exact w_c3
  · exact w_c4
set_option maxRecDepth 65536 in
theorem w_t1 : (words1.take 24).all (fun c => isCode c || c.before args0 about1) = true := by decide +kernel
set_option maxRecDepth 65536 in
theorem w_t2 : (words1.drop 24).all (fun c => isCode c || c.before args0 about1) = true := by decide +kernel
theorem w_tables : (allAtoms (Jvm.Cond.code x code maxLocals ret :: tables_1)).before args0 about1 = true := by
  rw [allAtoms_all]
  show words1.all (fun c => c.before args0 about1) = true
  refine all_split ?_ w_codes
  rw [← List.take_append_drop 24 words1, List.all_append, w_t1, w_t2]
  rfl
set_option maxRecDepth 65536 in
theorem w_rest : rest_1_c.before args0 about1 = true := by decide +kernel
set_option maxRecDepth 65536 in
theorem w_case : (Jvm.Cond.and given_1 narrow_1).before args0 about1 = true := by decide +kernel
set_option maxRecDepth 65536 in
theorem w_consts : constsHeld consts_1 about1 := Jvm.Lit.constsHeldB_iff.mp (by decide +kernel)
theorem w_applies : (headSpec (Jvm.Cond.code x code maxLocals ret :: tables_1) room_1).applies x e0.platform about1 = true :=
  (Spec.applies_iff w_frames).mpr ⟨w_running, w_runnable, w_alone, w_named, w_hears, w_ripe, w_room, w_tables⟩
theorem atStart : AtStart classFile x code maxLocals ret World_1 tables_1 room_1 Calls_1 rest_1 Pre_1 launch0 p0 e0 about1 theMethod args0 below0 :=
  ⟨lists_1, trivial, launch0.admits_env _ _ _, launch0.least_env, fairChoices_fair.cas, fairChoices_fair.clock, w_frames, w_args, w_heap, w_applies, ⟨w_consts, trivial⟩, w_rest, w_case⟩
end start1
theorem witness_1 : WitnessClaimed_1 := ⟨start1.p0, start1.e0, start1.about1, start1.theMethod, start1.args0, start1.below0, start1.atStart⟩
end Jvm.Pilot.@@N@@
