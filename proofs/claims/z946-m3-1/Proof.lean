import JvmDerived
import JvmDerived.Pilot.@@N@@Statement
import JvmDerived.Pilot.@@N@@Code
set_option linter.unusedVariables false
set_option linter.unusedSimpArgs false
namespace Jvm.RoadKit
open Sem ClassFile Op Lib Jvm.Stand Jvm.Free Jvm.LawKit
section New
variable {p : Program} {l : Launch} {e : Env} {R : Room} {s : State} {m : MethodId} {args : Array Value} {below : List Frame} {meth : Method} {c : Code} {T T' : State} {locs : List Loc} {cells slots : Nat}
theorem retI (X : Stand p l e R s m args below meth c T locs cells slots) (hx : p.tables.exec = Jvm.exec) {pc : Nat} {Ls : Array Slot} {z : Int32} {rest : List Value} (hret : meth.sig.returnType = some .int) (hd : decode c.code pc = .ok (.ireturn, 1)) {fs : List Frame}
    (hl : ∀ (f : JFrame) (acts : List Action), f.method = m → f.locked = none → f.entered = [] → (doReturn e (T.setTop f) acts (some (.int z))).1 = T.setFrames fs) : Steps p.tables e below (T.setTop (mkF m pc Ls (.int z :: rest))) (T.setFrames fs) :=
  retOut X hx hret rfl (Or.inl ⟨rfl, Or.inl rfl, _, rfl⟩) hd hl
theorem retL (X : Stand p l e R s m args below meth c T locs cells slots) (hx : p.tables.exec = Jvm.exec) {pc : Nat} {Ls : Array Slot} {z : Int64} {rest : List Value} (hret : meth.sig.returnType = some .long) (hd : decode c.code pc = .ok (.lreturn, 1)) {fs : List Frame}
    (hl : ∀ (f : JFrame) (acts : List Action), f.method = m → f.locked = none → f.entered = [] → (doReturn e (T.setTop f) acts (some (.long z))).1 = T.setFrames fs) : Steps p.tables e below (T.setTop (mkF m pc Ls (.long z :: rest))) (T.setFrames fs) :=
  retOut X hx hret rfl (Or.inr (Or.inl ⟨rfl, rfl, _, rfl⟩)) hd hl
theorem retA (X : Stand p l e R s m args below meth c T locs cells slots) (hx : p.tables.exec = Jvm.exec) {pc : Nat} {Ls : Array Slot} {w : Value} {t : FieldType} {rest : List Value} (hret : meth.sig.returnType = some t) (ht : t.isReference = true) (hw : w.isRef = true) (hd : decode c.code pc = .ok (.areturn, 1)) {fs : List Frame}
    (hl : ∀ (f : JFrame) (acts : List Action), f.method = m → f.locked = none → f.entered = [] → (doReturn e (T.setTop f) acts (some w)).1 = T.setFrames fs) : Steps p.tables e below (T.setTop (mkF m pc Ls (w :: rest))) (T.setFrames fs) :=
  retOut X hx hret (by rcases ref_cases hw with rfl | ⟨a, rfl⟩ <;> cases t <;> first | rfl | cases ht) (Or.inr (Or.inr (Or.inr (Or.inr ⟨rfl, ht, hw⟩)))) hd hl
/-! the walk by continuations -/
variable {W : State → Prop} {g g' : JFrame}
def Goes (p : Program) (e : Env) (below : List Frame) (W : State → Prop) (T : State) (g : JFrame) : Prop := ∃ t, Steps p.tables e below (T.setTop g) t ∧ W t
def EndW (s : State) (below : List Frame) (Q : Option Value → Heap → List Loc → Prop) (k n : Nat) (t : State) : Prop := t.status = .running ∧ ∃ o, Ended t below o ∧ ∃ v L, o = .returned v ∧ Q v t.heap L ∧ FrameEnd s o t L k n
theorem Goes.on (k : Goes p e below W T' g') (h : ∀ t, Steps p.tables e below (T'.setTop g') t → Steps p.tables e below (T.setTop g) t) : Goes p e below W T g := by
  obtain ⟨t, h1, h2⟩ := k; exact ⟨t, h t h1, h2⟩
theorem Goes.done {Q : Option Value → Heap → List Loc → Prop} {k n : Nat} (h : Goes p e below (EndW s below Q k n) T g) :
    ∃ s₂ o, Steps p.tables e below (T.setTop g) s₂ ∧ s₂.status = .running ∧ Ended s₂ below o ∧ ∃ v L, o = .returned v ∧ Q v s₂.heap L ∧ FrameEnd s o s₂ L k n := by
  obtain ⟨t, h1, h2, o, h3, h4⟩ := h; exact ⟨t, o, h1, h2, h3, h4⟩
theorem Goes.retn {Q : Option Value → Heap → List Loc → Prop} {k n : Nat} (X : Stand p l e R s m args below meth c T locs cells slots) {v : Option Value}
    (st : ∀ fs, (∀ (f : JFrame) (acts : List Action), f.method = m → f.locked = none → f.entered = [] → (doReturn e (T.setTop f) acts v).1 = T.setFrames fs) → Steps p.tables e below (T.setTop g) (T.setFrames fs))
    (hv : meth.sig.returnType = none → v = none) (hlocks : meth.locks = false) (hk : cells ≤ k) (hn : slots ≤ n) (hQ : Q v T.heap locs) : Goes p e below (EndW s below Q k n) T g := by
  obtain ⟨fs, hr, hrun, hended, hW, hsame⟩ := X.leave hv hlocks
  exact ⟨_, st fs hr, hrun, _, hended, _, _, rfl, hQ, ⟨_, rfl⟩, hW, hsame.mono hk hn⟩
theorem cmp_eq (x y : Int32) : if_icmp.holds .eq x y = decide (x = y) := by by_cases h : x = y <;> simp [h, (teq · |>.1), (feq · |>.1)]
theorem cmp_ne (x y : Int32) : if_icmp.holds .ne x y = !decide (x = y) := by by_cases h : x = y <;> simp [h, (teq · |>.2), (feq · |>.2)]
theorem cmp_lt (x y : Int32) : if_icmp.holds .lt x y = decide (x < y) := by simp [if_icmp.holds]
theorem cmp_ge (x y : Int32) : if_icmp.holds .ge x y = !decide (x < y) := by by_cases h : x < y <;> simp [h, (tlt · |>.2.1), (flt · |>.2.1)]
theorem cmp_gt (x y : Int32) : if_icmp.holds .gt x y = decide (y < x) := by by_cases h : y < x <;> simp [h, (tlt · |>.2.2.1), (flt · |>.2.2.1)]
theorem cmp_le (x y : Int32) : if_icmp.holds .le x y = !decide (y < x) := by by_cases h : y < x <;> simp [h, (tlt · |>.2.2.2), (flt · |>.2.2.2)]
theorem ifc_eq (x y : Int32) (h : y = 0 := by rfl) : ifCond.holds .eq x = decide (x = y) := by subst h; rw [if0, cmp_eq]
theorem ifc_ne (x y : Int32) (h : y = 0 := by rfl) : ifCond.holds .ne x = !decide (x = y) := by subst h; rw [if0, cmp_ne]
theorem ifc_lt (x y : Int32) (h : y = 0 := by rfl) : ifCond.holds .lt x = decide (x < y) := by subst h; rw [if0, cmp_lt]
theorem ifc_ge (x y : Int32) (h : y = 0 := by rfl) : ifCond.holds .ge x = !decide (x < y) := by subst h; rw [if0, cmp_ge]
theorem ifc_gt (x y : Int32) (h : y = 0 := by rfl) : ifCond.holds .gt x = decide (y < x) := by subst h; rw [if0, cmp_gt]
theorem ifc_le (x y : Int32) (h : y = 0 := by rfl) : ifCond.holds .le x = !decide (y < x) := by subst h; rw [if0, cmp_le]
theorem Goes.icmpP (X : Stand p l e R s m args below meth c T locs cells slots) (hx : p.tables.exec = Jvm.exec) (hg : g.method = m) {cd : ClassFile.Cond} {o : Int} {x y : Int32} {rest : List Value} {pc0 pc' : Nat} (hpc : g.pc = pc0) (hd : decode c.code g.pc = .ok (.if_icmp cd o, 3)) (hs : g.stack = .int y :: .int x :: rest) (ho : 0 ≤ (pc0 : Int) + o) (hp : ((pc0 : Int) + o).toNat = pc') {P : Prop} [Decidable P] (hP : if_icmp.holds cd x y = decide P)
    (yes : P → Goes p e below W T { g with pc := pc', stack := rest }) (no : ¬ P → Goes p e below W T { g with pc := g.pc + 3, stack := rest }) : Goes p e below W T g := by
  by_cases h : P
  · exact (yes h).on fun t k => XS.icmpYes X.here hx hg hpc hd hs (by rw [hP]; exact decide_eq_true h) ho hp k
  · exact (no h).on fun t k => XS.icmpNo X.here hx hg hd hs (by rw [hP]; exact decide_eq_false h) k
theorem Goes.icmpN (X : Stand p l e R s m args below meth c T locs cells slots) (hx : p.tables.exec = Jvm.exec) (hg : g.method = m) {cd : ClassFile.Cond} {o : Int} {x y : Int32} {rest : List Value} {pc0 pc' : Nat} (hpc : g.pc = pc0) (hd : decode c.code g.pc = .ok (.if_icmp cd o, 3)) (hs : g.stack = .int y :: .int x :: rest) (ho : 0 ≤ (pc0 : Int) + o) (hp : ((pc0 : Int) + o).toNat = pc') {P : Prop} [Decidable P] (hP : if_icmp.holds cd x y = !decide P)
    (yes : ¬ P → Goes p e below W T { g with pc := pc', stack := rest }) (no : P → Goes p e below W T { g with pc := g.pc + 3, stack := rest }) : Goes p e below W T g := by
  by_cases h : P
  · exact (no h).on fun t k => XS.icmpNo X.here hx hg hd hs (by rw [hP, decide_eq_true h]; rfl) k
  · exact (yes h).on fun t k => XS.icmpYes X.here hx hg hpc hd hs (by rw [hP, decide_eq_false h]; rfl) ho hp k
theorem Goes.ifP (X : Stand p l e R s m args below meth c T locs cells slots) (hx : p.tables.exec = Jvm.exec) (hg : g.method = m) {cd : ClassFile.Cond} {o : Int} {x : Int32} {rest : List Value} {pc0 pc' : Nat} (hpc : g.pc = pc0) (hd : decode c.code g.pc = .ok (.ifCond cd o, 3)) (hs : g.stack = .int x :: rest) (ho : 0 ≤ (pc0 : Int) + o) (hp : ((pc0 : Int) + o).toNat = pc') {P : Prop} [Decidable P] (hP : ifCond.holds cd x = decide P)
    (yes : P → Goes p e below W T { g with pc := pc', stack := rest }) (no : ¬ P → Goes p e below W T { g with pc := g.pc + 3, stack := rest }) : Goes p e below W T g := by
  by_cases h : P
  · exact (yes h).on fun t k => XS.ifYes X.here hx hg hpc hd hs (by rw [hP]; exact decide_eq_true h) ho hp k
  · exact (no h).on fun t k => XS.ifNo X.here hx hg hd hs (by rw [hP]; exact decide_eq_false h) k
theorem Goes.ifN (X : Stand p l e R s m args below meth c T locs cells slots) (hx : p.tables.exec = Jvm.exec) (hg : g.method = m) {cd : ClassFile.Cond} {o : Int} {x : Int32} {rest : List Value} {pc0 pc' : Nat} (hpc : g.pc = pc0) (hd : decode c.code g.pc = .ok (.ifCond cd o, 3)) (hs : g.stack = .int x :: rest) (ho : 0 ≤ (pc0 : Int) + o) (hp : ((pc0 : Int) + o).toNat = pc') {P : Prop} [Decidable P] (hP : ifCond.holds cd x = !decide P)
    (yes : ¬ P → Goes p e below W T { g with pc := pc', stack := rest }) (no : P → Goes p e below W T { g with pc := g.pc + 3, stack := rest }) : Goes p e below W T g := by
  by_cases h : P
  · exact (no h).on fun t k => XS.ifNo X.here hx hg hd hs (by rw [hP, decide_eq_true h]; rfl) k
  · exact (yes h).on fun t k => XS.ifYes X.here hx hg hpc hd hs (by rw [hP, decide_eq_false h]; rfl) ho hp k
theorem Goes.acmpR (X : Stand p l e R s m args below meth c T locs cells slots) (hx : p.tables.exec = Jvm.exec) (hg : g.method = m) {cd : ACond} {o : Int} {a b : Addr} {rest : List Value} {pc0 pcE pcN : Nat} (hpc : g.pc = pc0) (hd : decode c.code g.pc = .ok (.if_acmp cd o, 3)) (hs : g.stack = .ref b :: .ref a :: rest) (ho : 0 ≤ (pc0 : Int) + o)
    (hE : pcE = if acV cd true = true then ((pc0 : Int) + o).toNat else pc0 + 3) (hN : pcN = if acV cd false = true then ((pc0 : Int) + o).toNat else pc0 + 3)
    (eq : a = b → Goes p e below W T { g with pc := pcE, stack := rest }) (ne : ¬ a = b → Goes p e below W T { g with pc := pcN, stack := rest }) : Goes p e below W T g := by
  by_cases h : a = b
  · exact (eq h).on fun t k => Jvm.RoadKit.acmp X hx hg rfl rfl hpc hd hs (decide_eq_true (congrArg Value.ref h)) ho hE k
  · exact (ne h).on fun t k => Jvm.RoadKit.acmp X hx hg rfl rfl hpc hd hs (decide_eq_false fun q => h (Value.ref.inj q)) ho hN k
/-! the same where String constants may be loaded cold -/
def EndWW (s : State) (below : List Frame) (Q : Option Value → Heap → List Loc → Prop) (k n : Nat) (t : State) : Prop := t.status = .running ∧ ∃ o, Ended t below o ∧ ∃ v L, o = .returned v ∧ Q v t.heap L ∧ ReturnedEndW s o t L k n
theorem Goes.doneW {Q : Option Value → Heap → List Loc → Prop} {k n : Nat} (h : Goes p e below (EndWW s below Q k n) T g) :
    ∃ s₂ o, Steps p.tables e below (T.setTop g) s₂ ∧ s₂.status = .running ∧ Ended s₂ below o ∧ ∃ v L, o = .returned v ∧ Q v s₂.heap L ∧ ReturnedEndW s o s₂ L k n := by
  obtain ⟨t, h1, h2, o, h3, h4⟩ := h; exact ⟨t, o, h1, h2, h3, h4⟩
theorem Goes.retnW {Q : Option Value → Heap → List Loc → Prop} {k n n1 : Nat} {vm₁ : Vm} (X : Stand p l e R (s.setVm vm₁) m args below meth c T locs cells slots) (hS : s.Since vm₁ n1) (hle : n1 ≤ T.heap.size) {v : Option Value}
    (st : ∀ fs, (∀ (f : JFrame) (acts : List Action), f.method = m → f.locked = none → f.entered = [] → (doReturn e (T.setTop f) acts v).1 = T.setFrames fs) → Steps p.tables e below (T.setTop g) (T.setFrames fs))
    (hv : meth.sig.returnType = none → v = none) (hlocks : meth.locks = false) (hk : cells ≤ k) (hn : slots ≤ n) (hQ : Q v T.heap locs) : Goes p e below (EndWW s below Q k n) T g := by
  obtain ⟨fs, hr, hrun, hended, hW⟩ := X.leaveW hS hle hv hlocks
  exact ⟨_, st fs hr, hrun, _, hended, _, _, rfl, hQ, hW.1, hW.2.1, hW.2.2.1, hW.2.2.2.mono hk hn⟩
end New
end Jvm.RoadKit
namespace Jvm.Pilot.@@N@@
open Jvm Jvm.ClassFile Sem Op Lib Jvm.Free Jvm.Stand Jvm.LawKit Jvm.RoadKit Bundle Jvm.Pilot.@@N@@.Jvm.D
theorem d1_0 : decode prog_6_method_28_code 0 = .ok (.aload_n 0, 1) := by decide +kernel
theorem d1_1 : decode prog_6_method_28_code 1 = .ok (.getstatic 5, 3) := by decide +kernel
theorem d1_4 : decode prog_6_method_28_code 4 = .ok (.if_acmp .ne 7, 3) := by decide +kernel
theorem d1_7 : decode prog_6_method_28_code 7 = .ok (.lload_n 1, 1) := by decide +kernel
theorem d1_8 : decode prog_6_method_28_code 8 = .ok (.lload_n 3, 1) := by decide +kernel
theorem d1_9 : decode prog_6_method_28_code 9 = .ok (.land, 1) := by decide +kernel
theorem d1_10 : decode prog_6_method_28_code 10 = .ok (.lreturn, 1) := by decide +kernel
theorem d1_11 : decode prog_6_method_28_code 11 = .ok (.aload_n 0, 1) := by decide +kernel
theorem d1_12 : decode prog_6_method_28_code 12 = .ok (.getstatic 9, 3) := by decide +kernel
theorem d1_15 : decode prog_6_method_28_code 15 = .ok (.if_acmp .ne 7, 3) := by decide +kernel
theorem d1_18 : decode prog_6_method_28_code 18 = .ok (.lload_n 1, 1) := by decide +kernel
theorem d1_19 : decode prog_6_method_28_code 19 = .ok (.lload_n 3, 1) := by decide +kernel
theorem d1_20 : decode prog_6_method_28_code 20 = .ok (.lor, 1) := by decide +kernel
theorem d1_21 : decode prog_6_method_28_code 21 = .ok (.lreturn, 1) := by decide +kernel
theorem d1_22 : decode prog_6_method_28_code 22 = .ok (.aload_n 0, 1) := by decide +kernel
theorem d1_23 : decode prog_6_method_28_code 23 = .ok (.getstatic 12, 3) := by decide +kernel
theorem d1_26 : decode prog_6_method_28_code 26 = .ok (.if_acmp .ne 7, 3) := by decide +kernel
theorem d1_29 : decode prog_6_method_28_code 29 = .ok (.lload_n 1, 1) := by decide +kernel
theorem d1_30 : decode prog_6_method_28_code 30 = .ok (.lload_n 3, 1) := by decide +kernel
theorem d1_31 : decode prog_6_method_28_code 31 = .ok (.lxor, 1) := by decide +kernel
theorem d1_32 : decode prog_6_method_28_code 32 = .ok (.lreturn, 1) := by decide +kernel
theorem d1_33 : decode prog_6_method_28_code 33 = .ok (.lload_n 1, 1) := by decide +kernel
theorem d1_34 : decode prog_6_method_28_code 34 = .ok (.lload_n 3, 1) := by decide +kernel
theorem d1_35 : decode prog_6_method_28_code 35 = .ok (.ldc2_w 173, 3) := by decide +kernel
theorem d1_38 : decode prog_6_method_28_code 38 = .ok (.lxor, 1) := by decide +kernel
theorem d1_39 : decode prog_6_method_28_code 39 = .ok (.land, 1) := by decide +kernel
theorem d1_40 : decode prog_6_method_28_code 40 = .ok (.lreturn, 1) := by decide +kernel
theorem pn_0 : plainName "com/example/tallybit/tallybit/Combination" = true := by first | (simp [plainName, overriddenIn]; done) | decide +kernel
theorem pn_1 : plainName "com/example/tallybit/tallybit/CombinationCombinedPinLaw" = true := by first | (simp [plainName, overriddenIn]; done) | decide +kernel
theorem pd_0 : parseMethodDescriptor "(JJ)J" = some ⟨[.long, .long], some .long⟩ := by decide +kernel
def own_comb (a aAND aOR aXOR : Addr) (x y : Int64) : Int64 := if a = aAND then (x &&& y) else if a = aOR then (x ||| y) else if a = aXOR then (x ^^^ y) else (x &&& (y ^^^ (-1 : Int64)))
theorem own_lc {x y : Int64} (h : x = y) : lcmpW x y = (0 : Int32) := by subst h; simp [lcmpW]
theorem own_m1 : (-1 : Int64).toBitVec = BitVec.allOnes 64 := by decide
theorem own_not (x : Int64) : (x ^^^ (-1 : Int64)) = ~~~x := by
  apply Int64.toBitVec_inj.mp
  rw [Int64.toBitVec_xor, own_m1, Int64.toBitVec_not, BitVec.xor_allOnes]
theorem own_dis (x y : Int64) (h : x &&& y = 0) : x + y = x ||| y := by
  apply Int64.toBitVec_inj.mp
  rw [Int64.toBitVec_add, Int64.toBitVec_or]
  exact BitVec.add_eq_or_of_and_eq_zero _ _ (by rw [← Int64.toBitVec_and, h]; rfl)
theorem own_bits (x y : Int64) (h : ∀ i, x.toBitVec.getLsbD i = y.toBitVec.getLsbD i) : x = y := Int64.toBitVec_inj.mp (BitVec.eq_of_getLsbD_eq fun i _ => h i)
theorem own_ca (x y : Int64) : ((x &&& y) &&& ~~~x) = 0 := Int64.toBitVec_inj.mp (by simp only [Int64.toBitVec_and, Int64.toBitVec_not]; ext i hi; simp; intro h; simp [h])
theorem own_c50 (x y : Int64) : ((x &&& y) &&& (x ^^^ (-1 : Int64))) = (0 : Int64) := by rw [own_not]; exact own_ca x y
theorem own_c63 (x y : Int64) : ((x &&& y) &&& (y ^^^ (-1 : Int64))) = (0 : Int64) := by rw [own_not, Int64.and_comm x y]; exact own_ca y x
theorem own_c83 (x y : Int64) : ((x &&& (y ^^^ (-1 : Int64))) &&& (x ^^^ (-1 : Int64))) = (0 : Int64) := by rw [own_not, own_not]; exact own_ca x (~~~y)
theorem own_c92 (x y : Int64) : ((x &&& (y ^^^ (-1 : Int64))) &&& y) = (0 : Int64) := by
  rw [own_not]
  exact Int64.toBitVec_inj.mp (by simp only [Int64.toBitVec_and, Int64.toBitVec_not]; ext i hi; simp)
theorem own_split (x y : Int64) : (x &&& y) + (x &&& ~~~y) = x := by
  rw [own_dis _ _ (Int64.toBitVec_inj.mp (by simp only [Int64.toBitVec_and, Int64.toBitVec_not]; ext i hi; simp; intro _ h _; exact h))]
  exact Int64.toBitVec_inj.mp (by simp only [Int64.toBitVec_and, Int64.toBitVec_not, Int64.toBitVec_or]; ext i hi; simp; generalize x.toBitVec[i] = a; generalize y.toBitVec[i] = b; revert a b; decide)
theorem own_c109 (x y : Int64) : ((x &&& y) + (x &&& (y ^^^ (-1 : Int64)))) = x := by rw [own_not]; exact own_split x y
theorem own_or (x y : Int64) : (x ||| y) = x + (y &&& ~~~x) := by
  rw [own_dis _ _ (Int64.toBitVec_inj.mp (by simp only [Int64.toBitVec_and, Int64.toBitVec_not]; ext i hi; simp; intro h _; exact h))]
  exact Int64.toBitVec_inj.mp (by simp only [Int64.toBitVec_and, Int64.toBitVec_not, Int64.toBitVec_or]; ext i hi; simp; generalize x.toBitVec[i] = a; generalize y.toBitVec[i] = b; revert a b; decide)
theorem own_xor (x y : Int64) : (x ^^^ y) = (x &&& ~~~y) + (y &&& ~~~x) := by
  rw [own_dis _ _ (Int64.toBitVec_inj.mp (by simp only [Int64.toBitVec_and, Int64.toBitVec_not]; ext i hi; simp; intro h _ _; exact h))]
  exact Int64.toBitVec_inj.mp (by simp only [Int64.toBitVec_and, Int64.toBitVec_not, Int64.toBitVec_or, Int64.toBitVec_xor]; ext i hi; simp; generalize x.toBitVec[i] = a; generalize y.toBitVec[i] = b; revert a b; decide)
theorem own_c128 (x y : Int64) : ((x ||| y) + (x &&& y)) = (x + y) := by
  rw [own_or]
  have h := own_split y x
  rw [Int64.add_assoc, Int64.add_comm (y &&& ~~~x), Int64.and_comm x y, h]
theorem own_c151 (x y : Int64) : ((x ^^^ y) + ((2 : Int64) * (x &&& y))) = (x + y) := by
  have h1 := own_split x y
  have h2 := own_split y x
  have h3 : (2 : Int64) * (x &&& y) = (x &&& y) + (x &&& y) := by
    have : (2 : Int64) = 1 + 1 := rfl
    rw [this, Int64.add_mul, Int64.one_mul]
  rw [own_xor, h3]
  rw [Int64.and_comm y x] at h2
  generalize (x &&& y) = a at *
  generalize (x &&& ~~~y) = b at *
  generalize (y &&& ~~~x) = d at *
  subst h1
  rw [← h2]
  rw [Int64.add_comm b d, Int64.add_assoc d b, Int64.add_comm d, ← Int64.add_assoc b, Int64.add_comm b a, Int64.add_assoc (a + b)]
def QC (Z : State) (a aAND aOR aXOR : Addr) (x y : Int64) (h0 : Heap) (n0 : Nat) (v : Option Value) (h : Heap) (L : List Loc) : Prop := v = some (.long (own_comb a aAND aOR aXOR x y)) ∧ Fr n0 L ∧ h = h0
set_option maxRecDepth 65536 in
set_option maxHeartbeats 40000000 in
theorem rmC (l : Launch) (Z : State) (a0 : Array Value) (hw : ∀ d ∈ tables_1, d.before a0 Z = true) (ws : List Jvm.Cond) (a aAND aOR aXOR : Addr) (x y : Int64) (h0 : Heap) (n0 : Nat) (Z0 : n0 ≤ h0.size) (SAND : Sta Z h0 "com/example/tallybit/tallybit/Combination" "AND" "Lcom/example/tallybit/tallybit/Combination;" (.ref aAND)) (SOR : Sta Z h0 "com/example/tallybit/tallybit/Combination" "OR" "Lcom/example/tallybit/tallybit/Combination;" (.ref aOR)) (SXOR : Sta Z h0 "com/example/tallybit/tallybit/Combination" "XOR" "Lcom/example/tallybit/tallybit/Combination;" (.ref aXOR)) :
    MetFree l (⟨"com/example/tallybit/tallybit/Combination", "combined", "(JJ)J"⟩ : MethodName) (head1 (Jvm.Cond.code (⟨"com/example/tallybit/tallybit/Combination", "combined", "(JJ)J"⟩ : MethodName) prog_6_method_28_code 5 (some .long) :: ws) ({ frames := 0, cells := 0, slots := 0, locals := 0 } : Room)) (fun a_ U => a_ = #[(.ref a), (.long x), (.long y)] ∧ Z.Warmed39 U.vm ∧ U.heap = h0) (fun _ _ _ _ _ => True) (fun _ U o U' => ∃ v L, o = .returned v ∧ QC Z a aAND aOR aXOR x y h0 n0 v U'.heap L ∧ FrameEnd U o U' L ({ frames := 0, cells := 0, slots := 0, locals := 0 } : Room).cells ({ frames := 0, cells := 0, slots := 0, locals := 0 } : Room).slots) := by
  refine MetFree.of_bodySF (plainFor_of_name pn_0) hisR ?_
  intro p e s m args below meth c s₁ Bd hml0 hP hK
  obtain ⟨rfl, hZ, hh⟩ := hP
  have hx := Bd.exec
  have hby := Bd.bytes
  have hml : c.maxLocals = 5 := hml0
  have hown : s.vm.findClass "com/example/tallybit/tallybit/Combination" = some m.cls := findClass_of_methodNamed Bd.named
  have hnm := (name_of_methodNamed Bd.named Bd.method).1
  have X0 : Stand p l e ({ frames := 0, cells := 0, slots := 0, locals := 0 } : Room) s m #[(.ref a), (.long x), (.long y)] below meth c s₁ [] 0 0 := Stand.of_body Bd
  have e0 : s₁.heap = h0 := by rw [← hh, Bd.state]; rfl
  have N0 := Fr.nil n0
  refine Goes.done ?_
  obtain ⟨W, hWd⟩ : ∃ W : State → Prop, W = EndW s below (QC Z a aAND aOR aXOR x y h0 n0) ({ frames := 0, cells := 0, slots := 0, locals := 0 } : Room).cells ({ frames := 0, cells := 0, slots := 0, locals := 0 } : Room).slots := ⟨_, rfl⟩
  rw [← hWd]
  have hef : entryFrame m #[(.ref a), (.long x), (.long y)] 5 = (mkF m 0 #[.val (.ref a), .val (.long x), .second, .val (.long y), .second] []) := by first | (simp [entryFrame, mkF, argsToLocals, Value.category]; done) | rfl
  rw [hef]
  refine Goes.on (T' := s₁) (g' := (mkF m 1 #[.val (.ref a), .val (.long x), .second, .val (.long y), .second] [(.ref a)])) ?_ (fun t k => XS.aloadN X0.here hx rfl (hb hby d1_0) rfl rfl k)
  obtain ⟨T1, X1, e1, st1⟩ := getS2 X0 hx hZ hown (host := "") (Or.inl (hw _ (List.mem_of_getElem? (i := 8) rfl))) Via.refl e0 SAND (g := (mkF m 1 #[.val (.ref a), .val (.long x), .second, .val (.long y), .second] [(.ref a)])) rfl (hb hby d1_1)
  refine Goes.on (T' := T1) (g' := (mkF m 4 #[.val (.ref a), .val (.long x), .second, .val (.long y), .second] [(.ref aAND), (.ref a)])) ?_ st1
  refine Goes.acmpR X1 hx rfl (pc0 := 4) (pcE := 7) (pcN := 11) rfl (hb hby d1_4) rfl (by decide) (by decide) (by decide) (fun hc4 => ?_) (fun hc4 => ?_)
  · show Goes p e below W T1 (mkF m 7 #[.val (.ref a), .val (.long x), .second, .val (.long y), .second] [])
    refine Goes.on (T' := T1) (g' := (mkF m 8 #[.val (.ref a), .val (.long x), .second, .val (.long y), .second] [(.long x)])) ?_ (fun t k => XS.lloadN X1.here hx rfl (hb hby d1_7) rfl k)
    refine Goes.on (T' := T1) (g' := (mkF m 9 #[.val (.ref a), .val (.long x), .second, .val (.long y), .second] [(.long y), (.long x)])) ?_ (fun t k => XS.lloadN X1.here hx rfl (hb hby d1_8) rfl k)
    refine Goes.on (T' := T1) (g' := (mkF m 10 #[.val (.ref a), .val (.long x), .second, .val (.long y), .second] [(.long (x &&& y))])) ?_ (fun t k => XS.land X1.here hx rfl (hb hby d1_9) rfl k)
    rw [hWd]
    exact Goes.retn X1 (v := some (.long (x &&& y))) (fun fs hr => retL X1 hx Bd.returns (hb hby d1_10) hr) (fun h => by rw [Bd.returns] at h; cases h) Bd.notSynchronized (by decide) (by decide) (by rw [e1]; exact ⟨by unfold own_comb; rw [if_pos hc4], N0, rfl⟩)
  · show Goes p e below W T1 (mkF m 11 #[.val (.ref a), .val (.long x), .second, .val (.long y), .second] [])
    refine Goes.on (T' := T1) (g' := (mkF m 12 #[.val (.ref a), .val (.long x), .second, .val (.long y), .second] [(.ref a)])) ?_ (fun t k => XS.aloadN X1.here hx rfl (hb hby d1_11) rfl rfl k)
    obtain ⟨T2, X2, e2, st2⟩ := getS2 X1 hx hZ hown (host := "") (Or.inl (hw _ (List.mem_of_getElem? (i := 12) rfl))) Via.refl e1 SOR (g := (mkF m 12 #[.val (.ref a), .val (.long x), .second, .val (.long y), .second] [(.ref a)])) rfl (hb hby d1_12)
    refine Goes.on (T' := T2) (g' := (mkF m 15 #[.val (.ref a), .val (.long x), .second, .val (.long y), .second] [(.ref aOR), (.ref a)])) ?_ st2
    refine Goes.acmpR X2 hx rfl (pc0 := 15) (pcE := 18) (pcN := 22) rfl (hb hby d1_15) rfl (by decide) (by decide) (by decide) (fun hc15 => ?_) (fun hc15 => ?_)
    · show Goes p e below W T2 (mkF m 18 #[.val (.ref a), .val (.long x), .second, .val (.long y), .second] [])
      refine Goes.on (T' := T2) (g' := (mkF m 19 #[.val (.ref a), .val (.long x), .second, .val (.long y), .second] [(.long x)])) ?_ (fun t k => XS.lloadN X2.here hx rfl (hb hby d1_18) rfl k)
      refine Goes.on (T' := T2) (g' := (mkF m 20 #[.val (.ref a), .val (.long x), .second, .val (.long y), .second] [(.long y), (.long x)])) ?_ (fun t k => XS.lloadN X2.here hx rfl (hb hby d1_19) rfl k)
      refine Goes.on (T' := T2) (g' := (mkF m 21 #[.val (.ref a), .val (.long x), .second, .val (.long y), .second] [(.long (x ||| y))])) ?_ (fun t k => XS.lor X2.here hx rfl (hb hby d1_20) rfl k)
      rw [hWd]
      exact Goes.retn X2 (v := some (.long (x ||| y))) (fun fs hr => retL X2 hx Bd.returns (hb hby d1_21) hr) (fun h => by rw [Bd.returns] at h; cases h) Bd.notSynchronized (by decide) (by decide) (by rw [e2]; exact ⟨by unfold own_comb; rw [if_neg hc4, if_pos hc15], N0, rfl⟩)
    · show Goes p e below W T2 (mkF m 22 #[.val (.ref a), .val (.long x), .second, .val (.long y), .second] [])
      refine Goes.on (T' := T2) (g' := (mkF m 23 #[.val (.ref a), .val (.long x), .second, .val (.long y), .second] [(.ref a)])) ?_ (fun t k => XS.aloadN X2.here hx rfl (hb hby d1_22) rfl rfl k)
      obtain ⟨T3, X3, e3, st3⟩ := getS2 X2 hx hZ hown (host := "") (Or.inl (hw _ (List.mem_of_getElem? (i := 16) rfl))) Via.refl e2 SXOR (g := (mkF m 23 #[.val (.ref a), .val (.long x), .second, .val (.long y), .second] [(.ref a)])) rfl (hb hby d1_23)
      refine Goes.on (T' := T3) (g' := (mkF m 26 #[.val (.ref a), .val (.long x), .second, .val (.long y), .second] [(.ref aXOR), (.ref a)])) ?_ st3
      refine Goes.acmpR X3 hx rfl (pc0 := 26) (pcE := 29) (pcN := 33) rfl (hb hby d1_26) rfl (by decide) (by decide) (by decide) (fun hc26 => ?_) (fun hc26 => ?_)
      · show Goes p e below W T3 (mkF m 29 #[.val (.ref a), .val (.long x), .second, .val (.long y), .second] [])
        refine Goes.on (T' := T3) (g' := (mkF m 30 #[.val (.ref a), .val (.long x), .second, .val (.long y), .second] [(.long x)])) ?_ (fun t k => XS.lloadN X3.here hx rfl (hb hby d1_29) rfl k)
        refine Goes.on (T' := T3) (g' := (mkF m 31 #[.val (.ref a), .val (.long x), .second, .val (.long y), .second] [(.long y), (.long x)])) ?_ (fun t k => XS.lloadN X3.here hx rfl (hb hby d1_30) rfl k)
        refine Goes.on (T' := T3) (g' := (mkF m 32 #[.val (.ref a), .val (.long x), .second, .val (.long y), .second] [(.long (x ^^^ y))])) ?_ (fun t k => XS.lxor X3.here hx rfl (hb hby d1_31) rfl k)
        rw [hWd]
        exact Goes.retn X3 (v := some (.long (x ^^^ y))) (fun fs hr => retL X3 hx Bd.returns (hb hby d1_32) hr) (fun h => by rw [Bd.returns] at h; cases h) Bd.notSynchronized (by decide) (by decide) (by rw [e3]; exact ⟨by unfold own_comb; rw [if_neg hc4, if_neg hc15, if_pos hc26], N0, rfl⟩)
      · show Goes p e below W T3 (mkF m 33 #[.val (.ref a), .val (.long x), .second, .val (.long y), .second] [])
        refine Goes.on (T' := T3) (g' := (mkF m 34 #[.val (.ref a), .val (.long x), .second, .val (.long y), .second] [(.long x)])) ?_ (fun t k => XS.lloadN X3.here hx rfl (hb hby d1_33) rfl k)
        refine Goes.on (T' := T3) (g' := (mkF m 35 #[.val (.ref a), .val (.long x), .second, .val (.long y), .second] [(.long y), (.long x)])) ?_ (fun t k => XS.lloadN X3.here hx rfl (hb hby d1_34) rfl k)
        refine Goes.on (T' := T3) (g' := (mkF m 38 #[.val (.ref a), .val (.long x), .second, .val (.long y), .second] [(.long (-1 : Int64)), (.long y), (.long x)])) ?_ (X3.ldc2Long hx hown (mvT hZ (hw _ (List.mem_of_getElem? (i := 20) rfl))) (g := (mkF m 35 #[.val (.ref a), .val (.long x), .second, .val (.long y), .second] [(.long y), (.long x)])) rfl (hb hby d1_35))
        refine Goes.on (T' := T3) (g' := (mkF m 39 #[.val (.ref a), .val (.long x), .second, .val (.long y), .second] [(.long (y ^^^ (-1 : Int64))), (.long x)])) ?_ (fun t k => XS.lxor X3.here hx rfl (hb hby d1_38) rfl k)
        refine Goes.on (T' := T3) (g' := (mkF m 40 #[.val (.ref a), .val (.long x), .second, .val (.long y), .second] [(.long (x &&& (y ^^^ (-1 : Int64))))])) ?_ (fun t k => XS.land X3.here hx rfl (hb hby d1_39) rfl k)
        rw [hWd]
        exact Goes.retn X3 (v := some (.long (x &&& (y ^^^ (-1 : Int64))))) (fun fs hr => retL X3 hx Bd.returns (hb hby d1_40) hr) (fun h => by rw [Bd.returns] at h; cases h) Bd.notSynchronized (by decide) (by decide) (by rw [e3]; exact ⟨by unfold own_comb; rw [if_neg hc4, if_neg hc15, if_neg hc26], N0, rfl⟩)
def Q0 (Z : State) (u w : Int64) (h0 : Heap) (n0 : Nat) (v : Option Value) (h : Heap) (L : List Loc) : Prop := v = some (.int (1 : Int32)) ∧ Fr n0 L
set_option maxRecDepth 65536 in
set_option maxHeartbeats 40000000 in
theorem rm0 (l : Launch) (Z : State) (a0 : Array Value) (hw : ∀ d ∈ tables_1, d.before a0 Z = true) (ws : List Jvm.Cond) (u w : Int64) (aAND aOR aXOR aAND_NOT : Addr) (h0 : Heap) (n0 : Nat) (Z0 : n0 ≤ h0.size) (SAND : Sta Z h0 "com/example/tallybit/tallybit/Combination" "AND" "Lcom/example/tallybit/tallybit/Combination;" (.ref aAND)) (SOR : Sta Z h0 "com/example/tallybit/tallybit/Combination" "OR" "Lcom/example/tallybit/tallybit/Combination;" (.ref aOR)) (SXOR : Sta Z h0 "com/example/tallybit/tallybit/Combination" "XOR" "Lcom/example/tallybit/tallybit/Combination;" (.ref aXOR)) (SAND_NOT : Sta Z h0 "com/example/tallybit/tallybit/Combination" "AND_NOT" "Lcom/example/tallybit/tallybit/Combination;" (.ref aAND_NOT)) (EAND : Exa Z h0 aAND "com/example/tallybit/tallybit/Combination$1") (EOR : Exa Z h0 aOR "com/example/tallybit/tallybit/Combination$2") (EXOR : Exa Z h0 aXOR "com/example/tallybit/tallybit/Combination$3") (EAND_NOT : Exa Z h0 aAND_NOT "com/example/tallybit/tallybit/Combination$4") :
    MetFree l x (head1 (Jvm.Cond.code x code maxLocals ret :: ws) room_1) (fun a_ U => a_ = #[(.long u), (.long w)] ∧ Z.Warmed39 U.vm ∧ U.heap = h0) (fun _ _ _ _ _ => True) (fun _ U o U' => ∃ v L, o = .returned v ∧ Q0 Z u w h0 n0 v U'.heap L ∧ FrameEnd U o U' L room_1.cells room_1.slots) := by
  refine MetFree.of_bodySF (plainFor_of_name pn_1) hisR ?_
  intro p e s m args below meth c s₁ Bd hml0 hP hK
  obtain ⟨rfl, hZ, hh⟩ := hP
  have hx := Bd.exec
  have hby := Bd.bytes
  have hml : c.maxLocals = 17 := hml0
  have hown : s.vm.findClass "com/example/tallybit/tallybit/CombinationCombinedPinLaw" = some m.cls := findClass_of_methodNamed Bd.named
  have hnm := (name_of_methodNamed Bd.named Bd.method).1
  have X0 : Stand p l e room_1 s m #[(.long u), (.long w)] below meth c s₁ [] 0 0 := Stand.of_body Bd
  have e0 : s₁.heap = h0 := by rw [← hh, Bd.state]; rfl
  have N0 := Fr.nil n0
  refine Goes.done ?_
  obtain ⟨W, hWd⟩ : ∃ W : State → Prop, W = EndW s below (Q0 Z u w h0 n0) room_1.cells room_1.slots := ⟨_, rfl⟩
  rw [← hWd]
  have hef : entryFrame m #[(.long u), (.long w)] maxLocals = (mkF m 0 #[.val (.long u), .second, .val (.long w), .second, .unset, .unset, .unset, .unset, .unset, .unset, .unset, .unset, .unset, .unset, .unset, .unset, .unset] []) := by first | (simp [entryFrame, mkF, argsToLocals, Value.category, maxLocals]; done) | rfl
  rw [hef]
  obtain ⟨T1, X1, e1, st1⟩ := getS2 X0 hx hZ hown (host := "") (Or.inl (hw _ (List.mem_of_getElem? (i := 0) rfl))) Via.refl e0 SAND (g := (mkF m 0 #[.val (.long u), .second, .val (.long w), .second, .unset, .unset, .unset, .unset, .unset, .unset, .unset, .unset, .unset, .unset, .unset, .unset, .unset] [])) rfl (hb hby at_0)
  refine Goes.on (T' := T1) (g' := (mkF m 3 #[.val (.long u), .second, .val (.long w), .second, .unset, .unset, .unset, .unset, .unset, .unset, .unset, .unset, .unset, .unset, .unset, .unset, .unset] [(.ref aAND)])) ?_ st1
  refine Goes.on (T' := T1) (g' := (mkF m 4 #[.val (.long u), .second, .val (.long w), .second, .unset, .unset, .unset, .unset, .unset, .unset, .unset, .unset, .unset, .unset, .unset, .unset, .unset] [(.long u), (.ref aAND)])) ?_ (fun t k => XS.lloadN X1.here hx rfl (hb hby at_3) rfl k)
  refine Goes.on (T' := T1) (g' := (mkF m 5 #[.val (.long u), .second, .val (.long w), .second, .unset, .unset, .unset, .unset, .unset, .unset, .unset, .unset, .unset, .unset, .unset, .unset, .unset] [(.long w), (.long u), (.ref aAND)])) ?_ (fun t k => XS.lloadN X1.here hx rfl (hb hby at_4) rfl k)
  obtain ⟨cq2, kq2, q2a, q2b, q2c⟩ := isOf hZ e1 EAND
  obtain ⟨_, _, ⟨T2, L2, k2, n2⟩, -, X2, ⟨Lc2, hQ2, l2, y2, z2⟩, st2⟩ := X1.virtualBack hx (y := (⟨"com/example/tallybit/tallybit/Combination", "combined", "(JJ)J"⟩ : MethodName)) (z := (⟨"com/example/tallybit/tallybit/Combination", "combined", "(JJ)J"⟩ : MethodName)) hown (mvT hZ (hw _ (List.mem_of_getElem? (i := 3) rfl))) (mvT hZ (hw _ (List.mem_of_getElem? (i := 4) rfl))) (notFace_of_selects (args := #[]) (mvT hZ (hw _ (List.mem_of_getElem? (i := 6) rfl)))) (mvT hZ (hw _ (List.mem_of_getElem? (i := 6) rfl))) (mvT hZ (hw _ (List.mem_of_getElem? (i := 5) rfl))) (by decide) (backOf (W := 0) (rmC l Z a0 hw [] aAND aAND aOR aXOR u w h0 n0 Z0 SAND SOR SXOR) hZ (hw _ (List.mem_of_getElem? (i := 7) rfl)) (hw _ (List.mem_of_getElem? (i := 1) rfl)) (by decide) (by decide)) q2a q2c (g := (mkF m 5 #[.val (.long u), .second, .val (.long w), .second, .unset, .unset, .unset, .unset, .unset, .unset, .unset, .unset, .unset, .unset, .unset, .unset, .unset] [(.long w), (.long u), (.ref aAND)])) rfl (by rw [hml]; rfl) (Steps.refl _) (argsL := [(.long u), (.long w)]) (rest := []) (lenOf pd_0 rfl) rfl (by show 2 * 0 + _ ≤ _; exact Nat.le_of_eq rfl) (hb hby at_5) (fun _ _ => ⟨rfl, e1, (by decide : 0 + 0 ≤ _), (by decide : 0 + 0 ≤ _)⟩)
  dsimp only [Pt.U, Pt.locs, Pt.cells, Pt.slots] at X2 l2 y2 z2 st2 hQ2
  subst l2 y2 z2
  obtain ⟨rfl, N2q, eh2⟩ := hQ2
  have N2 := Fr.app N0 N2q
  refine Goes.on (T' := T2) (g' := (mkF m 8 #[.val (.long u), .second, .val (.long w), .second, .unset, .unset, .unset, .unset, .unset, .unset, .unset, .unset, .unset, .unset, .unset, .unset, .unset] [(.long (own_comb aAND aAND aOR aXOR u w))])) ?_ (fun t => st2.trans)
  have hv2 : own_comb aAND aAND aOR aXOR u w = (u &&& w) := by unfold own_comb; rw [if_pos rfl]
  rw [hv2]
  refine Goes.on (T' := T2) (g' := (mkF m 10 #[.val (.long u), .second, .val (.long w), .second, .val (.long (u &&& w)), .second, .unset, .unset, .unset, .unset, .unset, .unset, .unset, .unset, .unset, .unset, .unset] [])) ?_ (fun t k => XS.lstore X2.here hx rfl (hb hby at_8) rfl (l' := #[.val (.long u), .second, .val (.long w), .second, .val (.long (u &&& w)), .second, .unset, .unset, .unset, .unset, .unset, .unset, .unset, .unset, .unset, .unset, .unset]) rfl k)
  obtain ⟨T3, X3, e3, st3⟩ := getS2 X2 hx hZ hown (host := "") (Or.inl (hw _ (List.mem_of_getElem? (i := 9) rfl))) Via.refl eh2 SOR (g := (mkF m 10 #[.val (.long u), .second, .val (.long w), .second, .val (.long (u &&& w)), .second, .unset, .unset, .unset, .unset, .unset, .unset, .unset, .unset, .unset, .unset, .unset] [])) rfl (hb hby at_10)
  refine Goes.on (T' := T3) (g' := (mkF m 13 #[.val (.long u), .second, .val (.long w), .second, .val (.long (u &&& w)), .second, .unset, .unset, .unset, .unset, .unset, .unset, .unset, .unset, .unset, .unset, .unset] [(.ref aOR)])) ?_ st3
  refine Goes.on (T' := T3) (g' := (mkF m 14 #[.val (.long u), .second, .val (.long w), .second, .val (.long (u &&& w)), .second, .unset, .unset, .unset, .unset, .unset, .unset, .unset, .unset, .unset, .unset, .unset] [(.long u), (.ref aOR)])) ?_ (fun t k => XS.lloadN X3.here hx rfl (hb hby at_13) rfl k)
  refine Goes.on (T' := T3) (g' := (mkF m 15 #[.val (.long u), .second, .val (.long w), .second, .val (.long (u &&& w)), .second, .unset, .unset, .unset, .unset, .unset, .unset, .unset, .unset, .unset, .unset, .unset] [(.long w), (.long u), (.ref aOR)])) ?_ (fun t k => XS.lloadN X3.here hx rfl (hb hby at_14) rfl k)
  obtain ⟨cq4, kq4, q4a, q4b, q4c⟩ := isOf hZ e3 EOR
  obtain ⟨_, _, ⟨T4, L4, k4, n4⟩, -, X4, ⟨Lc4, hQ4, l4, y4, z4⟩, st4⟩ := X3.virtualBack hx (y := (⟨"com/example/tallybit/tallybit/Combination", "combined", "(JJ)J"⟩ : MethodName)) (z := (⟨"com/example/tallybit/tallybit/Combination", "combined", "(JJ)J"⟩ : MethodName)) hown (mvT hZ (hw _ (List.mem_of_getElem? (i := 3) rfl))) (mvT hZ (hw _ (List.mem_of_getElem? (i := 4) rfl))) (notFace_of_selects (args := #[]) (mvT hZ (hw _ (List.mem_of_getElem? (i := 11) rfl)))) (mvT hZ (hw _ (List.mem_of_getElem? (i := 11) rfl))) (mvT hZ (hw _ (List.mem_of_getElem? (i := 5) rfl))) (by decide) (backOf (W := 0) (rmC l Z a0 hw [] aOR aAND aOR aXOR u w h0 n0 Z0 SAND SOR SXOR) hZ (hw _ (List.mem_of_getElem? (i := 7) rfl)) (hw _ (List.mem_of_getElem? (i := 1) rfl)) (by decide) (by decide)) q4a q4c (g := (mkF m 15 #[.val (.long u), .second, .val (.long w), .second, .val (.long (u &&& w)), .second, .unset, .unset, .unset, .unset, .unset, .unset, .unset, .unset, .unset, .unset, .unset] [(.long w), (.long u), (.ref aOR)])) rfl (by rw [hml]; rfl) (Steps.refl _) (argsL := [(.long u), (.long w)]) (rest := []) (lenOf pd_0 rfl) rfl (by show 2 * 0 + _ ≤ _; exact Nat.le_of_eq rfl) (hb hby at_15) (fun _ _ => ⟨rfl, e3, (by decide : 0 + 0 ≤ _), (by decide : 0 + 0 ≤ _)⟩)
  dsimp only [Pt.U, Pt.locs, Pt.cells, Pt.slots] at X4 l4 y4 z4 st4 hQ4
  subst l4 y4 z4
  obtain ⟨rfl, N4q, eh4⟩ := hQ4
  have N4 := Fr.app N2 N4q
  refine Goes.on (T' := T4) (g' := (mkF m 18 #[.val (.long u), .second, .val (.long w), .second, .val (.long (u &&& w)), .second, .unset, .unset, .unset, .unset, .unset, .unset, .unset, .unset, .unset, .unset, .unset] [(.long (own_comb aOR aAND aOR aXOR u w))])) ?_ (fun t => st4.trans)
  have hv4 : own_comb aOR aAND aOR aXOR u w = (u ||| w) := by unfold own_comb; rw [if_neg (ne_exa EOR EAND (by decide)), if_pos rfl]
  rw [hv4]
  refine Goes.on (T' := T4) (g' := (mkF m 20 #[.val (.long u), .second, .val (.long w), .second, .val (.long (u &&& w)), .second, .val (.long (u ||| w)), .second, .unset, .unset, .unset, .unset, .unset, .unset, .unset, .unset, .unset] [])) ?_ (fun t k => XS.lstore X4.here hx rfl (hb hby at_18) rfl (l' := #[.val (.long u), .second, .val (.long w), .second, .val (.long (u &&& w)), .second, .val (.long (u ||| w)), .second, .unset, .unset, .unset, .unset, .unset, .unset, .unset, .unset, .unset]) rfl k)
  obtain ⟨T5, X5, e5, st5⟩ := getS2 X4 hx hZ hown (host := "") (Or.inl (hw _ (List.mem_of_getElem? (i := 13) rfl))) Via.refl eh4 SXOR (g := (mkF m 20 #[.val (.long u), .second, .val (.long w), .second, .val (.long (u &&& w)), .second, .val (.long (u ||| w)), .second, .unset, .unset, .unset, .unset, .unset, .unset, .unset, .unset, .unset] [])) rfl (hb hby at_20)
  refine Goes.on (T' := T5) (g' := (mkF m 23 #[.val (.long u), .second, .val (.long w), .second, .val (.long (u &&& w)), .second, .val (.long (u ||| w)), .second, .unset, .unset, .unset, .unset, .unset, .unset, .unset, .unset, .unset] [(.ref aXOR)])) ?_ st5
  refine Goes.on (T' := T5) (g' := (mkF m 24 #[.val (.long u), .second, .val (.long w), .second, .val (.long (u &&& w)), .second, .val (.long (u ||| w)), .second, .unset, .unset, .unset, .unset, .unset, .unset, .unset, .unset, .unset] [(.long u), (.ref aXOR)])) ?_ (fun t k => XS.lloadN X5.here hx rfl (hb hby at_23) rfl k)
  refine Goes.on (T' := T5) (g' := (mkF m 25 #[.val (.long u), .second, .val (.long w), .second, .val (.long (u &&& w)), .second, .val (.long (u ||| w)), .second, .unset, .unset, .unset, .unset, .unset, .unset, .unset, .unset, .unset] [(.long w), (.long u), (.ref aXOR)])) ?_ (fun t k => XS.lloadN X5.here hx rfl (hb hby at_24) rfl k)
  obtain ⟨cq6, kq6, q6a, q6b, q6c⟩ := isOf hZ e5 EXOR
  obtain ⟨_, _, ⟨T6, L6, k6, n6⟩, -, X6, ⟨Lc6, hQ6, l6, y6, z6⟩, st6⟩ := X5.virtualBack hx (y := (⟨"com/example/tallybit/tallybit/Combination", "combined", "(JJ)J"⟩ : MethodName)) (z := (⟨"com/example/tallybit/tallybit/Combination", "combined", "(JJ)J"⟩ : MethodName)) hown (mvT hZ (hw _ (List.mem_of_getElem? (i := 3) rfl))) (mvT hZ (hw _ (List.mem_of_getElem? (i := 4) rfl))) (notFace_of_selects (args := #[]) (mvT hZ (hw _ (List.mem_of_getElem? (i := 15) rfl)))) (mvT hZ (hw _ (List.mem_of_getElem? (i := 15) rfl))) (mvT hZ (hw _ (List.mem_of_getElem? (i := 5) rfl))) (by decide) (backOf (W := 0) (rmC l Z a0 hw [] aXOR aAND aOR aXOR u w h0 n0 Z0 SAND SOR SXOR) hZ (hw _ (List.mem_of_getElem? (i := 7) rfl)) (hw _ (List.mem_of_getElem? (i := 1) rfl)) (by decide) (by decide)) q6a q6c (g := (mkF m 25 #[.val (.long u), .second, .val (.long w), .second, .val (.long (u &&& w)), .second, .val (.long (u ||| w)), .second, .unset, .unset, .unset, .unset, .unset, .unset, .unset, .unset, .unset] [(.long w), (.long u), (.ref aXOR)])) rfl (by rw [hml]; rfl) (Steps.refl _) (argsL := [(.long u), (.long w)]) (rest := []) (lenOf pd_0 rfl) rfl (by show 2 * 0 + _ ≤ _; exact Nat.le_of_eq rfl) (hb hby at_25) (fun _ _ => ⟨rfl, e5, (by decide : 0 + 0 ≤ _), (by decide : 0 + 0 ≤ _)⟩)
  dsimp only [Pt.U, Pt.locs, Pt.cells, Pt.slots] at X6 l6 y6 z6 st6 hQ6
  subst l6 y6 z6
  obtain ⟨rfl, N6q, eh6⟩ := hQ6
  have N6 := Fr.app N4 N6q
  refine Goes.on (T' := T6) (g' := (mkF m 28 #[.val (.long u), .second, .val (.long w), .second, .val (.long (u &&& w)), .second, .val (.long (u ||| w)), .second, .unset, .unset, .unset, .unset, .unset, .unset, .unset, .unset, .unset] [(.long (own_comb aXOR aAND aOR aXOR u w))])) ?_ (fun t => st6.trans)
  have hv6 : own_comb aXOR aAND aOR aXOR u w = (u ^^^ w) := by unfold own_comb; rw [if_neg (ne_exa EXOR EAND (by decide)), if_neg (ne_exa EXOR EOR (by decide)), if_pos rfl]
  rw [hv6]
  refine Goes.on (T' := T6) (g' := (mkF m 30 #[.val (.long u), .second, .val (.long w), .second, .val (.long (u &&& w)), .second, .val (.long (u ||| w)), .second, .val (.long (u ^^^ w)), .second, .unset, .unset, .unset, .unset, .unset, .unset, .unset] [])) ?_ (fun t k => XS.lstore X6.here hx rfl (hb hby at_28) rfl (l' := #[.val (.long u), .second, .val (.long w), .second, .val (.long (u &&& w)), .second, .val (.long (u ||| w)), .second, .val (.long (u ^^^ w)), .second, .unset, .unset, .unset, .unset, .unset, .unset, .unset]) rfl k)
  obtain ⟨T7, X7, e7, st7⟩ := getS2 X6 hx hZ hown (host := "") (Or.inl (hw _ (List.mem_of_getElem? (i := 17) rfl))) Via.refl eh6 SAND_NOT (g := (mkF m 30 #[.val (.long u), .second, .val (.long w), .second, .val (.long (u &&& w)), .second, .val (.long (u ||| w)), .second, .val (.long (u ^^^ w)), .second, .unset, .unset, .unset, .unset, .unset, .unset, .unset] [])) rfl (hb hby at_30)
  refine Goes.on (T' := T7) (g' := (mkF m 33 #[.val (.long u), .second, .val (.long w), .second, .val (.long (u &&& w)), .second, .val (.long (u ||| w)), .second, .val (.long (u ^^^ w)), .second, .unset, .unset, .unset, .unset, .unset, .unset, .unset] [(.ref aAND_NOT)])) ?_ st7
  refine Goes.on (T' := T7) (g' := (mkF m 34 #[.val (.long u), .second, .val (.long w), .second, .val (.long (u &&& w)), .second, .val (.long (u ||| w)), .second, .val (.long (u ^^^ w)), .second, .unset, .unset, .unset, .unset, .unset, .unset, .unset] [(.long u), (.ref aAND_NOT)])) ?_ (fun t k => XS.lloadN X7.here hx rfl (hb hby at_33) rfl k)
  refine Goes.on (T' := T7) (g' := (mkF m 35 #[.val (.long u), .second, .val (.long w), .second, .val (.long (u &&& w)), .second, .val (.long (u ||| w)), .second, .val (.long (u ^^^ w)), .second, .unset, .unset, .unset, .unset, .unset, .unset, .unset] [(.long w), (.long u), (.ref aAND_NOT)])) ?_ (fun t k => XS.lloadN X7.here hx rfl (hb hby at_34) rfl k)
  obtain ⟨cq8, kq8, q8a, q8b, q8c⟩ := isOf hZ e7 EAND_NOT
  obtain ⟨_, _, ⟨T8, L8, k8, n8⟩, -, X8, ⟨Lc8, hQ8, l8, y8, z8⟩, st8⟩ := X7.virtualBack hx (y := (⟨"com/example/tallybit/tallybit/Combination", "combined", "(JJ)J"⟩ : MethodName)) (z := (⟨"com/example/tallybit/tallybit/Combination", "combined", "(JJ)J"⟩ : MethodName)) hown (mvT hZ (hw _ (List.mem_of_getElem? (i := 3) rfl))) (mvT hZ (hw _ (List.mem_of_getElem? (i := 4) rfl))) (notFace_of_selects (args := #[]) (mvT hZ (hw _ (List.mem_of_getElem? (i := 19) rfl)))) (mvT hZ (hw _ (List.mem_of_getElem? (i := 19) rfl))) (mvT hZ (hw _ (List.mem_of_getElem? (i := 5) rfl))) (by decide) (backOf (W := 0) (rmC l Z a0 hw [] aAND_NOT aAND aOR aXOR u w h0 n0 Z0 SAND SOR SXOR) hZ (hw _ (List.mem_of_getElem? (i := 7) rfl)) (hw _ (List.mem_of_getElem? (i := 1) rfl)) (by decide) (by decide)) q8a q8c (g := (mkF m 35 #[.val (.long u), .second, .val (.long w), .second, .val (.long (u &&& w)), .second, .val (.long (u ||| w)), .second, .val (.long (u ^^^ w)), .second, .unset, .unset, .unset, .unset, .unset, .unset, .unset] [(.long w), (.long u), (.ref aAND_NOT)])) rfl (by rw [hml]; rfl) (Steps.refl _) (argsL := [(.long u), (.long w)]) (rest := []) (lenOf pd_0 rfl) rfl (by show 2 * 0 + _ ≤ _; exact Nat.le_of_eq rfl) (hb hby at_35) (fun _ _ => ⟨rfl, e7, (by decide : 0 + 0 ≤ _), (by decide : 0 + 0 ≤ _)⟩)
  dsimp only [Pt.U, Pt.locs, Pt.cells, Pt.slots] at X8 l8 y8 z8 st8 hQ8
  subst l8 y8 z8
  obtain ⟨rfl, N8q, eh8⟩ := hQ8
  have N8 := Fr.app N6 N8q
  refine Goes.on (T' := T8) (g' := (mkF m 38 #[.val (.long u), .second, .val (.long w), .second, .val (.long (u &&& w)), .second, .val (.long (u ||| w)), .second, .val (.long (u ^^^ w)), .second, .unset, .unset, .unset, .unset, .unset, .unset, .unset] [(.long (own_comb aAND_NOT aAND aOR aXOR u w))])) ?_ (fun t => st8.trans)
  have hv8 : own_comb aAND_NOT aAND aOR aXOR u w = (u &&& (w ^^^ (-1 : Int64))) := by unfold own_comb; rw [if_neg (ne_exa EAND_NOT EAND (by decide)), if_neg (ne_exa EAND_NOT EOR (by decide)), if_neg (ne_exa EAND_NOT EXOR (by decide))]
  rw [hv8]
  refine Goes.on (T' := T8) (g' := (mkF m 40 #[.val (.long u), .second, .val (.long w), .second, .val (.long (u &&& w)), .second, .val (.long (u ||| w)), .second, .val (.long (u ^^^ w)), .second, .val (.long (u &&& (w ^^^ (-1 : Int64)))), .second, .unset, .unset, .unset, .unset, .unset] [])) ?_ (fun t k => XS.lstore X8.here hx rfl (hb hby at_38) rfl (l' := #[.val (.long u), .second, .val (.long w), .second, .val (.long (u &&& w)), .second, .val (.long (u ||| w)), .second, .val (.long (u ^^^ w)), .second, .val (.long (u &&& (w ^^^ (-1 : Int64)))), .second, .unset, .unset, .unset, .unset, .unset]) rfl k)
  refine Goes.on (T' := T8) (g' := (mkF m 42 #[.val (.long u), .second, .val (.long w), .second, .val (.long (u &&& w)), .second, .val (.long (u ||| w)), .second, .val (.long (u ^^^ w)), .second, .val (.long (u &&& (w ^^^ (-1 : Int64)))), .second, .unset, .unset, .unset, .unset, .unset] [(.long (u &&& w))])) ?_ (fun t k => XS.lload X8.here hx rfl (hb hby at_40) rfl k)
  refine Goes.on (T' := T8) (g' := (mkF m 43 #[.val (.long u), .second, .val (.long w), .second, .val (.long (u &&& w)), .second, .val (.long (u ||| w)), .second, .val (.long (u ^^^ w)), .second, .val (.long (u &&& (w ^^^ (-1 : Int64)))), .second, .unset, .unset, .unset, .unset, .unset] [(.long u), (.long (u &&& w))])) ?_ (fun t k => XS.lloadN X8.here hx rfl (hb hby at_42) rfl k)
  refine Goes.on (T' := T8) (g' := (mkF m 46 #[.val (.long u), .second, .val (.long w), .second, .val (.long (u &&& w)), .second, .val (.long (u ||| w)), .second, .val (.long (u ^^^ w)), .second, .val (.long (u &&& (w ^^^ (-1 : Int64)))), .second, .unset, .unset, .unset, .unset, .unset] [(.long (-1 : Int64)), (.long u), (.long (u &&& w))])) ?_ (X8.ldc2Long hx hown (mvT hZ (hw _ (List.mem_of_getElem? (i := 21) rfl))) (g := (mkF m 43 #[.val (.long u), .second, .val (.long w), .second, .val (.long (u &&& w)), .second, .val (.long (u ||| w)), .second, .val (.long (u ^^^ w)), .second, .val (.long (u &&& (w ^^^ (-1 : Int64)))), .second, .unset, .unset, .unset, .unset, .unset] [(.long u), (.long (u &&& w))])) rfl (hb hby at_43))
  refine Goes.on (T' := T8) (g' := (mkF m 47 #[.val (.long u), .second, .val (.long w), .second, .val (.long (u &&& w)), .second, .val (.long (u ||| w)), .second, .val (.long (u ^^^ w)), .second, .val (.long (u &&& (w ^^^ (-1 : Int64)))), .second, .unset, .unset, .unset, .unset, .unset] [(.long (u ^^^ (-1 : Int64))), (.long (u &&& w))])) ?_ (fun t k => XS.lxor X8.here hx rfl (hb hby at_46) rfl k)
  refine Goes.on (T' := T8) (g' := (mkF m 48 #[.val (.long u), .second, .val (.long w), .second, .val (.long (u &&& w)), .second, .val (.long (u ||| w)), .second, .val (.long (u ^^^ w)), .second, .val (.long (u &&& (w ^^^ (-1 : Int64)))), .second, .unset, .unset, .unset, .unset, .unset] [(.long ((u &&& w) &&& (u ^^^ (-1 : Int64))))])) ?_ (fun t k => XS.land X8.here hx rfl (hb hby at_47) rfl k)
  refine Goes.on (T' := T8) (g' := (mkF m 49 #[.val (.long u), .second, .val (.long w), .second, .val (.long (u &&& w)), .second, .val (.long (u ||| w)), .second, .val (.long (u ^^^ w)), .second, .val (.long (u &&& (w ^^^ (-1 : Int64)))), .second, .unset, .unset, .unset, .unset, .unset] [(.long (0 : Int64)), (.long ((u &&& w) &&& (u ^^^ (-1 : Int64))))])) ?_ (fun t k => XS.lconst X8.here hx rfl (hb hby at_48) k)
  refine Goes.on (T' := T8) (g' := (mkF m 50 #[.val (.long u), .second, .val (.long w), .second, .val (.long (u &&& w)), .second, .val (.long (u ||| w)), .second, .val (.long (u ^^^ w)), .second, .val (.long (u &&& (w ^^^ (-1 : Int64)))), .second, .unset, .unset, .unset, .unset, .unset] [(.int (lcmpW ((u &&& w) &&& (u ^^^ (-1 : Int64))) (0 : Int64)))])) ?_ (fun t k => XS.lcmp X8.here hx rfl (hb hby at_49) rfl k)
  refine Goes.on (T' := T8) (g' := (mkF m 53 #[.val (.long u), .second, .val (.long w), .second, .val (.long (u &&& w)), .second, .val (.long (u ||| w)), .second, .val (.long (u ^^^ w)), .second, .val (.long (u &&& (w ^^^ (-1 : Int64)))), .second, .unset, .unset, .unset, .unset, .unset] [])) ?_ (fun t k => XS.ifNo X8.here hx rfl (hb hby at_50) rfl ((if0 _ _).trans (teq (own_lc (own_c50 u w))).2) k)
  refine Goes.on (T' := T8) (g' := (mkF m 55 #[.val (.long u), .second, .val (.long w), .second, .val (.long (u &&& w)), .second, .val (.long (u ||| w)), .second, .val (.long (u ^^^ w)), .second, .val (.long (u &&& (w ^^^ (-1 : Int64)))), .second, .unset, .unset, .unset, .unset, .unset] [(.long (u &&& w))])) ?_ (fun t k => XS.lload X8.here hx rfl (hb hby at_53) rfl k)
  refine Goes.on (T' := T8) (g' := (mkF m 56 #[.val (.long u), .second, .val (.long w), .second, .val (.long (u &&& w)), .second, .val (.long (u ||| w)), .second, .val (.long (u ^^^ w)), .second, .val (.long (u &&& (w ^^^ (-1 : Int64)))), .second, .unset, .unset, .unset, .unset, .unset] [(.long w), (.long (u &&& w))])) ?_ (fun t k => XS.lloadN X8.here hx rfl (hb hby at_55) rfl k)
  refine Goes.on (T' := T8) (g' := (mkF m 59 #[.val (.long u), .second, .val (.long w), .second, .val (.long (u &&& w)), .second, .val (.long (u ||| w)), .second, .val (.long (u ^^^ w)), .second, .val (.long (u &&& (w ^^^ (-1 : Int64)))), .second, .unset, .unset, .unset, .unset, .unset] [(.long (-1 : Int64)), (.long w), (.long (u &&& w))])) ?_ (X8.ldc2Long hx hown (mvT hZ (hw _ (List.mem_of_getElem? (i := 21) rfl))) (g := (mkF m 56 #[.val (.long u), .second, .val (.long w), .second, .val (.long (u &&& w)), .second, .val (.long (u ||| w)), .second, .val (.long (u ^^^ w)), .second, .val (.long (u &&& (w ^^^ (-1 : Int64)))), .second, .unset, .unset, .unset, .unset, .unset] [(.long w), (.long (u &&& w))])) rfl (hb hby at_56))
  refine Goes.on (T' := T8) (g' := (mkF m 60 #[.val (.long u), .second, .val (.long w), .second, .val (.long (u &&& w)), .second, .val (.long (u ||| w)), .second, .val (.long (u ^^^ w)), .second, .val (.long (u &&& (w ^^^ (-1 : Int64)))), .second, .unset, .unset, .unset, .unset, .unset] [(.long (w ^^^ (-1 : Int64))), (.long (u &&& w))])) ?_ (fun t k => XS.lxor X8.here hx rfl (hb hby at_59) rfl k)
  refine Goes.on (T' := T8) (g' := (mkF m 61 #[.val (.long u), .second, .val (.long w), .second, .val (.long (u &&& w)), .second, .val (.long (u ||| w)), .second, .val (.long (u ^^^ w)), .second, .val (.long (u &&& (w ^^^ (-1 : Int64)))), .second, .unset, .unset, .unset, .unset, .unset] [(.long ((u &&& w) &&& (w ^^^ (-1 : Int64))))])) ?_ (fun t k => XS.land X8.here hx rfl (hb hby at_60) rfl k)
  refine Goes.on (T' := T8) (g' := (mkF m 62 #[.val (.long u), .second, .val (.long w), .second, .val (.long (u &&& w)), .second, .val (.long (u ||| w)), .second, .val (.long (u ^^^ w)), .second, .val (.long (u &&& (w ^^^ (-1 : Int64)))), .second, .unset, .unset, .unset, .unset, .unset] [(.long (0 : Int64)), (.long ((u &&& w) &&& (w ^^^ (-1 : Int64))))])) ?_ (fun t k => XS.lconst X8.here hx rfl (hb hby at_61) k)
  refine Goes.on (T' := T8) (g' := (mkF m 63 #[.val (.long u), .second, .val (.long w), .second, .val (.long (u &&& w)), .second, .val (.long (u ||| w)), .second, .val (.long (u ^^^ w)), .second, .val (.long (u &&& (w ^^^ (-1 : Int64)))), .second, .unset, .unset, .unset, .unset, .unset] [(.int (lcmpW ((u &&& w) &&& (w ^^^ (-1 : Int64))) (0 : Int64)))])) ?_ (fun t k => XS.lcmp X8.here hx rfl (hb hby at_62) rfl k)
  refine Goes.on (T' := T8) (g' := (mkF m 66 #[.val (.long u), .second, .val (.long w), .second, .val (.long (u &&& w)), .second, .val (.long (u ||| w)), .second, .val (.long (u ^^^ w)), .second, .val (.long (u &&& (w ^^^ (-1 : Int64)))), .second, .unset, .unset, .unset, .unset, .unset] [])) ?_ (fun t k => XS.ifNo X8.here hx rfl (hb hby at_63) rfl ((if0 _ _).trans (teq (own_lc (own_c63 u w))).2) k)
  refine Goes.on (T' := T8) (g' := (mkF m 67 #[.val (.long u), .second, .val (.long w), .second, .val (.long (u &&& w)), .second, .val (.long (u ||| w)), .second, .val (.long (u ^^^ w)), .second, .val (.long (u &&& (w ^^^ (-1 : Int64)))), .second, .unset, .unset, .unset, .unset, .unset] [(.int (1 : Int32))])) ?_ (fun t k => XS.iconst X8.here hx rfl (hb hby at_66) k)
  refine Goes.on (T' := T8) (g' := (mkF m 71 #[.val (.long u), .second, .val (.long w), .second, .val (.long (u &&& w)), .second, .val (.long (u ||| w)), .second, .val (.long (u ^^^ w)), .second, .val (.long (u &&& (w ^^^ (-1 : Int64)))), .second, .unset, .unset, .unset, .unset, .unset] [(.int (1 : Int32))])) ?_ (fun t k => XS.goto X8.here hx rfl (pc0 := 67) (pc' := 71) rfl (hb hby at_67) (by decide) (by decide) k)
  refine Goes.on (T' := T8) (g' := (mkF m 73 #[.val (.long u), .second, .val (.long w), .second, .val (.long (u &&& w)), .second, .val (.long (u ||| w)), .second, .val (.long (u ^^^ w)), .second, .val (.long (u &&& (w ^^^ (-1 : Int64)))), .second, .val (.int (1 : Int32)), .unset, .unset, .unset, .unset] [])) ?_ (fun t k => XS.istore X8.here hx rfl (hb hby at_71) rfl (l' := #[.val (.long u), .second, .val (.long w), .second, .val (.long (u &&& w)), .second, .val (.long (u ||| w)), .second, .val (.long (u ^^^ w)), .second, .val (.long (u &&& (w ^^^ (-1 : Int64)))), .second, .val (.int (1 : Int32)), .unset, .unset, .unset, .unset]) rfl k)
  refine Goes.on (T' := T8) (g' := (mkF m 75 #[.val (.long u), .second, .val (.long w), .second, .val (.long (u &&& w)), .second, .val (.long (u ||| w)), .second, .val (.long (u ^^^ w)), .second, .val (.long (u &&& (w ^^^ (-1 : Int64)))), .second, .val (.int (1 : Int32)), .unset, .unset, .unset, .unset] [(.long (u &&& (w ^^^ (-1 : Int64))))])) ?_ (fun t k => XS.lload X8.here hx rfl (hb hby at_73) rfl k)
  refine Goes.on (T' := T8) (g' := (mkF m 76 #[.val (.long u), .second, .val (.long w), .second, .val (.long (u &&& w)), .second, .val (.long (u ||| w)), .second, .val (.long (u ^^^ w)), .second, .val (.long (u &&& (w ^^^ (-1 : Int64)))), .second, .val (.int (1 : Int32)), .unset, .unset, .unset, .unset] [(.long u), (.long (u &&& (w ^^^ (-1 : Int64))))])) ?_ (fun t k => XS.lloadN X8.here hx rfl (hb hby at_75) rfl k)
  refine Goes.on (T' := T8) (g' := (mkF m 79 #[.val (.long u), .second, .val (.long w), .second, .val (.long (u &&& w)), .second, .val (.long (u ||| w)), .second, .val (.long (u ^^^ w)), .second, .val (.long (u &&& (w ^^^ (-1 : Int64)))), .second, .val (.int (1 : Int32)), .unset, .unset, .unset, .unset] [(.long (-1 : Int64)), (.long u), (.long (u &&& (w ^^^ (-1 : Int64))))])) ?_ (X8.ldc2Long hx hown (mvT hZ (hw _ (List.mem_of_getElem? (i := 21) rfl))) (g := (mkF m 76 #[.val (.long u), .second, .val (.long w), .second, .val (.long (u &&& w)), .second, .val (.long (u ||| w)), .second, .val (.long (u ^^^ w)), .second, .val (.long (u &&& (w ^^^ (-1 : Int64)))), .second, .val (.int (1 : Int32)), .unset, .unset, .unset, .unset] [(.long u), (.long (u &&& (w ^^^ (-1 : Int64))))])) rfl (hb hby at_76))
  refine Goes.on (T' := T8) (g' := (mkF m 80 #[.val (.long u), .second, .val (.long w), .second, .val (.long (u &&& w)), .second, .val (.long (u ||| w)), .second, .val (.long (u ^^^ w)), .second, .val (.long (u &&& (w ^^^ (-1 : Int64)))), .second, .val (.int (1 : Int32)), .unset, .unset, .unset, .unset] [(.long (u ^^^ (-1 : Int64))), (.long (u &&& (w ^^^ (-1 : Int64))))])) ?_ (fun t k => XS.lxor X8.here hx rfl (hb hby at_79) rfl k)
  refine Goes.on (T' := T8) (g' := (mkF m 81 #[.val (.long u), .second, .val (.long w), .second, .val (.long (u &&& w)), .second, .val (.long (u ||| w)), .second, .val (.long (u ^^^ w)), .second, .val (.long (u &&& (w ^^^ (-1 : Int64)))), .second, .val (.int (1 : Int32)), .unset, .unset, .unset, .unset] [(.long ((u &&& (w ^^^ (-1 : Int64))) &&& (u ^^^ (-1 : Int64))))])) ?_ (fun t k => XS.land X8.here hx rfl (hb hby at_80) rfl k)
  refine Goes.on (T' := T8) (g' := (mkF m 82 #[.val (.long u), .second, .val (.long w), .second, .val (.long (u &&& w)), .second, .val (.long (u ||| w)), .second, .val (.long (u ^^^ w)), .second, .val (.long (u &&& (w ^^^ (-1 : Int64)))), .second, .val (.int (1 : Int32)), .unset, .unset, .unset, .unset] [(.long (0 : Int64)), (.long ((u &&& (w ^^^ (-1 : Int64))) &&& (u ^^^ (-1 : Int64))))])) ?_ (fun t k => XS.lconst X8.here hx rfl (hb hby at_81) k)
  refine Goes.on (T' := T8) (g' := (mkF m 83 #[.val (.long u), .second, .val (.long w), .second, .val (.long (u &&& w)), .second, .val (.long (u ||| w)), .second, .val (.long (u ^^^ w)), .second, .val (.long (u &&& (w ^^^ (-1 : Int64)))), .second, .val (.int (1 : Int32)), .unset, .unset, .unset, .unset] [(.int (lcmpW ((u &&& (w ^^^ (-1 : Int64))) &&& (u ^^^ (-1 : Int64))) (0 : Int64)))])) ?_ (fun t k => XS.lcmp X8.here hx rfl (hb hby at_82) rfl k)
  refine Goes.on (T' := T8) (g' := (mkF m 86 #[.val (.long u), .second, .val (.long w), .second, .val (.long (u &&& w)), .second, .val (.long (u ||| w)), .second, .val (.long (u ^^^ w)), .second, .val (.long (u &&& (w ^^^ (-1 : Int64)))), .second, .val (.int (1 : Int32)), .unset, .unset, .unset, .unset] [])) ?_ (fun t k => XS.ifNo X8.here hx rfl (hb hby at_83) rfl ((if0 _ _).trans (teq (own_lc (own_c83 u w))).2) k)
  refine Goes.on (T' := T8) (g' := (mkF m 88 #[.val (.long u), .second, .val (.long w), .second, .val (.long (u &&& w)), .second, .val (.long (u ||| w)), .second, .val (.long (u ^^^ w)), .second, .val (.long (u &&& (w ^^^ (-1 : Int64)))), .second, .val (.int (1 : Int32)), .unset, .unset, .unset, .unset] [(.long (u &&& (w ^^^ (-1 : Int64))))])) ?_ (fun t k => XS.lload X8.here hx rfl (hb hby at_86) rfl k)
  refine Goes.on (T' := T8) (g' := (mkF m 89 #[.val (.long u), .second, .val (.long w), .second, .val (.long (u &&& w)), .second, .val (.long (u ||| w)), .second, .val (.long (u ^^^ w)), .second, .val (.long (u &&& (w ^^^ (-1 : Int64)))), .second, .val (.int (1 : Int32)), .unset, .unset, .unset, .unset] [(.long w), (.long (u &&& (w ^^^ (-1 : Int64))))])) ?_ (fun t k => XS.lloadN X8.here hx rfl (hb hby at_88) rfl k)
  refine Goes.on (T' := T8) (g' := (mkF m 90 #[.val (.long u), .second, .val (.long w), .second, .val (.long (u &&& w)), .second, .val (.long (u ||| w)), .second, .val (.long (u ^^^ w)), .second, .val (.long (u &&& (w ^^^ (-1 : Int64)))), .second, .val (.int (1 : Int32)), .unset, .unset, .unset, .unset] [(.long ((u &&& (w ^^^ (-1 : Int64))) &&& w))])) ?_ (fun t k => XS.land X8.here hx rfl (hb hby at_89) rfl k)
  refine Goes.on (T' := T8) (g' := (mkF m 91 #[.val (.long u), .second, .val (.long w), .second, .val (.long (u &&& w)), .second, .val (.long (u ||| w)), .second, .val (.long (u ^^^ w)), .second, .val (.long (u &&& (w ^^^ (-1 : Int64)))), .second, .val (.int (1 : Int32)), .unset, .unset, .unset, .unset] [(.long (0 : Int64)), (.long ((u &&& (w ^^^ (-1 : Int64))) &&& w))])) ?_ (fun t k => XS.lconst X8.here hx rfl (hb hby at_90) k)
  refine Goes.on (T' := T8) (g' := (mkF m 92 #[.val (.long u), .second, .val (.long w), .second, .val (.long (u &&& w)), .second, .val (.long (u ||| w)), .second, .val (.long (u ^^^ w)), .second, .val (.long (u &&& (w ^^^ (-1 : Int64)))), .second, .val (.int (1 : Int32)), .unset, .unset, .unset, .unset] [(.int (lcmpW ((u &&& (w ^^^ (-1 : Int64))) &&& w) (0 : Int64)))])) ?_ (fun t k => XS.lcmp X8.here hx rfl (hb hby at_91) rfl k)
  refine Goes.on (T' := T8) (g' := (mkF m 95 #[.val (.long u), .second, .val (.long w), .second, .val (.long (u &&& w)), .second, .val (.long (u ||| w)), .second, .val (.long (u ^^^ w)), .second, .val (.long (u &&& (w ^^^ (-1 : Int64)))), .second, .val (.int (1 : Int32)), .unset, .unset, .unset, .unset] [])) ?_ (fun t k => XS.ifNo X8.here hx rfl (hb hby at_92) rfl ((if0 _ _).trans (teq (own_lc (own_c92 u w))).2) k)
  refine Goes.on (T' := T8) (g' := (mkF m 96 #[.val (.long u), .second, .val (.long w), .second, .val (.long (u &&& w)), .second, .val (.long (u ||| w)), .second, .val (.long (u ^^^ w)), .second, .val (.long (u &&& (w ^^^ (-1 : Int64)))), .second, .val (.int (1 : Int32)), .unset, .unset, .unset, .unset] [(.int (1 : Int32))])) ?_ (fun t k => XS.iconst X8.here hx rfl (hb hby at_95) k)
  refine Goes.on (T' := T8) (g' := (mkF m 100 #[.val (.long u), .second, .val (.long w), .second, .val (.long (u &&& w)), .second, .val (.long (u ||| w)), .second, .val (.long (u ^^^ w)), .second, .val (.long (u &&& (w ^^^ (-1 : Int64)))), .second, .val (.int (1 : Int32)), .unset, .unset, .unset, .unset] [(.int (1 : Int32))])) ?_ (fun t k => XS.goto X8.here hx rfl (pc0 := 96) (pc' := 100) rfl (hb hby at_96) (by decide) (by decide) k)
  refine Goes.on (T' := T8) (g' := (mkF m 102 #[.val (.long u), .second, .val (.long w), .second, .val (.long (u &&& w)), .second, .val (.long (u ||| w)), .second, .val (.long (u ^^^ w)), .second, .val (.long (u &&& (w ^^^ (-1 : Int64)))), .second, .val (.int (1 : Int32)), .val (.int (1 : Int32)), .unset, .unset, .unset] [])) ?_ (fun t k => XS.istore X8.here hx rfl (hb hby at_100) rfl (l' := #[.val (.long u), .second, .val (.long w), .second, .val (.long (u &&& w)), .second, .val (.long (u ||| w)), .second, .val (.long (u ^^^ w)), .second, .val (.long (u &&& (w ^^^ (-1 : Int64)))), .second, .val (.int (1 : Int32)), .val (.int (1 : Int32)), .unset, .unset, .unset]) rfl k)
  refine Goes.on (T' := T8) (g' := (mkF m 104 #[.val (.long u), .second, .val (.long w), .second, .val (.long (u &&& w)), .second, .val (.long (u ||| w)), .second, .val (.long (u ^^^ w)), .second, .val (.long (u &&& (w ^^^ (-1 : Int64)))), .second, .val (.int (1 : Int32)), .val (.int (1 : Int32)), .unset, .unset, .unset] [(.long (u &&& w))])) ?_ (fun t k => XS.lload X8.here hx rfl (hb hby at_102) rfl k)
  refine Goes.on (T' := T8) (g' := (mkF m 106 #[.val (.long u), .second, .val (.long w), .second, .val (.long (u &&& w)), .second, .val (.long (u ||| w)), .second, .val (.long (u ^^^ w)), .second, .val (.long (u &&& (w ^^^ (-1 : Int64)))), .second, .val (.int (1 : Int32)), .val (.int (1 : Int32)), .unset, .unset, .unset] [(.long (u &&& (w ^^^ (-1 : Int64)))), (.long (u &&& w))])) ?_ (fun t k => XS.lload X8.here hx rfl (hb hby at_104) rfl k)
  refine Goes.on (T' := T8) (g' := (mkF m 107 #[.val (.long u), .second, .val (.long w), .second, .val (.long (u &&& w)), .second, .val (.long (u ||| w)), .second, .val (.long (u ^^^ w)), .second, .val (.long (u &&& (w ^^^ (-1 : Int64)))), .second, .val (.int (1 : Int32)), .val (.int (1 : Int32)), .unset, .unset, .unset] [(.long ((u &&& w) + (u &&& (w ^^^ (-1 : Int64)))))])) ?_ (fun t k => XS.ladd X8.here hx rfl (hb hby at_106) rfl k)
  refine Goes.on (T' := T8) (g' := (mkF m 108 #[.val (.long u), .second, .val (.long w), .second, .val (.long (u &&& w)), .second, .val (.long (u ||| w)), .second, .val (.long (u ^^^ w)), .second, .val (.long (u &&& (w ^^^ (-1 : Int64)))), .second, .val (.int (1 : Int32)), .val (.int (1 : Int32)), .unset, .unset, .unset] [(.long u), (.long ((u &&& w) + (u &&& (w ^^^ (-1 : Int64)))))])) ?_ (fun t k => XS.lloadN X8.here hx rfl (hb hby at_107) rfl k)
  refine Goes.on (T' := T8) (g' := (mkF m 109 #[.val (.long u), .second, .val (.long w), .second, .val (.long (u &&& w)), .second, .val (.long (u ||| w)), .second, .val (.long (u ^^^ w)), .second, .val (.long (u &&& (w ^^^ (-1 : Int64)))), .second, .val (.int (1 : Int32)), .val (.int (1 : Int32)), .unset, .unset, .unset] [(.int (lcmpW ((u &&& w) + (u &&& (w ^^^ (-1 : Int64)))) u))])) ?_ (fun t k => XS.lcmp X8.here hx rfl (hb hby at_108) rfl k)
  refine Goes.on (T' := T8) (g' := (mkF m 112 #[.val (.long u), .second, .val (.long w), .second, .val (.long (u &&& w)), .second, .val (.long (u ||| w)), .second, .val (.long (u ^^^ w)), .second, .val (.long (u &&& (w ^^^ (-1 : Int64)))), .second, .val (.int (1 : Int32)), .val (.int (1 : Int32)), .unset, .unset, .unset] [])) ?_ (fun t k => XS.ifNo X8.here hx rfl (hb hby at_109) rfl ((if0 _ _).trans (teq (own_lc (own_c109 u w))).2) k)
  refine Goes.on (T' := T8) (g' := (mkF m 113 #[.val (.long u), .second, .val (.long w), .second, .val (.long (u &&& w)), .second, .val (.long (u ||| w)), .second, .val (.long (u ^^^ w)), .second, .val (.long (u &&& (w ^^^ (-1 : Int64)))), .second, .val (.int (1 : Int32)), .val (.int (1 : Int32)), .unset, .unset, .unset] [(.int (1 : Int32))])) ?_ (fun t k => XS.iconst X8.here hx rfl (hb hby at_112) k)
  refine Goes.on (T' := T8) (g' := (mkF m 117 #[.val (.long u), .second, .val (.long w), .second, .val (.long (u &&& w)), .second, .val (.long (u ||| w)), .second, .val (.long (u ^^^ w)), .second, .val (.long (u &&& (w ^^^ (-1 : Int64)))), .second, .val (.int (1 : Int32)), .val (.int (1 : Int32)), .unset, .unset, .unset] [(.int (1 : Int32))])) ?_ (fun t k => XS.goto X8.here hx rfl (pc0 := 113) (pc' := 117) rfl (hb hby at_113) (by decide) (by decide) k)
  refine Goes.on (T' := T8) (g' := (mkF m 119 #[.val (.long u), .second, .val (.long w), .second, .val (.long (u &&& w)), .second, .val (.long (u ||| w)), .second, .val (.long (u ^^^ w)), .second, .val (.long (u &&& (w ^^^ (-1 : Int64)))), .second, .val (.int (1 : Int32)), .val (.int (1 : Int32)), .val (.int (1 : Int32)), .unset, .unset] [])) ?_ (fun t k => XS.istore X8.here hx rfl (hb hby at_117) rfl (l' := #[.val (.long u), .second, .val (.long w), .second, .val (.long (u &&& w)), .second, .val (.long (u ||| w)), .second, .val (.long (u ^^^ w)), .second, .val (.long (u &&& (w ^^^ (-1 : Int64)))), .second, .val (.int (1 : Int32)), .val (.int (1 : Int32)), .val (.int (1 : Int32)), .unset, .unset]) rfl k)
  refine Goes.on (T' := T8) (g' := (mkF m 121 #[.val (.long u), .second, .val (.long w), .second, .val (.long (u &&& w)), .second, .val (.long (u ||| w)), .second, .val (.long (u ^^^ w)), .second, .val (.long (u &&& (w ^^^ (-1 : Int64)))), .second, .val (.int (1 : Int32)), .val (.int (1 : Int32)), .val (.int (1 : Int32)), .unset, .unset] [(.long (u ||| w))])) ?_ (fun t k => XS.lload X8.here hx rfl (hb hby at_119) rfl k)
  refine Goes.on (T' := T8) (g' := (mkF m 123 #[.val (.long u), .second, .val (.long w), .second, .val (.long (u &&& w)), .second, .val (.long (u ||| w)), .second, .val (.long (u ^^^ w)), .second, .val (.long (u &&& (w ^^^ (-1 : Int64)))), .second, .val (.int (1 : Int32)), .val (.int (1 : Int32)), .val (.int (1 : Int32)), .unset, .unset] [(.long (u &&& w)), (.long (u ||| w))])) ?_ (fun t k => XS.lload X8.here hx rfl (hb hby at_121) rfl k)
  refine Goes.on (T' := T8) (g' := (mkF m 124 #[.val (.long u), .second, .val (.long w), .second, .val (.long (u &&& w)), .second, .val (.long (u ||| w)), .second, .val (.long (u ^^^ w)), .second, .val (.long (u &&& (w ^^^ (-1 : Int64)))), .second, .val (.int (1 : Int32)), .val (.int (1 : Int32)), .val (.int (1 : Int32)), .unset, .unset] [(.long ((u ||| w) + (u &&& w)))])) ?_ (fun t k => XS.ladd X8.here hx rfl (hb hby at_123) rfl k)
  refine Goes.on (T' := T8) (g' := (mkF m 125 #[.val (.long u), .second, .val (.long w), .second, .val (.long (u &&& w)), .second, .val (.long (u ||| w)), .second, .val (.long (u ^^^ w)), .second, .val (.long (u &&& (w ^^^ (-1 : Int64)))), .second, .val (.int (1 : Int32)), .val (.int (1 : Int32)), .val (.int (1 : Int32)), .unset, .unset] [(.long u), (.long ((u ||| w) + (u &&& w)))])) ?_ (fun t k => XS.lloadN X8.here hx rfl (hb hby at_124) rfl k)
  refine Goes.on (T' := T8) (g' := (mkF m 126 #[.val (.long u), .second, .val (.long w), .second, .val (.long (u &&& w)), .second, .val (.long (u ||| w)), .second, .val (.long (u ^^^ w)), .second, .val (.long (u &&& (w ^^^ (-1 : Int64)))), .second, .val (.int (1 : Int32)), .val (.int (1 : Int32)), .val (.int (1 : Int32)), .unset, .unset] [(.long w), (.long u), (.long ((u ||| w) + (u &&& w)))])) ?_ (fun t k => XS.lloadN X8.here hx rfl (hb hby at_125) rfl k)
  refine Goes.on (T' := T8) (g' := (mkF m 127 #[.val (.long u), .second, .val (.long w), .second, .val (.long (u &&& w)), .second, .val (.long (u ||| w)), .second, .val (.long (u ^^^ w)), .second, .val (.long (u &&& (w ^^^ (-1 : Int64)))), .second, .val (.int (1 : Int32)), .val (.int (1 : Int32)), .val (.int (1 : Int32)), .unset, .unset] [(.long (u + w)), (.long ((u ||| w) + (u &&& w)))])) ?_ (fun t k => XS.ladd X8.here hx rfl (hb hby at_126) rfl k)
  refine Goes.on (T' := T8) (g' := (mkF m 128 #[.val (.long u), .second, .val (.long w), .second, .val (.long (u &&& w)), .second, .val (.long (u ||| w)), .second, .val (.long (u ^^^ w)), .second, .val (.long (u &&& (w ^^^ (-1 : Int64)))), .second, .val (.int (1 : Int32)), .val (.int (1 : Int32)), .val (.int (1 : Int32)), .unset, .unset] [(.int (lcmpW ((u ||| w) + (u &&& w)) (u + w)))])) ?_ (fun t k => XS.lcmp X8.here hx rfl (hb hby at_127) rfl k)
  refine Goes.on (T' := T8) (g' := (mkF m 131 #[.val (.long u), .second, .val (.long w), .second, .val (.long (u &&& w)), .second, .val (.long (u ||| w)), .second, .val (.long (u ^^^ w)), .second, .val (.long (u &&& (w ^^^ (-1 : Int64)))), .second, .val (.int (1 : Int32)), .val (.int (1 : Int32)), .val (.int (1 : Int32)), .unset, .unset] [])) ?_ (fun t k => XS.ifNo X8.here hx rfl (hb hby at_128) rfl ((if0 _ _).trans (teq (own_lc (own_c128 u w))).2) k)
  refine Goes.on (T' := T8) (g' := (mkF m 132 #[.val (.long u), .second, .val (.long w), .second, .val (.long (u &&& w)), .second, .val (.long (u ||| w)), .second, .val (.long (u ^^^ w)), .second, .val (.long (u &&& (w ^^^ (-1 : Int64)))), .second, .val (.int (1 : Int32)), .val (.int (1 : Int32)), .val (.int (1 : Int32)), .unset, .unset] [(.int (1 : Int32))])) ?_ (fun t k => XS.iconst X8.here hx rfl (hb hby at_131) k)
  refine Goes.on (T' := T8) (g' := (mkF m 136 #[.val (.long u), .second, .val (.long w), .second, .val (.long (u &&& w)), .second, .val (.long (u ||| w)), .second, .val (.long (u ^^^ w)), .second, .val (.long (u &&& (w ^^^ (-1 : Int64)))), .second, .val (.int (1 : Int32)), .val (.int (1 : Int32)), .val (.int (1 : Int32)), .unset, .unset] [(.int (1 : Int32))])) ?_ (fun t k => XS.goto X8.here hx rfl (pc0 := 132) (pc' := 136) rfl (hb hby at_132) (by decide) (by decide) k)
  refine Goes.on (T' := T8) (g' := (mkF m 138 #[.val (.long u), .second, .val (.long w), .second, .val (.long (u &&& w)), .second, .val (.long (u ||| w)), .second, .val (.long (u ^^^ w)), .second, .val (.long (u &&& (w ^^^ (-1 : Int64)))), .second, .val (.int (1 : Int32)), .val (.int (1 : Int32)), .val (.int (1 : Int32)), .val (.int (1 : Int32)), .unset] [])) ?_ (fun t k => XS.istore X8.here hx rfl (hb hby at_136) rfl (l' := #[.val (.long u), .second, .val (.long w), .second, .val (.long (u &&& w)), .second, .val (.long (u ||| w)), .second, .val (.long (u ^^^ w)), .second, .val (.long (u &&& (w ^^^ (-1 : Int64)))), .second, .val (.int (1 : Int32)), .val (.int (1 : Int32)), .val (.int (1 : Int32)), .val (.int (1 : Int32)), .unset]) rfl k)
  refine Goes.on (T' := T8) (g' := (mkF m 140 #[.val (.long u), .second, .val (.long w), .second, .val (.long (u &&& w)), .second, .val (.long (u ||| w)), .second, .val (.long (u ^^^ w)), .second, .val (.long (u &&& (w ^^^ (-1 : Int64)))), .second, .val (.int (1 : Int32)), .val (.int (1 : Int32)), .val (.int (1 : Int32)), .val (.int (1 : Int32)), .unset] [(.long (u ^^^ w))])) ?_ (fun t k => XS.lload X8.here hx rfl (hb hby at_138) rfl k)
  refine Goes.on (T' := T8) (g' := (mkF m 143 #[.val (.long u), .second, .val (.long w), .second, .val (.long (u &&& w)), .second, .val (.long (u ||| w)), .second, .val (.long (u ^^^ w)), .second, .val (.long (u &&& (w ^^^ (-1 : Int64)))), .second, .val (.int (1 : Int32)), .val (.int (1 : Int32)), .val (.int (1 : Int32)), .val (.int (1 : Int32)), .unset] [(.long (2 : Int64)), (.long (u ^^^ w))])) ?_ (X8.ldc2Long hx hown (mvT hZ (hw _ (List.mem_of_getElem? (i := 22) rfl))) (g := (mkF m 140 #[.val (.long u), .second, .val (.long w), .second, .val (.long (u &&& w)), .second, .val (.long (u ||| w)), .second, .val (.long (u ^^^ w)), .second, .val (.long (u &&& (w ^^^ (-1 : Int64)))), .second, .val (.int (1 : Int32)), .val (.int (1 : Int32)), .val (.int (1 : Int32)), .val (.int (1 : Int32)), .unset] [(.long (u ^^^ w))])) rfl (hb hby at_140))
  refine Goes.on (T' := T8) (g' := (mkF m 145 #[.val (.long u), .second, .val (.long w), .second, .val (.long (u &&& w)), .second, .val (.long (u ||| w)), .second, .val (.long (u ^^^ w)), .second, .val (.long (u &&& (w ^^^ (-1 : Int64)))), .second, .val (.int (1 : Int32)), .val (.int (1 : Int32)), .val (.int (1 : Int32)), .val (.int (1 : Int32)), .unset] [(.long (u &&& w)), (.long (2 : Int64)), (.long (u ^^^ w))])) ?_ (fun t k => XS.lload X8.here hx rfl (hb hby at_143) rfl k)
  refine Goes.on (T' := T8) (g' := (mkF m 146 #[.val (.long u), .second, .val (.long w), .second, .val (.long (u &&& w)), .second, .val (.long (u ||| w)), .second, .val (.long (u ^^^ w)), .second, .val (.long (u &&& (w ^^^ (-1 : Int64)))), .second, .val (.int (1 : Int32)), .val (.int (1 : Int32)), .val (.int (1 : Int32)), .val (.int (1 : Int32)), .unset] [(.long ((2 : Int64) * (u &&& w))), (.long (u ^^^ w))])) ?_ (fun t k => XS.lmul X8.here hx rfl (hb hby at_145) rfl k)
  refine Goes.on (T' := T8) (g' := (mkF m 147 #[.val (.long u), .second, .val (.long w), .second, .val (.long (u &&& w)), .second, .val (.long (u ||| w)), .second, .val (.long (u ^^^ w)), .second, .val (.long (u &&& (w ^^^ (-1 : Int64)))), .second, .val (.int (1 : Int32)), .val (.int (1 : Int32)), .val (.int (1 : Int32)), .val (.int (1 : Int32)), .unset] [(.long ((u ^^^ w) + ((2 : Int64) * (u &&& w))))])) ?_ (fun t k => XS.ladd X8.here hx rfl (hb hby at_146) rfl k)
  refine Goes.on (T' := T8) (g' := (mkF m 148 #[.val (.long u), .second, .val (.long w), .second, .val (.long (u &&& w)), .second, .val (.long (u ||| w)), .second, .val (.long (u ^^^ w)), .second, .val (.long (u &&& (w ^^^ (-1 : Int64)))), .second, .val (.int (1 : Int32)), .val (.int (1 : Int32)), .val (.int (1 : Int32)), .val (.int (1 : Int32)), .unset] [(.long u), (.long ((u ^^^ w) + ((2 : Int64) * (u &&& w))))])) ?_ (fun t k => XS.lloadN X8.here hx rfl (hb hby at_147) rfl k)
  refine Goes.on (T' := T8) (g' := (mkF m 149 #[.val (.long u), .second, .val (.long w), .second, .val (.long (u &&& w)), .second, .val (.long (u ||| w)), .second, .val (.long (u ^^^ w)), .second, .val (.long (u &&& (w ^^^ (-1 : Int64)))), .second, .val (.int (1 : Int32)), .val (.int (1 : Int32)), .val (.int (1 : Int32)), .val (.int (1 : Int32)), .unset] [(.long w), (.long u), (.long ((u ^^^ w) + ((2 : Int64) * (u &&& w))))])) ?_ (fun t k => XS.lloadN X8.here hx rfl (hb hby at_148) rfl k)
  refine Goes.on (T' := T8) (g' := (mkF m 150 #[.val (.long u), .second, .val (.long w), .second, .val (.long (u &&& w)), .second, .val (.long (u ||| w)), .second, .val (.long (u ^^^ w)), .second, .val (.long (u &&& (w ^^^ (-1 : Int64)))), .second, .val (.int (1 : Int32)), .val (.int (1 : Int32)), .val (.int (1 : Int32)), .val (.int (1 : Int32)), .unset] [(.long (u + w)), (.long ((u ^^^ w) + ((2 : Int64) * (u &&& w))))])) ?_ (fun t k => XS.ladd X8.here hx rfl (hb hby at_149) rfl k)
  refine Goes.on (T' := T8) (g' := (mkF m 151 #[.val (.long u), .second, .val (.long w), .second, .val (.long (u &&& w)), .second, .val (.long (u ||| w)), .second, .val (.long (u ^^^ w)), .second, .val (.long (u &&& (w ^^^ (-1 : Int64)))), .second, .val (.int (1 : Int32)), .val (.int (1 : Int32)), .val (.int (1 : Int32)), .val (.int (1 : Int32)), .unset] [(.int (lcmpW ((u ^^^ w) + ((2 : Int64) * (u &&& w))) (u + w)))])) ?_ (fun t k => XS.lcmp X8.here hx rfl (hb hby at_150) rfl k)
  refine Goes.on (T' := T8) (g' := (mkF m 154 #[.val (.long u), .second, .val (.long w), .second, .val (.long (u &&& w)), .second, .val (.long (u ||| w)), .second, .val (.long (u ^^^ w)), .second, .val (.long (u &&& (w ^^^ (-1 : Int64)))), .second, .val (.int (1 : Int32)), .val (.int (1 : Int32)), .val (.int (1 : Int32)), .val (.int (1 : Int32)), .unset] [])) ?_ (fun t k => XS.ifNo X8.here hx rfl (hb hby at_151) rfl ((if0 _ _).trans (teq (own_lc (own_c151 u w))).2) k)
  refine Goes.on (T' := T8) (g' := (mkF m 155 #[.val (.long u), .second, .val (.long w), .second, .val (.long (u &&& w)), .second, .val (.long (u ||| w)), .second, .val (.long (u ^^^ w)), .second, .val (.long (u &&& (w ^^^ (-1 : Int64)))), .second, .val (.int (1 : Int32)), .val (.int (1 : Int32)), .val (.int (1 : Int32)), .val (.int (1 : Int32)), .unset] [(.int (1 : Int32))])) ?_ (fun t k => XS.iconst X8.here hx rfl (hb hby at_154) k)
  refine Goes.on (T' := T8) (g' := (mkF m 159 #[.val (.long u), .second, .val (.long w), .second, .val (.long (u &&& w)), .second, .val (.long (u ||| w)), .second, .val (.long (u ^^^ w)), .second, .val (.long (u &&& (w ^^^ (-1 : Int64)))), .second, .val (.int (1 : Int32)), .val (.int (1 : Int32)), .val (.int (1 : Int32)), .val (.int (1 : Int32)), .unset] [(.int (1 : Int32))])) ?_ (fun t k => XS.goto X8.here hx rfl (pc0 := 155) (pc' := 159) rfl (hb hby at_155) (by decide) (by decide) k)
  refine Goes.on (T' := T8) (g' := (mkF m 161 #[.val (.long u), .second, .val (.long w), .second, .val (.long (u &&& w)), .second, .val (.long (u ||| w)), .second, .val (.long (u ^^^ w)), .second, .val (.long (u &&& (w ^^^ (-1 : Int64)))), .second, .val (.int (1 : Int32)), .val (.int (1 : Int32)), .val (.int (1 : Int32)), .val (.int (1 : Int32)), .val (.int (1 : Int32))] [])) ?_ (fun t k => XS.istore X8.here hx rfl (hb hby at_159) rfl (l' := #[.val (.long u), .second, .val (.long w), .second, .val (.long (u &&& w)), .second, .val (.long (u ||| w)), .second, .val (.long (u ^^^ w)), .second, .val (.long (u &&& (w ^^^ (-1 : Int64)))), .second, .val (.int (1 : Int32)), .val (.int (1 : Int32)), .val (.int (1 : Int32)), .val (.int (1 : Int32)), .val (.int (1 : Int32))]) rfl k)
  refine Goes.on (T' := T8) (g' := (mkF m 163 #[.val (.long u), .second, .val (.long w), .second, .val (.long (u &&& w)), .second, .val (.long (u ||| w)), .second, .val (.long (u ^^^ w)), .second, .val (.long (u &&& (w ^^^ (-1 : Int64)))), .second, .val (.int (1 : Int32)), .val (.int (1 : Int32)), .val (.int (1 : Int32)), .val (.int (1 : Int32)), .val (.int (1 : Int32))] [(.int (1 : Int32))])) ?_ (fun t k => XS.iload X8.here hx rfl (hb hby at_161) rfl k)
  refine Goes.on (T' := T8) (g' := (mkF m 166 #[.val (.long u), .second, .val (.long w), .second, .val (.long (u &&& w)), .second, .val (.long (u ||| w)), .second, .val (.long (u ^^^ w)), .second, .val (.long (u &&& (w ^^^ (-1 : Int64)))), .second, .val (.int (1 : Int32)), .val (.int (1 : Int32)), .val (.int (1 : Int32)), .val (.int (1 : Int32)), .val (.int (1 : Int32))] [])) ?_ (fun t k => XS.ifNo X8.here hx rfl (hb hby at_163) rfl (by decide) k)
  refine Goes.on (T' := T8) (g' := (mkF m 168 #[.val (.long u), .second, .val (.long w), .second, .val (.long (u &&& w)), .second, .val (.long (u ||| w)), .second, .val (.long (u ^^^ w)), .second, .val (.long (u &&& (w ^^^ (-1 : Int64)))), .second, .val (.int (1 : Int32)), .val (.int (1 : Int32)), .val (.int (1 : Int32)), .val (.int (1 : Int32)), .val (.int (1 : Int32))] [(.int (1 : Int32))])) ?_ (fun t k => XS.iload X8.here hx rfl (hb hby at_166) rfl k)
  refine Goes.on (T' := T8) (g' := (mkF m 171 #[.val (.long u), .second, .val (.long w), .second, .val (.long (u &&& w)), .second, .val (.long (u ||| w)), .second, .val (.long (u ^^^ w)), .second, .val (.long (u &&& (w ^^^ (-1 : Int64)))), .second, .val (.int (1 : Int32)), .val (.int (1 : Int32)), .val (.int (1 : Int32)), .val (.int (1 : Int32)), .val (.int (1 : Int32))] [])) ?_ (fun t k => XS.ifNo X8.here hx rfl (hb hby at_168) rfl (by decide) k)
  refine Goes.on (T' := T8) (g' := (mkF m 173 #[.val (.long u), .second, .val (.long w), .second, .val (.long (u &&& w)), .second, .val (.long (u ||| w)), .second, .val (.long (u ^^^ w)), .second, .val (.long (u &&& (w ^^^ (-1 : Int64)))), .second, .val (.int (1 : Int32)), .val (.int (1 : Int32)), .val (.int (1 : Int32)), .val (.int (1 : Int32)), .val (.int (1 : Int32))] [(.int (1 : Int32))])) ?_ (fun t k => XS.iload X8.here hx rfl (hb hby at_171) rfl k)
  refine Goes.on (T' := T8) (g' := (mkF m 176 #[.val (.long u), .second, .val (.long w), .second, .val (.long (u &&& w)), .second, .val (.long (u ||| w)), .second, .val (.long (u ^^^ w)), .second, .val (.long (u &&& (w ^^^ (-1 : Int64)))), .second, .val (.int (1 : Int32)), .val (.int (1 : Int32)), .val (.int (1 : Int32)), .val (.int (1 : Int32)), .val (.int (1 : Int32))] [])) ?_ (fun t k => XS.ifNo X8.here hx rfl (hb hby at_173) rfl (by decide) k)
  refine Goes.on (T' := T8) (g' := (mkF m 178 #[.val (.long u), .second, .val (.long w), .second, .val (.long (u &&& w)), .second, .val (.long (u ||| w)), .second, .val (.long (u ^^^ w)), .second, .val (.long (u &&& (w ^^^ (-1 : Int64)))), .second, .val (.int (1 : Int32)), .val (.int (1 : Int32)), .val (.int (1 : Int32)), .val (.int (1 : Int32)), .val (.int (1 : Int32))] [(.int (1 : Int32))])) ?_ (fun t k => XS.iload X8.here hx rfl (hb hby at_176) rfl k)
  refine Goes.on (T' := T8) (g' := (mkF m 181 #[.val (.long u), .second, .val (.long w), .second, .val (.long (u &&& w)), .second, .val (.long (u ||| w)), .second, .val (.long (u ^^^ w)), .second, .val (.long (u &&& (w ^^^ (-1 : Int64)))), .second, .val (.int (1 : Int32)), .val (.int (1 : Int32)), .val (.int (1 : Int32)), .val (.int (1 : Int32)), .val (.int (1 : Int32))] [])) ?_ (fun t k => XS.ifNo X8.here hx rfl (hb hby at_178) rfl (by decide) k)
  refine Goes.on (T' := T8) (g' := (mkF m 183 #[.val (.long u), .second, .val (.long w), .second, .val (.long (u &&& w)), .second, .val (.long (u ||| w)), .second, .val (.long (u ^^^ w)), .second, .val (.long (u &&& (w ^^^ (-1 : Int64)))), .second, .val (.int (1 : Int32)), .val (.int (1 : Int32)), .val (.int (1 : Int32)), .val (.int (1 : Int32)), .val (.int (1 : Int32))] [(.int (1 : Int32))])) ?_ (fun t k => XS.iload X8.here hx rfl (hb hby at_181) rfl k)
  refine Goes.on (T' := T8) (g' := (mkF m 186 #[.val (.long u), .second, .val (.long w), .second, .val (.long (u &&& w)), .second, .val (.long (u ||| w)), .second, .val (.long (u ^^^ w)), .second, .val (.long (u &&& (w ^^^ (-1 : Int64)))), .second, .val (.int (1 : Int32)), .val (.int (1 : Int32)), .val (.int (1 : Int32)), .val (.int (1 : Int32)), .val (.int (1 : Int32))] [])) ?_ (fun t k => XS.ifNo X8.here hx rfl (hb hby at_183) rfl (by decide) k)
  refine Goes.on (T' := T8) (g' := (mkF m 187 #[.val (.long u), .second, .val (.long w), .second, .val (.long (u &&& w)), .second, .val (.long (u ||| w)), .second, .val (.long (u ^^^ w)), .second, .val (.long (u &&& (w ^^^ (-1 : Int64)))), .second, .val (.int (1 : Int32)), .val (.int (1 : Int32)), .val (.int (1 : Int32)), .val (.int (1 : Int32)), .val (.int (1 : Int32))] [(.int (1 : Int32))])) ?_ (fun t k => XS.iconst X8.here hx rfl (hb hby at_186) k)
  refine Goes.on (T' := T8) (g' := (mkF m 191 #[.val (.long u), .second, .val (.long w), .second, .val (.long (u &&& w)), .second, .val (.long (u ||| w)), .second, .val (.long (u ^^^ w)), .second, .val (.long (u &&& (w ^^^ (-1 : Int64)))), .second, .val (.int (1 : Int32)), .val (.int (1 : Int32)), .val (.int (1 : Int32)), .val (.int (1 : Int32)), .val (.int (1 : Int32))] [(.int (1 : Int32))])) ?_ (fun t k => XS.goto X8.here hx rfl (pc0 := 187) (pc' := 191) rfl (hb hby at_187) (by decide) (by decide) k)
  rw [hWd]
  exact Goes.retn X8 (v := some (.int (nar .boolean (1 : Int32)))) (fun fs hr => retN X8 hx (t := .boolean) Bd.returns (by simp) (hb hby at_191) hr) (fun h => by rw [Bd.returns] at h; cases h) Bd.notSynchronized (by decide) (by decide) (by rw [eh8]; exact ⟨rfl, N8⟩)
set_option maxRecDepth 65536 in
set_option maxHeartbeats 40000000 in
theorem comes_1 {Post : Tables → Env → Array Value → State → Outcome → State → Prop} (hpost : ∀ tb e args s v u, (limb_1_1.after args s (.returned v) u = true ∧ limb_1_2.after args s (.returned v) u = true ∧ True) → FrameEnd s (.returned v) u (Jvm.fieldLocs frame_1_writes args s ++ Jvm.arrayLocs frame_1_arrays args s ++ Jvm.staticLocs frame_1_statics s) 0 0 → Post tb e args s (.returned v) u) :
    ArmFor flags0 classFile x code maxLocals ret World_1 tables_1 room_1 Calls_1 rest_1 Pre_1 Post := by
  intro l hfl _ _ p e ha hc hk s m args below hf hA hF happ hP
  obtain ⟨hcalls, hrest, hpre⟩ := hP
  obtain ⟨-, -, -, hnamed, -, -, -, hat⟩ := (Spec.applies_iff hf).mp happ
  obtain ⟨hg, hn⟩ := and_e (Cond.before_iff.mp (show (Jvm.Cond.and given_1 narrow_1).before args s = true from hpre))
  obtain ⟨hcount, hq0⟩ := and_e hg
  obtain ⟨ha0, hq1⟩ := and_e hq0
  have ha1 := hq1
  obtain ⟨w0, w1, rfl⟩ : ∃ w0 w1 : Value, args = #[w0, w1] := by
    have hs : args.size = 2 := by simpa [Cond.value, given_1] using hcount
    obtain ⟨L⟩ := args
    match L, hs with
    | [w0, w1], _ => exact ⟨w0, w1, rfl⟩
  have hw := fun d (hd : d ∈ tables_1) => atoms_spec (ws := Jvm.Cond.code x code maxLocals ret :: tables_1) hat d (List.mem_cons_of_mem _ hd)
  have hfit : Fit s := fun {y c} hc i hi => by
    obtain ⟨ha, rfl⟩ := Array.getElem?_eq_some_iff.mp hc
    have q := List.all_eq_true.mp ((Array.all_eq_true_iff_forall_mem.mp hF) _ (Array.getElem_mem ha)) i (List.mem_range.mpr hi)
    simpa [Array.getElem?_eq_getElem hi] using q
  obtain ⟨i0, ea0⟩ := isL_v ha0
  obtain rfl : w0 = (.long i0) := Option.some.inj ea0
  obtain ⟨i1, ea1⟩ := isL_v ha1
  obtain rfl : w1 = (.long i1) := Option.some.inj ea1
  obtain ⟨xAND, hr0⟩ := and_e hn
  obtain ⟨xOR, hr1⟩ := and_e hr0
  obtain ⟨xXOR, xAND_NOT⟩ := and_e hr1
  obtain ⟨aAND, evAND⟩ := exa_v xAND
  have EAND := Exa.start evAND xAND
  have SAND : Sta s s.heap "com/example/tallybit/tallybit/Combination" "AND" "Lcom/example/tallybit/tallybit/Combination;" (.ref aAND) := Sta.start evAND (Or.inr ⟨(hw _ (List.mem_of_getElem? (i := 1) rfl)), (hw _ (List.mem_of_getElem? (i := 2) rfl))⟩)
  obtain ⟨aOR, evOR⟩ := exa_v xOR
  have EOR := Exa.start evOR xOR
  have SOR : Sta s s.heap "com/example/tallybit/tallybit/Combination" "OR" "Lcom/example/tallybit/tallybit/Combination;" (.ref aOR) := Sta.start evOR (Or.inr ⟨(hw _ (List.mem_of_getElem? (i := 1) rfl)), (hw _ (List.mem_of_getElem? (i := 10) rfl))⟩)
  obtain ⟨aXOR, evXOR⟩ := exa_v xXOR
  have EXOR := Exa.start evXOR xXOR
  have SXOR : Sta s s.heap "com/example/tallybit/tallybit/Combination" "XOR" "Lcom/example/tallybit/tallybit/Combination;" (.ref aXOR) := Sta.start evXOR (Or.inr ⟨(hw _ (List.mem_of_getElem? (i := 1) rfl)), (hw _ (List.mem_of_getElem? (i := 14) rfl))⟩)
  obtain ⟨aAND_NOT, evAND_NOT⟩ := exa_v xAND_NOT
  have EAND_NOT := Exa.start evAND_NOT xAND_NOT
  have SAND_NOT : Sta s s.heap "com/example/tallybit/tallybit/Combination" "AND_NOT" "Lcom/example/tallybit/tallybit/Combination;" (.ref aAND_NOT) := Sta.start evAND_NOT (Or.inr ⟨(hw _ (List.mem_of_getElem? (i := 1) rfl)), (hw _ (List.mem_of_getElem? (i := 18) rfl))⟩)
  obtain ⟨n, o, h1, h2, h3, _, L, rfl, ⟨rfl, N⟩, hq⟩ := rm0 l s _ hw tables_1 i0 i1 aAND aOR aXOR aAND_NOT s.heap s.heap.size (Nat.le_refl _) SAND SOR SXOR SAND_NOT EAND EOR EXOR EAND_NOT p e ha hc hk s m _ below hf ((Spec.applies_iff_loose hf).mp happ).1 ⟨rfl, State.Warmed39.refl s, rfl⟩ trivial
  refine ⟨n, _, h1, h2, h3, hpost _ _ _ _ _ _ ⟨Cond.after_iff.mpr rfl, Cond.after_iff.mpr (eq_i res_at (Term.int_eval (1)) rfl), trivial⟩ ⟨hq.1, hq.2.1, (hq.2.2.sift fun y hy => Or.inr (N y hy)).mono (by decide) (by decide)⟩⟩
theorem main_1_1 : Claimed_1_1 := comes_1 fun _ _ _ _ _ _ h hF => ⟨h.1, hF⟩
theorem main_1_2 : Claimed_1_2 := comes_1 fun _ _ _ _ _ _ h hF => ⟨h.2.1, hF⟩
end Jvm.Pilot.@@N@@
namespace Jvm.Pilot.@@N@@
open Jvm Jvm.ClassFile Sem Op Lib Jvm.Free Jvm.Stand Jvm.Pilot.@@N@@.Jvm.D
/-! MADE BY PROGRAM (witnessworld.py) out of the Statement's table words and the real class files: 19 classes; the members and pool entries that the words name. The judged class is class 1, her method 1. -/
namespace start1
open Jvm.ClassFile
def u (s : String) : CpInfo := .utf8 (stringToUtf16 s)
/-- a pool by its gaps: so many unusable entries, then the entry; so many at the end -/
def gap : Nat → List CpInfo → List CpInfo
  | 0, r => r
  | n + 1, r => .unusable :: gap n r
def poolList (es : List (Nat × CpInfo)) (last : Nat) : List CpInfo := es.foldr (fun e r => gap e.1 (e.2 :: r)) (gap last [])
def pool (es : List (Nat × CpInfo)) (last : Nat) : Array CpInfo := ⟨poolList es last⟩
def fileOf (pool : Array CpInfo) (this : Nat) (attrs : Array Attribute := #[]) (ms : Array MethodInfo := #[]) (fl : Nat := 33) (sup : Nat := 0) (ifs : Array Nat := #[]) (fds : Array FieldInfo := #[]) : ClassFile where
  minorVersion := 0
  majorVersion := 65
  constantPool := pool
  accessFlags := fl
  thisClass := this
  superClass := sup
  interfaces := ifs
  fields := fds
  methods := ms
  attributes := attrs
def plain (name : String) (sup : Option ClassId) : Class where
  name := name
  kind := .ordinary
  loader := none
  accessFlags := 33
  super := sup
  interfaces := #[]
  cf := none
  fields := #[]
  methods := #[]
  instanceTypes := #[]
  staticTypes := #[]
  resolved := #[]
  callSites := []
  init := .initialized
  statics := none
  mirror := none

def pool0 : Array CpInfo := pool [(5, u "<init>"), (0, u "()V"), (1, .class_ 10), (1, u "java/lang/Object")] 113

def k0m0 : Method := { name := "<init>", desc := "()V", sig := { parameters := [], returnType := none }, accessFlags := 1, code := none }
/-- java/lang/Object -/
def k0 : Class := { plain "java/lang/Object" none with
  accessFlags := 33
  interfaces := #[]
  cf := some (fileOf pool0 8 #[] #[{ accessFlags := 1, nameIndex := 5, descriptorIndex := 6, attributes := #[] }] 33 0 #[] #[])
  fields := #[]
  methods := #[k0m0]
  instanceTypes := #[]
  staticTypes := #[]
  resolved := Array.replicate 124 none
  statics := none }

def pool1 : Array CpInfo := pool [(2, .class_ 4), (1, u "java/lang/Object"), (0, u "<init>"), (0, u "()V"), (0, .fieldref 8 9), (0, .class_ 10), (0, .nameAndType 11 12), (0, u "com/example/tallybit/tallybit/Combination"), (0, u "AND"), (0, u "Lcom/example/tallybit/tallybit/Combination;"), (0, .methodref 8 14), (0, .nameAndType 15 16), (0, u "combined"), (0, u "(JJ)J"), (0, .fieldref 8 18), (0, .nameAndType 19 12), (0, u "OR"), (0, .fieldref 8 21), (0, .nameAndType 22 12), (0, u "XOR"), (0, .fieldref 8 24), (0, .nameAndType 25 12), (0, u "AND_NOT"), (0, .long 18446744073709551615), (1, .long 2), (1, .class_ 31), (0, u "com/example/tallybit/tallybit/CombinationCombinedPinLaw"), (2, u "law"), (0, u "(JJ)Z")] 3

def k1m0 : Method := { name := "<init>", desc := "()V", sig := { parameters := [], returnType := none }, accessFlags := 2, code := none }
def k1c1 : Code := { maxStack := 6, maxLocals := 17, code := code, exceptionTable := #[], attributes := #[] }
def k1m1 : Method := { name := "law", desc := "(JJ)Z", sig := { parameters := [.long, .long], returnType := some .boolean }, accessFlags := 9, code := some k1c1 }
/-- com/example/tallybit/tallybit/CombinationCombinedPinLaw -/
def k1 : Class := { plain "com/example/tallybit/tallybit/CombinationCombinedPinLaw" (some 0) with
  accessFlags := 49
  interfaces := #[]
  cf := some (fileOf pool1 30 #[] #[{ accessFlags := 2, nameIndex := 5, descriptorIndex := 6, attributes := #[] }, { accessFlags := 9, nameIndex := 34, descriptorIndex := 35, attributes := #[] }] 49 2 #[] #[])
  fields := #[]
  methods := #[k1m0, k1m1]
  instanceTypes := #[]
  staticTypes := #[]
  resolved := Array.replicate 39 none
  statics := none }

def pool2 : Array CpInfo := pool [(1, .class_ 2), (0, u "java/lang/constant/Constable"), (0, .class_ 4), (0, u "java/lang/Object")] 6

/-- java/lang/constant/Constable -/
def k2 : Class := { plain "java/lang/constant/Constable" (some 0) with
  accessFlags := 1537
  interfaces := #[]
  cf := some (fileOf pool2 1 #[] #[] 1537 3 #[] #[])
  fields := #[]
  methods := #[]
  instanceTypes := #[]
  staticTypes := #[]
  resolved := Array.replicate 11 none
  statics := none }

def pool3 : Array CpInfo := pool [(1, .class_ 2), (0, u "java/lang/Comparable"), (0, .class_ 4), (0, u "java/lang/Object")] 7

/-- java/lang/Comparable -/
def k3 : Class := { plain "java/lang/Comparable" (some 0) with
  accessFlags := 1537
  interfaces := #[]
  cf := some (fileOf pool3 1 #[] #[] 1537 3 #[] #[])
  fields := #[]
  methods := #[]
  instanceTypes := #[]
  staticTypes := #[]
  resolved := Array.replicate 12 none
  statics := none }

def pool4 : Array CpInfo := pool [(1, .class_ 2), (0, u "java/io/Serializable"), (0, .class_ 4), (0, u "java/lang/Object")] 2

/-- java/io/Serializable -/
def k4 : Class := { plain "java/io/Serializable" (some 0) with
  accessFlags := 1537
  interfaces := #[]
  cf := some (fileOf pool4 1 #[] #[] 1537 3 #[] #[])
  fields := #[]
  methods := #[]
  instanceTypes := #[]
  staticTypes := #[]
  resolved := Array.replicate 7 none
  statics := none }

def pool5 : Array CpInfo := pool [(2, .class_ 4), (1, u "java/lang/Enum"), (0, u "name"), (0, u "Ljava/lang/String;"), (2, u "ordinal"), (0, u "I"), (1, .class_ 14), (1, u "java/lang/Object"), (4, u "hash"), (86, .class_ 108), (1, u "java/lang/Enum$EnumDesc"), (2, .class_ 112), (0, u "java/lang/constant/Constable"), (0, .class_ 114), (0, u "java/lang/Comparable"), (0, .class_ 116), (0, u "java/io/Serializable")] 87

/-- java/lang/Enum -/
def k5 : Class := { plain "java/lang/Enum" (some 0) with
  accessFlags := 1057
  interfaces := #[2, 3, 4]
  cf := some (fileOf pool5 2 #[.nestMembers #[106]] #[] 1057 12 #[111, 113, 115] #[{ accessFlags := 18, nameIndex := 5, descriptorIndex := 6, attributes := #[] }, { accessFlags := 18, nameIndex := 9, descriptorIndex := 10, attributes := #[] }, { accessFlags := 2, nameIndex := 19, descriptorIndex := 10, attributes := #[] }])
  fields := #[{ name := "name", type := (.object "java/lang/String"), accessFlags := 18, slot := 0, constantValue := 0 }, { name := "ordinal", type := .int, accessFlags := 18, slot := 1, constantValue := 0 }, { name := "hash", type := .int, accessFlags := 2, slot := 2, constantValue := 0 }]
  methods := #[]
  instanceTypes := #[(.object "java/lang/String"), .int, .int]
  staticTypes := #[]
  resolved := Array.replicate 204 none
  statics := none }

def pool6 : Array CpInfo := pool [(1, .class_ 2), (0, u "com/example/tallybit/tallybit/Blocks$Block"), (0, .class_ 4), (0, u "java/lang/Object"), (10, .class_ 16), (0, u "com/example/tallybit/tallybit/Blocks")] 2

/-- com/example/tallybit/tallybit/Blocks$Block -/
def k6 : Class := { plain "com/example/tallybit/tallybit/Blocks$Block" (some 0) with
  accessFlags := 1536
  interfaces := #[]
  cf := some (fileOf pool6 1 #[.nestHost 15] #[] 1536 3 #[] #[])
  fields := #[]
  methods := #[]
  instanceTypes := #[]
  staticTypes := #[]
  resolved := Array.replicate 19 none
  statics := none }

def pool7 : Array CpInfo := pool [(2, .class_ 4), (1, u "com/example/tallybit/tallybit/Blocks$Runs"), (7, .class_ 13), (0, u "java/lang/Object"), (0, .class_ 15), (0, u "com/example/tallybit/tallybit/Blocks$Block"), (12, .class_ 29), (0, u "com/example/tallybit/tallybit/Blocks")] 3

/-- com/example/tallybit/tallybit/Blocks$Runs -/
def k7 : Class := { plain "com/example/tallybit/tallybit/Blocks$Runs" (some 0) with
  accessFlags := 1536
  interfaces := #[6]
  cf := some (fileOf pool7 2 #[.nestHost 28] #[] 1536 12 #[14] #[])
  fields := #[]
  methods := #[]
  instanceTypes := #[]
  staticTypes := #[]
  resolved := Array.replicate 33 none
  statics := none }

def pool8 : Array CpInfo := pool [(1, .class_ 2), (0, u "com/example/tallybit/tallybit/Blocks$ByteAt"), (0, .class_ 4), (0, u "java/lang/Object"), (10, .class_ 16), (0, u "com/example/tallybit/tallybit/Blocks")] 2

/-- com/example/tallybit/tallybit/Blocks$ByteAt -/
def k8 : Class := { plain "com/example/tallybit/tallybit/Blocks$ByteAt" (some 0) with
  accessFlags := 1536
  interfaces := #[]
  cf := some (fileOf pool8 1 #[.nestHost 15] #[] 1536 3 #[] #[])
  fields := #[]
  methods := #[]
  instanceTypes := #[]
  staticTypes := #[]
  resolved := Array.replicate 19 none
  statics := none }

def pool9 : Array CpInfo := pool [(3, .class_ 4), (0, u "com/example/tallybit/tallybit/Combination"), (0, .fieldref 3 6), (0, .nameAndType 7 8), (0, u "AND"), (0, u "Lcom/example/tallybit/tallybit/Combination;"), (0, .fieldref 3 10), (0, .nameAndType 11 8), (0, u "OR"), (0, .fieldref 3 13), (0, .nameAndType 14 8), (0, u "XOR"), (2, u "AND_NOT"), (2, u "$VALUES"), (0, u "[Lcom/example/tallybit/tallybit/Combination;"), (6, .class_ 30), (1, u "java/lang/Enum"), (12, u "carrySave"), (0, u "Lcom/example/tallybit/tallybit/Blocks$Block;"), (3, u "oneRun"), (2, u "keepsFirstTail"), (0, u "Z"), (2, u "keepsSecondTail"), (78, .class_ 136), (1, u "com/example/tallybit/tallybit/Blocks$Runs"), (2, u "combined"), (0, u "(JJ)J"), (14, u "AND_MASKS"), (0, u "Lcom/example/tallybit/tallybit/Combination$Masks;"), (2, u "OR_MASKS"), (2, u "XOR_MASKS"), (2, u "AND_NOT_MASKS"), (5, .class_ 172), (0, u "com/example/tallybit/tallybit/Combination$Masks"), (0, .long 18446744073709551615), (10, u "FEW_BYTE_LONGS"), (0, u "I"), (2, u "AND_BYTES"), (16, u "OR_BYTES"), (8, u "XOR_BYTES"), (5, u "AND_NOT_BYTES"), (77, .class_ 299), (0, u "com/example/tallybit/tallybit/Combination$1"), (4, .class_ 305), (0, u "com/example/tallybit/tallybit/Combination$2"), (2, .class_ 309), (0, u "com/example/tallybit/tallybit/Combination$3"), (2, .class_ 313), (0, u "com/example/tallybit/tallybit/Combination$4"), (23, .class_ 338), (0, u "com/example/tallybit/tallybit/Blocks$ByteAt"), (0, u "FEW_PAIRS")] 103

def k9c0 : Code := { maxStack := 6, maxLocals := 5, code := prog_6_method_28_code, exceptionTable := #[], attributes := #[] }
def k9m0 : Method := { name := "combined", desc := "(JJ)J", sig := { parameters := [.long, .long], returnType := some .long }, accessFlags := 0, code := some k9c0 }
/-- com/example/tallybit/tallybit/Combination -/
def k9 : Class := { plain "com/example/tallybit/tallybit/Combination" (some 5) with
  accessFlags := 17440
  interfaces := #[7, 8]
  cf := some (fileOf pool9 3 #[.nestMembers #[171, 312, 308, 304, 298]] #[{ accessFlags := 0, nameIndex := 139, descriptorIndex := 140, attributes := #[] }] 17440 28 #[134, 337] #[{ accessFlags := 16409, nameIndex := 7, descriptorIndex := 8, attributes := #[] }, { accessFlags := 16409, nameIndex := 11, descriptorIndex := 8, attributes := #[] }, { accessFlags := 16409, nameIndex := 14, descriptorIndex := 8, attributes := #[] }, { accessFlags := 16409, nameIndex := 17, descriptorIndex := 8, attributes := #[] }, { accessFlags := 16, nameIndex := 51, descriptorIndex := 52, attributes := #[] }, { accessFlags := 16, nameIndex := 55, descriptorIndex := 52, attributes := #[] }, { accessFlags := 24, nameIndex := 339, descriptorIndex := 185, attributes := #[] }, { accessFlags := 24, nameIndex := 184, descriptorIndex := 185, attributes := #[] }, { accessFlags := 26, nameIndex := 155, descriptorIndex := 156, attributes := #[] }, { accessFlags := 26, nameIndex := 159, descriptorIndex := 156, attributes := #[] }, { accessFlags := 26, nameIndex := 162, descriptorIndex := 156, attributes := #[] }, { accessFlags := 26, nameIndex := 165, descriptorIndex := 156, attributes := #[] }, { accessFlags := 26, nameIndex := 188, descriptorIndex := 44, attributes := #[] }, { accessFlags := 26, nameIndex := 205, descriptorIndex := 44, attributes := #[] }, { accessFlags := 26, nameIndex := 214, descriptorIndex := 44, attributes := #[] }, { accessFlags := 26, nameIndex := 220, descriptorIndex := 44, attributes := #[] }, { accessFlags := 16, nameIndex := 43, descriptorIndex := 44, attributes := #[] }, { accessFlags := 16, nameIndex := 48, descriptorIndex := 44, attributes := #[] }, { accessFlags := 4122, nameIndex := 20, descriptorIndex := 21, attributes := #[] }])
  fields := #[{ name := "AND", type := (.object "com/example/tallybit/tallybit/Combination"), accessFlags := 16409, slot := 0, constantValue := 0 }, { name := "OR", type := (.object "com/example/tallybit/tallybit/Combination"), accessFlags := 16409, slot := 1, constantValue := 0 }, { name := "XOR", type := (.object "com/example/tallybit/tallybit/Combination"), accessFlags := 16409, slot := 2, constantValue := 0 }, { name := "AND_NOT", type := (.object "com/example/tallybit/tallybit/Combination"), accessFlags := 16409, slot := 3, constantValue := 0 }, { name := "keepsFirstTail", type := .boolean, accessFlags := 16, slot := 3, constantValue := 0 }, { name := "keepsSecondTail", type := .boolean, accessFlags := 16, slot := 4, constantValue := 0 }, { name := "FEW_PAIRS", type := .int, accessFlags := 24, slot := 4, constantValue := 0 }, { name := "FEW_BYTE_LONGS", type := .int, accessFlags := 24, slot := 5, constantValue := 0 }, { name := "AND_MASKS", type := (.object "com/example/tallybit/tallybit/Combination$Masks"), accessFlags := 26, slot := 6, constantValue := 0 }, { name := "OR_MASKS", type := (.object "com/example/tallybit/tallybit/Combination$Masks"), accessFlags := 26, slot := 7, constantValue := 0 }, { name := "XOR_MASKS", type := (.object "com/example/tallybit/tallybit/Combination$Masks"), accessFlags := 26, slot := 8, constantValue := 0 }, { name := "AND_NOT_MASKS", type := (.object "com/example/tallybit/tallybit/Combination$Masks"), accessFlags := 26, slot := 9, constantValue := 0 }, { name := "AND_BYTES", type := (.object "com/example/tallybit/tallybit/Blocks$Block"), accessFlags := 26, slot := 10, constantValue := 0 }, { name := "OR_BYTES", type := (.object "com/example/tallybit/tallybit/Blocks$Block"), accessFlags := 26, slot := 11, constantValue := 0 }, { name := "XOR_BYTES", type := (.object "com/example/tallybit/tallybit/Blocks$Block"), accessFlags := 26, slot := 12, constantValue := 0 }, { name := "AND_NOT_BYTES", type := (.object "com/example/tallybit/tallybit/Blocks$Block"), accessFlags := 26, slot := 13, constantValue := 0 }, { name := "carrySave", type := (.object "com/example/tallybit/tallybit/Blocks$Block"), accessFlags := 16, slot := 5, constantValue := 0 }, { name := "oneRun", type := (.object "com/example/tallybit/tallybit/Blocks$Block"), accessFlags := 16, slot := 6, constantValue := 0 }, { name := "$VALUES", type := (.array (.object "com/example/tallybit/tallybit/Combination")), accessFlags := 4122, slot := 14, constantValue := 0 }]
  methods := #[k9m0]
  instanceTypes := #[(.object "java/lang/String"), .int, .int, .boolean, .boolean, (.object "com/example/tallybit/tallybit/Blocks$Block"), (.object "com/example/tallybit/tallybit/Blocks$Block")]
  staticTypes := #[(.object "com/example/tallybit/tallybit/Combination"), (.object "com/example/tallybit/tallybit/Combination"), (.object "com/example/tallybit/tallybit/Combination"), (.object "com/example/tallybit/tallybit/Combination"), .int, .int, (.object "com/example/tallybit/tallybit/Combination$Masks"), (.object "com/example/tallybit/tallybit/Combination$Masks"), (.object "com/example/tallybit/tallybit/Combination$Masks"), (.object "com/example/tallybit/tallybit/Combination$Masks"), (.object "com/example/tallybit/tallybit/Blocks$Block"), (.object "com/example/tallybit/tallybit/Blocks$Block"), (.object "com/example/tallybit/tallybit/Blocks$Block"), (.object "com/example/tallybit/tallybit/Blocks$Block"), (.array (.object "com/example/tallybit/tallybit/Combination"))]
  resolved := Array.replicate 443 none
  statics := some 0 }

def pool10 : Array CpInfo := pool [(2, .class_ 4), (1, u "com/example/tallybit/tallybit/Combination"), (17, .class_ 23), (0, u "com/example/tallybit/tallybit/Combination$1")] 11

/-- com/example/tallybit/tallybit/Combination$1 -/
def k10 : Class := { plain "com/example/tallybit/tallybit/Combination$1" (some 9) with
  accessFlags := 16432
  interfaces := #[]
  cf := some (fileOf pool10 22 #[.nestHost 2] #[] 16432 2 #[] #[])
  fields := #[]
  methods := #[]
  instanceTypes := #[(.object "java/lang/String"), .int, .int, .boolean, .boolean, (.object "com/example/tallybit/tallybit/Blocks$Block"), (.object "com/example/tallybit/tallybit/Blocks$Block")]
  staticTypes := #[]
  resolved := Array.replicate 35 none
  statics := none }

def pool11 : Array CpInfo := pool [(2, .class_ 4), (1, u "com/example/tallybit/tallybit/Combination"), (17, .class_ 23), (0, u "com/example/tallybit/tallybit/Combination$2")] 11

/-- com/example/tallybit/tallybit/Combination$2 -/
def k11 : Class := { plain "com/example/tallybit/tallybit/Combination$2" (some 9) with
  accessFlags := 16432
  interfaces := #[]
  cf := some (fileOf pool11 22 #[.nestHost 2] #[] 16432 2 #[] #[])
  fields := #[]
  methods := #[]
  instanceTypes := #[(.object "java/lang/String"), .int, .int, .boolean, .boolean, (.object "com/example/tallybit/tallybit/Blocks$Block"), (.object "com/example/tallybit/tallybit/Blocks$Block")]
  staticTypes := #[]
  resolved := Array.replicate 35 none
  statics := none }

def pool12 : Array CpInfo := pool [(2, .class_ 4), (1, u "com/example/tallybit/tallybit/Combination"), (17, .class_ 23), (0, u "com/example/tallybit/tallybit/Combination$3")] 11

/-- com/example/tallybit/tallybit/Combination$3 -/
def k12 : Class := { plain "com/example/tallybit/tallybit/Combination$3" (some 9) with
  accessFlags := 16432
  interfaces := #[]
  cf := some (fileOf pool12 22 #[.nestHost 2] #[] 16432 2 #[] #[])
  fields := #[]
  methods := #[]
  instanceTypes := #[(.object "java/lang/String"), .int, .int, .boolean, .boolean, (.object "com/example/tallybit/tallybit/Blocks$Block"), (.object "com/example/tallybit/tallybit/Blocks$Block")]
  staticTypes := #[]
  resolved := Array.replicate 35 none
  statics := none }

def pool13 : Array CpInfo := pool [(2, .class_ 4), (1, u "com/example/tallybit/tallybit/Combination"), (17, .class_ 23), (0, u "com/example/tallybit/tallybit/Combination$4")] 11

/-- com/example/tallybit/tallybit/Combination$4 -/
def k13 : Class := { plain "com/example/tallybit/tallybit/Combination$4" (some 9) with
  accessFlags := 16432
  interfaces := #[]
  cf := some (fileOf pool13 22 #[.nestHost 2] #[] 16432 2 #[] #[])
  fields := #[]
  methods := #[]
  instanceTypes := #[(.object "java/lang/String"), .int, .int, .boolean, .boolean, (.object "com/example/tallybit/tallybit/Blocks$Block"), (.object "com/example/tallybit/tallybit/Blocks$Block")]
  staticTypes := #[]
  resolved := Array.replicate 35 none
  statics := none }

def pool14 : Array CpInfo := pool [(1, u "java/lang/Cloneable"), (0, .class_ 1), (0, u "java/lang/Object"), (0, .class_ 3)] 3

/-- java/lang/Cloneable -/
def k14 : Class := { plain "java/lang/Cloneable" (some 0) with
  accessFlags := 1537
  interfaces := #[]
  cf := some (fileOf pool14 2 #[] #[] 1537 4 #[] #[])
  fields := #[]
  methods := #[]
  instanceTypes := #[]
  staticTypes := #[]
  resolved := Array.replicate 8 none
  statics := none }

/-- the primitive byte -/
def k15 : Class := { plain "byte" none with kind := .primitive 'B', accessFlags := 0x411 }
/-- [B -/
def k16 : Class := { plain "[B" (some 0) with kind := .array 15 .byte, interfaces := #[14, 4], accessFlags := 1041 }

/-- the primitive int -/
def k17 : Class := { plain "int" none with kind := .primitive 'I', accessFlags := 0x411 }
/-- [I -/
def k18 : Class := { plain "[I" (some 0) with kind := .array 17 .int, interfaces := #[14, 4], accessFlags := 1041 }

def heap : Heap := #[{ cls := 9, slots := #[.ref 1, .ref 2, .ref 3, .ref 4, .int 0, .int 0, .null, .null, .null, .null, .null, .null, .null, .null, .null], vm := .statics 9 },
  { cls := 10, slots := #[.null, .int 0, .int 0, .int 0, .int 0, .null, .null], vm := .none },
  { cls := 11, slots := #[.null, .int 1, .int 0, .int 0, .int 0, .null, .null], vm := .none },
  { cls := 12, slots := #[.null, .int 2, .int 0, .int 0, .int 0, .null, .null], vm := .none },
  { cls := 13, slots := #[.null, .int 3, .int 0, .int 0, .int 0, .null, .null], vm := .none }]
def classes : Array Class := #[k0, k1, k2, k3, k4, k5, k6, k7, k8, k9, k10, k11, k12, k13, k14, k15, k16, k17, k18]
def interned : List (Array UInt16 × Addr) := []
def slotsUsed : Nat := 43
def theMethod : MethodId := ⟨1, 1⟩
def args0 : Array Value := #[.long 5, .long 9]
def aboutOver (below : List Frame) : State where
  vm := { classes := classes, interned := interned.toArray }
  heap := heap
  slotsUsed := slotsUsed
  threads := #[{ frames := .invoking theMethod args0 :: below }]
def below0 : List Frame := [.native { method := ⟨0, 0⟩, args := #[] }]
def about1 : State := aboutOver below0
def p0 : Program := .bare "" "" ""
def e0 : Env := launch0.env 0 0 0
theorem w_frames : about1.frames = Frame.invoking theMethod args0 :: below0 := rfl
set_option maxRecDepth 65536 in
theorem w_args : argsFit about1.vm theMethod args0 = true := by decide +kernel
set_option maxRecDepth 65536 in
theorem w_heap : heapFits about1 = true := by decide +kernel
set_option maxRecDepth 65536 in
theorem w_runnable : about1.curStatus? = some .runnable := by decide +kernel
set_option maxRecDepth 65536 in
theorem w_alone : about1.alone = true := by decide +kernel
set_option maxRecDepth 65536 in
theorem w_named : about1.methodNamed? x = some theMethod := by decide +kernel
set_option maxRecDepth 65536 in
theorem w_hears : about1.hears theMethod below0 = true := by decide +kernel
set_option maxRecDepth 65536 in
theorem w_ripe : about1.ripe theMethod args0 below0 = true := by decide +kernel
theorem w_running : about1.status = .running := rfl
set_option maxRecDepth 65536 in
theorem w_room : about1.hasRoom e0.platform room_1 = true :=
  launch0.hasRoom_least _ room_1 (by decide +kernel) (by decide +kernel) (by decide +kernel) (by decide +kernel) (by decide +kernel) (by decide +kernel)
theorem allAtoms_all (ts : List Jvm.Cond) (a : Array Jvm.Value) (st : Jvm.State) : (allAtoms ts).before a st = ts.all (fun c => c.before a st) := by
  induction ts with
  | nil => rfl
  | cons c t ih =>
    show (Jvm.Cond.and c (allAtoms t)).before a st = _
    rw [Jvm.Cond.before_and, ih, List.all_cons]
def words1 : List Jvm.Cond := Jvm.Cond.code x code maxLocals ret :: tables_1
/-- a 'code' word, met by the world's own term for the bytes: nothing is compared byte by byte -/
theorem code_word {y : MethodName} {bytes : ByteArray} {mx : Nat} {rt : Option FieldType} {a : Array Value} {s : State} {m : MethodId} {meth : Method} {c : Code} (h1 : s.methodNamed? y = some m) (h2 : s.vm.method? m = some meth) (h3 : meth.code = some c) (h4 : c.code = bytes)
    (h5 : (c.maxLocals == mx && c.exceptionTable.isEmpty && decide (c.maxStack ≤ mostOperands) && decide (meth.sig.returnType = rt) && !meth.locks && decide (parseMethodDescriptor y.desc = some meth.sig)) = true) : (Jvm.Cond.code y bytes mx rt).before a s = true := by
  simp only [Bool.and_eq_true, beq_iff_eq, Bool.not_eq_true', decide_eq_true_eq] at h5
  obtain ⟨⟨⟨⟨⟨g1, g2⟩, g3⟩, g4⟩, g5⟩, g6⟩ := h5
  simp [Cond.before, Cond.holds, Cond.value, h1, h2, h3, h4, g1, g2, g3, g4, g5, g6]
def isCode : Jvm.Cond → Bool
  | .code _ _ _ _ => true
  | _ => false
theorem all_split {L : List Jvm.Cond} {P : Jvm.Cond → Bool} (h1 : L.all (fun c => isCode c || P c) = true) (h2 : ∀ c ∈ L.filter isCode, P c = true) : L.all P = true := by
  refine List.all_eq_true.mpr fun c hc => ?_
  have h := List.all_eq_true.mp h1 c hc
  rcases Bool.eq_false_or_eq_true (isCode c) with hi | hi
  · exact h2 c (List.mem_filter.mpr ⟨hc, hi⟩)
  · simpa [hi] using h
set_option maxRecDepth 65536 in
theorem w_c0 : (Jvm.Cond.code x code maxLocals ret).before args0 about1 = true := code_word (m := ⟨1, 1⟩) (meth := k1m1) (c := k1c1) (by decide +kernel) rfl rfl rfl (by decide +kernel)
set_option maxRecDepth 65536 in
theorem w_c1 : (Jvm.Cond.code ({ cls := "com/example/tallybit/tallybit/Combination", name := "combined", desc := "(JJ)J" } : Jvm.MethodName) prog_6_method_28_code (5 : Nat) (Option.some Jvm.ClassFile.FieldType.long)).before args0 about1 = true := code_word (m := ⟨9, 0⟩) (meth := k9m0) (c := k9c0) (by decide +kernel) rfl rfl rfl (by decide +kernel)
def codes1 : List Jvm.Cond := [Jvm.Cond.code x code maxLocals ret, Jvm.Cond.code ({ cls := "com/example/tallybit/tallybit/Combination", name := "combined", desc := "(JJ)J" } : Jvm.MethodName) prog_6_method_28_code (5 : Nat) (Option.some Jvm.ClassFile.FieldType.long)]
set_option maxRecDepth 65536 in
theorem codes_eq : words1.filter isCode = codes1 := rfl
theorem w_codes : ∀ c ∈ words1.filter isCode, c.before args0 about1 = true := by
  rw [codes_eq]
  intro c hc
  simp only [codes1, List.mem_cons, List.not_mem_nil, or_false] at hc
  rcases hc with rfl | rfl
  · exact w_c0
  · exact w_c1
set_option maxRecDepth 65536 in
theorem w_t1 : words1.all (fun c => isCode c || c.before args0 about1) = true := by decide +kernel
theorem w_tables : (allAtoms (Jvm.Cond.code x code maxLocals ret :: tables_1)).before args0 about1 = true := by
  rw [allAtoms_all]
  show words1.all (fun c => c.before args0 about1) = true
  refine all_split ?_ w_codes
  rw [w_t1]
set_option maxRecDepth 65536 in
theorem w_case : (Jvm.Cond.and given_1 narrow_1).before args0 about1 = true := by decide +kernel
theorem w_applies : (headSpec (Jvm.Cond.code x code maxLocals ret :: tables_1) room_1).applies x e0.platform about1 = true :=
  (Spec.applies_iff w_frames).mpr ⟨w_running, w_runnable, w_alone, w_named, w_hears, w_ripe, w_room, w_tables⟩
theorem atStart : AtStart classFile x code maxLocals ret World_1 tables_1 room_1 Calls_1 rest_1 Pre_1 launch0 p0 e0 about1 theMethod args0 below0 :=
  ⟨lists_1, trivial, launch0.admits_env _ _ _, launch0.least_env, fairChoices_fair.cas, fairChoices_fair.clock, w_frames, w_args, w_heap, w_applies, trivial, trivial, w_case⟩
end start1
theorem witness_1 : WitnessClaimed_1 := ⟨start1.p0, start1.e0, start1.about1, start1.theMethod, start1.args0, start1.below0, start1.atStart⟩
end Jvm.Pilot.@@N@@
