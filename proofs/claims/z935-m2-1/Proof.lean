import JvmDerived
import JvmDerived.Pilot.@@N@@Statement
import JvmDerived.Pilot.@@N@@Code
set_option linter.unusedVariables false
set_option linter.unusedSimpArgs false
namespace Jvm.RoadKit
open Sem ClassFile Op Lib Jvm.Stand Jvm.Free Jvm.LawKit
section New
variable {p : Program} {l : Launch} {e : Env} {R : Room} {s : State} {m : MethodId} {args : Array Value} {below : List Frame} {meth : Method} {c : Code} {T T' : State} {locs : List Loc} {cells slots : Nat}
theorem retI (X : Stand p l e R s m args below meth c T locs cells slots) (hx : p.tables.exec = Jvm.exec) {pc : Nat} {Ls : Array Slot} {z : Int32} {rest : List Value} (hret : meth.sig.returnType = some .int) (hd : decode c.code pc = .ok (.ireturn, 1)) {fs : List Frame}
    (hl : ∀ (f : JFrame) (acts : List Action), f.method = m → f.locked = none → f.entered = [] → (doReturn e (T.setTop f) acts (some (.int z))).1 = T.setFrames fs) : Steps p.tables e below (T.setTop (mkF m pc Ls (.int z :: rest))) (T.setFrames fs) :=
  retOut X hx hret rfl (Or.inl ⟨rfl, Or.inl rfl, _, rfl⟩) hd hl
theorem retL (X : Stand p l e R s m args below meth c T locs cells slots) (hx : p.tables.exec = Jvm.exec) {pc : Nat} {Ls : Array Slot} {z : Int64} {rest : List Value} (hret : meth.sig.returnType = some .long) (hd : decode c.code pc = .ok (.lreturn, 1)) {fs : List Frame}
    (hl : ∀ (f : JFrame) (acts : List Action), f.method = m → f.locked = none → f.entered = [] → (doReturn e (T.setTop f) acts (some (.long z))).1 = T.setFrames fs) : Steps p.tables e below (T.setTop (mkF m pc Ls (.long z :: rest))) (T.setFrames fs) :=
  retOut X hx hret rfl (Or.inr (Or.inl ⟨rfl, rfl, _, rfl⟩)) hd hl
theorem retA (X : Stand p l e R s m args below meth c T locs cells slots) (hx : p.tables.exec = Jvm.exec) {pc : Nat} {Ls : Array Slot} {w : Value} {t : FieldType} {rest : List Value} (hret : meth.sig.returnType = some t) (ht : t.isReference = true) (hw : w.isRef = true) (hd : decode c.code pc = .ok (.areturn, 1)) {fs : List Frame}
    (hl : ∀ (f : JFrame) (acts : List Action), f.method = m → f.locked = none → f.entered = [] → (doReturn e (T.setTop f) acts (some w)).1 = T.setFrames fs) : Steps p.tables e below (T.setTop (mkF m pc Ls (w :: rest))) (T.setFrames fs) :=
  retOut X hx hret (by rcases ref_cases hw with rfl | ⟨a, rfl⟩ <;> cases t <;> first | rfl | cases ht) (Or.inr (Or.inr (Or.inr (Or.inr ⟨rfl, ht, hw⟩)))) hd hl
/-! the walk by continuations -/
variable {W : State → Prop} {g g' : JFrame}
def Goes (p : Program) (e : Env) (below : List Frame) (W : State → Prop) (T : State) (g : JFrame) : Prop := ∃ t, Steps p.tables e below (T.setTop g) t ∧ W t
def EndW (s : State) (below : List Frame) (Q : Option Value → Heap → List Loc → Prop) (k n : Nat) (t : State) : Prop := t.status = .running ∧ ∃ o, Ended t below o ∧ ∃ v L, o = .returned v ∧ Q v t.heap L ∧ FrameEnd s o t L k n
theorem Goes.on (k : Goes p e below W T' g') (h : ∀ t, Steps p.tables e below (T'.setTop g') t → Steps p.tables e below (T.setTop g) t) : Goes p e below W T g := by
  obtain ⟨t, h1, h2⟩ := k; exact ⟨t, h t h1, h2⟩
theorem Goes.done {Q : Option Value → Heap → List Loc → Prop} {k n : Nat} (h : Goes p e below (EndW s below Q k n) T g) :
    ∃ s₂ o, Steps p.tables e below (T.setTop g) s₂ ∧ s₂.status = .running ∧ Ended s₂ below o ∧ ∃ v L, o = .returned v ∧ Q v s₂.heap L ∧ FrameEnd s o s₂ L k n := by
  obtain ⟨t, h1, h2, o, h3, h4⟩ := h; exact ⟨t, o, h1, h2, h3, h4⟩
theorem Goes.retn {Q : Option Value → Heap → List Loc → Prop} {k n : Nat} (X : Stand p l e R s m args below meth c T locs cells slots) {v : Option Value}
    (st : ∀ fs, (∀ (f : JFrame) (acts : List Action), f.method = m → f.locked = none → f.entered = [] → (doReturn e (T.setTop f) acts v).1 = T.setFrames fs) → Steps p.tables e below (T.setTop g) (T.setFrames fs))
    (hv : meth.sig.returnType = none → v = none) (hlocks : meth.locks = false) (hk : cells ≤ k) (hn : slots ≤ n) (hQ : Q v T.heap locs) : Goes p e below (EndW s below Q k n) T g := by
  obtain ⟨fs, hr, hrun, hended, hW, hsame⟩ := X.leave hv hlocks
  exact ⟨_, st fs hr, hrun, _, hended, _, _, rfl, hQ, ⟨_, rfl⟩, hW, hsame.mono hk hn⟩
theorem cmp_eq (x y : Int32) : if_icmp.holds .eq x y = decide (x = y) := by by_cases h : x = y <;> simp [h, (teq · |>.1), (feq · |>.1)]
theorem cmp_ne (x y : Int32) : if_icmp.holds .ne x y = !decide (x = y) := by by_cases h : x = y <;> simp [h, (teq · |>.2), (feq · |>.2)]
theorem cmp_lt (x y : Int32) : if_icmp.holds .lt x y = decide (x < y) := by simp [if_icmp.holds]
theorem cmp_ge (x y : Int32) : if_icmp.holds .ge x y = !decide (x < y) := by by_cases h : x < y <;> simp [h, (tlt · |>.2.1), (flt · |>.2.1)]
theorem cmp_gt (x y : Int32) : if_icmp.holds .gt x y = decide (y < x) := by by_cases h : y < x <;> simp [h, (tlt · |>.2.2.1), (flt · |>.2.2.1)]
theorem cmp_le (x y : Int32) : if_icmp.holds .le x y = !decide (y < x) := by by_cases h : y < x <;> simp [h, (tlt · |>.2.2.2), (flt · |>.2.2.2)]
theorem ifc_eq (x y : Int32) (h : y = 0 := by rfl) : ifCond.holds .eq x = decide (x = y) := by subst h; rw [if0, cmp_eq]
theorem ifc_ne (x y : Int32) (h : y = 0 := by rfl) : ifCond.holds .ne x = !decide (x = y) := by subst h; rw [if0, cmp_ne]
theorem ifc_lt (x y : Int32) (h : y = 0 := by rfl) : ifCond.holds .lt x = decide (x < y) := by subst h; rw [if0, cmp_lt]
theorem ifc_ge (x y : Int32) (h : y = 0 := by rfl) : ifCond.holds .ge x = !decide (x < y) := by subst h; rw [if0, cmp_ge]
theorem ifc_gt (x y : Int32) (h : y = 0 := by rfl) : ifCond.holds .gt x = decide (y < x) := by subst h; rw [if0, cmp_gt]
theorem ifc_le (x y : Int32) (h : y = 0 := by rfl) : ifCond.holds .le x = !decide (y < x) := by subst h; rw [if0, cmp_le]
theorem Goes.icmpP (X : Stand p l e R s m args below meth c T locs cells slots) (hx : p.tables.exec = Jvm.exec) (hg : g.method = m) {cd : ClassFile.Cond} {o : Int} {x y : Int32} {rest : List Value} {pc0 pc' : Nat} (hpc : g.pc = pc0) (hd : decode c.code g.pc = .ok (.if_icmp cd o, 3)) (hs : g.stack = .int y :: .int x :: rest) (ho : 0 ≤ (pc0 : Int) + o) (hp : ((pc0 : Int) + o).toNat = pc') {P : Prop} [Decidable P] (hP : if_icmp.holds cd x y = decide P)
    (yes : P → Goes p e below W T { g with pc := pc', stack := rest }) (no : ¬ P → Goes p e below W T { g with pc := g.pc + 3, stack := rest }) : Goes p e below W T g := by
  by_cases h : P
  · exact (yes h).on fun t k => XS.icmpYes X.here hx hg hpc hd hs (by rw [hP]; exact decide_eq_true h) ho hp k
  · exact (no h).on fun t k => XS.icmpNo X.here hx hg hd hs (by rw [hP]; exact decide_eq_false h) k
theorem Goes.icmpN (X : Stand p l e R s m args below meth c T locs cells slots) (hx : p.tables.exec = Jvm.exec) (hg : g.method = m) {cd : ClassFile.Cond} {o : Int} {x y : Int32} {rest : List Value} {pc0 pc' : Nat} (hpc : g.pc = pc0) (hd : decode c.code g.pc = .ok (.if_icmp cd o, 3)) (hs : g.stack = .int y :: .int x :: rest) (ho : 0 ≤ (pc0 : Int) + o) (hp : ((pc0 : Int) + o).toNat = pc') {P : Prop} [Decidable P] (hP : if_icmp.holds cd x y = !decide P)
    (yes : ¬ P → Goes p e below W T { g with pc := pc', stack := rest }) (no : P → Goes p e below W T { g with pc := g.pc + 3, stack := rest }) : Goes p e below W T g := by
  by_cases h : P
  · exact (no h).on fun t k => XS.icmpNo X.here hx hg hd hs (by rw [hP, decide_eq_true h]; rfl) k
  · exact (yes h).on fun t k => XS.icmpYes X.here hx hg hpc hd hs (by rw [hP, decide_eq_false h]; rfl) ho hp k
theorem Goes.ifP (X : Stand p l e R s m args below meth c T locs cells slots) (hx : p.tables.exec = Jvm.exec) (hg : g.method = m) {cd : ClassFile.Cond} {o : Int} {x : Int32} {rest : List Value} {pc0 pc' : Nat} (hpc : g.pc = pc0) (hd : decode c.code g.pc = .ok (.ifCond cd o, 3)) (hs : g.stack = .int x :: rest) (ho : 0 ≤ (pc0 : Int) + o) (hp : ((pc0 : Int) + o).toNat = pc') {P : Prop} [Decidable P] (hP : ifCond.holds cd x = decide P)
    (yes : P → Goes p e below W T { g with pc := pc', stack := rest }) (no : ¬ P → Goes p e below W T { g with pc := g.pc + 3, stack := rest }) : Goes p e below W T g := by
  by_cases h : P
  · exact (yes h).on fun t k => XS.ifYes X.here hx hg hpc hd hs (by rw [hP]; exact decide_eq_true h) ho hp k
  · exact (no h).on fun t k => XS.ifNo X.here hx hg hd hs (by rw [hP]; exact decide_eq_false h) k
theorem Goes.ifN (X : Stand p l e R s m args below meth c T locs cells slots) (hx : p.tables.exec = Jvm.exec) (hg : g.method = m) {cd : ClassFile.Cond} {o : Int} {x : Int32} {rest : List Value} {pc0 pc' : Nat} (hpc : g.pc = pc0) (hd : decode c.code g.pc = .ok (.ifCond cd o, 3)) (hs : g.stack = .int x :: rest) (ho : 0 ≤ (pc0 : Int) + o) (hp : ((pc0 : Int) + o).toNat = pc') {P : Prop} [Decidable P] (hP : ifCond.holds cd x = !decide P)
    (yes : ¬ P → Goes p e below W T { g with pc := pc', stack := rest }) (no : P → Goes p e below W T { g with pc := g.pc + 3, stack := rest }) : Goes p e below W T g := by
  by_cases h : P
  · exact (no h).on fun t k => XS.ifNo X.here hx hg hd hs (by rw [hP, decide_eq_true h]; rfl) k
  · exact (yes h).on fun t k => XS.ifYes X.here hx hg hpc hd hs (by rw [hP, decide_eq_false h]; rfl) ho hp k
theorem Goes.acmpR (X : Stand p l e R s m args below meth c T locs cells slots) (hx : p.tables.exec = Jvm.exec) (hg : g.method = m) {cd : ACond} {o : Int} {a b : Addr} {rest : List Value} {pc0 pcE pcN : Nat} (hpc : g.pc = pc0) (hd : decode c.code g.pc = .ok (.if_acmp cd o, 3)) (hs : g.stack = .ref b :: .ref a :: rest) (ho : 0 ≤ (pc0 : Int) + o)
    (hE : pcE = if acV cd true = true then ((pc0 : Int) + o).toNat else pc0 + 3) (hN : pcN = if acV cd false = true then ((pc0 : Int) + o).toNat else pc0 + 3)
    (eq : a = b → Goes p e below W T { g with pc := pcE, stack := rest }) (ne : ¬ a = b → Goes p e below W T { g with pc := pcN, stack := rest }) : Goes p e below W T g := by
  by_cases h : a = b
  · exact (eq h).on fun t k => Jvm.RoadKit.acmp X hx hg rfl rfl hpc hd hs (decide_eq_true (congrArg Value.ref h)) ho hE k
  · exact (ne h).on fun t k => Jvm.RoadKit.acmp X hx hg rfl rfl hpc hd hs (decide_eq_false fun q => h (Value.ref.inj q)) ho hN k
/-! the same where String constants may be loaded cold -/
def EndWW (s : State) (below : List Frame) (Q : Option Value → Heap → List Loc → Prop) (k n : Nat) (t : State) : Prop := t.status = .running ∧ ∃ o, Ended t below o ∧ ∃ v L, o = .returned v ∧ Q v t.heap L ∧ ReturnedEndW s o t L k n
theorem Goes.doneW {Q : Option Value → Heap → List Loc → Prop} {k n : Nat} (h : Goes p e below (EndWW s below Q k n) T g) :
    ∃ s₂ o, Steps p.tables e below (T.setTop g) s₂ ∧ s₂.status = .running ∧ Ended s₂ below o ∧ ∃ v L, o = .returned v ∧ Q v s₂.heap L ∧ ReturnedEndW s o s₂ L k n := by
  obtain ⟨t, h1, h2, o, h3, h4⟩ := h; exact ⟨t, o, h1, h2, h3, h4⟩
theorem Goes.retnW {Q : Option Value → Heap → List Loc → Prop} {k n n1 : Nat} {vm₁ : Vm} (X : Stand p l e R (s.setVm vm₁) m args below meth c T locs cells slots) (hS : s.Since vm₁ n1) (hle : n1 ≤ T.heap.size) {v : Option Value}
    (st : ∀ fs, (∀ (f : JFrame) (acts : List Action), f.method = m → f.locked = none → f.entered = [] → (doReturn e (T.setTop f) acts v).1 = T.setFrames fs) → Steps p.tables e below (T.setTop g) (T.setFrames fs))
    (hv : meth.sig.returnType = none → v = none) (hlocks : meth.locks = false) (hk : cells ≤ k) (hn : slots ≤ n) (hQ : Q v T.heap locs) : Goes p e below (EndWW s below Q k n) T g := by
  obtain ⟨fs, hr, hrun, hended, hW⟩ := X.leaveW hS hle hv hlocks
  exact ⟨_, st fs hr, hrun, _, hended, _, _, rfl, hQ, hW.1, hW.2.1, hW.2.2.1, hW.2.2.2.mono hk hn⟩
end New
end Jvm.RoadKit
namespace Jvm.Pilot.@@N@@
open Jvm Jvm.ClassFile Sem Op Lib Jvm.Free Jvm.Stand Jvm.LawKit Jvm.RoadKit Bundle Jvm.Pilot.@@N@@.Jvm.D
theorem d1_0 : decode prog_90_method_2_code 0 = .ok (.iload_n 0, 1) := by decide +kernel
theorem d1_1 : decode prog_90_method_2_code 1 = .ok (.iconst 1, 1) := by decide +kernel
theorem d1_2 : decode prog_90_method_2_code 2 = .ok (.if_icmp .lt 14, 3) := by decide +kernel
theorem d1_5 : decode prog_90_method_2_code 5 = .ok (.iload_n 0, 1) := by decide +kernel
theorem d1_6 : decode prog_90_method_2_code 6 = .ok (.sipush 252, 3) := by decide +kernel
theorem d1_9 : decode prog_90_method_2_code 9 = .ok (.if_icmp .gt 7, 3) := by decide +kernel
theorem d1_12 : decode prog_90_method_2_code 12 = .ok (.iconst 1, 1) := by decide +kernel
theorem d1_13 : decode prog_90_method_2_code 13 = .ok (.goto 4, 3) := by decide +kernel
theorem d1_16 : decode prog_90_method_2_code 16 = .ok (.iconst 0, 1) := by decide +kernel
theorem d1_17 : decode prog_90_method_2_code 17 = .ok (.ireturn, 1) := by decide +kernel
theorem pn_0 : plainName "com/example/ballard/ballard/table/StoredKeys" = true := by first | (simp [plainName, overriddenIn]; done) | decide +kernel
theorem pn_1 : plainName "com/example/ballard/ballard/table/StoredKeysIsIndexNumberPinLaw" = true := by first | (simp [plainName, overriddenIn]; done) | decide +kernel
theorem pd_0 : parseMethodDescriptor "(I)Z" = some ⟨[.int], some .boolean⟩ := by decide +kernel
theorem own_lt {a b : Int32} : a < b ↔ a.toInt < b.toInt := Int32.lt_iff_toInt_lt
theorem own_idx10 (p : Int32) (h : p < (1 : Int32)) : some (Value.int (nar .boolean (0 : Int32))) = some (.int (if 1 ≤ p.toInt ∧ p.toInt ≤ 252 then 1 else 0)) := by
  rw [own_lt] at h
  have e : (1 : Int32).toInt = 1 := rfl
  rw [if_neg (by omega)]; rfl
theorem own_idx20 (p : Int32) (h : ¬ p < (1 : Int32)) (h2 : (252 : Int32) < p) : some (Value.int (nar .boolean (0 : Int32))) = some (.int (if 1 ≤ p.toInt ∧ p.toInt ≤ 252 then 1 else 0)) := by
  rw [own_lt] at h h2
  have e : (252 : Int32).toInt = 252 := rfl
  rw [if_neg (by omega)]; rfl
theorem own_idx21 (p : Int32) (h : ¬ p < (1 : Int32)) (h2 : ¬ (252 : Int32) < p) : some (Value.int (nar .boolean (1 : Int32))) = some (.int (if 1 ≤ p.toInt ∧ p.toInt ≤ 252 then 1 else 0)) := by
  rw [own_lt] at h h2
  have e : (252 : Int32).toInt = 252 := rfl
  have e1 : (1 : Int32).toInt = 1 := rfl
  rw [if_pos (by omega)]; rfl
theorem own_by {q : Int32} : (if 1 ≤ q.toInt ∧ q.toInt ≤ 252 then (1 : Int32) else 0) = 1 ∨ (if 1 ≤ q.toInt ∧ q.toInt ≤ 252 then (1 : Int32) else 0) = 0 := by split <;> simp
theorem own_in0 {q : Int32} (h : ¬ q < (0 : Int32)) : 0 ≤ q.toInt := by rw [own_lt] at h; have e : (0 : Int32).toInt = 0 := rfl; omega
theorem own_eq {q : Int32} (k : Int32) : q = k ↔ q.toInt = k.toInt := Int32.toInt_inj.symm
def Q1 (Z : State) (p1 : Int32) (h0 : Heap) (n0 : Nat) (v : Option Value) (h : Heap) (L : List Loc) : Prop := v = some (.int (if 1 ≤ p1.toInt ∧ p1.toInt ≤ 252 then 1 else 0)) ∧ Fr n0 L ∧ h = h0
set_option maxRecDepth 65536 in
set_option maxHeartbeats 40000000 in
theorem rm1 (l : Launch) (Z : State) (a0 : Array Value) (hw : ∀ d ∈ tables_1, d.before a0 Z = true) (ws : List Jvm.Cond) (p1 : Int32) (h0 : Heap) (n0 : Nat) (Z0 : n0 ≤ h0.size)  :
    MetFree l (⟨"com/example/ballard/ballard/table/StoredKeys", "isIndexNumber", "(I)Z"⟩ : MethodName) (head1 (Jvm.Cond.code (⟨"com/example/ballard/ballard/table/StoredKeys", "isIndexNumber", "(I)Z"⟩ : MethodName) prog_90_method_2_code 1 (some .boolean) :: ws) ({ frames := 0, cells := 0, slots := 0, locals := 0 } : Room)) (fun a U => a = #[(.int p1)] ∧ Z.Warmed39 U.vm ∧ U.heap = h0) (fun _ _ _ _ _ => True) (fun _ U o U' => ∃ v L, o = .returned v ∧ Q1 Z p1 h0 n0 v U'.heap L ∧ FrameEnd U o U' L ({ frames := 0, cells := 0, slots := 0, locals := 0 } : Room).cells ({ frames := 0, cells := 0, slots := 0, locals := 0 } : Room).slots) := by
  refine MetFree.of_bodySF (plainFor_of_name pn_0) hisR ?_
  intro p e s m args below meth c s₁ Bd hml0 hP hK
  obtain ⟨rfl, hZ, hh⟩ := hP
  have hx := Bd.exec
  have hby := Bd.bytes
  have hml : c.maxLocals = 1 := hml0
  have hown : s.vm.findClass "com/example/ballard/ballard/table/StoredKeys" = some m.cls := findClass_of_methodNamed Bd.named
  have hnm := (name_of_methodNamed Bd.named Bd.method).1
  have X0 : Stand p l e ({ frames := 0, cells := 0, slots := 0, locals := 0 } : Room) s m #[(.int p1)] below meth c s₁ [] 0 0 := Stand.of_body Bd
  have e0 : s₁.heap = h0 := by rw [← hh, Bd.state]; rfl
  have N0 := Fr.nil n0
  refine Goes.done ?_
  obtain ⟨W, hWd⟩ : ∃ W : State → Prop, W = EndW s below (Q1 Z p1 h0 n0) ({ frames := 0, cells := 0, slots := 0, locals := 0 } : Room).cells ({ frames := 0, cells := 0, slots := 0, locals := 0 } : Room).slots := ⟨_, rfl⟩
  rw [← hWd]
  have hef : entryFrame m #[(.int p1)] 1 = (mkF m 0 #[.val (.int p1)] []) := by first | (simp [entryFrame, mkF, argsToLocals, Value.category]; done) | rfl
  rw [hef]
  refine Goes.on (T' := s₁) (g' := (mkF m 1 #[.val (.int p1)] [(.int p1)])) ?_ (fun t k => XS.iloadN X0.here hx rfl (hb hby d1_0) rfl k)
  refine Goes.on (T' := s₁) (g' := (mkF m 2 #[.val (.int p1)] [(.int (1 : Int32)), (.int p1)])) ?_ (fun t k => XS.iconst X0.here hx rfl (hb hby d1_1) k)
  refine Goes.icmpP X0 hx rfl (pc0 := 2) (pc' := 16) rfl (hb hby d1_2) rfl (by decide) (by decide) (P := p1 < (1 : Int32)) (cmp_lt _ _) (fun hc2 => ?_) (fun hc2 => ?_)
  · show Goes p e below W s₁ (mkF m 16 #[.val (.int p1)] [])
    refine Goes.on (T' := s₁) (g' := (mkF m 17 #[.val (.int p1)] [(.int (0 : Int32))])) ?_ (fun t k => XS.iconst X0.here hx rfl (hb hby d1_16) k)
    rw [hWd]
    exact Goes.retn X0 (v := some (.int (nar .boolean (0 : Int32)))) (fun fs hr => retN X0 hx (t := .boolean) Bd.returns (by simp) (hb hby d1_17) hr) (fun h => by rw [Bd.returns] at h; cases h) Bd.notSynchronized (by decide) (by decide) (by rw [e0]; exact ⟨own_idx10 p1 hc2, N0, rfl⟩)
  · show Goes p e below W s₁ (mkF m 5 #[.val (.int p1)] [])
    refine Goes.on (T' := s₁) (g' := (mkF m 6 #[.val (.int p1)] [(.int p1)])) ?_ (fun t k => XS.iloadN X0.here hx rfl (hb hby d1_5) rfl k)
    refine Goes.on (T' := s₁) (g' := (mkF m 9 #[.val (.int p1)] [(.int (252 : Int32)), (.int p1)])) ?_ (fun t k => XS.sipush X0.here hx rfl (hb hby d1_6) k)
    refine Goes.icmpP X0 hx rfl (pc0 := 9) (pc' := 16) rfl (hb hby d1_9) rfl (by decide) (by decide) (P := (252 : Int32) < p1) (cmp_gt _ _) (fun hc9 => ?_) (fun hc9 => ?_)
    · show Goes p e below W s₁ (mkF m 16 #[.val (.int p1)] [])
      refine Goes.on (T' := s₁) (g' := (mkF m 17 #[.val (.int p1)] [(.int (0 : Int32))])) ?_ (fun t k => XS.iconst X0.here hx rfl (hb hby d1_16) k)
      rw [hWd]
      exact Goes.retn X0 (v := some (.int (nar .boolean (0 : Int32)))) (fun fs hr => retN X0 hx (t := .boolean) Bd.returns (by simp) (hb hby d1_17) hr) (fun h => by rw [Bd.returns] at h; cases h) Bd.notSynchronized (by decide) (by decide) (by rw [e0]; exact ⟨own_idx20 p1 hc2 hc9, N0, rfl⟩)
    · show Goes p e below W s₁ (mkF m 12 #[.val (.int p1)] [])
      refine Goes.on (T' := s₁) (g' := (mkF m 13 #[.val (.int p1)] [(.int (1 : Int32))])) ?_ (fun t k => XS.iconst X0.here hx rfl (hb hby d1_12) k)
      refine Goes.on (T' := s₁) (g' := (mkF m 17 #[.val (.int p1)] [(.int (1 : Int32))])) ?_ (fun t k => XS.goto X0.here hx rfl (pc0 := 13) (pc' := 17) rfl (hb hby d1_13) (by decide) (by decide) k)
      rw [hWd]
      exact Goes.retn X0 (v := some (.int (nar .boolean (1 : Int32)))) (fun fs hr => retN X0 hx (t := .boolean) Bd.returns (by simp) (hb hby d1_17) hr) (fun h => by rw [Bd.returns] at h; cases h) Bd.notSynchronized (by decide) (by decide) (by rw [e0]; exact ⟨own_idx21 p1 hc2 hc9, N0, rfl⟩)
def Q0 (Z : State) (p1 p2 : Int32) (h0 : Heap) (n0 : Nat) (v : Option Value) (h : Heap) (L : List Loc) : Prop := v = some (.int (1 : Int32)) ∧ Fr n0 L
set_option maxRecDepth 65536 in
set_option maxHeartbeats 40000000 in
theorem rm0 (l : Launch) (Z : State) (a0 : Array Value) (hw : ∀ d ∈ tables_1, d.before a0 Z = true) (ws : List Jvm.Cond) (p1 p2 : Int32) (h0 : Heap) (n0 : Nat) (Z0 : n0 ≤ h0.size)  :
    MetFree l x (head1 (Jvm.Cond.code x code maxLocals ret :: ws) room_1) (fun a U => a = #[(.int p1), (.int p2)] ∧ Z.Warmed39 U.vm ∧ U.heap = h0) (fun _ _ _ _ _ => True) (fun _ U o U' => ∃ v L, o = .returned v ∧ Q0 Z p1 p2 h0 n0 v U'.heap L ∧ FrameEnd U o U' L room_1.cells room_1.slots) := by
  refine MetFree.of_bodySF (plainFor_of_name pn_1) hisR ?_
  intro p e s m args below meth c s₁ Bd hml0 hP hK
  obtain ⟨rfl, hZ, hh⟩ := hP
  have hx := Bd.exec
  have hby := Bd.bytes
  have hml : c.maxLocals = 6 := hml0
  have hown : s.vm.findClass "com/example/ballard/ballard/table/StoredKeysIsIndexNumberPinLaw" = some m.cls := findClass_of_methodNamed Bd.named
  have hnm := (name_of_methodNamed Bd.named Bd.method).1
  have X0 : Stand p l e room_1 s m #[(.int p1), (.int p2)] below meth c s₁ [] 0 0 := Stand.of_body Bd
  have e0 : s₁.heap = h0 := by rw [← hh, Bd.state]; rfl
  have N0 := Fr.nil n0
  refine Goes.done ?_
  obtain ⟨W, hWd⟩ : ∃ W : State → Prop, W = EndW s below (Q0 Z p1 p2 h0 n0) room_1.cells room_1.slots := ⟨_, rfl⟩
  rw [← hWd]
  have hef : entryFrame m #[(.int p1), (.int p2)] maxLocals = (mkF m 0 #[.val (.int p1), .val (.int p2), .unset, .unset, .unset, .unset] []) := by first | (simp [entryFrame, mkF, argsToLocals, Value.category, maxLocals]; done) | rfl
  rw [hef]
  have K79 : ∀ (q x3 x4 x5 : Int32), x5 = (if 1 ≤ q.toInt ∧ q.toInt ≤ 252 then (1 : Int32) else 0) → Goes p e below W s₁ (mkF m 79 #[.val (.int p1), .val (.int p2), .val (.int q), .val (.int x3), .val (.int x4), .unset] [(.int x5)]) := by
    intro q x3 x4 x5 hx5
    subst hx5
    refine Goes.on (T' := s₁) (g' := (mkF m 81 #[.val (.int p1), .val (.int p2), .val (.int q), .val (.int x3), .val (.int x4), .val (.int (if 1 ≤ q.toInt ∧ q.toInt ≤ 252 then (1 : Int32) else 0))] [])) ?_ (fun t k => XS.istore X0.here hx rfl (hb hby at_79) rfl (l' := #[.val (.int p1), .val (.int p2), .val (.int q), .val (.int x3), .val (.int x4), .val (.int (if 1 ≤ q.toInt ∧ q.toInt ≤ 252 then (1 : Int32) else 0))]) rfl k)
    refine Goes.on (T' := s₁) (g' := (mkF m 82 #[.val (.int p1), .val (.int p2), .val (.int q), .val (.int x3), .val (.int x4), .val (.int (if 1 ≤ q.toInt ∧ q.toInt ≤ 252 then (1 : Int32) else 0))] [(.int q)])) ?_ (fun t k => XS.iloadN X0.here hx rfl (hb hby at_81) rfl k)
    obtain ⟨_, _, ⟨T1, L1, k1, n1⟩, -, X1, ⟨Lc1, hQ1, l1, y1, z1⟩, st1⟩ := Jvm.LawKit.callS X0 hx (y := (⟨"com/example/ballard/ballard/table/StoredKeys", "isIndexNumber", "(I)Z"⟩ : MethodName)) hown (mvT hZ (hw _ (List.mem_of_getElem? (i := 0) rfl))) (mvT hZ (hw _ (List.mem_of_getElem? (i := 1) rfl))) (mvT hZ (hw _ (List.mem_of_getElem? (i := 2) rfl))) (mvT hZ (hw _ (List.mem_of_getElem? (i := 3) rfl))) (by decide) (backOf (W := 0) (rm1 l Z a0 hw [] q h0 n0 Z0) hZ (hw _ (List.mem_of_getElem? (i := 3) rfl)) (hw _ (List.mem_of_getElem? (i := 2) rfl)) (by decide) (by decide)) (g := (mkF m 82 #[.val (.int p1), .val (.int p2), .val (.int q), .val (.int x3), .val (.int x4), .val (.int (if 1 ≤ q.toInt ∧ q.toInt ≤ 252 then (1 : Int32) else 0))] [(.int q)])) rfl (by rw [hml]; rfl) (argsL := [(.int q)]) (rest := []) (lenOf pd_0 rfl) rfl (by show 2 * 0 + _ ≤ _; exact Nat.le_of_eq rfl) (hb hby at_82) (fun _ _ => ⟨rfl, e0, (by decide : 0 + 0 ≤ _), (by decide : 0 + 0 ≤ _)⟩)
    dsimp only [Pt.U, Pt.locs, Pt.cells, Pt.slots] at X1 l1 y1 z1 st1 hQ1
    subst l1 y1 z1
    obtain ⟨rfl, N1q, eh1⟩ := hQ1
    have N1 := Fr.app N0 N1q
    refine Goes.on (T' := T1) (g' := (mkF m 85 #[.val (.int p1), .val (.int p2), .val (.int q), .val (.int x3), .val (.int x4), .val (.int (if 1 ≤ q.toInt ∧ q.toInt ≤ 252 then (1 : Int32) else 0))] [(.int (if 1 ≤ q.toInt ∧ q.toInt ≤ 252 then (1 : Int32) else 0))])) ?_ st1
    refine Goes.on (T' := T1) (g' := (mkF m 87 #[.val (.int p1), .val (.int p2), .val (.int q), .val (.int x3), .val (.int x4), .val (.int (if 1 ≤ q.toInt ∧ q.toInt ≤ 252 then (1 : Int32) else 0))] [(.int (if 1 ≤ q.toInt ∧ q.toInt ≤ 252 then (1 : Int32) else 0)), (.int (if 1 ≤ q.toInt ∧ q.toInt ≤ 252 then (1 : Int32) else 0))])) ?_ (fun t k => XS.iload X1.here hx rfl (hb hby at_85) rfl k)
    refine Goes.on (T' := T1) (g' := (mkF m 90 #[.val (.int p1), .val (.int p2), .val (.int q), .val (.int x3), .val (.int x4), .val (.int (if 1 ≤ q.toInt ∧ q.toInt ≤ 252 then (1 : Int32) else 0))] [])) ?_ (fun t k => XS.icmpNo X1.here hx rfl (hb hby at_87) rfl (teq (rfl : (if 1 ≤ q.toInt ∧ q.toInt ≤ 252 then (1 : Int32) else 0) = (if 1 ≤ q.toInt ∧ q.toInt ≤ 252 then (1 : Int32) else 0))).2 k)
    refine Goes.on (T' := T1) (g' := (mkF m 91 #[.val (.int p1), .val (.int p2), .val (.int q), .val (.int x3), .val (.int x4), .val (.int (if 1 ≤ q.toInt ∧ q.toInt ≤ 252 then (1 : Int32) else 0))] [(.int (1 : Int32))])) ?_ (fun t k => XS.iconst X1.here hx rfl (hb hby at_90) k)
    refine Goes.on (T' := T1) (g' := (mkF m 95 #[.val (.int p1), .val (.int p2), .val (.int q), .val (.int x3), .val (.int x4), .val (.int (if 1 ≤ q.toInt ∧ q.toInt ≤ 252 then (1 : Int32) else 0))] [(.int (1 : Int32))])) ?_ (fun t k => XS.goto X1.here hx rfl (pc0 := 91) (pc' := 95) rfl (hb hby at_91) (by decide) (by decide) k)
    rw [hWd]
    exact Goes.retn X1 (v := some (.int (nar .boolean (1 : Int32)))) (fun fs hr => retN X1 hx (t := .boolean) Bd.returns (by simp) (hb hby at_95) hr) (fun h => by rw [Bd.returns] at h; cases h) Bd.notSynchronized (by decide) (by decide) (by rw [eh1]; exact ⟨rfl, N1⟩)
  have K16 : ∀ (q : Int32), Goes p e below W s₁ (mkF m 16 #[.val (.int p1), .val (.int p2), .val (.int q), .unset, .unset, .unset] []) := by
    intro q
    refine Goes.on (T' := s₁) (g' := (mkF m 17 #[.val (.int p1), .val (.int p2), .val (.int q), .unset, .unset, .unset] [(.int q)])) ?_ (fun t k => XS.iloadN X0.here hx rfl (hb hby at_16) rfl k)
    refine Goes.ifP X0 hx rfl (pc0 := 17) (pc' := 31) rfl (hb hby at_17) rfl (by decide) (by decide) (P := q < (0 : Int32)) (ifc_lt _ _) (fun hc17 => ?_) (fun hc17 => ?_)
    · show Goes p e below W s₁ (mkF m 31 #[.val (.int p1), .val (.int p2), .val (.int q), .unset, .unset, .unset] [])
      refine Goes.on (T' := s₁) (g' := (mkF m 32 #[.val (.int p1), .val (.int p2), .val (.int q), .unset, .unset, .unset] [(.int (0 : Int32))])) ?_ (fun t k => XS.iconst X0.here hx rfl (hb hby at_31) k)
      refine Goes.on (T' := s₁) (g' := (mkF m 33 #[.val (.int p1), .val (.int p2), .val (.int q), .val (.int (0 : Int32)), .unset, .unset] [])) ?_ (fun t k => XS.istoreN X0.here hx rfl (hb hby at_32) rfl (l' := #[.val (.int p1), .val (.int p2), .val (.int q), .val (.int (0 : Int32)), .unset, .unset]) rfl k)
      refine Goes.on (T' := s₁) (g' := (mkF m 34 #[.val (.int p1), .val (.int p2), .val (.int q), .val (.int (0 : Int32)), .unset, .unset] [(.int q)])) ?_ (fun t k => XS.iloadN X0.here hx rfl (hb hby at_33) rfl k)
      refine Goes.ifP X0 hx rfl (pc0 := 34) (pc' := 58) rfl (hb hby at_34) rfl (by decide) (by decide) (P := q = (0 : Int32)) (ifc_eq _ _) (fun hc34 => ?_) (fun hc34 => ?_)
      · show Goes p e below W s₁ (mkF m 58 #[.val (.int p1), .val (.int p2), .val (.int q), .val (.int (0 : Int32)), .unset, .unset] [])
        refine Goes.on (T' := s₁) (g' := (mkF m 59 #[.val (.int p1), .val (.int p2), .val (.int q), .val (.int (0 : Int32)), .unset, .unset] [(.int (1 : Int32))])) ?_ (fun t k => XS.iconst X0.here hx rfl (hb hby at_58) k)
        refine Goes.on (T' := s₁) (g' := (mkF m 63 #[.val (.int p1), .val (.int p2), .val (.int q), .val (.int (0 : Int32)), .unset, .unset] [(.int (1 : Int32))])) ?_ (fun t k => XS.goto X0.here hx rfl (pc0 := 59) (pc' := 63) rfl (hb hby at_59) (by decide) (by decide) k)
        refine Goes.on (T' := s₁) (g' := (mkF m 65 #[.val (.int p1), .val (.int p2), .val (.int q), .val (.int (0 : Int32)), .val (.int (1 : Int32)), .unset] [])) ?_ (fun t k => XS.istore X0.here hx rfl (hb hby at_63) rfl (l' := #[.val (.int p1), .val (.int p2), .val (.int q), .val (.int (0 : Int32)), .val (.int (1 : Int32)), .unset]) rfl k)
        refine Goes.on (T' := s₁) (g' := (mkF m 66 #[.val (.int p1), .val (.int p2), .val (.int q), .val (.int (0 : Int32)), .val (.int (1 : Int32)), .unset] [(.int (0 : Int32))])) ?_ (fun t k => XS.iloadN X0.here hx rfl (hb hby at_65) rfl k)
        refine Goes.on (T' := s₁) (g' := (mkF m 78 #[.val (.int p1), .val (.int p2), .val (.int q), .val (.int (0 : Int32)), .val (.int (1 : Int32)), .unset] [])) ?_ (fun t k => XS.ifYes X0.here hx rfl (pc0 := 66) (pc' := 78) rfl (hb hby at_66) rfl (by decide) (by decide) (by decide) k)
        refine Goes.on (T' := s₁) (g' := (mkF m 79 #[.val (.int p1), .val (.int p2), .val (.int q), .val (.int (0 : Int32)), .val (.int (1 : Int32)), .unset] [(.int (0 : Int32))])) ?_ (fun t k => XS.iconst X0.here hx rfl (hb hby at_78) k)
        have t17 := Int32.lt_iff_toInt_lt.mp hc17
        have t34 := congrArg Int32.toInt hc34
        have z0 : (0 : Int32).toInt = 0 := rfl
        exact K79 _ _ _ _ (if_neg (by omega)).symm
      · show Goes p e below W s₁ (mkF m 37 #[.val (.int p1), .val (.int p2), .val (.int q), .val (.int (0 : Int32)), .unset, .unset] [])
        refine Goes.on (T' := s₁) (g' := (mkF m 38 #[.val (.int p1), .val (.int p2), .val (.int q), .val (.int (0 : Int32)), .unset, .unset] [(.int q)])) ?_ (fun t k => XS.iloadN X0.here hx rfl (hb hby at_37) rfl k)
        refine Goes.on (T' := s₁) (g' := (mkF m 41 #[.val (.int p1), .val (.int p2), .val (.int q), .val (.int (0 : Int32)), .unset, .unset] [(.int (253 : Int32)), (.int q)])) ?_ (fun t k => XS.sipush X0.here hx rfl (hb hby at_38) k)
        refine Goes.icmpP X0 hx rfl (pc0 := 41) (pc' := 58) rfl (hb hby at_41) rfl (by decide) (by decide) (P := q = (253 : Int32)) (cmp_eq _ _) (fun hc41 => ?_) (fun hc41 => ?_)
        · show Goes p e below W s₁ (mkF m 58 #[.val (.int p1), .val (.int p2), .val (.int q), .val (.int (0 : Int32)), .unset, .unset] [])
          refine Goes.on (T' := s₁) (g' := (mkF m 59 #[.val (.int p1), .val (.int p2), .val (.int q), .val (.int (0 : Int32)), .unset, .unset] [(.int (1 : Int32))])) ?_ (fun t k => XS.iconst X0.here hx rfl (hb hby at_58) k)
          refine Goes.on (T' := s₁) (g' := (mkF m 63 #[.val (.int p1), .val (.int p2), .val (.int q), .val (.int (0 : Int32)), .unset, .unset] [(.int (1 : Int32))])) ?_ (fun t k => XS.goto X0.here hx rfl (pc0 := 59) (pc' := 63) rfl (hb hby at_59) (by decide) (by decide) k)
          refine Goes.on (T' := s₁) (g' := (mkF m 65 #[.val (.int p1), .val (.int p2), .val (.int q), .val (.int (0 : Int32)), .val (.int (1 : Int32)), .unset] [])) ?_ (fun t k => XS.istore X0.here hx rfl (hb hby at_63) rfl (l' := #[.val (.int p1), .val (.int p2), .val (.int q), .val (.int (0 : Int32)), .val (.int (1 : Int32)), .unset]) rfl k)
          refine Goes.on (T' := s₁) (g' := (mkF m 66 #[.val (.int p1), .val (.int p2), .val (.int q), .val (.int (0 : Int32)), .val (.int (1 : Int32)), .unset] [(.int (0 : Int32))])) ?_ (fun t k => XS.iloadN X0.here hx rfl (hb hby at_65) rfl k)
          refine Goes.on (T' := s₁) (g' := (mkF m 78 #[.val (.int p1), .val (.int p2), .val (.int q), .val (.int (0 : Int32)), .val (.int (1 : Int32)), .unset] [])) ?_ (fun t k => XS.ifYes X0.here hx rfl (pc0 := 66) (pc' := 78) rfl (hb hby at_66) rfl (by decide) (by decide) (by decide) k)
          refine Goes.on (T' := s₁) (g' := (mkF m 79 #[.val (.int p1), .val (.int p2), .val (.int q), .val (.int (0 : Int32)), .val (.int (1 : Int32)), .unset] [(.int (0 : Int32))])) ?_ (fun t k => XS.iconst X0.here hx rfl (hb hby at_78) k)
          have t17 := Int32.lt_iff_toInt_lt.mp hc17
          have t34 := mt Int32.toInt_inj.mp hc34
          have t41 := congrArg Int32.toInt hc41
          have z0 : (0 : Int32).toInt = 0 := rfl
          have z253 : (253 : Int32).toInt = 253 := rfl
          exact K79 _ _ _ _ (if_neg (by omega)).symm
        · show Goes p e below W s₁ (mkF m 44 #[.val (.int p1), .val (.int p2), .val (.int q), .val (.int (0 : Int32)), .unset, .unset] [])
          refine Goes.on (T' := s₁) (g' := (mkF m 45 #[.val (.int p1), .val (.int p2), .val (.int q), .val (.int (0 : Int32)), .unset, .unset] [(.int q)])) ?_ (fun t k => XS.iloadN X0.here hx rfl (hb hby at_44) rfl k)
          refine Goes.on (T' := s₁) (g' := (mkF m 48 #[.val (.int p1), .val (.int p2), .val (.int q), .val (.int (0 : Int32)), .unset, .unset] [(.int (254 : Int32)), (.int q)])) ?_ (fun t k => XS.sipush X0.here hx rfl (hb hby at_45) k)
          refine Goes.icmpP X0 hx rfl (pc0 := 48) (pc' := 58) rfl (hb hby at_48) rfl (by decide) (by decide) (P := q = (254 : Int32)) (cmp_eq _ _) (fun hc48 => ?_) (fun hc48 => ?_)
          · show Goes p e below W s₁ (mkF m 58 #[.val (.int p1), .val (.int p2), .val (.int q), .val (.int (0 : Int32)), .unset, .unset] [])
            refine Goes.on (T' := s₁) (g' := (mkF m 59 #[.val (.int p1), .val (.int p2), .val (.int q), .val (.int (0 : Int32)), .unset, .unset] [(.int (1 : Int32))])) ?_ (fun t k => XS.iconst X0.here hx rfl (hb hby at_58) k)
            refine Goes.on (T' := s₁) (g' := (mkF m 63 #[.val (.int p1), .val (.int p2), .val (.int q), .val (.int (0 : Int32)), .unset, .unset] [(.int (1 : Int32))])) ?_ (fun t k => XS.goto X0.here hx rfl (pc0 := 59) (pc' := 63) rfl (hb hby at_59) (by decide) (by decide) k)
            refine Goes.on (T' := s₁) (g' := (mkF m 65 #[.val (.int p1), .val (.int p2), .val (.int q), .val (.int (0 : Int32)), .val (.int (1 : Int32)), .unset] [])) ?_ (fun t k => XS.istore X0.here hx rfl (hb hby at_63) rfl (l' := #[.val (.int p1), .val (.int p2), .val (.int q), .val (.int (0 : Int32)), .val (.int (1 : Int32)), .unset]) rfl k)
            refine Goes.on (T' := s₁) (g' := (mkF m 66 #[.val (.int p1), .val (.int p2), .val (.int q), .val (.int (0 : Int32)), .val (.int (1 : Int32)), .unset] [(.int (0 : Int32))])) ?_ (fun t k => XS.iloadN X0.here hx rfl (hb hby at_65) rfl k)
            refine Goes.on (T' := s₁) (g' := (mkF m 78 #[.val (.int p1), .val (.int p2), .val (.int q), .val (.int (0 : Int32)), .val (.int (1 : Int32)), .unset] [])) ?_ (fun t k => XS.ifYes X0.here hx rfl (pc0 := 66) (pc' := 78) rfl (hb hby at_66) rfl (by decide) (by decide) (by decide) k)
            refine Goes.on (T' := s₁) (g' := (mkF m 79 #[.val (.int p1), .val (.int p2), .val (.int q), .val (.int (0 : Int32)), .val (.int (1 : Int32)), .unset] [(.int (0 : Int32))])) ?_ (fun t k => XS.iconst X0.here hx rfl (hb hby at_78) k)
            have t17 := Int32.lt_iff_toInt_lt.mp hc17
            have t34 := mt Int32.toInt_inj.mp hc34
            have t41 := mt Int32.toInt_inj.mp hc41
            have t48 := congrArg Int32.toInt hc48
            have z0 : (0 : Int32).toInt = 0 := rfl
            have z253 : (253 : Int32).toInt = 253 := rfl
            have z254 : (254 : Int32).toInt = 254 := rfl
            exact K79 _ _ _ _ (if_neg (by omega)).symm
          · show Goes p e below W s₁ (mkF m 51 #[.val (.int p1), .val (.int p2), .val (.int q), .val (.int (0 : Int32)), .unset, .unset] [])
            refine Goes.on (T' := s₁) (g' := (mkF m 52 #[.val (.int p1), .val (.int p2), .val (.int q), .val (.int (0 : Int32)), .unset, .unset] [(.int q)])) ?_ (fun t k => XS.iloadN X0.here hx rfl (hb hby at_51) rfl k)
            refine Goes.on (T' := s₁) (g' := (mkF m 55 #[.val (.int p1), .val (.int p2), .val (.int q), .val (.int (0 : Int32)), .unset, .unset] [(.int (255 : Int32)), (.int q)])) ?_ (fun t k => XS.sipush X0.here hx rfl (hb hby at_52) k)
            refine Goes.icmpN X0 hx rfl (pc0 := 55) (pc' := 62) rfl (hb hby at_55) rfl (by decide) (by decide) (P := q = (255 : Int32)) (cmp_ne _ _) (fun hc55 => ?_) (fun hc55 => ?_)
            · show Goes p e below W s₁ (mkF m 62 #[.val (.int p1), .val (.int p2), .val (.int q), .val (.int (0 : Int32)), .unset, .unset] [])
              refine Goes.on (T' := s₁) (g' := (mkF m 63 #[.val (.int p1), .val (.int p2), .val (.int q), .val (.int (0 : Int32)), .unset, .unset] [(.int (0 : Int32))])) ?_ (fun t k => XS.iconst X0.here hx rfl (hb hby at_62) k)
              refine Goes.on (T' := s₁) (g' := (mkF m 65 #[.val (.int p1), .val (.int p2), .val (.int q), .val (.int (0 : Int32)), .val (.int (0 : Int32)), .unset] [])) ?_ (fun t k => XS.istore X0.here hx rfl (hb hby at_63) rfl (l' := #[.val (.int p1), .val (.int p2), .val (.int q), .val (.int (0 : Int32)), .val (.int (0 : Int32)), .unset]) rfl k)
              refine Goes.on (T' := s₁) (g' := (mkF m 66 #[.val (.int p1), .val (.int p2), .val (.int q), .val (.int (0 : Int32)), .val (.int (0 : Int32)), .unset] [(.int (0 : Int32))])) ?_ (fun t k => XS.iloadN X0.here hx rfl (hb hby at_65) rfl k)
              refine Goes.on (T' := s₁) (g' := (mkF m 78 #[.val (.int p1), .val (.int p2), .val (.int q), .val (.int (0 : Int32)), .val (.int (0 : Int32)), .unset] [])) ?_ (fun t k => XS.ifYes X0.here hx rfl (pc0 := 66) (pc' := 78) rfl (hb hby at_66) rfl (by decide) (by decide) (by decide) k)
              refine Goes.on (T' := s₁) (g' := (mkF m 79 #[.val (.int p1), .val (.int p2), .val (.int q), .val (.int (0 : Int32)), .val (.int (0 : Int32)), .unset] [(.int (0 : Int32))])) ?_ (fun t k => XS.iconst X0.here hx rfl (hb hby at_78) k)
              have t17 := Int32.lt_iff_toInt_lt.mp hc17
              have t34 := mt Int32.toInt_inj.mp hc34
              have t41 := mt Int32.toInt_inj.mp hc41
              have t48 := mt Int32.toInt_inj.mp hc48
              have t55 := mt Int32.toInt_inj.mp hc55
              have z0 : (0 : Int32).toInt = 0 := rfl
              have z253 : (253 : Int32).toInt = 253 := rfl
              have z254 : (254 : Int32).toInt = 254 := rfl
              have z255 : (255 : Int32).toInt = 255 := rfl
              exact K79 _ _ _ _ (if_neg (by omega)).symm
            · show Goes p e below W s₁ (mkF m 58 #[.val (.int p1), .val (.int p2), .val (.int q), .val (.int (0 : Int32)), .unset, .unset] [])
              refine Goes.on (T' := s₁) (g' := (mkF m 59 #[.val (.int p1), .val (.int p2), .val (.int q), .val (.int (0 : Int32)), .unset, .unset] [(.int (1 : Int32))])) ?_ (fun t k => XS.iconst X0.here hx rfl (hb hby at_58) k)
              refine Goes.on (T' := s₁) (g' := (mkF m 63 #[.val (.int p1), .val (.int p2), .val (.int q), .val (.int (0 : Int32)), .unset, .unset] [(.int (1 : Int32))])) ?_ (fun t k => XS.goto X0.here hx rfl (pc0 := 59) (pc' := 63) rfl (hb hby at_59) (by decide) (by decide) k)
              refine Goes.on (T' := s₁) (g' := (mkF m 65 #[.val (.int p1), .val (.int p2), .val (.int q), .val (.int (0 : Int32)), .val (.int (1 : Int32)), .unset] [])) ?_ (fun t k => XS.istore X0.here hx rfl (hb hby at_63) rfl (l' := #[.val (.int p1), .val (.int p2), .val (.int q), .val (.int (0 : Int32)), .val (.int (1 : Int32)), .unset]) rfl k)
              refine Goes.on (T' := s₁) (g' := (mkF m 66 #[.val (.int p1), .val (.int p2), .val (.int q), .val (.int (0 : Int32)), .val (.int (1 : Int32)), .unset] [(.int (0 : Int32))])) ?_ (fun t k => XS.iloadN X0.here hx rfl (hb hby at_65) rfl k)
              refine Goes.on (T' := s₁) (g' := (mkF m 78 #[.val (.int p1), .val (.int p2), .val (.int q), .val (.int (0 : Int32)), .val (.int (1 : Int32)), .unset] [])) ?_ (fun t k => XS.ifYes X0.here hx rfl (pc0 := 66) (pc' := 78) rfl (hb hby at_66) rfl (by decide) (by decide) (by decide) k)
              refine Goes.on (T' := s₁) (g' := (mkF m 79 #[.val (.int p1), .val (.int p2), .val (.int q), .val (.int (0 : Int32)), .val (.int (1 : Int32)), .unset] [(.int (0 : Int32))])) ?_ (fun t k => XS.iconst X0.here hx rfl (hb hby at_78) k)
              have t17 := Int32.lt_iff_toInt_lt.mp hc17
              have t34 := mt Int32.toInt_inj.mp hc34
              have t41 := mt Int32.toInt_inj.mp hc41
              have t48 := mt Int32.toInt_inj.mp hc48
              have t55 := congrArg Int32.toInt hc55
              have z0 : (0 : Int32).toInt = 0 := rfl
              have z253 : (253 : Int32).toInt = 253 := rfl
              have z254 : (254 : Int32).toInt = 254 := rfl
              have z255 : (255 : Int32).toInt = 255 := rfl
              exact K79 _ _ _ _ (if_neg (by omega)).symm
    · show Goes p e below W s₁ (mkF m 20 #[.val (.int p1), .val (.int p2), .val (.int q), .unset, .unset, .unset] [])
      refine Goes.on (T' := s₁) (g' := (mkF m 21 #[.val (.int p1), .val (.int p2), .val (.int q), .unset, .unset, .unset] [(.int q)])) ?_ (fun t k => XS.iloadN X0.here hx rfl (hb hby at_20) rfl k)
      refine Goes.on (T' := s₁) (g' := (mkF m 24 #[.val (.int p1), .val (.int p2), .val (.int q), .unset, .unset, .unset] [(.int (255 : Int32)), (.int q)])) ?_ (fun t k => XS.sipush X0.here hx rfl (hb hby at_21) k)
      refine Goes.icmpP X0 hx rfl (pc0 := 24) (pc' := 31) rfl (hb hby at_24) rfl (by decide) (by decide) (P := (255 : Int32) < q) (cmp_gt _ _) (fun hc24 => ?_) (fun hc24 => ?_)
      · show Goes p e below W s₁ (mkF m 31 #[.val (.int p1), .val (.int p2), .val (.int q), .unset, .unset, .unset] [])
        refine Goes.on (T' := s₁) (g' := (mkF m 32 #[.val (.int p1), .val (.int p2), .val (.int q), .unset, .unset, .unset] [(.int (0 : Int32))])) ?_ (fun t k => XS.iconst X0.here hx rfl (hb hby at_31) k)
        refine Goes.on (T' := s₁) (g' := (mkF m 33 #[.val (.int p1), .val (.int p2), .val (.int q), .val (.int (0 : Int32)), .unset, .unset] [])) ?_ (fun t k => XS.istoreN X0.here hx rfl (hb hby at_32) rfl (l' := #[.val (.int p1), .val (.int p2), .val (.int q), .val (.int (0 : Int32)), .unset, .unset]) rfl k)
        refine Goes.on (T' := s₁) (g' := (mkF m 34 #[.val (.int p1), .val (.int p2), .val (.int q), .val (.int (0 : Int32)), .unset, .unset] [(.int q)])) ?_ (fun t k => XS.iloadN X0.here hx rfl (hb hby at_33) rfl k)
        refine Goes.ifP X0 hx rfl (pc0 := 34) (pc' := 58) rfl (hb hby at_34) rfl (by decide) (by decide) (P := q = (0 : Int32)) (ifc_eq _ _) (fun hc34 => ?_) (fun hc34 => ?_)
        · show Goes p e below W s₁ (mkF m 58 #[.val (.int p1), .val (.int p2), .val (.int q), .val (.int (0 : Int32)), .unset, .unset] [])
          refine Goes.on (T' := s₁) (g' := (mkF m 59 #[.val (.int p1), .val (.int p2), .val (.int q), .val (.int (0 : Int32)), .unset, .unset] [(.int (1 : Int32))])) ?_ (fun t k => XS.iconst X0.here hx rfl (hb hby at_58) k)
          refine Goes.on (T' := s₁) (g' := (mkF m 63 #[.val (.int p1), .val (.int p2), .val (.int q), .val (.int (0 : Int32)), .unset, .unset] [(.int (1 : Int32))])) ?_ (fun t k => XS.goto X0.here hx rfl (pc0 := 59) (pc' := 63) rfl (hb hby at_59) (by decide) (by decide) k)
          refine Goes.on (T' := s₁) (g' := (mkF m 65 #[.val (.int p1), .val (.int p2), .val (.int q), .val (.int (0 : Int32)), .val (.int (1 : Int32)), .unset] [])) ?_ (fun t k => XS.istore X0.here hx rfl (hb hby at_63) rfl (l' := #[.val (.int p1), .val (.int p2), .val (.int q), .val (.int (0 : Int32)), .val (.int (1 : Int32)), .unset]) rfl k)
          refine Goes.on (T' := s₁) (g' := (mkF m 66 #[.val (.int p1), .val (.int p2), .val (.int q), .val (.int (0 : Int32)), .val (.int (1 : Int32)), .unset] [(.int (0 : Int32))])) ?_ (fun t k => XS.iloadN X0.here hx rfl (hb hby at_65) rfl k)
          refine Goes.on (T' := s₁) (g' := (mkF m 78 #[.val (.int p1), .val (.int p2), .val (.int q), .val (.int (0 : Int32)), .val (.int (1 : Int32)), .unset] [])) ?_ (fun t k => XS.ifYes X0.here hx rfl (pc0 := 66) (pc' := 78) rfl (hb hby at_66) rfl (by decide) (by decide) (by decide) k)
          refine Goes.on (T' := s₁) (g' := (mkF m 79 #[.val (.int p1), .val (.int p2), .val (.int q), .val (.int (0 : Int32)), .val (.int (1 : Int32)), .unset] [(.int (0 : Int32))])) ?_ (fun t k => XS.iconst X0.here hx rfl (hb hby at_78) k)
          have t17 := mt Int32.lt_iff_toInt_lt.mpr hc17
          have t24 := Int32.lt_iff_toInt_lt.mp hc24
          have t34 := congrArg Int32.toInt hc34
          have z0 : (0 : Int32).toInt = 0 := rfl
          have z255 : (255 : Int32).toInt = 255 := rfl
          exact K79 _ _ _ _ (if_neg (by omega)).symm
        · show Goes p e below W s₁ (mkF m 37 #[.val (.int p1), .val (.int p2), .val (.int q), .val (.int (0 : Int32)), .unset, .unset] [])
          refine Goes.on (T' := s₁) (g' := (mkF m 38 #[.val (.int p1), .val (.int p2), .val (.int q), .val (.int (0 : Int32)), .unset, .unset] [(.int q)])) ?_ (fun t k => XS.iloadN X0.here hx rfl (hb hby at_37) rfl k)
          refine Goes.on (T' := s₁) (g' := (mkF m 41 #[.val (.int p1), .val (.int p2), .val (.int q), .val (.int (0 : Int32)), .unset, .unset] [(.int (253 : Int32)), (.int q)])) ?_ (fun t k => XS.sipush X0.here hx rfl (hb hby at_38) k)
          refine Goes.icmpP X0 hx rfl (pc0 := 41) (pc' := 58) rfl (hb hby at_41) rfl (by decide) (by decide) (P := q = (253 : Int32)) (cmp_eq _ _) (fun hc41 => ?_) (fun hc41 => ?_)
          · show Goes p e below W s₁ (mkF m 58 #[.val (.int p1), .val (.int p2), .val (.int q), .val (.int (0 : Int32)), .unset, .unset] [])
            refine Goes.on (T' := s₁) (g' := (mkF m 59 #[.val (.int p1), .val (.int p2), .val (.int q), .val (.int (0 : Int32)), .unset, .unset] [(.int (1 : Int32))])) ?_ (fun t k => XS.iconst X0.here hx rfl (hb hby at_58) k)
            refine Goes.on (T' := s₁) (g' := (mkF m 63 #[.val (.int p1), .val (.int p2), .val (.int q), .val (.int (0 : Int32)), .unset, .unset] [(.int (1 : Int32))])) ?_ (fun t k => XS.goto X0.here hx rfl (pc0 := 59) (pc' := 63) rfl (hb hby at_59) (by decide) (by decide) k)
            refine Goes.on (T' := s₁) (g' := (mkF m 65 #[.val (.int p1), .val (.int p2), .val (.int q), .val (.int (0 : Int32)), .val (.int (1 : Int32)), .unset] [])) ?_ (fun t k => XS.istore X0.here hx rfl (hb hby at_63) rfl (l' := #[.val (.int p1), .val (.int p2), .val (.int q), .val (.int (0 : Int32)), .val (.int (1 : Int32)), .unset]) rfl k)
            refine Goes.on (T' := s₁) (g' := (mkF m 66 #[.val (.int p1), .val (.int p2), .val (.int q), .val (.int (0 : Int32)), .val (.int (1 : Int32)), .unset] [(.int (0 : Int32))])) ?_ (fun t k => XS.iloadN X0.here hx rfl (hb hby at_65) rfl k)
            refine Goes.on (T' := s₁) (g' := (mkF m 78 #[.val (.int p1), .val (.int p2), .val (.int q), .val (.int (0 : Int32)), .val (.int (1 : Int32)), .unset] [])) ?_ (fun t k => XS.ifYes X0.here hx rfl (pc0 := 66) (pc' := 78) rfl (hb hby at_66) rfl (by decide) (by decide) (by decide) k)
            refine Goes.on (T' := s₁) (g' := (mkF m 79 #[.val (.int p1), .val (.int p2), .val (.int q), .val (.int (0 : Int32)), .val (.int (1 : Int32)), .unset] [(.int (0 : Int32))])) ?_ (fun t k => XS.iconst X0.here hx rfl (hb hby at_78) k)
            have t17 := mt Int32.lt_iff_toInt_lt.mpr hc17
            have t24 := Int32.lt_iff_toInt_lt.mp hc24
            have t34 := mt Int32.toInt_inj.mp hc34
            have t41 := congrArg Int32.toInt hc41
            have z0 : (0 : Int32).toInt = 0 := rfl
            have z253 : (253 : Int32).toInt = 253 := rfl
            have z255 : (255 : Int32).toInt = 255 := rfl
            exact K79 _ _ _ _ (if_neg (by omega)).symm
          · show Goes p e below W s₁ (mkF m 44 #[.val (.int p1), .val (.int p2), .val (.int q), .val (.int (0 : Int32)), .unset, .unset] [])
            refine Goes.on (T' := s₁) (g' := (mkF m 45 #[.val (.int p1), .val (.int p2), .val (.int q), .val (.int (0 : Int32)), .unset, .unset] [(.int q)])) ?_ (fun t k => XS.iloadN X0.here hx rfl (hb hby at_44) rfl k)
            refine Goes.on (T' := s₁) (g' := (mkF m 48 #[.val (.int p1), .val (.int p2), .val (.int q), .val (.int (0 : Int32)), .unset, .unset] [(.int (254 : Int32)), (.int q)])) ?_ (fun t k => XS.sipush X0.here hx rfl (hb hby at_45) k)
            refine Goes.icmpP X0 hx rfl (pc0 := 48) (pc' := 58) rfl (hb hby at_48) rfl (by decide) (by decide) (P := q = (254 : Int32)) (cmp_eq _ _) (fun hc48 => ?_) (fun hc48 => ?_)
            · show Goes p e below W s₁ (mkF m 58 #[.val (.int p1), .val (.int p2), .val (.int q), .val (.int (0 : Int32)), .unset, .unset] [])
              refine Goes.on (T' := s₁) (g' := (mkF m 59 #[.val (.int p1), .val (.int p2), .val (.int q), .val (.int (0 : Int32)), .unset, .unset] [(.int (1 : Int32))])) ?_ (fun t k => XS.iconst X0.here hx rfl (hb hby at_58) k)
              refine Goes.on (T' := s₁) (g' := (mkF m 63 #[.val (.int p1), .val (.int p2), .val (.int q), .val (.int (0 : Int32)), .unset, .unset] [(.int (1 : Int32))])) ?_ (fun t k => XS.goto X0.here hx rfl (pc0 := 59) (pc' := 63) rfl (hb hby at_59) (by decide) (by decide) k)
              refine Goes.on (T' := s₁) (g' := (mkF m 65 #[.val (.int p1), .val (.int p2), .val (.int q), .val (.int (0 : Int32)), .val (.int (1 : Int32)), .unset] [])) ?_ (fun t k => XS.istore X0.here hx rfl (hb hby at_63) rfl (l' := #[.val (.int p1), .val (.int p2), .val (.int q), .val (.int (0 : Int32)), .val (.int (1 : Int32)), .unset]) rfl k)
              refine Goes.on (T' := s₁) (g' := (mkF m 66 #[.val (.int p1), .val (.int p2), .val (.int q), .val (.int (0 : Int32)), .val (.int (1 : Int32)), .unset] [(.int (0 : Int32))])) ?_ (fun t k => XS.iloadN X0.here hx rfl (hb hby at_65) rfl k)
              refine Goes.on (T' := s₁) (g' := (mkF m 78 #[.val (.int p1), .val (.int p2), .val (.int q), .val (.int (0 : Int32)), .val (.int (1 : Int32)), .unset] [])) ?_ (fun t k => XS.ifYes X0.here hx rfl (pc0 := 66) (pc' := 78) rfl (hb hby at_66) rfl (by decide) (by decide) (by decide) k)
              refine Goes.on (T' := s₁) (g' := (mkF m 79 #[.val (.int p1), .val (.int p2), .val (.int q), .val (.int (0 : Int32)), .val (.int (1 : Int32)), .unset] [(.int (0 : Int32))])) ?_ (fun t k => XS.iconst X0.here hx rfl (hb hby at_78) k)
              have t17 := mt Int32.lt_iff_toInt_lt.mpr hc17
              have t24 := Int32.lt_iff_toInt_lt.mp hc24
              have t34 := mt Int32.toInt_inj.mp hc34
              have t41 := mt Int32.toInt_inj.mp hc41
              have t48 := congrArg Int32.toInt hc48
              have z0 : (0 : Int32).toInt = 0 := rfl
              have z253 : (253 : Int32).toInt = 253 := rfl
              have z254 : (254 : Int32).toInt = 254 := rfl
              have z255 : (255 : Int32).toInt = 255 := rfl
              exact K79 _ _ _ _ (if_neg (by omega)).symm
            · show Goes p e below W s₁ (mkF m 51 #[.val (.int p1), .val (.int p2), .val (.int q), .val (.int (0 : Int32)), .unset, .unset] [])
              refine Goes.on (T' := s₁) (g' := (mkF m 52 #[.val (.int p1), .val (.int p2), .val (.int q), .val (.int (0 : Int32)), .unset, .unset] [(.int q)])) ?_ (fun t k => XS.iloadN X0.here hx rfl (hb hby at_51) rfl k)
              refine Goes.on (T' := s₁) (g' := (mkF m 55 #[.val (.int p1), .val (.int p2), .val (.int q), .val (.int (0 : Int32)), .unset, .unset] [(.int (255 : Int32)), (.int q)])) ?_ (fun t k => XS.sipush X0.here hx rfl (hb hby at_52) k)
              refine Goes.icmpN X0 hx rfl (pc0 := 55) (pc' := 62) rfl (hb hby at_55) rfl (by decide) (by decide) (P := q = (255 : Int32)) (cmp_ne _ _) (fun hc55 => ?_) (fun hc55 => ?_)
              · show Goes p e below W s₁ (mkF m 62 #[.val (.int p1), .val (.int p2), .val (.int q), .val (.int (0 : Int32)), .unset, .unset] [])
                refine Goes.on (T' := s₁) (g' := (mkF m 63 #[.val (.int p1), .val (.int p2), .val (.int q), .val (.int (0 : Int32)), .unset, .unset] [(.int (0 : Int32))])) ?_ (fun t k => XS.iconst X0.here hx rfl (hb hby at_62) k)
                refine Goes.on (T' := s₁) (g' := (mkF m 65 #[.val (.int p1), .val (.int p2), .val (.int q), .val (.int (0 : Int32)), .val (.int (0 : Int32)), .unset] [])) ?_ (fun t k => XS.istore X0.here hx rfl (hb hby at_63) rfl (l' := #[.val (.int p1), .val (.int p2), .val (.int q), .val (.int (0 : Int32)), .val (.int (0 : Int32)), .unset]) rfl k)
                refine Goes.on (T' := s₁) (g' := (mkF m 66 #[.val (.int p1), .val (.int p2), .val (.int q), .val (.int (0 : Int32)), .val (.int (0 : Int32)), .unset] [(.int (0 : Int32))])) ?_ (fun t k => XS.iloadN X0.here hx rfl (hb hby at_65) rfl k)
                refine Goes.on (T' := s₁) (g' := (mkF m 78 #[.val (.int p1), .val (.int p2), .val (.int q), .val (.int (0 : Int32)), .val (.int (0 : Int32)), .unset] [])) ?_ (fun t k => XS.ifYes X0.here hx rfl (pc0 := 66) (pc' := 78) rfl (hb hby at_66) rfl (by decide) (by decide) (by decide) k)
                refine Goes.on (T' := s₁) (g' := (mkF m 79 #[.val (.int p1), .val (.int p2), .val (.int q), .val (.int (0 : Int32)), .val (.int (0 : Int32)), .unset] [(.int (0 : Int32))])) ?_ (fun t k => XS.iconst X0.here hx rfl (hb hby at_78) k)
                have t17 := mt Int32.lt_iff_toInt_lt.mpr hc17
                have t24 := Int32.lt_iff_toInt_lt.mp hc24
                have t34 := mt Int32.toInt_inj.mp hc34
                have t41 := mt Int32.toInt_inj.mp hc41
                have t48 := mt Int32.toInt_inj.mp hc48
                have t55 := mt Int32.toInt_inj.mp hc55
                have z0 : (0 : Int32).toInt = 0 := rfl
                have z253 : (253 : Int32).toInt = 253 := rfl
                have z254 : (254 : Int32).toInt = 254 := rfl
                have z255 : (255 : Int32).toInt = 255 := rfl
                exact K79 _ _ _ _ (if_neg (by omega)).symm
              · show Goes p e below W s₁ (mkF m 58 #[.val (.int p1), .val (.int p2), .val (.int q), .val (.int (0 : Int32)), .unset, .unset] [])
                refine Goes.on (T' := s₁) (g' := (mkF m 59 #[.val (.int p1), .val (.int p2), .val (.int q), .val (.int (0 : Int32)), .unset, .unset] [(.int (1 : Int32))])) ?_ (fun t k => XS.iconst X0.here hx rfl (hb hby at_58) k)
                refine Goes.on (T' := s₁) (g' := (mkF m 63 #[.val (.int p1), .val (.int p2), .val (.int q), .val (.int (0 : Int32)), .unset, .unset] [(.int (1 : Int32))])) ?_ (fun t k => XS.goto X0.here hx rfl (pc0 := 59) (pc' := 63) rfl (hb hby at_59) (by decide) (by decide) k)
                refine Goes.on (T' := s₁) (g' := (mkF m 65 #[.val (.int p1), .val (.int p2), .val (.int q), .val (.int (0 : Int32)), .val (.int (1 : Int32)), .unset] [])) ?_ (fun t k => XS.istore X0.here hx rfl (hb hby at_63) rfl (l' := #[.val (.int p1), .val (.int p2), .val (.int q), .val (.int (0 : Int32)), .val (.int (1 : Int32)), .unset]) rfl k)
                refine Goes.on (T' := s₁) (g' := (mkF m 66 #[.val (.int p1), .val (.int p2), .val (.int q), .val (.int (0 : Int32)), .val (.int (1 : Int32)), .unset] [(.int (0 : Int32))])) ?_ (fun t k => XS.iloadN X0.here hx rfl (hb hby at_65) rfl k)
                refine Goes.on (T' := s₁) (g' := (mkF m 78 #[.val (.int p1), .val (.int p2), .val (.int q), .val (.int (0 : Int32)), .val (.int (1 : Int32)), .unset] [])) ?_ (fun t k => XS.ifYes X0.here hx rfl (pc0 := 66) (pc' := 78) rfl (hb hby at_66) rfl (by decide) (by decide) (by decide) k)
                refine Goes.on (T' := s₁) (g' := (mkF m 79 #[.val (.int p1), .val (.int p2), .val (.int q), .val (.int (0 : Int32)), .val (.int (1 : Int32)), .unset] [(.int (0 : Int32))])) ?_ (fun t k => XS.iconst X0.here hx rfl (hb hby at_78) k)
                have t17 := mt Int32.lt_iff_toInt_lt.mpr hc17
                have t24 := Int32.lt_iff_toInt_lt.mp hc24
                have t34 := mt Int32.toInt_inj.mp hc34
                have t41 := mt Int32.toInt_inj.mp hc41
                have t48 := mt Int32.toInt_inj.mp hc48
                have t55 := congrArg Int32.toInt hc55
                have z0 : (0 : Int32).toInt = 0 := rfl
                have z253 : (253 : Int32).toInt = 253 := rfl
                have z254 : (254 : Int32).toInt = 254 := rfl
                have z255 : (255 : Int32).toInt = 255 := rfl
                exact K79 _ _ _ _ (if_neg (by omega)).symm
      · show Goes p e below W s₁ (mkF m 27 #[.val (.int p1), .val (.int p2), .val (.int q), .unset, .unset, .unset] [])
        refine Goes.on (T' := s₁) (g' := (mkF m 28 #[.val (.int p1), .val (.int p2), .val (.int q), .unset, .unset, .unset] [(.int (1 : Int32))])) ?_ (fun t k => XS.iconst X0.here hx rfl (hb hby at_27) k)
        refine Goes.on (T' := s₁) (g' := (mkF m 32 #[.val (.int p1), .val (.int p2), .val (.int q), .unset, .unset, .unset] [(.int (1 : Int32))])) ?_ (fun t k => XS.goto X0.here hx rfl (pc0 := 28) (pc' := 32) rfl (hb hby at_28) (by decide) (by decide) k)
        refine Goes.on (T' := s₁) (g' := (mkF m 33 #[.val (.int p1), .val (.int p2), .val (.int q), .val (.int (1 : Int32)), .unset, .unset] [])) ?_ (fun t k => XS.istoreN X0.here hx rfl (hb hby at_32) rfl (l' := #[.val (.int p1), .val (.int p2), .val (.int q), .val (.int (1 : Int32)), .unset, .unset]) rfl k)
        refine Goes.on (T' := s₁) (g' := (mkF m 34 #[.val (.int p1), .val (.int p2), .val (.int q), .val (.int (1 : Int32)), .unset, .unset] [(.int q)])) ?_ (fun t k => XS.iloadN X0.here hx rfl (hb hby at_33) rfl k)
        refine Goes.ifP X0 hx rfl (pc0 := 34) (pc' := 58) rfl (hb hby at_34) rfl (by decide) (by decide) (P := q = (0 : Int32)) (ifc_eq _ _) (fun hc34 => ?_) (fun hc34 => ?_)
        · show Goes p e below W s₁ (mkF m 58 #[.val (.int p1), .val (.int p2), .val (.int q), .val (.int (1 : Int32)), .unset, .unset] [])
          refine Goes.on (T' := s₁) (g' := (mkF m 59 #[.val (.int p1), .val (.int p2), .val (.int q), .val (.int (1 : Int32)), .unset, .unset] [(.int (1 : Int32))])) ?_ (fun t k => XS.iconst X0.here hx rfl (hb hby at_58) k)
          refine Goes.on (T' := s₁) (g' := (mkF m 63 #[.val (.int p1), .val (.int p2), .val (.int q), .val (.int (1 : Int32)), .unset, .unset] [(.int (1 : Int32))])) ?_ (fun t k => XS.goto X0.here hx rfl (pc0 := 59) (pc' := 63) rfl (hb hby at_59) (by decide) (by decide) k)
          refine Goes.on (T' := s₁) (g' := (mkF m 65 #[.val (.int p1), .val (.int p2), .val (.int q), .val (.int (1 : Int32)), .val (.int (1 : Int32)), .unset] [])) ?_ (fun t k => XS.istore X0.here hx rfl (hb hby at_63) rfl (l' := #[.val (.int p1), .val (.int p2), .val (.int q), .val (.int (1 : Int32)), .val (.int (1 : Int32)), .unset]) rfl k)
          refine Goes.on (T' := s₁) (g' := (mkF m 66 #[.val (.int p1), .val (.int p2), .val (.int q), .val (.int (1 : Int32)), .val (.int (1 : Int32)), .unset] [(.int (1 : Int32))])) ?_ (fun t k => XS.iloadN X0.here hx rfl (hb hby at_65) rfl k)
          refine Goes.on (T' := s₁) (g' := (mkF m 69 #[.val (.int p1), .val (.int p2), .val (.int q), .val (.int (1 : Int32)), .val (.int (1 : Int32)), .unset] [])) ?_ (fun t k => XS.ifNo X0.here hx rfl (hb hby at_66) rfl (by decide) k)
          refine Goes.on (T' := s₁) (g' := (mkF m 71 #[.val (.int p1), .val (.int p2), .val (.int q), .val (.int (1 : Int32)), .val (.int (1 : Int32)), .unset] [(.int (1 : Int32))])) ?_ (fun t k => XS.iload X0.here hx rfl (hb hby at_69) rfl k)
          refine Goes.on (T' := s₁) (g' := (mkF m 78 #[.val (.int p1), .val (.int p2), .val (.int q), .val (.int (1 : Int32)), .val (.int (1 : Int32)), .unset] [])) ?_ (fun t k => XS.ifYes X0.here hx rfl (pc0 := 71) (pc' := 78) rfl (hb hby at_71) rfl (by decide) (by decide) (by decide) k)
          refine Goes.on (T' := s₁) (g' := (mkF m 79 #[.val (.int p1), .val (.int p2), .val (.int q), .val (.int (1 : Int32)), .val (.int (1 : Int32)), .unset] [(.int (0 : Int32))])) ?_ (fun t k => XS.iconst X0.here hx rfl (hb hby at_78) k)
          have t17 := mt Int32.lt_iff_toInt_lt.mpr hc17
          have t24 := mt Int32.lt_iff_toInt_lt.mpr hc24
          have t34 := congrArg Int32.toInt hc34
          have z0 : (0 : Int32).toInt = 0 := rfl
          have z255 : (255 : Int32).toInt = 255 := rfl
          exact K79 _ _ _ _ (if_neg (by omega)).symm
        · show Goes p e below W s₁ (mkF m 37 #[.val (.int p1), .val (.int p2), .val (.int q), .val (.int (1 : Int32)), .unset, .unset] [])
          refine Goes.on (T' := s₁) (g' := (mkF m 38 #[.val (.int p1), .val (.int p2), .val (.int q), .val (.int (1 : Int32)), .unset, .unset] [(.int q)])) ?_ (fun t k => XS.iloadN X0.here hx rfl (hb hby at_37) rfl k)
          refine Goes.on (T' := s₁) (g' := (mkF m 41 #[.val (.int p1), .val (.int p2), .val (.int q), .val (.int (1 : Int32)), .unset, .unset] [(.int (253 : Int32)), (.int q)])) ?_ (fun t k => XS.sipush X0.here hx rfl (hb hby at_38) k)
          refine Goes.icmpP X0 hx rfl (pc0 := 41) (pc' := 58) rfl (hb hby at_41) rfl (by decide) (by decide) (P := q = (253 : Int32)) (cmp_eq _ _) (fun hc41 => ?_) (fun hc41 => ?_)
          · show Goes p e below W s₁ (mkF m 58 #[.val (.int p1), .val (.int p2), .val (.int q), .val (.int (1 : Int32)), .unset, .unset] [])
            refine Goes.on (T' := s₁) (g' := (mkF m 59 #[.val (.int p1), .val (.int p2), .val (.int q), .val (.int (1 : Int32)), .unset, .unset] [(.int (1 : Int32))])) ?_ (fun t k => XS.iconst X0.here hx rfl (hb hby at_58) k)
            refine Goes.on (T' := s₁) (g' := (mkF m 63 #[.val (.int p1), .val (.int p2), .val (.int q), .val (.int (1 : Int32)), .unset, .unset] [(.int (1 : Int32))])) ?_ (fun t k => XS.goto X0.here hx rfl (pc0 := 59) (pc' := 63) rfl (hb hby at_59) (by decide) (by decide) k)
            refine Goes.on (T' := s₁) (g' := (mkF m 65 #[.val (.int p1), .val (.int p2), .val (.int q), .val (.int (1 : Int32)), .val (.int (1 : Int32)), .unset] [])) ?_ (fun t k => XS.istore X0.here hx rfl (hb hby at_63) rfl (l' := #[.val (.int p1), .val (.int p2), .val (.int q), .val (.int (1 : Int32)), .val (.int (1 : Int32)), .unset]) rfl k)
            refine Goes.on (T' := s₁) (g' := (mkF m 66 #[.val (.int p1), .val (.int p2), .val (.int q), .val (.int (1 : Int32)), .val (.int (1 : Int32)), .unset] [(.int (1 : Int32))])) ?_ (fun t k => XS.iloadN X0.here hx rfl (hb hby at_65) rfl k)
            refine Goes.on (T' := s₁) (g' := (mkF m 69 #[.val (.int p1), .val (.int p2), .val (.int q), .val (.int (1 : Int32)), .val (.int (1 : Int32)), .unset] [])) ?_ (fun t k => XS.ifNo X0.here hx rfl (hb hby at_66) rfl (by decide) k)
            refine Goes.on (T' := s₁) (g' := (mkF m 71 #[.val (.int p1), .val (.int p2), .val (.int q), .val (.int (1 : Int32)), .val (.int (1 : Int32)), .unset] [(.int (1 : Int32))])) ?_ (fun t k => XS.iload X0.here hx rfl (hb hby at_69) rfl k)
            refine Goes.on (T' := s₁) (g' := (mkF m 78 #[.val (.int p1), .val (.int p2), .val (.int q), .val (.int (1 : Int32)), .val (.int (1 : Int32)), .unset] [])) ?_ (fun t k => XS.ifYes X0.here hx rfl (pc0 := 71) (pc' := 78) rfl (hb hby at_71) rfl (by decide) (by decide) (by decide) k)
            refine Goes.on (T' := s₁) (g' := (mkF m 79 #[.val (.int p1), .val (.int p2), .val (.int q), .val (.int (1 : Int32)), .val (.int (1 : Int32)), .unset] [(.int (0 : Int32))])) ?_ (fun t k => XS.iconst X0.here hx rfl (hb hby at_78) k)
            have t17 := mt Int32.lt_iff_toInt_lt.mpr hc17
            have t24 := mt Int32.lt_iff_toInt_lt.mpr hc24
            have t34 := mt Int32.toInt_inj.mp hc34
            have t41 := congrArg Int32.toInt hc41
            have z0 : (0 : Int32).toInt = 0 := rfl
            have z253 : (253 : Int32).toInt = 253 := rfl
            have z255 : (255 : Int32).toInt = 255 := rfl
            exact K79 _ _ _ _ (if_neg (by omega)).symm
          · show Goes p e below W s₁ (mkF m 44 #[.val (.int p1), .val (.int p2), .val (.int q), .val (.int (1 : Int32)), .unset, .unset] [])
            refine Goes.on (T' := s₁) (g' := (mkF m 45 #[.val (.int p1), .val (.int p2), .val (.int q), .val (.int (1 : Int32)), .unset, .unset] [(.int q)])) ?_ (fun t k => XS.iloadN X0.here hx rfl (hb hby at_44) rfl k)
            refine Goes.on (T' := s₁) (g' := (mkF m 48 #[.val (.int p1), .val (.int p2), .val (.int q), .val (.int (1 : Int32)), .unset, .unset] [(.int (254 : Int32)), (.int q)])) ?_ (fun t k => XS.sipush X0.here hx rfl (hb hby at_45) k)
            refine Goes.icmpP X0 hx rfl (pc0 := 48) (pc' := 58) rfl (hb hby at_48) rfl (by decide) (by decide) (P := q = (254 : Int32)) (cmp_eq _ _) (fun hc48 => ?_) (fun hc48 => ?_)
            · show Goes p e below W s₁ (mkF m 58 #[.val (.int p1), .val (.int p2), .val (.int q), .val (.int (1 : Int32)), .unset, .unset] [])
              refine Goes.on (T' := s₁) (g' := (mkF m 59 #[.val (.int p1), .val (.int p2), .val (.int q), .val (.int (1 : Int32)), .unset, .unset] [(.int (1 : Int32))])) ?_ (fun t k => XS.iconst X0.here hx rfl (hb hby at_58) k)
              refine Goes.on (T' := s₁) (g' := (mkF m 63 #[.val (.int p1), .val (.int p2), .val (.int q), .val (.int (1 : Int32)), .unset, .unset] [(.int (1 : Int32))])) ?_ (fun t k => XS.goto X0.here hx rfl (pc0 := 59) (pc' := 63) rfl (hb hby at_59) (by decide) (by decide) k)
              refine Goes.on (T' := s₁) (g' := (mkF m 65 #[.val (.int p1), .val (.int p2), .val (.int q), .val (.int (1 : Int32)), .val (.int (1 : Int32)), .unset] [])) ?_ (fun t k => XS.istore X0.here hx rfl (hb hby at_63) rfl (l' := #[.val (.int p1), .val (.int p2), .val (.int q), .val (.int (1 : Int32)), .val (.int (1 : Int32)), .unset]) rfl k)
              refine Goes.on (T' := s₁) (g' := (mkF m 66 #[.val (.int p1), .val (.int p2), .val (.int q), .val (.int (1 : Int32)), .val (.int (1 : Int32)), .unset] [(.int (1 : Int32))])) ?_ (fun t k => XS.iloadN X0.here hx rfl (hb hby at_65) rfl k)
              refine Goes.on (T' := s₁) (g' := (mkF m 69 #[.val (.int p1), .val (.int p2), .val (.int q), .val (.int (1 : Int32)), .val (.int (1 : Int32)), .unset] [])) ?_ (fun t k => XS.ifNo X0.here hx rfl (hb hby at_66) rfl (by decide) k)
              refine Goes.on (T' := s₁) (g' := (mkF m 71 #[.val (.int p1), .val (.int p2), .val (.int q), .val (.int (1 : Int32)), .val (.int (1 : Int32)), .unset] [(.int (1 : Int32))])) ?_ (fun t k => XS.iload X0.here hx rfl (hb hby at_69) rfl k)
              refine Goes.on (T' := s₁) (g' := (mkF m 78 #[.val (.int p1), .val (.int p2), .val (.int q), .val (.int (1 : Int32)), .val (.int (1 : Int32)), .unset] [])) ?_ (fun t k => XS.ifYes X0.here hx rfl (pc0 := 71) (pc' := 78) rfl (hb hby at_71) rfl (by decide) (by decide) (by decide) k)
              refine Goes.on (T' := s₁) (g' := (mkF m 79 #[.val (.int p1), .val (.int p2), .val (.int q), .val (.int (1 : Int32)), .val (.int (1 : Int32)), .unset] [(.int (0 : Int32))])) ?_ (fun t k => XS.iconst X0.here hx rfl (hb hby at_78) k)
              have t17 := mt Int32.lt_iff_toInt_lt.mpr hc17
              have t24 := mt Int32.lt_iff_toInt_lt.mpr hc24
              have t34 := mt Int32.toInt_inj.mp hc34
              have t41 := mt Int32.toInt_inj.mp hc41
              have t48 := congrArg Int32.toInt hc48
              have z0 : (0 : Int32).toInt = 0 := rfl
              have z253 : (253 : Int32).toInt = 253 := rfl
              have z254 : (254 : Int32).toInt = 254 := rfl
              have z255 : (255 : Int32).toInt = 255 := rfl
              exact K79 _ _ _ _ (if_neg (by omega)).symm
            · show Goes p e below W s₁ (mkF m 51 #[.val (.int p1), .val (.int p2), .val (.int q), .val (.int (1 : Int32)), .unset, .unset] [])
              refine Goes.on (T' := s₁) (g' := (mkF m 52 #[.val (.int p1), .val (.int p2), .val (.int q), .val (.int (1 : Int32)), .unset, .unset] [(.int q)])) ?_ (fun t k => XS.iloadN X0.here hx rfl (hb hby at_51) rfl k)
              refine Goes.on (T' := s₁) (g' := (mkF m 55 #[.val (.int p1), .val (.int p2), .val (.int q), .val (.int (1 : Int32)), .unset, .unset] [(.int (255 : Int32)), (.int q)])) ?_ (fun t k => XS.sipush X0.here hx rfl (hb hby at_52) k)
              refine Goes.icmpN X0 hx rfl (pc0 := 55) (pc' := 62) rfl (hb hby at_55) rfl (by decide) (by decide) (P := q = (255 : Int32)) (cmp_ne _ _) (fun hc55 => ?_) (fun hc55 => ?_)
              · show Goes p e below W s₁ (mkF m 62 #[.val (.int p1), .val (.int p2), .val (.int q), .val (.int (1 : Int32)), .unset, .unset] [])
                refine Goes.on (T' := s₁) (g' := (mkF m 63 #[.val (.int p1), .val (.int p2), .val (.int q), .val (.int (1 : Int32)), .unset, .unset] [(.int (0 : Int32))])) ?_ (fun t k => XS.iconst X0.here hx rfl (hb hby at_62) k)
                refine Goes.on (T' := s₁) (g' := (mkF m 65 #[.val (.int p1), .val (.int p2), .val (.int q), .val (.int (1 : Int32)), .val (.int (0 : Int32)), .unset] [])) ?_ (fun t k => XS.istore X0.here hx rfl (hb hby at_63) rfl (l' := #[.val (.int p1), .val (.int p2), .val (.int q), .val (.int (1 : Int32)), .val (.int (0 : Int32)), .unset]) rfl k)
                refine Goes.on (T' := s₁) (g' := (mkF m 66 #[.val (.int p1), .val (.int p2), .val (.int q), .val (.int (1 : Int32)), .val (.int (0 : Int32)), .unset] [(.int (1 : Int32))])) ?_ (fun t k => XS.iloadN X0.here hx rfl (hb hby at_65) rfl k)
                refine Goes.on (T' := s₁) (g' := (mkF m 69 #[.val (.int p1), .val (.int p2), .val (.int q), .val (.int (1 : Int32)), .val (.int (0 : Int32)), .unset] [])) ?_ (fun t k => XS.ifNo X0.here hx rfl (hb hby at_66) rfl (by decide) k)
                refine Goes.on (T' := s₁) (g' := (mkF m 71 #[.val (.int p1), .val (.int p2), .val (.int q), .val (.int (1 : Int32)), .val (.int (0 : Int32)), .unset] [(.int (0 : Int32))])) ?_ (fun t k => XS.iload X0.here hx rfl (hb hby at_69) rfl k)
                refine Goes.on (T' := s₁) (g' := (mkF m 74 #[.val (.int p1), .val (.int p2), .val (.int q), .val (.int (1 : Int32)), .val (.int (0 : Int32)), .unset] [])) ?_ (fun t k => XS.ifNo X0.here hx rfl (hb hby at_71) rfl (by decide) k)
                refine Goes.on (T' := s₁) (g' := (mkF m 75 #[.val (.int p1), .val (.int p2), .val (.int q), .val (.int (1 : Int32)), .val (.int (0 : Int32)), .unset] [(.int (1 : Int32))])) ?_ (fun t k => XS.iconst X0.here hx rfl (hb hby at_74) k)
                refine Goes.on (T' := s₁) (g' := (mkF m 79 #[.val (.int p1), .val (.int p2), .val (.int q), .val (.int (1 : Int32)), .val (.int (0 : Int32)), .unset] [(.int (1 : Int32))])) ?_ (fun t k => XS.goto X0.here hx rfl (pc0 := 75) (pc' := 79) rfl (hb hby at_75) (by decide) (by decide) k)
                have t17 := mt Int32.lt_iff_toInt_lt.mpr hc17
                have t24 := mt Int32.lt_iff_toInt_lt.mpr hc24
                have t34 := mt Int32.toInt_inj.mp hc34
                have t41 := mt Int32.toInt_inj.mp hc41
                have t48 := mt Int32.toInt_inj.mp hc48
                have t55 := mt Int32.toInt_inj.mp hc55
                have z0 : (0 : Int32).toInt = 0 := rfl
                have z253 : (253 : Int32).toInt = 253 := rfl
                have z254 : (254 : Int32).toInt = 254 := rfl
                have z255 : (255 : Int32).toInt = 255 := rfl
                exact K79 _ _ _ _ (if_pos (by omega)).symm
              · show Goes p e below W s₁ (mkF m 58 #[.val (.int p1), .val (.int p2), .val (.int q), .val (.int (1 : Int32)), .unset, .unset] [])
                refine Goes.on (T' := s₁) (g' := (mkF m 59 #[.val (.int p1), .val (.int p2), .val (.int q), .val (.int (1 : Int32)), .unset, .unset] [(.int (1 : Int32))])) ?_ (fun t k => XS.iconst X0.here hx rfl (hb hby at_58) k)
                refine Goes.on (T' := s₁) (g' := (mkF m 63 #[.val (.int p1), .val (.int p2), .val (.int q), .val (.int (1 : Int32)), .unset, .unset] [(.int (1 : Int32))])) ?_ (fun t k => XS.goto X0.here hx rfl (pc0 := 59) (pc' := 63) rfl (hb hby at_59) (by decide) (by decide) k)
                refine Goes.on (T' := s₁) (g' := (mkF m 65 #[.val (.int p1), .val (.int p2), .val (.int q), .val (.int (1 : Int32)), .val (.int (1 : Int32)), .unset] [])) ?_ (fun t k => XS.istore X0.here hx rfl (hb hby at_63) rfl (l' := #[.val (.int p1), .val (.int p2), .val (.int q), .val (.int (1 : Int32)), .val (.int (1 : Int32)), .unset]) rfl k)
                refine Goes.on (T' := s₁) (g' := (mkF m 66 #[.val (.int p1), .val (.int p2), .val (.int q), .val (.int (1 : Int32)), .val (.int (1 : Int32)), .unset] [(.int (1 : Int32))])) ?_ (fun t k => XS.iloadN X0.here hx rfl (hb hby at_65) rfl k)
                refine Goes.on (T' := s₁) (g' := (mkF m 69 #[.val (.int p1), .val (.int p2), .val (.int q), .val (.int (1 : Int32)), .val (.int (1 : Int32)), .unset] [])) ?_ (fun t k => XS.ifNo X0.here hx rfl (hb hby at_66) rfl (by decide) k)
                refine Goes.on (T' := s₁) (g' := (mkF m 71 #[.val (.int p1), .val (.int p2), .val (.int q), .val (.int (1 : Int32)), .val (.int (1 : Int32)), .unset] [(.int (1 : Int32))])) ?_ (fun t k => XS.iload X0.here hx rfl (hb hby at_69) rfl k)
                refine Goes.on (T' := s₁) (g' := (mkF m 78 #[.val (.int p1), .val (.int p2), .val (.int q), .val (.int (1 : Int32)), .val (.int (1 : Int32)), .unset] [])) ?_ (fun t k => XS.ifYes X0.here hx rfl (pc0 := 71) (pc' := 78) rfl (hb hby at_71) rfl (by decide) (by decide) (by decide) k)
                refine Goes.on (T' := s₁) (g' := (mkF m 79 #[.val (.int p1), .val (.int p2), .val (.int q), .val (.int (1 : Int32)), .val (.int (1 : Int32)), .unset] [(.int (0 : Int32))])) ?_ (fun t k => XS.iconst X0.here hx rfl (hb hby at_78) k)
                have t17 := mt Int32.lt_iff_toInt_lt.mpr hc17
                have t24 := mt Int32.lt_iff_toInt_lt.mpr hc24
                have t34 := mt Int32.toInt_inj.mp hc34
                have t41 := mt Int32.toInt_inj.mp hc41
                have t48 := mt Int32.toInt_inj.mp hc48
                have t55 := congrArg Int32.toInt hc55
                have z0 : (0 : Int32).toInt = 0 := rfl
                have z253 : (253 : Int32).toInt = 253 := rfl
                have z254 : (254 : Int32).toInt = 254 := rfl
                have z255 : (255 : Int32).toInt = 255 := rfl
                exact K79 _ _ _ _ (if_neg (by omega)).symm
  refine Goes.on (T' := s₁) (g' := (mkF m 1 #[.val (.int p1), .val (.int p2), .unset, .unset, .unset, .unset] [(.int p2)])) ?_ (fun t k => XS.iloadN X0.here hx rfl (hb hby at_0) rfl k)
  refine Goes.on (T' := s₁) (g' := (mkF m 2 #[.val (.int p1), .val (.int p2), .unset, .unset, .unset, .unset] [(.int (1 : Int32)), (.int p2)])) ?_ (fun t k => XS.iconst X0.here hx rfl (hb hby at_1) k)
  refine Goes.on (T' := s₁) (g' := (mkF m 3 #[.val (.int p1), .val (.int p2), .unset, .unset, .unset, .unset] [(.int (p2 &&& (1 : Int32)))])) ?_ (fun t k => XS.iand X0.here hx rfl (hb hby at_2) rfl k)
  refine Goes.ifP X0 hx rfl (pc0 := 3) (pc' := 10) rfl (hb hby at_3) rfl (by decide) (by decide) (P := (p2 &&& (1 : Int32)) = (0 : Int32)) (ifc_eq _ _) (fun hc3 => ?_) (fun hc3 => ?_)
  · show Goes p e below W s₁ (mkF m 10 #[.val (.int p1), .val (.int p2), .unset, .unset, .unset, .unset] [])
    refine Goes.on (T' := s₁) (g' := (mkF m 11 #[.val (.int p1), .val (.int p2), .unset, .unset, .unset, .unset] [(.int p1)])) ?_ (fun t k => XS.iloadN X0.here hx rfl (hb hby at_10) rfl k)
    refine Goes.on (T' := s₁) (g' := (mkF m 14 #[.val (.int p1), .val (.int p2), .unset, .unset, .unset, .unset] [(.int (260 : Int32)), (.int p1)])) ?_ (fun t k => XS.sipush X0.here hx rfl (hb hby at_11) k)
    refine Goes.on (T' := s₁) (g' := (mkF m 15 #[.val (.int p1), .val (.int p2), .unset, .unset, .unset, .unset] [(.int (p1 % (260 : Int32)))])) ?_ (fun t k => iremM X0 hx rfl (hb hby at_14) rfl (by decide) k)
    refine Goes.on (T' := s₁) (g' := (mkF m 16 #[.val (.int p1), .val (.int p2), .val (.int (p1 % (260 : Int32))), .unset, .unset, .unset] [])) ?_ (fun t k => XS.istoreN X0.here hx rfl (hb hby at_15) rfl (l' := #[.val (.int p1), .val (.int p2), .val (.int (p1 % (260 : Int32))), .unset, .unset, .unset]) rfl k)
    exact K16 _
  · show Goes p e below W s₁ (mkF m 6 #[.val (.int p1), .val (.int p2), .unset, .unset, .unset, .unset] [])
    refine Goes.on (T' := s₁) (g' := (mkF m 7 #[.val (.int p1), .val (.int p2), .unset, .unset, .unset, .unset] [(.int p1)])) ?_ (fun t k => XS.iloadN X0.here hx rfl (hb hby at_6) rfl k)
    refine Goes.on (T' := s₁) (g' := (mkF m 15 #[.val (.int p1), .val (.int p2), .unset, .unset, .unset, .unset] [(.int p1)])) ?_ (fun t k => XS.goto X0.here hx rfl (pc0 := 7) (pc' := 15) rfl (hb hby at_7) (by decide) (by decide) k)
    refine Goes.on (T' := s₁) (g' := (mkF m 16 #[.val (.int p1), .val (.int p2), .val (.int p1), .unset, .unset, .unset] [])) ?_ (fun t k => XS.istoreN X0.here hx rfl (hb hby at_15) rfl (l' := #[.val (.int p1), .val (.int p2), .val (.int p1), .unset, .unset, .unset]) rfl k)
    exact K16 _
set_option maxRecDepth 65536 in
set_option maxHeartbeats 40000000 in
theorem comes_1 {Post : Tables → Env → Array Value → State → Outcome → State → Prop} (hpost : ∀ tb e args s v u, (limb_1_1.after args s (.returned v) u = true ∧ limb_1_2.after args s (.returned v) u = true ∧ True) → FrameEnd s (.returned v) u (Jvm.fieldLocs frame_1_writes args s ++ Jvm.arrayLocs frame_1_arrays args s ++ Jvm.staticLocs frame_1_statics s) 0 0 → Post tb e args s (.returned v) u) :
    ArmFor flags0 classFile x code maxLocals ret World_1 tables_1 room_1 Calls_1 rest_1 Pre_1 Post := by
  intro l hfl _ _ p e ha hc hk s m args below hf hA hF happ hP
  obtain ⟨hcalls, hrest, hpre⟩ := hP
  obtain ⟨-, -, -, hnamed, -, -, -, hat⟩ := (Spec.applies_iff hf).mp happ
  obtain ⟨hg, hn⟩ := and_e (Cond.before_iff.mp (show (Jvm.Cond.and given_1 narrow_1).before args s = true from hpre))
  obtain ⟨hcount, hq0⟩ := and_e hg
  obtain ⟨ha0, hq1⟩ := and_e hq0
  have ha1 := hq1
  obtain ⟨w0, w1, rfl⟩ : ∃ w0 w1 : Value, args = #[w0, w1] := by
    have hs : args.size = 2 := by simpa [Cond.value, given_1] using hcount
    obtain ⟨L⟩ := args
    match L, hs with
    | [w0, w1], _ => exact ⟨w0, w1, rfl⟩
  have hw := fun d (hd : d ∈ tables_1) => atoms_spec (ws := Jvm.Cond.code x code maxLocals ret :: tables_1) hat d (List.mem_cons_of_mem _ hd)
  have hfit : Fit s := fun {y c} hc i hi => by
    obtain ⟨ha, rfl⟩ := Array.getElem?_eq_some_iff.mp hc
    have q := List.all_eq_true.mp ((Array.all_eq_true_iff_forall_mem.mp hF) _ (Array.getElem_mem ha)) i (List.mem_range.mpr hi)
    simpa [Array.getElem?_eq_getElem hi] using q
  obtain ⟨i0, ea0⟩ := is_v ha0
  obtain rfl : w0 = (.int i0) := Option.some.inj ea0
  obtain ⟨i1, ea1⟩ := is_v ha1
  obtain rfl : w1 = (.int i1) := Option.some.inj ea1
  obtain ⟨n, o, h1, h2, h3, _, L, rfl, ⟨rfl, N⟩, hq⟩ := rm0 l s _ hw tables_1 i0 i1 s.heap s.heap.size (Nat.le_refl _) p e ha hc hk s m _ below hf ((Spec.applies_iff_loose hf).mp happ).1 ⟨rfl, State.Warmed39.refl s, rfl⟩ trivial
  refine ⟨n, _, h1, h2, h3, hpost _ _ _ _ _ _ ⟨Cond.after_iff.mpr rfl, Cond.after_iff.mpr (eq_i res_at (Term.int_eval (1)) rfl), trivial⟩ ⟨hq.1, hq.2.1, (hq.2.2.sift fun y hy => Or.inr (N y hy)).mono (by decide) (by decide)⟩⟩
theorem main_1_1 : Claimed_1_1 := comes_1 fun _ _ _ _ _ _ h hF => ⟨h.1, hF⟩
theorem main_1_2 : Claimed_1_2 := comes_1 fun _ _ _ _ _ _ h hF => ⟨h.2.1, hF⟩
end Jvm.Pilot.@@N@@
namespace Jvm.Pilot.@@N@@
open Jvm Jvm.ClassFile Sem Op Lib Jvm.Free Jvm.Stand Jvm.Pilot.@@N@@.Jvm.D
/-! MADE BY PROGRAM (witnessworld.py) out of the Statement's table words and the real class files: 9 classes; the members and pool entries that the words name. The judged class is class 1, her method 1. -/
namespace start1
open Jvm.ClassFile
def u (s : String) : CpInfo := .utf8 (stringToUtf16 s)
/-- a pool by its gaps: so many unusable entries, then the entry; so many at the end -/
def gap : Nat → List CpInfo → List CpInfo
  | 0, r => r
  | n + 1, r => .unusable :: gap n r
def poolList (es : List (Nat × CpInfo)) (last : Nat) : List CpInfo := es.foldr (fun e r => gap e.1 (e.2 :: r)) (gap last [])
def pool (es : List (Nat × CpInfo)) (last : Nat) : Array CpInfo := ⟨poolList es last⟩
def fileOf (pool : Array CpInfo) (this : Nat) (attrs : Array Attribute := #[]) (ms : Array MethodInfo := #[]) (fl : Nat := 33) (sup : Nat := 0) (ifs : Array Nat := #[]) (fds : Array FieldInfo := #[]) : ClassFile where
  minorVersion := 0
  majorVersion := 65
  constantPool := pool
  accessFlags := fl
  thisClass := this
  superClass := sup
  interfaces := ifs
  fields := fds
  methods := ms
  attributes := attrs
def plain (name : String) (sup : Option ClassId) : Class where
  name := name
  kind := .ordinary
  loader := none
  accessFlags := 33
  super := sup
  interfaces := #[]
  cf := none
  fields := #[]
  methods := #[]
  instanceTypes := #[]
  staticTypes := #[]
  resolved := #[]
  callSites := []
  init := .initialized
  statics := none
  mirror := none

def pool0 : Array CpInfo := pool [(5, u "<init>"), (0, u "()V"), (1, .class_ 10), (1, u "java/lang/Object")] 113

def k0m0 : Method := { name := "<init>", desc := "()V", sig := { parameters := [], returnType := none }, accessFlags := 1, code := none }
/-- java/lang/Object -/
def k0 : Class := { plain "java/lang/Object" none with
  accessFlags := 33
  interfaces := #[]
  cf := some (fileOf pool0 8 #[] #[{ accessFlags := 1, nameIndex := 5, descriptorIndex := 6, attributes := #[] }] 33 0 #[] #[])
  fields := #[]
  methods := #[k0m0]
  instanceTypes := #[]
  staticTypes := #[]
  resolved := Array.replicate 124 none
  statics := none }

def pool1 : Array CpInfo := pool [(2, .class_ 4), (1, u "java/lang/Object"), (0, u "<init>"), (0, u "()V"), (0, .methodref 8 9), (0, .class_ 10), (0, .nameAndType 11 12), (0, u "com/example/ballard/ballard/table/StoredKeys"), (0, u "isIndexNumber"), (0, u "(I)Z"), (0, .class_ 14), (0, u "com/example/ballard/ballard/table/StoredKeysIsIndexNumberPinLaw"), (2, u "law"), (0, u "(II)Z")] 3

def k1m0 : Method := { name := "<init>", desc := "()V", sig := { parameters := [], returnType := none }, accessFlags := 2, code := none }
def k1c1 : Code := { maxStack := 2, maxLocals := 6, code := code, exceptionTable := #[], attributes := #[] }
def k1m1 : Method := { name := "law", desc := "(II)Z", sig := { parameters := [.int, .int], returnType := some .boolean }, accessFlags := 9, code := some k1c1 }
/-- com/example/ballard/ballard/table/StoredKeysIsIndexNumberPinLaw -/
def k1 : Class := { plain "com/example/ballard/ballard/table/StoredKeysIsIndexNumberPinLaw" (some 0) with
  accessFlags := 49
  interfaces := #[]
  cf := some (fileOf pool1 13 #[] #[{ accessFlags := 2, nameIndex := 5, descriptorIndex := 6, attributes := #[] }, { accessFlags := 9, nameIndex := 17, descriptorIndex := 18, attributes := #[] }] 49 2 #[] #[])
  fields := #[]
  methods := #[k1m0, k1m1]
  instanceTypes := #[]
  staticTypes := #[]
  resolved := Array.replicate 22 none
  statics := none }

def pool2 : Array CpInfo := pool [(1, .class_ 2), (0, u "com/example/ballard/ballard/table/StoredKeys"), (5, .class_ 10), (1, u "java/lang/Object"), (0, u "<init>"), (0, u "()V"), (19, u "TABLES_KEY"), (0, u "[B"), (5, u "TOKENS_KEY"), (8, u "STREAMS_KEY"), (2, u "CHANGES_KEY"), (2, u "FORMAT_KEY"), (2, u "UNTIMED_TOKENS_KEY"), (2, u "LAST_NUMBER_KEY"), (2, u "TABLE_KEYS_END"), (0, u "ITEMS_PLACE"), (0, u "I"), (2, u "EXPIRY_PLACE"), (1, u "SIZES_PLACE"), (1, u "COUNTS_PLACE"), (1, u "MAX_INDEX_NUMBER"), (1, u "PREFIX_BYTES"), (1, u "COLLECTION_PREFIX_BYTES"), (3, u "isIndexNumber"), (0, u "(I)Z")] 16

def k2m0 : Method := { name := "<init>", desc := "()V", sig := { parameters := [], returnType := none }, accessFlags := 2, code := none }
def k2c1 : Code := { maxStack := 2, maxLocals := 1, code := prog_90_method_2_code, exceptionTable := #[], attributes := #[] }
def k2m1 : Method := { name := "isIndexNumber", desc := "(I)Z", sig := { parameters := [.int], returnType := some .boolean }, accessFlags := 8, code := some k2c1 }
/-- com/example/ballard/ballard/table/StoredKeys -/
def k2 : Class := { plain "com/example/ballard/ballard/table/StoredKeys" (some 0) with
  accessFlags := 32
  interfaces := #[]
  cf := some (fileOf pool2 1 #[] #[{ accessFlags := 2, nameIndex := 11, descriptorIndex := 12, attributes := #[] }, { accessFlags := 8, nameIndex := 82, descriptorIndex := 83, attributes := #[] }] 32 8 #[] #[{ accessFlags := 24, nameIndex := 64, descriptorIndex := 65, attributes := #[] }, { accessFlags := 24, nameIndex := 68, descriptorIndex := 65, attributes := #[] }, { accessFlags := 24, nameIndex := 70, descriptorIndex := 65, attributes := #[] }, { accessFlags := 24, nameIndex := 72, descriptorIndex := 65, attributes := #[] }, { accessFlags := 24, nameIndex := 74, descriptorIndex := 65, attributes := #[] }, { accessFlags := 24, nameIndex := 76, descriptorIndex := 65, attributes := #[] }, { accessFlags := 24, nameIndex := 78, descriptorIndex := 65, attributes := #[] }, { accessFlags := 24, nameIndex := 54, descriptorIndex := 33, attributes := #[] }, { accessFlags := 24, nameIndex := 32, descriptorIndex := 33, attributes := #[] }, { accessFlags := 24, nameIndex := 57, descriptorIndex := 33, attributes := #[] }, { accessFlags := 24, nameIndex := 60, descriptorIndex := 33, attributes := #[] }, { accessFlags := 24, nameIndex := 39, descriptorIndex := 33, attributes := #[] }, { accessFlags := 24, nameIndex := 48, descriptorIndex := 33, attributes := #[] }, { accessFlags := 24, nameIndex := 51, descriptorIndex := 33, attributes := #[] }, { accessFlags := 24, nameIndex := 63, descriptorIndex := 33, attributes := #[] }])
  fields := #[{ name := "ITEMS_PLACE", type := .int, accessFlags := 24, slot := 0, constantValue := 0 }, { name := "EXPIRY_PLACE", type := .int, accessFlags := 24, slot := 1, constantValue := 0 }, { name := "SIZES_PLACE", type := .int, accessFlags := 24, slot := 2, constantValue := 0 }, { name := "COUNTS_PLACE", type := .int, accessFlags := 24, slot := 3, constantValue := 0 }, { name := "MAX_INDEX_NUMBER", type := .int, accessFlags := 24, slot := 4, constantValue := 0 }, { name := "PREFIX_BYTES", type := .int, accessFlags := 24, slot := 5, constantValue := 0 }, { name := "COLLECTION_PREFIX_BYTES", type := .int, accessFlags := 24, slot := 6, constantValue := 0 }, { name := "FORMAT_KEY", type := (.array .byte), accessFlags := 24, slot := 7, constantValue := 0 }, { name := "TABLES_KEY", type := (.array .byte), accessFlags := 24, slot := 8, constantValue := 0 }, { name := "UNTIMED_TOKENS_KEY", type := (.array .byte), accessFlags := 24, slot := 9, constantValue := 0 }, { name := "LAST_NUMBER_KEY", type := (.array .byte), accessFlags := 24, slot := 10, constantValue := 0 }, { name := "TOKENS_KEY", type := (.array .byte), accessFlags := 24, slot := 11, constantValue := 0 }, { name := "STREAMS_KEY", type := (.array .byte), accessFlags := 24, slot := 12, constantValue := 0 }, { name := "CHANGES_KEY", type := (.array .byte), accessFlags := 24, slot := 13, constantValue := 0 }, { name := "TABLE_KEYS_END", type := (.array .byte), accessFlags := 24, slot := 14, constantValue := 0 }]
  methods := #[k2m0, k2m1]
  instanceTypes := #[]
  staticTypes := #[.int, .int, .int, .int, .int, .int, .int, (.array .byte), (.array .byte), (.array .byte), (.array .byte), (.array .byte), (.array .byte), (.array .byte), (.array .byte)]
  resolved := Array.replicate 100 none
  statics := none }

def pool3 : Array CpInfo := pool [(1, u "java/lang/Cloneable"), (0, .class_ 1), (0, u "java/lang/Object"), (0, .class_ 3)] 3

/-- java/lang/Cloneable -/
def k3 : Class := { plain "java/lang/Cloneable" (some 0) with
  accessFlags := 1537
  interfaces := #[]
  cf := some (fileOf pool3 2 #[] #[] 1537 4 #[] #[])
  fields := #[]
  methods := #[]
  instanceTypes := #[]
  staticTypes := #[]
  resolved := Array.replicate 8 none
  statics := none }

def pool4 : Array CpInfo := pool [(1, u "java/io/Serializable"), (0, .class_ 1), (0, u "java/lang/Object"), (0, .class_ 3)] 3

/-- java/io/Serializable -/
def k4 : Class := { plain "java/io/Serializable" (some 0) with
  accessFlags := 1537
  interfaces := #[]
  cf := some (fileOf pool4 2 #[] #[] 1537 4 #[] #[])
  fields := #[]
  methods := #[]
  instanceTypes := #[]
  staticTypes := #[]
  resolved := Array.replicate 8 none
  statics := none }

/-- the primitive byte -/
def k5 : Class := { plain "byte" none with kind := .primitive 'B', accessFlags := 0x411 }
/-- [B -/
def k6 : Class := { plain "[B" (some 0) with kind := .array 5 .byte, interfaces := #[3, 4], accessFlags := 1041 }

/-- the primitive int -/
def k7 : Class := { plain "int" none with kind := .primitive 'I', accessFlags := 0x411 }
/-- [I -/
def k8 : Class := { plain "[I" (some 0) with kind := .array 7 .int, interfaces := #[3, 4], accessFlags := 1041 }

def heap : Heap := #[]
def classes : Array Class := #[k0, k1, k2, k3, k4, k5, k6, k7, k8]
def interned : List (Array UInt16 × Addr) := []
def slotsUsed : Nat := 0
def theMethod : MethodId := ⟨1, 1⟩
def args0 : Array Value := #[.int 5, .int 1]
def aboutOver (below : List Frame) : State where
  vm := { classes := classes, interned := interned.toArray }
  heap := heap
  slotsUsed := slotsUsed
  threads := #[{ frames := .invoking theMethod args0 :: below }]
def below0 : List Frame := [.native { method := ⟨0, 0⟩, args := #[] }]
def about1 : State := aboutOver below0
def p0 : Program := .bare "" "" ""
def e0 : Env := launch0.env 0 0 0
theorem w_frames : about1.frames = Frame.invoking theMethod args0 :: below0 := rfl
set_option maxRecDepth 65536 in
theorem w_args : argsFit about1.vm theMethod args0 = true := by decide +kernel
set_option maxRecDepth 65536 in
theorem w_heap : heapFits about1 = true := by decide +kernel
set_option maxRecDepth 65536 in
theorem w_runnable : about1.curStatus? = some .runnable := by decide +kernel
set_option maxRecDepth 65536 in
theorem w_alone : about1.alone = true := by decide +kernel
set_option maxRecDepth 65536 in
theorem w_named : about1.methodNamed? x = some theMethod := by decide +kernel
set_option maxRecDepth 65536 in
theorem w_hears : about1.hears theMethod below0 = true := by decide +kernel
set_option maxRecDepth 65536 in
theorem w_ripe : about1.ripe theMethod args0 below0 = true := by decide +kernel
theorem w_running : about1.status = .running := rfl
set_option maxRecDepth 65536 in
theorem w_room : about1.hasRoom e0.platform room_1 = true :=
  launch0.hasRoom_least _ room_1 (by decide +kernel) (by decide +kernel) (by decide +kernel) (by decide +kernel) (by decide +kernel) (by decide +kernel)
theorem allAtoms_all (ts : List Jvm.Cond) (a : Array Jvm.Value) (st : Jvm.State) : (allAtoms ts).before a st = ts.all (fun c => c.before a st) := by
  induction ts with
  | nil => rfl
  | cons c t ih =>
    show (Jvm.Cond.and c (allAtoms t)).before a st = _
    rw [Jvm.Cond.before_and, ih, List.all_cons]
def words1 : List Jvm.Cond := Jvm.Cond.code x code maxLocals ret :: tables_1
/-- a 'code' word, met by the world's own term for the bytes: nothing is compared byte by byte -/
theorem code_word {y : MethodName} {bytes : ByteArray} {mx : Nat} {rt : Option FieldType} {a : Array Value} {s : State} {m : MethodId} {meth : Method} {c : Code} (h1 : s.methodNamed? y = some m) (h2 : s.vm.method? m = some meth) (h3 : meth.code = some c) (h4 : c.code = bytes)
    (h5 : (c.maxLocals == mx && c.exceptionTable.isEmpty && decide (c.maxStack ≤ mostOperands) && decide (meth.sig.returnType = rt) && !meth.locks && decide (parseMethodDescriptor y.desc = some meth.sig)) = true) : (Jvm.Cond.code y bytes mx rt).before a s = true := by
  simp only [Bool.and_eq_true, beq_iff_eq, Bool.not_eq_true', decide_eq_true_eq] at h5
  obtain ⟨⟨⟨⟨⟨g1, g2⟩, g3⟩, g4⟩, g5⟩, g6⟩ := h5
  simp [Cond.before, Cond.holds, Cond.value, h1, h2, h3, h4, g1, g2, g3, g4, g5, g6]
def isCode : Jvm.Cond → Bool
  | .code _ _ _ _ => true
  | _ => false
theorem all_split {L : List Jvm.Cond} {P : Jvm.Cond → Bool} (h1 : L.all (fun c => isCode c || P c) = true) (h2 : ∀ c ∈ L.filter isCode, P c = true) : L.all P = true := by
  refine List.all_eq_true.mpr fun c hc => ?_
  have h := List.all_eq_true.mp h1 c hc
  rcases Bool.eq_false_or_eq_true (isCode c) with hi | hi
  · exact h2 c (List.mem_filter.mpr ⟨hc, hi⟩)
  · simpa [hi] using h
set_option maxRecDepth 65536 in
theorem w_c0 : (Jvm.Cond.code x code maxLocals ret).before args0 about1 = true := code_word (m := ⟨1, 1⟩) (meth := k1m1) (c := k1c1) (by decide +kernel) rfl rfl rfl (by decide +kernel)
set_option maxRecDepth 65536 in
theorem w_c1 : (Jvm.Cond.code ({ cls := "com/example/ballard/ballard/table/StoredKeys", name := "isIndexNumber", desc := "(I)Z" } : Jvm.MethodName) prog_90_method_2_code (1 : Nat) (Option.some Jvm.ClassFile.FieldType.boolean)).before args0 about1 = true := code_word (m := ⟨2, 1⟩) (meth := k2m1) (c := k2c1) (by decide +kernel) rfl rfl rfl (by decide +kernel)
def codes1 : List Jvm.Cond := [Jvm.Cond.code x code maxLocals ret, Jvm.Cond.code ({ cls := "com/example/ballard/ballard/table/StoredKeys", name := "isIndexNumber", desc := "(I)Z" } : Jvm.MethodName) prog_90_method_2_code (1 : Nat) (Option.some Jvm.ClassFile.FieldType.boolean)]
set_option maxRecDepth 65536 in
theorem codes_eq : words1.filter isCode = codes1 := rfl
theorem w_codes : ∀ c ∈ words1.filter isCode, c.before args0 about1 = true := by
  rw [codes_eq]
  intro c hc
  simp only [codes1, List.mem_cons, List.not_mem_nil, or_false] at hc
  rcases hc with rfl | rfl
  · exact w_c0
  · exact w_c1
set_option maxRecDepth 65536 in
theorem w_t1 : words1.all (fun c => isCode c || c.before args0 about1) = true := by decide +kernel
theorem w_tables : (allAtoms (Jvm.Cond.code x code maxLocals ret :: tables_1)).before args0 about1 = true := by
  rw [allAtoms_all]
  show words1.all (fun c => c.before args0 about1) = true
  refine all_split ?_ w_codes
  rw [w_t1]
set_option maxRecDepth 65536 in
theorem w_case : (Jvm.Cond.and given_1 narrow_1).before args0 about1 = true := by decide +kernel
theorem w_applies : (headSpec (Jvm.Cond.code x code maxLocals ret :: tables_1) room_1).applies x e0.platform about1 = true :=
  (Spec.applies_iff w_frames).mpr ⟨w_running, w_runnable, w_alone, w_named, w_hears, w_ripe, w_room, w_tables⟩
theorem atStart : AtStart classFile x code maxLocals ret World_1 tables_1 room_1 Calls_1 rest_1 Pre_1 launch0 p0 e0 about1 theMethod args0 below0 :=
  ⟨lists_1, trivial, launch0.admits_env _ _ _, launch0.least_env, fairChoices_fair.cas, fairChoices_fair.clock, w_frames, w_args, w_heap, w_applies, trivial, trivial, w_case⟩
end start1
theorem witness_1 : WitnessClaimed_1 := ⟨start1.p0, start1.e0, start1.about1, start1.theMethod, start1.args0, start1.below0, start1.atStart⟩
end Jvm.Pilot.@@N@@
