import JvmDerived
import JvmDerived.Pilot.@@N@@Statement
import JvmDerived.Pilot.@@N@@Code
set_option linter.unusedVariables false
set_option linter.unusedSimpArgs false
@@BLOCK:NumsL.lean.txt@@
namespace Jvm.RoadKit
open Sem ClassFile Op Lib Jvm.Stand Jvm.Free Jvm.LawKit
section New
variable {p : Program} {l : Launch} {e : Env} {R : Room} {s : State} {m : MethodId} {args : Array Value} {below : List Frame} {meth : Method} {c : Code} {T T' : State} {locs : List Loc} {cells slots : Nat}
theorem retI (X : Stand p l e R s m args below meth c T locs cells slots) (hx : p.tables.exec = Jvm.exec) {pc : Nat} {Ls : Array Slot} {z : Int32} {rest : List Value} (hret : meth.sig.returnType = some .int) (hd : decode c.code pc = .ok (.ireturn, 1)) {fs : List Frame}
    (hl : ∀ (f : JFrame) (acts : List Action), f.method = m → f.locked = none → f.entered = [] → (doReturn e (T.setTop f) acts (some (.int z))).1 = T.setFrames fs) : Steps p.tables e below (T.setTop (mkF m pc Ls (.int z :: rest))) (T.setFrames fs) :=
  retOut X hx hret rfl (Or.inl ⟨rfl, Or.inl rfl, _, rfl⟩) hd hl
theorem retL (X : Stand p l e R s m args below meth c T locs cells slots) (hx : p.tables.exec = Jvm.exec) {pc : Nat} {Ls : Array Slot} {z : Int64} {rest : List Value} (hret : meth.sig.returnType = some .long) (hd : decode c.code pc = .ok (.lreturn, 1)) {fs : List Frame}
    (hl : ∀ (f : JFrame) (acts : List Action), f.method = m → f.locked = none → f.entered = [] → (doReturn e (T.setTop f) acts (some (.long z))).1 = T.setFrames fs) : Steps p.tables e below (T.setTop (mkF m pc Ls (.long z :: rest))) (T.setFrames fs) :=
  retOut X hx hret rfl (Or.inr (Or.inl ⟨rfl, rfl, _, rfl⟩)) hd hl
theorem retA (X : Stand p l e R s m args below meth c T locs cells slots) (hx : p.tables.exec = Jvm.exec) {pc : Nat} {Ls : Array Slot} {w : Value} {t : FieldType} {rest : List Value} (hret : meth.sig.returnType = some t) (ht : t.isReference = true) (hw : w.isRef = true) (hd : decode c.code pc = .ok (.areturn, 1)) {fs : List Frame}
    (hl : ∀ (f : JFrame) (acts : List Action), f.method = m → f.locked = none → f.entered = [] → (doReturn e (T.setTop f) acts (some w)).1 = T.setFrames fs) : Steps p.tables e below (T.setTop (mkF m pc Ls (w :: rest))) (T.setFrames fs) :=
  retOut X hx hret (by rcases ref_cases hw with rfl | ⟨a, rfl⟩ <;> cases t <;> first | rfl | cases ht) (Or.inr (Or.inr (Or.inr (Or.inr ⟨rfl, ht, hw⟩)))) hd hl
theorem mvMN {Z : State} {a0 args : Array Value} {own host : String} {y : MethodName} {index : Nat} (hZ : Z.Warmed39 s.vm) (w : (Cond.methodLinkNest own index y host).before a0 Z = true) : (Cond.methodLinkNest own index y host).before args s = true := (Cond.methodLinkNest_wide hZ w :)
/-! the walk by continuations -/
variable {W : State → Prop} {g g' : JFrame}
def Goes (p : Program) (e : Env) (below : List Frame) (W : State → Prop) (T : State) (g : JFrame) : Prop := ∃ t, Steps p.tables e below (T.setTop g) t ∧ W t
def EndW (s : State) (below : List Frame) (Q : Option Value → Heap → List Loc → Prop) (k n : Nat) (t : State) : Prop := t.status = .running ∧ ∃ o, Ended t below o ∧ ∃ v L, o = .returned v ∧ Q v t.heap L ∧ FrameEnd s o t L k n
theorem Goes.on (k : Goes p e below W T' g') (h : ∀ t, Steps p.tables e below (T'.setTop g') t → Steps p.tables e below (T.setTop g) t) : Goes p e below W T g := by
  obtain ⟨t, h1, h2⟩ := k; exact ⟨t, h t h1, h2⟩
theorem Goes.done {Q : Option Value → Heap → List Loc → Prop} {k n : Nat} (h : Goes p e below (EndW s below Q k n) T g) :
    ∃ s₂ o, Steps p.tables e below (T.setTop g) s₂ ∧ s₂.status = .running ∧ Ended s₂ below o ∧ ∃ v L, o = .returned v ∧ Q v s₂.heap L ∧ FrameEnd s o s₂ L k n := by
  obtain ⟨t, h1, h2, o, h3, h4⟩ := h; exact ⟨t, o, h1, h2, h3, h4⟩
theorem Goes.retn {Q : Option Value → Heap → List Loc → Prop} {k n : Nat} (X : Stand p l e R s m args below meth c T locs cells slots) {v : Option Value}
    (st : ∀ fs, (∀ (f : JFrame) (acts : List Action), f.method = m → f.locked = none → f.entered = [] → (doReturn e (T.setTop f) acts v).1 = T.setFrames fs) → Steps p.tables e below (T.setTop g) (T.setFrames fs))
    (hv : meth.sig.returnType = none → v = none) (hlocks : meth.locks = false) (hk : cells ≤ k) (hn : slots ≤ n) (hQ : Q v T.heap locs) : Goes p e below (EndW s below Q k n) T g := by
  obtain ⟨fs, hr, hrun, hended, hW, hsame⟩ := X.leave hv hlocks
  exact ⟨_, st fs hr, hrun, _, hended, _, _, rfl, hQ, ⟨_, rfl⟩, hW, hsame.mono hk hn⟩
theorem cmp_eq (x y : Int32) : if_icmp.holds .eq x y = decide (x = y) := by by_cases h : x = y <;> simp [h, (teq · |>.1), (feq · |>.1)]
theorem cmp_ne (x y : Int32) : if_icmp.holds .ne x y = !decide (x = y) := by by_cases h : x = y <;> simp [h, (teq · |>.2), (feq · |>.2)]
theorem cmp_lt (x y : Int32) : if_icmp.holds .lt x y = decide (x < y) := by simp [if_icmp.holds]
theorem cmp_ge (x y : Int32) : if_icmp.holds .ge x y = !decide (x < y) := by by_cases h : x < y <;> simp [h, (tlt · |>.2.1), (flt · |>.2.1)]
theorem cmp_gt (x y : Int32) : if_icmp.holds .gt x y = decide (y < x) := by by_cases h : y < x <;> simp [h, (tlt · |>.2.2.1), (flt · |>.2.2.1)]
theorem cmp_le (x y : Int32) : if_icmp.holds .le x y = !decide (y < x) := by by_cases h : y < x <;> simp [h, (tlt · |>.2.2.2), (flt · |>.2.2.2)]
theorem ifc_eq (x y : Int32) (h : y = 0 := by rfl) : ifCond.holds .eq x = decide (x = y) := by subst h; rw [if0, cmp_eq]
theorem ifc_ne (x y : Int32) (h : y = 0 := by rfl) : ifCond.holds .ne x = !decide (x = y) := by subst h; rw [if0, cmp_ne]
theorem ifc_lt (x y : Int32) (h : y = 0 := by rfl) : ifCond.holds .lt x = decide (x < y) := by subst h; rw [if0, cmp_lt]
theorem ifc_ge (x y : Int32) (h : y = 0 := by rfl) : ifCond.holds .ge x = !decide (x < y) := by subst h; rw [if0, cmp_ge]
theorem ifc_gt (x y : Int32) (h : y = 0 := by rfl) : ifCond.holds .gt x = decide (y < x) := by subst h; rw [if0, cmp_gt]
theorem ifc_le (x y : Int32) (h : y = 0 := by rfl) : ifCond.holds .le x = !decide (y < x) := by subst h; rw [if0, cmp_le]
theorem Goes.icmpP (X : Stand p l e R s m args below meth c T locs cells slots) (hx : p.tables.exec = Jvm.exec) (hg : g.method = m) {cd : ClassFile.Cond} {o : Int} {x y : Int32} {rest : List Value} {pc0 pc' : Nat} (hpc : g.pc = pc0) (hd : decode c.code g.pc = .ok (.if_icmp cd o, 3)) (hs : g.stack = .int y :: .int x :: rest) (ho : 0 ≤ (pc0 : Int) + o) (hp : ((pc0 : Int) + o).toNat = pc') {P : Prop} [Decidable P] (hP : if_icmp.holds cd x y = decide P)
    (yes : P → Goes p e below W T { g with pc := pc', stack := rest }) (no : ¬ P → Goes p e below W T { g with pc := g.pc + 3, stack := rest }) : Goes p e below W T g := by
  by_cases h : P
  · exact (yes h).on fun t k => XS.icmpYes X.here hx hg hpc hd hs (by rw [hP]; exact decide_eq_true h) ho hp k
  · exact (no h).on fun t k => XS.icmpNo X.here hx hg hd hs (by rw [hP]; exact decide_eq_false h) k
theorem Goes.icmpN (X : Stand p l e R s m args below meth c T locs cells slots) (hx : p.tables.exec = Jvm.exec) (hg : g.method = m) {cd : ClassFile.Cond} {o : Int} {x y : Int32} {rest : List Value} {pc0 pc' : Nat} (hpc : g.pc = pc0) (hd : decode c.code g.pc = .ok (.if_icmp cd o, 3)) (hs : g.stack = .int y :: .int x :: rest) (ho : 0 ≤ (pc0 : Int) + o) (hp : ((pc0 : Int) + o).toNat = pc') {P : Prop} [Decidable P] (hP : if_icmp.holds cd x y = !decide P)
    (yes : ¬ P → Goes p e below W T { g with pc := pc', stack := rest }) (no : P → Goes p e below W T { g with pc := g.pc + 3, stack := rest }) : Goes p e below W T g := by
  by_cases h : P
  · exact (no h).on fun t k => XS.icmpNo X.here hx hg hd hs (by rw [hP, decide_eq_true h]; rfl) k
  · exact (yes h).on fun t k => XS.icmpYes X.here hx hg hpc hd hs (by rw [hP, decide_eq_false h]; rfl) ho hp k
theorem Goes.ifP (X : Stand p l e R s m args below meth c T locs cells slots) (hx : p.tables.exec = Jvm.exec) (hg : g.method = m) {cd : ClassFile.Cond} {o : Int} {x : Int32} {rest : List Value} {pc0 pc' : Nat} (hpc : g.pc = pc0) (hd : decode c.code g.pc = .ok (.ifCond cd o, 3)) (hs : g.stack = .int x :: rest) (ho : 0 ≤ (pc0 : Int) + o) (hp : ((pc0 : Int) + o).toNat = pc') {P : Prop} [Decidable P] (hP : ifCond.holds cd x = decide P)
    (yes : P → Goes p e below W T { g with pc := pc', stack := rest }) (no : ¬ P → Goes p e below W T { g with pc := g.pc + 3, stack := rest }) : Goes p e below W T g := by
  by_cases h : P
  · exact (yes h).on fun t k => XS.ifYes X.here hx hg hpc hd hs (by rw [hP]; exact decide_eq_true h) ho hp k
  · exact (no h).on fun t k => XS.ifNo X.here hx hg hd hs (by rw [hP]; exact decide_eq_false h) k
theorem Goes.ifN (X : Stand p l e R s m args below meth c T locs cells slots) (hx : p.tables.exec = Jvm.exec) (hg : g.method = m) {cd : ClassFile.Cond} {o : Int} {x : Int32} {rest : List Value} {pc0 pc' : Nat} (hpc : g.pc = pc0) (hd : decode c.code g.pc = .ok (.ifCond cd o, 3)) (hs : g.stack = .int x :: rest) (ho : 0 ≤ (pc0 : Int) + o) (hp : ((pc0 : Int) + o).toNat = pc') {P : Prop} [Decidable P] (hP : ifCond.holds cd x = !decide P)
    (yes : ¬ P → Goes p e below W T { g with pc := pc', stack := rest }) (no : P → Goes p e below W T { g with pc := g.pc + 3, stack := rest }) : Goes p e below W T g := by
  by_cases h : P
  · exact (no h).on fun t k => XS.ifNo X.here hx hg hd hs (by rw [hP, decide_eq_true h]; rfl) k
  · exact (yes h).on fun t k => XS.ifYes X.here hx hg hpc hd hs (by rw [hP, decide_eq_false h]; rfl) ho hp k
theorem Goes.acmpR (X : Stand p l e R s m args below meth c T locs cells slots) (hx : p.tables.exec = Jvm.exec) (hg : g.method = m) {cd : ACond} {o : Int} {a b : Addr} {rest : List Value} {pc0 pcE pcN : Nat} (hpc : g.pc = pc0) (hd : decode c.code g.pc = .ok (.if_acmp cd o, 3)) (hs : g.stack = .ref b :: .ref a :: rest) (ho : 0 ≤ (pc0 : Int) + o)
    (hE : pcE = if acV cd true = true then ((pc0 : Int) + o).toNat else pc0 + 3) (hN : pcN = if acV cd false = true then ((pc0 : Int) + o).toNat else pc0 + 3)
    (eq : a = b → Goes p e below W T { g with pc := pcE, stack := rest }) (ne : ¬ a = b → Goes p e below W T { g with pc := pcN, stack := rest }) : Goes p e below W T g := by
  by_cases h : a = b
  · exact (eq h).on fun t k => Jvm.RoadKit.acmp X hx hg rfl rfl hpc hd hs (decide_eq_true (congrArg Value.ref h)) ho hE k
  · exact (ne h).on fun t k => Jvm.RoadKit.acmp X hx hg rfl rfl hpc hd hs (decide_eq_false fun q => h (Value.ref.inj q)) ho hN k
/-! the same where String constants may be loaded cold -/
def EndWW (s : State) (below : List Frame) (Q : Option Value → Heap → List Loc → Prop) (k n : Nat) (t : State) : Prop := t.status = .running ∧ ∃ o, Ended t below o ∧ ∃ v L, o = .returned v ∧ Q v t.heap L ∧ ReturnedEndW s o t L k n
theorem Goes.doneW {Q : Option Value → Heap → List Loc → Prop} {k n : Nat} (h : Goes p e below (EndWW s below Q k n) T g) :
    ∃ s₂ o, Steps p.tables e below (T.setTop g) s₂ ∧ s₂.status = .running ∧ Ended s₂ below o ∧ ∃ v L, o = .returned v ∧ Q v s₂.heap L ∧ ReturnedEndW s o s₂ L k n := by
  obtain ⟨t, h1, h2, o, h3, h4⟩ := h; exact ⟨t, o, h1, h2, h3, h4⟩
theorem Goes.retnW {Q : Option Value → Heap → List Loc → Prop} {k n n1 : Nat} {vm₁ : Vm} (X : Stand p l e R (s.setVm vm₁) m args below meth c T locs cells slots) (hS : s.Since vm₁ n1) (hle : n1 ≤ T.heap.size) {v : Option Value}
    (st : ∀ fs, (∀ (f : JFrame) (acts : List Action), f.method = m → f.locked = none → f.entered = [] → (doReturn e (T.setTop f) acts v).1 = T.setFrames fs) → Steps p.tables e below (T.setTop g) (T.setFrames fs))
    (hv : meth.sig.returnType = none → v = none) (hlocks : meth.locks = false) (hk : cells ≤ k) (hn : slots ≤ n) (hQ : Q v T.heap locs) : Goes p e below (EndWW s below Q k n) T g := by
  obtain ⟨fs, hr, hrun, hended, hW⟩ := X.leaveW hS hle hv hlocks
  exact ⟨_, st fs hr, hrun, _, hended, _, _, rfl, hQ, hW.1, hW.2.1, hW.2.2.1, hW.2.2.2.mono hk hn⟩
end New
end Jvm.RoadKit
/- laws to paste: Road.backV, Road.chN, Road.codOf (cut by pick.py; bodies as the Statement names them) -/
namespace Jvm.Pilot.@@N@@
namespace StrChars
open Jvm Sem ClassFile Op Lib Jvm.Stand Jvm.Free.XT Jvm.Free.ALB Jvm.Free.JM Jvm.Free
open Jvm.Lib.Cold (StaticIs)
/-- a char array whose places are chars -/
def Ch (a : Addr) (A : Cell) (U : State) : Prop := Arr .char a A U ∧ Typed .char A
theorem Ch.mv {a : Addr} {A : Cell} {U U' : State} (h : Ch a A U) (hal : U.vm.Alike U'.vm) (hh : U'.heap = U.heap) : Ch a A U' := ⟨h.1.mv hal hh, h.2⟩
theorem Ch.keep {a : Addr} {A : Cell} {U U' : State} (h : Ch a A U) (hal : U.vm.Alike U'.vm) (hk : U'.heap[a]? = some A) : Ch a A U' := ⟨h.1.keep hal hk, h.2⟩
/-- what place i of a char[]'s cell holds -/
def cv (A : Cell) (i : Nat) : Int32 := match A.slots[i]? with | some (.int x) => x | _ => 0
theorem Ch.get {a : Addr} {A : Cell} {U : State} (h : Ch a A U) {i : Nat} (hi : i < A.slots.size) : A.slots[i]? = some (.int (cv A i)) := by
  have e := Array.getElem?_eq_getElem hi
  have f := h.2 i _ e
  unfold cv; rw [e]
  generalize A.slots[i] = v at f
  cases v <;> simp [fits] at f ⊢
/-- the byte that i2b leaves of a char -/
def lo8 (x : Int32) : Int32 := x.toInt8.toInt32
theorem fits_lo8 (y : Int32) : fits .byte (.int (lo8 y)) = true := by
  have h1 := y.toInt8.le_toInt
  have h2 := y.toInt8.toInt_lt
  simp only [lo8, fits, Bool.and_eq_true, decide_eq_true_eq, Int32.le_iff_toInt_le, Int8.toInt_toInt32, show (-128 : Int32).toInt = -128 from by decide, show (127 : Int32).toInt = 127 from by decide]
  omega
/-- A' is A but that each place j of lo .. hi - 1 holds f j -/
def Laid (A A' : Cell) (lo hi : Nat) (f : Nat → Value) : Prop := A'.cls = A.cls ∧ A'.vm = A.vm ∧ A'.slots.size = A.slots.size ∧ ∀ i, A'.slots[i]? = if lo ≤ i ∧ i < hi then some (f i) else A.slots[i]?
theorem Laid.zero (A : Cell) (lo : Nat) (f : Nat → Value) : Laid A A lo (lo + 0) f := ⟨rfl, rfl, rfl, fun i => by rw [if_neg (by omega)]⟩
theorem Laid.step {A Ak : Cell} {lo k : Nat} {f : Nat → Value} {v : Value} (h : Laid A Ak lo k f) (hlo : lo ≤ k) (hk : k < Ak.slots.size) (hv : v = f k) : Laid A (Ak.setSlot k v) lo (k + 1) f := by
  refine ⟨h.1, h.2.1, by simpa [Cell.setSlot] using h.2.2.1, fun i => ?_⟩
  by_cases e : k = i
  · subst e; rw [Cell.slots_setSlot_self v hk, if_pos (by omega), hv]
  · rw [Cell.slots_setSlot_ne v e, h.2.2.2 i]
    by_cases q : lo ≤ i ∧ i < k
    · rw [if_pos q, if_pos (by omega)]
    · rw [if_neg q, if_neg (by omega)]
def U16 : String := "java/lang/StringUTF16"
namespace Cmp5
def yN : MethodName := ⟨"java/lang/StringUTF16", "compress", "([CI[BII)I"⟩
abbrev yB : ByteArray := jdk_52_method_21_code
theorem d0 : decode yB 0 = .ok (.iconst 0, 1) := by decide +kernel
theorem d1 : decode yB 1 = .ok (.istore 5, 2) := by decide +kernel
theorem d3 : decode yB 3 = .ok (.iload 5, 2) := by decide +kernel
theorem d5 : decode yB 5 = .ok (.iload 4, 2) := by decide +kernel
theorem d7 : decode yB 7 = .ok (.if_icmp (.ge) 37, 3) := by decide +kernel
theorem d10 : decode yB 10 = .ok (.aload_n 0, 1) := by decide +kernel
theorem d11 : decode yB 11 = .ok (.iload_n 1, 1) := by decide +kernel
theorem d12 : decode yB 12 = .ok (.caload, 1) := by decide +kernel
theorem d13 : decode yB 13 = .ok (.istore 6, 2) := by decide +kernel
theorem d15 : decode yB 15 = .ok (.iload 6, 2) := by decide +kernel
theorem d17 : decode yB 17 = .ok (.sipush 255, 3) := by decide +kernel
theorem d20 : decode yB 20 = .ok (.if_icmp (.le) 6, 3) := by decide +kernel
theorem d26 : decode yB 26 = .ok (.aload_n 2, 1) := by decide +kernel
theorem d27 : decode yB 27 = .ok (.iload_n 3, 1) := by decide +kernel
theorem d28 : decode yB 28 = .ok (.iload 6, 2) := by decide +kernel
theorem d30 : decode yB 30 = .ok (.i2b, 1) := by decide +kernel
theorem d31 : decode yB 31 = .ok (.bastore, 1) := by decide +kernel
theorem d32 : decode yB 32 = .ok (.iinc 1 1, 3) := by decide +kernel
theorem d35 : decode yB 35 = .ok (.iinc 3 1, 3) := by decide +kernel
theorem d38 : decode yB 38 = .ok (.iinc 5 1, 3) := by decide +kernel
theorem d41 : decode yB 41 = .ok (.goto (-38), 3) := by decide +kernel
theorem d44 : decode yB 44 = .ok (.iload 4, 2) := by decide +kernel
theorem d46 : decode yB 46 = .ok (.ireturn, 1) := by decide +kernel
def site : List Cond := []
def tab : Cond := tabOf yN yB 7 (some .int) site
def P (b : Addr) (A : Cell) (d : Addr) (B : Cell) (o q len : Nat) (args : Array Value) (s : State) : Prop := args = #[.ref b, .int (Int32.ofNat o), .ref d, .int (Int32.ofNat q), .int (Int32.ofNat len)] ∧ Ch b A s ∧ Arr .byte d B s ∧ b ≠ d ∧ o + len ≤ A.slots.size ∧ q + len ≤ B.slots.size ∧ ∀ i, i < len → ¬ 255 < cv A (o + i)
def E (b : Addr) (A : Cell) (d : Addr) (B : Cell) (o q len : Nat) (r : Option Value) (s u : State) : Prop := r = some (.int (Int32.ofNat len)) ∧ ∃ B', Put d B' s u ∧ Laid B B' q (q + len) (fun j => Value.int (lo8 (cv A (o + (j - q)))))
/-- no char of the range above 255: len; the places written hold each char's low byte -/
theorem law (l : Launch) (b : Addr) (A : Cell) (d : Addr) (B : Cell) (o q len : Nat) : Law l yN 5 5 0 0 yB 7 (some .int) site (P b A d B o q len) (E b A d B o q len) (copyLocs d q len) 0 0 := by
  refine Law.of_walk (plainFor_of_name (by decide +kernel)) (by decide +kernel) (by decide +kernel) (by decide) (fun _ _ h => by rw [h.1]; rfl) (fun _ U U' hal hh h => ⟨h.1, h.2.1.mv hal hh, h.2.2.1.mv hal hh, h.2.2.2⟩) (fun r U U' V V' h1 hal h2 h => ⟨h.1, h.2.elim fun B' q => ⟨B', q.1.mv h1 h2, q.2⟩⟩) ?_
  intro p e s m args below meth c s₁ X0 hexec hbytes hml hret hlk hnm hown hh0 W hP
  obtain ⟨rfl, hA, hB, hne, l1, l2, hp⟩ := hP
  have c1 : Steps p.tables e below (s₁.setTop (entryFrame m #[.ref b, .int (Int32.ofNat o), .ref d, .int (Int32.ofNat q), .int (Int32.ofNat len)] 7)) (s₁.setTop (mkF m 0 #[.val (.ref b), .val (.int (Int32.ofNat o)), .val (.ref d), .val (.int (Int32.ofNat q)), .val (.int (Int32.ofNat len)), .unset, .unset] [])) := entry rfl
  have hA0 := hA.1.mv X0.warmed.alike hh0
  have hB0 := hB.mv X0.warmed.alike hh0
  have a31 := hA.1.2.2.2
  have c2 : Steps p.tables e below (s₁.setTop (entryFrame m #[.ref b, .int (Int32.ofNat o), .ref d, .int (Int32.ofNat q), .int (Int32.ofNat len)] 7)) (s₁.setTop (mkF m 3 #[.val (.ref b), .val (.int (Int32.ofNat o)), .val (.ref d), .val (.int (Int32.ofNat q)), .val (.int (Int32.ofNat len)), .val (.int 0), .unset] [])) := c1.trans (by
    refine iconstV X0.here hexec rfl 0 (hb hbytes d0) (by decide) ?_
    refine XS.istore X0.here hexec rfl (hb hbytes d1) rfl rfl ?_
    exact Steps.refl _)
  have loop : ∀ (r i : Nat), i + r = len → ∀ (z : Slot), (z = .unset ∨ ∃ w, z = .val w ∧ w.category = 1) → ∀ (Tl : State) (Bk : Cell), Stand p l e { frames := 0, locals := 0, cells := 0, slots := 0 } s m #[.ref b, .int (Int32.ofNat o), .ref d, .int (Int32.ofNat q), .int (Int32.ofNat len)] below meth c Tl ([] ++ copyLocs d q i) 0 0 → Put d Bk s₁ Tl → Laid B Bk q (q + i) (fun j => Value.int (lo8 (cv A (o + (j - q))))) →
      Steps p.tables e below (s₁.setTop (entryFrame m #[.ref b, .int (Int32.ofNat o), .ref d, .int (Int32.ofNat q), .int (Int32.ofNat len)] 7)) (Tl.setTop (mkF m 3 #[.val (.ref b), .val (.int (Int32.ofNat (o + i))), .val (.ref d), .val (.int (Int32.ofNat (q + i))), .val (.int (Int32.ofNat len)), .val (.int (Int32.ofNat i)), z] [])) → ∃ (T' : State) (B' : Cell) (z' : Slot), Stand p l e { frames := 0, locals := 0, cells := 0, slots := 0 } s m #[.ref b, .int (Int32.ofNat o), .ref d, .int (Int32.ofNat q), .int (Int32.ofNat len)] below meth c T' ([] ++ copyLocs d q len) 0 0 ∧ Put d B' s₁ T' ∧ Laid B B' q (q + len) (fun j => Value.int (lo8 (cv A (o + (j - q))))) ∧
      Steps p.tables e below (s₁.setTop (entryFrame m #[.ref b, .int (Int32.ofNat o), .ref d, .int (Int32.ofNat q), .int (Int32.ofNat len)] 7)) (T'.setTop (mkF m 3 #[.val (.ref b), .val (.int (Int32.ofNat (o + len))), .val (.ref d), .val (.int (Int32.ofNat (q + len))), .val (.int (Int32.ofNat len)), .val (.int (Int32.ofNat len)), z'] [])) := by
    intro r
    induction r with
    | zero =>
      intro i hi z hz Tl Bk Xl pl fl cl
      have hil : i = len := by omega
      rw [hil] at Xl fl cl
      exact ⟨Tl, Bk, z, Xl, pl, fl, cl⟩
    | succ r ih =>
      intro i hi z hz Tl Bk Xl pl fl cl
      have all := X0.warmed.alike.symm.trans Xl.warmed.alike
      have hAl := hA0.keep all (pl.other hne hA0.1)
      have hBk := hB0.like all pl.1 fl.1 fl.2.1 fl.2.2.1
      have hlt : q + i < Bk.slots.size := by rw [fl.2.2.1]; omega
      have c3 : Steps p.tables e below (s₁.setTop (entryFrame m #[.ref b, .int (Int32.ofNat o), .ref d, .int (Int32.ofNat q), .int (Int32.ofNat len)] 7)) (Tl.setTop (mkF m 12 #[.val (.ref b), .val (.int (Int32.ofNat (o + i))), .val (.ref d), .val (.int (Int32.ofNat (q + i))), .val (.int (Int32.ofNat len)), .val (.int (Int32.ofNat i)), z] [.int (Int32.ofNat (o + i)), .ref b])) := cl.trans (by
        refine XS.iload Xl.here hexec rfl (hb hbytes d3) rfl ?_
        refine XS.iload Xl.here hexec rfl (hb hbytes d5) rfl ?_
        refine XS.icmpNo Xl.here hexec rfl (hb hbytes d7) rfl (ii_ge_f (lt32 (by omega) (by omega))) ?_
        refine XS.aloadN Xl.here hexec rfl (hb hbytes d10) rfl rfl ?_
        refine XS.iloadN Xl.here hexec rfl (hb hbytes d11) rfl ?_
        exact Steps.refl _)
      have c4 : Steps p.tables e below (s₁.setTop (entryFrame m #[.ref b, .int (Int32.ofNat o), .ref d, .int (Int32.ofNat q), .int (Int32.ofNat len)] 7)) (Tl.setTop (mkF m 13 #[.val (.ref b), .val (.int (Int32.ofNat (o + i))), .val (.ref d), .val (.int (Int32.ofNat (q + i))), .val (.int (Int32.ofNat len)), .val (.int (Int32.ofNat i)), z] [.int (cv A (o + i))])) := c3.trans (by
        refine Xl.aget hexec hAl rfl (hA.get (i := o + i) (by omega)) rfl rfl (hb hbytes d12) ?_
        exact Steps.refl _)
      have c5 : Steps p.tables e below (s₁.setTop (entryFrame m #[.ref b, .int (Int32.ofNat o), .ref d, .int (Int32.ofNat q), .int (Int32.ofNat len)] 7)) (Tl.setTop (mkF m 15 #[.val (.ref b), .val (.int (Int32.ofNat (o + i))), .val (.ref d), .val (.int (Int32.ofNat (q + i))), .val (.int (Int32.ofNat len)), .val (.int (Int32.ofNat i)), .val (.int (cv A (o + i)))] [])) := c4.trans (by
        refine XS.istoreS Xl.here hexec rfl (hb hbytes d13) rfl rfl hz ?_
        exact Steps.refl _)
      have c6 : Steps p.tables e below (s₁.setTop (entryFrame m #[.ref b, .int (Int32.ofNat o), .ref d, .int (Int32.ofNat q), .int (Int32.ofNat len)] 7)) (Tl.setTop (mkF m 31 #[.val (.ref b), .val (.int (Int32.ofNat (o + i))), .val (.ref d), .val (.int (Int32.ofNat (q + i))), .val (.int (Int32.ofNat len)), .val (.int (Int32.ofNat i)), .val (.int (cv A (o + i)))] [.int (lo8 (cv A (o + i))), .int (Int32.ofNat (q + i)), .ref d])) := c5.trans (by
        refine XS.iload Xl.here hexec rfl (hb hbytes d15) rfl ?_
        refine sipushV Xl.here hexec rfl 255 (hb hbytes d17) (by decide) ?_
        refine XS.icmpYes Xl.here hexec rfl (pc0 := 20) rfl (hb hbytes d20) rfl (ii_le_t (hp i (by omega))) (by decide) rfl ?_
        refine XS.aloadN Xl.here hexec rfl (hb hbytes d26) rfl rfl ?_
        refine XS.iloadN Xl.here hexec rfl (hb hbytes d27) rfl ?_
        refine XS.iload Xl.here hexec rfl (hb hbytes d28) rfl ?_
        refine i2b Xl.here hexec rfl (hb hbytes d30) rfl ?_
        exact Steps.refl _)
      obtain ⟨T7, X7, p7, st7⟩ := Xl.aput hexec hBk rfl hlt rfl (fits_lo8 (cv A (o + i))) (g := (mkF m 31 #[.val (.ref b), .val (.int (Int32.ofNat (o + i))), .val (.ref d), .val (.int (Int32.ofNat (q + i))), .val (.int (Int32.ofNat len)), .val (.int (Int32.ofNat i)), .val (.int (cv A (o + i)))] [.int (lo8 (cv A (o + i))), .int (Int32.ofNat (q + i)), .ref d])) rfl (rest := []) rfl (hb hbytes d31)
      have c8 : Steps p.tables e below (s₁.setTop (entryFrame m #[.ref b, .int (Int32.ofNat o), .ref d, .int (Int32.ofNat q), .int (Int32.ofNat len)] 7)) (T7.setTop (mkF m 32 #[.val (.ref b), .val (.int (Int32.ofNat (o + i))), .val (.ref d), .val (.int (Int32.ofNat (q + i))), .val (.int (Int32.ofNat len)), .val (.int (Int32.ofNat i)), .val (.int (cv A (o + i)))] [])) := c6.trans (st7 _ (Steps.refl _))
      have c9 : Steps p.tables e below (s₁.setTop (entryFrame m #[.ref b, .int (Int32.ofNat o), .ref d, .int (Int32.ofNat q), .int (Int32.ofNat len)] 7)) (T7.setTop (mkF m 3 #[.val (.ref b), .val (.int (Int32.ofNat (o + i) + 1)), .val (.ref d), .val (.int (Int32.ofNat (q + i) + 1)), .val (.int (Int32.ofNat len)), .val (.int (Int32.ofNat i + 1)), .val (.int (cv A (o + i)))] [])) := c8.trans (by
        refine iincV X7.here hexec rfl 1 (hb hbytes d32) (by decide) rfl rfl ?_
        refine iincV X7.here hexec rfl 1 (hb hbytes d35) (by decide) rfl rfl ?_
        refine iincV X7.here hexec rfl 1 (hb hbytes d38) (by decide) rfl rfl ?_
        refine XS.goto X7.here hexec rfl (pc0 := 41) rfl (hb hbytes d41) (by decide) rfl ?_
        exact Steps.refl _)
      have c10 : Steps p.tables e below (s₁.setTop (entryFrame m #[.ref b, .int (Int32.ofNat o), .ref d, .int (Int32.ofNat q), .int (Int32.ofNat len)] 7)) (T7.setTop (mkF m 3 #[.val (.ref b), .val (.int (Int32.ofNat (o + (i + 1)))), .val (.ref d), .val (.int (Int32.ofNat (q + (i + 1)))), .val (.int (Int32.ofNat len)), .val (.int (Int32.ofNat (i + 1))), .val (.int (cv A (o + i)))] [])) := by
        have := c9
        rw [succ32, succ32, succ32] at this
        exact this
      exact ih (i + 1) (by omega) _ (Or.inr ⟨_, rfl, rfl⟩) T7 _ (by rw [copyLocs_step, ← List.append_assoc]; exact X7) (pl.trans p7) (fl.step (by omega) hlt (by simp)) c10
  obtain ⟨T9, B9, z9, X9, p9, f9, g9⟩ := loop len 0 (by omega) .unset (Or.inl rfl) s₁ B (by simpa [copyLocs] using X0) ⟨hB0.1, fun _ _ => rfl, rfl⟩ (Laid.zero _ _ _) c2
  have c11 : Steps p.tables e below (s₁.setTop (entryFrame m #[.ref b, .int (Int32.ofNat o), .ref d, .int (Int32.ofNat q), .int (Int32.ofNat len)] 7)) (T9.setTop (mkF m 46 #[.val (.ref b), .val (.int (Int32.ofNat (o + len))), .val (.ref d), .val (.int (Int32.ofNat (q + len))), .val (.int (Int32.ofNat len)), .val (.int (Int32.ofNat len)), z9] [.int (Int32.ofNat len)])) := g9.trans (by
    refine XS.iload X9.here hexec rfl (hb hbytes d3) rfl ?_
    refine XS.iload X9.here hexec rfl (hb hbytes d5) rfl ?_
    refine XS.icmpYes X9.here hexec rfl (pc0 := 7) rfl (hb hbytes d7) rfl (ii_ge_t (nlt32 (by omega) (Nat.le_refl _))) (by decide) rfl ?_
    refine XS.iload X9.here hexec rfl (hb hbytes d44) rfl ?_
    exact Steps.refl _)
  exact ⟨T9, some (.int (Int32.ofNat len)), _, _, _, X9, by simp, rfl, rfl, (fun h => by cases h), ⟨rfl, B9, p9.from hh0, f9⟩, fun fs hl => c11.trans (X9.ireturnOut hexec hret rfl (Or.inl rfl) (hb hbytes d46) hl)⟩
end Cmp5
namespace Cmp3
def yN : MethodName := ⟨"java/lang/StringUTF16", "compress", "([CII)[B"⟩
abbrev yB : ByteArray := jdk_52_method_16_code
theorem d0 : decode yB 0 = .ok (.iload_n 2, 1) := by decide +kernel
theorem d1 : decode yB 1 = .ok (.newarray .byte, 2) := by decide +kernel
theorem d3 : decode yB 3 = .ok (.astore_n 3, 1) := by decide +kernel
theorem d4 : decode yB 4 = .ok (.aload_n 0, 1) := by decide +kernel
theorem d5 : decode yB 5 = .ok (.iload_n 1, 1) := by decide +kernel
theorem d6 : decode yB 6 = .ok (.aload_n 3, 1) := by decide +kernel
theorem d7 : decode yB 7 = .ok (.iconst 0, 1) := by decide +kernel
theorem d8 : decode yB 8 = .ok (.iload_n 2, 1) := by decide +kernel
theorem d9 : decode yB 9 = .ok (.invokestatic 115, 3) := by decide +kernel
theorem d12 : decode yB 12 = .ok (.istore 4, 2) := by decide +kernel
theorem d14 : decode yB 14 = .ok (.iload 4, 2) := by decide +kernel
theorem d16 : decode yB 16 = .ok (.iload_n 2, 1) := by decide +kernel
theorem d17 : decode yB 17 = .ok (.if_icmp (.eq) 40, 3) := by decide +kernel
theorem d57 : decode yB 57 = .ok (.aload_n 3, 1) := by decide +kernel
theorem d58 : decode yB 58 = .ok (.areturn, 1) := by decide +kernel
def site : List Cond := [.arrayClass .byte, Cmp5.tab] ++ staticW U16 115 Cmp5.yN
def tab : Cond := tabOf yN yB 6 (some (.array .byte)) site
def P (b : Addr) (A : Cell) (o len : Nat) (args : Array Value) (s : State) : Prop := args = #[.ref b, .int (Int32.ofNat o), .int (Int32.ofNat len)] ∧ Ch b A s ∧ o + len ≤ A.slots.size ∧ len ≤ 536870912 ∧ ∀ i, i < len → ¬ 255 < cv A (o + i)
def E (b : Addr) (A : Cell) (o len : Nat) (r : Option Value) (s u : State) : Prop := NewArr .byte "[B" len (fun j => .int (lo8 (cv A (o + j)))) r s u ∧ u.heap.size = s.heap.size + 1
/-- no char of the range above 255: a new byte[] of their low bytes -/
theorem law (l : Launch) (b : Addr) (A : Cell) (o len : Nat) : Law l yN 3 3 1 18 yB 6 (some (.array .byte)) site (P b A o len) (E b A o len) [] 1 len := by
  refine Law.of_walk (plainFor_of_name (by decide +kernel)) (by decide +kernel) (by decide +kernel) (by decide) (fun _ _ h => by rw [h.1]; rfl) (fun _ U U' hal hh h => ⟨h.1, h.2.1.mv hal hh, h.2.2⟩) (fun r U U' V V' h1 hal h2 h => ⟨NewArr.mv r U U' V V' h1 hal h2 h.1, by rw [h1, h2]; exact h.2⟩) ?_
  intro p e s m args below meth c s₁ X0 hexec hbytes hml hret hlk hnm hown hh0 W hP
  obtain ⟨rfl, hA, l1, l2, hp⟩ := hP
  have a31 := hA.1.2.2.2
  have c1 : Steps p.tables e below (s₁.setTop (entryFrame m #[.ref b, .int (Int32.ofNat o), .int (Int32.ofNat len)] 6)) (s₁.setTop (mkF m 0 #[.val (.ref b), .val (.int (Int32.ofNat o)), .val (.int (Int32.ofNat len)), .unset, .unset, .unset] [])) := entry rfl
  have c2 : Steps p.tables e below (s₁.setTop (entryFrame m #[.ref b, .int (Int32.ofNat o), .int (Int32.ofNat len)] 6)) (s₁.setTop (mkF m 1 #[.val (.ref b), .val (.int (Int32.ofNat o)), .val (.int (Int32.ofNat len)), .unset, .unset, .unset] [.int (Int32.ofNat len)])) := c1.trans (by
    refine XS.iloadN X0.here hexec rfl (hb hbytes d0) rfl ?_
    exact Steps.refl _)
  obtain ⟨T3, B3, X3, ba3, bs3, bv3, bh3, bf3, st3⟩ := X0.anew hexec (atype := .byte) (wk W (.arrayClass .byte)) rfl (by show len * 1 ≤ _; omega) (by omega) (g := (mkF m 1 #[.val (.ref b), .val (.int (Int32.ofNat o)), .val (.int (Int32.ofNat len)), .unset, .unset, .unset] [.int (Int32.ofNat len)])) rfl (hb hbytes d1) (rest := []) rfl (Nat.le_refl _) (by show 0 + len ≤ len; omega)
  rw [hh0] at ba3 st3
  have kp3 : XT.Kept s T3 := (XT.Kept.of_eq hh0).push bh3
  have hA3 := hA.keep X3.warmed.alike (kp3 _ _ hA.1.1)
  have hne : b ≠ s.heap.size := hA.1.ne
  have c4 : Steps p.tables e below (s₁.setTop (entryFrame m #[.ref b, .int (Int32.ofNat o), .int (Int32.ofNat len)] 6)) (T3.setTop (mkF m 3 #[.val (.ref b), .val (.int (Int32.ofNat o)), .val (.int (Int32.ofNat len)), .unset, .unset, .unset] [.ref s.heap.size])) := c2.trans (st3 _ (Steps.refl _))
  have c5 : Steps p.tables e below (s₁.setTop (entryFrame m #[.ref b, .int (Int32.ofNat o), .int (Int32.ofNat len)] 6)) (T3.setTop (mkF m 9 #[.val (.ref b), .val (.int (Int32.ofNat o)), .val (.int (Int32.ofNat len)), .val (.ref s.heap.size), .unset, .unset] [.int (Int32.ofNat len), .int 0, .ref s.heap.size, .int (Int32.ofNat o), .ref b])) := c4.trans (by
    refine XS.astoreN X3.here hexec rfl (hb hbytes d3) rfl rfl rfl ?_
    refine XS.aloadN X3.here hexec rfl (hb hbytes d4) rfl rfl ?_
    refine XS.iloadN X3.here hexec rfl (hb hbytes d5) rfl ?_
    refine XS.aloadN X3.here hexec rfl (hb hbytes d6) rfl rfl ?_
    refine iconstV X3.here hexec rfl 0 (hb hbytes d7) (by decide) ?_
    refine XS.iloadN X3.here hexec rfl (hb hbytes d8) rfl ?_
    exact Steps.refl _)
  obtain ⟨v6, T6, X6, E6, g6⟩ := X3.callS hexec (Cmp5.law l b A s.heap.size B3 o 0 len) hown (wks W (staticW U16 115 Cmp5.yN)) (wk W Cmp5.tab) (W := 0) (Nat.le_of_ble_eq_true rfl) (Nat.le_of_ble_eq_true rfl) (Nat.le_refl _) (by show 0 + len + 0 ≤ len; omega) (g := (mkF m 9 #[.val (.ref b), .val (.int (Int32.ofNat o)), .val (.int (Int32.ofNat len)), .val (.ref s.heap.size), .unset, .unset] [.int (Int32.ofNat len), .int (Int32.ofNat 0), .ref s.heap.size, .int (Int32.ofNat o), .ref b])) rfl (by rw [hml]; rfl) c5 (argsL := [.ref b, .int (Int32.ofNat o), .ref s.heap.size, .int (Int32.ofNat 0), .int (Int32.ofNat len)]) (rest := []) rfl rfl (by show 2 * 0 + 0 ≤ _; decide) (hb hbytes d9) (⟨rfl, hA3, ba3, hne, l1, by rw [bs3]; simp, hp⟩)
  obtain ⟨rfl, B6, p6, f6⟩ := E6
  have c7 : Steps p.tables e below (s₁.setTop (entryFrame m #[.ref b, .int (Int32.ofNat o), .int (Int32.ofNat len)] 6)) (T6.setTop (mkF m 12 #[.val (.ref b), .val (.int (Int32.ofNat o)), .val (.int (Int32.ofNat len)), .val (.ref s.heap.size), .unset, .unset] [.int (Int32.ofNat len)])) := g6
  have c8 : Steps p.tables e below (s₁.setTop (entryFrame m #[.ref b, .int (Int32.ofNat o), .int (Int32.ofNat len)] 6)) (T6.setTop (mkF m 58 #[.val (.ref b), .val (.int (Int32.ofNat o)), .val (.int (Int32.ofNat len)), .val (.ref s.heap.size), .val (.int (Int32.ofNat len)), .unset] [.ref s.heap.size])) := c7.trans (by
    refine XS.istore X6.here hexec rfl (hb hbytes d12) rfl rfl ?_
    refine XS.iload X6.here hexec rfl (hb hbytes d14) rfl ?_
    refine XS.iloadN X6.here hexec rfl (hb hbytes d16) rfl ?_
    refine XS.icmpYes X6.here hexec rfl (pc0 := 17) rfl (hb hbytes d17) rfl (ii_eq_t rfl) (by decide) rfl ?_
    refine XS.aloadN X6.here hexec rfl (hb hbytes d57) rfl rfl ?_
    exact Steps.refl _)
  have X8 := X6.wide (L' := []) (cells' := 1) (slots' := len) (fun x hx hlt => by
    simp only [List.nil_append, copyLocs, List.mem_map, List.mem_range] at hx
    obtain ⟨i, -, rfl⟩ := hx
    exact absurd hlt (Nat.lt_irrefl _)) (Nat.le_refl _) (by omega)
  exact ⟨T6, some (.ref s.heap.size), _, _, _, X8, rfl, rfl, rfl, (fun h => by cases h), ⟨⟨rfl, B6, ba3.like (X3.warmed.alike.symm.trans X6.warmed.alike) p6.1 f6.1 f6.2.1 f6.2.2.1, f6.2.1.trans bv3, by rw [X6.warmed.alike.findClass, f6.1]; exact bf3, by rw [f6.2.2.1, bs3]; simp, fun j hj => by rw [f6.2.2.2 j, if_pos (by omega)]; rfl, kp3.put p6 (Nat.le_refl _)⟩, by rw [p6.2.2, bh3, hh0]; simp⟩, fun fs hl => c8.trans (X8.areturnOut hexec rfl hret rfl (hb hbytes d58) hl)⟩
end Cmp3
namespace CodL
def yN : MethodName := ⟨"java/lang/StringUTF16", "coderFromArrayLen", "([BI)B"⟩
abbrev yB : ByteArray := jdk_52_method_15_code
theorem d0 : decode yB 0 = .ok (.iload_n 1, 1) := by decide +kernel
theorem d1 : decode yB 1 = .ok (.aload_n 0, 1) := by decide +kernel
theorem d2 : decode yB 2 = .ok (.arraylength, 1) := by decide +kernel
theorem d3 : decode yB 3 = .ok (.isub, 1) := by decide +kernel
theorem d4 : decode yB 4 = .ok (.bipush 31, 2) := by decide +kernel
theorem d6 : decode yB 6 = .ok (.iushr, 1) := by decide +kernel
theorem d7 : decode yB 7 = .ok (.i2b, 1) := by decide +kernel
theorem d8 : decode yB 8 = .ok (.ireturn, 1) := by decide +kernel
def site : List Cond := []
def tab : Cond := tabOf yN yB 2 (some .byte) site
def P (d : Addr) (B : Cell) (args : Array Value) (s : State) : Prop := args = #[.ref d, .int (Int32.ofNat B.slots.size)] ∧ Arr .byte d B s
def E (r : Option Value) (s u : State) : Prop := XT.PureE (some (.int 0)) r s u
/-- an array as long as the number of chars: LATIN1 -/
theorem law (l : Launch) (d : Addr) (B : Cell) : Law l yN 2 2 0 0 yB 2 (some .byte) site (P d B) E [] 0 0 := by
  refine Law.of_walk (plainFor_of_name (by decide +kernel)) (by decide +kernel) (by decide +kernel) (by decide) (fun _ _ h => by rw [h.1]; rfl) (fun _ U U' hal hh h => ⟨h.1, h.2.mv hal hh⟩) (fun r U U' V V' h1 hal h2 h => XT.PureE.mv r U U' V V' h1 hal h2 h) ?_
  intro p e s m args below meth c s₁ X0 hexec hbytes hml hret hlk hnm hown hh0 W hP
  obtain ⟨rfl, hB⟩ := hP
  have hB0 := hB.mv X0.warmed.alike hh0
  have c1 : Steps p.tables e below (s₁.setTop (entryFrame m #[.ref d, .int (Int32.ofNat B.slots.size)] 2)) (s₁.setTop (mkF m 0 #[.val (.ref d), .val (.int (Int32.ofNat B.slots.size))] [])) := entry rfl
  have c2 : Steps p.tables e below (s₁.setTop (entryFrame m #[.ref d, .int (Int32.ofNat B.slots.size)] 2)) (s₁.setTop (mkF m 2 #[.val (.ref d), .val (.int (Int32.ofNat B.slots.size))] [.ref d, .int (Int32.ofNat B.slots.size)])) := c1.trans (by
    refine XS.iloadN X0.here hexec rfl (hb hbytes d0) rfl ?_
    refine XS.aloadN X0.here hexec rfl (hb hbytes d1) rfl rfl ?_
    exact Steps.refl _)
  have c3 : Steps p.tables e below (s₁.setTop (entryFrame m #[.ref d, .int (Int32.ofNat B.slots.size)] 2)) (s₁.setTop (mkF m 8 #[.val (.ref d), .val (.int (Int32.ofNat B.slots.size))] [.int (lo8 (ushr (Int32.ofNat B.slots.size - Int32.ofNat B.slots.size) 31))])) := c2.trans (by
    refine X0.alen hexec hB0 rfl rfl (hb hbytes d2) ?_
    refine XS.isub X0.here hexec rfl (hb hbytes d3) rfl ?_
    refine bipushV X0.here hexec rfl 31 (hb hbytes d4) (by decide) ?_
    refine iushr X0.here hexec rfl (hb hbytes d6) rfl ?_
    refine i2b X0.here hexec rfl (hb hbytes d7) rfl ?_
    exact Steps.refl _)
  have e0 : lo8 (ushr (Int32.ofNat B.slots.size - Int32.ofNat B.slots.size) 31) = 0 := by rw [Int32.sub_self]; decide
  rw [e0] at c3
  exact ⟨s₁, some (.int 0), _, _, _, X0, rfl, rfl, rfl, (fun h => by cases h), ⟨rfl, hh0⟩, fun fs hl => c3.trans (X0.ireturnOut hexec hret rfl (Or.inr (Or.inr (Or.inl rfl))) (hb hbytes d8) hl)⟩
end CodL
/-- the String at a is Latin-1 over a new byte[] (the heap's one new cell): the low bytes of the len chars of A from o on; every cell but a is kept -/
def Got (a : Addr) (D : Cell) (fV fC : Field) (A : Cell) (o len : Nat) (r : Option Value) (s u : State) : Prop := r = none ∧ ∃ D' V : Cell, Blank "java/lang/String" a D' u ∧ Same D D' [fV.slot, fC.slot] ∧ D'.slots[fV.slot]? = some (.ref s.heap.size) ∧ D'.slots[fC.slot]? = some (.int 0) ∧ Arr .byte s.heap.size V u ∧ V.vm = .none ∧ u.vm.findClass "[B" = some V.cls ∧ V.slots.size = len ∧ (∀ j, j < len → V.slots[j]? = some (.int (lo8 (cv A (o + j))))) ∧ (∀ (y : Addr) (c : Cell), y ≠ a → s.heap[y]? = some c → u.heap[y]? = some c) ∧ u.heap.size = s.heap.size + 1
theorem Got.mv {a : Addr} {D A : Cell} {fV fC : Field} {o len : Nat} : ∀ r (U U' V V' : State), U'.heap = U.heap → V.vm.Alike V'.vm → V'.heap = V.heap → Got a D fV fC A o len r U V → Got a D fV fC A o len r U' V' :=
  fun r U U' V V' h1 hal h2 ⟨e0, D', X, a1, a2, a3, a4, a5, a6, a7, a8, a9, a10, a11⟩ => ⟨e0, D', X, a1.mv hal h2, a2, by rw [h1]; exact a3, a4, by rw [h1]; exact a5.mv hal h2, a6, by rw [hal.findClass]; exact a7, a8, a9, by rw [h1, h2]; exact a10, by rw [h1, h2]; exact a11⟩
namespace New4
def yN : MethodName := ⟨"java/lang/String", "<init>", "([CIILjava/lang/Void;)V"⟩
abbrev yB : ByteArray := jdk_42_method_149_code
theorem d0 : decode yB 0 = .ok (.aload_n 0, 1) := by decide +kernel
theorem d1 : decode yB 1 = .ok (.invokespecial 1, 3) := by decide +kernel
theorem d4 : decode yB 4 = .ok (.iload_n 3, 1) := by decide +kernel
theorem d5 : decode yB 5 = .ok (.ifCond (.ne) 22, 3) := by decide +kernel
theorem d27 : decode yB 27 = .ok (.getstatic 38, 3) := by decide +kernel
theorem d30 : decode yB 30 = .ok (.ifCond (.eq) 28, 3) := by decide +kernel
theorem d33 : decode yB 33 = .ok (.aload_n 1, 1) := by decide +kernel
theorem d34 : decode yB 34 = .ok (.iload_n 2, 1) := by decide +kernel
theorem d35 : decode yB 35 = .ok (.iload_n 3, 1) := by decide +kernel
theorem d36 : decode yB 36 = .ok (.invokestatic 177, 3) := by decide +kernel
theorem d39 : decode yB 39 = .ok (.astore 5, 2) := by decide +kernel
theorem d41 : decode yB 41 = .ok (.aload_n 0, 1) := by decide +kernel
theorem d42 : decode yB 42 = .ok (.aload 5, 2) := by decide +kernel
theorem d44 : decode yB 44 = .ok (.iload_n 3, 1) := by decide +kernel
theorem d45 : decode yB 45 = .ok (.invokestatic 47, 3) := by decide +kernel
theorem d48 : decode yB 48 = .ok (.putfield 15, 3) := by decide +kernel
theorem d51 : decode yB 51 = .ok (.aload_n 0, 1) := by decide +kernel
theorem d52 : decode yB 52 = .ok (.aload 5, 2) := by decide +kernel
theorem d54 : decode yB 54 = .ok (.putfield 9, 3) := by decide +kernel
theorem d57 : decode yB 57 = .ok (.return_, 1) := by decide +kernel
def site : List Cond := [.fieldLink "java/lang/String" 38 "java/lang/String" "COMPACT_STRINGS" "Z", Cmp3.tab, CodL.tab, .laysFinal "java/lang/String" "java/lang/String" "value" "[B", .fieldLink "java/lang/String" 9 "java/lang/String" "value" "[B", .laysFinal "java/lang/String" "java/lang/String" "coder" "B", .fieldLink "java/lang/String" 15 "java/lang/String" "coder" "B"] ++ objW "java/lang/String" 1 ++ staticW "java/lang/String" 177 Cmp3.yN ++ staticW "java/lang/String" 47 CodL.yN
def tab : Cond := tabOf yN yB 6 none site
def P (a : Addr) (D : Cell) (fV fC : Field) (b : Addr) (A : Cell) (z : Int32) (o len : Nat) (args : Array Value) (s : State) : Prop := args = #[.ref a, .ref b, .int (Int32.ofNat o), .int (Int32.ofNat len), .null] ∧ Blank "java/lang/String" a D s ∧ Found "java/lang/String" "value" "[B" fV s ∧ Found "java/lang/String" "coder" "B" fC s ∧ Ch b A s ∧ StaticIs s "java/lang/String" "COMPACT_STRINGS" "Z" (.int z) ∧ ¬ z = 0 ∧ 0 < len ∧ o + len ≤ A.slots.size ∧ len ≤ 536870912 ∧ ∀ i, i < len → ¬ 255 < cv A (o + i)
def E (a : Addr) (D : Cell) (fV fC : Field) (A : Cell) (o len : Nat) (r : Option Value) (s u : State) : Prop := Got a D fV fC A o len r s u
/-- len > 0, no char of the range above 255: a Latin-1 String of their low bytes -/
theorem law (l : Launch) (a : Addr) (D : Cell) (fV fC : Field) (b : Addr) (A : Cell) (z : Int32) (o len : Nat) : Law l yN 5 4 2 35 yB 6 none site (P a D fV fC b A z o len) (E a D fV fC A o len) [⟨a, fC.slot⟩, ⟨a, fV.slot⟩] 1 len := by
  refine Law.of_walk (plainFor_of_name (by decide +kernel)) (by decide +kernel) (by decide +kernel) (by decide) (fun _ _ h => by rw [h.1]; rfl) (fun _ U U' hal hh h => ⟨h.1, h.2.1.mv hal hh, h.2.2.1.al hal, h.2.2.2.1.al hal, h.2.2.2.2.1.mv hal hh, h.2.2.2.2.2.1.there hal hh, h.2.2.2.2.2.2⟩) (fun r U U' V V' h1 hal h2 h => Got.mv r U U' V V' h1 hal h2 h) ?_
  intro p e s m args below meth c s₁ X0 hexec hbytes hml hret hlk hnm hown hh0 W hP
  obtain ⟨rfl, hB, f1, f2, hA, s1, hz, l0, l1, l2, hp⟩ := hP
  have a31 := hA.1.2.2.2
  have c1 : Steps p.tables e below (s₁.setTop (entryFrame m #[.ref a, .ref b, .int (Int32.ofNat o), .int (Int32.ofNat len), .null] 6)) (s₁.setTop (mkF m 0 #[.val (.ref a), .val (.ref b), .val (.int (Int32.ofNat o)), .val (.int (Int32.ofNat len)), .val .null, .unset] [])) := entry rfl
  have c2 : Steps p.tables e below (s₁.setTop (entryFrame m #[.ref a, .ref b, .int (Int32.ofNat o), .int (Int32.ofNat len), .null] 6)) (s₁.setTop (mkF m 1 #[.val (.ref a), .val (.ref b), .val (.int (Int32.ofNat o)), .val (.int (Int32.ofNat len)), .val .null, .unset] [.ref a])) := c1.trans (by
    refine XS.aloadN X0.here hexec rfl (hb hbytes d0) rfl rfl ?_
    exact Steps.refl _)
  obtain ⟨T3, X3, q3, st3⟩ := X0.oinit hexec hown (wks W (objW "java/lang/String" 1)) (g := (mkF m 1 #[.val (.ref a), .val (.ref b), .val (.int (Int32.ofNat o)), .val (.int (Int32.ofNat len)), .val .null, .unset] [.ref a])) rfl (by rw [hml]; rfl) (rest := []) rfl (hb hbytes d1) (W := 0) (by show 2 * 0 + 0 ≤ _; decide) (Nat.le_of_ble_eq_true rfl) (Nat.le_of_ble_eq_true rfl)
  have hh3 := q3.trans hh0
  have c4 : Steps p.tables e below (s₁.setTop (entryFrame m #[.ref a, .ref b, .int (Int32.ofNat o), .int (Int32.ofNat len), .null] 6)) (T3.setTop (mkF m 27 #[.val (.ref a), .val (.ref b), .val (.int (Int32.ofNat o)), .val (.int (Int32.ofNat len)), .val .null, .unset] [])) := (c2.trans (st3 _ (Steps.refl _))).trans (by
    refine XS.iloadN X3.here hexec rfl (hb hbytes d4) rfl ?_
    refine XS.ifYes X3.here hexec rfl (pc0 := 5) rfl (hb hbytes d5) rfl (i0_ne_t (nz32 (by omega) l0)) (by decide) rfl ?_
    exact Steps.refl _)
  obtain ⟨T5, X5, q5, st5⟩ := X3.sget hexec hown (wk W (.fieldLink "java/lang/String" 38 "java/lang/String" "COMPACT_STRINGS" "Z")) s1 (fun _ _ h => by rw [hh3]; exact h) (g := (mkF m 27 #[.val (.ref a), .val (.ref b), .val (.int (Int32.ofNat o)), .val (.int (Int32.ofNat len)), .val .null, .unset] [])) rfl (hb hbytes d27)
  have hh5 := q5.trans hh3
  have c6 : Steps p.tables e below (s₁.setTop (entryFrame m #[.ref a, .ref b, .int (Int32.ofNat o), .int (Int32.ofNat len), .null] 6)) (T5.setTop (mkF m 30 #[.val (.ref a), .val (.ref b), .val (.int (Int32.ofNat o)), .val (.int (Int32.ofNat len)), .val .null, .unset] [.int z])) := c4.trans (st5 _ (Steps.refl _))
  have c7 : Steps p.tables e below (s₁.setTop (entryFrame m #[.ref a, .ref b, .int (Int32.ofNat o), .int (Int32.ofNat len), .null] 6)) (T5.setTop (mkF m 36 #[.val (.ref a), .val (.ref b), .val (.int (Int32.ofNat o)), .val (.int (Int32.ofNat len)), .val .null, .unset] [.int (Int32.ofNat len), .int (Int32.ofNat o), .ref b])) := c6.trans (by
    refine XS.ifNo X5.here hexec rfl (hb hbytes d30) rfl (i0_eq_f hz) ?_
    refine XS.aloadN X5.here hexec rfl (hb hbytes d33) rfl rfl ?_
    refine XS.iloadN X5.here hexec rfl (hb hbytes d34) rfl ?_
    refine XS.iloadN X5.here hexec rfl (hb hbytes d35) rfl ?_
    exact Steps.refl _)
  obtain ⟨v8, T8, X8, E8, g8⟩ := X5.callS hexec (Cmp3.law l b A o len) hown (wks W (staticW "java/lang/String" 177 Cmp3.yN)) (wk W Cmp3.tab) (W := 0) (Nat.le_of_ble_eq_true rfl) (Nat.le_of_ble_eq_true rfl) (Nat.le_refl _) (by show 0 + len ≤ len; omega) (g := (mkF m 36 #[.val (.ref a), .val (.ref b), .val (.int (Int32.ofNat o)), .val (.int (Int32.ofNat len)), .val .null, .unset] [.int (Int32.ofNat len), .int (Int32.ofNat o), .ref b])) rfl (by rw [hml]; rfl) c7 (argsL := [.ref b, .int (Int32.ofNat o), .int (Int32.ofNat len)]) (rest := []) rfl rfl (by show 2 * 0 + 0 ≤ _; decide) (hb hbytes d36) (⟨rfl, hA.mv X5.warmed.alike hh5, l1, l2, hp⟩)
  obtain ⟨e8, z8⟩ := E8
  obtain ⟨rfl, N, n1, n2, n3, n4, n5, n6⟩ := NewArr.mv _ T5 s _ _ hh5.symm (Vm.Alike.refl _) rfl e8
  rw [hh5] at z8
  have hB1 := hB.keep X8.warmed.alike (n6 _ _ hB.1)
  have hne : s.heap.size ≠ a := (Nat.ne_of_lt (Array.getElem?_eq_some_iff.mp hB.1).1).symm
  have c9 : Steps p.tables e below (s₁.setTop (entryFrame m #[.ref a, .ref b, .int (Int32.ofNat o), .int (Int32.ofNat len), .null] 6)) (T8.setTop (mkF m 39 #[.val (.ref a), .val (.ref b), .val (.int (Int32.ofNat o)), .val (.int (Int32.ofNat len)), .val .null, .unset] [.ref s.heap.size])) := g8
  have c10 : Steps p.tables e below (s₁.setTop (entryFrame m #[.ref a, .ref b, .int (Int32.ofNat o), .int (Int32.ofNat len), .null] 6)) (T8.setTop (mkF m 45 #[.val (.ref a), .val (.ref b), .val (.int (Int32.ofNat o)), .val (.int (Int32.ofNat len)), .val .null, .val (.ref s.heap.size)] [.int (Int32.ofNat N.slots.size), .ref s.heap.size, .ref a])) := by
    have hc : Steps p.tables e below (s₁.setTop (entryFrame m #[.ref a, .ref b, .int (Int32.ofNat o), .int (Int32.ofNat len), .null] 6)) (T8.setTop (mkF m 45 #[.val (.ref a), .val (.ref b), .val (.int (Int32.ofNat o)), .val (.int (Int32.ofNat len)), .val .null, .val (.ref s.heap.size)] [.int (Int32.ofNat len), .ref s.heap.size, .ref a])) := c9.trans (by
      refine XS.astore X8.here hexec rfl (hb hbytes d39) rfl rfl rfl ?_
      refine XS.aloadN X8.here hexec rfl (hb hbytes d41) rfl rfl ?_
      refine XS.aload X8.here hexec rfl (hb hbytes d42) rfl rfl ?_
      refine XS.iloadN X8.here hexec rfl (hb hbytes d44) rfl ?_
      exact Steps.refl _)
    rw [n4]; exact hc
  obtain ⟨v11, T11, X11, E11, g11⟩ := X8.callS hexec (CodL.law l s.heap.size N) hown (wks W (staticW "java/lang/String" 47 CodL.yN)) (wk W CodL.tab) (W := 1) (Nat.le_of_ble_eq_true rfl) (Nat.le_of_ble_eq_true rfl) (Nat.le_refl _) (by show 0 + len + 0 ≤ len; omega) (g := (mkF m 45 #[.val (.ref a), .val (.ref b), .val (.int (Int32.ofNat o)), .val (.int (Int32.ofNat len)), .val .null, .val (.ref s.heap.size)] [.int (Int32.ofNat N.slots.size), .ref s.heap.size, .ref a])) rfl (by rw [hml]; rfl) c10 (argsL := [.ref s.heap.size, .int (Int32.ofNat N.slots.size)]) (rest := [.ref a]) rfl rfl (by show 2 * 0 + (1 + 0) ≤ _; decide) (hb hbytes d45) (⟨rfl, n1⟩)
  obtain ⟨rfl, q11⟩ := E11
  have hB11 := hB1.mv (X8.warmed.alike.symm.trans X11.warmed.alike) q11
  have c12 : Steps p.tables e below (s₁.setTop (entryFrame m #[.ref a, .ref b, .int (Int32.ofNat o), .int (Int32.ofNat len), .null] 6)) (T11.setTop (mkF m 48 #[.val (.ref a), .val (.ref b), .val (.int (Int32.ofNat o)), .val (.int (Int32.ofNat len)), .val .null, .val (.ref s.heap.size)] [.int 0, .ref a])) := g11
  obtain ⟨T13, X13, p13, bl13, sl13, st13⟩ := X11.finit hexec hown (wk W (.fieldLink "java/lang/String" 15 "java/lang/String" "coder" "B")) (Or.inr ⟨_, (wk W (.laysFinal "java/lang/String" "java/lang/String" "coder" "B"))⟩) (Or.inl ⟨rfl, hnm⟩) f2 (Or.inl rfl) hB11 (t := .byte) (by decide +kernel) rfl (g := (mkF m 48 #[.val (.ref a), .val (.ref b), .val (.int (Int32.ofNat o)), .val (.int (Int32.ofNat len)), .val .null, .val (.ref s.heap.size)] [.int 0, .ref a])) rfl (rest := []) rfl (hb hbytes d48)
  have c14 : Steps p.tables e below (s₁.setTop (entryFrame m #[.ref a, .ref b, .int (Int32.ofNat o), .int (Int32.ofNat len), .null] 6)) (T13.setTop (mkF m 54 #[.val (.ref a), .val (.ref b), .val (.int (Int32.ofNat o)), .val (.int (Int32.ofNat len)), .val .null, .val (.ref s.heap.size)] [.ref s.heap.size, .ref a])) := (c12.trans (st13 _ (Steps.refl _))).trans (by
    refine XS.aloadN X13.here hexec rfl (hb hbytes d51) rfl rfl ?_
    refine XS.aload X13.here hexec rfl (hb hbytes d52) rfl rfl ?_
    exact Steps.refl _)
  obtain ⟨T15, X15, p15, bl15, sl15, st15⟩ := X13.finit hexec hown (wk W (.fieldLink "java/lang/String" 9 "java/lang/String" "value" "[B")) (Or.inr ⟨_, (wk W (.laysFinal "java/lang/String" "java/lang/String" "value" "[B"))⟩) (Or.inl ⟨rfl, hnm⟩) f1 (Or.inl rfl) bl13 (t := (.array .byte)) (by decide +kernel) rfl (g := (mkF m 54 #[.val (.ref a), .val (.ref b), .val (.int (Int32.ofNat o)), .val (.int (Int32.ofNat len)), .val .null, .val (.ref s.heap.size)] [.ref s.heap.size, .ref a])) rfl (rest := []) rfl (hb hbytes d54)
  have c16 : Steps p.tables e below (s₁.setTop (entryFrame m #[.ref a, .ref b, .int (Int32.ofNat o), .int (Int32.ofNat len), .null] 6)) (T15.setTop (mkF m 57 #[.val (.ref a), .val (.ref b), .val (.int (Int32.ofNat o)), .val (.int (Int32.ofNat len)), .val .null, .val (.ref s.heap.size)] [])) := c14.trans (st15 _ (Steps.refl _))
  have ap := apart (Or.inr ⟨_, (wk W (.laysFinal "java/lang/String" "java/lang/String" "value" "[B"))⟩) (Or.inr ⟨_, (wk W (.laysFinal "java/lang/String" "java/lang/String" "coder" "B"))⟩) f1 f2 (t₁ := .array .byte) (t₂ := .byte) (by decide +kernel) (by decide +kernel) (by decide)
  have al := X8.warmed.alike.symm.trans X15.warmed.alike
  have n7 : T11.heap[s.heap.size]? = some N := by rw [q11]; exact n1.1
  exact ⟨T15, none, _, _, _, X15, by simp, rfl, by omega, (fun _ => rfl), ⟨rfl, _, N, bl15, ((Same.refl D _).set _ (by simp)).set _ (by simp), sl15, (Cell.slots_setSlot_ne _ ap).trans sl13, n1.keep al (p15.other hne (p13.other hne n7)), n2, by rw [al.findClass]; exact n3, n4, n5, fun y c h1 h2 => p15.other h1 (p13.other h1 (by rw [q11]; exact n6 y c h2)), by rw [p15.2.2, p13.2.2, q11]; exact z8⟩, fun fs hl => c16.trans (X15.returnOut hexec hret (hb hbytes d57) hl)⟩
end New4
namespace New1
def yN : MethodName := ⟨"java/lang/String", "<init>", "([C)V"⟩
abbrev yB : ByteArray := jdk_42_method_3_code
theorem d0 : decode yB 0 = .ok (.aload_n 0, 1) := by decide +kernel
theorem d1 : decode yB 1 = .ok (.aload_n 1, 1) := by decide +kernel
theorem d2 : decode yB 2 = .ok (.iconst 0, 1) := by decide +kernel
theorem d3 : decode yB 3 = .ok (.aload_n 1, 1) := by decide +kernel
theorem d4 : decode yB 4 = .ok (.arraylength, 1) := by decide +kernel
theorem d5 : decode yB 5 = .ok (.aconst_null, 1) := by decide +kernel
theorem d6 : decode yB 6 = .ok (.invokespecial 27, 3) := by decide +kernel
theorem d9 : decode yB 9 = .ok (.return_, 1) := by decide +kernel
def site : List Cond := [New4.tab] ++ initW "java/lang/String" 27 New4.yN
def tab : Cond := tabOf yN yB 2 none site
def P (a : Addr) (D : Cell) (fV fC : Field) (b : Addr) (A : Cell) (z : Int32) (args : Array Value) (s : State) : Prop := args = #[.ref a, .ref b] ∧ Blank "java/lang/String" a D s ∧ Found "java/lang/String" "value" "[B" fV s ∧ Found "java/lang/String" "coder" "B" fC s ∧ Ch b A s ∧ StaticIs s "java/lang/String" "COMPACT_STRINGS" "Z" (.int z) ∧ ¬ z = 0 ∧ 0 < A.slots.size ∧ A.slots.size ≤ 536870912 ∧ ∀ i, i < A.slots.size → ¬ 255 < cv A i
def E (a : Addr) (D : Cell) (fV fC : Field) (A : Cell) (r : Option Value) (s u : State) : Prop := Got a D fV fC A 0 A.slots.size r s u
/-- new String(chars), not empty, no char above 255: a Latin-1 String of their low bytes -/
theorem law (l : Launch) (a : Addr) (D : Cell) (fV fC : Field) (b : Addr) (A : Cell) (z : Int32) : Law l yN 2 1 3 52 yB 2 none site (P a D fV fC b A z) (E a D fV fC A) [⟨a, fC.slot⟩, ⟨a, fV.slot⟩] 1 A.slots.size := by
  refine Law.of_walk (plainFor_of_name (by decide +kernel)) (by decide +kernel) (by decide +kernel) (by decide) (fun _ _ h => by rw [h.1]; rfl) (fun _ U U' hal hh h => ⟨h.1, h.2.1.mv hal hh, h.2.2.1.al hal, h.2.2.2.1.al hal, h.2.2.2.2.1.mv hal hh, h.2.2.2.2.2.1.there hal hh, h.2.2.2.2.2.2⟩) (fun r U U' V V' h1 hal h2 h => Got.mv r U U' V V' h1 hal h2 h) ?_
  intro p e s m args below meth c s₁ X0 hexec hbytes hml hret hlk hnm hown hh0 W hP
  obtain ⟨rfl, hB, f1, f2, hA, s1, hz, l0, l2, hp⟩ := hP
  have c1 : Steps p.tables e below (s₁.setTop (entryFrame m #[.ref a, .ref b] 2)) (s₁.setTop (mkF m 0 #[.val (.ref a), .val (.ref b)] [])) := entry rfl
  have c2 : Steps p.tables e below (s₁.setTop (entryFrame m #[.ref a, .ref b] 2)) (s₁.setTop (mkF m 6 #[.val (.ref a), .val (.ref b)] [.null, .int (Int32.ofNat A.slots.size), .int 0, .ref b, .ref a])) := c1.trans (by
    refine XS.aloadN X0.here hexec rfl (hb hbytes d0) rfl rfl ?_
    refine XS.aloadN X0.here hexec rfl (hb hbytes d1) rfl rfl ?_
    refine iconstV X0.here hexec rfl 0 (hb hbytes d2) (by decide) ?_
    refine XS.aloadN X0.here hexec rfl (hb hbytes d3) rfl rfl ?_
    refine X0.alen hexec (hA.1.mv X0.warmed.alike hh0) rfl rfl (hb hbytes d4) ?_
    refine XS.aconstNull X0.here hexec rfl (hb hbytes d5) ?_
    exact Steps.refl _)
  obtain ⟨v3, T3, X3, E3, g3⟩ := X0.callN hexec (New4.law l a D fV fC b A z 0 A.slots.size) rfl hown (wks W (initW "java/lang/String" 27 New4.yN)) (W New4.tab (by simp only [site, List.mem_cons, List.mem_append, true_or, or_true])) (W := 0) (Nat.le_of_ble_eq_true rfl) (Nat.le_of_ble_eq_true rfl) (Nat.le_refl _) (by show 0 + A.slots.size ≤ A.slots.size; omega) (g := (mkF m 6 #[.val (.ref a), .val (.ref b)] [.null, .int (Int32.ofNat A.slots.size), .int (Int32.ofNat 0), .ref b, .ref a])) rfl (by rw [hml]; rfl) c2 (argsL := [.ref b, .int (Int32.ofNat 0), .int (Int32.ofNat A.slots.size), .null]) (rest := []) rfl rfl (by show 2 * 0 + 0 ≤ _; decide) (hb hbytes d6) (⟨rfl, hB.mv X0.warmed.alike hh0, f1.al X0.warmed.alike, f2.al X0.warmed.alike, hA.mv X0.warmed.alike hh0, s1.there X0.warmed.alike hh0, hz, l0, by omega, l2, fun i hi => by rw [Nat.zero_add]; exact hp i hi⟩)
  have e0 := Got.mv _ s₁ s _ _ hh0.symm (Vm.Alike.refl _) rfl E3
  obtain rfl := e0.1
  have c4 : Steps p.tables e below (s₁.setTop (entryFrame m #[.ref a, .ref b] 2)) (T3.setTop (mkF m 9 #[.val (.ref a), .val (.ref b)] [])) := g3
  exact ⟨T3, none, _, _, _, X3, by simp, rfl, by omega, (fun _ => rfl), e0, fun fs hl => c4.trans (X3.returnOut hexec hret (hb hbytes d9) hl)⟩
theorem pays {l : Launch} {R : Room} {p : Program} {e : Env} {below : List Frame} {s : State} {sargs : Array Value} {len W : Nat} (a : Addr) (D : Cell) (fV fC : Field) (b : Addr) (A : Cell) (z : Int32) (htab : tab.before sargs s = true) (hfr : 4 ≤ R.frames) (hlo : W + 65 ≤ R.locals) :
    Back l R p e below s sargs yN len W (fun A₁ a₁ => A₁.cells + 1 ≤ R.cells ∧ A₁.slots + A.slots.size ≤ R.slots ∧ P a D fV fC b A z a₁ A₁.U) (fun A₁ _ v₁ B₁ => E a D fV fC A v₁ A₁.U B₁.U ∧ B₁.locs = A₁.locs ++ [⟨a, fC.slot⟩, ⟨a, fV.slot⟩] ∧ B₁.cells = A₁.cells + 1 ∧ B₁.slots = A₁.slots + A.slots.size) :=
  (law l a D fV fC b A z).pays htab hfr (by omega)
end New1
/-- the byte, read back as charAt reads it, is the char -/
theorem lo8_mask {x : Int32} (h0 : ¬ x < 0) (h1 : ¬ 255 < x) : lo8 x &&& 255 = x := by
  have t : ∀ k : Fin 256, lo8 (Int32.ofNat k.val) &&& 255 = Int32.ofNat k.val := by decide +kernel
  rw [Int32.lt_iff_toInt_lt] at h0 h1
  have e0 : (0 : Int32).toInt = 0 := rfl
  have e1 : (255 : Int32).toInt = 255 := rfl
  obtain ⟨k, hk⟩ : ∃ k : Nat, x.toInt = k := ⟨x.toInt.toNat, by omega⟩
  have hx : x = Int32.ofNat k := Int32.toInt_inj.mp (by rw [hk, Int32.toInt_ofNat_small (by omega)])
  rw [hx]
  exact t ⟨k, by omega⟩
end StrChars
namespace StrChars.Road
open Jvm Sem ClassFile Op Lib Jvm.Stand Jvm.Free Jvm.Free.XT
open Jvm.Lib.Cold (StaticIs)
abbrev ST : String := "java/lang/String"
/-- every table word that New1's law asks, flat -/
abbrev words : List Jvm.Cond := [.code New1.yN New1.yB 2 none, .initialized ST, .methodLink ST 27 New4.yN, .instanceMethod New4.yN,
  .code New4.yN New4.yB 6 none, .fieldLink ST 38 ST "COMPACT_STRINGS" "Z", .laysFinal ST ST "value" "[B", .fieldLink ST 9 ST "value" "[B", .laysFinal ST ST "coder" "B", .fieldLink ST 15 ST "coder" "B",
  .methodLink ST 1 Lib.objectInit, .instanceMethod Lib.objectInit, .code Lib.objectInit ⟨#[0xb1]⟩ 1 none, .methodLink ST 177 Cmp3.yN, .static Cmp3.yN, .methodLink ST 47 CodL.yN, .static CodL.yN,
  .code Cmp3.yN Cmp3.yB 6 (some (.array .byte)), .initialized U16, .arrayClass .byte, .methodLink U16 115 Cmp5.yN, .static Cmp5.yN, .code Cmp5.yN Cmp5.yB 7 (some .int), .code CodL.yN CodL.yB 2 (some .byte)]
theorem tab_of {a : Array Value} {s : State} (h : ∀ w ∈ words, w.before a s = true) : New1.tab.before a s = true := by
  have h5 : Cmp5.tab.before a s = true := unparts (wk h (.code Cmp5.yN Cmp5.yB 7 (some .int))) (wks h (.initialized Cmp5.yN.cls :: Cmp5.site))
  have hc : CodL.tab.before a s = true := unparts (wk h (.code CodL.yN CodL.yB 2 (some .byte))) (wks h (.initialized CodL.yN.cls :: CodL.site))
  have q5 : ∀ w ∈ Cmp5.tab :: words, w.before a s = true := fun w hw => (List.mem_cons.mp hw).elim (fun e => e ▸ h5) (h w)
  have h3 : Cmp3.tab.before a s = true := unparts (wk q5 (.code Cmp3.yN Cmp3.yB 6 (some (.array .byte)))) (wks q5 (.initialized Cmp3.yN.cls :: Cmp3.site))
  have q3 : ∀ w ∈ Cmp3.tab :: CodL.tab :: words, w.before a s = true := fun w hw => (List.mem_cons.mp hw).elim (fun e => e ▸ h3) fun hw => (List.mem_cons.mp hw).elim (fun e => e ▸ hc) (h w)
  have h4 : New4.tab.before a s = true := unparts (wk q3 (.code New4.yN New4.yB 6 none)) (wks q3 (.initialized New4.yN.cls :: New4.site))
  have q4 : ∀ w ∈ New4.tab :: words, w.before a s = true := fun w hw => (List.mem_cons.mp hw).elim (fun e => e ▸ h4) (h w)
  exact unparts (wk q4 (.code New1.yN New1.yB 2 none)) (wks q4 (.initialized New1.yN.cls :: New1.site))
/-- the words ride from the start Z to the walk's own state -/
theorem moved {Z s : State} {a0 args : Array Value} (hZ : Z.Warmed39 s.vm) (hw : ∀ d ∈ words, d.before a0 Z = true) : ∀ d ∈ words, d.before args s = true := fun d hd => by
  have q := hw d hd
  have t : ∀ d ∈ words, d = .arrayClass .byte ∨ (d.onTables && d.keepsFace) = true := by decide +kernel
  rcases t d hd with rfl | t
  · exact RoadKit.mvA hZ q
  · exact RoadKit.mv hZ q t
/-- WHAT COMES BACK, over the tables of the start Z: h the heap at the call, h' behind it -/
def Q (Z : State) (x : Addr) (A : Cell) (h : Heap) (v : Option Value) (h' : Heap) (L : List Loc) : Prop := v = none ∧ (∀ y ∈ L, y.base = x) ∧ RoadKit.Keep h h' [x] ∧ h'.size = h.size + 1 ∧ RoadKit.Exa Z h' x ST ∧ RoadKit.Fld Z h' x ST "value" "[B" (.ref h.size) ∧ RoadKit.Fld Z h' x ST "coder" "B" (.int 0) ∧
  (∃ V : Cell, RoadKit.Arr Z h' h.size V .byte ∧ V.vm = .none ∧ Z.vm.findClass "[B" = some V.cls ∧ V.slots.size = A.slots.size ∧ ∀ j, j < A.slots.size → V.slots[j]? = some (.int (lo8 (cv A j)))) ∧
  ∀ (O n d : String) (w : Value), RoadKit.Fld Z h x O n d w → RoadKit.slotOf Z O n d ≠ RoadKit.slotOf Z ST "value" "[B" → RoadKit.slotOf Z O n d ≠ RoadKit.slotOf Z ST "coder" "B" → RoadKit.Fld Z h' x O n d w
/-- **new String(chars) AT A CALL, IN THE ROAD'S FORM**: for specialBack behind newO: x the fresh String, b the char[] with the cell A -/
theorem back {p : Program} {l : Launch} {e : Env} {R : Room} {s : State} {args : Array Value} {below : List Frame} {len W : Nat} {Z : State} {a0 : Array Value} {h : Heap} (hZ : Z.Warmed39 s.vm) (hw : ∀ d ∈ words, d.before a0 Z = true) {kI : Nat} (wi : (Jvm.Cond.instantiable ST kI).before a0 Z = true)
    {x b : Addr} {A : Cell} {z : Int32} {v0 c0 : Value} (E : RoadKit.Exa Z h x ST) (V : RoadKit.Fld Z h x ST "value" "[B" v0) (C : RoadKit.Fld Z h x ST "coder" "B" c0) (K : RoadKit.Arr Z h b A .char) (hty : Typed .char A) (S : RoadKit.Sta Z h ST "COMPACT_STRINGS" "Z" (.int z)) (hz : ¬ z = 0)
    (l0 : 0 < A.slots.size) (l2 : A.slots.size ≤ 536870912) (hp : ∀ i, i < A.slots.size → ¬ 255 < cv A i) (hfr : 4 ≤ R.frames) (hlo : W + 65 ≤ R.locals) :
    Back l R p e below s args New1.yN len W (fun P a => a = #[.ref x, .ref b] ∧ P.U.heap = h ∧ P.cells + 1 ≤ R.cells ∧ P.slots + A.slots.size ≤ R.slots)
      (fun P _ v B => ∃ L, Q Z x A h v B.U.heap L ∧ B.locs = P.locs ++ L ∧ B.cells = P.cells + 1 ∧ B.slots = P.slots + A.slots.size) := by
  intro m meth c P g ig mk a X hg hsize hdg hW hn hp'
  obtain ⟨rfl, rfl, r1, r2⟩ := hp'
  have al : Z.vm.Alike P.U.vm := hZ.alike.trans X.warmed.alike
  obtain ⟨D, cfV, kV, iV, fV, hD, gV, stV, knV, obV, asV, slV⟩ := id V
  obtain ⟨D', cfC, kC, iC, fC, hD', gC, stC, -, -, asC, slC⟩ := id C
  cases hD.symm.trans hD'
  obtain ⟨D2, kD, e1, e2, e3, e4, e5⟩ := id E
  cases hD.symm.trans e1
  obtain ⟨c2, k2, i1, i2, i3, -⟩ := Cond.instantiable_spec wi
  cases e2.symm.trans i1
  cases e3.symm.trans i2
  obtain ⟨kU, u1, u2⟩ := al.2.2 _ _ e3
  have hB : Blank ST x D P.U := ⟨hD, ⟨knV, fun q hq => by rw [hq] at obV; cases obV⟩, by rw [al.findClass]; exact e2, kU, u1, by rw [u2]; exact i3, by rw [u2]; exact e5 i3⟩
  have F1 : Found ST "value" "[B" fV P.U := ⟨SBG.found_only al ⟨cfV, kV, iV, gV⟩, stV⟩
  have F2 : Found ST "coder" "B" fC P.U := ⟨SBG.found_only al ⟨cfC, kC, iC, gC⟩, stC⟩
  have hA : Ch b A P.U := ⟨⟨K.1, State.isArrayOf_alike al K.2.1, K.2.2, by omega⟩, hty⟩
  have hS : StaticIs P.U ST "COMPACT_STRINGS" "Z" (.int z) := by
    obtain ⟨cfS, iS, kS, fS, st, cS, t1, t2, t3, t4, t5, t6, t7⟩ := S
    exact StaticIs.there (s := { Z with heap := P.U.heap }) ⟨cfS, iS, kS, fS, st, cS, t1, t2, t3, t4, t5, (fun q => by rw [q] at t6; cases t6), t7⟩ al rfl
  obtain ⟨v, B, X', ⟨⟨hv, E', V', q1, q2, q3, q4, q5, q6, q7, q8, q9, q10, q11⟩, hl, hc, hs⟩, st⟩ := New1.pays x D fV fC b A z (tab_of (moved hZ hw)) hfr hlo m meth c P g ig mk _ X hg hsize hdg hW hn ⟨r1, r2, rfl, hB, F1, F2, hA, hS, hz, l0, l2, hp⟩
  have al' : Z.vm.Alike B.U.vm := hZ.alike.trans X'.warmed.alike
  have hsz : E'.slots.size = D.slots.size := by
    obtain ⟨-, -, -, kB, w1, w2, w3⟩ := q1
    obtain ⟨kB', y1, y2⟩ := al'.2.2 _ _ e3
    rw [q2.2.1] at w1
    cases w1.symm.trans y1
    rw [w3, e5 i3, y2]
  refine ⟨v, B, X', ⟨_, ⟨hv, ?_, ⟨by omega, fun y cy hy hn' => q10 y cy (by simpa using hn') hy, fun y cy hy => ?_⟩, q11, ⟨E', _, q1.1, by rw [q2.2.1]; exact e2, by rw [q2.2.1]; exact e3, by rw [q2.1]; exact obV, fun _ => by rw [hsz]; exact e5 i3⟩,
    ⟨E', cfV, kV, iV, fV, q1.1, gV, stV, by rw [q2.1]; exact knV, by rw [q2.1]; exact obV, by rw [q2.2.1]; exact asV, q3⟩, ⟨E', cfC, kC, iC, fC, q1.1, gC, stC, by rw [q2.1]; exact knV, by rw [q2.1]; exact obV, by rw [q2.2.1]; exact asC, q4⟩,
    ⟨V', ⟨q5.1, State.isArrayOf_alike al'.symm q5.2.1, q5.2.2.1⟩, q6, by rw [← al'.findClass]; exact q7, q8, fun j hj => by have := q9 j hj; rwa [Nat.zero_add] at this⟩, fun O n d w F n1 n2 => ?_⟩, hl, hc, hs⟩, st⟩
  · intro y hy
    simp only [List.mem_cons, List.not_mem_nil, or_false] at hy
    rcases hy with rfl | rfl <;> rfl
  · by_cases q : y = x
    · subst q
      cases hD.symm.trans hy
      exact ⟨E', q1.1, q2.2.1, q2.1, hsz⟩
    · exact ⟨cy, q10 y cy q hy, rfl, rfl, rfl⟩
  · obtain ⟨D3, cf, k, i, f, g1, g2, g3, g4, g5, g6, g7⟩ := F
    cases hD.symm.trans g1
    simp only [RoadKit.slotOf, g2, gV, gC, Option.map_some, Option.getD_some] at n1 n2
    exact ⟨E', cf, k, i, f, q1.1, g2, g3, by rw [q2.1]; exact g4, by rw [q2.1]; exact g5, by rw [q2.2.1]; exact g6, by rw [q2.2.2 f.slot (by simp [n1, n2])]; exact g7⟩
end StrChars.Road
namespace StrChars.Road
open Jvm Sem ClassFile Op Lib Jvm.Stand Jvm.Free Jvm.Free.XT
/-- WHAT COMES BACK, the byte[] as a list of values -/
def QA (Z : State) (x : Addr) (zn : Int32) (cs : List Int32) (h : Heap) (v : Option Value) (h' : Heap) (L : List Loc) : Prop := v = none ∧ (∀ y ∈ L, y.base = x) ∧ RoadKit.Keep h h' [x] ∧ h'.size = h.size + 1 ∧ RoadKit.Exa Z h' x ST ∧ RoadKit.Fld Z h' x ST "value" "[B" (.ref h.size) ∧ RoadKit.Fld Z h' x ST "coder" "B" (.int 0) ∧
  (∃ kb, Z.vm.findClass "[B" = some kb ∧ RoadKit.Arv Z h' h.size kb .byte zn (cs.map fun c => .int (lo8 c)) (.int 0)) ∧
  ∀ (O n d : String) (w : Value), RoadKit.Fld Z h x O n d w → RoadKit.slotOf Z O n d ≠ RoadKit.slotOf Z ST "value" "[B" → RoadKit.slotOf Z O n d ≠ RoadKit.slotOf Z ST "coder" "B" → RoadKit.Fld Z h' x O n d w
/-- **new String(chars) AT A CALL, THE ARRAYS AS LISTS**: the char[] at b holds cs, not empty, no char above 255 -/
theorem backArv {p : Program} {l : Launch} {e : Env} {R : Room} {s : State} {args : Array Value} {below : List Frame} {len W : Nat} {Z : State} {a0 : Array Value} {h : Heap} (hZ : Z.Warmed39 s.vm) (hw : ∀ d ∈ words, d.before a0 Z = true) {kI : Nat} (wi : (Jvm.Cond.instantiable ST kI).before a0 Z = true)
    {x b : Addr} {k : ClassId} {zn z : Int32} {cs : List Int32} {dv v0 c0 : Value} (E : RoadKit.Exa Z h x ST) (V : RoadKit.Fld Z h x ST "value" "[B" v0) (C : RoadKit.Fld Z h x ST "coder" "B" c0) (K : RoadKit.Arv Z h b k .char zn (cs.map Value.int) dv) (S : RoadKit.Sta Z h ST "COMPACT_STRINGS" "Z" (.int z)) (hz : ¬ z = 0)
    (hlen : zn.toNatClampNeg = cs.length) (h0 : 0 < cs.length) (hbig : cs.length ≤ 536870912) (hall : ∀ c ∈ cs, ¬ 255 < c) (hfr : 4 ≤ R.frames) (hlo : W + 65 ≤ R.locals) :
    Back l R p e below s args New1.yN len W (fun P a => a = #[.ref x, .ref b] ∧ P.U.heap = h ∧ P.cells + 1 ≤ R.cells ∧ P.slots + cs.length ≤ R.slots)
      (fun P _ v B => ∃ L, QA Z x zn cs h v B.U.heap L ∧ B.locs = P.locs ++ L ∧ B.cells = P.cells + 1 ∧ B.slots = P.slots + cs.length) := by
  obtain ⟨A, K1, K2, K3, K4, K5, K6⟩ := K
  have e : A.slots.size = cs.length := K3.trans hlen
  have hat : ∀ (i : Nat) (hi : i < cs.length), A.slots[i]? = some (.int cs[i]) := fun i hi => by rw [K5 i (by omega)]; simp [List.getD_eq_getElem?_getD, hi]
  have hcv : ∀ (i : Nat) (hi : i < cs.length), cv A i = cs[i] := fun i hi => by unfold cv; rw [hat i hi]
  have hty : Typed .char A := fun i v hv => by
    have hi : i < A.slots.size := (Array.getElem?_eq_some_iff.mp hv).1
    have q := K5 i hi
    rw [hv] at q
    rw [Option.some.inj q]
    exact K6 i hi
  refine Back.mono (back hZ hw wi E V C K1 hty S hz (by omega) (by omega) (fun i hi => by rw [hcv i (by omega)]; exact hall _ (List.getElem_mem _)) hfr hlo) (fun P a hp => ⟨hp.1, hp.2.1, hp.2.2.1, by rw [e]; exact hp.2.2.2⟩) (fun P a v B hp hq => ?_)
  obtain ⟨L, ⟨q1, q2, q3, q4, q5, q6, q7, ⟨V', v1, v2, v3, v4, v5⟩, q9⟩, hl, hc, hs⟩ := hq
  refine ⟨L, ⟨q1, q2, q3, q4, q5, q6, q7, ⟨V'.cls, v3, V', v1, rfl, by rw [v4, e, hlen], K4, fun i hi => ?_, fun i hi => ?_⟩, q9⟩, hl, hc, by rw [hs, e]⟩
  · have hi' : i < cs.length := by omega
    rw [v5 i (by omega), hcv i hi']; simp [List.getD_eq_getElem?_getD, hi']
  · have hi' : i < cs.length := by omega
    simp only [List.getD_eq_getElem?_getD, List.getElem?_map, List.getElem?_eq_getElem hi', Option.map_some, Option.getD_some]
    exact fits_lo8 _
end StrChars.Road
namespace StrChars.Road
open Jvm Sem ClassFile Op Lib Jvm.Stand Jvm.Free Jvm.Free.XT
/-- WHAT COMES BACK, in the writer's own shape -/
def QV (Z : State) (x : Addr) (N : Int32) (bs : List Int32) (h : Heap) (n0 : Nat) (v : Option Value) (h' : Heap) (L : List Loc) : Prop := v = none ∧ RoadKit.Fr n0 L ∧ RoadKit.Keep h h' [x] ∧ RoadKit.Exa Z h' x ST ∧ RoadKit.Fld Z h' x ST "coder" "B" (.int 0) ∧
  ∃ (t : Addr) (kb : ClassId), n0 ≤ t ∧ h.size ≤ t ∧ ¬ t = x ∧ RoadKit.Fld Z h' x ST "value" "[B" (.ref t) ∧ RoadKit.Arv Z h' t kb .byte N (bs.map Value.int) (.int 0)
/-- **new String(chars) AT A CALL, FOR THE WRITER**: a char[] of n known ints, each 0 to 255 -/
theorem backV {p : Program} {l : Launch} {e : Env} {R : Room} {s : State} {args : Array Value} {below : List Frame} {len W : Nat} {Z : State} {a0 : Array Value} {h : Heap} (hZ : Z.Warmed39 s.vm) (hw : ∀ d ∈ words, d.before a0 Z = true) {kI : Nat} (wi : (Jvm.Cond.instantiable ST kI).before a0 Z = true)
    {x b : Addr} {kC : ClassId} {cs bs : List Int32} {d v0 c0 : Value} {z N : Int32} {n n0 : Nat} (hx0 : n0 ≤ x) (hh0 : n0 ≤ h.size) (E : RoadKit.Exa Z h x ST) (V : RoadKit.Fld Z h x ST "value" "[B" v0) (C : RoadKit.Fld Z h x ST "coder" "B" c0) (K : RoadKit.Arv Z h b kC .char N (cs.map Value.int) d) (S : RoadKit.Sta Z h ST "COMPACT_STRINGS" "Z" (.int z)) (hz : ¬ z = 0)
    (hn : cs.length = n) (hN : N = Int32.ofNat n) (l0 : 0 < n) (l2 : n ≤ 4000) (hp : ∀ c ∈ cs, ¬ c < 0 ∧ ¬ (255 : Int32) < c) (hb : bs = cs.map (fun c => c.toInt8.toInt32)) (hfr : 4 ≤ R.frames) (hlo : W + 65 ≤ R.locals) :
    Back l R p e below s args (⟨"java/lang/String", "<init>", "([C)V"⟩ : MethodName) len W (fun P a => a = #[.ref x, .ref b] ∧ P.U.heap = h ∧ P.cells + 1 ≤ R.cells ∧ P.slots + n ≤ R.slots)
      (fun P _ v B => ∃ L, QV Z x N bs h n0 v B.U.heap L ∧ B.locs = P.locs ++ L ∧ B.cells = P.cells + 1 ∧ B.slots = P.slots + n) := by
  subst hn hN hb
  refine Back.mono (backArv hZ hw wi E V C K S hz (n32 (by omega)) l0 (by omega) (fun c hc => (hp c hc).2) hfr hlo) (fun P a hp => hp) (fun P a v B hp hq => ?_)
  obtain ⟨L, ⟨q1, q2, q3, q4, q5, q6, q7, ⟨kb, v1, v2⟩, q9⟩, hl, hc, hs⟩ := hq
  exact ⟨L, ⟨q1, fun y hy => by rw [q2 y hy]; exact hx0, q3, q5, q7, h.size, kb, hh0, Nat.le_refl _, Nat.ne_of_gt E.lt, q6, by rw [List.map_map]; exact v2⟩, hl, hc, hs⟩
end StrChars.Road
namespace StrChars
open Jvm Sem ClassFile Op Lib Jvm.Stand Jvm.Free.XT Jvm.Free.ALB Jvm.Free.JM Jvm.Free
open Jvm.Lib.Cold (StaticIs)
def hi8 (x : Int32) : Int32 := lo8 (x >>> ((8 : Int32) &&& 31))
/-- what StringUTF16.getChar makes of two bytes -/
def pairCh (u v : Int32) : Int32 := (((u &&& 255) <<< ((0 : Int32) &&& 31)) ||| ((v &&& 255) <<< ((8 : Int32) &&& 31))).toUInt32.toUInt16.toUInt32.toInt32
theorem lo8_and (x : Int32) : (lo8 x &&& 255).toBitVec.toNat = x.toBitVec.toNat % 256 := by
  have h : (lo8 x).toBitVec = (x.toBitVec.signExtend 8).signExtend 32 := by rw [lo8, Int8.toBitVec_toInt32, Int32.toBitVec_toInt8]
  rw [Int32.toBitVec_and, BitVec.toNat_and, h]
  have e : ((x.toBitVec.signExtend 8).signExtend 32).toNat % 256 = x.toBitVec.toNat % 256 := by
    rw [BitVec.toNat_signExtend]
    have hlt := x.toBitVec.isLt
    simp only [BitVec.toNat_setWidth, BitVec.toNat_signExtend]
    split <;> split <;> omega
  rw [← e]
  exact Nat.and_two_pow_sub_one_eq_mod _ 8
theorem pair_says {c : Int32} (h0 : ¬ c < 0) (h1 : ¬ 65535 < c) : pairCh (lo8 c) (hi8 c) = c := by
  rw [Int32.lt_iff_toInt_lt] at h0 h1
  have e0 : (0 : Int32).toInt = 0 := rfl
  have e1 : (65535 : Int32).toInt = 65535 := rfl
  have hc : c.toInt = c.toBitVec.toNat := by
    have := c.toBitVec.isLt
    have e : c.toInt = c.toBitVec.toInt := rfl
    rw [e] at h0 h1
    rw [e]
    rw [BitVec.toInt_eq_toNat_cond] at h0 h1 ⊢
    split at h0 <;> split <;> omega
  have hn : c.toBitVec.toNat < 65536 := by omega
  have a1 := lo8_and c
  have a2 : (hi8 c &&& 255).toBitVec.toNat = c.toBitVec.toNat / 256 := by
    rw [hi8, lo8_and]
    have e : ((8 : Int32) &&& 31) = 8 := by decide
    rw [e, Int32.toBitVec_shiftRight]
    have e2 : ((8 : Int32).toBitVec.smod 32) = 8#32 := by decide
    rw [e2, BitVec.sshiftRight_eq', BitVec.toNat_sshiftRight_of_msb_false (by rw [BitVec.msb_eq_false_iff_two_mul_lt]; omega)]
    show c.toBitVec.toNat >>> 8 % 256 = _
    rw [Nat.shiftRight_eq_div_pow]
    omega
  unfold pairCh
  apply Int32.toBitVec_inj.mp
  apply BitVec.eq_of_toNat_eq
  have f0 : ((0 : Int32) &&& 31) = 0 := by decide
  have f8 : ((8 : Int32) &&& 31) = 8 := by decide
  rw [f0, f8]
  have g : (((lo8 c &&& 255) <<< (0 : Int32)) ||| ((hi8 c &&& 255) <<< (8 : Int32))).toBitVec.toNat = c.toBitVec.toNat := by
    rw [Int32.toBitVec_or, Int32.toBitVec_shiftLeft, Int32.toBitVec_shiftLeft]
    have s0 : ((0 : Int32).toBitVec.smod 32) = 0#32 := by decide
    have s8 : ((8 : Int32).toBitVec.smod 32) = 8#32 := by decide
    rw [s0, s8, BitVec.toNat_or]
    simp only [BitVec.shiftLeft_eq', BitVec.toNat_shiftLeft, a1, a2]
    show (c.toBitVec.toNat % 256) <<< 0 % 2 ^ 32 ||| (c.toBitVec.toNat / 256) <<< 8 % 2 ^ 32 = _
    rw [Nat.shiftLeft_zero, Nat.mod_eq_of_lt (show c.toBitVec.toNat % 256 < 2 ^ 32 by omega), Nat.mod_eq_of_lt (show (c.toBitVec.toNat / 256) <<< 8 < 2 ^ 32 by rw [Nat.shiftLeft_eq]; omega), Nat.or_comm, ← Nat.shiftLeft_add_eq_or_of_lt (by omega), Nat.shiftLeft_eq]
    omega
  show BitVec.toNat (((((lo8 c &&& 255) <<< (0 : Int32)) ||| ((hi8 c &&& 255) <<< (8 : Int32))).toBitVec.setWidth 16).setWidth 32) = _
  rw [BitVec.toNat_setWidth, BitVec.toNat_setWidth, g]
  omega
end StrChars
namespace StrChars
open Jvm Sem ClassFile Op Lib Jvm.Stand Jvm.Free.XT Jvm.Free.ALB Jvm.Free.JM Jvm.Free
open Jvm.Lib.Cold (StaticIs)
/-- charAt's cast of a byte read back -/
def chr8 (u : Int32) : Int32 := (u &&& 255).toUInt32.toUInt16.toUInt32.toInt32
theorem chr8_lo8 {c : Int32} (h0 : ¬ c < 0) (h1 : ¬ 255 < c) : chr8 (lo8 c) = c := by
  have t : ∀ k : Fin 256, (Int32.ofNat k.val).toUInt32.toUInt16.toUInt32.toInt32 = Int32.ofNat k.val := by decide +kernel
  unfold chr8
  rw [lo8_mask h0 h1]
  rw [Int32.lt_iff_toInt_lt] at h0 h1
  have e0 : (0 : Int32).toInt = 0 := rfl
  have e1 : (255 : Int32).toInt = 255 := rfl
  obtain ⟨k, hk⟩ : ∃ k : Nat, c.toInt = k := ⟨c.toInt.toNat, by omega⟩
  have hx : c = Int32.ofNat k := Int32.toInt_inj.mp (by rw [hk, Int32.toInt_ofNat_small (by omega)])
  rw [hx]
  exact t ⟨k, by omega⟩
theorem narrow_ch {c : Int32} (h0 : ¬ c < 0) (h1 : ¬ 65535 < c) : narrow .char (.int c) = .int c := by
  have q : narrow .char (.int (pairCh (lo8 c) (hi8 c))) = .int (pairCh (lo8 c) (hi8 c)) := narrow_c _
  rwa [pair_says h0 h1] at q
/-- the array's cell V codes the n chars f 0 .. f (n - 1) by the coder cd, as the JDK does: coder 1 just where some char is above 255 -/
def Cod (cd : Int32) (n : Nat) (f : Nat → Int32) (V : Cell) : Prop := (cd = 0 ∧ V.slots.size = n ∧ ∀ j, j < n → V.slots[j]? = some (.int (lo8 (f j))) ∧ ¬ 255 < f j) ∨ (cd = 1 ∧ V.slots.size = 2 * n ∧ (∀ j, j < n → V.slots[2 * j]? = some (.int (lo8 (f j))) ∧ V.slots[2 * j + 1]? = some (.int (hi8 (f j)))) ∧ ∃ j, j < n ∧ 255 < f j)
theorem Cod.cd {cd : Int32} {n : Nat} {f : Nat → Int32} {V : Cell} (h : Cod cd n f V) : cd = 0 ∨ cd = 1 := h.imp (fun q => q.1) fun q => q.1
/-- **x is a String of the n chars f 0 .. f (n - 1)**, Latin-1 or UTF-16; its array at t has the cell V -/
def Txt (x t : Addr) (V : Cell) (cd : Int32) (n : Nat) (f : Nat → Int32) (U : State) : Prop := Exact "java/lang/String" x U ∧ Has x "java/lang/String" "value" "[B" (.ref t) U ∧ Has x "java/lang/String" "coder" "B" (.int cd) U ∧ XT.Arr .byte t V U ∧ Cod cd n f V ∧ ∀ j, j < n → ¬ f j < 0 ∧ ¬ 65535 < f j
theorem Txt.mv {x t : Addr} {V : Cell} {cd : Int32} {n : Nat} {f : Nat → Int32} {U U' : State} (h : Txt x t V cd n f U) (hal : U.vm.Alike U'.vm) (hh : U'.heap = U.heap) : Txt x t V cd n f U' := ⟨h.1.mv hal hh, h.2.1.mv hal hh, h.2.2.1.mv hal hh, h.2.2.2.1.mv hal hh, h.2.2.2.2⟩
namespace IsL
def yN : MethodName := ⟨"java/lang/String", "isLatin1", "()Z"⟩
abbrev yB : ByteArray := jdk_42_method_154_code
theorem d0 : decode yB 0 = .ok (.getstatic 38, 3) := by decide +kernel
theorem d3 : decode yB 3 = .ok (.ifCond (.eq) 14, 3) := by decide +kernel
theorem d6 : decode yB 6 = .ok (.aload_n 0, 1) := by decide +kernel
theorem d7 : decode yB 7 = .ok (.getfield 15, 3) := by decide +kernel
theorem d10 : decode yB 10 = .ok (.ifCond (.ne) 7, 3) := by decide +kernel
theorem d13 : decode yB 13 = .ok (.iconst 1, 1) := by decide +kernel
theorem d14 : decode yB 14 = .ok (.goto 4, 3) := by decide +kernel
theorem d17 : decode yB 17 = .ok (.iconst 0, 1) := by decide +kernel
theorem d18 : decode yB 18 = .ok (.ireturn, 1) := by decide +kernel
def site : List Cond := [.fieldLink "java/lang/String" 38 "java/lang/String" "COMPACT_STRINGS" "Z", .fieldLink "java/lang/String" 15 "java/lang/String" "coder" "B"]
def tab : Cond := tabOf yN yB 1 (some .boolean) site
def P (x : Addr) (cd z : Int32) (args : Array Value) (s : State) : Prop := args = #[.ref x] ∧ Has x "java/lang/String" "coder" "B" (.int cd) s ∧ (cd = 0 ∨ cd = 1) ∧ StaticIs s "java/lang/String" "COMPACT_STRINGS" "Z" (.int z) ∧ ¬ z = 0
def E (cd : Int32) (r : Option Value) (s u : State) : Prop := XT.PureE (some (.int (1 - cd))) r s u
theorem law (l : Launch) (x : Addr) (cd z : Int32) : Law l yN 1 0 0 0 yB 1 (some .boolean) site (P x cd z) (E cd) [] 0 0 := by
  refine Law.of_walk (plainFor_of_name (by decide +kernel)) (by decide +kernel) (by decide +kernel) (by decide) (fun _ _ h => by rw [h.1]; rfl) (fun _ U U' hal hh h => ⟨h.1, h.2.1.mv hal hh, h.2.2.1, h.2.2.2.1.there hal hh, h.2.2.2.2⟩) (fun r U U' V V' h1 hal h2 h => XT.PureE.mv r U U' V V' h1 hal h2 h) ?_
  intro p e s m args below meth c s₁ X0 hexec hbytes hml hret hlk hnm hown hh0 W hP
  obtain ⟨rfl, hx, hc, s1, hz⟩ := hP
  have c1 : Steps p.tables e below (s₁.setTop (entryFrame m #[.ref x] 1)) (s₁.setTop (mkF m 0 #[.val (.ref x)] [])) := entry rfl
  obtain ⟨T2, X2, q2, st2⟩ := X0.sget hexec hown (wk W (.fieldLink "java/lang/String" 38 "java/lang/String" "COMPACT_STRINGS" "Z")) s1 (fun _ _ h => by rw [hh0]; exact h) (g := (mkF m 0 #[.val (.ref x)] [])) rfl (hb hbytes d0)
  have hh2 := q2.trans hh0
  have c3 : Steps p.tables e below (s₁.setTop (entryFrame m #[.ref x] 1)) (T2.setTop (mkF m 7 #[.val (.ref x)] [.ref x])) := (c1.trans (st2 _ (Steps.refl _))).trans (by
    refine XS.ifNo X2.here hexec rfl (hb hbytes d3) rfl (i0_eq_f hz) ?_
    refine XS.aloadN X2.here hexec rfl (hb hbytes d6) rfl rfl ?_
    exact Steps.refl _)
  obtain ⟨T4, X4, q4, st4⟩ := X2.hget hexec hown (wk W (.fieldLink "java/lang/String" 15 "java/lang/String" "coder" "B")) (hx.mv X2.warmed.alike hh2) (g := (mkF m 7 #[.val (.ref x)] [.ref x])) rfl (rest := []) rfl (hb hbytes d7)
  have c5 : Steps p.tables e below (s₁.setTop (entryFrame m #[.ref x] 1)) (T4.setTop (mkF m 10 #[.val (.ref x)] [.int cd])) := c3.trans (st4 _ (Steps.refl _))
  have c6 : Steps p.tables e below (s₁.setTop (entryFrame m #[.ref x] 1)) (T4.setTop (mkF m 18 #[.val (.ref x)] [.int (1 - cd)])) := by
    rcases hc with rfl | rfl
    · exact c5.trans (by
        refine XS.ifNo X4.here hexec rfl (hb hbytes d10) rfl (i0_ne_f rfl) ?_
        refine iconstV X4.here hexec rfl 1 (hb hbytes d13) (by decide) ?_
        refine XS.goto X4.here hexec rfl (pc0 := 14) rfl (hb hbytes d14) (by decide) rfl ?_
        exact Steps.refl _)
    · exact c5.trans (by
        refine XS.ifYes X4.here hexec rfl (pc0 := 10) rfl (hb hbytes d10) rfl (i0_ne_t (by decide)) (by decide) rfl ?_
        refine iconstV X4.here hexec rfl 0 (hb hbytes d17) (by decide) ?_
        exact Steps.refl _)
  exact ⟨T4, some (.int (1 - cd)), _, _, _, X4, rfl, rfl, rfl, (fun h => by cases h), ⟨rfl, q4.trans hh2⟩, fun fs hl => c6.trans (X4.ireturnOut hexec hret (by rcases hc with rfl | rfl <;> rfl) (Or.inr (Or.inl rfl)) (hb hbytes d18) hl)⟩
end IsL
namespace LChA
def yN : MethodName := ⟨"java/lang/StringLatin1", "charAt", "([BI)C"⟩
abbrev yB : ByteArray := jdk_43_method_2_code
theorem d0 : decode yB 0 = .ok (.iload_n 1, 1) := by decide +kernel
theorem d1 : decode yB 1 = .ok (.aload_n 0, 1) := by decide +kernel
theorem d2 : decode yB 2 = .ok (.arraylength, 1) := by decide +kernel
theorem d3 : decode yB 3 = .ok (.invokestatic 9, 3) := by decide +kernel
theorem d6 : decode yB 6 = .ok (.aload_n 0, 1) := by decide +kernel
theorem d7 : decode yB 7 = .ok (.iload_n 1, 1) := by decide +kernel
theorem d8 : decode yB 8 = .ok (.baload, 1) := by decide +kernel
theorem d9 : decode yB 9 = .ok (.sipush 255, 3) := by decide +kernel
theorem d12 : decode yB 12 = .ok (.iand, 1) := by decide +kernel
theorem d13 : decode yB 13 = .ok (.i2c, 1) := by decide +kernel
theorem d14 : decode yB 14 = .ok (.ireturn, 1) := by decide +kernel
def site : List Cond := [JO.Str_checkIndex.tab] ++ staticW "java/lang/StringLatin1" 9 JO.Str_checkIndex.yN
def tab : Cond := tabOf yN yB 2 (some .char) site
def P (t : Addr) (V : Cell) (i : Nat) (u : Int32) (fm : Value) (args : Array Value) (s : State) : Prop := args = #[.ref t, .int (Int32.ofNat i)] ∧ XT.Arr .byte t V s ∧ V.slots[i]? = some (.int u) ∧ (StaticIs s "jdk/internal/util/Preconditions" "SIOOBE_FORMATTER" "Ljava/util/function/BiFunction;" fm ∧ fm.isRef = true)
def E (u : Int32) (r : Option Value) (s w : State) : Prop := XT.PureE (some (.int (chr8 u))) r s w
theorem law (l : Launch) (t : Addr) (V : Cell) (i : Nat) (u : Int32) (fm : Value) : Law l yN 2 2 2 27 yB 2 (some .char) site (P t V i u fm) (E u) [] 0 0 := by
  refine Law.of_walk (plainFor_of_name (by decide +kernel)) (by decide +kernel) (by decide +kernel) (by decide) (fun _ _ h => by rw [h.1]; rfl) (fun _ U U' hal hh h => ⟨h.1, h.2.1.mv hal hh, h.2.2.1, h.2.2.2.1.there hal hh, h.2.2.2.2⟩) (fun r U U' V V' h1 hal h2 h => XT.PureE.mv r U U' V V' h1 hal h2 h) ?_
  intro p e s m args below meth c s₁ X0 hexec hbytes hml hret hlk hnm hown hh0 W hP
  obtain ⟨rfl, hV, hu, s1, rf⟩ := hP
  have v31 := hV.2.2.2
  have hi : i < V.slots.size := (Array.getElem?_eq_some_iff.mp hu).1
  have c1 : Steps p.tables e below (s₁.setTop (entryFrame m #[.ref t, .int (Int32.ofNat i)] 2)) (s₁.setTop (mkF m 0 #[.val (.ref t), .val (.int (Int32.ofNat i))] [])) := entry rfl
  have c2 : Steps p.tables e below (s₁.setTop (entryFrame m #[.ref t, .int (Int32.ofNat i)] 2)) (s₁.setTop (mkF m 3 #[.val (.ref t), .val (.int (Int32.ofNat i))] [.int (Int32.ofNat V.slots.size), .int (Int32.ofNat i)])) := c1.trans (by
    refine XS.iloadN X0.here hexec rfl (hb hbytes d0) rfl ?_
    refine XS.aloadN X0.here hexec rfl (hb hbytes d1) rfl rfl ?_
    refine X0.alen hexec (hV.mv X0.warmed.alike hh0) rfl rfl (hb hbytes d2) ?_
    exact Steps.refl _)
  obtain ⟨v3, T3, X3, E3, g3⟩ := X0.callS hexec (JO.Str_checkIndex.law l (Int32.ofNat i) (Int32.ofNat V.slots.size) fm) hown (wks W (staticW "java/lang/StringLatin1" 9 JO.Str_checkIndex.yN)) (wk W JO.Str_checkIndex.tab) (W := 0) (Nat.le_of_ble_eq_true rfl) (Nat.le_of_ble_eq_true rfl) (Nat.le_refl _) (Nat.le_refl _) (g := (mkF m 3 #[.val (.ref t), .val (.int (Int32.ofNat i))] [.int (Int32.ofNat V.slots.size), .int (Int32.ofNat i)])) rfl (by rw [hml]; rfl) c2 (argsL := [.int (Int32.ofNat i), .int (Int32.ofNat V.slots.size)]) (rest := []) rfl rfl (by show 2 * 0 + 0 ≤ _; decide) (hb hbytes d3) (⟨rfl, rf, s1.there X0.warmed.alike hh0, Int32.ofNat_not_neg (by omega), lt32 v31 hi⟩)
  obtain ⟨rfl, q3⟩ := E3
  have hh3 := q3.trans hh0
  have c4 : Steps p.tables e below (s₁.setTop (entryFrame m #[.ref t, .int (Int32.ofNat i)] 2)) (T3.setTop (mkF m 14 #[.val (.ref t), .val (.int (Int32.ofNat i))] [.int (chr8 u)])) := Steps.trans g3 (by
    refine XS.aloadN X3.here hexec rfl (hb hbytes d6) rfl rfl ?_
    refine XS.iloadN X3.here hexec rfl (hb hbytes d7) rfl ?_
    refine X3.aget hexec (hV.mv X3.warmed.alike hh3) rfl hu rfl rfl (hb hbytes d8) ?_
    refine sipushV X3.here hexec rfl 255 (hb hbytes d9) (by decide) ?_
    refine XS.iand X3.here hexec rfl (hb hbytes d12) rfl ?_
    refine i2c X3.here hexec rfl (hb hbytes d13) rfl ?_
    exact Steps.refl _)
  exact ⟨T3, some (.int (chr8 u)), _, _, _, X3, rfl, rfl, rfl, (fun h => by cases h), ⟨rfl, hh3⟩, fun fs hl => c4.trans (X3.ireturnOut hexec hret (narrow_c _) (Or.inr (Or.inr (Or.inr (Or.inl rfl)))) (hb hbytes d14) hl)⟩
end LChA
end StrChars
namespace StrChars.Road
open Jvm Sem ClassFile Op Lib Jvm.Stand Jvm.Free Jvm.Free.XT
open Jvm.Lib.Cold (StaticIs)
theorem consq {a : Array Value} {s : State} {c : Jvm.Cond} {L : List Jvm.Cond} (h0 : c.before a s = true) (h : ∀ w ∈ L, w.before a s = true) : ∀ w ∈ c :: L, w.before a s = true := fun w hw => (List.mem_cons.mp hw).elim (fun e => e ▸ h0) (h w)
/-- the bytes of the chars cs, low before high -/
def wideBytes : List Int32 → List Value
  | [] => []
  | c :: cs => .int (lo8 c) :: .int (hi8 c) :: wideBytes cs
theorem wide_lo (d : Value) : ∀ (cs : List Int32) (j : Nat), j < cs.length → (wideBytes cs).getD (2 * j) d = .int (lo8 (cs.getD j 0))
  | [], j, h => absurd h (Nat.not_lt_zero j)
  | c :: cs, 0, _ => rfl
  | c :: cs, j + 1, h => by
    have q := wide_lo d cs j (by simpa using h)
    rw [show 2 * (j + 1) = 2 * j + 1 + 1 from by omega]
    simpa [wideBytes] using q
theorem wide_hi (d : Value) : ∀ (cs : List Int32) (j : Nat), j < cs.length → (wideBytes cs).getD (2 * j + 1) d = .int (hi8 (cs.getD j 0))
  | [], j, h => absurd h (Nat.not_lt_zero j)
  | c :: cs, 0, _ => rfl
  | c :: cs, j + 1, h => by
    have q := wide_hi d cs j (by simpa using h)
    rw [show 2 * (j + 1) + 1 = 2 * j + 1 + 1 + 1 from by omega]
    simpa [wideBytes] using q
theorem low_at (d : Value) (cs : List Int32) (j : Nat) (h : j < cs.length) : (cs.map fun c => Value.int (lo8 c)).getD j d = .int (lo8 (cs.getD j 0)) := by
  simp [List.getD_eq_getElem?_getD, h]
/-- an array of N2 bytes vs codes the chars cs by the coder cd -/
def CodA (cs : List Int32) (cd N2 : Int32) (vs : List Value) : Prop := (cd = 0 ∧ N2 = Int32.ofNat cs.length ∧ vs = (cs.map fun c => Value.int (lo8 c)) ∧ ∀ c ∈ cs, ¬ 255 < c) ∨ (cd = 1 ∧ N2 = Int32.ofNat (2 * cs.length) ∧ vs = wideBytes cs ∧ ∃ c ∈ cs, 255 < c)
theorem CodA.cod {cs : List Int32} {cd N2 : Int32} {vs : List Value} {V : Cell} (h : CodA cs cd N2 vs) (hn : 2 * cs.length < 2 ^ 31) (hs : V.slots.size = N2.toNatClampNeg) (hv : RoadKit.Has V vs (.int 0)) : Cod cd cs.length (fun j => cs.getD j 0) V := by
  rcases h with ⟨rfl, rfl, rfl, h⟩ | ⟨rfl, rfl, rfl, c, hc, hw⟩
  · rw [n32 (by omega)] at hs
    exact Or.inl ⟨rfl, hs, fun j hj => ⟨by rw [hv j (by omega), low_at _ _ _ hj], by
      have e : cs.getD j 0 = cs[j] := by simp [List.getD_eq_getElem?_getD, hj]
      show ¬ 255 < cs.getD j 0
      rw [e]; exact h _ (List.getElem_mem _)⟩⟩
  · rw [n32 (by omega)] at hs
    obtain ⟨j, hj, rfl⟩ := List.getElem_of_mem hc
    exact Or.inr ⟨rfl, hs, fun j hj => ⟨by rw [hv _ (by omega), wide_lo _ _ _ hj], by rw [hv _ (by omega), wide_hi _ _ _ hj]⟩, j, hj, by
      have e : cs.getD j 0 = cs[j] := by simp [List.getD_eq_getElem?_getD, hj]
      show 255 < cs.getD j 0
      rw [e]; exact hw⟩
/-- an object of exactly java/lang/String, its two fields found: as the laws ask it -/
theorem strObj {Z U : State} {a0 : Array Value} {kI : Nat} (wi : (Jvm.Cond.instantiable ST kI).before a0 Z = true) (al : Z.vm.Alike U.vm) {x : Addr} {v0 c0 : Value} (E : RoadKit.Exa Z U.heap x ST) (V : RoadKit.Fld Z U.heap x ST "value" "[B" v0) (C : RoadKit.Fld Z U.heap x ST "coder" "B" c0) :
    ∃ (D : Cell) (fV fC : Field), Blank ST x D U ∧ Found ST "value" "[B" fV U ∧ Found ST "coder" "B" fC U ∧ D.slots[fV.slot]? = some v0 ∧ D.slots[fC.slot]? = some c0 ∧ RoadKit.slotOf Z ST "value" "[B" = fV.slot ∧ RoadKit.slotOf Z ST "coder" "B" = fC.slot := by
  obtain ⟨D, cfV, kV, iV, fV, hD, gV, stV, knV, obV, asV, slV⟩ := V
  obtain ⟨D', cfC, kC, iC, fC, hD', gC, stC, -, -, asC, slC⟩ := C
  cases hD.symm.trans hD'
  obtain ⟨D2, kD, e1, e2, e3, e4, e5⟩ := E
  cases hD.symm.trans e1
  obtain ⟨c2, k2, i1, i2, i3, -⟩ := Cond.instantiable_spec wi
  cases e2.symm.trans i1
  cases e3.symm.trans i2
  obtain ⟨kU, u1, u2⟩ := al.2.2 _ _ e3
  exact ⟨D, fV, fC, ⟨hD, ⟨knV, fun q hq => by rw [hq] at obV; cases obV⟩, by rw [al.findClass]; exact e2, kU, u1, by rw [u2]; exact i3, by rw [u2]; exact e5 i3⟩, ⟨SBG.found_only al ⟨cfV, kV, iV, gV⟩, stV⟩, ⟨SBG.found_only al ⟨cfC, kC, iC, gC⟩, stC⟩, slV, slC, by simp [RoadKit.slotOf, gV], by simp [RoadKit.slotOf, gC]⟩
theorem sta_is {Z U : State} (al : Z.vm.Alike U.vm) {C n d : String} {v : Value} (S : RoadKit.Sta Z U.heap C n d v) : StaticIs U C n d v := by
  obtain ⟨cfS, iS, kS, fS, st, cS, t1, t2, t3, t4, t5, t6, t7⟩ := S
  exact StaticIs.there (s := { Z with heap := U.heap }) ⟨cfS, iS, kS, fS, st, cS, t1, t2, t3, t4, t5, (fun q => by rw [q] at t6; cases t6), t7⟩ al rfl
end StrChars.Road
namespace StrChars.Road
open Jvm Sem ClassFile Op Lib Jvm.Stand Jvm.Free Jvm.Free.XT
open Jvm.Lib.Cold (StaticIs)
/-- the road's facts of a String, as the laws ask it -/
theorem txt_of {Z U : State} {a0 : Array Value} {kI : Nat} (wi : (Jvm.Cond.instantiable ST kI).before a0 Z = true) (al : Z.vm.Alike U.vm) {x t : Addr} {kb : ClassId} {cs : List Int32} {cd N2 : Int32} {vs : List Value} (E : RoadKit.Exa Z U.heap x ST) (V : RoadKit.Fld Z U.heap x ST "value" "[B" (.ref t)) (C : RoadKit.Fld Z U.heap x ST "coder" "B" (.int cd)) (K : RoadKit.Arv Z U.heap t kb .byte N2 vs (.int 0)) (hc : CodA cs cd N2 vs) (hb : ∀ c ∈ cs, ¬ c < 0 ∧ ¬ (65535 : Int32) < c) (l2 : cs.length ≤ 4000) :
    ∃ A, Txt x t A cd cs.length (fun j => cs.getD j 0) U := by
  obtain ⟨A, K1, K2, K3, K4, K5, K6⟩ := K
  have hcod := hc.cod (by omega) K3 K5
  obtain ⟨D, fV, fC, hB, F1, F2, g1, g2, -, -⟩ := strObj wi al E V C
  exact ⟨A, ⟨_, hB.2.2.1, D, hB.1, rfl, by cases q : D.vm <;> first | rfl | exact absurd q (hB.2.1.2 _)⟩, Has.of hB F1 g1, Has.of hB F2 g2, ⟨K1.1, State.isArrayOf_alike al K1.2.1, K1.2.2, by rcases hcod with ⟨-, q, -⟩ | ⟨-, q, -⟩ <;> omega⟩, hcod, fun j hj => by
    have e : cs.getD j 0 = cs[j] := by simp [List.getD_eq_getElem?_getD, hj]
    show ¬ cs.getD j 0 < 0 ∧ ¬ 65535 < cs.getD j 0
    rw [e]; exact hb _ (List.getElem_mem _)⟩
end StrChars.Road
namespace StrChars
open Jvm Sem ClassFile Op Lib Jvm.Stand Jvm.Free.XT Jvm.Free.ALB Jvm.Free.JM Jvm.Free
open Jvm.Lib.Cold (StaticIs)
namespace ChN
def yN : MethodName := ⟨"java/lang/String", "charAt", "(I)C"⟩
abbrev yB : ByteArray := jdk_42_method_56_code
theorem d0 : decode yB 0 = .ok (.aload_n 0, 1) := by decide +kernel
theorem d1 : decode yB 1 = .ok (.invokevirtual 492, 3) := by decide +kernel
theorem d4 : decode yB 4 = .ok (.ifCond (.eq) 12, 3) := by decide +kernel
theorem d7 : decode yB 7 = .ok (.aload_n 0, 1) := by decide +kernel
theorem d8 : decode yB 8 = .ok (.getfield 9, 3) := by decide +kernel
theorem d11 : decode yB 11 = .ok (.iload_n 1, 1) := by decide +kernel
theorem d12 : decode yB 12 = .ok (.invokestatic 495, 3) := by decide +kernel
theorem d15 : decode yB 15 = .ok (.ireturn, 1) := by decide +kernel
def site : List Cond := [.fieldLink "java/lang/String" 9 "java/lang/String" "value" "[B", IsL.tab, LChA.tab] ++ virtW "java/lang/String" 492 "java/lang/String" IsL.yN IsL.yN ++ staticW "java/lang/String" 495 LChA.yN
def tab : Cond := tabOf yN yB 2 (some .char) site
def P (x t : Addr) (V : Cell) (n : Nat) (f : Nat → Int32) (z : Int32) (fm : Value) (i : Nat) (args : Array Value) (s : State) : Prop := args = #[.ref x, .int (Int32.ofNat i)] ∧ Txt x t V 0 n f s ∧ i < n ∧ StaticIs s "java/lang/String" "COMPACT_STRINGS" "Z" (.int z) ∧ ¬ z = 0 ∧ StaticIs s "jdk/internal/util/Preconditions" "SIOOBE_FORMATTER" "Ljava/util/function/BiFunction;" fm ∧ fm.isRef = true
def E (f : Nat → Int32) (i : Nat) (r : Option Value) (s u : State) : Prop := XT.PureE (some (.int (f i))) r s u
/-- charAt(i) of a Latin-1 String of n chars, i < n: f i -/
theorem law (l : Launch) (x t : Addr) (V : Cell) (n : Nat) (f : Nat → Int32) (z : Int32) (fm : Value) (i : Nat) : Law l yN 2 1 3 40 yB 2 (some .char) site (P x t V n f z fm i) (E f i) [] 0 0 := by
  refine Law.of_walk (plainFor_of_name (by decide +kernel)) (by decide +kernel) (by decide +kernel) (by decide) (fun _ _ h => by rw [h.1]; rfl) (fun _ U U' hal hh h => ⟨h.1, h.2.1.mv hal hh, h.2.2.1, h.2.2.2.1.there hal hh, h.2.2.2.2.1, h.2.2.2.2.2.1.there hal hh, h.2.2.2.2.2.2⟩) (fun r U U' V V' h1 hal h2 h => XT.PureE.mv r U U' V V' h1 hal h2 h) ?_
  intro p e s m args below meth c s₁ X0 hexec hbytes hml hret hlk hnm hown hh0 W hP
  obtain ⟨rfl, hx, hi, s1, hz, s3, rf⟩ := hP
  have v31 := hx.2.2.2.1.2.2.2
  have hr := hx.2.2.2.2.2 i hi
  have hx0 := hx.mv X0.warmed.alike hh0
  have c1 : Steps p.tables e below (s₁.setTop (entryFrame m #[.ref x, .int (Int32.ofNat i)] 2)) (s₁.setTop (mkF m 1 #[.val (.ref x), .val (.int (Int32.ofNat i))] [.ref x])) := Steps.trans (entry rfl) (by
    show Steps p.tables e below (s₁.setTop (mkF m 0 #[.val (.ref x), .val (.int (Int32.ofNat i))] [])) _
    refine XS.aloadN X0.here hexec rfl (hb hbytes d0) rfl rfl ?_
    exact Steps.refl _)
  obtain ⟨v2, T2, X2, E2, g2⟩ := X0.callV hexec (IsL.law l x 0 z) hown (wks W (virtW "java/lang/String" 492 "java/lang/String" IsL.yN IsL.yN)) rfl (by decide) (wk W IsL.tab) (W := 0) (Nat.le_of_ble_eq_true rfl) (Nat.le_of_ble_eq_true rfl) (Nat.le_refl _) (Nat.le_refl _) (hx0.1.fc X0.warmed.alike) hx0.1.is (g := (mkF m 1 #[.val (.ref x), .val (.int (Int32.ofNat i))] [.ref x])) rfl (by rw [hml]; rfl) c1 (argsL := []) (rest := []) rfl rfl (by show 2 * 0 + 0 ≤ _; decide) (hb hbytes d1) (⟨rfl, hx0.2.2.1, hx.2.2.2.2.1.cd, s1.there X0.warmed.alike hh0, hz⟩)
  obtain ⟨rfl, q2⟩ := E2
  have hh2 := q2.trans hh0
  have hx2 := hx.mv X2.warmed.alike hh2
  obtain ⟨-, k1, k2⟩ | ⟨k0, -⟩ := hx.2.2.2.2.1
  · have c3 : Steps p.tables e below (s₁.setTop (entryFrame m #[.ref x, .int (Int32.ofNat i)] 2)) (T2.setTop (mkF m 8 #[.val (.ref x), .val (.int (Int32.ofNat i))] [.ref x])) := Steps.trans g2 (by
      refine XS.ifNo X2.here hexec rfl (hb hbytes d4) rfl (i0_eq_f (by decide)) ?_
      refine XS.aloadN X2.here hexec rfl (hb hbytes d7) rfl rfl ?_
      exact Steps.refl _)
    obtain ⟨T4, X4, q4, st4⟩ := X2.hget hexec hown (wk W (.fieldLink "java/lang/String" 9 "java/lang/String" "value" "[B")) hx2.2.1 (g := (mkF m 8 #[.val (.ref x), .val (.int (Int32.ofNat i))] [.ref x])) rfl (rest := []) rfl (hb hbytes d8)
    have hh4 := q4.trans hh2
    have c5 : Steps p.tables e below (s₁.setTop (entryFrame m #[.ref x, .int (Int32.ofNat i)] 2)) (T4.setTop (mkF m 12 #[.val (.ref x), .val (.int (Int32.ofNat i))] [.int (Int32.ofNat i), .ref t])) := (c3.trans (st4 _ (Steps.refl _))).trans (by
      refine XS.iloadN X4.here hexec rfl (hb hbytes d11) rfl ?_
      exact Steps.refl _)
    obtain ⟨v6, T6, X6, E6, g6⟩ := X4.callS hexec (LChA.law l t V i (lo8 (f i)) fm) hown (wks W (staticW "java/lang/String" 495 LChA.yN)) (wk W LChA.tab) (W := 0) (Nat.le_of_ble_eq_true rfl) (Nat.le_of_ble_eq_true rfl) (Nat.le_refl _) (Nat.le_refl _) (g := (mkF m 12 #[.val (.ref x), .val (.int (Int32.ofNat i))] [.int (Int32.ofNat i), .ref t])) rfl (by rw [hml]; rfl) c5 (argsL := [.ref t, .int (Int32.ofNat i)]) (rest := []) rfl rfl (by show 2 * 0 + 0 ≤ _; decide) (hb hbytes d12) (⟨rfl, hx.2.2.2.1.mv X4.warmed.alike hh4, (k2 i hi).1, s3.there X4.warmed.alike hh4, rf⟩)
    obtain ⟨rfl, q6⟩ := E6
    rw [chr8_lo8 hr.1 (k2 i hi).2] at g6
    exact ⟨T6, some (.int (f i)), _, _, _, X6, rfl, rfl, rfl, (fun h => by cases h), ⟨rfl, q6.trans hh4⟩, fun fs hl => Steps.trans g6 (X6.ireturnOut hexec hret (narrow_ch hr.1 hr.2) (Or.inr (Or.inr (Or.inr (Or.inl rfl)))) (hb hbytes d15) hl)⟩
  · exact absurd k0 (by decide)
theorem pays {l : Launch} {R : Room} {p : Program} {e : Env} {below : List Frame} {s : State} {sargs : Array Value} {len W : Nat} (x t : Addr) (V : Cell) (n : Nat) (f : Nat → Int32) (z : Int32) (fm : Value) (i : Nat) (htab : tab.before sargs s = true) (hfr : 4 ≤ R.frames) (hlo : W + 53 ≤ R.locals) :
    Back l R p e below s sargs yN len W (fun A₁ a₁ => A₁.cells + 0 ≤ R.cells ∧ A₁.slots + 0 ≤ R.slots ∧ P x t V n f z fm i a₁ A₁.U) (fun A₁ _ v₁ B₁ => E f i v₁ A₁.U B₁.U ∧ B₁.locs = A₁.locs ++ [] ∧ B₁.cells = A₁.cells + 0 ∧ B₁.slots = A₁.slots + 0) :=
  (law l x t V n f z fm i).pays htab hfr (by omega)
end ChN
end StrChars
namespace StrChars.Road
open Jvm Sem ClassFile Op Lib Jvm.Stand Jvm.Free Jvm.Free.XT
open Jvm.Lib.Cold (StaticIs)
/-- the words of String.charAt(int), the Latin-1 road alone -/
abbrev wordsChN : List Jvm.Cond := [.code ChN.yN ChN.yB 2 (some .char), .initialized ST, .fieldLink ST 9 ST "value" "[B", .fieldLink ST 38 ST "COMPACT_STRINGS" "Z", .fieldLink ST 15 ST "coder" "B", .code IsL.yN IsL.yB 1 (some .boolean), .methodLink ST 492 IsL.yN, .declares IsL.yN, .selects ST IsL.yN IsL.yN, .instanceMethod IsL.yN,
  .methodLink ST 495 LChA.yN, .static LChA.yN, .code LChA.yN LChA.yB 2 (some .char), .initialized "java/lang/StringLatin1", .methodLink "java/lang/StringLatin1" 9 JO.Str_checkIndex.yN, .static JO.Str_checkIndex.yN, .code JO.Str_checkIndex.yN JO.Str_checkIndex.yB 2 none,
  .fieldLink ST 1053 "jdk/internal/util/Preconditions" "SIOOBE_FORMATTER" "Ljava/util/function/BiFunction;", .methodLink ST 1059 JC.PreCheck.yN, .static JC.PreCheck.yN, .code JC.PreCheck.yN JC.PreCheck.yB 3 (some .int), .initialized "jdk/internal/util/Preconditions"]
theorem tabChN_of {a : Array Value} {s : State} (h : ∀ w ∈ wordsChN, w.before a s = true) : ChN.tab.before a s = true := by
  have hp : JC.PreCheck.tab.before a s = true := unparts (wk h (.code JC.PreCheck.yN JC.PreCheck.yB 3 (some .int))) (wks h (.initialized JC.PreCheck.yN.cls :: JC.PreCheck.site))
  have qk := consq hp h
  have hk : JO.Str_checkIndex.tab.before a s = true := unparts (wk qk (.code JO.Str_checkIndex.yN JO.Str_checkIndex.yB 2 none)) (wks qk (.initialized JO.Str_checkIndex.yN.cls :: JO.Str_checkIndex.site))
  have ql := consq hk h
  have hl : LChA.tab.before a s = true := unparts (wk ql (.code LChA.yN LChA.yB 2 (some .char))) (wks ql (.initialized LChA.yN.cls :: LChA.site))
  have hi : IsL.tab.before a s = true := unparts (wk h (.code IsL.yN IsL.yB 1 (some .boolean))) (wks h (.initialized IsL.yN.cls :: IsL.site))
  have q := consq hi (consq hl h)
  exact unparts (wk q (.code ChN.yN ChN.yB 2 (some .char))) (wks q (.initialized ChN.yN.cls :: ChN.site))
theorem movedChN {Z s : State} {a0 args : Array Value} (hZ : Z.Warmed39 s.vm) (hw : ∀ d ∈ wordsChN, d.before a0 Z = true) : ∀ d ∈ wordsChN, d.before args s = true := fun d hd => by
  have t : ∀ d ∈ wordsChN, (d.onTables && d.keepsFace) = true := by decide +kernel
  exact RoadKit.mv hZ (hw d hd) (t d hd)
/-- **charAt(i) OF A LATIN-1 STRING**, i < n: the char -/
theorem chN {p : Program} {l : Launch} {e : Env} {R : Room} {s : State} {args : Array Value} {below : List Frame} {len W : Nat} {Z : State} {a0 : Array Value} {h : Heap} (hZ : Z.Warmed39 s.vm) (hw : ∀ d ∈ wordsChN, d.before a0 Z = true) {kI : Nat} (wi : (Jvm.Cond.instantiable ST kI).before a0 Z = true)
    {x t : Addr} {kb : ClassId} {cs : List Int32} {N2 z : Int32} {vs : List Value} {fm : Value} {i : Nat} {j : Int32} (E : RoadKit.Exa Z h x ST) (V : RoadKit.Fld Z h x ST "value" "[B" (.ref t)) (C : RoadKit.Fld Z h x ST "coder" "B" (.int 0)) (K : RoadKit.Arv Z h t kb .byte N2 vs (.int 0)) (hc : CodA cs 0 N2 vs) (hb : ∀ c ∈ cs, ¬ c < 0 ∧ ¬ (65535 : Int32) < c)
    (S : RoadKit.Sta Z h ST "COMPACT_STRINGS" "Z" (.int z)) (hz : ¬ z = 0) (F : RoadKit.Sta Z h "jdk/internal/util/Preconditions" "SIOOBE_FORMATTER" "Ljava/util/function/BiFunction;" fm) (rf : fm.isRef = true) (l2 : cs.length ≤ 4000) (hi : i < cs.length) (hj : j = Int32.ofNat i) (hfr : 4 ≤ R.frames) (hlo : W + 53 ≤ R.locals) :
    Back l R p e below s args (⟨"java/lang/String", "charAt", "(I)C"⟩ : MethodName) len W (fun P a => a = #[.ref x, .int j] ∧ P.U.heap = h ∧ P.cells + 0 ≤ R.cells ∧ P.slots + 0 ≤ R.slots)
      (fun P _ v B => ∃ L, (v = some (.int (cs.getD i 0)) ∧ L = [] ∧ B.U.heap = h) ∧ B.locs = P.locs ++ L ∧ B.cells = P.cells + 0 ∧ B.slots = P.slots + 0) := by
  subst hj
  intro m meth c P g ig mk a X hg hsize hdg hW hn hp'
  obtain ⟨rfl, rfl, r1, r2⟩ := hp'
  have al : Z.vm.Alike P.U.vm := hZ.alike.trans X.warmed.alike
  obtain ⟨A, hx⟩ := txt_of wi al E V C K hc hb l2
  obtain ⟨v, B, X', ⟨⟨hv, hh⟩, hl, hk, hs⟩, st⟩ := ChN.pays x t A cs.length (fun j => cs.getD j 0) z fm i (tabChN_of (movedChN hZ hw)) hfr hlo m meth c P g ig mk _ X hg hsize hdg hW hn ⟨r1, r2, rfl, hx, hi, sta_is al S, hz, sta_is al F, rf⟩
  exact ⟨v, B, X', ⟨[], ⟨hv, rfl, hh⟩, hl, hk, hs⟩, st⟩
/-- what backV says of its String, as the contracts of this text ask it: cs's low bytes, coder 0 -/
theorem codOf {cs : List Int32} {n : Nat} (hn : cs.length = n) (hb : ∀ c ∈ cs, ¬ 255 < c) : CodA cs 0 (Int32.ofNat n) ((cs.map lo8).map Value.int) := Or.inl ⟨rfl, by rw [hn], by simp [List.map_map, Function.comp_def], hb⟩
end StrChars.Road
end Jvm.Pilot.@@N@@
namespace Jvm.Pilot.@@N@@
open Jvm Jvm.ClassFile Sem Op Lib Jvm.Free Jvm.Stand Jvm.LawKit Jvm.RoadKit Bundle Jvm.Pilot.@@N@@.Jvm.D
theorem d1_0 : decode method_2_code 0 = .ok (.lload_n 0, 1) := by decide +kernel
theorem d1_1 : decode method_2_code 1 = .ok (.bipush 10, 2) := by decide +kernel
theorem d1_3 : decode method_2_code 3 = .ok (.iload_n 2, 1) := by decide +kernel
theorem d1_4 : decode method_2_code 4 = .ok (.imul, 1) := by decide +kernel
theorem d1_5 : decode method_2_code 5 = .ok (.lushr, 1) := by decide +kernel
theorem d1_6 : decode method_2_code 6 = .ok (.l2i, 1) := by decide +kernel
theorem d1_7 : decode method_2_code 7 = .ok (.sipush 1023, 3) := by decide +kernel
theorem d1_10 : decode method_2_code 10 = .ok (.iand, 1) := by decide +kernel
theorem d1_11 : decode method_2_code 11 = .ok (.istore_n 3, 1) := by decide +kernel
theorem d1_12 : decode method_2_code 12 = .ok (.iload_n 3, 1) := by decide +kernel
theorem d1_13 : decode method_2_code 13 = .ok (.iconst 3, 1) := by decide +kernel
theorem d1_14 : decode method_2_code 14 = .ok (.iand, 1) := by decide +kernel
theorem d1_15 : decode method_2_code 15 = .ok (.istore 4, 2) := by decide +kernel
theorem d1_17 : decode method_2_code 17 = .ok (.iload 4, 2) := by decide +kernel
theorem d1_19 : decode method_2_code 19 = .ok (.ifCond .ne 6, 3) := by decide +kernel
theorem d1_22 : decode method_2_code 22 = .ok (.bipush 40, 2) := by decide +kernel
theorem d1_24 : decode method_2_code 24 = .ok (.ireturn, 1) := by decide +kernel
theorem d1_25 : decode method_2_code 25 = .ok (.iload 4, 2) := by decide +kernel
theorem d1_27 : decode method_2_code 27 = .ok (.iconst 1, 1) := by decide +kernel
theorem d1_28 : decode method_2_code 28 = .ok (.if_icmp .ne 6, 3) := by decide +kernel
theorem d1_31 : decode method_2_code 31 = .ok (.bipush 41, 2) := by decide +kernel
theorem d1_33 : decode method_2_code 33 = .ok (.ireturn, 1) := by decide +kernel
theorem d1_34 : decode method_2_code 34 = .ok (.iload_n 3, 1) := by decide +kernel
theorem d1_35 : decode method_2_code 35 = .ok (.iconst 2, 1) := by decide +kernel
theorem d1_36 : decode method_2_code 36 = .ok (.iushr, 1) := by decide +kernel
theorem d1_37 : decode method_2_code 37 = .ok (.sipush 255, 3) := by decide +kernel
theorem d1_40 : decode method_2_code 40 = .ok (.iand, 1) := by decide +kernel
theorem d1_41 : decode method_2_code 41 = .ok (.i2c, 1) := by decide +kernel
theorem d1_42 : decode method_2_code 42 = .ok (.ireturn, 1) := by decide +kernel
theorem d8_0 : decode prog_71_method_4_code 0 = .ok (.new 30, 3) := by decide +kernel
theorem d8_3 : decode prog_71_method_4_code 3 = .ok (.dup, 1) := by decide +kernel
theorem d8_4 : decode prog_71_method_4_code 4 = .ok (.invokespecial 32, 3) := by decide +kernel
theorem d8_7 : decode prog_71_method_4_code 7 = .ok (.astore_n 3, 1) := by decide +kernel
theorem d8_8 : decode prog_71_method_4_code 8 = .ok (.iconst 0, 1) := by decide +kernel
theorem d8_9 : decode prog_71_method_4_code 9 = .ok (.istore 4, 2) := by decide +kernel
theorem d8_11 : decode prog_71_method_4_code 11 = .ok (.iload_n 1, 1) := by decide +kernel
theorem d8_12 : decode prog_71_method_4_code 12 = .ok (.istore 5, 2) := by decide +kernel
theorem d8_14 : decode prog_71_method_4_code 14 = .ok (.iload_n 1, 1) := by decide +kernel
theorem d8_15 : decode prog_71_method_4_code 15 = .ok (.istore 6, 2) := by decide +kernel
theorem d8_17 : decode prog_71_method_4_code 17 = .ok (.iload 6, 2) := by decide +kernel
theorem d8_19 : decode prog_71_method_4_code 19 = .ok (.iload_n 2, 1) := by decide +kernel
theorem d8_20 : decode prog_71_method_4_code 20 = .ok (.if_icmp .ge 69, 3) := by decide +kernel
theorem d8_23 : decode prog_71_method_4_code 23 = .ok (.aload_n 0, 1) := by decide +kernel
theorem d8_24 : decode prog_71_method_4_code 24 = .ok (.iload 6, 2) := by decide +kernel
theorem d8_26 : decode prog_71_method_4_code 26 = .ok (.invokevirtual 59, 3) := by decide +kernel
theorem d8_29 : decode prog_71_method_4_code 29 = .ok (.istore 7, 2) := by decide +kernel
theorem d8_31 : decode prog_71_method_4_code 31 = .ok (.iload 7, 2) := by decide +kernel
theorem d8_33 : decode prog_71_method_4_code 33 = .ok (.bipush 40, 2) := by decide +kernel
theorem d8_35 : decode prog_71_method_4_code 35 = .ok (.if_icmp .ne 18, 3) := by decide +kernel
theorem d8_38 : decode prog_71_method_4_code 38 = .ok (.iload 4, 2) := by decide +kernel
theorem d8_40 : decode prog_71_method_4_code 40 = .ok (.ifCond .ne 7, 3) := by decide +kernel
theorem d8_43 : decode prog_71_method_4_code 43 = .ok (.iload 6, 2) := by decide +kernel
theorem d8_45 : decode prog_71_method_4_code 45 = .ok (.istore 5, 2) := by decide +kernel
theorem d8_47 : decode prog_71_method_4_code 47 = .ok (.iinc 4 1, 3) := by decide +kernel
theorem d8_50 : decode prog_71_method_4_code 50 = .ok (.goto 33, 3) := by decide +kernel
theorem d8_53 : decode prog_71_method_4_code 53 = .ok (.iload 7, 2) := by decide +kernel
theorem d8_55 : decode prog_71_method_4_code 55 = .ok (.bipush 41, 2) := by decide +kernel
theorem d8_57 : decode prog_71_method_4_code 57 = .ok (.if_icmp .ne 26, 3) := by decide +kernel
theorem d8_60 : decode prog_71_method_4_code 60 = .ok (.iload 4, 2) := by decide +kernel
theorem d8_62 : decode prog_71_method_4_code 62 = .ok (.ifCond .le 21, 3) := by decide +kernel
theorem d8_65 : decode prog_71_method_4_code 65 = .ok (.iinc 4 (-1), 3) := by decide +kernel
theorem d8_68 : decode prog_71_method_4_code 68 = .ok (.iload 4, 2) := by decide +kernel
theorem d8_70 : decode prog_71_method_4_code 70 = .ok (.ifCond .ne 13, 3) := by decide +kernel
theorem d8_73 : decode prog_71_method_4_code 73 = .ok (.aload_n 3, 1) := by decide +kernel
theorem d8_74 : decode prog_71_method_4_code 74 = .ok (.iload 5, 2) := by decide +kernel
theorem d8_76 : decode prog_71_method_4_code 76 = .ok (.iload 6, 2) := by decide +kernel
theorem d8_78 : decode prog_71_method_4_code 78 = .ok (.iconst 1, 1) := by decide +kernel
theorem d8_79 : decode prog_71_method_4_code 79 = .ok (.iadd, 1) := by decide +kernel
theorem d8_80 : decode prog_71_method_4_code 80 = .ok (.invokevirtual 51, 3) := by decide +kernel
theorem d8_83 : decode prog_71_method_4_code 83 = .ok (.iinc 6 1, 3) := by decide +kernel
theorem d8_86 : decode prog_71_method_4_code 86 = .ok (.goto (-69), 3) := by decide +kernel
theorem d8_89 : decode prog_71_method_4_code 89 = .ok (.iload 4, 2) := by decide +kernel
theorem d8_91 : decode prog_71_method_4_code 91 = .ok (.ifCond .le 10, 3) := by decide +kernel
theorem d8_94 : decode prog_71_method_4_code 94 = .ok (.aload_n 3, 1) := by decide +kernel
theorem d8_95 : decode prog_71_method_4_code 95 = .ok (.iload 5, 2) := by decide +kernel
theorem d8_97 : decode prog_71_method_4_code 97 = .ok (.iload_n 2, 1) := by decide +kernel
theorem d8_98 : decode prog_71_method_4_code 98 = .ok (.invokevirtual 51, 3) := by decide +kernel
theorem d8_101 : decode prog_71_method_4_code 101 = .ok (.aload_n 3, 1) := by decide +kernel
theorem d8_102 : decode prog_71_method_4_code 102 = .ok (.invokevirtual 55, 3) := by decide +kernel
theorem d8_105 : decode prog_71_method_4_code 105 = .ok (.areturn, 1) := by decide +kernel
theorem d9_0 : decode prog_72_method_1_code 0 = .ok (.aload_n 0, 1) := by decide +kernel
theorem d9_1 : decode prog_72_method_1_code 1 = .ok (.invokespecial 1, 3) := by decide +kernel
theorem d9_4 : decode prog_72_method_1_code 4 = .ok (.aload_n 0, 1) := by decide +kernel
theorem d9_5 : decode prog_72_method_1_code 5 = .ok (.bipush 16, 2) := by decide +kernel
theorem d9_7 : decode prog_72_method_1_code 7 = .ok (.newarray .int, 2) := by decide +kernel
theorem d9_9 : decode prog_72_method_1_code 9 = .ok (.putfield 7, 3) := by decide +kernel
theorem d9_12 : decode prog_72_method_1_code 12 = .ok (.aload_n 0, 1) := by decide +kernel
theorem d9_13 : decode prog_72_method_1_code 13 = .ok (.aload_n 0, 1) := by decide +kernel
theorem d9_14 : decode prog_72_method_1_code 14 = .ok (.getfield 7, 3) := by decide +kernel
theorem d9_17 : decode prog_72_method_1_code 17 = .ok (.arraylength, 1) := by decide +kernel
theorem d9_18 : decode prog_72_method_1_code 18 = .ok (.newarray .int, 2) := by decide +kernel
theorem d9_20 : decode prog_72_method_1_code 20 = .ok (.putfield 13, 3) := by decide +kernel
theorem d9_23 : decode prog_72_method_1_code 23 = .ok (.return_, 1) := by decide +kernel
theorem d15_0 : decode prog_72_method_2_code 0 = .ok (.aload_n 0, 1) := by decide +kernel
theorem d15_1 : decode prog_72_method_2_code 1 = .ok (.getfield 16, 3) := by decide +kernel
theorem d15_4 : decode prog_72_method_2_code 4 = .ok (.aload_n 0, 1) := by decide +kernel
theorem d15_5 : decode prog_72_method_2_code 5 = .ok (.getfield 7, 3) := by decide +kernel
theorem d15_8 : decode prog_72_method_2_code 8 = .ok (.arraylength, 1) := by decide +kernel
theorem d15_9 : decode prog_72_method_2_code 9 = .ok (.if_icmp .ne 37, 3) := by decide +kernel
theorem d15_46 : decode prog_72_method_2_code 46 = .ok (.aload_n 0, 1) := by decide +kernel
theorem d15_47 : decode prog_72_method_2_code 47 = .ok (.getfield 7, 3) := by decide +kernel
theorem d15_50 : decode prog_72_method_2_code 50 = .ok (.aload_n 0, 1) := by decide +kernel
theorem d15_51 : decode prog_72_method_2_code 51 = .ok (.getfield 16, 3) := by decide +kernel
theorem d15_54 : decode prog_72_method_2_code 54 = .ok (.iload_n 1, 1) := by decide +kernel
theorem d15_55 : decode prog_72_method_2_code 55 = .ok (.iastore, 1) := by decide +kernel
theorem d15_56 : decode prog_72_method_2_code 56 = .ok (.aload_n 0, 1) := by decide +kernel
theorem d15_57 : decode prog_72_method_2_code 57 = .ok (.getfield 13, 3) := by decide +kernel
theorem d15_60 : decode prog_72_method_2_code 60 = .ok (.aload_n 0, 1) := by decide +kernel
theorem d15_61 : decode prog_72_method_2_code 61 = .ok (.getfield 16, 3) := by decide +kernel
theorem d15_64 : decode prog_72_method_2_code 64 = .ok (.iload_n 2, 1) := by decide +kernel
theorem d15_65 : decode prog_72_method_2_code 65 = .ok (.iastore, 1) := by decide +kernel
theorem d15_66 : decode prog_72_method_2_code 66 = .ok (.aload_n 0, 1) := by decide +kernel
theorem d15_67 : decode prog_72_method_2_code 67 = .ok (.dup, 1) := by decide +kernel
theorem d15_68 : decode prog_72_method_2_code 68 = .ok (.getfield 16, 3) := by decide +kernel
theorem d15_71 : decode prog_72_method_2_code 71 = .ok (.iconst 1, 1) := by decide +kernel
theorem d15_72 : decode prog_72_method_2_code 72 = .ok (.iadd, 1) := by decide +kernel
theorem d15_73 : decode prog_72_method_2_code 73 = .ok (.putfield 16, 3) := by decide +kernel
theorem d15_76 : decode prog_72_method_2_code 76 = .ok (.return_, 1) := by decide +kernel
theorem d16_0 : decode prog_72_method_3_code 0 = .ok (.new 26, 3) := by decide +kernel
theorem d16_3 : decode prog_72_method_3_code 3 = .ok (.dup, 1) := by decide +kernel
theorem d16_4 : decode prog_72_method_3_code 4 = .ok (.aload_n 0, 1) := by decide +kernel
theorem d16_5 : decode prog_72_method_3_code 5 = .ok (.getfield 7, 3) := by decide +kernel
theorem d16_8 : decode prog_72_method_3_code 8 = .ok (.aload_n 0, 1) := by decide +kernel
theorem d16_9 : decode prog_72_method_3_code 9 = .ok (.getfield 16, 3) := by decide +kernel
theorem d16_12 : decode prog_72_method_3_code 12 = .ok (.invokestatic 20, 3) := by decide +kernel
theorem d16_15 : decode prog_72_method_3_code 15 = .ok (.aload_n 0, 1) := by decide +kernel
theorem d16_16 : decode prog_72_method_3_code 16 = .ok (.getfield 13, 3) := by decide +kernel
theorem d16_19 : decode prog_72_method_3_code 19 = .ok (.aload_n 0, 1) := by decide +kernel
theorem d16_20 : decode prog_72_method_3_code 20 = .ok (.getfield 16, 3) := by decide +kernel
theorem d16_23 : decode prog_72_method_3_code 23 = .ok (.invokestatic 20, 3) := by decide +kernel
theorem d16_26 : decode prog_72_method_3_code 26 = .ok (.invokespecial 28, 3) := by decide +kernel
theorem d16_29 : decode prog_72_method_3_code 29 = .ok (.areturn, 1) := by decide +kernel
theorem d17_0 : decode jdk_65_method_123_code 0 = .ok (.iload_n 1, 1) := by decide +kernel
theorem d17_1 : decode jdk_65_method_123_code 1 = .ok (.aload_n 0, 1) := by decide +kernel
theorem d17_2 : decode jdk_65_method_123_code 2 = .ok (.arraylength, 1) := by decide +kernel
theorem d17_3 : decode jdk_65_method_123_code 3 = .ok (.if_icmp .ne 11, 3) := by decide +kernel
theorem d17_14 : decode jdk_65_method_123_code 14 = .ok (.iload_n 1, 1) := by decide +kernel
theorem d17_15 : decode jdk_65_method_123_code 15 = .ok (.newarray .int, 2) := by decide +kernel
theorem d17_17 : decode jdk_65_method_123_code 17 = .ok (.astore_n 2, 1) := by decide +kernel
theorem d17_18 : decode jdk_65_method_123_code 18 = .ok (.aload_n 0, 1) := by decide +kernel
theorem d17_19 : decode jdk_65_method_123_code 19 = .ok (.iconst 0, 1) := by decide +kernel
theorem d17_20 : decode jdk_65_method_123_code 20 = .ok (.aload_n 2, 1) := by decide +kernel
theorem d17_21 : decode jdk_65_method_123_code 21 = .ok (.iconst 0, 1) := by decide +kernel
theorem d17_22 : decode jdk_65_method_123_code 22 = .ok (.aload_n 0, 1) := by decide +kernel
theorem d17_23 : decode jdk_65_method_123_code 23 = .ok (.arraylength, 1) := by decide +kernel
theorem d17_24 : decode jdk_65_method_123_code 24 = .ok (.iload_n 1, 1) := by decide +kernel
theorem d17_25 : decode jdk_65_method_123_code 25 = .ok (.invokestatic 304, 3) := by decide +kernel
theorem d17_28 : decode jdk_65_method_123_code 28 = .ok (.invokestatic 150, 3) := by decide +kernel
theorem d17_31 : decode jdk_65_method_123_code 31 = .ok (.aload_n 2, 1) := by decide +kernel
theorem d17_32 : decode jdk_65_method_123_code 32 = .ok (.areturn, 1) := by decide +kernel
theorem d18_0 : decode jdk_29_method_69_code 0 = .ok (.iload_n 0, 1) := by decide +kernel
theorem d18_1 : decode jdk_29_method_69_code 1 = .ok (.iload_n 1, 1) := by decide +kernel
theorem d18_2 : decode jdk_29_method_69_code 2 = .ok (.if_icmp .gt 7, 3) := by decide +kernel
theorem d18_5 : decode jdk_29_method_69_code 5 = .ok (.iload_n 0, 1) := by decide +kernel
theorem d18_6 : decode jdk_29_method_69_code 6 = .ok (.goto 4, 3) := by decide +kernel
theorem d18_9 : decode jdk_29_method_69_code 9 = .ok (.iload_n 1, 1) := by decide +kernel
theorem d18_10 : decode jdk_29_method_69_code 10 = .ok (.ireturn, 1) := by decide +kernel
theorem d19_0 : decode prog_71_method_1_code 0 = .ok (.aload_n 0, 1) := by decide +kernel
theorem d19_1 : decode prog_71_method_1_code 1 = .ok (.invokespecial 1, 3) := by decide +kernel
theorem d19_4 : decode prog_71_method_1_code 4 = .ok (.aload_n 0, 1) := by decide +kernel
theorem d19_5 : decode prog_71_method_1_code 5 = .ok (.aload_n 1, 1) := by decide +kernel
theorem d19_6 : decode prog_71_method_1_code 6 = .ok (.putfield 7, 3) := by decide +kernel
theorem d19_9 : decode prog_71_method_1_code 9 = .ok (.aload_n 0, 1) := by decide +kernel
theorem d19_10 : decode prog_71_method_1_code 10 = .ok (.aload_n 2, 1) := by decide +kernel
theorem d19_11 : decode prog_71_method_1_code 11 = .ok (.putfield 13, 3) := by decide +kernel
theorem d19_14 : decode prog_71_method_1_code 14 = .ok (.return_, 1) := by decide +kernel
theorem d20_0 : decode method_3_code 0 = .ok (.iload_n 2, 1) := by decide +kernel
theorem d20_1 : decode method_3_code 1 = .ok (.iload_n 3, 1) := by decide +kernel
theorem d20_2 : decode method_3_code 2 = .ok (.if_icmp .lt 9, 3) := by decide +kernel
theorem d20_5 : decode method_3_code 5 = .ok (.iload_n 2, 1) := by decide +kernel
theorem d20_6 : decode method_3_code 6 = .ok (.iload 4, 2) := by decide +kernel
theorem d20_8 : decode method_3_code 8 = .ok (.if_icmp .lt 5, 3) := by decide +kernel
theorem d20_11 : decode method_3_code 11 = .ok (.iload_n 0, 1) := by decide +kernel
theorem d20_12 : decode method_3_code 12 = .ok (.ireturn, 1) := by decide +kernel
theorem d20_13 : decode method_3_code 13 = .ok (.iload_n 1, 1) := by decide +kernel
theorem d20_14 : decode method_3_code 14 = .ok (.bipush 40, 2) := by decide +kernel
theorem d20_16 : decode method_3_code 16 = .ok (.if_icmp .ne 7, 3) := by decide +kernel
theorem d20_19 : decode method_3_code 19 = .ok (.iload_n 0, 1) := by decide +kernel
theorem d20_20 : decode method_3_code 20 = .ok (.iconst 1, 1) := by decide +kernel
theorem d20_21 : decode method_3_code 21 = .ok (.iadd, 1) := by decide +kernel
theorem d20_22 : decode method_3_code 22 = .ok (.ireturn, 1) := by decide +kernel
theorem d20_23 : decode method_3_code 23 = .ok (.iload_n 1, 1) := by decide +kernel
theorem d20_24 : decode method_3_code 24 = .ok (.bipush 41, 2) := by decide +kernel
theorem d20_26 : decode method_3_code 26 = .ok (.if_icmp .ne 15, 3) := by decide +kernel
theorem d20_29 : decode method_3_code 29 = .ok (.iload_n 0, 1) := by decide +kernel
theorem d20_30 : decode method_3_code 30 = .ok (.ifCond .le 9, 3) := by decide +kernel
theorem d20_33 : decode method_3_code 33 = .ok (.iload_n 0, 1) := by decide +kernel
theorem d20_34 : decode method_3_code 34 = .ok (.iconst 1, 1) := by decide +kernel
theorem d20_35 : decode method_3_code 35 = .ok (.isub, 1) := by decide +kernel
theorem d20_36 : decode method_3_code 36 = .ok (.goto 4, 3) := by decide +kernel
theorem d20_39 : decode method_3_code 39 = .ok (.iconst 0, 1) := by decide +kernel
theorem d20_40 : decode method_3_code 40 = .ok (.ireturn, 1) := by decide +kernel
theorem d20_41 : decode method_3_code 41 = .ok (.iload_n 0, 1) := by decide +kernel
theorem d20_42 : decode method_3_code 42 = .ok (.ireturn, 1) := by decide +kernel
theorem d21_0 : decode method_4_code 0 = .ok (.iload_n 0, 1) := by decide +kernel
theorem d21_1 : decode method_4_code 1 = .ok (.iconst 1, 1) := by decide +kernel
theorem d21_2 : decode method_4_code 2 = .ok (.isub, 1) := by decide +kernel
theorem d21_3 : decode method_4_code 3 = .ok (.istore 6, 2) := by decide +kernel
theorem d21_5 : decode method_4_code 5 = .ok (.iload 6, 2) := by decide +kernel
theorem d21_7 : decode method_4_code 7 = .ok (.iload_n 3, 1) := by decide +kernel
theorem d21_8 : decode method_4_code 8 = .ok (.if_icmp .lt 25, 3) := by decide +kernel
theorem d21_11 : decode method_4_code 11 = .ok (.iload 6, 2) := by decide +kernel
theorem d21_13 : decode method_4_code 13 = .ok (.iload 4, 2) := by decide +kernel
theorem d21_15 : decode method_4_code 15 = .ok (.if_icmp .ge 18, 3) := by decide +kernel
theorem d21_18 : decode method_4_code 18 = .ok (.iload_n 2, 1) := by decide +kernel
theorem d21_19 : decode method_4_code 19 = .ok (.bipush 41, 2) := by decide +kernel
theorem d21_21 : decode method_4_code 21 = .ok (.if_icmp .ne 12, 3) := by decide +kernel
theorem d21_24 : decode method_4_code 24 = .ok (.iload_n 1, 1) := by decide +kernel
theorem d21_25 : decode method_4_code 25 = .ok (.iconst 1, 1) := by decide +kernel
theorem d21_26 : decode method_4_code 26 = .ok (.if_icmp .ne 7, 3) := by decide +kernel
theorem d21_29 : decode method_4_code 29 = .ok (.iconst 1, 1) := by decide +kernel
theorem d21_30 : decode method_4_code 30 = .ok (.goto 4, 3) := by decide +kernel
theorem d21_33 : decode method_4_code 33 = .ok (.iconst 0, 1) := by decide +kernel
theorem d21_34 : decode method_4_code 34 = .ok (.istore 7, 2) := by decide +kernel
theorem d21_36 : decode method_4_code 36 = .ok (.iload 7, 2) := by decide +kernel
theorem d21_38 : decode method_4_code 38 = .ok (.ifCond .ne 14, 3) := by decide +kernel
theorem d21_41 : decode method_4_code 41 = .ok (.iload_n 0, 1) := by decide +kernel
theorem d21_42 : decode method_4_code 42 = .ok (.iload 4, 2) := by decide +kernel
theorem d21_44 : decode method_4_code 44 = .ok (.if_icmp .ne 12, 3) := by decide +kernel
theorem d21_47 : decode method_4_code 47 = .ok (.iload 5, 2) := by decide +kernel
theorem d21_49 : decode method_4_code 49 = .ok (.ifCond .le 7, 3) := by decide +kernel
theorem d21_52 : decode method_4_code 52 = .ok (.iconst 1, 1) := by decide +kernel
theorem d21_53 : decode method_4_code 53 = .ok (.goto 4, 3) := by decide +kernel
theorem d21_56 : decode method_4_code 56 = .ok (.iconst 0, 1) := by decide +kernel
theorem d21_57 : decode method_4_code 57 = .ok (.ireturn, 1) := by decide +kernel
theorem d22_0 : decode prog_71_method_7_code 0 = .ok (.aload_n 0, 1) := by decide +kernel
theorem d22_1 : decode prog_71_method_7_code 1 = .ok (.getfield 7, 3) := by decide +kernel
theorem d22_4 : decode prog_71_method_7_code 4 = .ok (.iload_n 1, 1) := by decide +kernel
theorem d22_5 : decode prog_71_method_7_code 5 = .ok (.invokestatic 65, 3) := by decide +kernel
theorem d22_8 : decode prog_71_method_7_code 8 = .ok (.istore_n 2, 1) := by decide +kernel
theorem d22_9 : decode prog_71_method_7_code 9 = .ok (.iload_n 2, 1) := by decide +kernel
theorem d22_10 : decode prog_71_method_7_code 10 = .ok (.ifCond .lt 7, 3) := by decide +kernel
theorem d22_13 : decode prog_71_method_7_code 13 = .ok (.iload_n 2, 1) := by decide +kernel
theorem d22_14 : decode prog_71_method_7_code 14 = .ok (.goto 7, 3) := by decide +kernel
theorem d22_17 : decode prog_71_method_7_code 17 = .ok (.iload_n 2, 1) := by decide +kernel
theorem d22_18 : decode prog_71_method_7_code 18 = .ok (.ineg, 1) := by decide +kernel
theorem d22_19 : decode prog_71_method_7_code 19 = .ok (.iconst 1, 1) := by decide +kernel
theorem d22_20 : decode prog_71_method_7_code 20 = .ok (.isub, 1) := by decide +kernel
theorem d22_21 : decode prog_71_method_7_code 21 = .ok (.iconst 1, 1) := by decide +kernel
theorem d22_22 : decode prog_71_method_7_code 22 = .ok (.isub, 1) := by decide +kernel
theorem d22_23 : decode prog_71_method_7_code 23 = .ok (.istore_n 3, 1) := by decide +kernel
theorem d22_24 : decode prog_71_method_7_code 24 = .ok (.iload_n 3, 1) := by decide +kernel
theorem d22_25 : decode prog_71_method_7_code 25 = .ok (.ifCond .lt 17, 3) := by decide +kernel
theorem d22_28 : decode prog_71_method_7_code 28 = .ok (.iload_n 1, 1) := by decide +kernel
theorem d22_29 : decode prog_71_method_7_code 29 = .ok (.aload_n 0, 1) := by decide +kernel
theorem d22_30 : decode prog_71_method_7_code 30 = .ok (.getfield 13, 3) := by decide +kernel
theorem d22_33 : decode prog_71_method_7_code 33 = .ok (.iload_n 3, 1) := by decide +kernel
theorem d22_34 : decode prog_71_method_7_code 34 = .ok (.iaload, 1) := by decide +kernel
theorem d22_35 : decode prog_71_method_7_code 35 = .ok (.if_icmp .ge 7, 3) := by decide +kernel
theorem d22_38 : decode prog_71_method_7_code 38 = .ok (.iconst 1, 1) := by decide +kernel
theorem d22_39 : decode prog_71_method_7_code 39 = .ok (.goto 4, 3) := by decide +kernel
theorem d22_42 : decode prog_71_method_7_code 42 = .ok (.iconst 0, 1) := by decide +kernel
theorem d22_43 : decode prog_71_method_7_code 43 = .ok (.ireturn, 1) := by decide +kernel
theorem d23_0 : decode jdk_65_method_57_code 0 = .ok (.aload_n 0, 1) := by decide +kernel
theorem d23_1 : decode jdk_65_method_57_code 1 = .ok (.iconst 0, 1) := by decide +kernel
theorem d23_2 : decode jdk_65_method_57_code 2 = .ok (.aload_n 0, 1) := by decide +kernel
theorem d23_3 : decode jdk_65_method_57_code 3 = .ok (.arraylength, 1) := by decide +kernel
theorem d23_4 : decode jdk_65_method_57_code 4 = .ok (.iload_n 1, 1) := by decide +kernel
theorem d23_5 : decode jdk_65_method_57_code 5 = .ok (.invokestatic 209, 3) := by decide +kernel
theorem d23_8 : decode jdk_65_method_57_code 8 = .ok (.ireturn, 1) := by decide +kernel
theorem d24_0 : decode jdk_65_method_59_code 0 = .ok (.iload_n 1, 1) := by decide +kernel
theorem d24_1 : decode jdk_65_method_59_code 1 = .ok (.istore 4, 2) := by decide +kernel
theorem d24_3 : decode jdk_65_method_59_code 3 = .ok (.iload_n 2, 1) := by decide +kernel
theorem d24_4 : decode jdk_65_method_59_code 4 = .ok (.iconst 1, 1) := by decide +kernel
theorem d24_5 : decode jdk_65_method_59_code 5 = .ok (.isub, 1) := by decide +kernel
theorem d24_6 : decode jdk_65_method_59_code 6 = .ok (.istore 5, 2) := by decide +kernel
theorem d24_8 : decode jdk_65_method_59_code 8 = .ok (.iload 4, 2) := by decide +kernel
theorem d24_10 : decode jdk_65_method_59_code 10 = .ok (.iload 5, 2) := by decide +kernel
theorem d24_12 : decode jdk_65_method_59_code 12 = .ok (.if_icmp .gt 54, 3) := by decide +kernel
theorem d24_15 : decode jdk_65_method_59_code 15 = .ok (.iload 4, 2) := by decide +kernel
theorem d24_17 : decode jdk_65_method_59_code 17 = .ok (.iload 5, 2) := by decide +kernel
theorem d24_19 : decode jdk_65_method_59_code 19 = .ok (.iadd, 1) := by decide +kernel
theorem d24_20 : decode jdk_65_method_59_code 20 = .ok (.iconst 1, 1) := by decide +kernel
theorem d24_21 : decode jdk_65_method_59_code 21 = .ok (.iushr, 1) := by decide +kernel
theorem d24_22 : decode jdk_65_method_59_code 22 = .ok (.istore 6, 2) := by decide +kernel
theorem d24_24 : decode jdk_65_method_59_code 24 = .ok (.aload_n 0, 1) := by decide +kernel
theorem d24_25 : decode jdk_65_method_59_code 25 = .ok (.iload 6, 2) := by decide +kernel
theorem d24_27 : decode jdk_65_method_59_code 27 = .ok (.iaload, 1) := by decide +kernel
theorem d24_28 : decode jdk_65_method_59_code 28 = .ok (.istore 7, 2) := by decide +kernel
theorem d24_30 : decode jdk_65_method_59_code 30 = .ok (.iload 7, 2) := by decide +kernel
theorem d24_32 : decode jdk_65_method_59_code 32 = .ok (.iload_n 3, 1) := by decide +kernel
theorem d24_33 : decode jdk_65_method_59_code 33 = .ok (.if_icmp .ge 12, 3) := by decide +kernel
theorem d24_36 : decode jdk_65_method_59_code 36 = .ok (.iload 6, 2) := by decide +kernel
theorem d24_38 : decode jdk_65_method_59_code 38 = .ok (.iconst 1, 1) := by decide +kernel
theorem d24_39 : decode jdk_65_method_59_code 39 = .ok (.iadd, 1) := by decide +kernel
theorem d24_40 : decode jdk_65_method_59_code 40 = .ok (.istore 4, 2) := by decide +kernel
theorem d24_42 : decode jdk_65_method_59_code 42 = .ok (.goto 21, 3) := by decide +kernel
theorem d24_45 : decode jdk_65_method_59_code 45 = .ok (.iload 7, 2) := by decide +kernel
theorem d24_47 : decode jdk_65_method_59_code 47 = .ok (.iload_n 3, 1) := by decide +kernel
theorem d24_48 : decode jdk_65_method_59_code 48 = .ok (.if_icmp .le 12, 3) := by decide +kernel
theorem d24_51 : decode jdk_65_method_59_code 51 = .ok (.iload 6, 2) := by decide +kernel
theorem d24_53 : decode jdk_65_method_59_code 53 = .ok (.iconst 1, 1) := by decide +kernel
theorem d24_54 : decode jdk_65_method_59_code 54 = .ok (.isub, 1) := by decide +kernel
theorem d24_55 : decode jdk_65_method_59_code 55 = .ok (.istore 5, 2) := by decide +kernel
theorem d24_57 : decode jdk_65_method_59_code 57 = .ok (.goto 6, 3) := by decide +kernel
theorem d24_60 : decode jdk_65_method_59_code 60 = .ok (.iload 6, 2) := by decide +kernel
theorem d24_62 : decode jdk_65_method_59_code 62 = .ok (.ireturn, 1) := by decide +kernel
theorem d24_63 : decode jdk_65_method_59_code 63 = .ok (.goto (-55), 3) := by decide +kernel
theorem d24_66 : decode jdk_65_method_59_code 66 = .ok (.iload 4, 2) := by decide +kernel
theorem d24_68 : decode jdk_65_method_59_code 68 = .ok (.iconst 1, 1) := by decide +kernel
theorem d24_69 : decode jdk_65_method_59_code 69 = .ok (.iadd, 1) := by decide +kernel
theorem d24_70 : decode jdk_65_method_59_code 70 = .ok (.ineg, 1) := by decide +kernel
theorem d24_71 : decode jdk_65_method_59_code 71 = .ok (.ireturn, 1) := by decide +kernel
theorem d25_0 : decode prog_71_method_5_code 0 = .ok (.aload_n 0, 1) := by decide +kernel
theorem d25_1 : decode prog_71_method_5_code 1 = .ok (.getfield 13, 3) := by decide +kernel
theorem d25_4 : decode prog_71_method_5_code 4 = .ok (.iload_n 1, 1) := by decide +kernel
theorem d25_5 : decode prog_71_method_5_code 5 = .ok (.invokestatic 65, 3) := by decide +kernel
theorem d25_8 : decode prog_71_method_5_code 8 = .ok (.istore_n 2, 1) := by decide +kernel
theorem d25_9 : decode prog_71_method_5_code 9 = .ok (.iload_n 2, 1) := by decide +kernel
theorem d25_10 : decode prog_71_method_5_code 10 = .ok (.ifCond .lt 10, 3) := by decide +kernel
theorem d25_13 : decode prog_71_method_5_code 13 = .ok (.aload_n 0, 1) := by decide +kernel
theorem d25_14 : decode prog_71_method_5_code 14 = .ok (.getfield 13, 3) := by decide +kernel
theorem d25_17 : decode prog_71_method_5_code 17 = .ok (.iload_n 2, 1) := by decide +kernel
theorem d25_18 : decode prog_71_method_5_code 18 = .ok (.iaload, 1) := by decide +kernel
theorem d25_19 : decode prog_71_method_5_code 19 = .ok (.ireturn, 1) := by decide +kernel
theorem d25_20 : decode prog_71_method_5_code 20 = .ok (.iload_n 2, 1) := by decide +kernel
theorem d25_21 : decode prog_71_method_5_code 21 = .ok (.ineg, 1) := by decide +kernel
theorem d25_22 : decode prog_71_method_5_code 22 = .ok (.iconst 2, 1) := by decide +kernel
theorem d25_23 : decode prog_71_method_5_code 23 = .ok (.isub, 1) := by decide +kernel
theorem d25_24 : decode prog_71_method_5_code 24 = .ok (.istore_n 3, 1) := by decide +kernel
theorem d25_25 : decode prog_71_method_5_code 25 = .ok (.iload_n 3, 1) := by decide +kernel
theorem d25_26 : decode prog_71_method_5_code 26 = .ok (.ifCond .lt 12, 3) := by decide +kernel
theorem d25_29 : decode prog_71_method_5_code 29 = .ok (.aload_n 0, 1) := by decide +kernel
theorem d25_30 : decode prog_71_method_5_code 30 = .ok (.getfield 13, 3) := by decide +kernel
theorem d25_33 : decode prog_71_method_5_code 33 = .ok (.iload_n 3, 1) := by decide +kernel
theorem d25_34 : decode prog_71_method_5_code 34 = .ok (.iaload, 1) := by decide +kernel
theorem d25_35 : decode prog_71_method_5_code 35 = .ok (.goto 4, 3) := by decide +kernel
theorem d25_38 : decode prog_71_method_5_code 38 = .ok (.iconst (-1), 1) := by decide +kernel
theorem d25_39 : decode prog_71_method_5_code 39 = .ok (.ireturn, 1) := by decide +kernel
theorem pn_0 : plainName "com/example/covenantry/covenantry/read/MatchesBracketsPinLaw" = true := by first | (simp [plainName, overriddenIn]; done) | decide +kernel
theorem pn_1 : plainName "java/util/Arrays" = true := by first | (simp [plainName, overriddenIn]; done) | decide +kernel
theorem pd_0 : parseMethodDescriptor "([IIII)I" = some ⟨[(.array .int), .int, .int, .int], some .int⟩ := by decide +kernel
theorem pn_2 : plainName "com/example/covenantry/covenantry/read/Text$Matches" = true := by first | (simp [plainName, overriddenIn]; done) | decide +kernel
theorem pd_1 : parseMethodDescriptor "([II)I" = some ⟨[(.array .int), .int], some .int⟩ := by decide +kernel
theorem pn_3 : plainName "com/example/covenantry/covenantry/read/Text$Matches$Found" = true := by first | (simp [plainName, overriddenIn]; done) | decide +kernel
theorem pd_2 : parseMethodDescriptor "(II)I" = some ⟨[.int, .int], some .int⟩ := by decide +kernel
theorem pd_3 : parseMethodDescriptor "([II)[I" = some ⟨[(.array .int), .int], some (.array .int)⟩ := by decide +kernel
theorem pd_4 : parseMethodDescriptor "([I[I)V" = some ⟨[(.array .int), (.array .int)], none⟩ := by decide +kernel
theorem pd_5 : parseMethodDescriptor "()V" = some ⟨[], none⟩ := by decide +kernel
theorem pd_6 : parseMethodDescriptor "()Lcom/example/covenantry/covenantry/read/Text$Matches;" = some ⟨[], some (.object "com/example/covenantry/covenantry/read/Text$Matches")⟩ := by decide +kernel
theorem pd_7 : parseMethodDescriptor "(II)V" = some ⟨[.int, .int], none⟩ := by decide +kernel
theorem pd_8 : parseMethodDescriptor "(I)C" = some ⟨[.int], some .char⟩ := by decide +kernel
theorem pd_9 : parseMethodDescriptor "(JI)C" = some ⟨[.long, .int], some .char⟩ := by decide +kernel
theorem pd_10 : parseMethodDescriptor "([C)V" = some ⟨[(.array .char)], none⟩ := by decide +kernel
theorem pd_11 : parseMethodDescriptor "(Ljava/lang/String;II)Lcom/example/covenantry/covenantry/read/Text$Matches;" = some ⟨[(.object "java/lang/String"), .int, .int], some (.object "com/example/covenantry/covenantry/read/Text$Matches")⟩ := by decide +kernel
theorem pd_12 : parseMethodDescriptor "(ICIII)I" = some ⟨[.int, .char, .int, .int, .int], some .int⟩ := by decide +kernel
theorem pd_13 : parseMethodDescriptor "(IICIII)Z" = some ⟨[.int, .int, .char, .int, .int, .int], some .boolean⟩ := by decide +kernel
theorem pd_14 : parseMethodDescriptor "(I)Z" = some ⟨[.int], some .boolean⟩ := by decide +kernel
theorem pd_15 : parseMethodDescriptor "(I)I" = some ⟨[.int], some .int⟩ := by decide +kernel
theorem own_nat {n : Nat} (h : n < 2147483648) : (Int32.ofNat n).toInt = n := Int32.toInt_ofNat_small h
theorem own_clamp {n : Nat} (h : n < 2147483648) : (Int32.ofNat n).toNatClampNeg = n := by simp only [Int32.toNatClampNeg, own_nat h]; rfl
theorem own_nlt {i n : Nat} (hi : i < 2147483648) (hn : n < 2147483648) : Int32.ofNat i < Int32.ofNat n ↔ i < n := by rw [Int32.lt_iff_toInt_lt, own_nat hi, own_nat hn]; omega
theorem own_ninj {i n : Nat} (hi : i < 2147483648) (hn : n < 2147483648) : Int32.ofNat i = Int32.ofNat n ↔ i = n := by rw [← Int32.toInt_inj, own_nat hi, own_nat hn]; omega
theorem own_succ {i : Nat} : Int32.ofNat i + (1 : Int32) = Int32.ofNat (i + 1) := by rw [Int32.ofNat_add]; rfl
theorem own_nn {n : Nat} (h : n < 2147483648) : ¬ Int32.ofNat n < 0 := by rw [Int32.lt_iff_toInt_lt, own_nat h]; show ¬ (n : Int) < 0; omega
def own_next (d c p f t : Int32) : Int32 := if p < f then d else if p < t then (if c = 40 then d + 1 else if c = 41 then (if 0 < d then d - 1 else 0) else d) else d
def own_isEnd (q d c f t fin : Int32) : Int32 := if (¬ (q - 1) < f ∧ (q - 1) < t ∧ c = 41 ∧ d = 1) ∨ (q = t ∧ 0 < fin) then 1 else 0
def own_min (u w : Int32) : Int32 := if w < u then w else u
def own_bits (s : Int64) (i : Int32) : Int32 := ((s.toUInt64 >>> (((10 : Int32) * i) &&& 0x3f).toInt64.toUInt64).toInt64.toInt32) &&& 1023
def own_pick (s : Int64) (i : Int32) : Int32 := if own_bits s i &&& 3 = 0 then 40 else if own_bits s i &&& 3 = 1 then 41 else nar .char ((((own_bits s i).toUInt32 >>> ((2 : Int32) &&& 31).toUInt32).toInt32 &&& 255).toUInt32.toUInt16.toUInt32.toInt32)
def own_bs (xs : List Int32) (key : Int32) : Nat → Nat → Nat → Int32
  | 0, lo, _ => -(Int32.ofNat lo + 1)
  | f + 1, lo, hi => if lo < hi then (if xs.getD ((lo + hi - 1) / 2) 0 < key then own_bs xs key f ((lo + hi - 1) / 2 + 1) hi else if key < xs.getD ((lo + hi - 1) / 2) 0 then own_bs xs key f lo ((lo + hi - 1) / 2) else Int32.ofNat ((lo + hi - 1) / 2)) else -(Int32.ofNat lo + 1)
def own_find (xs : List Int32) (key : Int32) : Int32 := own_bs xs key xs.length 0 xs.length
theorem own_mid_all : ∀ lo hi : Fin 17, lo.val < hi.val → ((Int32.ofNat lo.val + (Int32.ofNat hi.val - (1 : Int32))).toUInt32 >>> ((1 : Int32) &&& 31).toUInt32).toInt32 = Int32.ofNat ((lo.val + hi.val - 1) / 2) := by decide +kernel
theorem own_mid {lo hi : Nat} (h : lo < hi) (hh : hi ≤ 16) : ((Int32.ofNat lo + (Int32.ofNat hi - (1 : Int32))).toUInt32 >>> ((1 : Int32) &&& 31).toUInt32).toInt32 = Int32.ofNat ((lo + hi - 1) / 2) := own_mid_all ⟨lo, by omega⟩ ⟨hi, by omega⟩ h
theorem own_gap_all : ∀ lo hi : Fin 17, ((Int32.ofNat hi.val - (1 : Int32)) < Int32.ofNat lo.val) = (¬ lo.val < hi.val) := by decide +kernel
theorem own_gap {lo hi : Nat} (hl : lo ≤ 16) (hh : hi ≤ 16) : ((Int32.ofNat hi - (1 : Int32)) < Int32.ofNat lo) = (¬ lo < hi) := own_gap_all ⟨lo, by omega⟩ ⟨hi, by omega⟩
theorem own_os6 {a : Addr} {b c d e g v : Int32} {s6 s7 : Slot} (h : One s6) : storeLocals #[.val (.ref a), .val (.int b), .val (.int c), .val (.int d), .val (.int e), .val (.int g), s6, s7] 6 (.int v) = some #[.val (.ref a), .val (.int b), .val (.int c), .val (.int d), .val (.int e), .val (.int g), .val (.int v), s7] := by
  rcases h with rfl | ⟨w, rfl, hw⟩
  · rfl
  · cases w <;> first | rfl | (simp [Value.category] at hw)
theorem own_os7 {a : Addr} {b c d e g f v : Int32} {s7 : Slot} (h : One s7) : storeLocals #[.val (.ref a), .val (.int b), .val (.int c), .val (.int d), .val (.int e), .val (.int g), .val (.int f), s7] 7 (.int v) = some #[.val (.ref a), .val (.int b), .val (.int c), .val (.int d), .val (.int e), .val (.int g), .val (.int f), .val (.int v)] := by
  rcases h with rfl | ⟨w, rfl, hw⟩
  · rfl
  · cases w <;> first | rfl | (simp [Value.category] at hw)
theorem own_one (v : Int32) : One (.val (.int v)) := Or.inr ⟨_, rfl, rfl⟩
theorem own_bget (bs : List Int32) (j : Nat) : (bs.map Value.int).getD j (.int 0) = .int (bs.getD j 0) := by
  simp only [List.getD_eq_getElem?_getD, List.getElem?_map]
  cases bs[j]? <;> rfl
theorem own_bs_rng (xs : List Int32) (key : Int32) (n : Nat) (hn : n ≤ 16) : ∀ f lo hi, lo ≤ hi → hi ≤ n → (0 ≤ (own_bs xs key f lo hi).toInt ∧ (own_bs xs key f lo hi).toInt < n) ∨ (-(n + 1 : Int) ≤ (own_bs xs key f lo hi).toInt ∧ (own_bs xs key f lo hi).toInt ≤ -1) := by
  have hneg : ∀ lo : Nat, lo ≤ n → (-(Int32.ofNat lo + 1)).toInt = -(lo + 1 : Int) := fun lo h => by
    have e1 : (Int32.ofNat lo).toInt = lo := own_nat (by omega)
    have e2 : (Int32.ofNat lo + 1).toInt = lo + 1 := by rw [Jvm.Kit.i32_add] <;> rw [e1] <;> simp <;> omega
    rw [Jvm.Kit.i32_neg (by rw [e2]; omega), e2]
  intro f
  induction f with
  | zero => intro lo hi h1 h2; right; unfold own_bs; rw [hneg lo (by omega)]; omega
  | succ f ih =>
    intro lo hi h1 h2
    unfold own_bs
    split
    · split
      · exact ih _ _ (by omega) h2
      · split
        · exact ih _ _ (by omega) (by omega)
        · left; rw [own_nat (by omega)]; omega
    · right; rw [hneg lo (by omega)]; omega
theorem own_find_rng (xs : List Int32) (key : Int32) (hn : xs.length ≤ 16) : (0 ≤ (own_find xs key).toInt ∧ (own_find xs key).toInt < xs.length) ∨ (-(xs.length + 1 : Int) ≤ (own_find xs key).toInt ∧ (own_find xs key).toInt ≤ -1) := own_bs_rng xs key _ hn _ _ _ (by omega) (Nat.le_refl _)
def own_holds (ss es : List Int32) (k : Int32) : Int32 := if own_find ss k < 0 then (if (-(own_find ss k) - 1 - 1) < 0 then 0 else if k < es.getD (-(own_find ss k) - 1 - 1).toNatClampNeg 0 then 1 else 0) else (if (own_find ss k - 1) < 0 then 0 else if k < es.getD (own_find ss k - 1).toNatClampNeg 0 then 1 else 0)
def own_lastEnd (es : List Int32) (k : Int32) : Int32 := if own_find es k < 0 then (if (-(own_find es k) - 2) < 0 then -1 else es.getD (-(own_find es k) - 2).toNatClampNeg 0) else es.getD (own_find es k).toNatClampNeg 0
theorem own_lt0 {x : Int32} : x < (0 : Int32) ↔ x.toInt < 0 := by rw [Int32.lt_iff_toInt_lt]; rfl
theorem own_inb {x : Int32} {n : Nat} {c : Cell} (S : c.slots.size = n) (h0 : 0 ≤ x.toInt) (h1 : x.toInt < n) : ¬ (x < 0 ∨ c.slots.size ≤ x.toNatClampNeg) := by
  rw [S, own_lt0]; intro q; rcases q with q | q
  · omega
  · have e : x.toNatClampNeg = x.toInt.toNat := rfl
    rw [e] at q; omega
theorem own_b1 {x : Int32} {n : Nat} (hn : n ≤ 16) (h : -(n + 1 : Int) ≤ x.toInt ∧ x.toInt ≤ -1) (hb : ¬ (-x - (1 : Int32) - (1 : Int32)) < (0 : Int32)) : 0 ≤ (-x - (1 : Int32) - (1 : Int32)).toInt ∧ (-x - (1 : Int32) - (1 : Int32)).toInt < n := by
  rw [own_lt0] at hb
  have z : (1 : Int32).toInt = 1 := rfl
  have e1 : (-x).toInt = -x.toInt := Jvm.Kit.i32_neg (by omega)
  have e2 : (-x - (1 : Int32)).toInt = -x.toInt - 1 := by rw [Jvm.Kit.i32_sub] <;> rw [e1, z] <;> omega
  have e3 : (-x - (1 : Int32) - (1 : Int32)).toInt = -x.toInt - 1 - 1 := by rw [Jvm.Kit.i32_sub] <;> rw [e2, z] <;> omega
  rw [e3] at hb ⊢; omega
theorem own_b2 {x : Int32} {n : Nat} (hn : n ≤ 16) (h : 0 ≤ x.toInt ∧ x.toInt < n) (hb : ¬ (x - (1 : Int32)) < (0 : Int32)) : 0 ≤ (x - (1 : Int32)).toInt ∧ (x - (1 : Int32)).toInt < n := by
  rw [own_lt0] at hb
  have z : (1 : Int32).toInt = 1 := rfl
  have e2 : (x - (1 : Int32)).toInt = x.toInt - 1 := by rw [Jvm.Kit.i32_sub] <;> rw [z] <;> omega
  rw [e2] at hb ⊢; omega
theorem own_b3 {x : Int32} {n : Nat} (hn : n ≤ 16) (h : -(n + 1 : Int) ≤ x.toInt ∧ x.toInt ≤ -1) (hb : ¬ (-x - (2 : Int32)) < (0 : Int32)) : 0 ≤ (-x - (2 : Int32)).toInt ∧ (-x - (2 : Int32)).toInt < n := by
  rw [own_lt0] at hb
  have z : (2 : Int32).toInt = 2 := rfl
  have e1 : (-x).toInt = -x.toInt := Jvm.Kit.i32_neg (by omega)
  have e2 : (-x - (2 : Int32)).toInt = -x.toInt - 2 := by rw [Jvm.Kit.i32_sub] <;> rw [e1, z] <;> omega
  rw [e2] at hb ⊢; omega
/-- a Found that holds the pairs ss, es -/
def FoA (Z : State) (h : Heap) (n0 : Nat) (fo sa ea : Addr) (ks ke : ClassId) (ss es : List Int32) : Prop :=
  Exa Z h fo "com/example/covenantry/covenantry/read/Text$Matches$Found" ∧ Fld Z h fo "com/example/covenantry/covenantry/read/Text$Matches$Found" "starts" "[I" (.ref sa) ∧ Fld Z h fo "com/example/covenantry/covenantry/read/Text$Matches$Found" "ends" "[I" (.ref ea) ∧ Fld Z h fo "com/example/covenantry/covenantry/read/Text$Matches$Found" "count" "I" (.int (Int32.ofNat ss.length)) ∧
    Arv Z h sa ks .int (16 : Int32) (ss.map Value.int) (.int 0) ∧ Arv Z h ea ke .int (16 : Int32) (es.map Value.int) (.int 0) ∧ sa ≠ ea ∧ n0 ≤ fo ∧ n0 ≤ sa ∧ n0 ≤ ea ∧ es.length = ss.length
theorem own_push {Z : State} {h h' : Heap} {a : Addr} {k : ClassId} {z v : Int32} {c : Cell} {xs : List Int32} (A : Arr Z h a c .int) (q1 : c.cls = k) (S : c.slots.size = z.toNatClampNeg) (q3 : ¬ z < 0) (H : Has c (xs.map Value.int) (.int 0)) (G : ∀ i, i < c.slots.size → fits .int ((xs.map Value.int).getD i (.int 0)) = true)
    (hn : xs.length < 2147483648) (W : Wr h h' a (Int32.ofNat xs.length).toNatClampNeg (.int v)) : Arv Z h' a k .int z ((xs ++ [v]).map Value.int) (.int 0) := by
  have P : Arv Z h a k .int z (xs.map Value.int ++ [.int 0]) (.int 0) := Arv.pad ⟨c, A, q1, S, q3, H, G⟩ (pad_rep _ _ 1)
  obtain ⟨c', A', r1, r2, r3, r4, r5⟩ := P
  have e := Arv.set A' r1 r2 r3 r4 r5 (v := .int v) rfl W xs.length (own_clamp hn) (by simp)
  have e2 : (xs.map Value.int ++ [Value.int 0]).set xs.length (.int v) = (xs ++ [v]).map Value.int := by
    rw [List.map_append, List.set_append_right _ _ (by simp)]; simp
  rw [e2] at e; exact e
theorem own_minn {n : Nat} (h : n < 16) : own_min (16 : Int32) (Int32.ofNat n) = Int32.ofNat n := by
  unfold own_min
  rw [if_pos]
  rw [show (16 : Int32) = Int32.ofNat 16 from rfl, own_nlt (by omega) (by omega)]; omega
theorem own_cp (xs : List Int32) : (List.replicate xs.length (Value.int 0)).take (0 : Int32).toNatClampNeg ++ ((List.range (Int32.ofNat xs.length).toNatClampNeg).map fun i => (xs.map Value.int).getD ((0 : Int32).toNatClampNeg + i) (.int 0)) ++ (List.replicate xs.length (Value.int 0)).drop ((0 : Int32).toNatClampNeg + (Int32.ofNat xs.length).toNatClampNeg) = xs.map Value.int ∨ 2147483648 ≤ xs.length := by
  by_cases h : xs.length < 2147483648
  · left
    have z : (0 : Int32).toNatClampNeg = 0 := rfl
    rw [own_clamp h, z, List.take_zero, List.nil_append, List.drop_eq_nil_of_le (by simp), List.append_nil]
    apply List.ext_getElem
    · simp
    · intro i h1 h2
      simp at h1
      simp [h1]
  · right; omega
def own_br (cs : List Int32) : Nat → Nat → Int32 → Int32 → List Int32 → List Int32 → Int32 × Int32 × List Int32 × List Int32
  | 0, _, dp, op, ss, es => (dp, op, ss, es)
  | k + 1, i, dp, op, ss, es =>
    if cs.getD i 0 = 40 then (if dp = 0 then own_br cs k (i + 1) (dp + 1) (Int32.ofNat i) ss es else own_br cs k (i + 1) (dp + 1) op ss es)
    else if cs.getD i 0 = 41 then (if 0 < dp then (if dp + (-1) = 0 then own_br cs k (i + 1) (dp + (-1)) op (ss ++ [op]) (es ++ [Int32.ofNat i + 1]) else own_br cs k (i + 1) (dp + (-1)) op ss es) else own_br cs k (i + 1) dp op ss es)
    else own_br cs k (i + 1) dp op ss es
def own_close (t : Nat) (r : Int32 × Int32 × List Int32 × List Int32) : List Int32 × List Int32 := if 0 < r.1 then (r.2.2.1 ++ [r.2.1], r.2.2.2 ++ [Int32.ofNat t]) else (r.2.2.1, r.2.2.2)
def own_brackets (cs : List Int32) (f t : Nat) : List Int32 × List Int32 := own_close t (own_br cs (t - f) f 0 (Int32.ofNat f) [] [])
theorem own_os7b {a b : Addr} {f t d o i v : Int32} {s7 : Slot} (h : One s7) : storeLocals #[.val (.ref a), .val (.int f), .val (.int t), .val (.ref b), .val (.int d), .val (.int o), .val (.int i), s7] 7 (.int v) = some #[.val (.ref a), .val (.int f), .val (.int t), .val (.ref b), .val (.int d), .val (.int o), .val (.int i), .val (.int v)] := by
  rcases h with rfl | ⟨w, rfl, hw⟩
  · rfl
  · cases w <;> first | rfl | (simp [Value.category] at hw)
theorem up (cs : List Int32) (h : ∀ c ∈ cs, ¬ c < 0 ∧ ¬ (255 : Int32) < c) : ∀ c ∈ cs, ¬ c < 0 ∧ ¬ (65535 : Int32) < c := fun c hc => ⟨(h c hc).1, fun q => (h c hc).2 (by rw [Int32.lt_iff_toInt_lt] at q ⊢; have e1 : (65535 : Int32).toInt = 65535 := rfl; have e2 : (255 : Int32).toInt = 255 := rfl; omega)⟩
theorem own_small {y : Int32} (h : y.toBitVec.toNat < 256) : y = Int32.ofNat y.toBitVec.toNat := by
  apply Int32.toBitVec_inj.mp
  show _ = BitVec.ofNat 32 _
  rw [BitVec.ofNat_toNat]; simp
theorem own_and255 (x : Int32) : (x &&& 255).toBitVec.toNat < 256 := by
  simp only [Int32.toBitVec_and, BitVec.toNat_and]
  exact Nat.lt_succ_of_le Nat.and_le_right
theorem own_c255 (x : Int32) : ¬ nar .char ((x &&& (255 : Int32)).toUInt32.toUInt16.toUInt32.toInt32) < 0 ∧ ¬ (255 : Int32) < nar .char ((x &&& (255 : Int32)).toUInt32.toUInt16.toUInt32.toInt32) := by
  have t : ∀ k : Fin 256, ¬ nar .char ((Int32.ofNat k.val).toUInt32.toUInt16.toUInt32.toInt32) < 0 ∧ ¬ (255 : Int32) < nar .char ((Int32.ofNat k.val).toUInt32.toUInt16.toUInt32.toInt32) := by decide +kernel
  rw [own_small (own_and255 x)]
  exact t ⟨_, own_and255 x⟩
theorem own_pick_b (s : Int64) (i : Int32) : ¬ own_pick s i < 0 ∧ ¬ (255 : Int32) < own_pick s i := by
  unfold own_pick
  split
  · decide
  · split
    · decide
    · exact own_c255 _
theorem own_narc {c : Int32} (h : ¬ c < 0 ∧ ¬ (255 : Int32) < c) : nar .char c = c := by
  have t : ∀ k : Fin 256, nar .char (Int32.ofNat k.val) = Int32.ofNat k.val := by decide +kernel
  have z : (255 : Int32).toInt = 255 := rfl
  obtain ⟨h1, h2⟩ := h
  rw [Int32.lt_iff_toInt_lt, z] at h2
  rw [own_lt0] at h1
  have e : c = Int32.ofNat c.toInt.toNat := by
    rw [← Int32.toInt_inj, own_nat (by omega)]; omega
  rw [e]; exact t ⟨c.toInt.toNat, by omega⟩
theorem own_from (a : Int32) : ∃ f : Nat, f ≤ 5 ∧ (a &&& (2147483647 : Int32)) % (6 : Int32) = Int32.ofNat f := by
  have e1 : (a &&& (2147483647 : Int32)).toInt = a.toInt % 2 ^ 31 := Jvm.Kit.i32_mask a _ (k := 31) (by decide) (by decide)
  have h0 : (0 : Int) ≤ (a &&& (2147483647 : Int32)).toInt := by rw [e1]; omega
  have e2 := Jvm.Kit.i32_rem_nonneg (x := a &&& (2147483647 : Int32)) (y := (6 : Int32)) h0
  have e3 : (6 : Int32).toInt = 6 := rfl
  rw [e3] at e2
  exact ⟨((a &&& (2147483647 : Int32)) % (6 : Int32)).toInt.toNat, by omega, by rw [← Int32.toInt_inj, own_nat (by omega)]; omega⟩
theorem own_nz {f : Nat} (h : f ≤ 5) : ((6 : Int32) - Int32.ofNat f) ≠ 0 := by
  have t : ∀ k : Fin 6, ((6 : Int32) - Int32.ofNat k.val) ≠ 0 := by decide +kernel
  exact t ⟨f, by omega⟩
theorem own_to (b : Int32) {f : Nat} (h : f ≤ 5) : ∃ t : Nat, f ≤ t ∧ t ≤ 5 ∧ Int32.ofNat f + (b &&& (2147483647 : Int32)) % ((6 : Int32) - Int32.ofNat f) = Int32.ofNat t := by
  have e1 : (b &&& (2147483647 : Int32)).toInt = b.toInt % 2 ^ 31 := Jvm.Kit.i32_mask b _ (k := 31) (by decide) (by decide)
  have h0 : (0 : Int) ≤ (b &&& (2147483647 : Int32)).toInt := by rw [e1]; omega
  have e2 := Jvm.Kit.i32_rem_nonneg (x := b &&& (2147483647 : Int32)) (y := (6 : Int32) - Int32.ofNat f) h0
  have e4 : ((6 : Int32) - Int32.ofNat f).toInt = 6 - f := by
    have t : ∀ k : Fin 6, ((6 : Int32) - Int32.ofNat k.val).toInt = 6 - (k.val : Int) := by decide +kernel
    exact t ⟨f, by omega⟩
  rw [e4] at e2
  have b1 : 0 ≤ (b &&& (2147483647 : Int32)).toInt % (6 - (f : Int)) := Int.emod_nonneg _ (by omega)
  have b2 : (b &&& (2147483647 : Int32)).toInt % (6 - (f : Int)) < 6 - f := Int.emod_lt_of_pos _ (by omega)
  have e5 : (Int32.ofNat f).toInt = f := own_nat (by omega)
  have e6 : (Int32.ofNat f + (b &&& (2147483647 : Int32)) % ((6 : Int32) - Int32.ofNat f)).toInt = f + (b &&& (2147483647 : Int32)).toInt % (6 - (f : Int)) := by
    rw [Jvm.Kit.i32_add] <;> rw [e5, e2] <;> omega
  exact ⟨(Int32.ofNat f + (b &&& (2147483647 : Int32)) % ((6 : Int32) - Int32.ofNat f)).toInt.toNat, by rw [e6]; omega, by rw [e6]; omega, by rw [← Int32.toInt_inj, own_nat (by omega)]; omega⟩
def own_in (k t d : Int32) : Int32 := if k < t then (if 0 < d then 1 else 0) else 0
/-- what of a char the law looks at -/
def own_can (c : Int32) : Int32 := if c = 40 then 40 else if c = 41 then 41 else 0
theorem own_can40 (c : Int32) : own_can c = 40 ↔ c = 40 := by
  unfold own_can; split
  · simp_all
  · split <;> simp_all
theorem own_can41 (c : Int32) : own_can c = 41 ↔ c = 41 := by
  unfold own_can; split
  · rename_i h; subst h; decide
  · split <;> simp_all
theorem own_next_can (d c p f t : Int32) : own_next d (own_can c) p f t = own_next d c p f t := by unfold own_next; simp only [own_can40, own_can41]
theorem own_isEnd_can (q d c f t fin : Int32) : own_isEnd q d (own_can c) f t fin = own_isEnd q d c f t fin := by unfold own_isEnd; simp only [own_can41]
theorem own_br_can (cs ds : List Int32) (h : ∀ i, (ds.getD i 0 = 40 ↔ cs.getD i 0 = 40) ∧ (ds.getD i 0 = 41 ↔ cs.getD i 0 = 41)) : ∀ k i dp op ss es, own_br ds k i dp op ss es = own_br cs k i dp op ss es := by
  intro k
  induction k with
  | zero => intros; rfl
  | succ k ih => intro i dp op ss es; unfold own_br; simp only [(h i).1, (h i).2, ih]
theorem own_brackets_can (c0 c1 c2 c3 c4 : Int32) (f t : Nat) : own_brackets [own_can c0, own_can c1, own_can c2, own_can c3, own_can c4] f t = own_brackets [c0, c1, c2, c3, c4] f t := by
  unfold own_brackets
  rw [own_br_can [c0, c1, c2, c3, c4]]
  intro i
  match i with
  | 0 => exact ⟨own_can40 c0, own_can41 c0⟩
  | 1 => exact ⟨own_can40 c1, own_can41 c1⟩
  | 2 => exact ⟨own_can40 c2, own_can41 c2⟩
  | 3 => exact ⟨own_can40 c3, own_can41 c3⟩
  | 4 => exact ⟨own_can40 c4, own_can41 c4⟩
  | n + 5 => exact ⟨Iff.rfl, Iff.rfl⟩
/-- the whole of what the law compares, as a Bool -/
def own_check (c0 c1 c2 c3 c4 : Int32) (f t : Nat) : Bool :=
  let F := Int32.ofNat f
  let T := Int32.ofNat t
  let r := own_brackets [c0, c1, c2, c3, c4] f t
  let d1 := own_next 0 c0 0 F T
  let d2 := own_next d1 c1 1 F T
  let d3 := own_next d2 c2 2 F T
  let d4 := own_next d3 c3 3 F T
  let d5 := own_next d4 c4 4 F T
  let l1 := if own_isEnd 1 0 c0 F T d5 = 0 then -1 else 1
  let l2 := if own_isEnd 2 d1 c1 F T d5 = 0 then l1 else 2
  let l3 := if own_isEnd 3 d2 c2 F T d5 = 0 then l2 else 3
  let l4 := if own_isEnd 4 d3 c3 F T d5 = 0 then l3 else 4
  let l5 := if own_isEnd 5 d4 c4 F T d5 = 0 then l4 else 5
  decide (own_holds r.1 r.2 1 = own_in 1 T d1) && decide (own_holds r.1 r.2 2 = own_in 2 T d2) && decide (own_holds r.1 r.2 3 = own_in 3 T d3) && decide (own_holds r.1 r.2 4 = own_in 4 T d4) &&
  decide (own_lastEnd r.2 1 = l1) && decide (own_lastEnd r.2 2 = l2) && decide (own_lastEnd r.2 3 = l3) && decide (own_lastEnd r.2 4 = l4) && decide (own_lastEnd r.2 5 = l5)
def own_ch : List Int32 := [0, 40, 41]
def own_rows (f t : Nat) : Bool := own_ch.all fun a => own_ch.all fun b => own_ch.all fun c => own_ch.all fun d => own_ch.all fun e => own_check a b c d e f t
theorem own_r00 : own_rows 0 0 = true := by decide +kernel
theorem own_r01 : own_rows 0 1 = true := by decide +kernel
theorem own_r02 : own_rows 0 2 = true := by decide +kernel
theorem own_r03 : own_rows 0 3 = true := by decide +kernel
theorem own_r04 : own_rows 0 4 = true := by decide +kernel
theorem own_r05 : own_rows 0 5 = true := by decide +kernel
theorem own_r11 : own_rows 1 1 = true := by decide +kernel
theorem own_r12 : own_rows 1 2 = true := by decide +kernel
theorem own_r13 : own_rows 1 3 = true := by decide +kernel
theorem own_r14 : own_rows 1 4 = true := by decide +kernel
theorem own_r15 : own_rows 1 5 = true := by decide +kernel
theorem own_r22 : own_rows 2 2 = true := by decide +kernel
theorem own_r23 : own_rows 2 3 = true := by decide +kernel
theorem own_r24 : own_rows 2 4 = true := by decide +kernel
theorem own_r25 : own_rows 2 5 = true := by decide +kernel
theorem own_r33 : own_rows 3 3 = true := by decide +kernel
theorem own_r34 : own_rows 3 4 = true := by decide +kernel
theorem own_r35 : own_rows 3 5 = true := by decide +kernel
theorem own_r44 : own_rows 4 4 = true := by decide +kernel
theorem own_r45 : own_rows 4 5 = true := by decide +kernel
theorem own_r55 : own_rows 5 5 = true := by decide +kernel
theorem own_all_rows {f t : Nat} (hft : f ≤ t) (ht : t ≤ 5) : own_rows f t = true := by
  match f, t, hft, ht with
  | 0, 0, _, _ => exact own_r00
  | 0, 1, _, _ => exact own_r01
  | 0, 2, _, _ => exact own_r02
  | 0, 3, _, _ => exact own_r03
  | 0, 4, _, _ => exact own_r04
  | 0, 5, _, _ => exact own_r05
  | 1, 1, _, _ => exact own_r11
  | 1, 2, _, _ => exact own_r12
  | 1, 3, _, _ => exact own_r13
  | 1, 4, _, _ => exact own_r14
  | 1, 5, _, _ => exact own_r15
  | 2, 2, _, _ => exact own_r22
  | 2, 3, _, _ => exact own_r23
  | 2, 4, _, _ => exact own_r24
  | 2, 5, _, _ => exact own_r25
  | 3, 3, _, _ => exact own_r33
  | 3, 4, _, _ => exact own_r34
  | 3, 5, _, _ => exact own_r35
  | 4, 4, _, _ => exact own_r44
  | 4, 5, _, _ => exact own_r45
  | 5, 5, _, _ => exact own_r55
  | n + 6, t, h1, h2 => exact absurd (Nat.le_trans h1 h2) (by omega)
theorem own_ch_can (c : Int32) : own_can c ∈ own_ch := by unfold own_can own_ch; split <;> (try split) <;> simp
theorem own_checked (c0 c1 c2 c3 c4 : Int32) {f t : Nat} (hft : f ≤ t) (ht : t ≤ 5) : own_check c0 c1 c2 c3 c4 f t = true := by
  have e : own_check c0 c1 c2 c3 c4 f t = own_check (own_can c0) (own_can c1) (own_can c2) (own_can c3) (own_can c4) f t := by
    unfold own_check; simp only [own_next_can, own_isEnd_can, own_brackets_can]
  rw [e]
  have R := own_all_rows hft ht
  unfold own_rows at R
  have R1 := List.all_eq_true.mp R _ (own_ch_can c0)
  have R2 := List.all_eq_true.mp R1 _ (own_ch_can c1)
  have R3 := List.all_eq_true.mp R2 _ (own_ch_can c2)
  have R4 := List.all_eq_true.mp R3 _ (own_ch_can c3)
  exact List.all_eq_true.mp R4 _ (own_ch_can c4)
theorem own_all (c0 c1 c2 c3 c4 : Int32) {f t : Nat} (hft : f ≤ t) (ht : t ≤ 5) {S E : List Int32} (hSE : own_brackets [c0, c1, c2, c3, c4] f t = (S, E)) {d1 d2 d3 d4 d5 l1 l2 l3 l4 l5 : Int32}
    (h1 : d1 = own_next 0 c0 0 (Int32.ofNat f) (Int32.ofNat t)) (h2 : d2 = own_next d1 c1 1 (Int32.ofNat f) (Int32.ofNat t)) (h3 : d3 = own_next d2 c2 2 (Int32.ofNat f) (Int32.ofNat t)) (h4 : d4 = own_next d3 c3 3 (Int32.ofNat f) (Int32.ofNat t)) (h5 : d5 = own_next d4 c4 4 (Int32.ofNat f) (Int32.ofNat t))
    (k1 : l1 = if own_isEnd 1 0 c0 (Int32.ofNat f) (Int32.ofNat t) d5 = 0 then -1 else 1) (k2 : l2 = if own_isEnd 2 d1 c1 (Int32.ofNat f) (Int32.ofNat t) d5 = 0 then l1 else 2) (k3 : l3 = if own_isEnd 3 d2 c2 (Int32.ofNat f) (Int32.ofNat t) d5 = 0 then l2 else 3) (k4 : l4 = if own_isEnd 4 d3 c3 (Int32.ofNat f) (Int32.ofNat t) d5 = 0 then l3 else 4) (k5 : l5 = if own_isEnd 5 d4 c4 (Int32.ofNat f) (Int32.ofNat t) d5 = 0 then l4 else 5) :
    (own_holds S E 1 = own_in 1 (Int32.ofNat t) d1 ∧ own_holds S E 2 = own_in 2 (Int32.ofNat t) d2 ∧ own_holds S E 3 = own_in 3 (Int32.ofNat t) d3 ∧ own_holds S E 4 = own_in 4 (Int32.ofNat t) d4) ∧ own_lastEnd E 1 = l1 ∧ own_lastEnd E 2 = l2 ∧ own_lastEnd E 3 = l3 ∧ own_lastEnd E 4 = l4 ∧ own_lastEnd E 5 = l5 := by
  have R := own_checked c0 c1 c2 c3 c4 hft ht
  simp only [own_check, hSE, ← h1, ← h2, ← h3, ← h4, ← h5, ← k1, ← k2, ← k3, ← k4, ← k5, Bool.and_eq_true, decide_eq_true_eq] at R
  obtain ⟨⟨⟨⟨⟨⟨⟨⟨q1, q2⟩, q3⟩, q4⟩, q5⟩, q6⟩, q7⟩, q8⟩, q9⟩ := R
  exact ⟨⟨q1, q2, q3, q4⟩, q5, q6, q7, q8, q9⟩
def QNX (Z : State) (d c_ pp f t : Int32) (h0 : Heap) (n0 : Nat) (v : Option Value) (h : Heap) (L : List Loc) : Prop := v = some (.int (own_next d c_ pp f t)) ∧ Fr n0 L ∧ h = h0
set_option maxRecDepth 65536 in
set_option maxHeartbeats 40000000 in
theorem rmNX (l : Launch) (Z : State) (a0 : Array Value) (hw : ∀ d ∈ tables_1, d.before a0 Z = true) (ws : List Jvm.Cond) (d c_ pp f t : Int32) (h0 : Heap) (n0 : Nat) (Z0 : n0 ≤ h0.size)  :
    MetFree l (⟨"com/example/covenantry/covenantry/read/MatchesBracketsPinLaw", "next", "(ICIII)I"⟩ : MethodName) (head1 (Jvm.Cond.code (⟨"com/example/covenantry/covenantry/read/MatchesBracketsPinLaw", "next", "(ICIII)I"⟩ : MethodName) method_3_code 5 (some .int) :: ws) ({ frames := 0, cells := 0, slots := 0, locals := 0 } : Room)) (fun a_ U => a_ = #[(.int d), (.int c_), (.int pp), (.int f), (.int t)] ∧ Z.Warmed39 U.vm ∧ U.heap = h0) (fun _ _ _ _ _ => True) (fun _ U o U' => ∃ v L, o = .returned v ∧ QNX Z d c_ pp f t h0 n0 v U'.heap L ∧ FrameEnd U o U' L ({ frames := 0, cells := 0, slots := 0, locals := 0 } : Room).cells ({ frames := 0, cells := 0, slots := 0, locals := 0 } : Room).slots) := by
  refine MetFree.of_bodySF (plainFor_of_name pn_0) hisR ?_
  intro p e s m args below meth c s₁ Bd hml0 hP hK
  obtain ⟨rfl, hZ, hh⟩ := hP
  have hx := Bd.exec
  have hby := Bd.bytes
  have hml : c.maxLocals = 5 := hml0
  have hown : s.vm.findClass "com/example/covenantry/covenantry/read/MatchesBracketsPinLaw" = some m.cls := findClass_of_methodNamed Bd.named
  have hnm := (name_of_methodNamed Bd.named Bd.method).1
  have X0 : Stand p l e ({ frames := 0, cells := 0, slots := 0, locals := 0 } : Room) s m #[(.int d), (.int c_), (.int pp), (.int f), (.int t)] below meth c s₁ [] 0 0 := Stand.of_body Bd
  have e0 : s₁.heap = h0 := by rw [← hh, Bd.state]; rfl
  have N0 := Fr.nil n0
  refine Goes.done ?_
  obtain ⟨W, hWd⟩ : ∃ W : State → Prop, W = EndW s below (QNX Z d c_ pp f t h0 n0) ({ frames := 0, cells := 0, slots := 0, locals := 0 } : Room).cells ({ frames := 0, cells := 0, slots := 0, locals := 0 } : Room).slots := ⟨_, rfl⟩
  rw [← hWd]
  have hef : entryFrame m #[(.int d), (.int c_), (.int pp), (.int f), (.int t)] 5 = (mkF m 0 #[.val (.int d), .val (.int c_), .val (.int pp), .val (.int f), .val (.int t)] []) := by first | (simp [entryFrame, mkF, argsToLocals, Value.category]; done) | rfl
  rw [hef]
  refine Goes.on (T' := s₁) (g' := (mkF m 1 #[.val (.int d), .val (.int c_), .val (.int pp), .val (.int f), .val (.int t)] [(.int pp)])) ?_ (fun t_ k_ => XS.iloadN X0.here hx rfl (hb hby d20_0) rfl k_)
  refine Goes.on (T' := s₁) (g' := (mkF m 2 #[.val (.int d), .val (.int c_), .val (.int pp), .val (.int f), .val (.int t)] [(.int f), (.int pp)])) ?_ (fun t_ k_ => XS.iloadN X0.here hx rfl (hb hby d20_1) rfl k_)
  refine Goes.icmpP X0 hx rfl (pc0 := 2) (pc' := 11) rfl (hb hby d20_2) rfl (by decide) (by decide) (P := pp < f) (cmp_lt _ _) (fun hc2 => ?_) (fun hc2 => ?_)
  · show Goes p e below W s₁ (mkF m 11 #[.val (.int d), .val (.int c_), .val (.int pp), .val (.int f), .val (.int t)] [])
    refine Goes.on (T' := s₁) (g' := (mkF m 12 #[.val (.int d), .val (.int c_), .val (.int pp), .val (.int f), .val (.int t)] [(.int d)])) ?_ (fun t_ k_ => XS.iloadN X0.here hx rfl (hb hby d20_11) rfl k_)
    rw [hWd]
    exact Goes.retn X0 (v := some (.int d)) (fun fs hr => retI X0 hx Bd.returns (hb hby d20_12) hr) (fun h => by rw [Bd.returns] at h; cases h) Bd.notSynchronized (by decide) (by decide) (by rw [e0]; exact ⟨(show some (Value.int d) = some (.int (own_next d c_ pp f t)) from by simp only [own_next, eq_true hc2, if_true, if_false, ↓reduceIte, not_true_eq_false, not_false_eq_true, true_and, and_true, false_and, and_false, or_true, true_or, or_false, false_or, and_self, or_self]), N0, rfl⟩)
  · show Goes p e below W s₁ (mkF m 5 #[.val (.int d), .val (.int c_), .val (.int pp), .val (.int f), .val (.int t)] [])
    refine Goes.on (T' := s₁) (g' := (mkF m 6 #[.val (.int d), .val (.int c_), .val (.int pp), .val (.int f), .val (.int t)] [(.int pp)])) ?_ (fun t_ k_ => XS.iloadN X0.here hx rfl (hb hby d20_5) rfl k_)
    refine Goes.on (T' := s₁) (g' := (mkF m 8 #[.val (.int d), .val (.int c_), .val (.int pp), .val (.int f), .val (.int t)] [(.int t), (.int pp)])) ?_ (fun t_ k_ => XS.iload X0.here hx rfl (hb hby d20_6) rfl k_)
    refine Goes.icmpP X0 hx rfl (pc0 := 8) (pc' := 13) rfl (hb hby d20_8) rfl (by decide) (by decide) (P := pp < t) (cmp_lt _ _) (fun hc8 => ?_) (fun hc8 => ?_)
    · show Goes p e below W s₁ (mkF m 13 #[.val (.int d), .val (.int c_), .val (.int pp), .val (.int f), .val (.int t)] [])
      refine Goes.on (T' := s₁) (g' := (mkF m 14 #[.val (.int d), .val (.int c_), .val (.int pp), .val (.int f), .val (.int t)] [(.int c_)])) ?_ (fun t_ k_ => XS.iloadN X0.here hx rfl (hb hby d20_13) rfl k_)
      refine Goes.on (T' := s₁) (g' := (mkF m 16 #[.val (.int d), .val (.int c_), .val (.int pp), .val (.int f), .val (.int t)] [(.int (40 : Int32)), (.int c_)])) ?_ (fun t_ k_ => XS.bipush X0.here hx rfl (hb hby d20_14) k_)
      refine Goes.icmpN X0 hx rfl (pc0 := 16) (pc' := 23) rfl (hb hby d20_16) rfl (by decide) (by decide) (P := c_ = (40 : Int32)) (cmp_ne _ _) (fun hc16 => ?_) (fun hc16 => ?_)
      · show Goes p e below W s₁ (mkF m 23 #[.val (.int d), .val (.int c_), .val (.int pp), .val (.int f), .val (.int t)] [])
        refine Goes.on (T' := s₁) (g' := (mkF m 24 #[.val (.int d), .val (.int c_), .val (.int pp), .val (.int f), .val (.int t)] [(.int c_)])) ?_ (fun t_ k_ => XS.iloadN X0.here hx rfl (hb hby d20_23) rfl k_)
        refine Goes.on (T' := s₁) (g' := (mkF m 26 #[.val (.int d), .val (.int c_), .val (.int pp), .val (.int f), .val (.int t)] [(.int (41 : Int32)), (.int c_)])) ?_ (fun t_ k_ => XS.bipush X0.here hx rfl (hb hby d20_24) k_)
        refine Goes.icmpN X0 hx rfl (pc0 := 26) (pc' := 41) rfl (hb hby d20_26) rfl (by decide) (by decide) (P := c_ = (41 : Int32)) (cmp_ne _ _) (fun hc26 => ?_) (fun hc26 => ?_)
        · show Goes p e below W s₁ (mkF m 41 #[.val (.int d), .val (.int c_), .val (.int pp), .val (.int f), .val (.int t)] [])
          refine Goes.on (T' := s₁) (g' := (mkF m 42 #[.val (.int d), .val (.int c_), .val (.int pp), .val (.int f), .val (.int t)] [(.int d)])) ?_ (fun t_ k_ => XS.iloadN X0.here hx rfl (hb hby d20_41) rfl k_)
          rw [hWd]
          exact Goes.retn X0 (v := some (.int d)) (fun fs hr => retI X0 hx Bd.returns (hb hby d20_42) hr) (fun h => by rw [Bd.returns] at h; cases h) Bd.notSynchronized (by decide) (by decide) (by rw [e0]; exact ⟨(show some (Value.int d) = some (.int (own_next d c_ pp f t)) from by simp only [own_next, eq_false hc2, eq_true hc8, eq_false hc16, eq_false hc26, if_true, if_false, ↓reduceIte, not_true_eq_false, not_false_eq_true, true_and, and_true, false_and, and_false, or_true, true_or, or_false, false_or, and_self, or_self]), N0, rfl⟩)
        · show Goes p e below W s₁ (mkF m 29 #[.val (.int d), .val (.int c_), .val (.int pp), .val (.int f), .val (.int t)] [])
          refine Goes.on (T' := s₁) (g' := (mkF m 30 #[.val (.int d), .val (.int c_), .val (.int pp), .val (.int f), .val (.int t)] [(.int d)])) ?_ (fun t_ k_ => XS.iloadN X0.here hx rfl (hb hby d20_29) rfl k_)
          refine Goes.ifN X0 hx rfl (pc0 := 30) (pc' := 39) rfl (hb hby d20_30) rfl (by decide) (by decide) (P := (0 : Int32) < d) (ifc_le _ _) (fun hc30 => ?_) (fun hc30 => ?_)
          · show Goes p e below W s₁ (mkF m 39 #[.val (.int d), .val (.int c_), .val (.int pp), .val (.int f), .val (.int t)] [])
            refine Goes.on (T' := s₁) (g' := (mkF m 40 #[.val (.int d), .val (.int c_), .val (.int pp), .val (.int f), .val (.int t)] [(.int (0 : Int32))])) ?_ (fun t_ k_ => XS.iconst X0.here hx rfl (hb hby d20_39) k_)
            rw [hWd]
            exact Goes.retn X0 (v := some (.int (0 : Int32))) (fun fs hr => retI X0 hx Bd.returns (hb hby d20_40) hr) (fun h => by rw [Bd.returns] at h; cases h) Bd.notSynchronized (by decide) (by decide) (by rw [e0]; exact ⟨(show some (Value.int (0 : Int32)) = some (.int (own_next d c_ pp f t)) from by simp only [own_next, eq_false hc2, eq_true hc8, eq_false hc16, eq_true hc26, eq_false hc30, if_true, if_false, ↓reduceIte, not_true_eq_false, not_false_eq_true, true_and, and_true, false_and, and_false, or_true, true_or, or_false, false_or, and_self, or_self]), N0, rfl⟩)
          · show Goes p e below W s₁ (mkF m 33 #[.val (.int d), .val (.int c_), .val (.int pp), .val (.int f), .val (.int t)] [])
            refine Goes.on (T' := s₁) (g' := (mkF m 34 #[.val (.int d), .val (.int c_), .val (.int pp), .val (.int f), .val (.int t)] [(.int d)])) ?_ (fun t_ k_ => XS.iloadN X0.here hx rfl (hb hby d20_33) rfl k_)
            refine Goes.on (T' := s₁) (g' := (mkF m 35 #[.val (.int d), .val (.int c_), .val (.int pp), .val (.int f), .val (.int t)] [(.int (1 : Int32)), (.int d)])) ?_ (fun t_ k_ => XS.iconst X0.here hx rfl (hb hby d20_34) k_)
            refine Goes.on (T' := s₁) (g' := (mkF m 36 #[.val (.int d), .val (.int c_), .val (.int pp), .val (.int f), .val (.int t)] [(.int (d - (1 : Int32)))])) ?_ (fun t_ k_ => XS.isub X0.here hx rfl (hb hby d20_35) rfl k_)
            refine Goes.on (T' := s₁) (g' := (mkF m 40 #[.val (.int d), .val (.int c_), .val (.int pp), .val (.int f), .val (.int t)] [(.int (d - (1 : Int32)))])) ?_ (fun t_ k_ => XS.goto X0.here hx rfl (pc0 := 36) (pc' := 40) rfl (hb hby d20_36) (by decide) (by decide) k_)
            rw [hWd]
            exact Goes.retn X0 (v := some (.int (d - (1 : Int32)))) (fun fs hr => retI X0 hx Bd.returns (hb hby d20_40) hr) (fun h => by rw [Bd.returns] at h; cases h) Bd.notSynchronized (by decide) (by decide) (by rw [e0]; exact ⟨(show some (Value.int (d - (1 : Int32))) = some (.int (own_next d c_ pp f t)) from by simp only [own_next, eq_false hc2, eq_true hc8, eq_false hc16, eq_true hc26, eq_true hc30, if_true, if_false, ↓reduceIte, not_true_eq_false, not_false_eq_true, true_and, and_true, false_and, and_false, or_true, true_or, or_false, false_or, and_self, or_self]), N0, rfl⟩)
      · show Goes p e below W s₁ (mkF m 19 #[.val (.int d), .val (.int c_), .val (.int pp), .val (.int f), .val (.int t)] [])
        refine Goes.on (T' := s₁) (g' := (mkF m 20 #[.val (.int d), .val (.int c_), .val (.int pp), .val (.int f), .val (.int t)] [(.int d)])) ?_ (fun t_ k_ => XS.iloadN X0.here hx rfl (hb hby d20_19) rfl k_)
        refine Goes.on (T' := s₁) (g' := (mkF m 21 #[.val (.int d), .val (.int c_), .val (.int pp), .val (.int f), .val (.int t)] [(.int (1 : Int32)), (.int d)])) ?_ (fun t_ k_ => XS.iconst X0.here hx rfl (hb hby d20_20) k_)
        refine Goes.on (T' := s₁) (g' := (mkF m 22 #[.val (.int d), .val (.int c_), .val (.int pp), .val (.int f), .val (.int t)] [(.int (d + (1 : Int32)))])) ?_ (fun t_ k_ => XS.iadd X0.here hx rfl (hb hby d20_21) rfl k_)
        rw [hWd]
        exact Goes.retn X0 (v := some (.int (d + (1 : Int32)))) (fun fs hr => retI X0 hx Bd.returns (hb hby d20_22) hr) (fun h => by rw [Bd.returns] at h; cases h) Bd.notSynchronized (by decide) (by decide) (by rw [e0]; exact ⟨(show some (Value.int (d + (1 : Int32))) = some (.int (own_next d c_ pp f t)) from by simp only [own_next, eq_false hc2, eq_true hc8, eq_true hc16, if_true, if_false, ↓reduceIte, not_true_eq_false, not_false_eq_true, true_and, and_true, false_and, and_false, or_true, true_or, or_false, false_or, and_self, or_self]), N0, rfl⟩)
    · show Goes p e below W s₁ (mkF m 11 #[.val (.int d), .val (.int c_), .val (.int pp), .val (.int f), .val (.int t)] [])
      refine Goes.on (T' := s₁) (g' := (mkF m 12 #[.val (.int d), .val (.int c_), .val (.int pp), .val (.int f), .val (.int t)] [(.int d)])) ?_ (fun t_ k_ => XS.iloadN X0.here hx rfl (hb hby d20_11) rfl k_)
      rw [hWd]
      exact Goes.retn X0 (v := some (.int d)) (fun fs hr => retI X0 hx Bd.returns (hb hby d20_12) hr) (fun h => by rw [Bd.returns] at h; cases h) Bd.notSynchronized (by decide) (by decide) (by rw [e0]; exact ⟨(show some (Value.int d) = some (.int (own_next d c_ pp f t)) from by simp only [own_next, eq_false hc2, eq_false hc8, if_true, if_false, ↓reduceIte, not_true_eq_false, not_false_eq_true, true_and, and_true, false_and, and_false, or_true, true_or, or_false, false_or, and_self, or_self]), N0, rfl⟩)
def QIE (Z : State) (q d c_ f t fin : Int32) (h0 : Heap) (n0 : Nat) (v : Option Value) (h : Heap) (L : List Loc) : Prop := v = some (.int (own_isEnd q d c_ f t fin)) ∧ Fr n0 L ∧ h = h0
set_option maxRecDepth 65536 in
set_option maxHeartbeats 40000000 in
theorem rmIE (l : Launch) (Z : State) (a0 : Array Value) (hw : ∀ d ∈ tables_1, d.before a0 Z = true) (ws : List Jvm.Cond) (q d c_ f t fin : Int32) (h0 : Heap) (n0 : Nat) (Z0 : n0 ≤ h0.size)  :
    MetFree l (⟨"com/example/covenantry/covenantry/read/MatchesBracketsPinLaw", "isEnd", "(IICIII)Z"⟩ : MethodName) (head1 (Jvm.Cond.code (⟨"com/example/covenantry/covenantry/read/MatchesBracketsPinLaw", "isEnd", "(IICIII)Z"⟩ : MethodName) method_4_code 8 (some .boolean) :: ws) ({ frames := 0, cells := 0, slots := 0, locals := 0 } : Room)) (fun a_ U => a_ = #[(.int q), (.int d), (.int c_), (.int f), (.int t), (.int fin)] ∧ Z.Warmed39 U.vm ∧ U.heap = h0) (fun _ _ _ _ _ => True) (fun _ U o U' => ∃ v L, o = .returned v ∧ QIE Z q d c_ f t fin h0 n0 v U'.heap L ∧ FrameEnd U o U' L ({ frames := 0, cells := 0, slots := 0, locals := 0 } : Room).cells ({ frames := 0, cells := 0, slots := 0, locals := 0 } : Room).slots) := by
  refine MetFree.of_bodySF (plainFor_of_name pn_0) hisR ?_
  intro p e s m args below meth c s₁ Bd hml0 hP hK
  obtain ⟨rfl, hZ, hh⟩ := hP
  have hx := Bd.exec
  have hby := Bd.bytes
  have hml : c.maxLocals = 8 := hml0
  have hown : s.vm.findClass "com/example/covenantry/covenantry/read/MatchesBracketsPinLaw" = some m.cls := findClass_of_methodNamed Bd.named
  have hnm := (name_of_methodNamed Bd.named Bd.method).1
  have X0 : Stand p l e ({ frames := 0, cells := 0, slots := 0, locals := 0 } : Room) s m #[(.int q), (.int d), (.int c_), (.int f), (.int t), (.int fin)] below meth c s₁ [] 0 0 := Stand.of_body Bd
  have e0 : s₁.heap = h0 := by rw [← hh, Bd.state]; rfl
  have N0 := Fr.nil n0
  refine Goes.done ?_
  obtain ⟨W, hWd⟩ : ∃ W : State → Prop, W = EndW s below (QIE Z q d c_ f t fin h0 n0) ({ frames := 0, cells := 0, slots := 0, locals := 0 } : Room).cells ({ frames := 0, cells := 0, slots := 0, locals := 0 } : Room).slots := ⟨_, rfl⟩
  rw [← hWd]
  have hef : entryFrame m #[(.int q), (.int d), (.int c_), (.int f), (.int t), (.int fin)] 8 = (mkF m 0 #[.val (.int q), .val (.int d), .val (.int c_), .val (.int f), .val (.int t), .val (.int fin), .unset, .unset] []) := by first | (simp [entryFrame, mkF, argsToLocals, Value.category]; done) | rfl
  rw [hef]
  refine Goes.on (T' := s₁) (g' := (mkF m 1 #[.val (.int q), .val (.int d), .val (.int c_), .val (.int f), .val (.int t), .val (.int fin), .unset, .unset] [(.int q)])) ?_ (fun t_ k_ => XS.iloadN X0.here hx rfl (hb hby d21_0) rfl k_)
  refine Goes.on (T' := s₁) (g' := (mkF m 2 #[.val (.int q), .val (.int d), .val (.int c_), .val (.int f), .val (.int t), .val (.int fin), .unset, .unset] [(.int (1 : Int32)), (.int q)])) ?_ (fun t_ k_ => XS.iconst X0.here hx rfl (hb hby d21_1) k_)
  refine Goes.on (T' := s₁) (g' := (mkF m 3 #[.val (.int q), .val (.int d), .val (.int c_), .val (.int f), .val (.int t), .val (.int fin), .unset, .unset] [(.int (q - (1 : Int32)))])) ?_ (fun t_ k_ => XS.isub X0.here hx rfl (hb hby d21_2) rfl k_)
  refine Goes.on (T' := s₁) (g' := (mkF m 5 #[.val (.int q), .val (.int d), .val (.int c_), .val (.int f), .val (.int t), .val (.int fin), .val (.int (q - (1 : Int32))), .unset] [])) ?_ (fun t_ k_ => XS.istore X0.here hx rfl (hb hby d21_3) rfl (l' := #[.val (.int q), .val (.int d), .val (.int c_), .val (.int f), .val (.int t), .val (.int fin), .val (.int (q - (1 : Int32))), .unset]) rfl k_)
  refine Goes.on (T' := s₁) (g' := (mkF m 7 #[.val (.int q), .val (.int d), .val (.int c_), .val (.int f), .val (.int t), .val (.int fin), .val (.int (q - (1 : Int32))), .unset] [(.int (q - (1 : Int32)))])) ?_ (fun t_ k_ => XS.iload X0.here hx rfl (hb hby d21_5) rfl k_)
  refine Goes.on (T' := s₁) (g' := (mkF m 8 #[.val (.int q), .val (.int d), .val (.int c_), .val (.int f), .val (.int t), .val (.int fin), .val (.int (q - (1 : Int32))), .unset] [(.int f), (.int (q - (1 : Int32)))])) ?_ (fun t_ k_ => XS.iloadN X0.here hx rfl (hb hby d21_7) rfl k_)
  refine Goes.icmpP X0 hx rfl (pc0 := 8) (pc' := 33) rfl (hb hby d21_8) rfl (by decide) (by decide) (P := (q - (1 : Int32)) < f) (cmp_lt _ _) (fun hc8 => ?_) (fun hc8 => ?_)
  · show Goes p e below W s₁ (mkF m 33 #[.val (.int q), .val (.int d), .val (.int c_), .val (.int f), .val (.int t), .val (.int fin), .val (.int (q - (1 : Int32))), .unset] [])
    refine Goes.on (T' := s₁) (g' := (mkF m 34 #[.val (.int q), .val (.int d), .val (.int c_), .val (.int f), .val (.int t), .val (.int fin), .val (.int (q - (1 : Int32))), .unset] [(.int (0 : Int32))])) ?_ (fun t_ k_ => XS.iconst X0.here hx rfl (hb hby d21_33) k_)
    refine Goes.on (T' := s₁) (g' := (mkF m 36 #[.val (.int q), .val (.int d), .val (.int c_), .val (.int f), .val (.int t), .val (.int fin), .val (.int (q - (1 : Int32))), .val (.int (0 : Int32))] [])) ?_ (fun t_ k_ => XS.istore X0.here hx rfl (hb hby d21_34) rfl (l' := #[.val (.int q), .val (.int d), .val (.int c_), .val (.int f), .val (.int t), .val (.int fin), .val (.int (q - (1 : Int32))), .val (.int (0 : Int32))]) rfl k_)
    refine Goes.on (T' := s₁) (g' := (mkF m 38 #[.val (.int q), .val (.int d), .val (.int c_), .val (.int f), .val (.int t), .val (.int fin), .val (.int (q - (1 : Int32))), .val (.int (0 : Int32))] [(.int (0 : Int32))])) ?_ (fun t_ k_ => XS.iload X0.here hx rfl (hb hby d21_36) rfl k_)
    refine Goes.on (T' := s₁) (g' := (mkF m 41 #[.val (.int q), .val (.int d), .val (.int c_), .val (.int f), .val (.int t), .val (.int fin), .val (.int (q - (1 : Int32))), .val (.int (0 : Int32))] [])) ?_ (fun t_ k_ => XS.ifNo X0.here hx rfl (hb hby d21_38) rfl (by decide) k_)
    refine Goes.on (T' := s₁) (g' := (mkF m 42 #[.val (.int q), .val (.int d), .val (.int c_), .val (.int f), .val (.int t), .val (.int fin), .val (.int (q - (1 : Int32))), .val (.int (0 : Int32))] [(.int q)])) ?_ (fun t_ k_ => XS.iloadN X0.here hx rfl (hb hby d21_41) rfl k_)
    refine Goes.on (T' := s₁) (g' := (mkF m 44 #[.val (.int q), .val (.int d), .val (.int c_), .val (.int f), .val (.int t), .val (.int fin), .val (.int (q - (1 : Int32))), .val (.int (0 : Int32))] [(.int t), (.int q)])) ?_ (fun t_ k_ => XS.iload X0.here hx rfl (hb hby d21_42) rfl k_)
    refine Goes.icmpN X0 hx rfl (pc0 := 44) (pc' := 56) rfl (hb hby d21_44) rfl (by decide) (by decide) (P := q = t) (cmp_ne _ _) (fun hc44 => ?_) (fun hc44 => ?_)
    · show Goes p e below W s₁ (mkF m 56 #[.val (.int q), .val (.int d), .val (.int c_), .val (.int f), .val (.int t), .val (.int fin), .val (.int (q - (1 : Int32))), .val (.int (0 : Int32))] [])
      refine Goes.on (T' := s₁) (g' := (mkF m 57 #[.val (.int q), .val (.int d), .val (.int c_), .val (.int f), .val (.int t), .val (.int fin), .val (.int (q - (1 : Int32))), .val (.int (0 : Int32))] [(.int (0 : Int32))])) ?_ (fun t_ k_ => XS.iconst X0.here hx rfl (hb hby d21_56) k_)
      rw [hWd]
      exact Goes.retn X0 (v := some (.int (nar .boolean (0 : Int32)))) (fun fs hr => retN X0 hx (t := .boolean) Bd.returns (by simp) (hb hby d21_57) hr) (fun h => by rw [Bd.returns] at h; cases h) Bd.notSynchronized (by decide) (by decide) (by rw [e0]; exact ⟨(show some (Value.int (0 : Int32)) = some (.int (own_isEnd q d c_ f t fin)) from by simp only [own_isEnd, eq_true hc8, eq_false hc44, if_true, if_false, ↓reduceIte, not_true_eq_false, not_false_eq_true, true_and, and_true, false_and, and_false, or_true, true_or, or_false, false_or, and_self, or_self]), N0, rfl⟩)
    · show Goes p e below W s₁ (mkF m 47 #[.val (.int q), .val (.int d), .val (.int c_), .val (.int f), .val (.int t), .val (.int fin), .val (.int (q - (1 : Int32))), .val (.int (0 : Int32))] [])
      refine Goes.on (T' := s₁) (g' := (mkF m 49 #[.val (.int q), .val (.int d), .val (.int c_), .val (.int f), .val (.int t), .val (.int fin), .val (.int (q - (1 : Int32))), .val (.int (0 : Int32))] [(.int fin)])) ?_ (fun t_ k_ => XS.iload X0.here hx rfl (hb hby d21_47) rfl k_)
      refine Goes.ifN X0 hx rfl (pc0 := 49) (pc' := 56) rfl (hb hby d21_49) rfl (by decide) (by decide) (P := (0 : Int32) < fin) (ifc_le _ _) (fun hc49 => ?_) (fun hc49 => ?_)
      · show Goes p e below W s₁ (mkF m 56 #[.val (.int q), .val (.int d), .val (.int c_), .val (.int f), .val (.int t), .val (.int fin), .val (.int (q - (1 : Int32))), .val (.int (0 : Int32))] [])
        refine Goes.on (T' := s₁) (g' := (mkF m 57 #[.val (.int q), .val (.int d), .val (.int c_), .val (.int f), .val (.int t), .val (.int fin), .val (.int (q - (1 : Int32))), .val (.int (0 : Int32))] [(.int (0 : Int32))])) ?_ (fun t_ k_ => XS.iconst X0.here hx rfl (hb hby d21_56) k_)
        rw [hWd]
        exact Goes.retn X0 (v := some (.int (nar .boolean (0 : Int32)))) (fun fs hr => retN X0 hx (t := .boolean) Bd.returns (by simp) (hb hby d21_57) hr) (fun h => by rw [Bd.returns] at h; cases h) Bd.notSynchronized (by decide) (by decide) (by rw [e0]; exact ⟨(show some (Value.int (0 : Int32)) = some (.int (own_isEnd q d c_ f t fin)) from by simp only [own_isEnd, eq_true hc8, eq_true hc44, eq_false hc49, if_true, if_false, ↓reduceIte, not_true_eq_false, not_false_eq_true, true_and, and_true, false_and, and_false, or_true, true_or, or_false, false_or, and_self, or_self]), N0, rfl⟩)
      · show Goes p e below W s₁ (mkF m 52 #[.val (.int q), .val (.int d), .val (.int c_), .val (.int f), .val (.int t), .val (.int fin), .val (.int (q - (1 : Int32))), .val (.int (0 : Int32))] [])
        refine Goes.on (T' := s₁) (g' := (mkF m 53 #[.val (.int q), .val (.int d), .val (.int c_), .val (.int f), .val (.int t), .val (.int fin), .val (.int (q - (1 : Int32))), .val (.int (0 : Int32))] [(.int (1 : Int32))])) ?_ (fun t_ k_ => XS.iconst X0.here hx rfl (hb hby d21_52) k_)
        refine Goes.on (T' := s₁) (g' := (mkF m 57 #[.val (.int q), .val (.int d), .val (.int c_), .val (.int f), .val (.int t), .val (.int fin), .val (.int (q - (1 : Int32))), .val (.int (0 : Int32))] [(.int (1 : Int32))])) ?_ (fun t_ k_ => XS.goto X0.here hx rfl (pc0 := 53) (pc' := 57) rfl (hb hby d21_53) (by decide) (by decide) k_)
        rw [hWd]
        exact Goes.retn X0 (v := some (.int (nar .boolean (1 : Int32)))) (fun fs hr => retN X0 hx (t := .boolean) Bd.returns (by simp) (hb hby d21_57) hr) (fun h => by rw [Bd.returns] at h; cases h) Bd.notSynchronized (by decide) (by decide) (by rw [e0]; exact ⟨(show some (Value.int (1 : Int32)) = some (.int (own_isEnd q d c_ f t fin)) from by simp only [own_isEnd, eq_true hc8, eq_true hc44, eq_true hc49, if_true, if_false, ↓reduceIte, not_true_eq_false, not_false_eq_true, true_and, and_true, false_and, and_false, or_true, true_or, or_false, false_or, and_self, or_self]), N0, rfl⟩)
  · show Goes p e below W s₁ (mkF m 11 #[.val (.int q), .val (.int d), .val (.int c_), .val (.int f), .val (.int t), .val (.int fin), .val (.int (q - (1 : Int32))), .unset] [])
    refine Goes.on (T' := s₁) (g' := (mkF m 13 #[.val (.int q), .val (.int d), .val (.int c_), .val (.int f), .val (.int t), .val (.int fin), .val (.int (q - (1 : Int32))), .unset] [(.int (q - (1 : Int32)))])) ?_ (fun t_ k_ => XS.iload X0.here hx rfl (hb hby d21_11) rfl k_)
    refine Goes.on (T' := s₁) (g' := (mkF m 15 #[.val (.int q), .val (.int d), .val (.int c_), .val (.int f), .val (.int t), .val (.int fin), .val (.int (q - (1 : Int32))), .unset] [(.int t), (.int (q - (1 : Int32)))])) ?_ (fun t_ k_ => XS.iload X0.here hx rfl (hb hby d21_13) rfl k_)
    refine Goes.icmpN X0 hx rfl (pc0 := 15) (pc' := 33) rfl (hb hby d21_15) rfl (by decide) (by decide) (P := (q - (1 : Int32)) < t) (cmp_ge _ _) (fun hc15 => ?_) (fun hc15 => ?_)
    · show Goes p e below W s₁ (mkF m 33 #[.val (.int q), .val (.int d), .val (.int c_), .val (.int f), .val (.int t), .val (.int fin), .val (.int (q - (1 : Int32))), .unset] [])
      refine Goes.on (T' := s₁) (g' := (mkF m 34 #[.val (.int q), .val (.int d), .val (.int c_), .val (.int f), .val (.int t), .val (.int fin), .val (.int (q - (1 : Int32))), .unset] [(.int (0 : Int32))])) ?_ (fun t_ k_ => XS.iconst X0.here hx rfl (hb hby d21_33) k_)
      refine Goes.on (T' := s₁) (g' := (mkF m 36 #[.val (.int q), .val (.int d), .val (.int c_), .val (.int f), .val (.int t), .val (.int fin), .val (.int (q - (1 : Int32))), .val (.int (0 : Int32))] [])) ?_ (fun t_ k_ => XS.istore X0.here hx rfl (hb hby d21_34) rfl (l' := #[.val (.int q), .val (.int d), .val (.int c_), .val (.int f), .val (.int t), .val (.int fin), .val (.int (q - (1 : Int32))), .val (.int (0 : Int32))]) rfl k_)
      refine Goes.on (T' := s₁) (g' := (mkF m 38 #[.val (.int q), .val (.int d), .val (.int c_), .val (.int f), .val (.int t), .val (.int fin), .val (.int (q - (1 : Int32))), .val (.int (0 : Int32))] [(.int (0 : Int32))])) ?_ (fun t_ k_ => XS.iload X0.here hx rfl (hb hby d21_36) rfl k_)
      refine Goes.on (T' := s₁) (g' := (mkF m 41 #[.val (.int q), .val (.int d), .val (.int c_), .val (.int f), .val (.int t), .val (.int fin), .val (.int (q - (1 : Int32))), .val (.int (0 : Int32))] [])) ?_ (fun t_ k_ => XS.ifNo X0.here hx rfl (hb hby d21_38) rfl (by decide) k_)
      refine Goes.on (T' := s₁) (g' := (mkF m 42 #[.val (.int q), .val (.int d), .val (.int c_), .val (.int f), .val (.int t), .val (.int fin), .val (.int (q - (1 : Int32))), .val (.int (0 : Int32))] [(.int q)])) ?_ (fun t_ k_ => XS.iloadN X0.here hx rfl (hb hby d21_41) rfl k_)
      refine Goes.on (T' := s₁) (g' := (mkF m 44 #[.val (.int q), .val (.int d), .val (.int c_), .val (.int f), .val (.int t), .val (.int fin), .val (.int (q - (1 : Int32))), .val (.int (0 : Int32))] [(.int t), (.int q)])) ?_ (fun t_ k_ => XS.iload X0.here hx rfl (hb hby d21_42) rfl k_)
      refine Goes.icmpN X0 hx rfl (pc0 := 44) (pc' := 56) rfl (hb hby d21_44) rfl (by decide) (by decide) (P := q = t) (cmp_ne _ _) (fun hc44 => ?_) (fun hc44 => ?_)
      · show Goes p e below W s₁ (mkF m 56 #[.val (.int q), .val (.int d), .val (.int c_), .val (.int f), .val (.int t), .val (.int fin), .val (.int (q - (1 : Int32))), .val (.int (0 : Int32))] [])
        refine Goes.on (T' := s₁) (g' := (mkF m 57 #[.val (.int q), .val (.int d), .val (.int c_), .val (.int f), .val (.int t), .val (.int fin), .val (.int (q - (1 : Int32))), .val (.int (0 : Int32))] [(.int (0 : Int32))])) ?_ (fun t_ k_ => XS.iconst X0.here hx rfl (hb hby d21_56) k_)
        rw [hWd]
        exact Goes.retn X0 (v := some (.int (nar .boolean (0 : Int32)))) (fun fs hr => retN X0 hx (t := .boolean) Bd.returns (by simp) (hb hby d21_57) hr) (fun h => by rw [Bd.returns] at h; cases h) Bd.notSynchronized (by decide) (by decide) (by rw [e0]; exact ⟨(show some (Value.int (0 : Int32)) = some (.int (own_isEnd q d c_ f t fin)) from by simp only [own_isEnd, eq_false hc8, eq_false hc15, eq_false hc44, if_true, if_false, ↓reduceIte, not_true_eq_false, not_false_eq_true, true_and, and_true, false_and, and_false, or_true, true_or, or_false, false_or, and_self, or_self]), N0, rfl⟩)
      · show Goes p e below W s₁ (mkF m 47 #[.val (.int q), .val (.int d), .val (.int c_), .val (.int f), .val (.int t), .val (.int fin), .val (.int (q - (1 : Int32))), .val (.int (0 : Int32))] [])
        refine Goes.on (T' := s₁) (g' := (mkF m 49 #[.val (.int q), .val (.int d), .val (.int c_), .val (.int f), .val (.int t), .val (.int fin), .val (.int (q - (1 : Int32))), .val (.int (0 : Int32))] [(.int fin)])) ?_ (fun t_ k_ => XS.iload X0.here hx rfl (hb hby d21_47) rfl k_)
        refine Goes.ifN X0 hx rfl (pc0 := 49) (pc' := 56) rfl (hb hby d21_49) rfl (by decide) (by decide) (P := (0 : Int32) < fin) (ifc_le _ _) (fun hc49 => ?_) (fun hc49 => ?_)
        · show Goes p e below W s₁ (mkF m 56 #[.val (.int q), .val (.int d), .val (.int c_), .val (.int f), .val (.int t), .val (.int fin), .val (.int (q - (1 : Int32))), .val (.int (0 : Int32))] [])
          refine Goes.on (T' := s₁) (g' := (mkF m 57 #[.val (.int q), .val (.int d), .val (.int c_), .val (.int f), .val (.int t), .val (.int fin), .val (.int (q - (1 : Int32))), .val (.int (0 : Int32))] [(.int (0 : Int32))])) ?_ (fun t_ k_ => XS.iconst X0.here hx rfl (hb hby d21_56) k_)
          rw [hWd]
          exact Goes.retn X0 (v := some (.int (nar .boolean (0 : Int32)))) (fun fs hr => retN X0 hx (t := .boolean) Bd.returns (by simp) (hb hby d21_57) hr) (fun h => by rw [Bd.returns] at h; cases h) Bd.notSynchronized (by decide) (by decide) (by rw [e0]; exact ⟨(show some (Value.int (0 : Int32)) = some (.int (own_isEnd q d c_ f t fin)) from by simp only [own_isEnd, eq_false hc8, eq_false hc15, eq_true hc44, eq_false hc49, if_true, if_false, ↓reduceIte, not_true_eq_false, not_false_eq_true, true_and, and_true, false_and, and_false, or_true, true_or, or_false, false_or, and_self, or_self]), N0, rfl⟩)
        · show Goes p e below W s₁ (mkF m 52 #[.val (.int q), .val (.int d), .val (.int c_), .val (.int f), .val (.int t), .val (.int fin), .val (.int (q - (1 : Int32))), .val (.int (0 : Int32))] [])
          refine Goes.on (T' := s₁) (g' := (mkF m 53 #[.val (.int q), .val (.int d), .val (.int c_), .val (.int f), .val (.int t), .val (.int fin), .val (.int (q - (1 : Int32))), .val (.int (0 : Int32))] [(.int (1 : Int32))])) ?_ (fun t_ k_ => XS.iconst X0.here hx rfl (hb hby d21_52) k_)
          refine Goes.on (T' := s₁) (g' := (mkF m 57 #[.val (.int q), .val (.int d), .val (.int c_), .val (.int f), .val (.int t), .val (.int fin), .val (.int (q - (1 : Int32))), .val (.int (0 : Int32))] [(.int (1 : Int32))])) ?_ (fun t_ k_ => XS.goto X0.here hx rfl (pc0 := 53) (pc' := 57) rfl (hb hby d21_53) (by decide) (by decide) k_)
          rw [hWd]
          exact Goes.retn X0 (v := some (.int (nar .boolean (1 : Int32)))) (fun fs hr => retN X0 hx (t := .boolean) Bd.returns (by simp) (hb hby d21_57) hr) (fun h => by rw [Bd.returns] at h; cases h) Bd.notSynchronized (by decide) (by decide) (by rw [e0]; exact ⟨(show some (Value.int (1 : Int32)) = some (.int (own_isEnd q d c_ f t fin)) from by simp only [own_isEnd, eq_false hc8, eq_false hc15, eq_true hc44, eq_true hc49, if_true, if_false, ↓reduceIte, not_true_eq_false, not_false_eq_true, true_and, and_true, false_and, and_false, or_true, true_or, or_false, false_or, and_self, or_self]), N0, rfl⟩)
    · show Goes p e below W s₁ (mkF m 18 #[.val (.int q), .val (.int d), .val (.int c_), .val (.int f), .val (.int t), .val (.int fin), .val (.int (q - (1 : Int32))), .unset] [])
      refine Goes.on (T' := s₁) (g' := (mkF m 19 #[.val (.int q), .val (.int d), .val (.int c_), .val (.int f), .val (.int t), .val (.int fin), .val (.int (q - (1 : Int32))), .unset] [(.int c_)])) ?_ (fun t_ k_ => XS.iloadN X0.here hx rfl (hb hby d21_18) rfl k_)
      refine Goes.on (T' := s₁) (g' := (mkF m 21 #[.val (.int q), .val (.int d), .val (.int c_), .val (.int f), .val (.int t), .val (.int fin), .val (.int (q - (1 : Int32))), .unset] [(.int (41 : Int32)), (.int c_)])) ?_ (fun t_ k_ => XS.bipush X0.here hx rfl (hb hby d21_19) k_)
      refine Goes.icmpN X0 hx rfl (pc0 := 21) (pc' := 33) rfl (hb hby d21_21) rfl (by decide) (by decide) (P := c_ = (41 : Int32)) (cmp_ne _ _) (fun hc21 => ?_) (fun hc21 => ?_)
      · show Goes p e below W s₁ (mkF m 33 #[.val (.int q), .val (.int d), .val (.int c_), .val (.int f), .val (.int t), .val (.int fin), .val (.int (q - (1 : Int32))), .unset] [])
        refine Goes.on (T' := s₁) (g' := (mkF m 34 #[.val (.int q), .val (.int d), .val (.int c_), .val (.int f), .val (.int t), .val (.int fin), .val (.int (q - (1 : Int32))), .unset] [(.int (0 : Int32))])) ?_ (fun t_ k_ => XS.iconst X0.here hx rfl (hb hby d21_33) k_)
        refine Goes.on (T' := s₁) (g' := (mkF m 36 #[.val (.int q), .val (.int d), .val (.int c_), .val (.int f), .val (.int t), .val (.int fin), .val (.int (q - (1 : Int32))), .val (.int (0 : Int32))] [])) ?_ (fun t_ k_ => XS.istore X0.here hx rfl (hb hby d21_34) rfl (l' := #[.val (.int q), .val (.int d), .val (.int c_), .val (.int f), .val (.int t), .val (.int fin), .val (.int (q - (1 : Int32))), .val (.int (0 : Int32))]) rfl k_)
        refine Goes.on (T' := s₁) (g' := (mkF m 38 #[.val (.int q), .val (.int d), .val (.int c_), .val (.int f), .val (.int t), .val (.int fin), .val (.int (q - (1 : Int32))), .val (.int (0 : Int32))] [(.int (0 : Int32))])) ?_ (fun t_ k_ => XS.iload X0.here hx rfl (hb hby d21_36) rfl k_)
        refine Goes.on (T' := s₁) (g' := (mkF m 41 #[.val (.int q), .val (.int d), .val (.int c_), .val (.int f), .val (.int t), .val (.int fin), .val (.int (q - (1 : Int32))), .val (.int (0 : Int32))] [])) ?_ (fun t_ k_ => XS.ifNo X0.here hx rfl (hb hby d21_38) rfl (by decide) k_)
        refine Goes.on (T' := s₁) (g' := (mkF m 42 #[.val (.int q), .val (.int d), .val (.int c_), .val (.int f), .val (.int t), .val (.int fin), .val (.int (q - (1 : Int32))), .val (.int (0 : Int32))] [(.int q)])) ?_ (fun t_ k_ => XS.iloadN X0.here hx rfl (hb hby d21_41) rfl k_)
        refine Goes.on (T' := s₁) (g' := (mkF m 44 #[.val (.int q), .val (.int d), .val (.int c_), .val (.int f), .val (.int t), .val (.int fin), .val (.int (q - (1 : Int32))), .val (.int (0 : Int32))] [(.int t), (.int q)])) ?_ (fun t_ k_ => XS.iload X0.here hx rfl (hb hby d21_42) rfl k_)
        refine Goes.icmpN X0 hx rfl (pc0 := 44) (pc' := 56) rfl (hb hby d21_44) rfl (by decide) (by decide) (P := q = t) (cmp_ne _ _) (fun hc44 => ?_) (fun hc44 => ?_)
        · show Goes p e below W s₁ (mkF m 56 #[.val (.int q), .val (.int d), .val (.int c_), .val (.int f), .val (.int t), .val (.int fin), .val (.int (q - (1 : Int32))), .val (.int (0 : Int32))] [])
          refine Goes.on (T' := s₁) (g' := (mkF m 57 #[.val (.int q), .val (.int d), .val (.int c_), .val (.int f), .val (.int t), .val (.int fin), .val (.int (q - (1 : Int32))), .val (.int (0 : Int32))] [(.int (0 : Int32))])) ?_ (fun t_ k_ => XS.iconst X0.here hx rfl (hb hby d21_56) k_)
          rw [hWd]
          exact Goes.retn X0 (v := some (.int (nar .boolean (0 : Int32)))) (fun fs hr => retN X0 hx (t := .boolean) Bd.returns (by simp) (hb hby d21_57) hr) (fun h => by rw [Bd.returns] at h; cases h) Bd.notSynchronized (by decide) (by decide) (by rw [e0]; exact ⟨(show some (Value.int (0 : Int32)) = some (.int (own_isEnd q d c_ f t fin)) from by simp only [own_isEnd, eq_false hc8, eq_true hc15, eq_false hc21, eq_false hc44, if_true, if_false, ↓reduceIte, not_true_eq_false, not_false_eq_true, true_and, and_true, false_and, and_false, or_true, true_or, or_false, false_or, and_self, or_self]), N0, rfl⟩)
        · show Goes p e below W s₁ (mkF m 47 #[.val (.int q), .val (.int d), .val (.int c_), .val (.int f), .val (.int t), .val (.int fin), .val (.int (q - (1 : Int32))), .val (.int (0 : Int32))] [])
          refine Goes.on (T' := s₁) (g' := (mkF m 49 #[.val (.int q), .val (.int d), .val (.int c_), .val (.int f), .val (.int t), .val (.int fin), .val (.int (q - (1 : Int32))), .val (.int (0 : Int32))] [(.int fin)])) ?_ (fun t_ k_ => XS.iload X0.here hx rfl (hb hby d21_47) rfl k_)
          refine Goes.ifN X0 hx rfl (pc0 := 49) (pc' := 56) rfl (hb hby d21_49) rfl (by decide) (by decide) (P := (0 : Int32) < fin) (ifc_le _ _) (fun hc49 => ?_) (fun hc49 => ?_)
          · show Goes p e below W s₁ (mkF m 56 #[.val (.int q), .val (.int d), .val (.int c_), .val (.int f), .val (.int t), .val (.int fin), .val (.int (q - (1 : Int32))), .val (.int (0 : Int32))] [])
            refine Goes.on (T' := s₁) (g' := (mkF m 57 #[.val (.int q), .val (.int d), .val (.int c_), .val (.int f), .val (.int t), .val (.int fin), .val (.int (q - (1 : Int32))), .val (.int (0 : Int32))] [(.int (0 : Int32))])) ?_ (fun t_ k_ => XS.iconst X0.here hx rfl (hb hby d21_56) k_)
            rw [hWd]
            exact Goes.retn X0 (v := some (.int (nar .boolean (0 : Int32)))) (fun fs hr => retN X0 hx (t := .boolean) Bd.returns (by simp) (hb hby d21_57) hr) (fun h => by rw [Bd.returns] at h; cases h) Bd.notSynchronized (by decide) (by decide) (by rw [e0]; exact ⟨(show some (Value.int (0 : Int32)) = some (.int (own_isEnd q d c_ f t fin)) from by simp only [own_isEnd, eq_false hc8, eq_true hc15, eq_false hc21, eq_true hc44, eq_false hc49, if_true, if_false, ↓reduceIte, not_true_eq_false, not_false_eq_true, true_and, and_true, false_and, and_false, or_true, true_or, or_false, false_or, and_self, or_self]), N0, rfl⟩)
          · show Goes p e below W s₁ (mkF m 52 #[.val (.int q), .val (.int d), .val (.int c_), .val (.int f), .val (.int t), .val (.int fin), .val (.int (q - (1 : Int32))), .val (.int (0 : Int32))] [])
            refine Goes.on (T' := s₁) (g' := (mkF m 53 #[.val (.int q), .val (.int d), .val (.int c_), .val (.int f), .val (.int t), .val (.int fin), .val (.int (q - (1 : Int32))), .val (.int (0 : Int32))] [(.int (1 : Int32))])) ?_ (fun t_ k_ => XS.iconst X0.here hx rfl (hb hby d21_52) k_)
            refine Goes.on (T' := s₁) (g' := (mkF m 57 #[.val (.int q), .val (.int d), .val (.int c_), .val (.int f), .val (.int t), .val (.int fin), .val (.int (q - (1 : Int32))), .val (.int (0 : Int32))] [(.int (1 : Int32))])) ?_ (fun t_ k_ => XS.goto X0.here hx rfl (pc0 := 53) (pc' := 57) rfl (hb hby d21_53) (by decide) (by decide) k_)
            rw [hWd]
            exact Goes.retn X0 (v := some (.int (nar .boolean (1 : Int32)))) (fun fs hr => retN X0 hx (t := .boolean) Bd.returns (by simp) (hb hby d21_57) hr) (fun h => by rw [Bd.returns] at h; cases h) Bd.notSynchronized (by decide) (by decide) (by rw [e0]; exact ⟨(show some (Value.int (1 : Int32)) = some (.int (own_isEnd q d c_ f t fin)) from by simp only [own_isEnd, eq_false hc8, eq_true hc15, eq_false hc21, eq_true hc44, eq_true hc49, if_true, if_false, ↓reduceIte, not_true_eq_false, not_false_eq_true, true_and, and_true, false_and, and_false, or_true, true_or, or_false, false_or, and_self, or_self]), N0, rfl⟩)
      · show Goes p e below W s₁ (mkF m 24 #[.val (.int q), .val (.int d), .val (.int c_), .val (.int f), .val (.int t), .val (.int fin), .val (.int (q - (1 : Int32))), .unset] [])
        refine Goes.on (T' := s₁) (g' := (mkF m 25 #[.val (.int q), .val (.int d), .val (.int c_), .val (.int f), .val (.int t), .val (.int fin), .val (.int (q - (1 : Int32))), .unset] [(.int d)])) ?_ (fun t_ k_ => XS.iloadN X0.here hx rfl (hb hby d21_24) rfl k_)
        refine Goes.on (T' := s₁) (g' := (mkF m 26 #[.val (.int q), .val (.int d), .val (.int c_), .val (.int f), .val (.int t), .val (.int fin), .val (.int (q - (1 : Int32))), .unset] [(.int (1 : Int32)), (.int d)])) ?_ (fun t_ k_ => XS.iconst X0.here hx rfl (hb hby d21_25) k_)
        refine Goes.icmpN X0 hx rfl (pc0 := 26) (pc' := 33) rfl (hb hby d21_26) rfl (by decide) (by decide) (P := d = (1 : Int32)) (cmp_ne _ _) (fun hc26 => ?_) (fun hc26 => ?_)
        · show Goes p e below W s₁ (mkF m 33 #[.val (.int q), .val (.int d), .val (.int c_), .val (.int f), .val (.int t), .val (.int fin), .val (.int (q - (1 : Int32))), .unset] [])
          refine Goes.on (T' := s₁) (g' := (mkF m 34 #[.val (.int q), .val (.int d), .val (.int c_), .val (.int f), .val (.int t), .val (.int fin), .val (.int (q - (1 : Int32))), .unset] [(.int (0 : Int32))])) ?_ (fun t_ k_ => XS.iconst X0.here hx rfl (hb hby d21_33) k_)
          refine Goes.on (T' := s₁) (g' := (mkF m 36 #[.val (.int q), .val (.int d), .val (.int c_), .val (.int f), .val (.int t), .val (.int fin), .val (.int (q - (1 : Int32))), .val (.int (0 : Int32))] [])) ?_ (fun t_ k_ => XS.istore X0.here hx rfl (hb hby d21_34) rfl (l' := #[.val (.int q), .val (.int d), .val (.int c_), .val (.int f), .val (.int t), .val (.int fin), .val (.int (q - (1 : Int32))), .val (.int (0 : Int32))]) rfl k_)
          refine Goes.on (T' := s₁) (g' := (mkF m 38 #[.val (.int q), .val (.int d), .val (.int c_), .val (.int f), .val (.int t), .val (.int fin), .val (.int (q - (1 : Int32))), .val (.int (0 : Int32))] [(.int (0 : Int32))])) ?_ (fun t_ k_ => XS.iload X0.here hx rfl (hb hby d21_36) rfl k_)
          refine Goes.on (T' := s₁) (g' := (mkF m 41 #[.val (.int q), .val (.int d), .val (.int c_), .val (.int f), .val (.int t), .val (.int fin), .val (.int (q - (1 : Int32))), .val (.int (0 : Int32))] [])) ?_ (fun t_ k_ => XS.ifNo X0.here hx rfl (hb hby d21_38) rfl (by decide) k_)
          refine Goes.on (T' := s₁) (g' := (mkF m 42 #[.val (.int q), .val (.int d), .val (.int c_), .val (.int f), .val (.int t), .val (.int fin), .val (.int (q - (1 : Int32))), .val (.int (0 : Int32))] [(.int q)])) ?_ (fun t_ k_ => XS.iloadN X0.here hx rfl (hb hby d21_41) rfl k_)
          refine Goes.on (T' := s₁) (g' := (mkF m 44 #[.val (.int q), .val (.int d), .val (.int c_), .val (.int f), .val (.int t), .val (.int fin), .val (.int (q - (1 : Int32))), .val (.int (0 : Int32))] [(.int t), (.int q)])) ?_ (fun t_ k_ => XS.iload X0.here hx rfl (hb hby d21_42) rfl k_)
          refine Goes.icmpN X0 hx rfl (pc0 := 44) (pc' := 56) rfl (hb hby d21_44) rfl (by decide) (by decide) (P := q = t) (cmp_ne _ _) (fun hc44 => ?_) (fun hc44 => ?_)
          · show Goes p e below W s₁ (mkF m 56 #[.val (.int q), .val (.int d), .val (.int c_), .val (.int f), .val (.int t), .val (.int fin), .val (.int (q - (1 : Int32))), .val (.int (0 : Int32))] [])
            refine Goes.on (T' := s₁) (g' := (mkF m 57 #[.val (.int q), .val (.int d), .val (.int c_), .val (.int f), .val (.int t), .val (.int fin), .val (.int (q - (1 : Int32))), .val (.int (0 : Int32))] [(.int (0 : Int32))])) ?_ (fun t_ k_ => XS.iconst X0.here hx rfl (hb hby d21_56) k_)
            rw [hWd]
            exact Goes.retn X0 (v := some (.int (nar .boolean (0 : Int32)))) (fun fs hr => retN X0 hx (t := .boolean) Bd.returns (by simp) (hb hby d21_57) hr) (fun h => by rw [Bd.returns] at h; cases h) Bd.notSynchronized (by decide) (by decide) (by rw [e0]; exact ⟨(show some (Value.int (0 : Int32)) = some (.int (own_isEnd q d c_ f t fin)) from by simp only [own_isEnd, eq_false hc8, eq_true hc15, eq_true hc21, eq_false hc26, eq_false hc44, if_true, if_false, ↓reduceIte, not_true_eq_false, not_false_eq_true, true_and, and_true, false_and, and_false, or_true, true_or, or_false, false_or, and_self, or_self]), N0, rfl⟩)
          · show Goes p e below W s₁ (mkF m 47 #[.val (.int q), .val (.int d), .val (.int c_), .val (.int f), .val (.int t), .val (.int fin), .val (.int (q - (1 : Int32))), .val (.int (0 : Int32))] [])
            refine Goes.on (T' := s₁) (g' := (mkF m 49 #[.val (.int q), .val (.int d), .val (.int c_), .val (.int f), .val (.int t), .val (.int fin), .val (.int (q - (1 : Int32))), .val (.int (0 : Int32))] [(.int fin)])) ?_ (fun t_ k_ => XS.iload X0.here hx rfl (hb hby d21_47) rfl k_)
            refine Goes.ifN X0 hx rfl (pc0 := 49) (pc' := 56) rfl (hb hby d21_49) rfl (by decide) (by decide) (P := (0 : Int32) < fin) (ifc_le _ _) (fun hc49 => ?_) (fun hc49 => ?_)
            · show Goes p e below W s₁ (mkF m 56 #[.val (.int q), .val (.int d), .val (.int c_), .val (.int f), .val (.int t), .val (.int fin), .val (.int (q - (1 : Int32))), .val (.int (0 : Int32))] [])
              refine Goes.on (T' := s₁) (g' := (mkF m 57 #[.val (.int q), .val (.int d), .val (.int c_), .val (.int f), .val (.int t), .val (.int fin), .val (.int (q - (1 : Int32))), .val (.int (0 : Int32))] [(.int (0 : Int32))])) ?_ (fun t_ k_ => XS.iconst X0.here hx rfl (hb hby d21_56) k_)
              rw [hWd]
              exact Goes.retn X0 (v := some (.int (nar .boolean (0 : Int32)))) (fun fs hr => retN X0 hx (t := .boolean) Bd.returns (by simp) (hb hby d21_57) hr) (fun h => by rw [Bd.returns] at h; cases h) Bd.notSynchronized (by decide) (by decide) (by rw [e0]; exact ⟨(show some (Value.int (0 : Int32)) = some (.int (own_isEnd q d c_ f t fin)) from by simp only [own_isEnd, eq_false hc8, eq_true hc15, eq_true hc21, eq_false hc26, eq_true hc44, eq_false hc49, if_true, if_false, ↓reduceIte, not_true_eq_false, not_false_eq_true, true_and, and_true, false_and, and_false, or_true, true_or, or_false, false_or, and_self, or_self]), N0, rfl⟩)
            · show Goes p e below W s₁ (mkF m 52 #[.val (.int q), .val (.int d), .val (.int c_), .val (.int f), .val (.int t), .val (.int fin), .val (.int (q - (1 : Int32))), .val (.int (0 : Int32))] [])
              refine Goes.on (T' := s₁) (g' := (mkF m 53 #[.val (.int q), .val (.int d), .val (.int c_), .val (.int f), .val (.int t), .val (.int fin), .val (.int (q - (1 : Int32))), .val (.int (0 : Int32))] [(.int (1 : Int32))])) ?_ (fun t_ k_ => XS.iconst X0.here hx rfl (hb hby d21_52) k_)
              refine Goes.on (T' := s₁) (g' := (mkF m 57 #[.val (.int q), .val (.int d), .val (.int c_), .val (.int f), .val (.int t), .val (.int fin), .val (.int (q - (1 : Int32))), .val (.int (0 : Int32))] [(.int (1 : Int32))])) ?_ (fun t_ k_ => XS.goto X0.here hx rfl (pc0 := 53) (pc' := 57) rfl (hb hby d21_53) (by decide) (by decide) k_)
              rw [hWd]
              exact Goes.retn X0 (v := some (.int (nar .boolean (1 : Int32)))) (fun fs hr => retN X0 hx (t := .boolean) Bd.returns (by simp) (hb hby d21_57) hr) (fun h => by rw [Bd.returns] at h; cases h) Bd.notSynchronized (by decide) (by decide) (by rw [e0]; exact ⟨(show some (Value.int (1 : Int32)) = some (.int (own_isEnd q d c_ f t fin)) from by simp only [own_isEnd, eq_false hc8, eq_true hc15, eq_true hc21, eq_false hc26, eq_true hc44, eq_true hc49, if_true, if_false, ↓reduceIte, not_true_eq_false, not_false_eq_true, true_and, and_true, false_and, and_false, or_true, true_or, or_false, false_or, and_self, or_self]), N0, rfl⟩)
        · show Goes p e below W s₁ (mkF m 29 #[.val (.int q), .val (.int d), .val (.int c_), .val (.int f), .val (.int t), .val (.int fin), .val (.int (q - (1 : Int32))), .unset] [])
          refine Goes.on (T' := s₁) (g' := (mkF m 30 #[.val (.int q), .val (.int d), .val (.int c_), .val (.int f), .val (.int t), .val (.int fin), .val (.int (q - (1 : Int32))), .unset] [(.int (1 : Int32))])) ?_ (fun t_ k_ => XS.iconst X0.here hx rfl (hb hby d21_29) k_)
          refine Goes.on (T' := s₁) (g' := (mkF m 34 #[.val (.int q), .val (.int d), .val (.int c_), .val (.int f), .val (.int t), .val (.int fin), .val (.int (q - (1 : Int32))), .unset] [(.int (1 : Int32))])) ?_ (fun t_ k_ => XS.goto X0.here hx rfl (pc0 := 30) (pc' := 34) rfl (hb hby d21_30) (by decide) (by decide) k_)
          refine Goes.on (T' := s₁) (g' := (mkF m 36 #[.val (.int q), .val (.int d), .val (.int c_), .val (.int f), .val (.int t), .val (.int fin), .val (.int (q - (1 : Int32))), .val (.int (1 : Int32))] [])) ?_ (fun t_ k_ => XS.istore X0.here hx rfl (hb hby d21_34) rfl (l' := #[.val (.int q), .val (.int d), .val (.int c_), .val (.int f), .val (.int t), .val (.int fin), .val (.int (q - (1 : Int32))), .val (.int (1 : Int32))]) rfl k_)
          refine Goes.on (T' := s₁) (g' := (mkF m 38 #[.val (.int q), .val (.int d), .val (.int c_), .val (.int f), .val (.int t), .val (.int fin), .val (.int (q - (1 : Int32))), .val (.int (1 : Int32))] [(.int (1 : Int32))])) ?_ (fun t_ k_ => XS.iload X0.here hx rfl (hb hby d21_36) rfl k_)
          refine Goes.on (T' := s₁) (g' := (mkF m 52 #[.val (.int q), .val (.int d), .val (.int c_), .val (.int f), .val (.int t), .val (.int fin), .val (.int (q - (1 : Int32))), .val (.int (1 : Int32))] [])) ?_ (fun t_ k_ => XS.ifYes X0.here hx rfl (pc0 := 38) (pc' := 52) rfl (hb hby d21_38) rfl (by decide) (by decide) (by decide) k_)
          refine Goes.on (T' := s₁) (g' := (mkF m 53 #[.val (.int q), .val (.int d), .val (.int c_), .val (.int f), .val (.int t), .val (.int fin), .val (.int (q - (1 : Int32))), .val (.int (1 : Int32))] [(.int (1 : Int32))])) ?_ (fun t_ k_ => XS.iconst X0.here hx rfl (hb hby d21_52) k_)
          refine Goes.on (T' := s₁) (g' := (mkF m 57 #[.val (.int q), .val (.int d), .val (.int c_), .val (.int f), .val (.int t), .val (.int fin), .val (.int (q - (1 : Int32))), .val (.int (1 : Int32))] [(.int (1 : Int32))])) ?_ (fun t_ k_ => XS.goto X0.here hx rfl (pc0 := 53) (pc' := 57) rfl (hb hby d21_53) (by decide) (by decide) k_)
          rw [hWd]
          exact Goes.retn X0 (v := some (.int (nar .boolean (1 : Int32)))) (fun fs hr => retN X0 hx (t := .boolean) Bd.returns (by simp) (hb hby d21_57) hr) (fun h => by rw [Bd.returns] at h; cases h) Bd.notSynchronized (by decide) (by decide) (by rw [e0]; exact ⟨(show some (Value.int (1 : Int32)) = some (.int (own_isEnd q d c_ f t fin)) from by simp only [own_isEnd, eq_false hc8, eq_true hc15, eq_true hc21, eq_true hc26, if_true, if_false, ↓reduceIte, not_true_eq_false, not_false_eq_true, true_and, and_true, false_and, and_false, or_true, true_or, or_false, false_or, and_self, or_self]), N0, rfl⟩)
def QMN (Z : State) (u w : Int32) (h0 : Heap) (n0 : Nat) (v : Option Value) (h : Heap) (L : List Loc) : Prop := v = some (.int (own_min u w)) ∧ Fr n0 L ∧ h = h0
set_option maxRecDepth 65536 in
set_option maxHeartbeats 40000000 in
theorem rmMN (l : Launch) (Z : State) (a0 : Array Value) (hw : ∀ d ∈ tables_1, d.before a0 Z = true) (ws : List Jvm.Cond) (u w : Int32) (h0 : Heap) (n0 : Nat) (Z0 : n0 ≤ h0.size)  :
    MetFree l (⟨"java/lang/Math", "min", "(II)I"⟩ : MethodName) (head1 (Jvm.Cond.code (⟨"java/lang/Math", "min", "(II)I"⟩ : MethodName) jdk_29_method_69_code 2 (some .int) :: ws) ({ frames := 0, cells := 0, slots := 0, locals := 0 } : Room)) (fun a_ U => a_ = #[(.int u), (.int w)] ∧ Z.Warmed39 U.vm ∧ U.heap = h0) (fun _ _ _ _ _ => True) (fun _ U o U' => ∃ v L, o = .returned v ∧ QMN Z u w h0 n0 v U'.heap L ∧ FrameEnd U o U' L ({ frames := 0, cells := 0, slots := 0, locals := 0 } : Room).cells ({ frames := 0, cells := 0, slots := 0, locals := 0 } : Room).slots) := by
  refine MetFree.of_bodySF (show plainFor (⟨"java/lang/Math", "min", "(II)I"⟩ : MethodName) = true by decide +kernel) hisR ?_
  intro p e s m args below meth c s₁ Bd hml0 hP hK
  obtain ⟨rfl, hZ, hh⟩ := hP
  have hx := Bd.exec
  have hby := Bd.bytes
  have hml : c.maxLocals = 2 := hml0
  have hown : s.vm.findClass "java/lang/Math" = some m.cls := findClass_of_methodNamed Bd.named
  have hnm := (name_of_methodNamed Bd.named Bd.method).1
  have X0 : Stand p l e ({ frames := 0, cells := 0, slots := 0, locals := 0 } : Room) s m #[(.int u), (.int w)] below meth c s₁ [] 0 0 := Stand.of_body Bd
  have e0 : s₁.heap = h0 := by rw [← hh, Bd.state]; rfl
  have N0 := Fr.nil n0
  refine Goes.done ?_
  obtain ⟨W, hWd⟩ : ∃ W : State → Prop, W = EndW s below (QMN Z u w h0 n0) ({ frames := 0, cells := 0, slots := 0, locals := 0 } : Room).cells ({ frames := 0, cells := 0, slots := 0, locals := 0 } : Room).slots := ⟨_, rfl⟩
  rw [← hWd]
  have hef : entryFrame m #[(.int u), (.int w)] 2 = (mkF m 0 #[.val (.int u), .val (.int w)] []) := by first | (simp [entryFrame, mkF, argsToLocals, Value.category]; done) | rfl
  rw [hef]
  refine Goes.on (T' := s₁) (g' := (mkF m 1 #[.val (.int u), .val (.int w)] [(.int u)])) ?_ (fun t_ k_ => XS.iloadN X0.here hx rfl (hb hby d18_0) rfl k_)
  refine Goes.on (T' := s₁) (g' := (mkF m 2 #[.val (.int u), .val (.int w)] [(.int w), (.int u)])) ?_ (fun t_ k_ => XS.iloadN X0.here hx rfl (hb hby d18_1) rfl k_)
  refine Goes.icmpP X0 hx rfl (pc0 := 2) (pc' := 9) rfl (hb hby d18_2) rfl (by decide) (by decide) (P := w < u) (cmp_gt _ _) (fun hc2 => ?_) (fun hc2 => ?_)
  · show Goes p e below W s₁ (mkF m 9 #[.val (.int u), .val (.int w)] [])
    refine Goes.on (T' := s₁) (g' := (mkF m 10 #[.val (.int u), .val (.int w)] [(.int w)])) ?_ (fun t_ k_ => XS.iloadN X0.here hx rfl (hb hby d18_9) rfl k_)
    rw [hWd]
    exact Goes.retn X0 (v := some (.int w)) (fun fs hr => retI X0 hx Bd.returns (hb hby d18_10) hr) (fun h => by rw [Bd.returns] at h; cases h) Bd.notSynchronized (by decide) (by decide) (by rw [e0]; exact ⟨(show some (Value.int w) = some (.int (own_min u w)) from by simp only [own_min, eq_true hc2, if_true, if_false, ↓reduceIte, not_true_eq_false, not_false_eq_true, true_and, and_true, false_and, and_false, or_true, true_or, or_false, false_or, and_self, or_self]), N0, rfl⟩)
  · show Goes p e below W s₁ (mkF m 5 #[.val (.int u), .val (.int w)] [])
    refine Goes.on (T' := s₁) (g' := (mkF m 6 #[.val (.int u), .val (.int w)] [(.int u)])) ?_ (fun t_ k_ => XS.iloadN X0.here hx rfl (hb hby d18_5) rfl k_)
    refine Goes.on (T' := s₁) (g' := (mkF m 10 #[.val (.int u), .val (.int w)] [(.int u)])) ?_ (fun t_ k_ => XS.goto X0.here hx rfl (pc0 := 6) (pc' := 10) rfl (hb hby d18_6) (by decide) (by decide) k_)
    rw [hWd]
    exact Goes.retn X0 (v := some (.int u)) (fun fs hr => retI X0 hx Bd.returns (hb hby d18_10) hr) (fun h => by rw [Bd.returns] at h; cases h) Bd.notSynchronized (by decide) (by decide) (by rw [e0]; exact ⟨(show some (Value.int u) = some (.int (own_min u w)) from by simp only [own_min, eq_false hc2, if_true, if_false, ↓reduceIte, not_true_eq_false, not_false_eq_true, true_and, and_true, false_and, and_false, or_true, true_or, or_false, false_or, and_self, or_self]), N0, rfl⟩)
def QPK (Z : State) (s_ : Int64) (i : Int32) (h0 : Heap) (n0 : Nat) (v : Option Value) (h : Heap) (L : List Loc) : Prop := v = some (.int (own_pick s_ i)) ∧ Fr n0 L ∧ h = h0
set_option maxRecDepth 65536 in
set_option maxHeartbeats 40000000 in
theorem rmPK (l : Launch) (Z : State) (a0 : Array Value) (hw : ∀ d ∈ tables_1, d.before a0 Z = true) (ws : List Jvm.Cond) (s_ : Int64) (i : Int32) (h0 : Heap) (n0 : Nat) (Z0 : n0 ≤ h0.size)  :
    MetFree l (⟨"com/example/covenantry/covenantry/read/MatchesBracketsPinLaw", "pick", "(JI)C"⟩ : MethodName) (head1 (Jvm.Cond.code (⟨"com/example/covenantry/covenantry/read/MatchesBracketsPinLaw", "pick", "(JI)C"⟩ : MethodName) method_2_code 5 (some .char) :: ws) ({ frames := 0, cells := 0, slots := 0, locals := 0 } : Room)) (fun a_ U => a_ = #[(.long s_), (.int i)] ∧ Z.Warmed39 U.vm ∧ U.heap = h0) (fun _ _ _ _ _ => True) (fun _ U o U' => ∃ v L, o = .returned v ∧ QPK Z s_ i h0 n0 v U'.heap L ∧ FrameEnd U o U' L ({ frames := 0, cells := 0, slots := 0, locals := 0 } : Room).cells ({ frames := 0, cells := 0, slots := 0, locals := 0 } : Room).slots) := by
  refine MetFree.of_bodySF (plainFor_of_name pn_0) hisR ?_
  intro p e s m args below meth c s₁ Bd hml0 hP hK
  obtain ⟨rfl, hZ, hh⟩ := hP
  have hx := Bd.exec
  have hby := Bd.bytes
  have hml : c.maxLocals = 5 := hml0
  have hown : s.vm.findClass "com/example/covenantry/covenantry/read/MatchesBracketsPinLaw" = some m.cls := findClass_of_methodNamed Bd.named
  have hnm := (name_of_methodNamed Bd.named Bd.method).1
  have X0 : Stand p l e ({ frames := 0, cells := 0, slots := 0, locals := 0 } : Room) s m #[(.long s_), (.int i)] below meth c s₁ [] 0 0 := Stand.of_body Bd
  have e0 : s₁.heap = h0 := by rw [← hh, Bd.state]; rfl
  have N0 := Fr.nil n0
  refine Goes.done ?_
  obtain ⟨W, hWd⟩ : ∃ W : State → Prop, W = EndW s below (QPK Z s_ i h0 n0) ({ frames := 0, cells := 0, slots := 0, locals := 0 } : Room).cells ({ frames := 0, cells := 0, slots := 0, locals := 0 } : Room).slots := ⟨_, rfl⟩
  rw [← hWd]
  have hef : entryFrame m #[(.long s_), (.int i)] 5 = (mkF m 0 #[.val (.long s_), .second, .val (.int i), .unset, .unset] []) := by first | (simp [entryFrame, mkF, argsToLocals, Value.category]; done) | rfl
  rw [hef]
  refine Goes.on (T' := s₁) (g' := (mkF m 1 #[.val (.long s_), .second, .val (.int i), .unset, .unset] [(.long s_)])) ?_ (fun t_ k_ => XS.lloadN X0.here hx rfl (hb hby d1_0) rfl k_)
  refine Goes.on (T' := s₁) (g' := (mkF m 3 #[.val (.long s_), .second, .val (.int i), .unset, .unset] [(.int (10 : Int32)), (.long s_)])) ?_ (fun t_ k_ => XS.bipush X0.here hx rfl (hb hby d1_1) k_)
  refine Goes.on (T' := s₁) (g' := (mkF m 4 #[.val (.long s_), .second, .val (.int i), .unset, .unset] [(.int i), (.int (10 : Int32)), (.long s_)])) ?_ (fun t_ k_ => XS.iloadN X0.here hx rfl (hb hby d1_3) rfl k_)
  refine Goes.on (T' := s₁) (g' := (mkF m 5 #[.val (.long s_), .second, .val (.int i), .unset, .unset] [(.int ((10 : Int32) * i)), (.long s_)])) ?_ (fun t_ k_ => XS.imul X0.here hx rfl (hb hby d1_4) rfl k_)
  refine Goes.on (T' := s₁) (g' := (mkF m 6 #[.val (.long s_), .second, .val (.int i), .unset, .unset] [(.long ((s_.toUInt64 >>> (((10 : Int32) * i) &&& 0x3f).toInt64.toUInt64).toInt64))])) ?_ (fun t_ k_ => XS.lushr X0.here hx rfl (hb hby d1_5) rfl k_)
  refine Goes.on (T' := s₁) (g' := (mkF m 7 #[.val (.long s_), .second, .val (.int i), .unset, .unset] [(.int (((s_.toUInt64 >>> (((10 : Int32) * i) &&& 0x3f).toInt64.toUInt64).toInt64).toInt32))])) ?_ (fun t_ k_ => XS.l2i X0.here hx rfl (hb hby d1_6) rfl k_)
  refine Goes.on (T' := s₁) (g' := (mkF m 10 #[.val (.long s_), .second, .val (.int i), .unset, .unset] [(.int (1023 : Int32)), (.int (((s_.toUInt64 >>> (((10 : Int32) * i) &&& 0x3f).toInt64.toUInt64).toInt64).toInt32))])) ?_ (fun t_ k_ => XS.sipush X0.here hx rfl (hb hby d1_7) k_)
  refine Goes.on (T' := s₁) (g' := (mkF m 11 #[.val (.long s_), .second, .val (.int i), .unset, .unset] [(.int (own_bits s_ i))])) ?_ (fun t_ k_ => XS.iand X0.here hx rfl (hb hby d1_10) rfl k_)
  refine Goes.on (T' := s₁) (g' := (mkF m 12 #[.val (.long s_), .second, .val (.int i), .val (.int (own_bits s_ i)), .unset] [])) ?_ (fun t_ k_ => XS.istoreN X0.here hx rfl (hb hby d1_11) rfl (l' := #[.val (.long s_), .second, .val (.int i), .val (.int (own_bits s_ i)), .unset]) rfl k_)
  refine Goes.on (T' := s₁) (g' := (mkF m 13 #[.val (.long s_), .second, .val (.int i), .val (.int (own_bits s_ i)), .unset] [(.int (own_bits s_ i))])) ?_ (fun t_ k_ => XS.iloadN X0.here hx rfl (hb hby d1_12) rfl k_)
  refine Goes.on (T' := s₁) (g' := (mkF m 14 #[.val (.long s_), .second, .val (.int i), .val (.int (own_bits s_ i)), .unset] [(.int (3 : Int32)), (.int (own_bits s_ i))])) ?_ (fun t_ k_ => XS.iconst X0.here hx rfl (hb hby d1_13) k_)
  refine Goes.on (T' := s₁) (g' := (mkF m 15 #[.val (.long s_), .second, .val (.int i), .val (.int (own_bits s_ i)), .unset] [(.int ((own_bits s_ i) &&& (3 : Int32)))])) ?_ (fun t_ k_ => XS.iand X0.here hx rfl (hb hby d1_14) rfl k_)
  refine Goes.on (T' := s₁) (g' := (mkF m 17 #[.val (.long s_), .second, .val (.int i), .val (.int (own_bits s_ i)), .val (.int ((own_bits s_ i) &&& (3 : Int32)))] [])) ?_ (fun t_ k_ => XS.istore X0.here hx rfl (hb hby d1_15) rfl (l' := #[.val (.long s_), .second, .val (.int i), .val (.int (own_bits s_ i)), .val (.int ((own_bits s_ i) &&& (3 : Int32)))]) rfl k_)
  refine Goes.on (T' := s₁) (g' := (mkF m 19 #[.val (.long s_), .second, .val (.int i), .val (.int (own_bits s_ i)), .val (.int ((own_bits s_ i) &&& (3 : Int32)))] [(.int ((own_bits s_ i) &&& (3 : Int32)))])) ?_ (fun t_ k_ => XS.iload X0.here hx rfl (hb hby d1_17) rfl k_)
  refine Goes.ifN X0 hx rfl (pc0 := 19) (pc' := 25) rfl (hb hby d1_19) rfl (by decide) (by decide) (P := ((own_bits s_ i) &&& (3 : Int32)) = (0 : Int32)) (ifc_ne _ _) (fun hc19 => ?_) (fun hc19 => ?_)
  · show Goes p e below W s₁ (mkF m 25 #[.val (.long s_), .second, .val (.int i), .val (.int (own_bits s_ i)), .val (.int ((own_bits s_ i) &&& (3 : Int32)))] [])
    refine Goes.on (T' := s₁) (g' := (mkF m 27 #[.val (.long s_), .second, .val (.int i), .val (.int (own_bits s_ i)), .val (.int ((own_bits s_ i) &&& (3 : Int32)))] [(.int ((own_bits s_ i) &&& (3 : Int32)))])) ?_ (fun t_ k_ => XS.iload X0.here hx rfl (hb hby d1_25) rfl k_)
    refine Goes.on (T' := s₁) (g' := (mkF m 28 #[.val (.long s_), .second, .val (.int i), .val (.int (own_bits s_ i)), .val (.int ((own_bits s_ i) &&& (3 : Int32)))] [(.int (1 : Int32)), (.int ((own_bits s_ i) &&& (3 : Int32)))])) ?_ (fun t_ k_ => XS.iconst X0.here hx rfl (hb hby d1_27) k_)
    refine Goes.icmpN X0 hx rfl (pc0 := 28) (pc' := 34) rfl (hb hby d1_28) rfl (by decide) (by decide) (P := ((own_bits s_ i) &&& (3 : Int32)) = (1 : Int32)) (cmp_ne _ _) (fun hc28 => ?_) (fun hc28 => ?_)
    · show Goes p e below W s₁ (mkF m 34 #[.val (.long s_), .second, .val (.int i), .val (.int (own_bits s_ i)), .val (.int ((own_bits s_ i) &&& (3 : Int32)))] [])
      refine Goes.on (T' := s₁) (g' := (mkF m 35 #[.val (.long s_), .second, .val (.int i), .val (.int (own_bits s_ i)), .val (.int ((own_bits s_ i) &&& (3 : Int32)))] [(.int (own_bits s_ i))])) ?_ (fun t_ k_ => XS.iloadN X0.here hx rfl (hb hby d1_34) rfl k_)
      refine Goes.on (T' := s₁) (g' := (mkF m 36 #[.val (.long s_), .second, .val (.int i), .val (.int (own_bits s_ i)), .val (.int ((own_bits s_ i) &&& (3 : Int32)))] [(.int (2 : Int32)), (.int (own_bits s_ i))])) ?_ (fun t_ k_ => XS.iconst X0.here hx rfl (hb hby d1_35) k_)
      refine Goes.on (T' := s₁) (g' := (mkF m 37 #[.val (.long s_), .second, .val (.int i), .val (.int (own_bits s_ i)), .val (.int ((own_bits s_ i) &&& (3 : Int32)))] [(.int (((own_bits s_ i).toUInt32 >>> ((2 : Int32) &&& 31).toUInt32).toInt32))])) ?_ (fun t_ k_ => XS.iushr X0.here hx rfl (hb hby d1_36) rfl k_)
      refine Goes.on (T' := s₁) (g' := (mkF m 40 #[.val (.long s_), .second, .val (.int i), .val (.int (own_bits s_ i)), .val (.int ((own_bits s_ i) &&& (3 : Int32)))] [(.int (255 : Int32)), (.int (((own_bits s_ i).toUInt32 >>> ((2 : Int32) &&& 31).toUInt32).toInt32))])) ?_ (fun t_ k_ => XS.sipush X0.here hx rfl (hb hby d1_37) k_)
      refine Goes.on (T' := s₁) (g' := (mkF m 41 #[.val (.long s_), .second, .val (.int i), .val (.int (own_bits s_ i)), .val (.int ((own_bits s_ i) &&& (3 : Int32)))] [(.int ((((own_bits s_ i).toUInt32 >>> ((2 : Int32) &&& 31).toUInt32).toInt32) &&& (255 : Int32)))])) ?_ (fun t_ k_ => XS.iand X0.here hx rfl (hb hby d1_40) rfl k_)
      refine Goes.on (T' := s₁) (g' := (mkF m 42 #[.val (.long s_), .second, .val (.int i), .val (.int (own_bits s_ i)), .val (.int ((own_bits s_ i) &&& (3 : Int32)))] [(.int (((((own_bits s_ i).toUInt32 >>> ((2 : Int32) &&& 31).toUInt32).toInt32) &&& (255 : Int32)).toUInt32.toUInt16.toUInt32.toInt32))])) ?_ (fun t_ k_ => XS.i2c X0.here hx rfl (hb hby d1_41) rfl k_)
      rw [hWd]
      exact Goes.retn X0 (v := some (.int (nar .char (((((own_bits s_ i).toUInt32 >>> ((2 : Int32) &&& 31).toUInt32).toInt32) &&& (255 : Int32)).toUInt32.toUInt16.toUInt32.toInt32)))) (fun fs hr => retN X0 hx (t := .char) Bd.returns (by simp) (hb hby d1_42) hr) (fun h => by rw [Bd.returns] at h; cases h) Bd.notSynchronized (by decide) (by decide) (by rw [e0]; exact ⟨(show some (Value.int (nar .char (((((own_bits s_ i).toUInt32 >>> ((2 : Int32) &&& 31).toUInt32).toInt32) &&& (255 : Int32)).toUInt32.toUInt16.toUInt32.toInt32))) = some (.int (own_pick s_ i)) from by simp only [own_pick, eq_false hc19, eq_false hc28, if_true, if_false, ↓reduceIte, not_true_eq_false, not_false_eq_true, true_and, and_true, false_and, and_false, or_true, true_or, or_false, false_or, and_self, or_self]), N0, rfl⟩)
    · show Goes p e below W s₁ (mkF m 31 #[.val (.long s_), .second, .val (.int i), .val (.int (own_bits s_ i)), .val (.int ((own_bits s_ i) &&& (3 : Int32)))] [])
      refine Goes.on (T' := s₁) (g' := (mkF m 33 #[.val (.long s_), .second, .val (.int i), .val (.int (own_bits s_ i)), .val (.int ((own_bits s_ i) &&& (3 : Int32)))] [(.int (41 : Int32))])) ?_ (fun t_ k_ => XS.bipush X0.here hx rfl (hb hby d1_31) k_)
      rw [hWd]
      exact Goes.retn X0 (v := some (.int (nar .char (41 : Int32)))) (fun fs hr => retN X0 hx (t := .char) Bd.returns (by simp) (hb hby d1_33) hr) (fun h => by rw [Bd.returns] at h; cases h) Bd.notSynchronized (by decide) (by decide) (by rw [e0]; exact ⟨(show some (Value.int (41 : Int32)) = some (.int (own_pick s_ i)) from by simp only [own_pick, eq_false hc19, eq_true hc28, if_true, if_false, ↓reduceIte, not_true_eq_false, not_false_eq_true, true_and, and_true, false_and, and_false, or_true, true_or, or_false, false_or, and_self, or_self]), N0, rfl⟩)
  · show Goes p e below W s₁ (mkF m 22 #[.val (.long s_), .second, .val (.int i), .val (.int (own_bits s_ i)), .val (.int ((own_bits s_ i) &&& (3 : Int32)))] [])
    refine Goes.on (T' := s₁) (g' := (mkF m 24 #[.val (.long s_), .second, .val (.int i), .val (.int (own_bits s_ i)), .val (.int ((own_bits s_ i) &&& (3 : Int32)))] [(.int (40 : Int32))])) ?_ (fun t_ k_ => XS.bipush X0.here hx rfl (hb hby d1_22) k_)
    rw [hWd]
    exact Goes.retn X0 (v := some (.int (nar .char (40 : Int32)))) (fun fs hr => retN X0 hx (t := .char) Bd.returns (by simp) (hb hby d1_24) hr) (fun h => by rw [Bd.returns] at h; cases h) Bd.notSynchronized (by decide) (by decide) (by rw [e0]; exact ⟨(show some (Value.int (40 : Int32)) = some (.int (own_pick s_ i)) from by simp only [own_pick, eq_true hc19, if_true, if_false, ↓reduceIte, not_true_eq_false, not_false_eq_true, true_and, and_true, false_and, and_false, or_true, true_or, or_false, false_or, and_self, or_self]), N0, rfl⟩)
def QB0 (Z : State) (t : Addr) (xs : List Int32) (key : Int32) (h0 : Heap) (n0 : Nat) (v : Option Value) (h : Heap) (L : List Loc) : Prop := v = some (.int (own_find xs key)) ∧ Fr n0 L ∧ h = h0
set_option maxRecDepth 65536 in
set_option maxHeartbeats 40000000 in
theorem rmB0 (l : Launch) (Z : State) (a0 : Array Value) (hw : ∀ d ∈ tables_1, d.before a0 Z = true) (ws : List Jvm.Cond) (t : Addr) (kt : ClassId) (xs : List Int32) (key : Int32) (h0 : Heap) (n0 : Nat) (Z0 : n0 ≤ h0.size) (K : Arv Z h0 t kt .int (Int32.ofNat xs.length) (xs.map Value.int) (.int 0)) (hl : xs.length ≤ 16) :
    MetFree l (⟨"java/util/Arrays", "binarySearch0", "([IIII)I"⟩ : MethodName) (head1 (Jvm.Cond.code (⟨"java/util/Arrays", "binarySearch0", "([IIII)I"⟩ : MethodName) jdk_65_method_59_code 8 (some .int) :: ws) ({ frames := 0, cells := 0, slots := 0, locals := 0 } : Room)) (fun a_ U => a_ = #[(.ref t), (.int (0 : Int32)), (.int (Int32.ofNat xs.length)), (.int key)] ∧ Z.Warmed39 U.vm ∧ U.heap = h0) (fun _ _ _ _ _ => True) (fun _ U o U' => ∃ v L, o = .returned v ∧ QB0 Z t xs key h0 n0 v U'.heap L ∧ FrameEnd U o U' L ({ frames := 0, cells := 0, slots := 0, locals := 0 } : Room).cells ({ frames := 0, cells := 0, slots := 0, locals := 0 } : Room).slots) := by
  refine MetFree.of_bodySF (plainFor_of_name pn_1) hisR ?_
  intro p e s m args below meth c s₁ Bd hml0 hP hK
  obtain ⟨rfl, hZ, hh⟩ := hP
  have hx := Bd.exec
  have hby := Bd.bytes
  have hml : c.maxLocals = 8 := hml0
  have hown : s.vm.findClass "java/util/Arrays" = some m.cls := findClass_of_methodNamed Bd.named
  have hnm := (name_of_methodNamed Bd.named Bd.method).1
  have X0 : Stand p l e ({ frames := 0, cells := 0, slots := 0, locals := 0 } : Room) s m #[(.ref t), (.int (0 : Int32)), (.int (Int32.ofNat xs.length)), (.int key)] below meth c s₁ [] 0 0 := Stand.of_body Bd
  have e0 : s₁.heap = h0 := by rw [← hh, Bd.state]; rfl
  have N0 := Fr.nil n0
  refine Goes.done ?_
  obtain ⟨W, hWd⟩ : ∃ W : State → Prop, W = EndW s below (QB0 Z t xs key h0 n0) ({ frames := 0, cells := 0, slots := 0, locals := 0 } : Room).cells ({ frames := 0, cells := 0, slots := 0, locals := 0 } : Room).slots := ⟨_, rfl⟩
  rw [← hWd]
  have hef : entryFrame m #[(.ref t), (.int (0 : Int32)), (.int (Int32.ofNat xs.length)), (.int key)] 8 = (mkF m 0 #[.val (.ref t), .val (.int (0 : Int32)), .val (.int (Int32.ofNat xs.length)), .val (.int key), .unset, .unset, .unset, .unset] []) := by first | (simp [entryFrame, mkF, argsToLocals, Value.category]; done) | rfl
  rw [hef]
  obtain ⟨c1, A1, -, S1, M1, H1, -⟩ := K
  have S1n : c1.slots.size = xs.length := by rw [S1, own_clamp (by omega)]
  have K8 : ∀ (f lo hi : Nat) (s6 s7 : Slot), One s6 → One s7 → hi - lo ≤ f → hi ≤ xs.length → lo ≤ hi → own_bs xs key f lo hi = own_find xs key → Goes p e below W s₁ (mkF m 8 #[.val (.ref t), .val (.int (0 : Int32)), .val (.int (Int32.ofNat xs.length)), .val (.int key), .val (.int (Int32.ofNat lo)), .val (.int (Int32.ofNat hi - (1 : Int32))), s6, s7] []) := by
    intro f
    induction f with
    | zero =>
      intro lo hi s6 s7 o6 o7 hf hh hlh hR
      have hgt : (Int32.ofNat hi - (1 : Int32)) < (Int32.ofNat lo) := by rw [own_gap (by omega) (by omega)]; omega
      refine Goes.on (T' := s₁) (g' := (mkF m 10 #[.val (.ref t), .val (.int (0 : Int32)), .val (.int (Int32.ofNat xs.length)), .val (.int key), .val (.int (Int32.ofNat lo)), .val (.int (Int32.ofNat hi - (1 : Int32))), s6, s7] [(.int (Int32.ofNat lo))])) ?_ (fun t_ k_ => XS.iload X0.here hx rfl (hb hby d24_8) rfl k_)
      refine Goes.on (T' := s₁) (g' := (mkF m 12 #[.val (.ref t), .val (.int (0 : Int32)), .val (.int (Int32.ofNat xs.length)), .val (.int key), .val (.int (Int32.ofNat lo)), .val (.int (Int32.ofNat hi - (1 : Int32))), s6, s7] [(.int (Int32.ofNat hi - (1 : Int32))), (.int (Int32.ofNat lo))])) ?_ (fun t_ k_ => XS.iload X0.here hx rfl (hb hby d24_10) rfl k_)
      refine Goes.on (T' := s₁) (g' := (mkF m 66 #[.val (.ref t), .val (.int (0 : Int32)), .val (.int (Int32.ofNat xs.length)), .val (.int key), .val (.int (Int32.ofNat lo)), .val (.int (Int32.ofNat hi - (1 : Int32))), s6, s7] [])) ?_ (fun t_ k_ => XS.icmpYes X0.here hx rfl (pc0 := 12) (pc' := 66) rfl (hb hby d24_12) rfl (tlt hgt).2.2.1 (by decide) (by decide) k_)
      refine Goes.on (T' := s₁) (g' := (mkF m 68 #[.val (.ref t), .val (.int (0 : Int32)), .val (.int (Int32.ofNat xs.length)), .val (.int key), .val (.int (Int32.ofNat lo)), .val (.int (Int32.ofNat hi - (1 : Int32))), s6, s7] [(.int (Int32.ofNat lo))])) ?_ (fun t_ k_ => XS.iload X0.here hx rfl (hb hby d24_66) rfl k_)
      refine Goes.on (T' := s₁) (g' := (mkF m 69 #[.val (.ref t), .val (.int (0 : Int32)), .val (.int (Int32.ofNat xs.length)), .val (.int key), .val (.int (Int32.ofNat lo)), .val (.int (Int32.ofNat hi - (1 : Int32))), s6, s7] [(.int (1 : Int32)), (.int (Int32.ofNat lo))])) ?_ (fun t_ k_ => XS.iconst X0.here hx rfl (hb hby d24_68) k_)
      refine Goes.on (T' := s₁) (g' := (mkF m 70 #[.val (.ref t), .val (.int (0 : Int32)), .val (.int (Int32.ofNat xs.length)), .val (.int key), .val (.int (Int32.ofNat lo)), .val (.int (Int32.ofNat hi - (1 : Int32))), s6, s7] [(.int ((Int32.ofNat lo) + (1 : Int32)))])) ?_ (fun t_ k_ => XS.iadd X0.here hx rfl (hb hby d24_69) rfl k_)
      refine Goes.on (T' := s₁) (g' := (mkF m 71 #[.val (.ref t), .val (.int (0 : Int32)), .val (.int (Int32.ofNat xs.length)), .val (.int key), .val (.int (Int32.ofNat lo)), .val (.int (Int32.ofNat hi - (1 : Int32))), s6, s7] [(.int (-((Int32.ofNat lo) + (1 : Int32))))])) ?_ (fun t_ k_ => XS.ineg X0.here hx rfl (hb hby d24_70) rfl k_)
      rw [hWd]
      exact Goes.retn X0 (v := some (.int (-((Int32.ofNat lo) + (1 : Int32))))) (fun fs hr => retI X0 hx Bd.returns (hb hby d24_71) hr) (fun h => by rw [Bd.returns] at h; cases h) Bd.notSynchronized (by decide) (by decide) (by rw [e0]; exact ⟨by rw [← hR]; rfl, N0, rfl⟩)
    | succ f ih =>
      intro lo hi s6 s7 o6 o7 hf hh hlh hR
      by_cases hlt : lo < hi
      · have hng : ¬ (Int32.ofNat hi - (1 : Int32)) < (Int32.ofNat lo) := by rw [own_gap (by omega) (by omega)]; exact fun h => h hlt
        have hm : (lo + hi - 1) / 2 < hi := by omega
        have hm2 : lo ≤ (lo + hi - 1) / 2 := by omega
        have hcl : (Int32.ofNat ((lo + hi - 1) / 2)).toNatClampNeg = (lo + hi - 1) / 2 := own_clamp (by omega)
        have in1 : ¬ ((Int32.ofNat ((lo + hi - 1) / 2)) < 0 ∨ c1.slots.size ≤ (Int32.ofNat ((lo + hi - 1) / 2)).toNatClampNeg) := by rw [hcl, S1n]; intro q; rcases q with q | q; exact own_nn (by omega) q; omega
        have at1 : c1.slots[(Int32.ofNat ((lo + hi - 1) / 2)).toNatClampNeg]? = some (.int (xs.getD ((lo + hi - 1) / 2) 0)) := by rw [hcl, H1 _ (by omega), own_bget]
        unfold own_bs at hR
        rw [if_pos hlt] at hR
        refine Goes.on (T' := s₁) (g' := (mkF m 10 #[.val (.ref t), .val (.int (0 : Int32)), .val (.int (Int32.ofNat xs.length)), .val (.int key), .val (.int (Int32.ofNat lo)), .val (.int (Int32.ofNat hi - (1 : Int32))), s6, s7] [(.int (Int32.ofNat lo))])) ?_ (fun t_ k_ => XS.iload X0.here hx rfl (hb hby d24_8) rfl k_)
        refine Goes.on (T' := s₁) (g' := (mkF m 12 #[.val (.ref t), .val (.int (0 : Int32)), .val (.int (Int32.ofNat xs.length)), .val (.int key), .val (.int (Int32.ofNat lo)), .val (.int (Int32.ofNat hi - (1 : Int32))), s6, s7] [(.int (Int32.ofNat hi - (1 : Int32))), (.int (Int32.ofNat lo))])) ?_ (fun t_ k_ => XS.iload X0.here hx rfl (hb hby d24_10) rfl k_)
        refine Goes.on (T' := s₁) (g' := (mkF m 15 #[.val (.ref t), .val (.int (0 : Int32)), .val (.int (Int32.ofNat xs.length)), .val (.int key), .val (.int (Int32.ofNat lo)), .val (.int (Int32.ofNat hi - (1 : Int32))), s6, s7] [])) ?_ (fun t_ k_ => XS.icmpNo X0.here hx rfl (hb hby d24_12) rfl (flt hng).2.2.1 k_)
        refine Goes.on (T' := s₁) (g' := (mkF m 17 #[.val (.ref t), .val (.int (0 : Int32)), .val (.int (Int32.ofNat xs.length)), .val (.int key), .val (.int (Int32.ofNat lo)), .val (.int (Int32.ofNat hi - (1 : Int32))), s6, s7] [(.int (Int32.ofNat lo))])) ?_ (fun t_ k_ => XS.iload X0.here hx rfl (hb hby d24_15) rfl k_)
        refine Goes.on (T' := s₁) (g' := (mkF m 19 #[.val (.ref t), .val (.int (0 : Int32)), .val (.int (Int32.ofNat xs.length)), .val (.int key), .val (.int (Int32.ofNat lo)), .val (.int (Int32.ofNat hi - (1 : Int32))), s6, s7] [(.int (Int32.ofNat hi - (1 : Int32))), (.int (Int32.ofNat lo))])) ?_ (fun t_ k_ => XS.iload X0.here hx rfl (hb hby d24_17) rfl k_)
        refine Goes.on (T' := s₁) (g' := (mkF m 20 #[.val (.ref t), .val (.int (0 : Int32)), .val (.int (Int32.ofNat xs.length)), .val (.int key), .val (.int (Int32.ofNat lo)), .val (.int (Int32.ofNat hi - (1 : Int32))), s6, s7] [(.int ((Int32.ofNat lo) + (Int32.ofNat hi - (1 : Int32))))])) ?_ (fun t_ k_ => XS.iadd X0.here hx rfl (hb hby d24_19) rfl k_)
        refine Goes.on (T' := s₁) (g' := (mkF m 21 #[.val (.ref t), .val (.int (0 : Int32)), .val (.int (Int32.ofNat xs.length)), .val (.int key), .val (.int (Int32.ofNat lo)), .val (.int (Int32.ofNat hi - (1 : Int32))), s6, s7] [(.int (1 : Int32)), (.int ((Int32.ofNat lo) + (Int32.ofNat hi - (1 : Int32))))])) ?_ (fun t_ k_ => XS.iconst X0.here hx rfl (hb hby d24_20) k_)
        refine Goes.on (T' := s₁) (g' := (mkF m 22 #[.val (.ref t), .val (.int (0 : Int32)), .val (.int (Int32.ofNat xs.length)), .val (.int key), .val (.int (Int32.ofNat lo)), .val (.int (Int32.ofNat hi - (1 : Int32))), s6, s7] [(.int ((((Int32.ofNat lo) + (Int32.ofNat hi - (1 : Int32))).toUInt32 >>> ((1 : Int32) &&& 31).toUInt32).toInt32))])) ?_ (fun t_ k_ => XS.iushr X0.here hx rfl (hb hby d24_21) rfl k_)
        rw [own_mid hlt (by omega)]
        refine Goes.on (T' := s₁) (g' := (mkF m 24 #[.val (.ref t), .val (.int (0 : Int32)), .val (.int (Int32.ofNat xs.length)), .val (.int key), .val (.int (Int32.ofNat lo)), .val (.int (Int32.ofNat hi - (1 : Int32))), .val (.int (Int32.ofNat ((lo + hi - 1) / 2))), s7] [])) ?_ (fun t_ k_ => XS.istore X0.here hx rfl (hb hby d24_22) rfl (l' := #[.val (.ref t), .val (.int (0 : Int32)), .val (.int (Int32.ofNat xs.length)), .val (.int key), .val (.int (Int32.ofNat lo)), .val (.int (Int32.ofNat hi - (1 : Int32))), .val (.int (Int32.ofNat ((lo + hi - 1) / 2))), s7]) (own_os6 o6) k_)
        refine Goes.on (T' := s₁) (g' := (mkF m 25 #[.val (.ref t), .val (.int (0 : Int32)), .val (.int (Int32.ofNat xs.length)), .val (.int key), .val (.int (Int32.ofNat lo)), .val (.int (Int32.ofNat hi - (1 : Int32))), .val (.int (Int32.ofNat ((lo + hi - 1) / 2))), s7] [(.ref t)])) ?_ (fun t_ k_ => XS.aloadN X0.here hx rfl (hb hby d24_24) rfl rfl k_)
        refine Goes.on (T' := s₁) (g' := (mkF m 27 #[.val (.ref t), .val (.int (0 : Int32)), .val (.int (Int32.ofNat xs.length)), .val (.int key), .val (.int (Int32.ofNat lo)), .val (.int (Int32.ofNat hi - (1 : Int32))), .val (.int (Int32.ofNat ((lo + hi - 1) / 2))), s7] [(.int (Int32.ofNat ((lo + hi - 1) / 2))), (.ref t)])) ?_ (fun t_ k_ => XS.iload X0.here hx rfl (hb hby d24_25) rfl k_)
        refine Goes.on (T' := s₁) (g' := (mkF m 28 #[.val (.ref t), .val (.int (0 : Int32)), .val (.int (Int32.ofNat xs.length)), .val (.int key), .val (.int (Int32.ofNat lo)), .val (.int (Int32.ofNat hi - (1 : Int32))), .val (.int (Int32.ofNat ((lo + hi - 1) / 2))), s7] [(.int (xs.getD ((lo + hi - 1) / 2) 0))])) ?_ (X0.iaload hx (j := (Int32.ofNat ((lo + hi - 1) / 2))) (v := (.int (xs.getD ((lo + hi - 1) / 2) 0))) (by rw [e0]; exact A1.1) (State.isArrayOf_alike hZ.alike A1.2.1) A1.2.2 in1 at1 (g := (mkF m 27 #[.val (.ref t), .val (.int (0 : Int32)), .val (.int (Int32.ofNat xs.length)), .val (.int key), .val (.int (Int32.ofNat lo)), .val (.int (Int32.ofNat hi - (1 : Int32))), .val (.int (Int32.ofNat ((lo + hi - 1) / 2))), s7] [(.int (Int32.ofNat ((lo + hi - 1) / 2))), (.ref t)])) rfl rfl (hb hby d24_27))
        refine Goes.on (T' := s₁) (g' := (mkF m 30 #[.val (.ref t), .val (.int (0 : Int32)), .val (.int (Int32.ofNat xs.length)), .val (.int key), .val (.int (Int32.ofNat lo)), .val (.int (Int32.ofNat hi - (1 : Int32))), .val (.int (Int32.ofNat ((lo + hi - 1) / 2))), .val (.int (xs.getD ((lo + hi - 1) / 2) 0))] [])) ?_ (fun t_ k_ => XS.istore X0.here hx rfl (hb hby d24_28) rfl (l' := #[.val (.ref t), .val (.int (0 : Int32)), .val (.int (Int32.ofNat xs.length)), .val (.int key), .val (.int (Int32.ofNat lo)), .val (.int (Int32.ofNat hi - (1 : Int32))), .val (.int (Int32.ofNat ((lo + hi - 1) / 2))), .val (.int (xs.getD ((lo + hi - 1) / 2) 0))]) (own_os7 o7) k_)
        refine Goes.on (T' := s₁) (g' := (mkF m 32 #[.val (.ref t), .val (.int (0 : Int32)), .val (.int (Int32.ofNat xs.length)), .val (.int key), .val (.int (Int32.ofNat lo)), .val (.int (Int32.ofNat hi - (1 : Int32))), .val (.int (Int32.ofNat ((lo + hi - 1) / 2))), .val (.int (xs.getD ((lo + hi - 1) / 2) 0))] [(.int (xs.getD ((lo + hi - 1) / 2) 0))])) ?_ (fun t_ k_ => XS.iload X0.here hx rfl (hb hby d24_30) rfl k_)
        refine Goes.on (T' := s₁) (g' := (mkF m 33 #[.val (.ref t), .val (.int (0 : Int32)), .val (.int (Int32.ofNat xs.length)), .val (.int key), .val (.int (Int32.ofNat lo)), .val (.int (Int32.ofNat hi - (1 : Int32))), .val (.int (Int32.ofNat ((lo + hi - 1) / 2))), .val (.int (xs.getD ((lo + hi - 1) / 2) 0))] [(.int key), (.int (xs.getD ((lo + hi - 1) / 2) 0))])) ?_ (fun t_ k_ => XS.iloadN X0.here hx rfl (hb hby d24_32) rfl k_)
        refine Goes.icmpN X0 hx rfl (pc0 := 33) (pc' := 45) rfl (hb hby d24_33) rfl (by decide) (by decide) (P := (xs.getD ((lo + hi - 1) / 2) 0) < key) (cmp_ge _ _) (fun hc33 => ?_) (fun hc33 => ?_)
        · show Goes p e below W s₁ (mkF m 45 #[.val (.ref t), .val (.int (0 : Int32)), .val (.int (Int32.ofNat xs.length)), .val (.int key), .val (.int (Int32.ofNat lo)), .val (.int (Int32.ofNat hi - (1 : Int32))), .val (.int (Int32.ofNat ((lo + hi - 1) / 2))), .val (.int (xs.getD ((lo + hi - 1) / 2) 0))] [])
          refine Goes.on (T' := s₁) (g' := (mkF m 47 #[.val (.ref t), .val (.int (0 : Int32)), .val (.int (Int32.ofNat xs.length)), .val (.int key), .val (.int (Int32.ofNat lo)), .val (.int (Int32.ofNat hi - (1 : Int32))), .val (.int (Int32.ofNat ((lo + hi - 1) / 2))), .val (.int (xs.getD ((lo + hi - 1) / 2) 0))] [(.int (xs.getD ((lo + hi - 1) / 2) 0))])) ?_ (fun t_ k_ => XS.iload X0.here hx rfl (hb hby d24_45) rfl k_)
          refine Goes.on (T' := s₁) (g' := (mkF m 48 #[.val (.ref t), .val (.int (0 : Int32)), .val (.int (Int32.ofNat xs.length)), .val (.int key), .val (.int (Int32.ofNat lo)), .val (.int (Int32.ofNat hi - (1 : Int32))), .val (.int (Int32.ofNat ((lo + hi - 1) / 2))), .val (.int (xs.getD ((lo + hi - 1) / 2) 0))] [(.int key), (.int (xs.getD ((lo + hi - 1) / 2) 0))])) ?_ (fun t_ k_ => XS.iloadN X0.here hx rfl (hb hby d24_47) rfl k_)
          refine Goes.icmpN X0 hx rfl (pc0 := 48) (pc' := 60) rfl (hb hby d24_48) rfl (by decide) (by decide) (P := key < (xs.getD ((lo + hi - 1) / 2) 0)) (cmp_le _ _) (fun hc48 => ?_) (fun hc48 => ?_)
          · show Goes p e below W s₁ (mkF m 60 #[.val (.ref t), .val (.int (0 : Int32)), .val (.int (Int32.ofNat xs.length)), .val (.int key), .val (.int (Int32.ofNat lo)), .val (.int (Int32.ofNat hi - (1 : Int32))), .val (.int (Int32.ofNat ((lo + hi - 1) / 2))), .val (.int (xs.getD ((lo + hi - 1) / 2) 0))] [])
            refine Goes.on (T' := s₁) (g' := (mkF m 62 #[.val (.ref t), .val (.int (0 : Int32)), .val (.int (Int32.ofNat xs.length)), .val (.int key), .val (.int (Int32.ofNat lo)), .val (.int (Int32.ofNat hi - (1 : Int32))), .val (.int (Int32.ofNat ((lo + hi - 1) / 2))), .val (.int (xs.getD ((lo + hi - 1) / 2) 0))] [(.int (Int32.ofNat ((lo + hi - 1) / 2)))])) ?_ (fun t_ k_ => XS.iload X0.here hx rfl (hb hby d24_60) rfl k_)
            rw [hWd]
            exact Goes.retn X0 (v := some (.int (Int32.ofNat ((lo + hi - 1) / 2)))) (fun fs hr => retI X0 hx Bd.returns (hb hby d24_62) hr) (fun h => by rw [Bd.returns] at h; cases h) Bd.notSynchronized (by decide) (by decide) (by rw [e0]; exact ⟨by rw [if_neg hc33, if_neg hc48] at hR; rw [hR], N0, rfl⟩)
          · show Goes p e below W s₁ (mkF m 51 #[.val (.ref t), .val (.int (0 : Int32)), .val (.int (Int32.ofNat xs.length)), .val (.int key), .val (.int (Int32.ofNat lo)), .val (.int (Int32.ofNat hi - (1 : Int32))), .val (.int (Int32.ofNat ((lo + hi - 1) / 2))), .val (.int (xs.getD ((lo + hi - 1) / 2) 0))] [])
            refine Goes.on (T' := s₁) (g' := (mkF m 53 #[.val (.ref t), .val (.int (0 : Int32)), .val (.int (Int32.ofNat xs.length)), .val (.int key), .val (.int (Int32.ofNat lo)), .val (.int (Int32.ofNat hi - (1 : Int32))), .val (.int (Int32.ofNat ((lo + hi - 1) / 2))), .val (.int (xs.getD ((lo + hi - 1) / 2) 0))] [(.int (Int32.ofNat ((lo + hi - 1) / 2)))])) ?_ (fun t_ k_ => XS.iload X0.here hx rfl (hb hby d24_51) rfl k_)
            refine Goes.on (T' := s₁) (g' := (mkF m 54 #[.val (.ref t), .val (.int (0 : Int32)), .val (.int (Int32.ofNat xs.length)), .val (.int key), .val (.int (Int32.ofNat lo)), .val (.int (Int32.ofNat hi - (1 : Int32))), .val (.int (Int32.ofNat ((lo + hi - 1) / 2))), .val (.int (xs.getD ((lo + hi - 1) / 2) 0))] [(.int (1 : Int32)), (.int (Int32.ofNat ((lo + hi - 1) / 2)))])) ?_ (fun t_ k_ => XS.iconst X0.here hx rfl (hb hby d24_53) k_)
            refine Goes.on (T' := s₁) (g' := (mkF m 55 #[.val (.ref t), .val (.int (0 : Int32)), .val (.int (Int32.ofNat xs.length)), .val (.int key), .val (.int (Int32.ofNat lo)), .val (.int (Int32.ofNat hi - (1 : Int32))), .val (.int (Int32.ofNat ((lo + hi - 1) / 2))), .val (.int (xs.getD ((lo + hi - 1) / 2) 0))] [(.int ((Int32.ofNat ((lo + hi - 1) / 2)) - (1 : Int32)))])) ?_ (fun t_ k_ => XS.isub X0.here hx rfl (hb hby d24_54) rfl k_)
            refine Goes.on (T' := s₁) (g' := (mkF m 57 #[.val (.ref t), .val (.int (0 : Int32)), .val (.int (Int32.ofNat xs.length)), .val (.int key), .val (.int (Int32.ofNat lo)), .val (.int ((Int32.ofNat ((lo + hi - 1) / 2)) - (1 : Int32))), .val (.int (Int32.ofNat ((lo + hi - 1) / 2))), .val (.int (xs.getD ((lo + hi - 1) / 2) 0))] [])) ?_ (fun t_ k_ => XS.istore X0.here hx rfl (hb hby d24_55) rfl (l' := #[.val (.ref t), .val (.int (0 : Int32)), .val (.int (Int32.ofNat xs.length)), .val (.int key), .val (.int (Int32.ofNat lo)), .val (.int ((Int32.ofNat ((lo + hi - 1) / 2)) - (1 : Int32))), .val (.int (Int32.ofNat ((lo + hi - 1) / 2))), .val (.int (xs.getD ((lo + hi - 1) / 2) 0))]) rfl k_)
            refine Goes.on (T' := s₁) (g' := (mkF m 63 #[.val (.ref t), .val (.int (0 : Int32)), .val (.int (Int32.ofNat xs.length)), .val (.int key), .val (.int (Int32.ofNat lo)), .val (.int ((Int32.ofNat ((lo + hi - 1) / 2)) - (1 : Int32))), .val (.int (Int32.ofNat ((lo + hi - 1) / 2))), .val (.int (xs.getD ((lo + hi - 1) / 2) 0))] [])) ?_ (fun t_ k_ => XS.goto X0.here hx rfl (pc0 := 57) (pc' := 63) rfl (hb hby d24_57) (by decide) (by decide) k_)
            refine Goes.on (T' := s₁) (g' := (mkF m 8 #[.val (.ref t), .val (.int (0 : Int32)), .val (.int (Int32.ofNat xs.length)), .val (.int key), .val (.int (Int32.ofNat lo)), .val (.int ((Int32.ofNat ((lo + hi - 1) / 2)) - (1 : Int32))), .val (.int (Int32.ofNat ((lo + hi - 1) / 2))), .val (.int (xs.getD ((lo + hi - 1) / 2) 0))] [])) ?_ (fun t_ k_ => XS.goto X0.here hx rfl (pc0 := 63) (pc' := 8) rfl (hb hby d24_63) (by decide) (by decide) k_)
            rw [if_neg hc33, if_pos hc48] at hR
            exact ih _ _ _ _ (own_one _) (own_one _) (by omega) (by omega) (by omega) hR
        · show Goes p e below W s₁ (mkF m 36 #[.val (.ref t), .val (.int (0 : Int32)), .val (.int (Int32.ofNat xs.length)), .val (.int key), .val (.int (Int32.ofNat lo)), .val (.int (Int32.ofNat hi - (1 : Int32))), .val (.int (Int32.ofNat ((lo + hi - 1) / 2))), .val (.int (xs.getD ((lo + hi - 1) / 2) 0))] [])
          refine Goes.on (T' := s₁) (g' := (mkF m 38 #[.val (.ref t), .val (.int (0 : Int32)), .val (.int (Int32.ofNat xs.length)), .val (.int key), .val (.int (Int32.ofNat lo)), .val (.int (Int32.ofNat hi - (1 : Int32))), .val (.int (Int32.ofNat ((lo + hi - 1) / 2))), .val (.int (xs.getD ((lo + hi - 1) / 2) 0))] [(.int (Int32.ofNat ((lo + hi - 1) / 2)))])) ?_ (fun t_ k_ => XS.iload X0.here hx rfl (hb hby d24_36) rfl k_)
          refine Goes.on (T' := s₁) (g' := (mkF m 39 #[.val (.ref t), .val (.int (0 : Int32)), .val (.int (Int32.ofNat xs.length)), .val (.int key), .val (.int (Int32.ofNat lo)), .val (.int (Int32.ofNat hi - (1 : Int32))), .val (.int (Int32.ofNat ((lo + hi - 1) / 2))), .val (.int (xs.getD ((lo + hi - 1) / 2) 0))] [(.int (1 : Int32)), (.int (Int32.ofNat ((lo + hi - 1) / 2)))])) ?_ (fun t_ k_ => XS.iconst X0.here hx rfl (hb hby d24_38) k_)
          refine Goes.on (T' := s₁) (g' := (mkF m 40 #[.val (.ref t), .val (.int (0 : Int32)), .val (.int (Int32.ofNat xs.length)), .val (.int key), .val (.int (Int32.ofNat lo)), .val (.int (Int32.ofNat hi - (1 : Int32))), .val (.int (Int32.ofNat ((lo + hi - 1) / 2))), .val (.int (xs.getD ((lo + hi - 1) / 2) 0))] [(.int ((Int32.ofNat ((lo + hi - 1) / 2)) + (1 : Int32)))])) ?_ (fun t_ k_ => XS.iadd X0.here hx rfl (hb hby d24_39) rfl k_)
          refine Goes.on (T' := s₁) (g' := (mkF m 42 #[.val (.ref t), .val (.int (0 : Int32)), .val (.int (Int32.ofNat xs.length)), .val (.int key), .val (.int ((Int32.ofNat ((lo + hi - 1) / 2)) + (1 : Int32))), .val (.int (Int32.ofNat hi - (1 : Int32))), .val (.int (Int32.ofNat ((lo + hi - 1) / 2))), .val (.int (xs.getD ((lo + hi - 1) / 2) 0))] [])) ?_ (fun t_ k_ => XS.istore X0.here hx rfl (hb hby d24_40) rfl (l' := #[.val (.ref t), .val (.int (0 : Int32)), .val (.int (Int32.ofNat xs.length)), .val (.int key), .val (.int ((Int32.ofNat ((lo + hi - 1) / 2)) + (1 : Int32))), .val (.int (Int32.ofNat hi - (1 : Int32))), .val (.int (Int32.ofNat ((lo + hi - 1) / 2))), .val (.int (xs.getD ((lo + hi - 1) / 2) 0))]) rfl k_)
          refine Goes.on (T' := s₁) (g' := (mkF m 63 #[.val (.ref t), .val (.int (0 : Int32)), .val (.int (Int32.ofNat xs.length)), .val (.int key), .val (.int ((Int32.ofNat ((lo + hi - 1) / 2)) + (1 : Int32))), .val (.int (Int32.ofNat hi - (1 : Int32))), .val (.int (Int32.ofNat ((lo + hi - 1) / 2))), .val (.int (xs.getD ((lo + hi - 1) / 2) 0))] [])) ?_ (fun t_ k_ => XS.goto X0.here hx rfl (pc0 := 42) (pc' := 63) rfl (hb hby d24_42) (by decide) (by decide) k_)
          refine Goes.on (T' := s₁) (g' := (mkF m 8 #[.val (.ref t), .val (.int (0 : Int32)), .val (.int (Int32.ofNat xs.length)), .val (.int key), .val (.int ((Int32.ofNat ((lo + hi - 1) / 2)) + (1 : Int32))), .val (.int (Int32.ofNat hi - (1 : Int32))), .val (.int (Int32.ofNat ((lo + hi - 1) / 2))), .val (.int (xs.getD ((lo + hi - 1) / 2) 0))] [])) ?_ (fun t_ k_ => XS.goto X0.here hx rfl (pc0 := 63) (pc' := 8) rfl (hb hby d24_63) (by decide) (by decide) k_)
          rw [if_pos hc33] at hR
          rw [own_succ]
          exact ih _ _ _ _ (own_one _) (own_one _) (by omega) hh (by omega) hR
      · have hgt : (Int32.ofNat hi - (1 : Int32)) < (Int32.ofNat lo) := by rw [own_gap (by omega) (by omega)]; exact hlt
        refine Goes.on (T' := s₁) (g' := (mkF m 10 #[.val (.ref t), .val (.int (0 : Int32)), .val (.int (Int32.ofNat xs.length)), .val (.int key), .val (.int (Int32.ofNat lo)), .val (.int (Int32.ofNat hi - (1 : Int32))), s6, s7] [(.int (Int32.ofNat lo))])) ?_ (fun t_ k_ => XS.iload X0.here hx rfl (hb hby d24_8) rfl k_)
        refine Goes.on (T' := s₁) (g' := (mkF m 12 #[.val (.ref t), .val (.int (0 : Int32)), .val (.int (Int32.ofNat xs.length)), .val (.int key), .val (.int (Int32.ofNat lo)), .val (.int (Int32.ofNat hi - (1 : Int32))), s6, s7] [(.int (Int32.ofNat hi - (1 : Int32))), (.int (Int32.ofNat lo))])) ?_ (fun t_ k_ => XS.iload X0.here hx rfl (hb hby d24_10) rfl k_)
        refine Goes.on (T' := s₁) (g' := (mkF m 66 #[.val (.ref t), .val (.int (0 : Int32)), .val (.int (Int32.ofNat xs.length)), .val (.int key), .val (.int (Int32.ofNat lo)), .val (.int (Int32.ofNat hi - (1 : Int32))), s6, s7] [])) ?_ (fun t_ k_ => XS.icmpYes X0.here hx rfl (pc0 := 12) (pc' := 66) rfl (hb hby d24_12) rfl (tlt hgt).2.2.1 (by decide) (by decide) k_)
        refine Goes.on (T' := s₁) (g' := (mkF m 68 #[.val (.ref t), .val (.int (0 : Int32)), .val (.int (Int32.ofNat xs.length)), .val (.int key), .val (.int (Int32.ofNat lo)), .val (.int (Int32.ofNat hi - (1 : Int32))), s6, s7] [(.int (Int32.ofNat lo))])) ?_ (fun t_ k_ => XS.iload X0.here hx rfl (hb hby d24_66) rfl k_)
        refine Goes.on (T' := s₁) (g' := (mkF m 69 #[.val (.ref t), .val (.int (0 : Int32)), .val (.int (Int32.ofNat xs.length)), .val (.int key), .val (.int (Int32.ofNat lo)), .val (.int (Int32.ofNat hi - (1 : Int32))), s6, s7] [(.int (1 : Int32)), (.int (Int32.ofNat lo))])) ?_ (fun t_ k_ => XS.iconst X0.here hx rfl (hb hby d24_68) k_)
        refine Goes.on (T' := s₁) (g' := (mkF m 70 #[.val (.ref t), .val (.int (0 : Int32)), .val (.int (Int32.ofNat xs.length)), .val (.int key), .val (.int (Int32.ofNat lo)), .val (.int (Int32.ofNat hi - (1 : Int32))), s6, s7] [(.int ((Int32.ofNat lo) + (1 : Int32)))])) ?_ (fun t_ k_ => XS.iadd X0.here hx rfl (hb hby d24_69) rfl k_)
        refine Goes.on (T' := s₁) (g' := (mkF m 71 #[.val (.ref t), .val (.int (0 : Int32)), .val (.int (Int32.ofNat xs.length)), .val (.int key), .val (.int (Int32.ofNat lo)), .val (.int (Int32.ofNat hi - (1 : Int32))), s6, s7] [(.int (-((Int32.ofNat lo) + (1 : Int32))))])) ?_ (fun t_ k_ => XS.ineg X0.here hx rfl (hb hby d24_70) rfl k_)
        rw [hWd]
        exact Goes.retn X0 (v := some (.int (-((Int32.ofNat lo) + (1 : Int32))))) (fun fs hr => retI X0 hx Bd.returns (hb hby d24_71) hr) (fun h => by rw [Bd.returns] at h; cases h) Bd.notSynchronized (by decide) (by decide) (by rw [e0]; exact ⟨by rw [← hR]; unfold own_bs; rw [if_neg hlt], N0, rfl⟩)
  refine Goes.on (T' := s₁) (g' := (mkF m 1 #[.val (.ref t), .val (.int (0 : Int32)), .val (.int (Int32.ofNat xs.length)), .val (.int key), .unset, .unset, .unset, .unset] [(.int (0 : Int32))])) ?_ (fun t_ k_ => XS.iloadN X0.here hx rfl (hb hby d24_0) rfl k_)
  refine Goes.on (T' := s₁) (g' := (mkF m 3 #[.val (.ref t), .val (.int (0 : Int32)), .val (.int (Int32.ofNat xs.length)), .val (.int key), .val (.int (0 : Int32)), .unset, .unset, .unset] [])) ?_ (fun t_ k_ => XS.istore X0.here hx rfl (hb hby d24_1) rfl (l' := #[.val (.ref t), .val (.int (0 : Int32)), .val (.int (Int32.ofNat xs.length)), .val (.int key), .val (.int (0 : Int32)), .unset, .unset, .unset]) rfl k_)
  refine Goes.on (T' := s₁) (g' := (mkF m 4 #[.val (.ref t), .val (.int (0 : Int32)), .val (.int (Int32.ofNat xs.length)), .val (.int key), .val (.int (0 : Int32)), .unset, .unset, .unset] [(.int (Int32.ofNat xs.length))])) ?_ (fun t_ k_ => XS.iloadN X0.here hx rfl (hb hby d24_3) rfl k_)
  refine Goes.on (T' := s₁) (g' := (mkF m 5 #[.val (.ref t), .val (.int (0 : Int32)), .val (.int (Int32.ofNat xs.length)), .val (.int key), .val (.int (0 : Int32)), .unset, .unset, .unset] [(.int (1 : Int32)), (.int (Int32.ofNat xs.length))])) ?_ (fun t_ k_ => XS.iconst X0.here hx rfl (hb hby d24_4) k_)
  refine Goes.on (T' := s₁) (g' := (mkF m 6 #[.val (.ref t), .val (.int (0 : Int32)), .val (.int (Int32.ofNat xs.length)), .val (.int key), .val (.int (0 : Int32)), .unset, .unset, .unset] [(.int ((Int32.ofNat xs.length) - (1 : Int32)))])) ?_ (fun t_ k_ => XS.isub X0.here hx rfl (hb hby d24_5) rfl k_)
  refine Goes.on (T' := s₁) (g' := (mkF m 8 #[.val (.ref t), .val (.int (0 : Int32)), .val (.int (Int32.ofNat xs.length)), .val (.int key), .val (.int (0 : Int32)), .val (.int ((Int32.ofNat xs.length) - (1 : Int32))), .unset, .unset] [])) ?_ (fun t_ k_ => XS.istore X0.here hx rfl (hb hby d24_6) rfl (l' := #[.val (.ref t), .val (.int (0 : Int32)), .val (.int (Int32.ofNat xs.length)), .val (.int key), .val (.int (0 : Int32)), .val (.int ((Int32.ofNat xs.length) - (1 : Int32))), .unset, .unset]) rfl k_)
  exact K8 xs.length 0 xs.length _ _ (Or.inl rfl) (Or.inl rfl) (by omega) (Nat.le_refl _) (by omega) rfl
def QB (Z : State) (t : Addr) (xs : List Int32) (key : Int32) (h0 : Heap) (n0 : Nat) (v : Option Value) (h : Heap) (L : List Loc) : Prop := v = some (.int (own_find xs key)) ∧ Fr n0 L ∧ h = h0
set_option maxRecDepth 65536 in
set_option maxHeartbeats 40000000 in
theorem rmB (l : Launch) (Z : State) (a0 : Array Value) (hw : ∀ d ∈ tables_1, d.before a0 Z = true) (ws : List Jvm.Cond) (t : Addr) (kt : ClassId) (xs : List Int32) (key : Int32) (h0 : Heap) (n0 : Nat) (Z0 : n0 ≤ h0.size) (K : Arv Z h0 t kt .int (Int32.ofNat xs.length) (xs.map Value.int) (.int 0)) (hl : xs.length ≤ 16) :
    MetFree l (⟨"java/util/Arrays", "binarySearch", "([II)I"⟩ : MethodName) (head1 (Jvm.Cond.code (⟨"java/util/Arrays", "binarySearch", "([II)I"⟩ : MethodName) jdk_65_method_57_code 2 (some .int) :: ws) ({ frames := 1, cells := 0, slots := 0, locals := 19 } : Room)) (fun a_ U => a_ = #[(.ref t), (.int key)] ∧ Z.Warmed39 U.vm ∧ U.heap = h0) (fun _ _ _ _ _ => True) (fun _ U o U' => ∃ v L, o = .returned v ∧ QB Z t xs key h0 n0 v U'.heap L ∧ FrameEnd U o U' L ({ frames := 1, cells := 0, slots := 0, locals := 19 } : Room).cells ({ frames := 1, cells := 0, slots := 0, locals := 19 } : Room).slots) := by
  refine MetFree.of_bodySF (plainFor_of_name pn_1) hisR ?_
  intro p e s m args below meth c s₁ Bd hml0 hP hK
  obtain ⟨rfl, hZ, hh⟩ := hP
  have hx := Bd.exec
  have hby := Bd.bytes
  have hml : c.maxLocals = 2 := hml0
  have hown : s.vm.findClass "java/util/Arrays" = some m.cls := findClass_of_methodNamed Bd.named
  have hnm := (name_of_methodNamed Bd.named Bd.method).1
  have X0 : Stand p l e ({ frames := 1, cells := 0, slots := 0, locals := 19 } : Room) s m #[(.ref t), (.int key)] below meth c s₁ [] 0 0 := Stand.of_body Bd
  have e0 : s₁.heap = h0 := by rw [← hh, Bd.state]; rfl
  have N0 := Fr.nil n0
  refine Goes.done ?_
  obtain ⟨W, hWd⟩ : ∃ W : State → Prop, W = EndW s below (QB Z t xs key h0 n0) ({ frames := 1, cells := 0, slots := 0, locals := 19 } : Room).cells ({ frames := 1, cells := 0, slots := 0, locals := 19 } : Room).slots := ⟨_, rfl⟩
  rw [← hWd]
  have hef : entryFrame m #[(.ref t), (.int key)] 2 = (mkF m 0 #[.val (.ref t), .val (.int key)] []) := by first | (simp [entryFrame, mkF, argsToLocals, Value.category]; done) | rfl
  rw [hef]
  obtain ⟨c1, A1, -, S1, M1, H1, -⟩ := id K
  refine Goes.on (T' := s₁) (g' := (mkF m 1 #[.val (.ref t), .val (.int key)] [(.ref t)])) ?_ (fun t_ k_ => XS.aloadN X0.here hx rfl (hb hby d23_0) rfl rfl k_)
  refine Goes.on (T' := s₁) (g' := (mkF m 2 #[.val (.ref t), .val (.int key)] [(.int (0 : Int32)), (.ref t)])) ?_ (fun t_ k_ => XS.iconst X0.here hx rfl (hb hby d23_1) k_)
  refine Goes.on (T' := s₁) (g' := (mkF m 3 #[.val (.ref t), .val (.int key)] [(.ref t), (.int (0 : Int32)), (.ref t)])) ?_ (fun t_ k_ => XS.aloadN X0.here hx rfl (hb hby d23_2) rfl rfl k_)
  refine Goes.on (T' := s₁) (g' := (mkF m 4 #[.val (.ref t), .val (.int key)] [(.int c1.slots.size.toInt32), (.int (0 : Int32)), (.ref t)])) ?_ (X0.arraylength hx (by rw [e0]; exact A1.1) (State.isArrayOf_alike hZ.alike A1.2.1) (g := (mkF m 3 #[.val (.ref t), .val (.int key)] [(.ref t), (.int (0 : Int32)), (.ref t)])) rfl rfl (hb hby d23_3))
  rw [len_of S1 M1]
  refine Goes.on (T' := s₁) (g' := (mkF m 5 #[.val (.ref t), .val (.int key)] [(.int key), (.int (Int32.ofNat xs.length)), (.int (0 : Int32)), (.ref t)])) ?_ (fun t_ k_ => XS.iloadN X0.here hx rfl (hb hby d23_4) rfl k_)
  obtain ⟨_, _, ⟨T1, Lq_1, kq_1, nq_1⟩, -, X1, ⟨Lc1, hQ1, l1, y1, z1⟩, st1⟩ := Jvm.LawKit.callS X0 hx (y := (⟨"java/util/Arrays", "binarySearch0", "([IIII)I"⟩ : MethodName)) hown (mvT hZ (hw _ (List.mem_of_getElem? (i := 121) rfl))) (mvT hZ (hw _ (List.mem_of_getElem? (i := 122) rfl))) (mvT hZ (hw _ (List.mem_of_getElem? (i := 89) rfl))) (mvT hZ (hw _ (List.mem_of_getElem? (i := 123) rfl))) (by decide) (backOf (W := 0) (rmB0 l Z a0 hw [] t kt xs key h0 n0 Z0 K hl) hZ (hw _ (List.mem_of_getElem? (i := 123) rfl)) (hw _ (List.mem_of_getElem? (i := 89) rfl)) (by decide) (by decide)) (g := (mkF m 5 #[.val (.ref t), .val (.int key)] [(.int key), (.int (Int32.ofNat xs.length)), (.int (0 : Int32)), (.ref t)])) rfl (by rw [hml]; rfl) (argsL := [(.ref t), (.int (0 : Int32)), (.int (Int32.ofNat xs.length)), (.int key)]) (rest := []) (lenOf pd_0 rfl) rfl (by show 2 * 0 + _ ≤ _; exact Nat.le_of_eq rfl) (hb hby d23_5) (fun _ _ => ⟨rfl, e0, (by decide : 0 + 0 ≤ _), (by decide : 0 + 0 ≤ _)⟩)
  dsimp only [Pt.U, Pt.locs, Pt.cells, Pt.slots] at X1 l1 y1 z1 st1 hQ1
  rw [l1, y1, z1] at X1
  change Stand p l e _ _ m _ below meth c T1 _ 0 0 at X1
  obtain ⟨rfl, N1q, eh1⟩ := hQ1
  have N1 := Fr.app N0 N1q
  refine Goes.on (T' := T1) (g' := (mkF m 8 #[.val (.ref t), .val (.int key)] [(.int (own_find xs key))])) ?_ st1
  rw [hWd]
  exact Goes.retn X1 (v := some (.int (own_find xs key))) (fun fs hr => retI X1 hx Bd.returns (hb hby d23_8) hr) (fun h => by rw [Bd.returns] at h; cases h) Bd.notSynchronized (by decide) (by decide) (by rw [eh1]; exact ⟨rfl, N1, rfl⟩)
def QHO (Z : State) (a : Addr) (ss es : List Int32) (q : Int32) (h0 : Heap) (n0 : Nat) (v : Option Value) (h : Heap) (L : List Loc) : Prop := v = some (.int (own_holds ss es q)) ∧ Fr n0 L ∧ h = h0
set_option maxRecDepth 65536 in
set_option maxHeartbeats 40000000 in
theorem rmHO (l : Launch) (Z : State) (a0 : Array Value) (hw : ∀ d ∈ tables_1, d.before a0 Z = true) (ws : List Jvm.Cond) (a sa ea : Addr) (ks ke : ClassId) (ss es : List Int32) (q : Int32) (h0 : Heap) (n0 : Nat) (Z0 : n0 ≤ h0.size) (FS : Fld Z h0 a "com/example/covenantry/covenantry/read/Text$Matches" "starts" "[I" (.ref sa)) (FE : Fld Z h0 a "com/example/covenantry/covenantry/read/Text$Matches" "ends" "[I" (.ref ea)) (KS : Arv Z h0 sa ks .int (Int32.ofNat ss.length) (ss.map Value.int) (.int 0)) (KE : Arv Z h0 ea ke .int (Int32.ofNat es.length) (es.map Value.int) (.int 0)) (hl : ss.length ≤ 16) (hse : es.length = ss.length) :
    MetFree l (⟨"com/example/covenantry/covenantry/read/Text$Matches", "holds", "(I)Z"⟩ : MethodName) (head1 (Jvm.Cond.code (⟨"com/example/covenantry/covenantry/read/Text$Matches", "holds", "(I)Z"⟩ : MethodName) prog_71_method_7_code 4 (some .boolean) :: ws) ({ frames := 2, cells := 0, slots := 0, locals := 32 } : Room)) (fun a_ U => a_ = #[(.ref a), (.int q)] ∧ Z.Warmed39 U.vm ∧ U.heap = h0) (fun _ _ _ _ _ => True) (fun _ U o U' => ∃ v L, o = .returned v ∧ QHO Z a ss es q h0 n0 v U'.heap L ∧ FrameEnd U o U' L ({ frames := 2, cells := 0, slots := 0, locals := 32 } : Room).cells ({ frames := 2, cells := 0, slots := 0, locals := 32 } : Room).slots) := by
  refine MetFree.of_bodySF (plainFor_of_name pn_2) hisR ?_
  intro p e s m args below meth c s₁ Bd hml0 hP hK
  obtain ⟨rfl, hZ, hh⟩ := hP
  have hx := Bd.exec
  have hby := Bd.bytes
  have hml : c.maxLocals = 4 := hml0
  have hown : s.vm.findClass "com/example/covenantry/covenantry/read/Text$Matches" = some m.cls := findClass_of_methodNamed Bd.named
  have hnm := (name_of_methodNamed Bd.named Bd.method).1
  have X0 : Stand p l e ({ frames := 2, cells := 0, slots := 0, locals := 32 } : Room) s m #[(.ref a), (.int q)] below meth c s₁ [] 0 0 := Stand.of_body Bd
  have e0 : s₁.heap = h0 := by rw [← hh, Bd.state]; rfl
  have N0 := Fr.nil n0
  refine Goes.done ?_
  obtain ⟨W, hWd⟩ : ∃ W : State → Prop, W = EndW s below (QHO Z a ss es q h0 n0) ({ frames := 2, cells := 0, slots := 0, locals := 32 } : Room).cells ({ frames := 2, cells := 0, slots := 0, locals := 32 } : Room).slots := ⟨_, rfl⟩
  rw [← hWd]
  have hef : entryFrame m #[(.ref a), (.int q)] 4 = (mkF m 0 #[.val (.ref a), .val (.int q), .unset, .unset] []) := by first | (simp [entryFrame, mkF, argsToLocals, Value.category]; done) | rfl
  rw [hef]
  obtain ⟨c2, A2, -, S2, M2, H2, -⟩ := id KE
  have S2n : c2.slots.size = es.length := by rw [S2, own_clamp (by omega)]
  have rg := own_find_rng ss q hl
  refine Goes.on (T' := s₁) (g' := (mkF m 1 #[.val (.ref a), .val (.int q), .unset, .unset] [(.ref a)])) ?_ (fun t_ k_ => XS.aloadN X0.here hx rfl (hb hby d22_0) rfl rfl k_)
  obtain ⟨T1, X1, e1, st1⟩ := getF X0 hx hZ hown (host := "") (Or.inl (hw _ (List.mem_of_getElem? (i := 103) rfl))) Via.refl e0 FS (g := (mkF m 1 #[.val (.ref a), .val (.int q), .unset, .unset] [(.ref a)])) rfl rfl (hb hby d22_1)
  refine Goes.on (T' := T1) (g' := (mkF m 4 #[.val (.ref a), .val (.int q), .unset, .unset] [(.ref sa)])) ?_ st1
  refine Goes.on (T' := T1) (g' := (mkF m 5 #[.val (.ref a), .val (.int q), .unset, .unset] [(.int q), (.ref sa)])) ?_ (fun t_ k_ => XS.iloadN X1.here hx rfl (hb hby d22_4) rfl k_)
  obtain ⟨_, _, ⟨T2, Lq_2, kq_2, nq_2⟩, -, X2, ⟨Lc2, hQ2, l2, y2, z2⟩, st2⟩ := Jvm.LawKit.callS X1 hx (y := (⟨"java/util/Arrays", "binarySearch", "([II)I"⟩ : MethodName)) hown (mvT hZ (hw _ (List.mem_of_getElem? (i := 118) rfl))) (mvT hZ (hw _ (List.mem_of_getElem? (i := 119) rfl))) (mvT hZ (hw _ (List.mem_of_getElem? (i := 89) rfl))) (mvT hZ (hw _ (List.mem_of_getElem? (i := 120) rfl))) (by decide) (backOf (W := 0) (rmB l Z a0 hw [] sa ks ss q h0 n0 Z0 KS hl) hZ (hw _ (List.mem_of_getElem? (i := 120) rfl)) (hw _ (List.mem_of_getElem? (i := 89) rfl)) (by decide) (by decide)) (g := (mkF m 5 #[.val (.ref a), .val (.int q), .unset, .unset] [(.int q), (.ref sa)])) rfl (by rw [hml]; rfl) (argsL := [(.ref sa), (.int q)]) (rest := []) (lenOf pd_1 rfl) rfl (by show 2 * 0 + _ ≤ _; exact Nat.le_of_eq rfl) (hb hby d22_5) (fun _ _ => ⟨rfl, e1, (by decide : 0 + 0 ≤ _), (by decide : 0 + 0 ≤ _)⟩)
  dsimp only [Pt.U, Pt.locs, Pt.cells, Pt.slots] at X2 l2 y2 z2 st2 hQ2
  rw [l2, y2, z2] at X2
  change Stand p l e _ _ m _ below meth c T2 _ 0 0 at X2
  obtain ⟨rfl, N2q, eh2⟩ := hQ2
  have N2 := Fr.app N0 N2q
  refine Goes.on (T' := T2) (g' := (mkF m 8 #[.val (.ref a), .val (.int q), .unset, .unset] [(.int (own_find ss q))])) ?_ st2
  refine Goes.on (T' := T2) (g' := (mkF m 9 #[.val (.ref a), .val (.int q), .val (.int (own_find ss q)), .unset] [])) ?_ (fun t_ k_ => XS.istoreN X2.here hx rfl (hb hby d22_8) rfl (l' := #[.val (.ref a), .val (.int q), .val (.int (own_find ss q)), .unset]) rfl k_)
  refine Goes.on (T' := T2) (g' := (mkF m 10 #[.val (.ref a), .val (.int q), .val (.int (own_find ss q)), .unset] [(.int (own_find ss q))])) ?_ (fun t_ k_ => XS.iloadN X2.here hx rfl (hb hby d22_9) rfl k_)
  refine Goes.ifP X2 hx rfl (pc0 := 10) (pc' := 17) rfl (hb hby d22_10) rfl (by decide) (by decide) (P := (own_find ss q) < (0 : Int32)) (ifc_lt _ _) (fun hc10 => ?_) (fun hc10 => ?_)
  · show Goes p e below W T2 (mkF m 17 #[.val (.ref a), .val (.int q), .val (.int (own_find ss q)), .unset] [])
    refine Goes.on (T' := T2) (g' := (mkF m 18 #[.val (.ref a), .val (.int q), .val (.int (own_find ss q)), .unset] [(.int (own_find ss q))])) ?_ (fun t_ k_ => XS.iloadN X2.here hx rfl (hb hby d22_17) rfl k_)
    refine Goes.on (T' := T2) (g' := (mkF m 19 #[.val (.ref a), .val (.int q), .val (.int (own_find ss q)), .unset] [(.int (-(own_find ss q)))])) ?_ (fun t_ k_ => XS.ineg X2.here hx rfl (hb hby d22_18) rfl k_)
    refine Goes.on (T' := T2) (g' := (mkF m 20 #[.val (.ref a), .val (.int q), .val (.int (own_find ss q)), .unset] [(.int (1 : Int32)), (.int (-(own_find ss q)))])) ?_ (fun t_ k_ => XS.iconst X2.here hx rfl (hb hby d22_19) k_)
    refine Goes.on (T' := T2) (g' := (mkF m 21 #[.val (.ref a), .val (.int q), .val (.int (own_find ss q)), .unset] [(.int ((-(own_find ss q)) - (1 : Int32)))])) ?_ (fun t_ k_ => XS.isub X2.here hx rfl (hb hby d22_20) rfl k_)
    refine Goes.on (T' := T2) (g' := (mkF m 22 #[.val (.ref a), .val (.int q), .val (.int (own_find ss q)), .unset] [(.int (1 : Int32)), (.int ((-(own_find ss q)) - (1 : Int32)))])) ?_ (fun t_ k_ => XS.iconst X2.here hx rfl (hb hby d22_21) k_)
    refine Goes.on (T' := T2) (g' := (mkF m 23 #[.val (.ref a), .val (.int q), .val (.int (own_find ss q)), .unset] [(.int (((-(own_find ss q)) - (1 : Int32)) - (1 : Int32)))])) ?_ (fun t_ k_ => XS.isub X2.here hx rfl (hb hby d22_22) rfl k_)
    refine Goes.on (T' := T2) (g' := (mkF m 24 #[.val (.ref a), .val (.int q), .val (.int (own_find ss q)), .val (.int (((-(own_find ss q)) - (1 : Int32)) - (1 : Int32)))] [])) ?_ (fun t_ k_ => XS.istoreN X2.here hx rfl (hb hby d22_23) rfl (l' := #[.val (.ref a), .val (.int q), .val (.int (own_find ss q)), .val (.int (((-(own_find ss q)) - (1 : Int32)) - (1 : Int32)))]) rfl k_)
    refine Goes.on (T' := T2) (g' := (mkF m 25 #[.val (.ref a), .val (.int q), .val (.int (own_find ss q)), .val (.int (((-(own_find ss q)) - (1 : Int32)) - (1 : Int32)))] [(.int (((-(own_find ss q)) - (1 : Int32)) - (1 : Int32)))])) ?_ (fun t_ k_ => XS.iloadN X2.here hx rfl (hb hby d22_24) rfl k_)
    refine Goes.ifP X2 hx rfl (pc0 := 25) (pc' := 42) rfl (hb hby d22_25) rfl (by decide) (by decide) (P := (((-(own_find ss q)) - (1 : Int32)) - (1 : Int32)) < (0 : Int32)) (ifc_lt _ _) (fun hc25 => ?_) (fun hc25 => ?_)
    · show Goes p e below W T2 (mkF m 42 #[.val (.ref a), .val (.int q), .val (.int (own_find ss q)), .val (.int (((-(own_find ss q)) - (1 : Int32)) - (1 : Int32)))] [])
      refine Goes.on (T' := T2) (g' := (mkF m 43 #[.val (.ref a), .val (.int q), .val (.int (own_find ss q)), .val (.int (((-(own_find ss q)) - (1 : Int32)) - (1 : Int32)))] [(.int (0 : Int32))])) ?_ (fun t_ k_ => XS.iconst X2.here hx rfl (hb hby d22_42) k_)
      rw [hWd]
      exact Goes.retn X2 (v := some (.int (nar .boolean (0 : Int32)))) (fun fs hr => retN X2 hx (t := .boolean) Bd.returns (by simp) (hb hby d22_43) hr) (fun h => by rw [Bd.returns] at h; cases h) Bd.notSynchronized (by decide) (by decide) (by rw [eh2]; exact ⟨(show some (Value.int (0 : Int32)) = some (.int (own_holds ss es q)) from by simp only [own_holds, eq_true hc10, eq_true hc25, if_true, if_false, ↓reduceIte, not_true_eq_false, not_false_eq_true, true_and, and_true, false_and, and_false, or_true, true_or, or_false, false_or, and_self, or_self]), N2, rfl⟩)
    · show Goes p e below W T2 (mkF m 28 #[.val (.ref a), .val (.int q), .val (.int (own_find ss q)), .val (.int (((-(own_find ss q)) - (1 : Int32)) - (1 : Int32)))] [])
      refine Goes.on (T' := T2) (g' := (mkF m 29 #[.val (.ref a), .val (.int q), .val (.int (own_find ss q)), .val (.int (((-(own_find ss q)) - (1 : Int32)) - (1 : Int32)))] [(.int q)])) ?_ (fun t_ k_ => XS.iloadN X2.here hx rfl (hb hby d22_28) rfl k_)
      refine Goes.on (T' := T2) (g' := (mkF m 30 #[.val (.ref a), .val (.int q), .val (.int (own_find ss q)), .val (.int (((-(own_find ss q)) - (1 : Int32)) - (1 : Int32)))] [(.ref a), (.int q)])) ?_ (fun t_ k_ => XS.aloadN X2.here hx rfl (hb hby d22_29) rfl rfl k_)
      obtain ⟨T3, X3, e3, st3⟩ := getF X2 hx hZ hown (host := "") (Or.inl (hw _ (List.mem_of_getElem? (i := 105) rfl))) Via.refl eh2 FE (g := (mkF m 30 #[.val (.ref a), .val (.int q), .val (.int (own_find ss q)), .val (.int (((-(own_find ss q)) - (1 : Int32)) - (1 : Int32)))] [(.ref a), (.int q)])) rfl rfl (hb hby d22_30)
      refine Goes.on (T' := T3) (g' := (mkF m 33 #[.val (.ref a), .val (.int q), .val (.int (own_find ss q)), .val (.int (((-(own_find ss q)) - (1 : Int32)) - (1 : Int32)))] [(.ref ea), (.int q)])) ?_ st3
      refine Goes.on (T' := T3) (g' := (mkF m 34 #[.val (.ref a), .val (.int q), .val (.int (own_find ss q)), .val (.int (((-(own_find ss q)) - (1 : Int32)) - (1 : Int32)))] [(.int (((-(own_find ss q)) - (1 : Int32)) - (1 : Int32))), (.ref ea), (.int q)])) ?_ (fun t_ k_ => XS.iloadN X3.here hx rfl (hb hby d22_33) rfl k_)
      have bd := own_b1 (n := es.length) (by omega) (by rcases rg with r | r; rw [own_lt0] at hc10; omega; rw [hse]; exact r) hc25
      have in1 := own_inb S2n bd.1 bd.2
      have at1 : c2.slots[(((-(own_find ss q)) - (1 : Int32)) - (1 : Int32)).toNatClampNeg]? = some (.int (es.getD (((-(own_find ss q)) - (1 : Int32)) - (1 : Int32)).toNatClampNeg 0)) := by rw [H2 _ (by have e : (((-(own_find ss q)) - (1 : Int32)) - (1 : Int32)).toNatClampNeg = (((-(own_find ss q)) - (1 : Int32)) - (1 : Int32)).toInt.toNat := rfl; rw [e]; omega), own_bget]
      refine Goes.on (T' := T3) (g' := (mkF m 35 #[.val (.ref a), .val (.int q), .val (.int (own_find ss q)), .val (.int (((-(own_find ss q)) - (1 : Int32)) - (1 : Int32)))] [(.int (es.getD (((-(own_find ss q)) - (1 : Int32)) - (1 : Int32)).toNatClampNeg 0)), (.int q)])) ?_ (X3.iaload hx (j := (((-(own_find ss q)) - (1 : Int32)) - (1 : Int32))) (v := (.int (es.getD (((-(own_find ss q)) - (1 : Int32)) - (1 : Int32)).toNatClampNeg 0))) (by rw [e3]; exact A2.1) (State.isArrayOf_alike hZ.alike A2.2.1) A2.2.2 in1 at1 (g := (mkF m 34 #[.val (.ref a), .val (.int q), .val (.int (own_find ss q)), .val (.int (((-(own_find ss q)) - (1 : Int32)) - (1 : Int32)))] [(.int (((-(own_find ss q)) - (1 : Int32)) - (1 : Int32))), (.ref ea), (.int q)])) rfl rfl (hb hby d22_34))
      refine Goes.icmpN X3 hx rfl (pc0 := 35) (pc' := 42) rfl (hb hby d22_35) rfl (by decide) (by decide) (P := q < (es.getD (((-(own_find ss q)) - (1 : Int32)) - (1 : Int32)).toNatClampNeg 0)) (cmp_ge _ _) (fun hc35 => ?_) (fun hc35 => ?_)
      · show Goes p e below W T3 (mkF m 42 #[.val (.ref a), .val (.int q), .val (.int (own_find ss q)), .val (.int (((-(own_find ss q)) - (1 : Int32)) - (1 : Int32)))] [])
        refine Goes.on (T' := T3) (g' := (mkF m 43 #[.val (.ref a), .val (.int q), .val (.int (own_find ss q)), .val (.int (((-(own_find ss q)) - (1 : Int32)) - (1 : Int32)))] [(.int (0 : Int32))])) ?_ (fun t_ k_ => XS.iconst X3.here hx rfl (hb hby d22_42) k_)
        rw [hWd]
        exact Goes.retn X3 (v := some (.int (nar .boolean (0 : Int32)))) (fun fs hr => retN X3 hx (t := .boolean) Bd.returns (by simp) (hb hby d22_43) hr) (fun h => by rw [Bd.returns] at h; cases h) Bd.notSynchronized (by decide) (by decide) (by rw [e3]; exact ⟨(show some (Value.int (0 : Int32)) = some (.int (own_holds ss es q)) from by simp only [own_holds, eq_true hc10, eq_false hc25, eq_false hc35, if_true, if_false, ↓reduceIte, not_true_eq_false, not_false_eq_true, true_and, and_true, false_and, and_false, or_true, true_or, or_false, false_or, and_self, or_self]), N2, rfl⟩)
      · show Goes p e below W T3 (mkF m 38 #[.val (.ref a), .val (.int q), .val (.int (own_find ss q)), .val (.int (((-(own_find ss q)) - (1 : Int32)) - (1 : Int32)))] [])
        refine Goes.on (T' := T3) (g' := (mkF m 39 #[.val (.ref a), .val (.int q), .val (.int (own_find ss q)), .val (.int (((-(own_find ss q)) - (1 : Int32)) - (1 : Int32)))] [(.int (1 : Int32))])) ?_ (fun t_ k_ => XS.iconst X3.here hx rfl (hb hby d22_38) k_)
        refine Goes.on (T' := T3) (g' := (mkF m 43 #[.val (.ref a), .val (.int q), .val (.int (own_find ss q)), .val (.int (((-(own_find ss q)) - (1 : Int32)) - (1 : Int32)))] [(.int (1 : Int32))])) ?_ (fun t_ k_ => XS.goto X3.here hx rfl (pc0 := 39) (pc' := 43) rfl (hb hby d22_39) (by decide) (by decide) k_)
        rw [hWd]
        exact Goes.retn X3 (v := some (.int (nar .boolean (1 : Int32)))) (fun fs hr => retN X3 hx (t := .boolean) Bd.returns (by simp) (hb hby d22_43) hr) (fun h => by rw [Bd.returns] at h; cases h) Bd.notSynchronized (by decide) (by decide) (by rw [e3]; exact ⟨(show some (Value.int (1 : Int32)) = some (.int (own_holds ss es q)) from by simp only [own_holds, eq_true hc10, eq_false hc25, eq_true hc35, if_true, if_false, ↓reduceIte, not_true_eq_false, not_false_eq_true, true_and, and_true, false_and, and_false, or_true, true_or, or_false, false_or, and_self, or_self]), N2, rfl⟩)
  · show Goes p e below W T2 (mkF m 13 #[.val (.ref a), .val (.int q), .val (.int (own_find ss q)), .unset] [])
    refine Goes.on (T' := T2) (g' := (mkF m 14 #[.val (.ref a), .val (.int q), .val (.int (own_find ss q)), .unset] [(.int (own_find ss q))])) ?_ (fun t_ k_ => XS.iloadN X2.here hx rfl (hb hby d22_13) rfl k_)
    refine Goes.on (T' := T2) (g' := (mkF m 21 #[.val (.ref a), .val (.int q), .val (.int (own_find ss q)), .unset] [(.int (own_find ss q))])) ?_ (fun t_ k_ => XS.goto X2.here hx rfl (pc0 := 14) (pc' := 21) rfl (hb hby d22_14) (by decide) (by decide) k_)
    refine Goes.on (T' := T2) (g' := (mkF m 22 #[.val (.ref a), .val (.int q), .val (.int (own_find ss q)), .unset] [(.int (1 : Int32)), (.int (own_find ss q))])) ?_ (fun t_ k_ => XS.iconst X2.here hx rfl (hb hby d22_21) k_)
    refine Goes.on (T' := T2) (g' := (mkF m 23 #[.val (.ref a), .val (.int q), .val (.int (own_find ss q)), .unset] [(.int ((own_find ss q) - (1 : Int32)))])) ?_ (fun t_ k_ => XS.isub X2.here hx rfl (hb hby d22_22) rfl k_)
    refine Goes.on (T' := T2) (g' := (mkF m 24 #[.val (.ref a), .val (.int q), .val (.int (own_find ss q)), .val (.int ((own_find ss q) - (1 : Int32)))] [])) ?_ (fun t_ k_ => XS.istoreN X2.here hx rfl (hb hby d22_23) rfl (l' := #[.val (.ref a), .val (.int q), .val (.int (own_find ss q)), .val (.int ((own_find ss q) - (1 : Int32)))]) rfl k_)
    refine Goes.on (T' := T2) (g' := (mkF m 25 #[.val (.ref a), .val (.int q), .val (.int (own_find ss q)), .val (.int ((own_find ss q) - (1 : Int32)))] [(.int ((own_find ss q) - (1 : Int32)))])) ?_ (fun t_ k_ => XS.iloadN X2.here hx rfl (hb hby d22_24) rfl k_)
    refine Goes.ifP X2 hx rfl (pc0 := 25) (pc' := 42) rfl (hb hby d22_25) rfl (by decide) (by decide) (P := ((own_find ss q) - (1 : Int32)) < (0 : Int32)) (ifc_lt _ _) (fun hc25 => ?_) (fun hc25 => ?_)
    · show Goes p e below W T2 (mkF m 42 #[.val (.ref a), .val (.int q), .val (.int (own_find ss q)), .val (.int ((own_find ss q) - (1 : Int32)))] [])
      refine Goes.on (T' := T2) (g' := (mkF m 43 #[.val (.ref a), .val (.int q), .val (.int (own_find ss q)), .val (.int ((own_find ss q) - (1 : Int32)))] [(.int (0 : Int32))])) ?_ (fun t_ k_ => XS.iconst X2.here hx rfl (hb hby d22_42) k_)
      rw [hWd]
      exact Goes.retn X2 (v := some (.int (nar .boolean (0 : Int32)))) (fun fs hr => retN X2 hx (t := .boolean) Bd.returns (by simp) (hb hby d22_43) hr) (fun h => by rw [Bd.returns] at h; cases h) Bd.notSynchronized (by decide) (by decide) (by rw [eh2]; exact ⟨(show some (Value.int (0 : Int32)) = some (.int (own_holds ss es q)) from by simp only [own_holds, eq_false hc10, eq_true hc25, if_true, if_false, ↓reduceIte, not_true_eq_false, not_false_eq_true, true_and, and_true, false_and, and_false, or_true, true_or, or_false, false_or, and_self, or_self]), N2, rfl⟩)
    · show Goes p e below W T2 (mkF m 28 #[.val (.ref a), .val (.int q), .val (.int (own_find ss q)), .val (.int ((own_find ss q) - (1 : Int32)))] [])
      refine Goes.on (T' := T2) (g' := (mkF m 29 #[.val (.ref a), .val (.int q), .val (.int (own_find ss q)), .val (.int ((own_find ss q) - (1 : Int32)))] [(.int q)])) ?_ (fun t_ k_ => XS.iloadN X2.here hx rfl (hb hby d22_28) rfl k_)
      refine Goes.on (T' := T2) (g' := (mkF m 30 #[.val (.ref a), .val (.int q), .val (.int (own_find ss q)), .val (.int ((own_find ss q) - (1 : Int32)))] [(.ref a), (.int q)])) ?_ (fun t_ k_ => XS.aloadN X2.here hx rfl (hb hby d22_29) rfl rfl k_)
      obtain ⟨T4, X4, e4, st4⟩ := getF X2 hx hZ hown (host := "") (Or.inl (hw _ (List.mem_of_getElem? (i := 105) rfl))) Via.refl eh2 FE (g := (mkF m 30 #[.val (.ref a), .val (.int q), .val (.int (own_find ss q)), .val (.int ((own_find ss q) - (1 : Int32)))] [(.ref a), (.int q)])) rfl rfl (hb hby d22_30)
      refine Goes.on (T' := T4) (g' := (mkF m 33 #[.val (.ref a), .val (.int q), .val (.int (own_find ss q)), .val (.int ((own_find ss q) - (1 : Int32)))] [(.ref ea), (.int q)])) ?_ st4
      refine Goes.on (T' := T4) (g' := (mkF m 34 #[.val (.ref a), .val (.int q), .val (.int (own_find ss q)), .val (.int ((own_find ss q) - (1 : Int32)))] [(.int ((own_find ss q) - (1 : Int32))), (.ref ea), (.int q)])) ?_ (fun t_ k_ => XS.iloadN X4.here hx rfl (hb hby d22_33) rfl k_)
      have bd := own_b2 (n := es.length) (by omega) (by rcases rg with r | r; rw [hse]; exact r; rw [own_lt0] at hc10; omega) hc25
      have in1 := own_inb S2n bd.1 bd.2
      have at1 : c2.slots[((own_find ss q) - (1 : Int32)).toNatClampNeg]? = some (.int (es.getD ((own_find ss q) - (1 : Int32)).toNatClampNeg 0)) := by rw [H2 _ (by have e : ((own_find ss q) - (1 : Int32)).toNatClampNeg = ((own_find ss q) - (1 : Int32)).toInt.toNat := rfl; rw [e]; omega), own_bget]
      refine Goes.on (T' := T4) (g' := (mkF m 35 #[.val (.ref a), .val (.int q), .val (.int (own_find ss q)), .val (.int ((own_find ss q) - (1 : Int32)))] [(.int (es.getD ((own_find ss q) - (1 : Int32)).toNatClampNeg 0)), (.int q)])) ?_ (X4.iaload hx (j := ((own_find ss q) - (1 : Int32))) (v := (.int (es.getD ((own_find ss q) - (1 : Int32)).toNatClampNeg 0))) (by rw [e4]; exact A2.1) (State.isArrayOf_alike hZ.alike A2.2.1) A2.2.2 in1 at1 (g := (mkF m 34 #[.val (.ref a), .val (.int q), .val (.int (own_find ss q)), .val (.int ((own_find ss q) - (1 : Int32)))] [(.int ((own_find ss q) - (1 : Int32))), (.ref ea), (.int q)])) rfl rfl (hb hby d22_34))
      refine Goes.icmpN X4 hx rfl (pc0 := 35) (pc' := 42) rfl (hb hby d22_35) rfl (by decide) (by decide) (P := q < (es.getD ((own_find ss q) - (1 : Int32)).toNatClampNeg 0)) (cmp_ge _ _) (fun hc35 => ?_) (fun hc35 => ?_)
      · show Goes p e below W T4 (mkF m 42 #[.val (.ref a), .val (.int q), .val (.int (own_find ss q)), .val (.int ((own_find ss q) - (1 : Int32)))] [])
        refine Goes.on (T' := T4) (g' := (mkF m 43 #[.val (.ref a), .val (.int q), .val (.int (own_find ss q)), .val (.int ((own_find ss q) - (1 : Int32)))] [(.int (0 : Int32))])) ?_ (fun t_ k_ => XS.iconst X4.here hx rfl (hb hby d22_42) k_)
        rw [hWd]
        exact Goes.retn X4 (v := some (.int (nar .boolean (0 : Int32)))) (fun fs hr => retN X4 hx (t := .boolean) Bd.returns (by simp) (hb hby d22_43) hr) (fun h => by rw [Bd.returns] at h; cases h) Bd.notSynchronized (by decide) (by decide) (by rw [e4]; exact ⟨(show some (Value.int (0 : Int32)) = some (.int (own_holds ss es q)) from by simp only [own_holds, eq_false hc10, eq_false hc25, eq_false hc35, if_true, if_false, ↓reduceIte, not_true_eq_false, not_false_eq_true, true_and, and_true, false_and, and_false, or_true, true_or, or_false, false_or, and_self, or_self]), N2, rfl⟩)
      · show Goes p e below W T4 (mkF m 38 #[.val (.ref a), .val (.int q), .val (.int (own_find ss q)), .val (.int ((own_find ss q) - (1 : Int32)))] [])
        refine Goes.on (T' := T4) (g' := (mkF m 39 #[.val (.ref a), .val (.int q), .val (.int (own_find ss q)), .val (.int ((own_find ss q) - (1 : Int32)))] [(.int (1 : Int32))])) ?_ (fun t_ k_ => XS.iconst X4.here hx rfl (hb hby d22_38) k_)
        refine Goes.on (T' := T4) (g' := (mkF m 43 #[.val (.ref a), .val (.int q), .val (.int (own_find ss q)), .val (.int ((own_find ss q) - (1 : Int32)))] [(.int (1 : Int32))])) ?_ (fun t_ k_ => XS.goto X4.here hx rfl (pc0 := 39) (pc' := 43) rfl (hb hby d22_39) (by decide) (by decide) k_)
        rw [hWd]
        exact Goes.retn X4 (v := some (.int (nar .boolean (1 : Int32)))) (fun fs hr => retN X4 hx (t := .boolean) Bd.returns (by simp) (hb hby d22_43) hr) (fun h => by rw [Bd.returns] at h; cases h) Bd.notSynchronized (by decide) (by decide) (by rw [e4]; exact ⟨(show some (Value.int (1 : Int32)) = some (.int (own_holds ss es q)) from by simp only [own_holds, eq_false hc10, eq_false hc25, eq_true hc35, if_true, if_false, ↓reduceIte, not_true_eq_false, not_false_eq_true, true_and, and_true, false_and, and_false, or_true, true_or, or_false, false_or, and_self, or_self]), N2, rfl⟩)
def QLE (Z : State) (a : Addr) (ss es : List Int32) (q : Int32) (h0 : Heap) (n0 : Nat) (v : Option Value) (h : Heap) (L : List Loc) : Prop := v = some (.int (own_lastEnd es q)) ∧ Fr n0 L ∧ h = h0
set_option maxRecDepth 65536 in
set_option maxHeartbeats 40000000 in
theorem rmLE (l : Launch) (Z : State) (a0 : Array Value) (hw : ∀ d ∈ tables_1, d.before a0 Z = true) (ws : List Jvm.Cond) (a sa ea : Addr) (ks ke : ClassId) (ss es : List Int32) (q : Int32) (h0 : Heap) (n0 : Nat) (Z0 : n0 ≤ h0.size) (FS : Fld Z h0 a "com/example/covenantry/covenantry/read/Text$Matches" "starts" "[I" (.ref sa)) (FE : Fld Z h0 a "com/example/covenantry/covenantry/read/Text$Matches" "ends" "[I" (.ref ea)) (KS : Arv Z h0 sa ks .int (Int32.ofNat ss.length) (ss.map Value.int) (.int 0)) (KE : Arv Z h0 ea ke .int (Int32.ofNat es.length) (es.map Value.int) (.int 0)) (hl : ss.length ≤ 16) (hse : es.length = ss.length) :
    MetFree l (⟨"com/example/covenantry/covenantry/read/Text$Matches", "lastEnd", "(I)I"⟩ : MethodName) (head1 (Jvm.Cond.code (⟨"com/example/covenantry/covenantry/read/Text$Matches", "lastEnd", "(I)I"⟩ : MethodName) prog_71_method_5_code 4 (some .int) :: ws) ({ frames := 2, cells := 0, slots := 0, locals := 32 } : Room)) (fun a_ U => a_ = #[(.ref a), (.int q)] ∧ Z.Warmed39 U.vm ∧ U.heap = h0) (fun _ _ _ _ _ => True) (fun _ U o U' => ∃ v L, o = .returned v ∧ QLE Z a ss es q h0 n0 v U'.heap L ∧ FrameEnd U o U' L ({ frames := 2, cells := 0, slots := 0, locals := 32 } : Room).cells ({ frames := 2, cells := 0, slots := 0, locals := 32 } : Room).slots) := by
  refine MetFree.of_bodySF (plainFor_of_name pn_2) hisR ?_
  intro p e s m args below meth c s₁ Bd hml0 hP hK
  obtain ⟨rfl, hZ, hh⟩ := hP
  have hx := Bd.exec
  have hby := Bd.bytes
  have hml : c.maxLocals = 4 := hml0
  have hown : s.vm.findClass "com/example/covenantry/covenantry/read/Text$Matches" = some m.cls := findClass_of_methodNamed Bd.named
  have hnm := (name_of_methodNamed Bd.named Bd.method).1
  have X0 : Stand p l e ({ frames := 2, cells := 0, slots := 0, locals := 32 } : Room) s m #[(.ref a), (.int q)] below meth c s₁ [] 0 0 := Stand.of_body Bd
  have e0 : s₁.heap = h0 := by rw [← hh, Bd.state]; rfl
  have N0 := Fr.nil n0
  refine Goes.done ?_
  obtain ⟨W, hWd⟩ : ∃ W : State → Prop, W = EndW s below (QLE Z a ss es q h0 n0) ({ frames := 2, cells := 0, slots := 0, locals := 32 } : Room).cells ({ frames := 2, cells := 0, slots := 0, locals := 32 } : Room).slots := ⟨_, rfl⟩
  rw [← hWd]
  have hef : entryFrame m #[(.ref a), (.int q)] 4 = (mkF m 0 #[.val (.ref a), .val (.int q), .unset, .unset] []) := by first | (simp [entryFrame, mkF, argsToLocals, Value.category]; done) | rfl
  rw [hef]
  obtain ⟨c2, A2, -, S2, M2, H2, -⟩ := id KE
  have S2n : c2.slots.size = es.length := by rw [S2, own_clamp (by omega)]
  have rg := own_find_rng es q (by omega)
  refine Goes.on (T' := s₁) (g' := (mkF m 1 #[.val (.ref a), .val (.int q), .unset, .unset] [(.ref a)])) ?_ (fun t_ k_ => XS.aloadN X0.here hx rfl (hb hby d25_0) rfl rfl k_)
  obtain ⟨T1, X1, e1, st1⟩ := getF X0 hx hZ hown (host := "") (Or.inl (hw _ (List.mem_of_getElem? (i := 105) rfl))) Via.refl e0 FE (g := (mkF m 1 #[.val (.ref a), .val (.int q), .unset, .unset] [(.ref a)])) rfl rfl (hb hby d25_1)
  refine Goes.on (T' := T1) (g' := (mkF m 4 #[.val (.ref a), .val (.int q), .unset, .unset] [(.ref ea)])) ?_ st1
  refine Goes.on (T' := T1) (g' := (mkF m 5 #[.val (.ref a), .val (.int q), .unset, .unset] [(.int q), (.ref ea)])) ?_ (fun t_ k_ => XS.iloadN X1.here hx rfl (hb hby d25_4) rfl k_)
  obtain ⟨_, _, ⟨T2, Lq_2, kq_2, nq_2⟩, -, X2, ⟨Lc2, hQ2, l2, y2, z2⟩, st2⟩ := Jvm.LawKit.callS X1 hx (y := (⟨"java/util/Arrays", "binarySearch", "([II)I"⟩ : MethodName)) hown (mvT hZ (hw _ (List.mem_of_getElem? (i := 118) rfl))) (mvT hZ (hw _ (List.mem_of_getElem? (i := 119) rfl))) (mvT hZ (hw _ (List.mem_of_getElem? (i := 89) rfl))) (mvT hZ (hw _ (List.mem_of_getElem? (i := 120) rfl))) (by decide) (backOf (W := 0) (rmB l Z a0 hw [] ea ke es q h0 n0 Z0 KE (by omega)) hZ (hw _ (List.mem_of_getElem? (i := 120) rfl)) (hw _ (List.mem_of_getElem? (i := 89) rfl)) (by decide) (by decide)) (g := (mkF m 5 #[.val (.ref a), .val (.int q), .unset, .unset] [(.int q), (.ref ea)])) rfl (by rw [hml]; rfl) (argsL := [(.ref ea), (.int q)]) (rest := []) (lenOf pd_1 rfl) rfl (by show 2 * 0 + _ ≤ _; exact Nat.le_of_eq rfl) (hb hby d25_5) (fun _ _ => ⟨rfl, e1, (by decide : 0 + 0 ≤ _), (by decide : 0 + 0 ≤ _)⟩)
  dsimp only [Pt.U, Pt.locs, Pt.cells, Pt.slots] at X2 l2 y2 z2 st2 hQ2
  rw [l2, y2, z2] at X2
  change Stand p l e _ _ m _ below meth c T2 _ 0 0 at X2
  obtain ⟨rfl, N2q, eh2⟩ := hQ2
  have N2 := Fr.app N0 N2q
  refine Goes.on (T' := T2) (g' := (mkF m 8 #[.val (.ref a), .val (.int q), .unset, .unset] [(.int (own_find es q))])) ?_ st2
  refine Goes.on (T' := T2) (g' := (mkF m 9 #[.val (.ref a), .val (.int q), .val (.int (own_find es q)), .unset] [])) ?_ (fun t_ k_ => XS.istoreN X2.here hx rfl (hb hby d25_8) rfl (l' := #[.val (.ref a), .val (.int q), .val (.int (own_find es q)), .unset]) rfl k_)
  refine Goes.on (T' := T2) (g' := (mkF m 10 #[.val (.ref a), .val (.int q), .val (.int (own_find es q)), .unset] [(.int (own_find es q))])) ?_ (fun t_ k_ => XS.iloadN X2.here hx rfl (hb hby d25_9) rfl k_)
  refine Goes.ifP X2 hx rfl (pc0 := 10) (pc' := 20) rfl (hb hby d25_10) rfl (by decide) (by decide) (P := (own_find es q) < (0 : Int32)) (ifc_lt _ _) (fun hc10 => ?_) (fun hc10 => ?_)
  · show Goes p e below W T2 (mkF m 20 #[.val (.ref a), .val (.int q), .val (.int (own_find es q)), .unset] [])
    refine Goes.on (T' := T2) (g' := (mkF m 21 #[.val (.ref a), .val (.int q), .val (.int (own_find es q)), .unset] [(.int (own_find es q))])) ?_ (fun t_ k_ => XS.iloadN X2.here hx rfl (hb hby d25_20) rfl k_)
    refine Goes.on (T' := T2) (g' := (mkF m 22 #[.val (.ref a), .val (.int q), .val (.int (own_find es q)), .unset] [(.int (-(own_find es q)))])) ?_ (fun t_ k_ => XS.ineg X2.here hx rfl (hb hby d25_21) rfl k_)
    refine Goes.on (T' := T2) (g' := (mkF m 23 #[.val (.ref a), .val (.int q), .val (.int (own_find es q)), .unset] [(.int (2 : Int32)), (.int (-(own_find es q)))])) ?_ (fun t_ k_ => XS.iconst X2.here hx rfl (hb hby d25_22) k_)
    refine Goes.on (T' := T2) (g' := (mkF m 24 #[.val (.ref a), .val (.int q), .val (.int (own_find es q)), .unset] [(.int ((-(own_find es q)) - (2 : Int32)))])) ?_ (fun t_ k_ => XS.isub X2.here hx rfl (hb hby d25_23) rfl k_)
    refine Goes.on (T' := T2) (g' := (mkF m 25 #[.val (.ref a), .val (.int q), .val (.int (own_find es q)), .val (.int ((-(own_find es q)) - (2 : Int32)))] [])) ?_ (fun t_ k_ => XS.istoreN X2.here hx rfl (hb hby d25_24) rfl (l' := #[.val (.ref a), .val (.int q), .val (.int (own_find es q)), .val (.int ((-(own_find es q)) - (2 : Int32)))]) rfl k_)
    refine Goes.on (T' := T2) (g' := (mkF m 26 #[.val (.ref a), .val (.int q), .val (.int (own_find es q)), .val (.int ((-(own_find es q)) - (2 : Int32)))] [(.int ((-(own_find es q)) - (2 : Int32)))])) ?_ (fun t_ k_ => XS.iloadN X2.here hx rfl (hb hby d25_25) rfl k_)
    refine Goes.ifP X2 hx rfl (pc0 := 26) (pc' := 38) rfl (hb hby d25_26) rfl (by decide) (by decide) (P := ((-(own_find es q)) - (2 : Int32)) < (0 : Int32)) (ifc_lt _ _) (fun hc26 => ?_) (fun hc26 => ?_)
    · show Goes p e below W T2 (mkF m 38 #[.val (.ref a), .val (.int q), .val (.int (own_find es q)), .val (.int ((-(own_find es q)) - (2 : Int32)))] [])
      refine Goes.on (T' := T2) (g' := (mkF m 39 #[.val (.ref a), .val (.int q), .val (.int (own_find es q)), .val (.int ((-(own_find es q)) - (2 : Int32)))] [(.int (-1 : Int32))])) ?_ (fun t_ k_ => XS.iconst X2.here hx rfl (hb hby d25_38) k_)
      rw [hWd]
      exact Goes.retn X2 (v := some (.int (-1 : Int32))) (fun fs hr => retI X2 hx Bd.returns (hb hby d25_39) hr) (fun h => by rw [Bd.returns] at h; cases h) Bd.notSynchronized (by decide) (by decide) (by rw [eh2]; exact ⟨(show some (Value.int (-1 : Int32)) = some (.int (own_lastEnd es q)) from by simp only [own_lastEnd, eq_true hc10, eq_true hc26, if_true, if_false, ↓reduceIte, not_true_eq_false, not_false_eq_true, true_and, and_true, false_and, and_false, or_true, true_or, or_false, false_or, and_self, or_self]), N2, rfl⟩)
    · show Goes p e below W T2 (mkF m 29 #[.val (.ref a), .val (.int q), .val (.int (own_find es q)), .val (.int ((-(own_find es q)) - (2 : Int32)))] [])
      refine Goes.on (T' := T2) (g' := (mkF m 30 #[.val (.ref a), .val (.int q), .val (.int (own_find es q)), .val (.int ((-(own_find es q)) - (2 : Int32)))] [(.ref a)])) ?_ (fun t_ k_ => XS.aloadN X2.here hx rfl (hb hby d25_29) rfl rfl k_)
      obtain ⟨T3, X3, e3, st3⟩ := getF X2 hx hZ hown (host := "") (Or.inl (hw _ (List.mem_of_getElem? (i := 105) rfl))) Via.refl eh2 FE (g := (mkF m 30 #[.val (.ref a), .val (.int q), .val (.int (own_find es q)), .val (.int ((-(own_find es q)) - (2 : Int32)))] [(.ref a)])) rfl rfl (hb hby d25_30)
      refine Goes.on (T' := T3) (g' := (mkF m 33 #[.val (.ref a), .val (.int q), .val (.int (own_find es q)), .val (.int ((-(own_find es q)) - (2 : Int32)))] [(.ref ea)])) ?_ st3
      refine Goes.on (T' := T3) (g' := (mkF m 34 #[.val (.ref a), .val (.int q), .val (.int (own_find es q)), .val (.int ((-(own_find es q)) - (2 : Int32)))] [(.int ((-(own_find es q)) - (2 : Int32))), (.ref ea)])) ?_ (fun t_ k_ => XS.iloadN X3.here hx rfl (hb hby d25_33) rfl k_)
      have bd := own_b3 (n := es.length) (by omega) (by rw [own_lt0] at hc10; omega) hc26
      have in1 := own_inb S2n bd.1 bd.2
      have at1 : c2.slots[((-(own_find es q)) - (2 : Int32)).toNatClampNeg]? = some (.int (es.getD ((-(own_find es q)) - (2 : Int32)).toNatClampNeg 0)) := by rw [H2 _ (by have e : ((-(own_find es q)) - (2 : Int32)).toNatClampNeg = ((-(own_find es q)) - (2 : Int32)).toInt.toNat := rfl; rw [e]; omega), own_bget]
      refine Goes.on (T' := T3) (g' := (mkF m 35 #[.val (.ref a), .val (.int q), .val (.int (own_find es q)), .val (.int ((-(own_find es q)) - (2 : Int32)))] [(.int (es.getD ((-(own_find es q)) - (2 : Int32)).toNatClampNeg 0))])) ?_ (X3.iaload hx (j := ((-(own_find es q)) - (2 : Int32))) (v := (.int (es.getD ((-(own_find es q)) - (2 : Int32)).toNatClampNeg 0))) (by rw [e3]; exact A2.1) (State.isArrayOf_alike hZ.alike A2.2.1) A2.2.2 in1 at1 (g := (mkF m 34 #[.val (.ref a), .val (.int q), .val (.int (own_find es q)), .val (.int ((-(own_find es q)) - (2 : Int32)))] [(.int ((-(own_find es q)) - (2 : Int32))), (.ref ea)])) rfl rfl (hb hby d25_34))
      refine Goes.on (T' := T3) (g' := (mkF m 39 #[.val (.ref a), .val (.int q), .val (.int (own_find es q)), .val (.int ((-(own_find es q)) - (2 : Int32)))] [(.int (es.getD ((-(own_find es q)) - (2 : Int32)).toNatClampNeg 0))])) ?_ (fun t_ k_ => XS.goto X3.here hx rfl (pc0 := 35) (pc' := 39) rfl (hb hby d25_35) (by decide) (by decide) k_)
      rw [hWd]
      exact Goes.retn X3 (v := some (.int (es.getD ((-(own_find es q)) - (2 : Int32)).toNatClampNeg 0))) (fun fs hr => retI X3 hx Bd.returns (hb hby d25_39) hr) (fun h => by rw [Bd.returns] at h; cases h) Bd.notSynchronized (by decide) (by decide) (by rw [e3]; exact ⟨(show some (Value.int (es.getD ((-(own_find es q)) - (2 : Int32)).toNatClampNeg 0)) = some (.int (own_lastEnd es q)) from by simp only [own_lastEnd, eq_true hc10, eq_false hc26, if_true, if_false, ↓reduceIte, not_true_eq_false, not_false_eq_true, true_and, and_true, false_and, and_false, or_true, true_or, or_false, false_or, and_self, or_self]), N2, rfl⟩)
  · show Goes p e below W T2 (mkF m 13 #[.val (.ref a), .val (.int q), .val (.int (own_find es q)), .unset] [])
    refine Goes.on (T' := T2) (g' := (mkF m 14 #[.val (.ref a), .val (.int q), .val (.int (own_find es q)), .unset] [(.ref a)])) ?_ (fun t_ k_ => XS.aloadN X2.here hx rfl (hb hby d25_13) rfl rfl k_)
    obtain ⟨T4, X4, e4, st4⟩ := getF X2 hx hZ hown (host := "") (Or.inl (hw _ (List.mem_of_getElem? (i := 105) rfl))) Via.refl eh2 FE (g := (mkF m 14 #[.val (.ref a), .val (.int q), .val (.int (own_find es q)), .unset] [(.ref a)])) rfl rfl (hb hby d25_14)
    refine Goes.on (T' := T4) (g' := (mkF m 17 #[.val (.ref a), .val (.int q), .val (.int (own_find es q)), .unset] [(.ref ea)])) ?_ st4
    refine Goes.on (T' := T4) (g' := (mkF m 18 #[.val (.ref a), .val (.int q), .val (.int (own_find es q)), .unset] [(.int (own_find es q)), (.ref ea)])) ?_ (fun t_ k_ => XS.iloadN X4.here hx rfl (hb hby d25_17) rfl k_)
    have bd : 0 ≤ (own_find es q).toInt ∧ (own_find es q).toInt < es.length := by rw [own_lt0] at hc10; omega
    have in1 := own_inb S2n bd.1 bd.2
    have at1 : c2.slots[(own_find es q).toNatClampNeg]? = some (.int (es.getD (own_find es q).toNatClampNeg 0)) := by rw [H2 _ (by have e : (own_find es q).toNatClampNeg = (own_find es q).toInt.toNat := rfl; rw [e]; omega), own_bget]
    refine Goes.on (T' := T4) (g' := (mkF m 19 #[.val (.ref a), .val (.int q), .val (.int (own_find es q)), .unset] [(.int (es.getD (own_find es q).toNatClampNeg 0))])) ?_ (X4.iaload hx (j := (own_find es q)) (v := (.int (es.getD (own_find es q).toNatClampNeg 0))) (by rw [e4]; exact A2.1) (State.isArrayOf_alike hZ.alike A2.2.1) A2.2.2 in1 at1 (g := (mkF m 18 #[.val (.ref a), .val (.int q), .val (.int (own_find es q)), .unset] [(.int (own_find es q)), (.ref ea)])) rfl rfl (hb hby d25_18))
    rw [hWd]
    exact Goes.retn X4 (v := some (.int (es.getD (own_find es q).toNatClampNeg 0))) (fun fs hr => retI X4 hx Bd.returns (hb hby d25_19) hr) (fun h => by rw [Bd.returns] at h; cases h) Bd.notSynchronized (by decide) (by decide) (by rw [e4]; exact ⟨(show some (Value.int (es.getD (own_find es q).toNatClampNeg 0)) = some (.int (own_lastEnd es q)) from by simp only [own_lastEnd, eq_false hc10, if_true, if_false, ↓reduceIte, not_true_eq_false, not_false_eq_true, true_and, and_true, false_and, and_false, or_true, true_or, or_false, false_or, and_self, or_self]), N2, rfl⟩)
def QFI (Z : State) (fo : Addr) (h0 : Heap) (n0 : Nat) (v : Option Value) (h : Heap) (L : List Loc) : Prop := v = none ∧ Fr n0 L ∧ Keep h0 h [fo] ∧ ∃ sa ea ks ke, h0.size ≤ sa ∧ h0.size ≤ ea ∧ FoA Z h n0 fo sa ea ks ke [] []
set_option maxRecDepth 65536 in
set_option maxHeartbeats 40000000 in
theorem rmFI (l : Launch) (Z : State) (a0 : Array Value) (hw : ∀ d ∈ tables_1, d.before a0 Z = true) (ws : List Jvm.Cond) (fo : Addr) (h0 : Heap) (n0 : Nat) (Z0 : n0 ≤ h0.size) (E : Exa Z h0 fo "com/example/covenantry/covenantry/read/Text$Matches$Found") (FS : Fld Z h0 fo "com/example/covenantry/covenantry/read/Text$Matches$Found" "starts" "[I" .null) (FE : Fld Z h0 fo "com/example/covenantry/covenantry/read/Text$Matches$Found" "ends" "[I" .null) (FC : Fld Z h0 fo "com/example/covenantry/covenantry/read/Text$Matches$Found" "count" "I" (.int (0 : Int32))) (ga : n0 ≤ fo) :
    MetFree l (⟨"com/example/covenantry/covenantry/read/Text$Matches$Found", "<init>", "()V"⟩ : MethodName) (head1 (Jvm.Cond.code (⟨"com/example/covenantry/covenantry/read/Text$Matches$Found", "<init>", "()V"⟩ : MethodName) prog_72_method_1_code 1 none :: ws) ({ frames := 1, cells := 2, slots := 32, locals := 12 } : Room)) (fun a_ U => a_ = #[(.ref fo)] ∧ Z.Warmed39 U.vm ∧ U.heap = h0) (fun _ _ _ _ _ => True) (fun _ U o U' => ∃ v L, o = .returned v ∧ QFI Z fo h0 n0 v U'.heap L ∧ FrameEnd U o U' L ({ frames := 1, cells := 2, slots := 32, locals := 12 } : Room).cells ({ frames := 1, cells := 2, slots := 32, locals := 12 } : Room).slots) := by
  refine MetFree.of_bodySF (plainFor_of_name pn_3) hisR ?_
  intro p e s m args below meth c s₁ Bd hml0 hP hK
  obtain ⟨rfl, hZ, hh⟩ := hP
  have hx := Bd.exec
  have hby := Bd.bytes
  have hml : c.maxLocals = 1 := hml0
  have hown : s.vm.findClass "com/example/covenantry/covenantry/read/Text$Matches$Found" = some m.cls := findClass_of_methodNamed Bd.named
  have hnm := (name_of_methodNamed Bd.named Bd.method).1
  have X0 : Stand p l e ({ frames := 1, cells := 2, slots := 32, locals := 12 } : Room) s m #[(.ref fo)] below meth c s₁ [] 0 0 := Stand.of_body Bd
  have e0 : s₁.heap = h0 := by rw [← hh, Bd.state]; rfl
  have N0 := Fr.nil n0
  refine Goes.done ?_
  obtain ⟨W, hWd⟩ : ∃ W : State → Prop, W = EndW s below (QFI Z fo h0 n0) ({ frames := 1, cells := 2, slots := 32, locals := 12 } : Room).cells ({ frames := 1, cells := 2, slots := 32, locals := 12 } : Room).slots := ⟨_, rfl⟩
  rw [← hWd]
  have hef : entryFrame m #[(.ref fo)] 1 = (mkF m 0 #[.val (.ref fo)] []) := by first | (simp [entryFrame, mkF, argsToLocals, Value.category]; done) | rfl
  rw [hef]
  refine Goes.on (T' := s₁) (g' := (mkF m 1 #[.val (.ref fo)] [(.ref fo)])) ?_ (fun t_ k_ => XS.aloadN X0.here hx rfl (hb hby d9_0) rfl rfl k_)
  obtain ⟨T1, X1, e1, st1⟩ := initO X0 hx hZ hown (hw _ (List.mem_of_getElem? (i := 45) rfl)) (hw _ (List.mem_of_getElem? (i := 16) rfl)) (hw _ (List.mem_of_getElem? (i := 17) rfl)) e0 (g := (mkF m 1 #[.val (.ref fo)] [(.ref fo)])) rfl (by rw [hml]; rfl) rfl (hb hby d9_1) (by decide) (W := 0) (by show 2 * 0 + _ ≤ _; exact Nat.le_of_eq rfl) (by decide)
  refine Goes.on (T' := T1) (g' := (mkF m 4 #[.val (.ref fo)] [])) ?_ st1
  refine Goes.on (T' := T1) (g' := (mkF m 5 #[.val (.ref fo)] [(.ref fo)])) ?_ (fun t_ k_ => XS.aloadN X1.here hx rfl (hb hby d9_4) rfl rfl k_)
  refine Goes.on (T' := T1) (g' := (mkF m 7 #[.val (.ref fo)] [(.int (16 : Int32)), (.ref fo)])) ?_ (fun t_ k_ => XS.bipush X1.here hx rfl (hb hby d9_5) k_)
  obtain ⟨T2, h2, k2, X2, e2, E2, A2, st2⟩ := newP X1 hx hZ (hw _ (List.mem_of_getElem? (i := 46) rfl)) e1 (g := (mkF m 7 #[.val (.ref fo)] [(.int (16 : Int32)), (.ref fo)])) rfl (hb hby d9_7) rfl (by decide) (cap := 16) (by decide) (by decide) (by decide) (by decide)
  obtain ⟨b2, gb2⟩ : ∃ z, z = h0.size := ⟨_, rfl⟩
  rw [← gb2] at A2 st2
  have V2 := Arv.new A2 (by decide)
  have Z2 : n0 ≤ h2.size := Nat.le_trans Z0 E2.1
  have g_b2 : n0 ≤ b2 := Nat.le_trans Z0 (Nat.le_of_eq gb2.symm)
  refine Goes.on (T' := T2) (g' := (mkF m 9 #[.val (.ref fo)] [(.ref b2), (.ref fo)])) ?_ st2
  have fx3 := FS.ext E2
  have fx4 := FE.ext E2
  have fx5 := FC.ext E2
  have fx6 := E.ext E2
  have sz2 : h0.size ≤ b2 := Nat.le_of_eq gb2.symm
  obtain ⟨T7, h7, X7, e7, W7, st7⟩ := putF X2 hx hZ hown (host := "") (Or.inl (hw _ (List.mem_of_getElem? (i := 47) rfl))) Via.refl e2 fx3 fx6 (Or.inl (hw _ (List.mem_of_getElem? (i := 48) rfl))) (hw _ (List.mem_of_getElem? (i := 40) rfl)) (ty := (.array .int)) (by decide) rfl rfl (g := (mkF m 9 #[.val (.ref fo)] [(.ref b2), (.ref fo)])) rfl rfl (hb hby d9_9)
  have N7 := Fr.snoc X7 N0 ga
  have Z7 : n0 ≤ h7.size := Nat.le_trans Z2 (Nat.le_of_eq W7.size.symm)
  refine Goes.on (T' := T7) (g' := (mkF m 12 #[.val (.ref fo)] [])) ?_ st7
  have fx8 := fx3.same W7
  have fx9 := fx4.other W7 (Or.inr (slot_ne (Or.inl (hw _ (List.mem_of_getElem? (i := 50) rfl))) (Or.inl (hw _ (List.mem_of_getElem? (i := 48) rfl))) (by decide) (t := (.array .int)) (t' := (.array .int)) (by decide) (by decide)))
  have fx10 := fx5.other W7 (Or.inr (slot_ne (Or.inl (hw _ (List.mem_of_getElem? (i := 79) rfl))) (Or.inl (hw _ (List.mem_of_getElem? (i := 48) rfl))) (by decide) (t := .int) (t' := (.array .int)) (by decide) (by decide)))
  have fx11 := fx6.wr W7
  have fx12 := V2.other W7 (Ne.symm (Nat.ne_of_lt (Nat.lt_of_lt_of_le E.lt (Nat.le_of_eq gb2.symm))))
  refine Goes.on (T' := T7) (g' := (mkF m 13 #[.val (.ref fo)] [(.ref fo)])) ?_ (fun t_ k_ => XS.aloadN X7.here hx rfl (hb hby d9_12) rfl rfl k_)
  refine Goes.on (T' := T7) (g' := (mkF m 14 #[.val (.ref fo)] [(.ref fo), (.ref fo)])) ?_ (fun t_ k_ => XS.aloadN X7.here hx rfl (hb hby d9_13) rfl rfl k_)
  obtain ⟨T13, X13, e13, st13⟩ := getF X7 hx hZ hown (host := "") (Or.inl (hw _ (List.mem_of_getElem? (i := 47) rfl))) Via.refl e7 fx8 (g := (mkF m 14 #[.val (.ref fo)] [(.ref fo), (.ref fo)])) rfl rfl (hb hby d9_14)
  refine Goes.on (T' := T13) (g' := (mkF m 17 #[.val (.ref fo)] [(.ref b2), (.ref fo)])) ?_ st13
  obtain ⟨cA, ArA, -, SA, MA_, -, -⟩ := id fx12
  refine Goes.on (T' := T13) (g' := (mkF m 18 #[.val (.ref fo)] [(.int cA.slots.size.toInt32), (.ref fo)])) ?_ (X13.arraylength hx (by rw [e13]; exact ArA.1) (State.isArrayOf_alike hZ.alike ArA.2.1) (g := (mkF m 17 #[.val (.ref fo)] [(.ref b2), (.ref fo)])) rfl rfl (hb hby d9_17))
  rw [len_of SA MA_]
  obtain ⟨T14, h14, k14, X14, e14, E14, A14, st14⟩ := newP X13 hx hZ (hw _ (List.mem_of_getElem? (i := 46) rfl)) e13 (g := (mkF m 18 #[.val (.ref fo)] [(.int (16 : Int32)), (.ref fo)])) rfl (hb hby d9_18) rfl (by decide) (cap := 16) (by decide) (by decide) (by decide) (by decide)
  obtain ⟨b14, gb14⟩ : ∃ z, z = h7.size := ⟨_, rfl⟩
  rw [← gb14] at A14 st14
  have V14 := Arv.new A14 (by decide)
  have Z14 : n0 ≤ h14.size := Nat.le_trans Z7 E14.1
  have g_b14 : n0 ≤ b14 := Nat.le_trans Z7 (Nat.le_of_eq gb14.symm)
  refine Goes.on (T' := T14) (g' := (mkF m 20 #[.val (.ref fo)] [(.ref b14), (.ref fo)])) ?_ st14
  have fx15 := fx8.ext E14
  have fx16 := fx9.ext E14
  have fx17 := fx10.ext E14
  have fx18 := fx11.ext E14
  have fx19 := fx12.ext E14
  have kp14 : Keep h0 h14 [fo] := (((Keep.refl h0 [fo]).ext E2).wr W7 (Or.inl (List.mem_cons_self ..))).ext E14
  have sz14 : h0.size ≤ b14 := Nat.le_trans (Nat.le_trans sz2 (Nat.le_of_lt fx12.lt)) (Nat.le_of_eq gb14.symm)
  obtain ⟨T20, h20, X20, e20, W20, st20⟩ := putF X14 hx hZ hown (host := "") (Or.inl (hw _ (List.mem_of_getElem? (i := 49) rfl))) Via.refl e14 fx16 fx18 (Or.inl (hw _ (List.mem_of_getElem? (i := 50) rfl))) (hw _ (List.mem_of_getElem? (i := 40) rfl)) (ty := (.array .int)) (by decide) rfl rfl (g := (mkF m 20 #[.val (.ref fo)] [(.ref b14), (.ref fo)])) rfl rfl (hb hby d9_20)
  have N20 := Fr.snoc X20 N7 ga
  have Z20 : n0 ≤ h20.size := Nat.le_trans Z14 (Nat.le_of_eq W20.size.symm)
  refine Goes.on (T' := T20) (g' := (mkF m 23 #[.val (.ref fo)] [])) ?_ st20
  have fx21 := fx15.other W20 (Or.inr (slot_ne (Or.inl (hw _ (List.mem_of_getElem? (i := 48) rfl))) (Or.inl (hw _ (List.mem_of_getElem? (i := 50) rfl))) (by decide) (t := (.array .int)) (t' := (.array .int)) (by decide) (by decide)))
  have fx22 := fx16.same W20
  have fx23 := fx17.other W20 (Or.inr (slot_ne (Or.inl (hw _ (List.mem_of_getElem? (i := 79) rfl))) (Or.inl (hw _ (List.mem_of_getElem? (i := 50) rfl))) (by decide) (t := .int) (t' := (.array .int)) (by decide) (by decide)))
  have fx24 := fx18.wr W20
  have fx25 := fx19.other W20 (Ne.symm (Nat.ne_of_lt (Nat.lt_of_lt_of_le E.lt (Nat.le_of_eq gb2.symm))))
  have fx26 := V14.other W20 (Ne.symm (Nat.ne_of_lt (Nat.lt_of_lt_of_le fx11.lt (Nat.le_of_eq gb14.symm))))
  rw [hWd]
  exact Goes.retn X20 (v := none) (fun fs hr => X20.returnOut hx Bd.returns (hb hby d9_23) hr) (fun _ => rfl) Bd.notSynchronized (by decide) (by decide) (by rw [e20]; exact ⟨rfl, N20, (kp14.wr W20 (Or.inl (List.mem_cons_self ..))), b2, b14, _, _, sz2, sz14, fx24, fx21, fx22, fx23, fx25, fx26, (Nat.ne_of_lt (Nat.lt_of_lt_of_le fx12.lt (Nat.le_of_eq gb14.symm))), ga, g_b2, g_b14, rfl⟩)
def QFA (Z : State) (fo sa ea : Addr) (ks ke : ClassId) (ss es : List Int32) (u r : Int32) (h0 : Heap) (n0 : Nat) (v : Option Value) (h : Heap) (L : List Loc) : Prop := v = none ∧ Fr n0 L ∧ Keep h0 h [fo, sa, ea] ∧ FoA Z h n0 fo sa ea ks ke (ss ++ [u]) (es ++ [r])
set_option maxRecDepth 65536 in
set_option maxHeartbeats 40000000 in
theorem rmFA (l : Launch) (Z : State) (a0 : Array Value) (hw : ∀ d ∈ tables_1, d.before a0 Z = true) (ws : List Jvm.Cond) (fo sa ea : Addr) (ks ke : ClassId) (ss es : List Int32) (u r : Int32) (h0 : Heap) (n0 : Nat) (Z0 : n0 ≤ h0.size) (FA : FoA Z h0 n0 fo sa ea ks ke ss es) (hl : ss.length < 16) :
    MetFree l (⟨"com/example/covenantry/covenantry/read/Text$Matches$Found", "add", "(II)V"⟩ : MethodName) (head1 (Jvm.Cond.code (⟨"com/example/covenantry/covenantry/read/Text$Matches$Found", "add", "(II)V"⟩ : MethodName) prog_72_method_2_code 3 none :: ws) ({ frames := 0, cells := 0, slots := 0, locals := 0 } : Room)) (fun a_ U => a_ = #[(.ref fo), (.int u), (.int r)] ∧ Z.Warmed39 U.vm ∧ U.heap = h0) (fun _ _ _ _ _ => True) (fun _ U o U' => ∃ v L, o = .returned v ∧ QFA Z fo sa ea ks ke ss es u r h0 n0 v U'.heap L ∧ FrameEnd U o U' L ({ frames := 0, cells := 0, slots := 0, locals := 0 } : Room).cells ({ frames := 0, cells := 0, slots := 0, locals := 0 } : Room).slots) := by
  refine MetFree.of_bodySF (plainFor_of_name pn_3) hisR ?_
  intro p e s m args below meth c s₁ Bd hml0 hP hK
  obtain ⟨rfl, hZ, hh⟩ := hP
  have hx := Bd.exec
  have hby := Bd.bytes
  have hml : c.maxLocals = 3 := hml0
  have hown : s.vm.findClass "com/example/covenantry/covenantry/read/Text$Matches$Found" = some m.cls := findClass_of_methodNamed Bd.named
  have hnm := (name_of_methodNamed Bd.named Bd.method).1
  have X0 : Stand p l e ({ frames := 0, cells := 0, slots := 0, locals := 0 } : Room) s m #[(.ref fo), (.int u), (.int r)] below meth c s₁ [] 0 0 := Stand.of_body Bd
  have e0 : s₁.heap = h0 := by rw [← hh, Bd.state]; rfl
  have N0 := Fr.nil n0
  refine Goes.done ?_
  obtain ⟨W, hWd⟩ : ∃ W : State → Prop, W = EndW s below (QFA Z fo sa ea ks ke ss es u r h0 n0) ({ frames := 0, cells := 0, slots := 0, locals := 0 } : Room).cells ({ frames := 0, cells := 0, slots := 0, locals := 0 } : Room).slots := ⟨_, rfl⟩
  rw [← hWd]
  have hef : entryFrame m #[(.ref fo), (.int u), (.int r)] 3 = (mkF m 0 #[.val (.ref fo), .val (.int u), .val (.int r)] []) := by first | (simp [entryFrame, mkF, argsToLocals, Value.category]; done) | rfl
  rw [hef]
  obtain ⟨E, FS, FE, FC, VS, VE, hne, gf, gs, ge, hse⟩ := FA
  have hcl : (Int32.ofNat ss.length).toNatClampNeg = ss.length := own_clamp (by omega)
  have hc9 : ¬ (Int32.ofNat ss.length) = (16 : Int32) := by rw [show (16 : Int32) = Int32.ofNat 16 from rfl, own_ninj (by omega) (by omega)]; omega
  refine Goes.on (T' := s₁) (g' := (mkF m 1 #[.val (.ref fo), .val (.int u), .val (.int r)] [(.ref fo)])) ?_ (fun t_ k_ => XS.aloadN X0.here hx rfl (hb hby d15_0) rfl rfl k_)
  obtain ⟨T1, X1, e1, st1⟩ := getF X0 hx hZ hown (host := "") (Or.inl (hw _ (List.mem_of_getElem? (i := 78) rfl))) Via.refl e0 FC (g := (mkF m 1 #[.val (.ref fo), .val (.int u), .val (.int r)] [(.ref fo)])) rfl rfl (hb hby d15_1)
  refine Goes.on (T' := T1) (g' := (mkF m 4 #[.val (.ref fo), .val (.int u), .val (.int r)] [(.int (Int32.ofNat ss.length))])) ?_ st1
  refine Goes.on (T' := T1) (g' := (mkF m 5 #[.val (.ref fo), .val (.int u), .val (.int r)] [(.ref fo), (.int (Int32.ofNat ss.length))])) ?_ (fun t_ k_ => XS.aloadN X1.here hx rfl (hb hby d15_4) rfl rfl k_)
  obtain ⟨T2, X2, e2, st2⟩ := getF X1 hx hZ hown (host := "") (Or.inl (hw _ (List.mem_of_getElem? (i := 47) rfl))) Via.refl e1 FS (g := (mkF m 5 #[.val (.ref fo), .val (.int u), .val (.int r)] [(.ref fo), (.int (Int32.ofNat ss.length))])) rfl rfl (hb hby d15_5)
  refine Goes.on (T' := T2) (g' := (mkF m 8 #[.val (.ref fo), .val (.int u), .val (.int r)] [(.ref sa), (.int (Int32.ofNat ss.length))])) ?_ st2
  obtain ⟨cA, ArA, -, SA, MA_, -, -⟩ := id VS
  refine Goes.on (T' := T2) (g' := (mkF m 9 #[.val (.ref fo), .val (.int u), .val (.int r)] [(.int cA.slots.size.toInt32), (.int (Int32.ofNat ss.length))])) ?_ (X2.arraylength hx (by rw [e2]; exact ArA.1) (State.isArrayOf_alike hZ.alike ArA.2.1) (g := (mkF m 8 #[.val (.ref fo), .val (.int u), .val (.int r)] [(.ref sa), (.int (Int32.ofNat ss.length))])) rfl rfl (hb hby d15_8))
  rw [len_of SA MA_]
  refine Goes.on (T' := T2) (g' := (mkF m 46 #[.val (.ref fo), .val (.int u), .val (.int r)] [])) ?_ (fun t_ k_ => XS.icmpYes X2.here hx rfl (pc0 := 9) (pc' := 46) rfl (hb hby d15_9) rfl (feq hc9).2 (by decide) (by decide) k_)
  refine Goes.on (T' := T2) (g' := (mkF m 47 #[.val (.ref fo), .val (.int u), .val (.int r)] [(.ref fo)])) ?_ (fun t_ k_ => XS.aloadN X2.here hx rfl (hb hby d15_46) rfl rfl k_)
  obtain ⟨T3, X3, e3, st3⟩ := getF X2 hx hZ hown (host := "") (Or.inl (hw _ (List.mem_of_getElem? (i := 47) rfl))) Via.refl e2 FS (g := (mkF m 47 #[.val (.ref fo), .val (.int u), .val (.int r)] [(.ref fo)])) rfl rfl (hb hby d15_47)
  refine Goes.on (T' := T3) (g' := (mkF m 50 #[.val (.ref fo), .val (.int u), .val (.int r)] [(.ref sa)])) ?_ st3
  refine Goes.on (T' := T3) (g' := (mkF m 51 #[.val (.ref fo), .val (.int u), .val (.int r)] [(.ref fo), (.ref sa)])) ?_ (fun t_ k_ => XS.aloadN X3.here hx rfl (hb hby d15_50) rfl rfl k_)
  obtain ⟨T4, X4, e4, st4⟩ := getF X3 hx hZ hown (host := "") (Or.inl (hw _ (List.mem_of_getElem? (i := 78) rfl))) Via.refl e3 FC (g := (mkF m 51 #[.val (.ref fo), .val (.int u), .val (.int r)] [(.ref fo), (.ref sa)])) rfl rfl (hb hby d15_51)
  refine Goes.on (T' := T4) (g' := (mkF m 54 #[.val (.ref fo), .val (.int u), .val (.int r)] [(.int (Int32.ofNat ss.length)), (.ref sa)])) ?_ st4
  refine Goes.on (T' := T4) (g' := (mkF m 55 #[.val (.ref fo), .val (.int u), .val (.int r)] [(.int u), (.int (Int32.ofNat ss.length)), (.ref sa)])) ?_ (fun t_ k_ => XS.iloadN X4.here hx rfl (hb hby d15_54) rfl k_)
  obtain ⟨c5, A5, q5, S5, M5, H5, G5⟩ := id VS
  have i5 : ¬ ((Int32.ofNat ss.length) < 0 ∨ c5.slots.size ≤ (Int32.ofNat ss.length).toNatClampNeg) := by rw [hcl, S5]; intro q; rcases q with q | q; exact own_nn (by omega) q; exact absurd q (by show ¬ 16 ≤ ss.length; omega)
  obtain ⟨T6, h6, X6, e6, W6, st6⟩ := stI X4 hx hZ e4 A5 (j := (Int32.ofNat ss.length)) i5 (g := (mkF m 55 #[.val (.ref fo), .val (.int u), .val (.int r)] [(.int u), (.int (Int32.ofNat ss.length)), (.ref sa)])) rfl rfl (hb hby d15_55)
  have N6 := Fr.snoc X6 N0 gs
  have Z6 : n0 ≤ h6.size := Nat.le_trans Z0 (Nat.le_of_eq W6.size.symm)
  refine Goes.on (T' := T6) (g' := (mkF m 56 #[.val (.ref fo), .val (.int u), .val (.int r)] [])) ?_ st6
  have fx7 := FS.other W6 (Or.inl (Exa.neArv E VS (hw _ (List.mem_of_getElem? (i := 40) rfl))))
  have fx8 := FE.other W6 (Or.inl (Exa.neArv E VS (hw _ (List.mem_of_getElem? (i := 40) rfl))))
  have fx9 := FC.other W6 (Or.inl (Exa.neArv E VS (hw _ (List.mem_of_getElem? (i := 40) rfl))))
  have fx10 := E.wr W6
  have fx11 := VE.other W6 (Ne.symm hne)
  have nV6 := own_push A5 q5 S5 M5 H5 G5 (by omega) W6
  refine Goes.on (T' := T6) (g' := (mkF m 57 #[.val (.ref fo), .val (.int u), .val (.int r)] [(.ref fo)])) ?_ (fun t_ k_ => XS.aloadN X6.here hx rfl (hb hby d15_56) rfl rfl k_)
  obtain ⟨T12, X12, e12, st12⟩ := getF X6 hx hZ hown (host := "") (Or.inl (hw _ (List.mem_of_getElem? (i := 49) rfl))) Via.refl e6 fx8 (g := (mkF m 57 #[.val (.ref fo), .val (.int u), .val (.int r)] [(.ref fo)])) rfl rfl (hb hby d15_57)
  refine Goes.on (T' := T12) (g' := (mkF m 60 #[.val (.ref fo), .val (.int u), .val (.int r)] [(.ref ea)])) ?_ st12
  refine Goes.on (T' := T12) (g' := (mkF m 61 #[.val (.ref fo), .val (.int u), .val (.int r)] [(.ref fo), (.ref ea)])) ?_ (fun t_ k_ => XS.aloadN X12.here hx rfl (hb hby d15_60) rfl rfl k_)
  obtain ⟨T13, X13, e13, st13⟩ := getF X12 hx hZ hown (host := "") (Or.inl (hw _ (List.mem_of_getElem? (i := 78) rfl))) Via.refl e12 fx9 (g := (mkF m 61 #[.val (.ref fo), .val (.int u), .val (.int r)] [(.ref fo), (.ref ea)])) rfl rfl (hb hby d15_61)
  refine Goes.on (T' := T13) (g' := (mkF m 64 #[.val (.ref fo), .val (.int u), .val (.int r)] [(.int (Int32.ofNat ss.length)), (.ref ea)])) ?_ st13
  refine Goes.on (T' := T13) (g' := (mkF m 65 #[.val (.ref fo), .val (.int u), .val (.int r)] [(.int r), (.int (Int32.ofNat ss.length)), (.ref ea)])) ?_ (fun t_ k_ => XS.iloadN X13.here hx rfl (hb hby d15_64) rfl k_)
  obtain ⟨c14, A14, q14, S14, M14, H14, G14⟩ := id fx11
  have i14 : ¬ ((Int32.ofNat ss.length) < 0 ∨ c14.slots.size ≤ (Int32.ofNat ss.length).toNatClampNeg) := by rw [hcl, S14]; intro q; rcases q with q | q; exact own_nn (by omega) q; exact absurd q (by show ¬ 16 ≤ ss.length; omega)
  obtain ⟨T15, h15, X15, e15, W15, st15⟩ := stI X13 hx hZ e13 A14 (j := (Int32.ofNat ss.length)) i14 (g := (mkF m 65 #[.val (.ref fo), .val (.int u), .val (.int r)] [(.int r), (.int (Int32.ofNat ss.length)), (.ref ea)])) rfl rfl (hb hby d15_65)
  have N15 := Fr.snoc X15 N6 ge
  have Z15 : n0 ≤ h15.size := Nat.le_trans Z6 (Nat.le_of_eq W15.size.symm)
  refine Goes.on (T' := T15) (g' := (mkF m 66 #[.val (.ref fo), .val (.int u), .val (.int r)] [])) ?_ st15
  have fx16 := fx7.other W15 (Or.inl (Exa.neArv E VE (hw _ (List.mem_of_getElem? (i := 40) rfl))))
  have fx17 := fx8.other W15 (Or.inl (Exa.neArv E VE (hw _ (List.mem_of_getElem? (i := 40) rfl))))
  have fx18 := fx9.other W15 (Or.inl (Exa.neArv E VE (hw _ (List.mem_of_getElem? (i := 40) rfl))))
  have fx19 := fx10.wr W15
  have fx20 := nV6.other W15 hne
  have nV15 := own_push A14 q14 S14 M14 H14 G14 (by omega) (show Wr _ _ _ (Int32.ofNat es.length).toNatClampNeg _ by rw [hse]; exact W15)
  refine Goes.on (T' := T15) (g' := (mkF m 67 #[.val (.ref fo), .val (.int u), .val (.int r)] [(.ref fo)])) ?_ (fun t_ k_ => XS.aloadN X15.here hx rfl (hb hby d15_66) rfl rfl k_)
  refine Goes.on (T' := T15) (g' := (mkF m 68 #[.val (.ref fo), .val (.int u), .val (.int r)] [(.ref fo), (.ref fo)])) ?_ (fun t_ k_ => XS.dup X15.here hx rfl (hb hby d15_67) rfl rfl k_)
  obtain ⟨T21, X21, e21, st21⟩ := getF X15 hx hZ hown (host := "") (Or.inl (hw _ (List.mem_of_getElem? (i := 78) rfl))) Via.refl e15 fx18 (g := (mkF m 68 #[.val (.ref fo), .val (.int u), .val (.int r)] [(.ref fo), (.ref fo)])) rfl rfl (hb hby d15_68)
  refine Goes.on (T' := T21) (g' := (mkF m 71 #[.val (.ref fo), .val (.int u), .val (.int r)] [(.int (Int32.ofNat ss.length)), (.ref fo)])) ?_ st21
  refine Goes.on (T' := T21) (g' := (mkF m 72 #[.val (.ref fo), .val (.int u), .val (.int r)] [(.int (1 : Int32)), (.int (Int32.ofNat ss.length)), (.ref fo)])) ?_ (fun t_ k_ => XS.iconst X21.here hx rfl (hb hby d15_71) k_)
  refine Goes.on (T' := T21) (g' := (mkF m 73 #[.val (.ref fo), .val (.int u), .val (.int r)] [(.int ((Int32.ofNat ss.length) + (1 : Int32))), (.ref fo)])) ?_ (fun t_ k_ => XS.iadd X21.here hx rfl (hb hby d15_72) rfl k_)
  obtain ⟨T22, h22, X22, e22, W22, st22⟩ := putF X21 hx hZ hown (host := "") (Or.inl (hw _ (List.mem_of_getElem? (i := 78) rfl))) Via.refl e21 fx18 fx19 (Or.inl (hw _ (List.mem_of_getElem? (i := 79) rfl))) (hw _ (List.mem_of_getElem? (i := 40) rfl)) (ty := .int) (by decide) rfl rfl (g := (mkF m 73 #[.val (.ref fo), .val (.int u), .val (.int r)] [(.int ((Int32.ofNat ss.length) + (1 : Int32))), (.ref fo)])) rfl rfl (hb hby d15_73)
  have N22 := Fr.snoc X22 N15 gf
  have Z22 : n0 ≤ h22.size := Nat.le_trans Z15 (Nat.le_of_eq W22.size.symm)
  refine Goes.on (T' := T22) (g' := (mkF m 76 #[.val (.ref fo), .val (.int u), .val (.int r)] [])) ?_ st22
  have fx23 := fx16.other W22 (Or.inr (slot_ne (Or.inl (hw _ (List.mem_of_getElem? (i := 48) rfl))) (Or.inl (hw _ (List.mem_of_getElem? (i := 79) rfl))) (by decide) (t := (.array .int)) (t' := .int) (by decide) (by decide)))
  have fx24 := fx17.other W22 (Or.inr (slot_ne (Or.inl (hw _ (List.mem_of_getElem? (i := 50) rfl))) (Or.inl (hw _ (List.mem_of_getElem? (i := 79) rfl))) (by decide) (t := (.array .int)) (t' := .int) (by decide) (by decide)))
  have fx25 := fx18.same W22
  have fx26 := fx19.wr W22
  have fx27 := fx20.other W22 (Ne.symm (Exa.neArv E VS (hw _ (List.mem_of_getElem? (i := 40) rfl))))
  have fx28 := nV15.other W22 (Ne.symm (Exa.neArv E VE (hw _ (List.mem_of_getElem? (i := 40) rfl))))
  have cnt : (Int32.ofNat ss.length) + (1 : Int32) = Int32.ofNat (ss ++ [u]).length := by rw [own_succ]; simp
  have hC := fx25
  rw [cnt] at hC
  rw [hWd]
  exact Goes.retn X22 (v := none) (fun fs hr => X22.returnOut hx Bd.returns (hb hby d15_76) hr) (fun _ => rfl) Bd.notSynchronized (by decide) (by decide) (by rw [e22]; exact ⟨rfl, N22, ((((Keep.refl h0 [fo, sa, ea]).wr W6 (Or.inl (by simp))).wr W15 (Or.inl (by simp))).wr W22 (Or.inl (by simp))), fx26, fx23, fx24, hC, fx27, fx28, hne, gf, gs, ge, by simp [hse]⟩)
def QCO (Z : State) (a : Addr) (xs : List Int32) (h0 : Heap) (n0 : Nat) (v : Option Value) (h : Heap) (L : List Loc) : Prop := v = some (.ref h0.size) ∧ Fr n0 L ∧ Keep h0 h [] ∧ ∃ kb, Arv Z h h0.size kb .int (Int32.ofNat xs.length) (xs.map Value.int) (.int 0)
set_option maxRecDepth 65536 in
set_option maxHeartbeats 40000000 in
theorem rmCO (l : Launch) (Z : State) (a0 : Array Value) (hw : ∀ d ∈ tables_1, d.before a0 Z = true) (ws : List Jvm.Cond) (a : Addr) (ka : ClassId) (xs : List Int32) (h0 : Heap) (n0 : Nat) (Z0 : n0 ≤ h0.size) (K : Arv Z h0 a ka .int (16 : Int32) (xs.map Value.int) (.int 0)) (hl : xs.length < 16) :
    MetFree l (⟨"java/util/Arrays", "copyOf", "([II)[I"⟩ : MethodName) (head1 (Jvm.Cond.code (⟨"java/util/Arrays", "copyOf", "([II)[I"⟩ : MethodName) jdk_65_method_123_code 3 (some (.array .int)) :: ws) ({ frames := 1, cells := 1, slots := 16, locals := 40 } : Room)) (fun a_ U => a_ = #[(.ref a), (.int (Int32.ofNat xs.length))] ∧ Z.Warmed39 U.vm ∧ U.heap = h0) (fun _ _ _ _ _ => True) (fun _ U o U' => ∃ v L, o = .returned v ∧ QCO Z a xs h0 n0 v U'.heap L ∧ FrameEnd U o U' L ({ frames := 1, cells := 1, slots := 16, locals := 40 } : Room).cells ({ frames := 1, cells := 1, slots := 16, locals := 40 } : Room).slots) := by
  refine MetFree.of_bodySF (plainFor_of_name pn_1) hisR ?_
  intro p e s m args below meth c s₁ Bd hml0 hP hK
  obtain ⟨rfl, hZ, hh⟩ := hP
  have hx := Bd.exec
  have hby := Bd.bytes
  have hml : c.maxLocals = 3 := hml0
  have hown : s.vm.findClass "java/util/Arrays" = some m.cls := findClass_of_methodNamed Bd.named
  have hnm := (name_of_methodNamed Bd.named Bd.method).1
  have X0 : Stand p l e ({ frames := 1, cells := 1, slots := 16, locals := 40 } : Room) s m #[(.ref a), (.int (Int32.ofNat xs.length))] below meth c s₁ [] 0 0 := Stand.of_body Bd
  have e0 : s₁.heap = h0 := by rw [← hh, Bd.state]; rfl
  have N0 := Fr.nil n0
  refine Goes.done ?_
  obtain ⟨W, hWd⟩ : ∃ W : State → Prop, W = EndW s below (QCO Z a xs h0 n0) ({ frames := 1, cells := 1, slots := 16, locals := 40 } : Room).cells ({ frames := 1, cells := 1, slots := 16, locals := 40 } : Room).slots := ⟨_, rfl⟩
  rw [← hWd]
  have hef : entryFrame m #[(.ref a), (.int (Int32.ofNat xs.length))] 3 = (mkF m 0 #[.val (.ref a), .val (.int (Int32.ofNat xs.length)), .unset] []) := by first | (simp [entryFrame, mkF, argsToLocals, Value.category]; done) | rfl
  rw [hef]
  obtain ⟨cA, ArA, -, SA, MA_, -, -⟩ := id K
  have hc3 : ¬ (Int32.ofNat xs.length) = (16 : Int32) := by rw [show (16 : Int32) = Int32.ofNat 16 from rfl, own_ninj (by omega) (by omega)]; omega
  have hcl : (Int32.ofNat xs.length).toNatClampNeg = xs.length := own_clamp (by omega)
  refine Goes.on (T' := s₁) (g' := (mkF m 1 #[.val (.ref a), .val (.int (Int32.ofNat xs.length)), .unset] [(.int (Int32.ofNat xs.length))])) ?_ (fun t_ k_ => XS.iloadN X0.here hx rfl (hb hby d17_0) rfl k_)
  refine Goes.on (T' := s₁) (g' := (mkF m 2 #[.val (.ref a), .val (.int (Int32.ofNat xs.length)), .unset] [(.ref a), (.int (Int32.ofNat xs.length))])) ?_ (fun t_ k_ => XS.aloadN X0.here hx rfl (hb hby d17_1) rfl rfl k_)
  refine Goes.on (T' := s₁) (g' := (mkF m 3 #[.val (.ref a), .val (.int (Int32.ofNat xs.length)), .unset] [(.int cA.slots.size.toInt32), (.int (Int32.ofNat xs.length))])) ?_ (X0.arraylength hx (by rw [e0]; exact ArA.1) (State.isArrayOf_alike hZ.alike ArA.2.1) (g := (mkF m 2 #[.val (.ref a), .val (.int (Int32.ofNat xs.length)), .unset] [(.ref a), (.int (Int32.ofNat xs.length))])) rfl rfl (hb hby d17_2))
  rw [len_of SA MA_]
  refine Goes.on (T' := s₁) (g' := (mkF m 14 #[.val (.ref a), .val (.int (Int32.ofNat xs.length)), .unset] [])) ?_ (fun t_ k_ => XS.icmpYes X0.here hx rfl (pc0 := 3) (pc' := 14) rfl (hb hby d17_3) rfl (feq hc3).2 (by decide) (by decide) k_)
  refine Goes.on (T' := s₁) (g' := (mkF m 15 #[.val (.ref a), .val (.int (Int32.ofNat xs.length)), .unset] [(.int (Int32.ofNat xs.length))])) ?_ (fun t_ k_ => XS.iloadN X0.here hx rfl (hb hby d17_14) rfl k_)
  obtain ⟨T1, h1, k1, X1, e1, E1, A1, st1⟩ := newP X0 hx hZ (hw _ (List.mem_of_getElem? (i := 46) rfl)) e0 (g := (mkF m 15 #[.val (.ref a), .val (.int (Int32.ofNat xs.length)), .unset] [(.int (Int32.ofNat xs.length))])) rfl (hb hby d17_15) rfl (own_nn (by omega)) (cap := 16) (by rw [hcl]; omega) (by decide) (by decide) (by decide)
  obtain ⟨b1, gb1⟩ : ∃ z, z = h0.size := ⟨_, rfl⟩
  rw [← gb1] at A1 st1
  have V1 := Arv.new A1 (own_nn (by omega))
  have Z1 : n0 ≤ h1.size := Nat.le_trans Z0 E1.1
  have g_b1 : n0 ≤ b1 := Nat.le_trans Z0 (Nat.le_of_eq gb1.symm)
  refine Goes.on (T' := T1) (g' := (mkF m 17 #[.val (.ref a), .val (.int (Int32.ofNat xs.length)), .unset] [(.ref b1)])) ?_ st1
  have Kx := K.ext E1
  have Ax := ArA.ext E1
  have Vx := V1.pad (pad_rep [] (.int 0) xs.length)
  refine Goes.on (T' := T1) (g' := (mkF m 18 #[.val (.ref a), .val (.int (Int32.ofNat xs.length)), .val (.ref b1)] [])) ?_ (fun t_ k_ => XS.astoreN X1.here hx rfl (hb hby d17_17) rfl rfl (l' := #[.val (.ref a), .val (.int (Int32.ofNat xs.length)), .val (.ref b1)]) rfl k_)
  refine Goes.on (T' := T1) (g' := (mkF m 19 #[.val (.ref a), .val (.int (Int32.ofNat xs.length)), .val (.ref b1)] [(.ref a)])) ?_ (fun t_ k_ => XS.aloadN X1.here hx rfl (hb hby d17_18) rfl rfl k_)
  refine Goes.on (T' := T1) (g' := (mkF m 20 #[.val (.ref a), .val (.int (Int32.ofNat xs.length)), .val (.ref b1)] [(.int (0 : Int32)), (.ref a)])) ?_ (fun t_ k_ => XS.iconst X1.here hx rfl (hb hby d17_19) k_)
  refine Goes.on (T' := T1) (g' := (mkF m 21 #[.val (.ref a), .val (.int (Int32.ofNat xs.length)), .val (.ref b1)] [(.ref b1), (.int (0 : Int32)), (.ref a)])) ?_ (fun t_ k_ => XS.aloadN X1.here hx rfl (hb hby d17_20) rfl rfl k_)
  refine Goes.on (T' := T1) (g' := (mkF m 22 #[.val (.ref a), .val (.int (Int32.ofNat xs.length)), .val (.ref b1)] [(.int (0 : Int32)), (.ref b1), (.int (0 : Int32)), (.ref a)])) ?_ (fun t_ k_ => XS.iconst X1.here hx rfl (hb hby d17_21) k_)
  refine Goes.on (T' := T1) (g' := (mkF m 23 #[.val (.ref a), .val (.int (Int32.ofNat xs.length)), .val (.ref b1)] [(.ref a), (.int (0 : Int32)), (.ref b1), (.int (0 : Int32)), (.ref a)])) ?_ (fun t_ k_ => XS.aloadN X1.here hx rfl (hb hby d17_22) rfl rfl k_)
  refine Goes.on (T' := T1) (g' := (mkF m 24 #[.val (.ref a), .val (.int (Int32.ofNat xs.length)), .val (.ref b1)] [(.int cA.slots.size.toInt32), (.int (0 : Int32)), (.ref b1), (.int (0 : Int32)), (.ref a)])) ?_ (X1.arraylength hx (by rw [e1]; exact Ax.1) (State.isArrayOf_alike hZ.alike Ax.2.1) (g := (mkF m 23 #[.val (.ref a), .val (.int (Int32.ofNat xs.length)), .val (.ref b1)] [(.ref a), (.int (0 : Int32)), (.ref b1), (.int (0 : Int32)), (.ref a)])) rfl rfl (hb hby d17_23))
  rw [len_of SA MA_]
  refine Goes.on (T' := T1) (g' := (mkF m 25 #[.val (.ref a), .val (.int (Int32.ofNat xs.length)), .val (.ref b1)] [(.int (Int32.ofNat xs.length)), (.int (16 : Int32)), (.int (0 : Int32)), (.ref b1), (.int (0 : Int32)), (.ref a)])) ?_ (fun t_ k_ => XS.iloadN X1.here hx rfl (hb hby d17_24) rfl k_)
  obtain ⟨_, _, ⟨T2, Lq_2, kq_2, nq_2⟩, -, X2, ⟨Lc2, hQ2, l2, y2, z2⟩, st2⟩ := Jvm.LawKit.callS X1 hx (y := (⟨"java/lang/Math", "min", "(II)I"⟩ : MethodName)) hown (mvT hZ (hw _ (List.mem_of_getElem? (i := 91) rfl))) (mvT hZ (hw _ (List.mem_of_getElem? (i := 92) rfl))) (mvT hZ (hw _ (List.mem_of_getElem? (i := 93) rfl))) (mvT hZ (hw _ (List.mem_of_getElem? (i := 94) rfl))) (by decide) (backOf (W := 4) (rmMN l Z a0 hw [] (16 : Int32) (Int32.ofNat xs.length) h1 n0 Z1) hZ (hw _ (List.mem_of_getElem? (i := 94) rfl)) (hw _ (List.mem_of_getElem? (i := 93) rfl)) (by decide) (by decide)) (g := (mkF m 25 #[.val (.ref a), .val (.int (Int32.ofNat xs.length)), .val (.ref b1)] [(.int (Int32.ofNat xs.length)), (.int (16 : Int32)), (.int (0 : Int32)), (.ref b1), (.int (0 : Int32)), (.ref a)])) rfl (by rw [hml]; rfl) (argsL := [(.int (16 : Int32)), (.int (Int32.ofNat xs.length))]) (rest := [(.int (0 : Int32)), (.ref b1), (.int (0 : Int32)), (.ref a)]) (lenOf pd_2 rfl) rfl (by show 2 * 0 + _ ≤ _; exact Nat.le_of_eq rfl) (hb hby d17_25) (fun _ _ => ⟨rfl, e1, (by decide : 1 + 0 ≤ _), (by decide : 16 + 0 ≤ _)⟩)
  dsimp only [Pt.U, Pt.locs, Pt.cells, Pt.slots] at X2 l2 y2 z2 st2 hQ2
  rw [l2, y2, z2] at X2
  change Stand p l e _ _ m _ below meth c T2 _ 1 16 at X2
  obtain ⟨rfl, N2q, eh2⟩ := hQ2
  have N2 := Fr.app N0 N2q
  refine Goes.on (T' := T2) (g' := (mkF m 28 #[.val (.ref a), .val (.int (Int32.ofNat xs.length)), .val (.ref b1)] [(.int (own_min (16 : Int32) (Int32.ofNat xs.length))), (.int (0 : Int32)), (.ref b1), (.int (0 : Int32)), (.ref a)])) ?_ st2
  rw [own_minn hl]
  obtain ⟨T3, h3, Lc3, X3, e3, N3, K3, Vr3, st3⟩ := cpA X2 hx hZ hown (hw _ (List.mem_of_getElem? (i := 95) rfl)) (hw _ (List.mem_of_getElem? (i := 98) rfl)) (hw _ (List.mem_of_getElem? (i := 96) rfl)) (hw _ (List.mem_of_getElem? (i := 97) rfl)) eh2 Kx Vx (Or.inl ⟨rfl, rfl⟩) (by decide) (by decide) (own_nn (by omega)) (by rw [hcl]; show 0 + xs.length ≤ 16; omega) (by rw [hcl]; exact Nat.le_of_eq (Nat.zero_add _)) rfl (by rw [hcl]; show 0 + xs.length ≤ _; simp) N2 g_b1 (g := (mkF m 28 #[.val (.ref a), .val (.int (Int32.ofNat xs.length)), .val (.ref b1)] [(.int (Int32.ofNat xs.length)), (.int (0 : Int32)), (.ref b1), (.int (0 : Int32)), (.ref a)])) rfl (by rw [hml]; rfl) rfl (hb hby d17_28) (by decide) (W := 0) (by show 2 * 0 + _ ≤ _; exact Nat.le_of_eq rfl) (by decide)
  have Vf := Vr3
  rw [List.nil_append, (own_cp xs).resolve_right (by omega)] at Vf
  have kp : Keep h0 h3 [] := ((Keep.refl h0 []).ext E1).trans K3 (allS (Or.inr (Nat.le_of_eq gb1.symm)) all0)
  refine Goes.on (T' := T3) (g' := (mkF m 31 #[.val (.ref a), .val (.int (Int32.ofNat xs.length)), .val (.ref b1)] [])) ?_ st3
  refine Goes.on (T' := T3) (g' := (mkF m 32 #[.val (.ref a), .val (.int (Int32.ofNat xs.length)), .val (.ref b1)] [(.ref b1)])) ?_ (fun t_ k_ => XS.aloadN X3.here hx rfl (hb hby d17_31) rfl rfl k_)
  rw [hWd]
  exact Goes.retn X3 (v := some (.ref b1)) (fun fs hr => retA X3 hx Bd.returns rfl rfl (hb hby d17_32) hr) (fun h => by rw [Bd.returns] at h; cases h) Bd.notSynchronized (by decide) (by decide) (by rw [e3]; exact ⟨by rw [gb1], N3, kp, _, gb1 ▸ Vf⟩)
def QMI (Z : State) (a b_ d_ : Addr) (h0 : Heap) (n0 : Nat) (v : Option Value) (h : Heap) (L : List Loc) : Prop := v = none ∧ Fr n0 L ∧ Keep h0 h [a] ∧ Exa Z h a "com/example/covenantry/covenantry/read/Text$Matches" ∧ Fld Z h a "com/example/covenantry/covenantry/read/Text$Matches" "starts" "[I" (.ref b_) ∧ Fld Z h a "com/example/covenantry/covenantry/read/Text$Matches" "ends" "[I" (.ref d_)
set_option maxRecDepth 65536 in
set_option maxHeartbeats 40000000 in
theorem rmMI (l : Launch) (Z : State) (a0 : Array Value) (hw : ∀ d ∈ tables_1, d.before a0 Z = true) (ws : List Jvm.Cond) (a b_ d_ : Addr) (h0 : Heap) (n0 : Nat) (Z0 : n0 ≤ h0.size) (E : Exa Z h0 a "com/example/covenantry/covenantry/read/Text$Matches") (FS : Fld Z h0 a "com/example/covenantry/covenantry/read/Text$Matches" "starts" "[I" .null) (FE : Fld Z h0 a "com/example/covenantry/covenantry/read/Text$Matches" "ends" "[I" .null) (ga : n0 ≤ a) :
    MetFree l (⟨"com/example/covenantry/covenantry/read/Text$Matches", "<init>", "([I[I)V"⟩ : MethodName) (head1 (Jvm.Cond.code (⟨"com/example/covenantry/covenantry/read/Text$Matches", "<init>", "([I[I)V"⟩ : MethodName) prog_71_method_1_code 3 none :: ws) ({ frames := 1, cells := 0, slots := 0, locals := 12 } : Room)) (fun a_ U => a_ = #[(.ref a), (.ref b_), (.ref d_)] ∧ Z.Warmed39 U.vm ∧ U.heap = h0) (fun _ _ _ _ _ => True) (fun _ U o U' => ∃ v L, o = .returned v ∧ QMI Z a b_ d_ h0 n0 v U'.heap L ∧ FrameEnd U o U' L ({ frames := 1, cells := 0, slots := 0, locals := 12 } : Room).cells ({ frames := 1, cells := 0, slots := 0, locals := 12 } : Room).slots) := by
  refine MetFree.of_bodySF (plainFor_of_name pn_2) hisR ?_
  intro p e s m args below meth c s₁ Bd hml0 hP hK
  obtain ⟨rfl, hZ, hh⟩ := hP
  have hx := Bd.exec
  have hby := Bd.bytes
  have hml : c.maxLocals = 3 := hml0
  have hown : s.vm.findClass "com/example/covenantry/covenantry/read/Text$Matches" = some m.cls := findClass_of_methodNamed Bd.named
  have hnm := (name_of_methodNamed Bd.named Bd.method).1
  have X0 : Stand p l e ({ frames := 1, cells := 0, slots := 0, locals := 12 } : Room) s m #[(.ref a), (.ref b_), (.ref d_)] below meth c s₁ [] 0 0 := Stand.of_body Bd
  have e0 : s₁.heap = h0 := by rw [← hh, Bd.state]; rfl
  have N0 := Fr.nil n0
  refine Goes.done ?_
  obtain ⟨W, hWd⟩ : ∃ W : State → Prop, W = EndW s below (QMI Z a b_ d_ h0 n0) ({ frames := 1, cells := 0, slots := 0, locals := 12 } : Room).cells ({ frames := 1, cells := 0, slots := 0, locals := 12 } : Room).slots := ⟨_, rfl⟩
  rw [← hWd]
  have hef : entryFrame m #[(.ref a), (.ref b_), (.ref d_)] 3 = (mkF m 0 #[.val (.ref a), .val (.ref b_), .val (.ref d_)] []) := by first | (simp [entryFrame, mkF, argsToLocals, Value.category]; done) | rfl
  rw [hef]
  refine Goes.on (T' := s₁) (g' := (mkF m 1 #[.val (.ref a), .val (.ref b_), .val (.ref d_)] [(.ref a)])) ?_ (fun t_ k_ => XS.aloadN X0.here hx rfl (hb hby d19_0) rfl rfl k_)
  obtain ⟨T1, X1, e1, st1⟩ := initO X0 hx hZ hown (hw _ (List.mem_of_getElem? (i := 102) rfl)) (hw _ (List.mem_of_getElem? (i := 16) rfl)) (hw _ (List.mem_of_getElem? (i := 17) rfl)) e0 (g := (mkF m 1 #[.val (.ref a), .val (.ref b_), .val (.ref d_)] [(.ref a)])) rfl (by rw [hml]; rfl) rfl (hb hby d19_1) (by decide) (W := 0) (by show 2 * 0 + _ ≤ _; exact Nat.le_of_eq rfl) (by decide)
  refine Goes.on (T' := T1) (g' := (mkF m 4 #[.val (.ref a), .val (.ref b_), .val (.ref d_)] [])) ?_ st1
  refine Goes.on (T' := T1) (g' := (mkF m 5 #[.val (.ref a), .val (.ref b_), .val (.ref d_)] [(.ref a)])) ?_ (fun t_ k_ => XS.aloadN X1.here hx rfl (hb hby d19_4) rfl rfl k_)
  refine Goes.on (T' := T1) (g' := (mkF m 6 #[.val (.ref a), .val (.ref b_), .val (.ref d_)] [(.ref b_), (.ref a)])) ?_ (fun t_ k_ => XS.aloadN X1.here hx rfl (hb hby d19_5) rfl rfl k_)
  obtain ⟨T2, h2, X2, e2, W2, st2⟩ := putF X1 hx hZ hown (host := "") (Or.inl (hw _ (List.mem_of_getElem? (i := 103) rfl))) Via.refl e1 FS E (Or.inr ⟨(hw _ (List.mem_of_getElem? (i := 104) rfl)), rfl, hnm⟩) (hw _ (List.mem_of_getElem? (i := 86) rfl)) (ty := (.array .int)) (by decide) rfl rfl (g := (mkF m 6 #[.val (.ref a), .val (.ref b_), .val (.ref d_)] [(.ref b_), (.ref a)])) rfl rfl (hb hby d19_6)
  have N2 := Fr.snoc X2 N0 ga
  have Z2 : n0 ≤ h2.size := Nat.le_trans Z0 (Nat.le_of_eq W2.size.symm)
  refine Goes.on (T' := T2) (g' := (mkF m 9 #[.val (.ref a), .val (.ref b_), .val (.ref d_)] [])) ?_ st2
  have fx3 := FS.same W2
  have fx4 := FE.other W2 (Or.inr (slot_ne (Or.inr (hw _ (List.mem_of_getElem? (i := 106) rfl))) (Or.inr (hw _ (List.mem_of_getElem? (i := 104) rfl))) (by decide) (t := (.array .int)) (t' := (.array .int)) (by decide) (by decide)))
  have fx5 := E.wr W2
  refine Goes.on (T' := T2) (g' := (mkF m 10 #[.val (.ref a), .val (.ref b_), .val (.ref d_)] [(.ref a)])) ?_ (fun t_ k_ => XS.aloadN X2.here hx rfl (hb hby d19_9) rfl rfl k_)
  refine Goes.on (T' := T2) (g' := (mkF m 11 #[.val (.ref a), .val (.ref b_), .val (.ref d_)] [(.ref d_), (.ref a)])) ?_ (fun t_ k_ => XS.aloadN X2.here hx rfl (hb hby d19_10) rfl rfl k_)
  obtain ⟨T6, h6, X6, e6, W6, st6⟩ := putF X2 hx hZ hown (host := "") (Or.inl (hw _ (List.mem_of_getElem? (i := 105) rfl))) Via.refl e2 fx4 fx5 (Or.inr ⟨(hw _ (List.mem_of_getElem? (i := 106) rfl)), rfl, hnm⟩) (hw _ (List.mem_of_getElem? (i := 86) rfl)) (ty := (.array .int)) (by decide) rfl rfl (g := (mkF m 11 #[.val (.ref a), .val (.ref b_), .val (.ref d_)] [(.ref d_), (.ref a)])) rfl rfl (hb hby d19_11)
  have N6 := Fr.snoc X6 N2 ga
  have Z6 : n0 ≤ h6.size := Nat.le_trans Z2 (Nat.le_of_eq W6.size.symm)
  refine Goes.on (T' := T6) (g' := (mkF m 14 #[.val (.ref a), .val (.ref b_), .val (.ref d_)] [])) ?_ st6
  have fx7 := fx3.other W6 (Or.inr (slot_ne (Or.inr (hw _ (List.mem_of_getElem? (i := 104) rfl))) (Or.inr (hw _ (List.mem_of_getElem? (i := 106) rfl))) (by decide) (t := (.array .int)) (t' := (.array .int)) (by decide) (by decide)))
  have fx8 := fx4.same W6
  have fx9 := fx5.wr W6
  rw [hWd]
  exact Goes.retn X6 (v := none) (fun fs hr => X6.returnOut hx Bd.returns (hb hby d19_14) hr) (fun _ => rfl) Bd.notSynchronized (by decide) (by decide) (by rw [e6]; exact ⟨rfl, N6, (((Keep.refl h0 [a]).wr W2 (Or.inl (List.mem_cons_self ..))).wr W6 (Or.inl (List.mem_cons_self ..))), fx9, fx7, fx8⟩)
def QFM (Z : State) (ss es : List Int32) (h0 : Heap) (n0 : Nat) (v : Option Value) (h : Heap) (L : List Loc) : Prop := ∃ mt sa ea ks ke, v = some (.ref mt) ∧ Fr n0 L ∧ Keep h0 h [] ∧ Exa Z h mt "com/example/covenantry/covenantry/read/Text$Matches" ∧ Fld Z h mt "com/example/covenantry/covenantry/read/Text$Matches" "starts" "[I" (.ref sa) ∧ Fld Z h mt "com/example/covenantry/covenantry/read/Text$Matches" "ends" "[I" (.ref ea) ∧ Arv Z h sa ks .int (Int32.ofNat ss.length) (ss.map Value.int) (.int 0) ∧ Arv Z h ea ke .int (Int32.ofNat es.length) (es.map Value.int) (.int 0)
set_option maxRecDepth 65536 in
set_option maxHeartbeats 40000000 in
theorem rmFM (l : Launch) (Z : State) (a0 : Array Value) (hw : ∀ d ∈ tables_1, d.before a0 Z = true) (ws : List Jvm.Cond) (fo sa ea : Addr) (ks ke : ClassId) (ss es : List Int32) (h0 : Heap) (n0 : Nat) (Z0 : n0 ≤ h0.size) (FA : FoA Z h0 n0 fo sa ea ks ke ss es) (hl : ss.length < 16) :
    MetFree l (⟨"com/example/covenantry/covenantry/read/Text$Matches$Found", "matches", "()Lcom/example/covenantry/covenantry/read/Text$Matches;"⟩ : MethodName) (head1 (Jvm.Cond.code (⟨"com/example/covenantry/covenantry/read/Text$Matches$Found", "matches", "()Lcom/example/covenantry/covenantry/read/Text$Matches;"⟩ : MethodName) prog_72_method_3_code 1 (some (.object "com/example/covenantry/covenantry/read/Text$Matches")) :: ws) ({ frames := 2, cells := 3, slots := 34, locals := 60 } : Room)) (fun a_ U => a_ = #[(.ref fo)] ∧ Z.Warmed39 U.vm ∧ U.heap = h0) (fun _ _ _ _ _ => True) (fun _ U o U' => ∃ v L, o = .returned v ∧ QFM Z ss es h0 n0 v U'.heap L ∧ FrameEnd U o U' L ({ frames := 2, cells := 3, slots := 34, locals := 60 } : Room).cells ({ frames := 2, cells := 3, slots := 34, locals := 60 } : Room).slots) := by
  refine MetFree.of_bodySF (plainFor_of_name pn_3) hisR ?_
  intro p e s m args below meth c s₁ Bd hml0 hP hK
  obtain ⟨rfl, hZ, hh⟩ := hP
  have hx := Bd.exec
  have hby := Bd.bytes
  have hml : c.maxLocals = 1 := hml0
  have hown : s.vm.findClass "com/example/covenantry/covenantry/read/Text$Matches$Found" = some m.cls := findClass_of_methodNamed Bd.named
  have hnm := (name_of_methodNamed Bd.named Bd.method).1
  have X0 : Stand p l e ({ frames := 2, cells := 3, slots := 34, locals := 60 } : Room) s m #[(.ref fo)] below meth c s₁ [] 0 0 := Stand.of_body Bd
  have e0 : s₁.heap = h0 := by rw [← hh, Bd.state]; rfl
  have N0 := Fr.nil n0
  refine Goes.done ?_
  obtain ⟨W, hWd⟩ : ∃ W : State → Prop, W = EndW s below (QFM Z ss es h0 n0) ({ frames := 2, cells := 3, slots := 34, locals := 60 } : Room).cells ({ frames := 2, cells := 3, slots := 34, locals := 60 } : Room).slots := ⟨_, rfl⟩
  rw [← hWd]
  have hef : entryFrame m #[(.ref fo)] 1 = (mkF m 0 #[.val (.ref fo)] []) := by first | (simp [entryFrame, mkF, argsToLocals, Value.category]; done) | rfl
  rw [hef]
  obtain ⟨E, FS, FE, FC, VS, VE, hne, gf, gs, ge, hse⟩ := FA
  obtain ⟨T1, h1, X1, e1, E1, A1, D1, -, st1⟩ := newO X0 hx hZ hown (hw _ (List.mem_of_getElem? (i := 85) rfl)) (hw _ (List.mem_of_getElem? (i := 86) rfl)) (hw _ (List.mem_of_getElem? (i := 37) rfl)) e0 (g := (mkF m 0 #[.val (.ref fo)] [])) rfl (hb hby d16_0) (by decide) (by decide)
  obtain ⟨b1, gb1⟩ : ∃ z, z = h0.size := ⟨_, rfl⟩
  rw [← gb1] at A1 D1 st1
  have Z1 : n0 ≤ h1.size := Nat.le_trans Z0 E1.1
  have g_b1 : n0 ≤ b1 := Nat.le_trans Z0 (Nat.le_of_eq gb1.symm)
  refine Goes.on (T' := T1) (g' := (mkF m 3 #[.val (.ref fo)] [(.ref b1)])) ?_ st1
  have fx2 := FS.ext E1
  have fx3 := FE.ext E1
  have fx4 := FC.ext E1
  have fx5 := E.ext E1
  have fx6 := VS.ext E1
  have fx7 := VE.ext E1
  have F1_starts : Fld Z h1 b1 "com/example/covenantry/covenantry/read/Text$Matches" "starts" "[I" .null := D1 (Or.inr (hw _ (List.mem_of_getElem? (i := 104) rfl))) (ty := (.array .int)) (by decide)
  have F1_ends : Fld Z h1 b1 "com/example/covenantry/covenantry/read/Text$Matches" "ends" "[I" .null := D1 (Or.inr (hw _ (List.mem_of_getElem? (i := 106) rfl))) (ty := (.array .int)) (by decide)
  have kp0 : Keep h0 h1 [] := (Keep.refl h0 []).ext E1
  refine Goes.on (T' := T1) (g' := (mkF m 4 #[.val (.ref fo)] [(.ref b1), (.ref b1)])) ?_ (fun t_ k_ => XS.dup X1.here hx rfl (hb hby d16_3) rfl rfl k_)
  refine Goes.on (T' := T1) (g' := (mkF m 5 #[.val (.ref fo)] [(.ref fo), (.ref b1), (.ref b1)])) ?_ (fun t_ k_ => XS.aloadN X1.here hx rfl (hb hby d16_4) rfl rfl k_)
  obtain ⟨T8, X8, e8, st8⟩ := getF X1 hx hZ hown (host := "") (Or.inl (hw _ (List.mem_of_getElem? (i := 47) rfl))) Via.refl e1 fx2 (g := (mkF m 5 #[.val (.ref fo)] [(.ref fo), (.ref b1), (.ref b1)])) rfl rfl (hb hby d16_5)
  refine Goes.on (T' := T8) (g' := (mkF m 8 #[.val (.ref fo)] [(.ref sa), (.ref b1), (.ref b1)])) ?_ st8
  refine Goes.on (T' := T8) (g' := (mkF m 9 #[.val (.ref fo)] [(.ref fo), (.ref sa), (.ref b1), (.ref b1)])) ?_ (fun t_ k_ => XS.aloadN X8.here hx rfl (hb hby d16_8) rfl rfl k_)
  obtain ⟨T9, X9, e9, st9⟩ := getF X8 hx hZ hown (host := "") (Or.inl (hw _ (List.mem_of_getElem? (i := 78) rfl))) Via.refl e8 fx4 (g := (mkF m 9 #[.val (.ref fo)] [(.ref fo), (.ref sa), (.ref b1), (.ref b1)])) rfl rfl (hb hby d16_9)
  refine Goes.on (T' := T9) (g' := (mkF m 12 #[.val (.ref fo)] [(.int (Int32.ofNat ss.length)), (.ref sa), (.ref b1), (.ref b1)])) ?_ st9
  obtain ⟨_, _, ⟨T10, Lq_10, kq_10, nq_10⟩, -, X10, ⟨Lc10, hQ10, l10, y10, z10⟩, st10⟩ := Jvm.LawKit.callS X9 hx (y := (⟨"java/util/Arrays", "copyOf", "([II)[I"⟩ : MethodName)) hown (mvT hZ (hw _ (List.mem_of_getElem? (i := 87) rfl))) (mvT hZ (hw _ (List.mem_of_getElem? (i := 88) rfl))) (mvT hZ (hw _ (List.mem_of_getElem? (i := 89) rfl))) (mvT hZ (hw _ (List.mem_of_getElem? (i := 90) rfl))) (by decide) (backOf (W := 2) (rmCO l Z a0 hw [] sa ks ss h1 n0 Z1 fx6 (by omega)) hZ (hw _ (List.mem_of_getElem? (i := 90) rfl)) (hw _ (List.mem_of_getElem? (i := 89) rfl)) (by decide) (by decide)) (g := (mkF m 12 #[.val (.ref fo)] [(.int (Int32.ofNat ss.length)), (.ref sa), (.ref b1), (.ref b1)])) rfl (by rw [hml]; rfl) (argsL := [(.ref sa), (.int (Int32.ofNat ss.length))]) (rest := [(.ref b1), (.ref b1)]) (lenOf pd_3 rfl) rfl (by show 2 * 0 + _ ≤ _; exact Nat.le_of_eq rfl) (hb hby d16_12) (fun _ _ => ⟨rfl, e9, (by decide : 1 + 1 ≤ _), (by decide : 2 + 16 ≤ _)⟩)
  dsimp only [Pt.U, Pt.locs, Pt.cells, Pt.slots] at X10 l10 y10 z10 st10 hQ10
  rw [l10, y10, z10] at X10
  change Stand p l e _ _ m _ below meth c T10 _ 2 18 at X10
  obtain ⟨rfl, N10q, K10, ⟨kc1, Vc1⟩⟩ := hQ10
  have N10 := Fr.app N0 N10q
  refine Goes.on (T' := T10) (g' := (mkF m 15 #[.val (.ref fo)] [(.ref h1.size), (.ref b1), (.ref b1)])) ?_ st10
  have Z10 : n0 ≤ T10.heap.size := Nat.le_trans Z1 K10.1
  have fx11 := fx2.keep K10 nin0
  have fx12 := fx3.keep K10 nin0
  have fx13 := fx4.keep K10 nin0
  have fx14 := fx5.keep K10
  have fx15 := fx6.keep K10 nin0
  have fx16 := fx7.keep K10 nin0
  have fx17 := F1_starts.keep K10 nin0
  have fx18 := F1_ends.keep K10 nin0
  have fx19 := A1.keep K10
  have kp10 : Keep h0 T10.heap [] := kp0.trans K10 all0
  refine Goes.on (T' := T10) (g' := (mkF m 16 #[.val (.ref fo)] [(.ref fo), (.ref h1.size), (.ref b1), (.ref b1)])) ?_ (fun t_ k_ => XS.aloadN X10.here hx rfl (hb hby d16_15) rfl rfl k_)
  obtain ⟨T20, X20, e20, st20⟩ := getF X10 hx hZ hown (host := "") (Or.inl (hw _ (List.mem_of_getElem? (i := 49) rfl))) Via.refl rfl fx12 (g := (mkF m 16 #[.val (.ref fo)] [(.ref fo), (.ref h1.size), (.ref b1), (.ref b1)])) rfl rfl (hb hby d16_16)
  refine Goes.on (T' := T20) (g' := (mkF m 19 #[.val (.ref fo)] [(.ref ea), (.ref h1.size), (.ref b1), (.ref b1)])) ?_ st20
  refine Goes.on (T' := T20) (g' := (mkF m 20 #[.val (.ref fo)] [(.ref fo), (.ref ea), (.ref h1.size), (.ref b1), (.ref b1)])) ?_ (fun t_ k_ => XS.aloadN X20.here hx rfl (hb hby d16_19) rfl rfl k_)
  obtain ⟨T21, X21, e21, st21⟩ := getF X20 hx hZ hown (host := "") (Or.inl (hw _ (List.mem_of_getElem? (i := 78) rfl))) Via.refl e20 fx13 (g := (mkF m 20 #[.val (.ref fo)] [(.ref fo), (.ref ea), (.ref h1.size), (.ref b1), (.ref b1)])) rfl rfl (hb hby d16_20)
  refine Goes.on (T' := T21) (g' := (mkF m 23 #[.val (.ref fo)] [(.int (Int32.ofNat ss.length)), (.ref ea), (.ref h1.size), (.ref b1), (.ref b1)])) ?_ st21
  rw [← hse]
  obtain ⟨_, _, ⟨T22, Lq_22, kq_22, nq_22⟩, -, X22, ⟨Lc22, hQ22, l22, y22, z22⟩, st22⟩ := Jvm.LawKit.callS X21 hx (y := (⟨"java/util/Arrays", "copyOf", "([II)[I"⟩ : MethodName)) hown (mvT hZ (hw _ (List.mem_of_getElem? (i := 87) rfl))) (mvT hZ (hw _ (List.mem_of_getElem? (i := 88) rfl))) (mvT hZ (hw _ (List.mem_of_getElem? (i := 89) rfl))) (mvT hZ (hw _ (List.mem_of_getElem? (i := 90) rfl))) (by decide) (backOf (W := 3) (rmCO l Z a0 hw [] ea ke es T10.heap n0 Z10 fx16 (by omega)) hZ (hw _ (List.mem_of_getElem? (i := 90) rfl)) (hw _ (List.mem_of_getElem? (i := 89) rfl)) (by decide) (by decide)) (g := (mkF m 23 #[.val (.ref fo)] [(.int (Int32.ofNat es.length)), (.ref ea), (.ref h1.size), (.ref b1), (.ref b1)])) rfl (by rw [hml]; rfl) (argsL := [(.ref ea), (.int (Int32.ofNat es.length))]) (rest := [(.ref h1.size), (.ref b1), (.ref b1)]) (lenOf pd_3 rfl) rfl (by show 2 * 0 + _ ≤ _; exact Nat.le_of_eq rfl) (hb hby d16_23) (fun _ _ => ⟨rfl, e21, (by decide : 2 + 1 ≤ _), (by decide : 18 + 16 ≤ _)⟩)
  dsimp only [Pt.U, Pt.locs, Pt.cells, Pt.slots] at X22 l22 y22 z22 st22 hQ22
  rw [l22, y22, z22] at X22
  change Stand p l e _ _ m _ below meth c T22 _ 3 34 at X22
  obtain ⟨rfl, N22q, K22, ⟨kc2, Vc2⟩⟩ := hQ22
  have N22 := Fr.app N10 N22q
  refine Goes.on (T' := T22) (g' := (mkF m 26 #[.val (.ref fo)] [(.ref T10.heap.size), (.ref h1.size), (.ref b1), (.ref b1)])) ?_ st22
  have Z22 : n0 ≤ T22.heap.size := Nat.le_trans Z10 K22.1
  have fx23 := fx11.keep K22 nin0
  have fx24 := fx12.keep K22 nin0
  have fx25 := fx13.keep K22 nin0
  have fx26 := fx14.keep K22
  have fx27 := fx15.keep K22 nin0
  have fx28 := fx16.keep K22 nin0
  have fx29 := fx17.keep K22 nin0
  have fx30 := fx18.keep K22 nin0
  have fx31 := fx19.keep K22
  have fx32 := Vc1.keep K22 nin0
  have kp22 : Keep h0 T22.heap [] := kp10.trans K22 all0
  obtain ⟨_, _, ⟨T33, Lq_33, kq_33, nq_33⟩, -, X33, ⟨Lc33, hQ33, l33, y33, z33⟩, st33⟩ := X22.specialBackNest hx (y := (⟨"com/example/covenantry/covenantry/read/Text$Matches", "<init>", "([I[I)V"⟩ : MethodName)) rfl hown (mvMN hZ (hw _ (List.mem_of_getElem? (i := 99) rfl))) (mvT hZ (hw _ (List.mem_of_getElem? (i := 100) rfl))) (mvT hZ (hw _ (List.mem_of_getElem? (i := 101) rfl))) (by decide) (backOf (W := 1) (rmMI l Z a0 hw [] b1 h1.size T10.heap.size T22.heap n0 Z22 fx31 fx29 fx30 g_b1) hZ (hw _ (List.mem_of_getElem? (i := 101) rfl)) (hw _ (List.mem_of_getElem? (i := 37) rfl)) (by decide) (by decide)) (g := (mkF m 26 #[.val (.ref fo)] [(.ref T10.heap.size), (.ref h1.size), (.ref b1), (.ref b1)])) rfl (by rw [hml]; rfl) (Steps.refl _) (a := b1) (argsL := [(.ref h1.size), (.ref T10.heap.size)]) (rest := [(.ref b1)]) (lenOf pd_4 rfl) rfl (by show 2 * 0 + _ ≤ _; exact Nat.le_of_eq rfl) (hb hby d16_26) (fun _ _ => ⟨rfl, rfl, (by decide : 3 + 0 ≤ _), (by decide : 34 + 0 ≤ _)⟩)
  dsimp only [Pt.U, Pt.locs, Pt.cells, Pt.slots] at X33 l33 y33 z33 st33 hQ33
  rw [l33, y33, z33] at X33
  change Stand p l e _ _ m _ below meth c T33 _ 3 34 at X33
  obtain ⟨rfl, N33q, K33, Em, Fs, Fe⟩ := hQ33
  have N33 := Fr.app N22 N33q
  refine Goes.on (T' := T33) (g' := (mkF m 29 #[.val (.ref fo)] [(.ref b1)])) ?_ (fun t => st33.trans)
  have fx34 := fx26.keep K33
  have fx35 := fx31.keep K33
  have fx36 := fx32.keep K33 (ninS (Ne.symm (Exa.neArv fx31 fx32 (hw _ (List.mem_of_getElem? (i := 86) rfl)))) nin0)
  have fx37 := Vc2.keep K33 (ninS (Ne.symm (Exa.neArv fx31 Vc2 (hw _ (List.mem_of_getElem? (i := 86) rfl)))) nin0)
  have kpf : Keep h0 T33.heap [] := kp22.trans K33 (allS (Or.inr (Nat.le_of_eq gb1.symm)) all0)
  rw [hWd]
  exact Goes.retn X33 (v := some (.ref b1)) (fun fs hr => retA X33 hx Bd.returns rfl rfl (hb hby d16_29) hr) (fun h => by rw [Bd.returns] at h; cases h) Bd.notSynchronized (by decide) (by decide) ⟨b1, _, _, _, _, rfl, N33, kpf, Em, Fs, Fe, fx36, fx37⟩
def QBR (Z : State) (S_ E_ : List Int32) (h0 : Heap) (n0 : Nat) (v : Option Value) (h : Heap) (L : List Loc) : Prop := ∃ mt sa ea ks ke, v = some (.ref mt) ∧ Fr n0 L ∧ Keep h0 h [] ∧ Exa Z h mt "com/example/covenantry/covenantry/read/Text$Matches" ∧ Fld Z h mt "com/example/covenantry/covenantry/read/Text$Matches" "starts" "[I" (.ref sa) ∧ Fld Z h mt "com/example/covenantry/covenantry/read/Text$Matches" "ends" "[I" (.ref ea) ∧ Arv Z h sa ks .int (Int32.ofNat S_.length) (S_.map Value.int) (.int 0) ∧ Arv Z h ea ke .int (Int32.ofNat E_.length) (E_.map Value.int) (.int 0) ∧ S_.length ≤ 6 ∧ E_.length = S_.length
set_option maxRecDepth 65536 in
set_option maxHeartbeats 40000000 in
theorem rmBR (l : Launch) (Z : State) (a0 : Array Value) (hw : ∀ d ∈ tables_1, d.before a0 Z = true) (ws : List Jvm.Cond) (x_ tt : Addr) (kb : ClassId) (cs : List Int32) (f t : Nat) (S_ E_ : List Int32) (zc : Int32) (vf : Value) (h0 : Heap) (n0 : Nat) (Z0 : n0 ≤ h0.size) (Es : Exa Z h0 x_ "java/lang/String") (Vs : Fld Z h0 x_ "java/lang/String" "value" "[B" (.ref tt)) (Cs : Fld Z h0 x_ "java/lang/String" "coder" "B" (.int (0 : Int32))) (Ks : Arv Z h0 tt kb .byte (Int32.ofNat 5) ((cs.map fun c => c.toInt8.toInt32).map Value.int) (.int 0)) (hlen : cs.length = 5) (hp : ∀ c ∈ cs, ¬ c < 0 ∧ ¬ (255 : Int32) < c) (hft : f ≤ t) (ht5 : t ≤ 5) (hSE : own_brackets cs f t = (S_, E_)) (X00 : Old Z n0 h0) (O2 : Sta Z Z.heap "java/lang/String" "COMPACT_STRINGS" "Z" (.int zc)) (P5 : ¬ zc = 0) (O4 : Sta Z Z.heap "jdk/internal/util/Preconditions" "SIOOBE_FORMATTER" "Ljava/util/function/BiFunction;" vf) (rG : vf.isRef = true) :
    MetFree l (⟨"com/example/covenantry/covenantry/read/Text$Matches", "brackets", "(Ljava/lang/String;II)Lcom/example/covenantry/covenantry/read/Text$Matches;"⟩ : MethodName) (head1 (Jvm.Cond.code (⟨"com/example/covenantry/covenantry/read/Text$Matches", "brackets", "(Ljava/lang/String;II)Lcom/example/covenantry/covenantry/read/Text$Matches;"⟩ : MethodName) prog_71_method_4_code 8 (some (.object "com/example/covenantry/covenantry/read/Text$Matches")) :: ws) ({ frames := 4, cells := 6, slots := 69, locals := 80 } : Room)) (fun a_ U => a_ = #[(.ref x_), (.int (Int32.ofNat f)), (.int (Int32.ofNat t))] ∧ Z.Warmed39 U.vm ∧ U.heap = h0) (fun _ _ _ _ _ => True) (fun _ U o U' => ∃ v L, o = .returned v ∧ QBR Z S_ E_ h0 n0 v U'.heap L ∧ FrameEnd U o U' L ({ frames := 4, cells := 6, slots := 69, locals := 80 } : Room).cells ({ frames := 4, cells := 6, slots := 69, locals := 80 } : Room).slots) := by
  refine MetFree.of_bodySF (plainFor_of_name pn_2) hisR ?_
  intro p e s m args below meth c s₁ Bd hml0 hP hK
  obtain ⟨rfl, hZ, hh⟩ := hP
  have hx := Bd.exec
  have hby := Bd.bytes
  have hml : c.maxLocals = 8 := hml0
  have hown : s.vm.findClass "com/example/covenantry/covenantry/read/Text$Matches" = some m.cls := findClass_of_methodNamed Bd.named
  have hnm := (name_of_methodNamed Bd.named Bd.method).1
  have X0 : Stand p l e ({ frames := 4, cells := 6, slots := 69, locals := 80 } : Room) s m #[(.ref x_), (.int (Int32.ofNat f)), (.int (Int32.ofNat t))] below meth c s₁ [] 0 0 := Stand.of_body Bd
  have e0 : s₁.heap = h0 := by rw [← hh, Bd.state]; rfl
  have N0 := Fr.nil n0
  refine Goes.done ?_
  obtain ⟨W, hWd⟩ : ∃ W : State → Prop, W = EndW s below (QBR Z S_ E_ h0 n0) ({ frames := 4, cells := 6, slots := 69, locals := 80 } : Room).cells ({ frames := 4, cells := 6, slots := 69, locals := 80 } : Room).slots := ⟨_, rfl⟩
  rw [← hWd]
  have hef : entryFrame m #[(.ref x_), (.int (Int32.ofNat f)), (.int (Int32.ofNat t))] 8 = (mkF m 0 #[.val (.ref x_), .val (.int (Int32.ofNat f)), .val (.int (Int32.ofNat t)), .unset, .unset, .unset, .unset, .unset] []) := by first | (simp [entryFrame, mkF, argsToLocals, Value.category]; done) | rfl
  rw [hef]
  have hch : ∀ d ∈ StrChars.Road.wordsChN, d.before a0 Z = true := fun d hd => hw d ((by decide +kernel : ∀ d ∈ StrChars.Road.wordsChN, d ∈ tables_1) d hd)
  have hcd : StrChars.Road.CodA cs 0 (Int32.ofNat 5) ((cs.map fun c => c.toInt8.toInt32).map Value.int) := StrChars.Road.codOf hlen (fun c hc => (hp c hc).2)
  have hbd := up cs hp
  obtain ⟨T1, h1, X1, e1, E1, A1, D1, -, st1⟩ := newO X0 hx hZ hown (hw _ (List.mem_of_getElem? (i := 39) rfl)) (hw _ (List.mem_of_getElem? (i := 40) rfl)) (hw _ (List.mem_of_getElem? (i := 41) rfl)) e0 (g := (mkF m 0 #[.val (.ref x_), .val (.int (Int32.ofNat f)), .val (.int (Int32.ofNat t)), .unset, .unset, .unset, .unset, .unset] [])) rfl (hb hby d8_0) (by decide) (by decide)
  obtain ⟨b1, gb1⟩ : ∃ z, z = h0.size := ⟨_, rfl⟩
  rw [← gb1] at A1 D1 st1
  have Z1 : n0 ≤ h1.size := Nat.le_trans Z0 E1.1
  have g_b1 : n0 ≤ b1 := Nat.le_trans Z0 (Nat.le_of_eq gb1.symm)
  refine Goes.on (T' := T1) (g' := (mkF m 3 #[.val (.ref x_), .val (.int (Int32.ofNat f)), .val (.int (Int32.ofNat t)), .unset, .unset, .unset, .unset, .unset] [(.ref b1)])) ?_ st1
  have F1_starts : Fld Z h1 b1 "com/example/covenantry/covenantry/read/Text$Matches$Found" "starts" "[I" .null := D1 (Or.inl (hw _ (List.mem_of_getElem? (i := 48) rfl))) (ty := (.array .int)) (by decide)
  have F1_ends : Fld Z h1 b1 "com/example/covenantry/covenantry/read/Text$Matches$Found" "ends" "[I" .null := D1 (Or.inl (hw _ (List.mem_of_getElem? (i := 50) rfl))) (ty := (.array .int)) (by decide)
  have F1_count : Fld Z h1 b1 "com/example/covenantry/covenantry/read/Text$Matches$Found" "count" "I" (.int (0 : Int32)) := D1 (Or.inl (hw _ (List.mem_of_getElem? (i := 79) rfl))) (ty := .int) (by decide)
  refine Goes.on (T' := T1) (g' := (mkF m 4 #[.val (.ref x_), .val (.int (Int32.ofNat f)), .val (.int (Int32.ofNat t)), .unset, .unset, .unset, .unset, .unset] [(.ref b1), (.ref b1)])) ?_ (fun t_ k_ => XS.dup X1.here hx rfl (hb hby d8_3) rfl rfl k_)
  obtain ⟨_, _, ⟨T2, Lq_2, kq_2, nq_2⟩, -, X2, ⟨Lc2, hQ2, l2, y2, z2⟩, st2⟩ := X1.specialBackNest hx (y := (⟨"com/example/covenantry/covenantry/read/Text$Matches$Found", "<init>", "()V"⟩ : MethodName)) rfl hown (mvMN hZ (hw _ (List.mem_of_getElem? (i := 42) rfl))) (mvT hZ (hw _ (List.mem_of_getElem? (i := 43) rfl))) (mvT hZ (hw _ (List.mem_of_getElem? (i := 44) rfl))) (by decide) (backOf (W := 1) (rmFI l Z a0 hw [] b1 h1 n0 Z1 A1 F1_starts F1_ends F1_count g_b1) hZ (hw _ (List.mem_of_getElem? (i := 44) rfl)) (hw _ (List.mem_of_getElem? (i := 41) rfl)) (by decide) (by decide)) (g := (mkF m 4 #[.val (.ref x_), .val (.int (Int32.ofNat f)), .val (.int (Int32.ofNat t)), .unset, .unset, .unset, .unset, .unset] [(.ref b1), (.ref b1)])) rfl (by rw [hml]; rfl) (Steps.refl _) (a := b1) (argsL := []) (rest := [(.ref b1)]) (lenOf pd_5 rfl) rfl (by show 2 * 0 + _ ≤ _; exact Nat.le_of_eq rfl) (hb hby d8_4) (fun _ _ => ⟨rfl, e1, (by decide : 1 + 2 ≤ _), (by decide : 3 + 32 ≤ _)⟩)
  dsimp only [Pt.U, Pt.locs, Pt.cells, Pt.slots] at X2 l2 y2 z2 st2 hQ2
  rw [l2, y2, z2] at X2
  change Stand p l e _ _ m _ below meth c T2 _ 3 35 at X2
  obtain ⟨rfl, N2q, K2, ⟨sa, ea, ks, ke, zs, ze, FA⟩⟩ := hQ2
  have N2 := Fr.app N0 N2q
  refine Goes.on (T' := T2) (g' := (mkF m 7 #[.val (.ref x_), .val (.int (Int32.ofNat f)), .val (.int (Int32.ofNat t)), .unset, .unset, .unset, .unset, .unset] [(.ref b1)])) ?_ (fun t => st2.trans)
  have ZI : n0 ≤ T2.heap.size := Nat.le_trans Z1 K2.1
  have kI : Keep h0 T2.heap [] := ((Keep.refl h0 []).ext E1).trans K2 (allS (Or.inr (Nat.le_of_eq gb1.symm)) all0)
  obtain ⟨fo, hfo⟩ : ∃ z, z = b1 := ⟨_, rfl⟩
  rw [← hfo] at FA gb1 ⊢
  obtain ⟨hI, ehI⟩ : ∃ z, z = T2.heap := ⟨_, rfl⟩
  rw [← ehI] at FA ZI kI
  have szf : h0.size ≤ fo := Nat.le_of_eq gb1.symm
  have szs : h0.size ≤ sa := Nat.le_trans E1.1 zs
  have sze : h0.size ≤ ea := Nat.le_trans E1.1 ze
  have EsI := Es.keep kI
  have VsI := Vs.keep kI nin0
  have CsI := Cs.keep kI nin0
  have KsI := Ks.keep kI nin0
  have XI : Old Z n0 hI := X00.keep kI all0
  have nx : x_ ∉ [fo, sa, ea] := ninS (Nat.ne_of_lt (Nat.lt_of_lt_of_le Es.lt szf)) (ninS (Nat.ne_of_lt (Nat.lt_of_lt_of_le Es.lt szs)) (ninS (Nat.ne_of_lt (Nat.lt_of_lt_of_le Es.lt sze)) nin0))
  have nt : tt ∉ [fo, sa, ea] := ninS (Nat.ne_of_lt (Nat.lt_of_lt_of_le Ks.lt szf)) (ninS (Nat.ne_of_lt (Nat.lt_of_lt_of_le Ks.lt szs)) (ninS (Nat.ne_of_lt (Nat.lt_of_lt_of_le Ks.lt sze)) nin0))
  have allge : ∀ y ∈ [fo, sa, ea], n0 ≤ y := allS FA.2.2.2.2.2.2.2.1 (allS FA.2.2.2.2.2.2.2.2.1 (allS FA.2.2.2.2.2.2.2.2.2.1 all0))
  have allsz : ∀ y ∈ [fo, sa, ea], y ∈ ([] : List Addr) ∨ h0.size ≤ y := allS (Or.inr szf) (allS (Or.inr szs) (allS (Or.inr sze) all0))
  obtain ⟨RR, hRR⟩ : ∃ z, z = own_br cs (t - f) f (0 : Int32) (Int32.ofNat f) [] [] := ⟨_, rfl⟩
  have K17 : ∀ (k i : Nat) (dp op : Int32) (ss es : List Int32) (s7 : Slot) (T : State) (h : Heap) (locs : List Loc), Stand p l e ({ frames := 4, cells := 6, slots := 69, locals := 80 } : Room) s m #[(.ref x_), (.int (Int32.ofNat f)), (.int (Int32.ofNat t))] below meth c T locs 3 35 → T.heap = h → Fr n0 locs → FoA Z h n0 fo sa ea ks ke ss es → Keep hI h [fo, sa, ea] → One s7 → i + k = t → ss.length + k ≤ 5 → own_br cs k i dp op ss es = RR → Goes p e below W T (mkF m 17 #[.val (.ref x_), .val (.int (Int32.ofNat f)), .val (.int (Int32.ofNat t)), .val (.ref fo), .val (.int dp), .val (.int op), .val (.int (Int32.ofNat i)), s7] []) := by
    intro k
    induction k with
    | zero =>
      intro i dp op ss es s7 T h locs X eT N FA KP o7 hi hss hR
      have Zh : n0 ≤ h.size := Nat.le_trans ZI KP.1
      have hge : ¬ (Int32.ofNat i < Int32.ofNat t) := by rw [own_nlt (by omega) (by omega)]; omega
      have hcl : own_close t (dp, op, ss, es) = (S_, E_) := by rw [← hSE]; unfold own_brackets; rw [← hRR, ← hR]; rfl
      refine Goes.on (T' := T) (g' := (mkF m 19 #[.val (.ref x_), .val (.int (Int32.ofNat f)), .val (.int (Int32.ofNat t)), .val (.ref fo), .val (.int dp), .val (.int op), .val (.int (Int32.ofNat i)), s7] [(.int (Int32.ofNat i))])) ?_ (fun t_ k_ => XS.iload X.here hx rfl (hb hby d8_17) rfl k_)
      refine Goes.on (T' := T) (g' := (mkF m 20 #[.val (.ref x_), .val (.int (Int32.ofNat f)), .val (.int (Int32.ofNat t)), .val (.ref fo), .val (.int dp), .val (.int op), .val (.int (Int32.ofNat i)), s7] [(.int (Int32.ofNat t)), (.int (Int32.ofNat i))])) ?_ (fun t_ k_ => XS.iloadN X.here hx rfl (hb hby d8_19) rfl k_)
      refine Goes.on (T' := T) (g' := (mkF m 89 #[.val (.ref x_), .val (.int (Int32.ofNat f)), .val (.int (Int32.ofNat t)), .val (.ref fo), .val (.int dp), .val (.int op), .val (.int (Int32.ofNat i)), s7] [])) ?_ (fun t_ k_ => XS.icmpYes X.here hx rfl (pc0 := 20) (pc' := 89) rfl (hb hby d8_20) rfl (flt hge).2.1 (by decide) (by decide) k_)
      refine Goes.on (T' := T) (g' := (mkF m 91 #[.val (.ref x_), .val (.int (Int32.ofNat f)), .val (.int (Int32.ofNat t)), .val (.ref fo), .val (.int dp), .val (.int op), .val (.int (Int32.ofNat i)), s7] [(.int dp)])) ?_ (fun t_ k_ => XS.iload X.here hx rfl (hb hby d8_89) rfl k_)
      refine Goes.ifN X hx rfl (pc0 := 91) (pc' := 101) rfl (hb hby d8_91) rfl (by decide) (by decide) (P := (0 : Int32) < dp) (ifc_le _ _) (fun hc91 => ?_) (fun hc91 => ?_)
      · show Goes p e below W T (mkF m 101 #[.val (.ref x_), .val (.int (Int32.ofNat f)), .val (.int (Int32.ofNat t)), .val (.ref fo), .val (.int dp), .val (.int op), .val (.int (Int32.ofNat i)), s7] [])
        refine Goes.on (T' := T) (g' := (mkF m 102 #[.val (.ref x_), .val (.int (Int32.ofNat f)), .val (.int (Int32.ofNat t)), .val (.ref fo), .val (.int dp), .val (.int op), .val (.int (Int32.ofNat i)), s7] [(.ref fo)])) ?_ (fun t_ k_ => XS.aloadN X.here hx rfl (hb hby d8_101) rfl rfl k_)
        have hq : (ss, es) = (S_, E_) := by rw [← hcl]; unfold own_close; rw [if_neg hc91]
        obtain ⟨rfl, rfl⟩ := Prod.mk.inj hq
        obtain ⟨cq3, kq3, q3a, q3b, q3c⟩ := isOf hZ eT FA.1
        obtain ⟨_, _, ⟨T3, Lq_3, kq_3, nq_3⟩, -, X3, ⟨Lc3, hQ3, l3, y3, z3⟩, st3⟩ := X.virtualBack hx (y := (⟨"com/example/covenantry/covenantry/read/Text$Matches$Found", "matches", "()Lcom/example/covenantry/covenantry/read/Text$Matches;"⟩ : MethodName)) (z := (⟨"com/example/covenantry/covenantry/read/Text$Matches$Found", "matches", "()Lcom/example/covenantry/covenantry/read/Text$Matches;"⟩ : MethodName)) hown (mvT hZ (hw _ (List.mem_of_getElem? (i := 80) rfl))) (mvT hZ (hw _ (List.mem_of_getElem? (i := 81) rfl))) (notFace_of_selects (args := #[]) (mvT hZ (hw _ (List.mem_of_getElem? (i := 83) rfl)))) (mvT hZ (hw _ (List.mem_of_getElem? (i := 83) rfl))) (mvT hZ (hw _ (List.mem_of_getElem? (i := 82) rfl))) (by decide) (backOf (W := 0) (rmFM l Z a0 hw [] fo sa ea ks ke ss es h n0 Zh FA (by first | omega | (simp; omega))) hZ (hw _ (List.mem_of_getElem? (i := 84) rfl)) (hw _ (List.mem_of_getElem? (i := 41) rfl)) (by decide) (by decide)) q3a q3c (g := (mkF m 102 #[.val (.ref x_), .val (.int (Int32.ofNat f)), .val (.int (Int32.ofNat t)), .val (.ref fo), .val (.int dp), .val (.int op), .val (.int (Int32.ofNat i)), s7] [(.ref fo)])) rfl (by rw [hml]; rfl) (Steps.refl _) (argsL := []) (rest := []) (lenOf pd_6 rfl) rfl (by show 2 * 0 + _ ≤ _; exact Nat.le_of_eq rfl) (hb hby d8_102) (fun _ _ => ⟨rfl, eT, (by decide : 3 + 3 ≤ _), (by decide : 35 + 34 ≤ _)⟩)
        dsimp only [Pt.U, Pt.locs, Pt.cells, Pt.slots] at X3 l3 y3 z3 st3 hQ3
        rw [l3, y3, z3] at X3
        change Stand p l e _ _ m _ below meth c T3 _ 6 69 at X3
        obtain ⟨mt, sa2, ea2, ks2, ke2, rfl, N3q, K3, Em, Fs, Fe, Vm, Ve⟩ := hQ3
        have N3 := Fr.app N N3q
        refine Goes.on (T' := T3) (g' := (mkF m 105 #[.val (.ref x_), .val (.int (Int32.ofNat f)), .val (.int (Int32.ofNat t)), .val (.ref fo), .val (.int dp), .val (.int op), .val (.int (Int32.ofNat i)), s7] [(.ref mt)])) ?_ (fun t => st3.trans)
        have kpf : Keep h0 T3.heap [] := (kI.trans KP allsz).trans K3 all0
        rw [hWd]
        exact Goes.retn X3 (v := some (.ref mt)) (fun fs hr => retA X3 hx Bd.returns rfl rfl (hb hby d8_105) hr) (fun h => by rw [Bd.returns] at h; cases h) Bd.notSynchronized (by decide) (by decide) ⟨mt, sa2, ea2, ks2, ke2, rfl, N3, kpf, Em, Fs, Fe, Vm, Ve, (by first | omega | (simp; omega)), by have := FA.2.2.2.2.2.2.2.2.2.2; exact this⟩
      · show Goes p e below W T (mkF m 94 #[.val (.ref x_), .val (.int (Int32.ofNat f)), .val (.int (Int32.ofNat t)), .val (.ref fo), .val (.int dp), .val (.int op), .val (.int (Int32.ofNat i)), s7] [])
        refine Goes.on (T' := T) (g' := (mkF m 95 #[.val (.ref x_), .val (.int (Int32.ofNat f)), .val (.int (Int32.ofNat t)), .val (.ref fo), .val (.int dp), .val (.int op), .val (.int (Int32.ofNat i)), s7] [(.ref fo)])) ?_ (fun t_ k_ => XS.aloadN X.here hx rfl (hb hby d8_94) rfl rfl k_)
        refine Goes.on (T' := T) (g' := (mkF m 97 #[.val (.ref x_), .val (.int (Int32.ofNat f)), .val (.int (Int32.ofNat t)), .val (.ref fo), .val (.int dp), .val (.int op), .val (.int (Int32.ofNat i)), s7] [(.int op), (.ref fo)])) ?_ (fun t_ k_ => XS.iload X.here hx rfl (hb hby d8_95) rfl k_)
        refine Goes.on (T' := T) (g' := (mkF m 98 #[.val (.ref x_), .val (.int (Int32.ofNat f)), .val (.int (Int32.ofNat t)), .val (.ref fo), .val (.int dp), .val (.int op), .val (.int (Int32.ofNat i)), s7] [(.int (Int32.ofNat t)), (.int op), (.ref fo)])) ?_ (fun t_ k_ => XS.iloadN X.here hx rfl (hb hby d8_97) rfl k_)
        have hq : (ss ++ [op], es ++ [Int32.ofNat t]) = (S_, E_) := by rw [← hcl]; unfold own_close; rw [if_pos hc91]
        obtain ⟨rfl, rfl⟩ := Prod.mk.inj hq
        obtain ⟨cq4, kq4, q4a, q4b, q4c⟩ := isOf hZ eT FA.1
        obtain ⟨_, _, ⟨T4, Lq_4, kq_4, nq_4⟩, -, X4, ⟨Lc4, hQ4, l4, y4, z4⟩, st4⟩ := X.virtualBack hx (y := (⟨"com/example/covenantry/covenantry/read/Text$Matches$Found", "add", "(II)V"⟩ : MethodName)) (z := (⟨"com/example/covenantry/covenantry/read/Text$Matches$Found", "add", "(II)V"⟩ : MethodName)) hown (mvT hZ (hw _ (List.mem_of_getElem? (i := 73) rfl))) (mvT hZ (hw _ (List.mem_of_getElem? (i := 74) rfl))) (notFace_of_selects (args := #[]) (mvT hZ (hw _ (List.mem_of_getElem? (i := 76) rfl)))) (mvT hZ (hw _ (List.mem_of_getElem? (i := 76) rfl))) (mvT hZ (hw _ (List.mem_of_getElem? (i := 75) rfl))) (by decide) (backOf (W := 0) (rmFA l Z a0 hw [] fo sa ea ks ke ss es op (Int32.ofNat t) h n0 Zh FA (by omega)) hZ (hw _ (List.mem_of_getElem? (i := 77) rfl)) (hw _ (List.mem_of_getElem? (i := 41) rfl)) (by decide) (by decide)) q4a q4c (g := (mkF m 98 #[.val (.ref x_), .val (.int (Int32.ofNat f)), .val (.int (Int32.ofNat t)), .val (.ref fo), .val (.int dp), .val (.int op), .val (.int (Int32.ofNat i)), s7] [(.int (Int32.ofNat t)), (.int op), (.ref fo)])) rfl (by rw [hml]; rfl) (Steps.refl _) (argsL := [(.int op), (.int (Int32.ofNat t))]) (rest := []) (lenOf pd_7 rfl) rfl (by show 2 * 0 + _ ≤ _; exact Nat.le_of_eq rfl) (hb hby d8_98) (fun _ _ => ⟨rfl, eT, (by decide : 3 + 0 ≤ _), (by decide : 35 + 0 ≤ _)⟩)
        dsimp only [Pt.U, Pt.locs, Pt.cells, Pt.slots] at X4 l4 y4 z4 st4 hQ4
        rw [l4, y4, z4] at X4
        change Stand p l e _ _ m _ below meth c T4 _ 3 35 at X4
        obtain ⟨rfl, N4q, K4, FB⟩ := hQ4
        have N4 := Fr.app N N4q
        refine Goes.on (T' := T4) (g' := (mkF m 101 #[.val (.ref x_), .val (.int (Int32.ofNat f)), .val (.int (Int32.ofNat t)), .val (.ref fo), .val (.int dp), .val (.int op), .val (.int (Int32.ofNat i)), s7] [])) ?_ (fun t => st4.trans)
        have Zx : n0 ≤ T4.heap.size := Nat.le_trans Zh K4.1
        have KQ := KP.trans K4 (fun y hy => Or.inl hy)
        refine Goes.on (T' := T4) (g' := (mkF m 102 #[.val (.ref x_), .val (.int (Int32.ofNat f)), .val (.int (Int32.ofNat t)), .val (.ref fo), .val (.int dp), .val (.int op), .val (.int (Int32.ofNat i)), s7] [(.ref fo)])) ?_ (fun t_ k_ => XS.aloadN X4.here hx rfl (hb hby d8_101) rfl rfl k_)
        obtain ⟨cq5, kq5, q5a, q5b, q5c⟩ := isOf hZ rfl FB.1
        obtain ⟨_, _, ⟨T5, Lq_5, kq_5, nq_5⟩, -, X5, ⟨Lc5, hQ5, l5, y5, z5⟩, st5⟩ := X4.virtualBack hx (y := (⟨"com/example/covenantry/covenantry/read/Text$Matches$Found", "matches", "()Lcom/example/covenantry/covenantry/read/Text$Matches;"⟩ : MethodName)) (z := (⟨"com/example/covenantry/covenantry/read/Text$Matches$Found", "matches", "()Lcom/example/covenantry/covenantry/read/Text$Matches;"⟩ : MethodName)) hown (mvT hZ (hw _ (List.mem_of_getElem? (i := 80) rfl))) (mvT hZ (hw _ (List.mem_of_getElem? (i := 81) rfl))) (notFace_of_selects (args := #[]) (mvT hZ (hw _ (List.mem_of_getElem? (i := 83) rfl)))) (mvT hZ (hw _ (List.mem_of_getElem? (i := 83) rfl))) (mvT hZ (hw _ (List.mem_of_getElem? (i := 82) rfl))) (by decide) (backOf (W := 0) (rmFM l Z a0 hw [] fo sa ea ks ke (ss ++ [op]) (es ++ [Int32.ofNat t]) T4.heap n0 Zx FB (by first | omega | (simp; omega))) hZ (hw _ (List.mem_of_getElem? (i := 84) rfl)) (hw _ (List.mem_of_getElem? (i := 41) rfl)) (by decide) (by decide)) q5a q5c (g := (mkF m 102 #[.val (.ref x_), .val (.int (Int32.ofNat f)), .val (.int (Int32.ofNat t)), .val (.ref fo), .val (.int dp), .val (.int op), .val (.int (Int32.ofNat i)), s7] [(.ref fo)])) rfl (by rw [hml]; rfl) (Steps.refl _) (argsL := []) (rest := []) (lenOf pd_6 rfl) rfl (by show 2 * 0 + _ ≤ _; exact Nat.le_of_eq rfl) (hb hby d8_102) (fun _ _ => ⟨rfl, rfl, (by decide : 3 + 3 ≤ _), (by decide : 35 + 34 ≤ _)⟩)
        dsimp only [Pt.U, Pt.locs, Pt.cells, Pt.slots] at X5 l5 y5 z5 st5 hQ5
        rw [l5, y5, z5] at X5
        change Stand p l e _ _ m _ below meth c T5 _ 6 69 at X5
        obtain ⟨mt, sa2, ea2, ks2, ke2, rfl, N5q, K5, Em, Fs, Fe, Vm, Ve⟩ := hQ5
        have N5 := Fr.app N4 N5q
        refine Goes.on (T' := T5) (g' := (mkF m 105 #[.val (.ref x_), .val (.int (Int32.ofNat f)), .val (.int (Int32.ofNat t)), .val (.ref fo), .val (.int dp), .val (.int op), .val (.int (Int32.ofNat i)), s7] [(.ref mt)])) ?_ (fun t => st5.trans)
        have kpf : Keep h0 T5.heap [] := (kI.trans KQ allsz).trans K5 all0
        rw [hWd]
        exact Goes.retn X5 (v := some (.ref mt)) (fun fs hr => retA X5 hx Bd.returns rfl rfl (hb hby d8_105) hr) (fun h => by rw [Bd.returns] at h; cases h) Bd.notSynchronized (by decide) (by decide) ⟨mt, sa2, ea2, ks2, ke2, rfl, N5, kpf, Em, Fs, Fe, Vm, Ve, (by first | omega | (simp; omega)), by have := FB.2.2.2.2.2.2.2.2.2.2; exact this⟩
    | succ k ih =>
      intro i dp op ss es s7 T h locs X eT N FA KP o7 hi hss hR
      have Zh : n0 ≤ h.size := Nat.le_trans ZI KP.1
      have hlt : Int32.ofNat i < Int32.ofNat t := by rw [own_nlt (by omega) (by omega)]; omega
      have Xh : Old Z n0 h := XI.keep KP allge
      have Esh := EsI.keep KP
      have Vsh := VsI.keep KP nx
      have Csh := CsI.keep KP nx
      have Ksh := KsI.keep KP nt
      unfold own_br at hR
      refine Goes.on (T' := T) (g' := (mkF m 19 #[.val (.ref x_), .val (.int (Int32.ofNat f)), .val (.int (Int32.ofNat t)), .val (.ref fo), .val (.int dp), .val (.int op), .val (.int (Int32.ofNat i)), s7] [(.int (Int32.ofNat i))])) ?_ (fun t_ k_ => XS.iload X.here hx rfl (hb hby d8_17) rfl k_)
      refine Goes.on (T' := T) (g' := (mkF m 20 #[.val (.ref x_), .val (.int (Int32.ofNat f)), .val (.int (Int32.ofNat t)), .val (.ref fo), .val (.int dp), .val (.int op), .val (.int (Int32.ofNat i)), s7] [(.int (Int32.ofNat t)), (.int (Int32.ofNat i))])) ?_ (fun t_ k_ => XS.iloadN X.here hx rfl (hb hby d8_19) rfl k_)
      refine Goes.on (T' := T) (g' := (mkF m 23 #[.val (.ref x_), .val (.int (Int32.ofNat f)), .val (.int (Int32.ofNat t)), .val (.ref fo), .val (.int dp), .val (.int op), .val (.int (Int32.ofNat i)), s7] [])) ?_ (fun t_ k_ => XS.icmpNo X.here hx rfl (hb hby d8_20) rfl (tlt hlt).2.1 k_)
      refine Goes.on (T' := T) (g' := (mkF m 24 #[.val (.ref x_), .val (.int (Int32.ofNat f)), .val (.int (Int32.ofNat t)), .val (.ref fo), .val (.int dp), .val (.int op), .val (.int (Int32.ofNat i)), s7] [(.ref x_)])) ?_ (fun t_ k_ => XS.aloadN X.here hx rfl (hb hby d8_23) rfl rfl k_)
      refine Goes.on (T' := T) (g' := (mkF m 26 #[.val (.ref x_), .val (.int (Int32.ofNat f)), .val (.int (Int32.ofNat t)), .val (.ref fo), .val (.int dp), .val (.int op), .val (.int (Int32.ofNat i)), s7] [(.int (Int32.ofNat i)), (.ref x_)])) ?_ (fun t_ k_ => XS.iload X.here hx rfl (hb hby d8_24) rfl k_)
      obtain ⟨cq6, kq6, q6a, q6b, q6c⟩ := isOf hZ eT Esh
      obtain ⟨_, _, ⟨T6, Lq_6, kq_6, nq_6⟩, -, X6, ⟨Lc6, hQ6, l6, y6, z6⟩, st6⟩ := X.virtualBack hx (y := (⟨"java/lang/String", "charAt", "(I)C"⟩ : MethodName)) (z := (⟨"java/lang/String", "charAt", "(I)C"⟩ : MethodName)) hown (mvT hZ (hw _ (List.mem_of_getElem? (i := 51) rfl))) (mvT hZ (hw _ (List.mem_of_getElem? (i := 52) rfl))) (notFace_of_selects (args := #[]) (mvT hZ (hw _ (List.mem_of_getElem? (i := 54) rfl)))) (mvT hZ (hw _ (List.mem_of_getElem? (i := 54) rfl))) (mvT hZ (hw _ (List.mem_of_getElem? (i := 53) rfl))) (by decide) (StrChars.Road.chN (W := 0) hZ hch (kI := 4) (hw _ (List.mem_of_getElem? (i := 5) rfl)) Esh Vsh Csh Ksh hcd hbd (O2.ext Xh.2) P5 (O4.ext Xh.2) rG (by omega) (i := i) (by omega) (j := Int32.ofNat i) rfl (by decide) (by decide)) q6a q6c (g := (mkF m 26 #[.val (.ref x_), .val (.int (Int32.ofNat f)), .val (.int (Int32.ofNat t)), .val (.ref fo), .val (.int dp), .val (.int op), .val (.int (Int32.ofNat i)), s7] [(.int (Int32.ofNat i)), (.ref x_)])) rfl (by rw [hml]; rfl) (Steps.refl _) (argsL := [(.int (Int32.ofNat i))]) (rest := []) (lenOf pd_8 rfl) rfl (by show 2 * 0 + _ ≤ _; exact Nat.le_of_eq rfl) (hb hby d8_26) (fun _ _ => ⟨rfl, eT, (by decide : 3 + 0 ≤ _), (by decide : 35 + 0 ≤ _)⟩)
      dsimp only [Pt.U, Pt.locs, Pt.cells, Pt.slots] at X6 l6 y6 z6 st6 hQ6
      rw [l6, y6, z6] at X6
      change Stand p l e _ _ m _ below meth c T6 _ 3 35 at X6
      obtain ⟨rfl, rfl, eh6⟩ := hQ6
      have N6q : Fr n0 ([] : List Loc) := Fr.nil n0
      have N6 := Fr.app N N6q
      refine Goes.on (T' := T6) (g' := (mkF m 29 #[.val (.ref x_), .val (.int (Int32.ofNat f)), .val (.int (Int32.ofNat t)), .val (.ref fo), .val (.int dp), .val (.int op), .val (.int (Int32.ofNat i)), s7] [(.int (cs.getD i 0))])) ?_ (fun t => st6.trans)
      refine Goes.on (T' := T6) (g' := (mkF m 31 #[.val (.ref x_), .val (.int (Int32.ofNat f)), .val (.int (Int32.ofNat t)), .val (.ref fo), .val (.int dp), .val (.int op), .val (.int (Int32.ofNat i)), .val (.int (cs.getD i 0))] [])) ?_ (fun t_ k_ => XS.istore X6.here hx rfl (hb hby d8_29) rfl (l' := #[.val (.ref x_), .val (.int (Int32.ofNat f)), .val (.int (Int32.ofNat t)), .val (.ref fo), .val (.int dp), .val (.int op), .val (.int (Int32.ofNat i)), .val (.int (cs.getD i 0))]) (own_os7b o7) k_)
      refine Goes.on (T' := T6) (g' := (mkF m 33 #[.val (.ref x_), .val (.int (Int32.ofNat f)), .val (.int (Int32.ofNat t)), .val (.ref fo), .val (.int dp), .val (.int op), .val (.int (Int32.ofNat i)), .val (.int (cs.getD i 0))] [(.int (cs.getD i 0))])) ?_ (fun t_ k_ => XS.iload X6.here hx rfl (hb hby d8_31) rfl k_)
      refine Goes.on (T' := T6) (g' := (mkF m 35 #[.val (.ref x_), .val (.int (Int32.ofNat f)), .val (.int (Int32.ofNat t)), .val (.ref fo), .val (.int dp), .val (.int op), .val (.int (Int32.ofNat i)), .val (.int (cs.getD i 0))] [(.int (40 : Int32)), (.int (cs.getD i 0))])) ?_ (fun t_ k_ => XS.bipush X6.here hx rfl (hb hby d8_33) k_)
      refine Goes.icmpN X6 hx rfl (pc0 := 35) (pc' := 53) rfl (hb hby d8_35) rfl (by decide) (by decide) (P := (cs.getD i 0) = (40 : Int32)) (cmp_ne _ _) (fun hc35 => ?_) (fun hc35 => ?_)
      · show Goes p e below W T6 (mkF m 53 #[.val (.ref x_), .val (.int (Int32.ofNat f)), .val (.int (Int32.ofNat t)), .val (.ref fo), .val (.int dp), .val (.int op), .val (.int (Int32.ofNat i)), .val (.int (cs.getD i 0))] [])
        refine Goes.on (T' := T6) (g' := (mkF m 55 #[.val (.ref x_), .val (.int (Int32.ofNat f)), .val (.int (Int32.ofNat t)), .val (.ref fo), .val (.int dp), .val (.int op), .val (.int (Int32.ofNat i)), .val (.int (cs.getD i 0))] [(.int (cs.getD i 0))])) ?_ (fun t_ k_ => XS.iload X6.here hx rfl (hb hby d8_53) rfl k_)
        refine Goes.on (T' := T6) (g' := (mkF m 57 #[.val (.ref x_), .val (.int (Int32.ofNat f)), .val (.int (Int32.ofNat t)), .val (.ref fo), .val (.int dp), .val (.int op), .val (.int (Int32.ofNat i)), .val (.int (cs.getD i 0))] [(.int (41 : Int32)), (.int (cs.getD i 0))])) ?_ (fun t_ k_ => XS.bipush X6.here hx rfl (hb hby d8_55) k_)
        refine Goes.icmpN X6 hx rfl (pc0 := 57) (pc' := 83) rfl (hb hby d8_57) rfl (by decide) (by decide) (P := (cs.getD i 0) = (41 : Int32)) (cmp_ne _ _) (fun hc57 => ?_) (fun hc57 => ?_)
        · show Goes p e below W T6 (mkF m 83 #[.val (.ref x_), .val (.int (Int32.ofNat f)), .val (.int (Int32.ofNat t)), .val (.ref fo), .val (.int dp), .val (.int op), .val (.int (Int32.ofNat i)), .val (.int (cs.getD i 0))] [])
          refine Goes.on (T' := T6) (g' := (mkF m 86 #[.val (.ref x_), .val (.int (Int32.ofNat f)), .val (.int (Int32.ofNat t)), .val (.ref fo), .val (.int dp), .val (.int op), .val (.int ((Int32.ofNat i) + (1 : Int32))), .val (.int (cs.getD i 0))] [])) ?_ (fun t_ k_ => XS.iinc X6.here hx rfl (hb hby d8_83) rfl (l' := #[.val (.ref x_), .val (.int (Int32.ofNat f)), .val (.int (Int32.ofNat t)), .val (.ref fo), .val (.int dp), .val (.int op), .val (.int ((Int32.ofNat i) + (1 : Int32))), .val (.int (cs.getD i 0))]) rfl k_)
          refine Goes.on (T' := T6) (g' := (mkF m 17 #[.val (.ref x_), .val (.int (Int32.ofNat f)), .val (.int (Int32.ofNat t)), .val (.ref fo), .val (.int dp), .val (.int op), .val (.int ((Int32.ofNat i) + (1 : Int32))), .val (.int (cs.getD i 0))] [])) ?_ (fun t_ k_ => XS.goto X6.here hx rfl (pc0 := 86) (pc' := 17) rfl (hb hby d8_86) (by decide) (by decide) k_)
          simp only [eq_false hc35, eq_false hc57, if_true, if_false, ↓reduceIte, not_true_eq_false, not_false_eq_true, true_and, and_true, false_and, and_false, or_true, true_or, or_false, false_or, and_self, or_self] at hR
          rw [own_succ]
          exact ih (i + 1) _ _ _ _ _ _ _ _ X6 eh6 N6 FA KP (own_one _) (by omega) (by first | omega | (simp; omega)) hR
        · show Goes p e below W T6 (mkF m 60 #[.val (.ref x_), .val (.int (Int32.ofNat f)), .val (.int (Int32.ofNat t)), .val (.ref fo), .val (.int dp), .val (.int op), .val (.int (Int32.ofNat i)), .val (.int (cs.getD i 0))] [])
          refine Goes.on (T' := T6) (g' := (mkF m 62 #[.val (.ref x_), .val (.int (Int32.ofNat f)), .val (.int (Int32.ofNat t)), .val (.ref fo), .val (.int dp), .val (.int op), .val (.int (Int32.ofNat i)), .val (.int (cs.getD i 0))] [(.int dp)])) ?_ (fun t_ k_ => XS.iload X6.here hx rfl (hb hby d8_60) rfl k_)
          refine Goes.ifN X6 hx rfl (pc0 := 62) (pc' := 83) rfl (hb hby d8_62) rfl (by decide) (by decide) (P := (0 : Int32) < dp) (ifc_le _ _) (fun hc62 => ?_) (fun hc62 => ?_)
          · show Goes p e below W T6 (mkF m 83 #[.val (.ref x_), .val (.int (Int32.ofNat f)), .val (.int (Int32.ofNat t)), .val (.ref fo), .val (.int dp), .val (.int op), .val (.int (Int32.ofNat i)), .val (.int (cs.getD i 0))] [])
            refine Goes.on (T' := T6) (g' := (mkF m 86 #[.val (.ref x_), .val (.int (Int32.ofNat f)), .val (.int (Int32.ofNat t)), .val (.ref fo), .val (.int dp), .val (.int op), .val (.int ((Int32.ofNat i) + (1 : Int32))), .val (.int (cs.getD i 0))] [])) ?_ (fun t_ k_ => XS.iinc X6.here hx rfl (hb hby d8_83) rfl (l' := #[.val (.ref x_), .val (.int (Int32.ofNat f)), .val (.int (Int32.ofNat t)), .val (.ref fo), .val (.int dp), .val (.int op), .val (.int ((Int32.ofNat i) + (1 : Int32))), .val (.int (cs.getD i 0))]) rfl k_)
            refine Goes.on (T' := T6) (g' := (mkF m 17 #[.val (.ref x_), .val (.int (Int32.ofNat f)), .val (.int (Int32.ofNat t)), .val (.ref fo), .val (.int dp), .val (.int op), .val (.int ((Int32.ofNat i) + (1 : Int32))), .val (.int (cs.getD i 0))] [])) ?_ (fun t_ k_ => XS.goto X6.here hx rfl (pc0 := 86) (pc' := 17) rfl (hb hby d8_86) (by decide) (by decide) k_)
            simp only [eq_false hc35, eq_true hc57, eq_false hc62, if_true, if_false, ↓reduceIte, not_true_eq_false, not_false_eq_true, true_and, and_true, false_and, and_false, or_true, true_or, or_false, false_or, and_self, or_self] at hR
            rw [own_succ]
            exact ih (i + 1) _ _ _ _ _ _ _ _ X6 eh6 N6 FA KP (own_one _) (by omega) (by first | omega | (simp; omega)) hR
          · show Goes p e below W T6 (mkF m 65 #[.val (.ref x_), .val (.int (Int32.ofNat f)), .val (.int (Int32.ofNat t)), .val (.ref fo), .val (.int dp), .val (.int op), .val (.int (Int32.ofNat i)), .val (.int (cs.getD i 0))] [])
            refine Goes.on (T' := T6) (g' := (mkF m 68 #[.val (.ref x_), .val (.int (Int32.ofNat f)), .val (.int (Int32.ofNat t)), .val (.ref fo), .val (.int (dp + (-1 : Int32))), .val (.int op), .val (.int (Int32.ofNat i)), .val (.int (cs.getD i 0))] [])) ?_ (fun t_ k_ => XS.iinc X6.here hx rfl (hb hby d8_65) rfl (l' := #[.val (.ref x_), .val (.int (Int32.ofNat f)), .val (.int (Int32.ofNat t)), .val (.ref fo), .val (.int (dp + (-1 : Int32))), .val (.int op), .val (.int (Int32.ofNat i)), .val (.int (cs.getD i 0))]) rfl k_)
            refine Goes.on (T' := T6) (g' := (mkF m 70 #[.val (.ref x_), .val (.int (Int32.ofNat f)), .val (.int (Int32.ofNat t)), .val (.ref fo), .val (.int (dp + (-1 : Int32))), .val (.int op), .val (.int (Int32.ofNat i)), .val (.int (cs.getD i 0))] [(.int (dp + (-1 : Int32)))])) ?_ (fun t_ k_ => XS.iload X6.here hx rfl (hb hby d8_68) rfl k_)
            refine Goes.ifN X6 hx rfl (pc0 := 70) (pc' := 83) rfl (hb hby d8_70) rfl (by decide) (by decide) (P := (dp + (-1 : Int32)) = (0 : Int32)) (ifc_ne _ _) (fun hc70 => ?_) (fun hc70 => ?_)
            · show Goes p e below W T6 (mkF m 83 #[.val (.ref x_), .val (.int (Int32.ofNat f)), .val (.int (Int32.ofNat t)), .val (.ref fo), .val (.int (dp + (-1 : Int32))), .val (.int op), .val (.int (Int32.ofNat i)), .val (.int (cs.getD i 0))] [])
              refine Goes.on (T' := T6) (g' := (mkF m 86 #[.val (.ref x_), .val (.int (Int32.ofNat f)), .val (.int (Int32.ofNat t)), .val (.ref fo), .val (.int (dp + (-1 : Int32))), .val (.int op), .val (.int ((Int32.ofNat i) + (1 : Int32))), .val (.int (cs.getD i 0))] [])) ?_ (fun t_ k_ => XS.iinc X6.here hx rfl (hb hby d8_83) rfl (l' := #[.val (.ref x_), .val (.int (Int32.ofNat f)), .val (.int (Int32.ofNat t)), .val (.ref fo), .val (.int (dp + (-1 : Int32))), .val (.int op), .val (.int ((Int32.ofNat i) + (1 : Int32))), .val (.int (cs.getD i 0))]) rfl k_)
              refine Goes.on (T' := T6) (g' := (mkF m 17 #[.val (.ref x_), .val (.int (Int32.ofNat f)), .val (.int (Int32.ofNat t)), .val (.ref fo), .val (.int (dp + (-1 : Int32))), .val (.int op), .val (.int ((Int32.ofNat i) + (1 : Int32))), .val (.int (cs.getD i 0))] [])) ?_ (fun t_ k_ => XS.goto X6.here hx rfl (pc0 := 86) (pc' := 17) rfl (hb hby d8_86) (by decide) (by decide) k_)
              simp only [eq_false hc35, eq_true hc57, eq_true hc62, eq_false hc70, if_true, if_false, ↓reduceIte, not_true_eq_false, not_false_eq_true, true_and, and_true, false_and, and_false, or_true, true_or, or_false, false_or, and_self, or_self] at hR
              rw [own_succ]
              exact ih (i + 1) _ _ _ _ _ _ _ _ X6 eh6 N6 FA KP (own_one _) (by omega) (by first | omega | (simp; omega)) hR
            · show Goes p e below W T6 (mkF m 73 #[.val (.ref x_), .val (.int (Int32.ofNat f)), .val (.int (Int32.ofNat t)), .val (.ref fo), .val (.int (dp + (-1 : Int32))), .val (.int op), .val (.int (Int32.ofNat i)), .val (.int (cs.getD i 0))] [])
              refine Goes.on (T' := T6) (g' := (mkF m 74 #[.val (.ref x_), .val (.int (Int32.ofNat f)), .val (.int (Int32.ofNat t)), .val (.ref fo), .val (.int (dp + (-1 : Int32))), .val (.int op), .val (.int (Int32.ofNat i)), .val (.int (cs.getD i 0))] [(.ref fo)])) ?_ (fun t_ k_ => XS.aloadN X6.here hx rfl (hb hby d8_73) rfl rfl k_)
              refine Goes.on (T' := T6) (g' := (mkF m 76 #[.val (.ref x_), .val (.int (Int32.ofNat f)), .val (.int (Int32.ofNat t)), .val (.ref fo), .val (.int (dp + (-1 : Int32))), .val (.int op), .val (.int (Int32.ofNat i)), .val (.int (cs.getD i 0))] [(.int op), (.ref fo)])) ?_ (fun t_ k_ => XS.iload X6.here hx rfl (hb hby d8_74) rfl k_)
              refine Goes.on (T' := T6) (g' := (mkF m 78 #[.val (.ref x_), .val (.int (Int32.ofNat f)), .val (.int (Int32.ofNat t)), .val (.ref fo), .val (.int (dp + (-1 : Int32))), .val (.int op), .val (.int (Int32.ofNat i)), .val (.int (cs.getD i 0))] [(.int (Int32.ofNat i)), (.int op), (.ref fo)])) ?_ (fun t_ k_ => XS.iload X6.here hx rfl (hb hby d8_76) rfl k_)
              refine Goes.on (T' := T6) (g' := (mkF m 79 #[.val (.ref x_), .val (.int (Int32.ofNat f)), .val (.int (Int32.ofNat t)), .val (.ref fo), .val (.int (dp + (-1 : Int32))), .val (.int op), .val (.int (Int32.ofNat i)), .val (.int (cs.getD i 0))] [(.int (1 : Int32)), (.int (Int32.ofNat i)), (.int op), (.ref fo)])) ?_ (fun t_ k_ => XS.iconst X6.here hx rfl (hb hby d8_78) k_)
              refine Goes.on (T' := T6) (g' := (mkF m 80 #[.val (.ref x_), .val (.int (Int32.ofNat f)), .val (.int (Int32.ofNat t)), .val (.ref fo), .val (.int (dp + (-1 : Int32))), .val (.int op), .val (.int (Int32.ofNat i)), .val (.int (cs.getD i 0))] [(.int ((Int32.ofNat i) + (1 : Int32))), (.int op), (.ref fo)])) ?_ (fun t_ k_ => XS.iadd X6.here hx rfl (hb hby d8_79) rfl k_)
              obtain ⟨cq7, kq7, q7a, q7b, q7c⟩ := isOf hZ eh6 FA.1
              obtain ⟨_, _, ⟨T7, Lq_7, kq_7, nq_7⟩, -, X7, ⟨Lc7, hQ7, l7, y7, z7⟩, st7⟩ := X6.virtualBack hx (y := (⟨"com/example/covenantry/covenantry/read/Text$Matches$Found", "add", "(II)V"⟩ : MethodName)) (z := (⟨"com/example/covenantry/covenantry/read/Text$Matches$Found", "add", "(II)V"⟩ : MethodName)) hown (mvT hZ (hw _ (List.mem_of_getElem? (i := 73) rfl))) (mvT hZ (hw _ (List.mem_of_getElem? (i := 74) rfl))) (notFace_of_selects (args := #[]) (mvT hZ (hw _ (List.mem_of_getElem? (i := 76) rfl)))) (mvT hZ (hw _ (List.mem_of_getElem? (i := 76) rfl))) (mvT hZ (hw _ (List.mem_of_getElem? (i := 75) rfl))) (by decide) (backOf (W := 0) (rmFA l Z a0 hw [] fo sa ea ks ke ss es op (Int32.ofNat i + (1 : Int32)) h n0 Zh FA (by omega)) hZ (hw _ (List.mem_of_getElem? (i := 77) rfl)) (hw _ (List.mem_of_getElem? (i := 41) rfl)) (by decide) (by decide)) q7a q7c (g := (mkF m 80 #[.val (.ref x_), .val (.int (Int32.ofNat f)), .val (.int (Int32.ofNat t)), .val (.ref fo), .val (.int (dp + (-1 : Int32))), .val (.int op), .val (.int (Int32.ofNat i)), .val (.int (cs.getD i 0))] [(.int ((Int32.ofNat i) + (1 : Int32))), (.int op), (.ref fo)])) rfl (by rw [hml]; rfl) (Steps.refl _) (argsL := [(.int op), (.int ((Int32.ofNat i) + (1 : Int32)))]) (rest := []) (lenOf pd_7 rfl) rfl (by show 2 * 0 + _ ≤ _; exact Nat.le_of_eq rfl) (hb hby d8_80) (fun _ _ => ⟨rfl, eh6, (by decide : 3 + 0 ≤ _), (by decide : 35 + 0 ≤ _)⟩)
              dsimp only [Pt.U, Pt.locs, Pt.cells, Pt.slots] at X7 l7 y7 z7 st7 hQ7
              rw [l7, y7, z7] at X7
              change Stand p l e _ _ m _ below meth c T7 _ 3 35 at X7
              obtain ⟨rfl, N7q, K7, FB⟩ := hQ7
              have N7 := Fr.app N6 N7q
              refine Goes.on (T' := T7) (g' := (mkF m 83 #[.val (.ref x_), .val (.int (Int32.ofNat f)), .val (.int (Int32.ofNat t)), .val (.ref fo), .val (.int (dp + (-1 : Int32))), .val (.int op), .val (.int (Int32.ofNat i)), .val (.int (cs.getD i 0))] [])) ?_ (fun t => st7.trans)
              have KQ := KP.trans K7 (fun y hy => Or.inl hy)
              refine Goes.on (T' := T7) (g' := (mkF m 86 #[.val (.ref x_), .val (.int (Int32.ofNat f)), .val (.int (Int32.ofNat t)), .val (.ref fo), .val (.int (dp + (-1 : Int32))), .val (.int op), .val (.int ((Int32.ofNat i) + (1 : Int32))), .val (.int (cs.getD i 0))] [])) ?_ (fun t_ k_ => XS.iinc X7.here hx rfl (hb hby d8_83) rfl (l' := #[.val (.ref x_), .val (.int (Int32.ofNat f)), .val (.int (Int32.ofNat t)), .val (.ref fo), .val (.int (dp + (-1 : Int32))), .val (.int op), .val (.int ((Int32.ofNat i) + (1 : Int32))), .val (.int (cs.getD i 0))]) rfl k_)
              refine Goes.on (T' := T7) (g' := (mkF m 17 #[.val (.ref x_), .val (.int (Int32.ofNat f)), .val (.int (Int32.ofNat t)), .val (.ref fo), .val (.int (dp + (-1 : Int32))), .val (.int op), .val (.int ((Int32.ofNat i) + (1 : Int32))), .val (.int (cs.getD i 0))] [])) ?_ (fun t_ k_ => XS.goto X7.here hx rfl (pc0 := 86) (pc' := 17) rfl (hb hby d8_86) (by decide) (by decide) k_)
              simp only [eq_false hc35, eq_true hc57, eq_true hc62, eq_true hc70, if_true, if_false, ↓reduceIte, not_true_eq_false, not_false_eq_true, true_and, and_true, false_and, and_false, or_true, true_or, or_false, false_or, and_self, or_self] at hR
              rw [own_succ]
              exact ih (i + 1) _ _ _ _ _ _ _ _ X7 rfl N7 FB KQ (own_one _) (by omega) (by first | omega | (simp; omega)) hR
      · show Goes p e below W T6 (mkF m 38 #[.val (.ref x_), .val (.int (Int32.ofNat f)), .val (.int (Int32.ofNat t)), .val (.ref fo), .val (.int dp), .val (.int op), .val (.int (Int32.ofNat i)), .val (.int (cs.getD i 0))] [])
        refine Goes.on (T' := T6) (g' := (mkF m 40 #[.val (.ref x_), .val (.int (Int32.ofNat f)), .val (.int (Int32.ofNat t)), .val (.ref fo), .val (.int dp), .val (.int op), .val (.int (Int32.ofNat i)), .val (.int (cs.getD i 0))] [(.int dp)])) ?_ (fun t_ k_ => XS.iload X6.here hx rfl (hb hby d8_38) rfl k_)
        refine Goes.ifN X6 hx rfl (pc0 := 40) (pc' := 47) rfl (hb hby d8_40) rfl (by decide) (by decide) (P := dp = (0 : Int32)) (ifc_ne _ _) (fun hc40 => ?_) (fun hc40 => ?_)
        · show Goes p e below W T6 (mkF m 47 #[.val (.ref x_), .val (.int (Int32.ofNat f)), .val (.int (Int32.ofNat t)), .val (.ref fo), .val (.int dp), .val (.int op), .val (.int (Int32.ofNat i)), .val (.int (cs.getD i 0))] [])
          refine Goes.on (T' := T6) (g' := (mkF m 50 #[.val (.ref x_), .val (.int (Int32.ofNat f)), .val (.int (Int32.ofNat t)), .val (.ref fo), .val (.int (dp + (1 : Int32))), .val (.int op), .val (.int (Int32.ofNat i)), .val (.int (cs.getD i 0))] [])) ?_ (fun t_ k_ => XS.iinc X6.here hx rfl (hb hby d8_47) rfl (l' := #[.val (.ref x_), .val (.int (Int32.ofNat f)), .val (.int (Int32.ofNat t)), .val (.ref fo), .val (.int (dp + (1 : Int32))), .val (.int op), .val (.int (Int32.ofNat i)), .val (.int (cs.getD i 0))]) rfl k_)
          refine Goes.on (T' := T6) (g' := (mkF m 83 #[.val (.ref x_), .val (.int (Int32.ofNat f)), .val (.int (Int32.ofNat t)), .val (.ref fo), .val (.int (dp + (1 : Int32))), .val (.int op), .val (.int (Int32.ofNat i)), .val (.int (cs.getD i 0))] [])) ?_ (fun t_ k_ => XS.goto X6.here hx rfl (pc0 := 50) (pc' := 83) rfl (hb hby d8_50) (by decide) (by decide) k_)
          refine Goes.on (T' := T6) (g' := (mkF m 86 #[.val (.ref x_), .val (.int (Int32.ofNat f)), .val (.int (Int32.ofNat t)), .val (.ref fo), .val (.int (dp + (1 : Int32))), .val (.int op), .val (.int ((Int32.ofNat i) + (1 : Int32))), .val (.int (cs.getD i 0))] [])) ?_ (fun t_ k_ => XS.iinc X6.here hx rfl (hb hby d8_83) rfl (l' := #[.val (.ref x_), .val (.int (Int32.ofNat f)), .val (.int (Int32.ofNat t)), .val (.ref fo), .val (.int (dp + (1 : Int32))), .val (.int op), .val (.int ((Int32.ofNat i) + (1 : Int32))), .val (.int (cs.getD i 0))]) rfl k_)
          refine Goes.on (T' := T6) (g' := (mkF m 17 #[.val (.ref x_), .val (.int (Int32.ofNat f)), .val (.int (Int32.ofNat t)), .val (.ref fo), .val (.int (dp + (1 : Int32))), .val (.int op), .val (.int ((Int32.ofNat i) + (1 : Int32))), .val (.int (cs.getD i 0))] [])) ?_ (fun t_ k_ => XS.goto X6.here hx rfl (pc0 := 86) (pc' := 17) rfl (hb hby d8_86) (by decide) (by decide) k_)
          simp only [eq_true hc35, eq_false hc40, if_true, if_false, ↓reduceIte, not_true_eq_false, not_false_eq_true, true_and, and_true, false_and, and_false, or_true, true_or, or_false, false_or, and_self, or_self] at hR
          rw [own_succ]
          exact ih (i + 1) _ _ _ _ _ _ _ _ X6 eh6 N6 FA KP (own_one _) (by omega) (by first | omega | (simp; omega)) hR
        · show Goes p e below W T6 (mkF m 43 #[.val (.ref x_), .val (.int (Int32.ofNat f)), .val (.int (Int32.ofNat t)), .val (.ref fo), .val (.int dp), .val (.int op), .val (.int (Int32.ofNat i)), .val (.int (cs.getD i 0))] [])
          refine Goes.on (T' := T6) (g' := (mkF m 45 #[.val (.ref x_), .val (.int (Int32.ofNat f)), .val (.int (Int32.ofNat t)), .val (.ref fo), .val (.int dp), .val (.int op), .val (.int (Int32.ofNat i)), .val (.int (cs.getD i 0))] [(.int (Int32.ofNat i))])) ?_ (fun t_ k_ => XS.iload X6.here hx rfl (hb hby d8_43) rfl k_)
          refine Goes.on (T' := T6) (g' := (mkF m 47 #[.val (.ref x_), .val (.int (Int32.ofNat f)), .val (.int (Int32.ofNat t)), .val (.ref fo), .val (.int dp), .val (.int (Int32.ofNat i)), .val (.int (Int32.ofNat i)), .val (.int (cs.getD i 0))] [])) ?_ (fun t_ k_ => XS.istore X6.here hx rfl (hb hby d8_45) rfl (l' := #[.val (.ref x_), .val (.int (Int32.ofNat f)), .val (.int (Int32.ofNat t)), .val (.ref fo), .val (.int dp), .val (.int (Int32.ofNat i)), .val (.int (Int32.ofNat i)), .val (.int (cs.getD i 0))]) rfl k_)
          refine Goes.on (T' := T6) (g' := (mkF m 50 #[.val (.ref x_), .val (.int (Int32.ofNat f)), .val (.int (Int32.ofNat t)), .val (.ref fo), .val (.int (dp + (1 : Int32))), .val (.int (Int32.ofNat i)), .val (.int (Int32.ofNat i)), .val (.int (cs.getD i 0))] [])) ?_ (fun t_ k_ => XS.iinc X6.here hx rfl (hb hby d8_47) rfl (l' := #[.val (.ref x_), .val (.int (Int32.ofNat f)), .val (.int (Int32.ofNat t)), .val (.ref fo), .val (.int (dp + (1 : Int32))), .val (.int (Int32.ofNat i)), .val (.int (Int32.ofNat i)), .val (.int (cs.getD i 0))]) rfl k_)
          refine Goes.on (T' := T6) (g' := (mkF m 83 #[.val (.ref x_), .val (.int (Int32.ofNat f)), .val (.int (Int32.ofNat t)), .val (.ref fo), .val (.int (dp + (1 : Int32))), .val (.int (Int32.ofNat i)), .val (.int (Int32.ofNat i)), .val (.int (cs.getD i 0))] [])) ?_ (fun t_ k_ => XS.goto X6.here hx rfl (pc0 := 50) (pc' := 83) rfl (hb hby d8_50) (by decide) (by decide) k_)
          refine Goes.on (T' := T6) (g' := (mkF m 86 #[.val (.ref x_), .val (.int (Int32.ofNat f)), .val (.int (Int32.ofNat t)), .val (.ref fo), .val (.int (dp + (1 : Int32))), .val (.int (Int32.ofNat i)), .val (.int ((Int32.ofNat i) + (1 : Int32))), .val (.int (cs.getD i 0))] [])) ?_ (fun t_ k_ => XS.iinc X6.here hx rfl (hb hby d8_83) rfl (l' := #[.val (.ref x_), .val (.int (Int32.ofNat f)), .val (.int (Int32.ofNat t)), .val (.ref fo), .val (.int (dp + (1 : Int32))), .val (.int (Int32.ofNat i)), .val (.int ((Int32.ofNat i) + (1 : Int32))), .val (.int (cs.getD i 0))]) rfl k_)
          refine Goes.on (T' := T6) (g' := (mkF m 17 #[.val (.ref x_), .val (.int (Int32.ofNat f)), .val (.int (Int32.ofNat t)), .val (.ref fo), .val (.int (dp + (1 : Int32))), .val (.int (Int32.ofNat i)), .val (.int ((Int32.ofNat i) + (1 : Int32))), .val (.int (cs.getD i 0))] [])) ?_ (fun t_ k_ => XS.goto X6.here hx rfl (pc0 := 86) (pc' := 17) rfl (hb hby d8_86) (by decide) (by decide) k_)
          simp only [eq_true hc35, eq_true hc40, if_true, if_false, ↓reduceIte, not_true_eq_false, not_false_eq_true, true_and, and_true, false_and, and_false, or_true, true_or, or_false, false_or, and_self, or_self] at hR
          rw [own_succ]
          exact ih (i + 1) _ _ _ _ _ _ _ _ X6 eh6 N6 FA KP (own_one _) (by omega) (by first | omega | (simp; omega)) hR
  refine Goes.on (T' := T2) (g' := (mkF m 8 #[.val (.ref x_), .val (.int (Int32.ofNat f)), .val (.int (Int32.ofNat t)), .val (.ref fo), .unset, .unset, .unset, .unset] [])) ?_ (fun t_ k_ => XS.astoreN X2.here hx rfl (hb hby d8_7) rfl rfl (l' := #[.val (.ref x_), .val (.int (Int32.ofNat f)), .val (.int (Int32.ofNat t)), .val (.ref fo), .unset, .unset, .unset, .unset]) rfl k_)
  refine Goes.on (T' := T2) (g' := (mkF m 9 #[.val (.ref x_), .val (.int (Int32.ofNat f)), .val (.int (Int32.ofNat t)), .val (.ref fo), .unset, .unset, .unset, .unset] [(.int (0 : Int32))])) ?_ (fun t_ k_ => XS.iconst X2.here hx rfl (hb hby d8_8) k_)
  refine Goes.on (T' := T2) (g' := (mkF m 11 #[.val (.ref x_), .val (.int (Int32.ofNat f)), .val (.int (Int32.ofNat t)), .val (.ref fo), .val (.int (0 : Int32)), .unset, .unset, .unset] [])) ?_ (fun t_ k_ => XS.istore X2.here hx rfl (hb hby d8_9) rfl (l' := #[.val (.ref x_), .val (.int (Int32.ofNat f)), .val (.int (Int32.ofNat t)), .val (.ref fo), .val (.int (0 : Int32)), .unset, .unset, .unset]) rfl k_)
  refine Goes.on (T' := T2) (g' := (mkF m 12 #[.val (.ref x_), .val (.int (Int32.ofNat f)), .val (.int (Int32.ofNat t)), .val (.ref fo), .val (.int (0 : Int32)), .unset, .unset, .unset] [(.int (Int32.ofNat f))])) ?_ (fun t_ k_ => XS.iloadN X2.here hx rfl (hb hby d8_11) rfl k_)
  refine Goes.on (T' := T2) (g' := (mkF m 14 #[.val (.ref x_), .val (.int (Int32.ofNat f)), .val (.int (Int32.ofNat t)), .val (.ref fo), .val (.int (0 : Int32)), .val (.int (Int32.ofNat f)), .unset, .unset] [])) ?_ (fun t_ k_ => XS.istore X2.here hx rfl (hb hby d8_12) rfl (l' := #[.val (.ref x_), .val (.int (Int32.ofNat f)), .val (.int (Int32.ofNat t)), .val (.ref fo), .val (.int (0 : Int32)), .val (.int (Int32.ofNat f)), .unset, .unset]) rfl k_)
  refine Goes.on (T' := T2) (g' := (mkF m 15 #[.val (.ref x_), .val (.int (Int32.ofNat f)), .val (.int (Int32.ofNat t)), .val (.ref fo), .val (.int (0 : Int32)), .val (.int (Int32.ofNat f)), .unset, .unset] [(.int (Int32.ofNat f))])) ?_ (fun t_ k_ => XS.iloadN X2.here hx rfl (hb hby d8_14) rfl k_)
  refine Goes.on (T' := T2) (g' := (mkF m 17 #[.val (.ref x_), .val (.int (Int32.ofNat f)), .val (.int (Int32.ofNat t)), .val (.ref fo), .val (.int (0 : Int32)), .val (.int (Int32.ofNat f)), .val (.int (Int32.ofNat f)), .unset] [])) ?_ (fun t_ k_ => XS.istore X2.here hx rfl (hb hby d8_15) rfl (l' := #[.val (.ref x_), .val (.int (Int32.ofNat f)), .val (.int (Int32.ofNat t)), .val (.ref fo), .val (.int (0 : Int32)), .val (.int (Int32.ofNat f)), .val (.int (Int32.ofNat f)), .unset]) rfl k_)
  exact K17 (t - f) f _ _ [] [] _ _ _ _ X2 ehI.symm N2 FA (Keep.refl _ _) (Or.inl rfl) (by omega) (by first | omega | (simp; omega)) hRR.symm
def Q0 (Z : State) (h0 : Heap) (n0 : Nat) (v : Option Value) (h : Heap) (L : List Loc) : Prop := v = some (.int (1 : Int32)) ∧ Fr n0 L
set_option maxRecDepth 65536 in
set_option maxHeartbeats 40000000 in
theorem rm0 (l : Launch) (Z : State) (a0 : Array Value) (hw : ∀ d ∈ tables_1, d.before a0 Z = true) (ws : List Jvm.Cond) (s_ : Int64) (a b : Int32) (zc : Int32) (vf : Value) (h0 : Heap) (n0 : Nat) (Z0 : n0 ≤ h0.size) (X00 : Old Z n0 h0) (O2 : Sta Z Z.heap "java/lang/String" "COMPACT_STRINGS" "Z" (.int zc)) (P5 : ¬ zc = 0) (O4 : Sta Z Z.heap "jdk/internal/util/Preconditions" "SIOOBE_FORMATTER" "Ljava/util/function/BiFunction;" vf) (rG : vf.isRef = true) :
    MetFree l x (head1 (Jvm.Cond.code x code maxLocals ret :: ws) room_1) (fun a_ U => a_ = #[(.long s_), (.int a), (.int b)] ∧ Z.Warmed39 U.vm ∧ U.heap = h0) (fun _ _ _ _ _ => True) (fun _ U o U' => ∃ v L, o = .returned v ∧ Q0 Z h0 n0 v U'.heap L ∧ FrameEnd U o U' L room_1.cells room_1.slots) := by
  refine MetFree.of_bodySF (plainFor_of_name pn_0) hisR ?_
  intro p e s m args below meth c s₁ Bd hml0 hP hK
  obtain ⟨rfl, hZ, hh⟩ := hP
  have hx := Bd.exec
  have hby := Bd.bytes
  have hml : c.maxLocals = 28 := hml0
  have hown : s.vm.findClass "com/example/covenantry/covenantry/read/MatchesBracketsPinLaw" = some m.cls := findClass_of_methodNamed Bd.named
  have hnm := (name_of_methodNamed Bd.named Bd.method).1
  have X0 : Stand p l e room_1 s m #[(.long s_), (.int a), (.int b)] below meth c s₁ [] 0 0 := Stand.of_body Bd
  have e0 : s₁.heap = h0 := by rw [← hh, Bd.state]; rfl
  have N0 := Fr.nil n0
  refine Goes.done ?_
  obtain ⟨W, hWd⟩ : ∃ W : State → Prop, W = EndW s below (Q0 Z h0 n0) room_1.cells room_1.slots := ⟨_, rfl⟩
  rw [← hWd]
  have hef : entryFrame m #[(.long s_), (.int a), (.int b)] maxLocals = (mkF m 0 #[.val (.long s_), .second, .val (.int a), .val (.int b), .unset, .unset, .unset, .unset, .unset, .unset, .unset, .unset, .unset, .unset, .unset, .unset, .unset, .unset, .unset, .unset, .unset, .unset, .unset, .unset, .unset, .unset, .unset, .unset] []) := by first | (simp [entryFrame, mkF, argsToLocals, Value.category, maxLocals]; done) | rfl
  rw [hef]
  have hws : ∀ d ∈ StrChars.Road.words, d.before a0 Z = true := fun d hd => hw d ((by decide +kernel : ∀ d ∈ StrChars.Road.words, d ∈ tables_1) d hd)
  refine Goes.on (T' := s₁) (g' := (mkF m 1 #[.val (.long s_), .second, .val (.int a), .val (.int b), .unset, .unset, .unset, .unset, .unset, .unset, .unset, .unset, .unset, .unset, .unset, .unset, .unset, .unset, .unset, .unset, .unset, .unset, .unset, .unset, .unset, .unset, .unset, .unset] [(.long s_)])) ?_ (fun t_ k_ => XS.lloadN X0.here hx rfl (hb hby at_0) rfl k_)
  refine Goes.on (T' := s₁) (g' := (mkF m 2 #[.val (.long s_), .second, .val (.int a), .val (.int b), .unset, .unset, .unset, .unset, .unset, .unset, .unset, .unset, .unset, .unset, .unset, .unset, .unset, .unset, .unset, .unset, .unset, .unset, .unset, .unset, .unset, .unset, .unset, .unset] [(.int (0 : Int32)), (.long s_)])) ?_ (fun t_ k_ => XS.iconst X0.here hx rfl (hb hby at_1) k_)
  obtain ⟨_, _, ⟨T1, Lq_1, kq_1, nq_1⟩, -, X1, ⟨Lc1, hQ1, l1, y1, z1⟩, st1⟩ := Jvm.LawKit.callS X0 hx (y := (⟨"com/example/covenantry/covenantry/read/MatchesBracketsPinLaw", "pick", "(JI)C"⟩ : MethodName)) hown (mvT hZ (hw _ (List.mem_of_getElem? (i := 0) rfl))) (mvT hZ (hw _ (List.mem_of_getElem? (i := 1) rfl))) (mvT hZ (hw _ (List.mem_of_getElem? (i := 2) rfl))) (mvT hZ (hw _ (List.mem_of_getElem? (i := 3) rfl))) (by decide) (backOf (W := 0) (rmPK l Z a0 hw [] s_ (0 : Int32) h0 n0 Z0) hZ (hw _ (List.mem_of_getElem? (i := 3) rfl)) (hw _ (List.mem_of_getElem? (i := 2) rfl)) (by decide) (by decide)) (g := (mkF m 2 #[.val (.long s_), .second, .val (.int a), .val (.int b), .unset, .unset, .unset, .unset, .unset, .unset, .unset, .unset, .unset, .unset, .unset, .unset, .unset, .unset, .unset, .unset, .unset, .unset, .unset, .unset, .unset, .unset, .unset, .unset] [(.int (0 : Int32)), (.long s_)])) rfl (by rw [hml]; rfl) (argsL := [(.long s_), (.int (0 : Int32))]) (rest := []) (lenOf pd_9 rfl) rfl (by show 2 * 0 + _ ≤ _; exact Nat.le_of_eq rfl) (hb hby at_2) (fun _ _ => ⟨rfl, e0, (by decide : 0 + 0 ≤ _), (by decide : 0 + 0 ≤ _)⟩)
  dsimp only [Pt.U, Pt.locs, Pt.cells, Pt.slots] at X1 l1 y1 z1 st1 hQ1
  rw [l1, y1, z1] at X1
  change Stand p l e _ _ m _ below meth c T1 _ 0 0 at X1
  obtain ⟨rfl, N1q, eh1⟩ := hQ1
  have N1 := Fr.app N0 N1q
  refine Goes.on (T' := T1) (g' := (mkF m 5 #[.val (.long s_), .second, .val (.int a), .val (.int b), .unset, .unset, .unset, .unset, .unset, .unset, .unset, .unset, .unset, .unset, .unset, .unset, .unset, .unset, .unset, .unset, .unset, .unset, .unset, .unset, .unset, .unset, .unset, .unset] [(.int (own_pick s_ (0 : Int32)))])) ?_ st1
  obtain ⟨c0, ec0⟩ : ∃ z, z = own_pick s_ (0 : Int32) := ⟨_, rfl⟩
  rw [← ec0]
  have hp0 : ¬ c0 < 0 ∧ ¬ (255 : Int32) < c0 := by rw [ec0]; exact own_pick_b _ _
  refine Goes.on (T' := T1) (g' := (mkF m 7 #[.val (.long s_), .second, .val (.int a), .val (.int b), .val (.int c0), .unset, .unset, .unset, .unset, .unset, .unset, .unset, .unset, .unset, .unset, .unset, .unset, .unset, .unset, .unset, .unset, .unset, .unset, .unset, .unset, .unset, .unset, .unset] [])) ?_ (fun t_ k_ => XS.istore X1.here hx rfl (hb hby at_5) rfl (l' := #[.val (.long s_), .second, .val (.int a), .val (.int b), .val (.int c0), .unset, .unset, .unset, .unset, .unset, .unset, .unset, .unset, .unset, .unset, .unset, .unset, .unset, .unset, .unset, .unset, .unset, .unset, .unset, .unset, .unset, .unset, .unset]) rfl k_)
  refine Goes.on (T' := T1) (g' := (mkF m 8 #[.val (.long s_), .second, .val (.int a), .val (.int b), .val (.int c0), .unset, .unset, .unset, .unset, .unset, .unset, .unset, .unset, .unset, .unset, .unset, .unset, .unset, .unset, .unset, .unset, .unset, .unset, .unset, .unset, .unset, .unset, .unset] [(.long s_)])) ?_ (fun t_ k_ => XS.lloadN X1.here hx rfl (hb hby at_7) rfl k_)
  refine Goes.on (T' := T1) (g' := (mkF m 9 #[.val (.long s_), .second, .val (.int a), .val (.int b), .val (.int c0), .unset, .unset, .unset, .unset, .unset, .unset, .unset, .unset, .unset, .unset, .unset, .unset, .unset, .unset, .unset, .unset, .unset, .unset, .unset, .unset, .unset, .unset, .unset] [(.int (1 : Int32)), (.long s_)])) ?_ (fun t_ k_ => XS.iconst X1.here hx rfl (hb hby at_8) k_)
  obtain ⟨_, _, ⟨T2, Lq_2, kq_2, nq_2⟩, -, X2, ⟨Lc2, hQ2, l2, y2, z2⟩, st2⟩ := Jvm.LawKit.callS X1 hx (y := (⟨"com/example/covenantry/covenantry/read/MatchesBracketsPinLaw", "pick", "(JI)C"⟩ : MethodName)) hown (mvT hZ (hw _ (List.mem_of_getElem? (i := 0) rfl))) (mvT hZ (hw _ (List.mem_of_getElem? (i := 1) rfl))) (mvT hZ (hw _ (List.mem_of_getElem? (i := 2) rfl))) (mvT hZ (hw _ (List.mem_of_getElem? (i := 3) rfl))) (by decide) (backOf (W := 0) (rmPK l Z a0 hw [] s_ (1 : Int32) h0 n0 Z0) hZ (hw _ (List.mem_of_getElem? (i := 3) rfl)) (hw _ (List.mem_of_getElem? (i := 2) rfl)) (by decide) (by decide)) (g := (mkF m 9 #[.val (.long s_), .second, .val (.int a), .val (.int b), .val (.int c0), .unset, .unset, .unset, .unset, .unset, .unset, .unset, .unset, .unset, .unset, .unset, .unset, .unset, .unset, .unset, .unset, .unset, .unset, .unset, .unset, .unset, .unset, .unset] [(.int (1 : Int32)), (.long s_)])) rfl (by rw [hml]; rfl) (argsL := [(.long s_), (.int (1 : Int32))]) (rest := []) (lenOf pd_9 rfl) rfl (by show 2 * 0 + _ ≤ _; exact Nat.le_of_eq rfl) (hb hby at_9) (fun _ _ => ⟨rfl, eh1, (by decide : 0 + 0 ≤ _), (by decide : 0 + 0 ≤ _)⟩)
  dsimp only [Pt.U, Pt.locs, Pt.cells, Pt.slots] at X2 l2 y2 z2 st2 hQ2
  rw [l2, y2, z2] at X2
  change Stand p l e _ _ m _ below meth c T2 _ 0 0 at X2
  obtain ⟨rfl, N2q, eh2⟩ := hQ2
  have N2 := Fr.app N1 N2q
  refine Goes.on (T' := T2) (g' := (mkF m 12 #[.val (.long s_), .second, .val (.int a), .val (.int b), .val (.int c0), .unset, .unset, .unset, .unset, .unset, .unset, .unset, .unset, .unset, .unset, .unset, .unset, .unset, .unset, .unset, .unset, .unset, .unset, .unset, .unset, .unset, .unset, .unset] [(.int (own_pick s_ (1 : Int32)))])) ?_ st2
  obtain ⟨c1, ec1⟩ : ∃ z, z = own_pick s_ (1 : Int32) := ⟨_, rfl⟩
  rw [← ec1]
  have hp1 : ¬ c1 < 0 ∧ ¬ (255 : Int32) < c1 := by rw [ec1]; exact own_pick_b _ _
  refine Goes.on (T' := T2) (g' := (mkF m 14 #[.val (.long s_), .second, .val (.int a), .val (.int b), .val (.int c0), .val (.int c1), .unset, .unset, .unset, .unset, .unset, .unset, .unset, .unset, .unset, .unset, .unset, .unset, .unset, .unset, .unset, .unset, .unset, .unset, .unset, .unset, .unset, .unset] [])) ?_ (fun t_ k_ => XS.istore X2.here hx rfl (hb hby at_12) rfl (l' := #[.val (.long s_), .second, .val (.int a), .val (.int b), .val (.int c0), .val (.int c1), .unset, .unset, .unset, .unset, .unset, .unset, .unset, .unset, .unset, .unset, .unset, .unset, .unset, .unset, .unset, .unset, .unset, .unset, .unset, .unset, .unset, .unset]) rfl k_)
  refine Goes.on (T' := T2) (g' := (mkF m 15 #[.val (.long s_), .second, .val (.int a), .val (.int b), .val (.int c0), .val (.int c1), .unset, .unset, .unset, .unset, .unset, .unset, .unset, .unset, .unset, .unset, .unset, .unset, .unset, .unset, .unset, .unset, .unset, .unset, .unset, .unset, .unset, .unset] [(.long s_)])) ?_ (fun t_ k_ => XS.lloadN X2.here hx rfl (hb hby at_14) rfl k_)
  refine Goes.on (T' := T2) (g' := (mkF m 16 #[.val (.long s_), .second, .val (.int a), .val (.int b), .val (.int c0), .val (.int c1), .unset, .unset, .unset, .unset, .unset, .unset, .unset, .unset, .unset, .unset, .unset, .unset, .unset, .unset, .unset, .unset, .unset, .unset, .unset, .unset, .unset, .unset] [(.int (2 : Int32)), (.long s_)])) ?_ (fun t_ k_ => XS.iconst X2.here hx rfl (hb hby at_15) k_)
  obtain ⟨_, _, ⟨T3, Lq_3, kq_3, nq_3⟩, -, X3, ⟨Lc3, hQ3, l3, y3, z3⟩, st3⟩ := Jvm.LawKit.callS X2 hx (y := (⟨"com/example/covenantry/covenantry/read/MatchesBracketsPinLaw", "pick", "(JI)C"⟩ : MethodName)) hown (mvT hZ (hw _ (List.mem_of_getElem? (i := 0) rfl))) (mvT hZ (hw _ (List.mem_of_getElem? (i := 1) rfl))) (mvT hZ (hw _ (List.mem_of_getElem? (i := 2) rfl))) (mvT hZ (hw _ (List.mem_of_getElem? (i := 3) rfl))) (by decide) (backOf (W := 0) (rmPK l Z a0 hw [] s_ (2 : Int32) h0 n0 Z0) hZ (hw _ (List.mem_of_getElem? (i := 3) rfl)) (hw _ (List.mem_of_getElem? (i := 2) rfl)) (by decide) (by decide)) (g := (mkF m 16 #[.val (.long s_), .second, .val (.int a), .val (.int b), .val (.int c0), .val (.int c1), .unset, .unset, .unset, .unset, .unset, .unset, .unset, .unset, .unset, .unset, .unset, .unset, .unset, .unset, .unset, .unset, .unset, .unset, .unset, .unset, .unset, .unset] [(.int (2 : Int32)), (.long s_)])) rfl (by rw [hml]; rfl) (argsL := [(.long s_), (.int (2 : Int32))]) (rest := []) (lenOf pd_9 rfl) rfl (by show 2 * 0 + _ ≤ _; exact Nat.le_of_eq rfl) (hb hby at_16) (fun _ _ => ⟨rfl, eh2, (by decide : 0 + 0 ≤ _), (by decide : 0 + 0 ≤ _)⟩)
  dsimp only [Pt.U, Pt.locs, Pt.cells, Pt.slots] at X3 l3 y3 z3 st3 hQ3
  rw [l3, y3, z3] at X3
  change Stand p l e _ _ m _ below meth c T3 _ 0 0 at X3
  obtain ⟨rfl, N3q, eh3⟩ := hQ3
  have N3 := Fr.app N2 N3q
  refine Goes.on (T' := T3) (g' := (mkF m 19 #[.val (.long s_), .second, .val (.int a), .val (.int b), .val (.int c0), .val (.int c1), .unset, .unset, .unset, .unset, .unset, .unset, .unset, .unset, .unset, .unset, .unset, .unset, .unset, .unset, .unset, .unset, .unset, .unset, .unset, .unset, .unset, .unset] [(.int (own_pick s_ (2 : Int32)))])) ?_ st3
  obtain ⟨c2, ec2⟩ : ∃ z, z = own_pick s_ (2 : Int32) := ⟨_, rfl⟩
  rw [← ec2]
  have hp2 : ¬ c2 < 0 ∧ ¬ (255 : Int32) < c2 := by rw [ec2]; exact own_pick_b _ _
  refine Goes.on (T' := T3) (g' := (mkF m 21 #[.val (.long s_), .second, .val (.int a), .val (.int b), .val (.int c0), .val (.int c1), .val (.int c2), .unset, .unset, .unset, .unset, .unset, .unset, .unset, .unset, .unset, .unset, .unset, .unset, .unset, .unset, .unset, .unset, .unset, .unset, .unset, .unset, .unset] [])) ?_ (fun t_ k_ => XS.istore X3.here hx rfl (hb hby at_19) rfl (l' := #[.val (.long s_), .second, .val (.int a), .val (.int b), .val (.int c0), .val (.int c1), .val (.int c2), .unset, .unset, .unset, .unset, .unset, .unset, .unset, .unset, .unset, .unset, .unset, .unset, .unset, .unset, .unset, .unset, .unset, .unset, .unset, .unset, .unset]) rfl k_)
  refine Goes.on (T' := T3) (g' := (mkF m 22 #[.val (.long s_), .second, .val (.int a), .val (.int b), .val (.int c0), .val (.int c1), .val (.int c2), .unset, .unset, .unset, .unset, .unset, .unset, .unset, .unset, .unset, .unset, .unset, .unset, .unset, .unset, .unset, .unset, .unset, .unset, .unset, .unset, .unset] [(.long s_)])) ?_ (fun t_ k_ => XS.lloadN X3.here hx rfl (hb hby at_21) rfl k_)
  refine Goes.on (T' := T3) (g' := (mkF m 23 #[.val (.long s_), .second, .val (.int a), .val (.int b), .val (.int c0), .val (.int c1), .val (.int c2), .unset, .unset, .unset, .unset, .unset, .unset, .unset, .unset, .unset, .unset, .unset, .unset, .unset, .unset, .unset, .unset, .unset, .unset, .unset, .unset, .unset] [(.int (3 : Int32)), (.long s_)])) ?_ (fun t_ k_ => XS.iconst X3.here hx rfl (hb hby at_22) k_)
  obtain ⟨_, _, ⟨T4, Lq_4, kq_4, nq_4⟩, -, X4, ⟨Lc4, hQ4, l4, y4, z4⟩, st4⟩ := Jvm.LawKit.callS X3 hx (y := (⟨"com/example/covenantry/covenantry/read/MatchesBracketsPinLaw", "pick", "(JI)C"⟩ : MethodName)) hown (mvT hZ (hw _ (List.mem_of_getElem? (i := 0) rfl))) (mvT hZ (hw _ (List.mem_of_getElem? (i := 1) rfl))) (mvT hZ (hw _ (List.mem_of_getElem? (i := 2) rfl))) (mvT hZ (hw _ (List.mem_of_getElem? (i := 3) rfl))) (by decide) (backOf (W := 0) (rmPK l Z a0 hw [] s_ (3 : Int32) h0 n0 Z0) hZ (hw _ (List.mem_of_getElem? (i := 3) rfl)) (hw _ (List.mem_of_getElem? (i := 2) rfl)) (by decide) (by decide)) (g := (mkF m 23 #[.val (.long s_), .second, .val (.int a), .val (.int b), .val (.int c0), .val (.int c1), .val (.int c2), .unset, .unset, .unset, .unset, .unset, .unset, .unset, .unset, .unset, .unset, .unset, .unset, .unset, .unset, .unset, .unset, .unset, .unset, .unset, .unset, .unset] [(.int (3 : Int32)), (.long s_)])) rfl (by rw [hml]; rfl) (argsL := [(.long s_), (.int (3 : Int32))]) (rest := []) (lenOf pd_9 rfl) rfl (by show 2 * 0 + _ ≤ _; exact Nat.le_of_eq rfl) (hb hby at_23) (fun _ _ => ⟨rfl, eh3, (by decide : 0 + 0 ≤ _), (by decide : 0 + 0 ≤ _)⟩)
  dsimp only [Pt.U, Pt.locs, Pt.cells, Pt.slots] at X4 l4 y4 z4 st4 hQ4
  rw [l4, y4, z4] at X4
  change Stand p l e _ _ m _ below meth c T4 _ 0 0 at X4
  obtain ⟨rfl, N4q, eh4⟩ := hQ4
  have N4 := Fr.app N3 N4q
  refine Goes.on (T' := T4) (g' := (mkF m 26 #[.val (.long s_), .second, .val (.int a), .val (.int b), .val (.int c0), .val (.int c1), .val (.int c2), .unset, .unset, .unset, .unset, .unset, .unset, .unset, .unset, .unset, .unset, .unset, .unset, .unset, .unset, .unset, .unset, .unset, .unset, .unset, .unset, .unset] [(.int (own_pick s_ (3 : Int32)))])) ?_ st4
  obtain ⟨c3, ec3⟩ : ∃ z, z = own_pick s_ (3 : Int32) := ⟨_, rfl⟩
  rw [← ec3]
  have hp3 : ¬ c3 < 0 ∧ ¬ (255 : Int32) < c3 := by rw [ec3]; exact own_pick_b _ _
  refine Goes.on (T' := T4) (g' := (mkF m 28 #[.val (.long s_), .second, .val (.int a), .val (.int b), .val (.int c0), .val (.int c1), .val (.int c2), .val (.int c3), .unset, .unset, .unset, .unset, .unset, .unset, .unset, .unset, .unset, .unset, .unset, .unset, .unset, .unset, .unset, .unset, .unset, .unset, .unset, .unset] [])) ?_ (fun t_ k_ => XS.istore X4.here hx rfl (hb hby at_26) rfl (l' := #[.val (.long s_), .second, .val (.int a), .val (.int b), .val (.int c0), .val (.int c1), .val (.int c2), .val (.int c3), .unset, .unset, .unset, .unset, .unset, .unset, .unset, .unset, .unset, .unset, .unset, .unset, .unset, .unset, .unset, .unset, .unset, .unset, .unset, .unset]) rfl k_)
  refine Goes.on (T' := T4) (g' := (mkF m 29 #[.val (.long s_), .second, .val (.int a), .val (.int b), .val (.int c0), .val (.int c1), .val (.int c2), .val (.int c3), .unset, .unset, .unset, .unset, .unset, .unset, .unset, .unset, .unset, .unset, .unset, .unset, .unset, .unset, .unset, .unset, .unset, .unset, .unset, .unset] [(.long s_)])) ?_ (fun t_ k_ => XS.lloadN X4.here hx rfl (hb hby at_28) rfl k_)
  refine Goes.on (T' := T4) (g' := (mkF m 30 #[.val (.long s_), .second, .val (.int a), .val (.int b), .val (.int c0), .val (.int c1), .val (.int c2), .val (.int c3), .unset, .unset, .unset, .unset, .unset, .unset, .unset, .unset, .unset, .unset, .unset, .unset, .unset, .unset, .unset, .unset, .unset, .unset, .unset, .unset] [(.int (4 : Int32)), (.long s_)])) ?_ (fun t_ k_ => XS.iconst X4.here hx rfl (hb hby at_29) k_)
  obtain ⟨_, _, ⟨T5, Lq_5, kq_5, nq_5⟩, -, X5, ⟨Lc5, hQ5, l5, y5, z5⟩, st5⟩ := Jvm.LawKit.callS X4 hx (y := (⟨"com/example/covenantry/covenantry/read/MatchesBracketsPinLaw", "pick", "(JI)C"⟩ : MethodName)) hown (mvT hZ (hw _ (List.mem_of_getElem? (i := 0) rfl))) (mvT hZ (hw _ (List.mem_of_getElem? (i := 1) rfl))) (mvT hZ (hw _ (List.mem_of_getElem? (i := 2) rfl))) (mvT hZ (hw _ (List.mem_of_getElem? (i := 3) rfl))) (by decide) (backOf (W := 0) (rmPK l Z a0 hw [] s_ (4 : Int32) h0 n0 Z0) hZ (hw _ (List.mem_of_getElem? (i := 3) rfl)) (hw _ (List.mem_of_getElem? (i := 2) rfl)) (by decide) (by decide)) (g := (mkF m 30 #[.val (.long s_), .second, .val (.int a), .val (.int b), .val (.int c0), .val (.int c1), .val (.int c2), .val (.int c3), .unset, .unset, .unset, .unset, .unset, .unset, .unset, .unset, .unset, .unset, .unset, .unset, .unset, .unset, .unset, .unset, .unset, .unset, .unset, .unset] [(.int (4 : Int32)), (.long s_)])) rfl (by rw [hml]; rfl) (argsL := [(.long s_), (.int (4 : Int32))]) (rest := []) (lenOf pd_9 rfl) rfl (by show 2 * 0 + _ ≤ _; exact Nat.le_of_eq rfl) (hb hby at_30) (fun _ _ => ⟨rfl, eh4, (by decide : 0 + 0 ≤ _), (by decide : 0 + 0 ≤ _)⟩)
  dsimp only [Pt.U, Pt.locs, Pt.cells, Pt.slots] at X5 l5 y5 z5 st5 hQ5
  rw [l5, y5, z5] at X5
  change Stand p l e _ _ m _ below meth c T5 _ 0 0 at X5
  obtain ⟨rfl, N5q, eh5⟩ := hQ5
  have N5 := Fr.app N4 N5q
  refine Goes.on (T' := T5) (g' := (mkF m 33 #[.val (.long s_), .second, .val (.int a), .val (.int b), .val (.int c0), .val (.int c1), .val (.int c2), .val (.int c3), .unset, .unset, .unset, .unset, .unset, .unset, .unset, .unset, .unset, .unset, .unset, .unset, .unset, .unset, .unset, .unset, .unset, .unset, .unset, .unset] [(.int (own_pick s_ (4 : Int32)))])) ?_ st5
  obtain ⟨c4, ec4⟩ : ∃ z, z = own_pick s_ (4 : Int32) := ⟨_, rfl⟩
  rw [← ec4]
  have hp4 : ¬ c4 < 0 ∧ ¬ (255 : Int32) < c4 := by rw [ec4]; exact own_pick_b _ _
  refine Goes.on (T' := T5) (g' := (mkF m 35 #[.val (.long s_), .second, .val (.int a), .val (.int b), .val (.int c0), .val (.int c1), .val (.int c2), .val (.int c3), .val (.int c4), .unset, .unset, .unset, .unset, .unset, .unset, .unset, .unset, .unset, .unset, .unset, .unset, .unset, .unset, .unset, .unset, .unset, .unset, .unset] [])) ?_ (fun t_ k_ => XS.istore X5.here hx rfl (hb hby at_33) rfl (l' := #[.val (.long s_), .second, .val (.int a), .val (.int b), .val (.int c0), .val (.int c1), .val (.int c2), .val (.int c3), .val (.int c4), .unset, .unset, .unset, .unset, .unset, .unset, .unset, .unset, .unset, .unset, .unset, .unset, .unset, .unset, .unset, .unset, .unset, .unset, .unset]) rfl k_)
  obtain ⟨T6, h6, X6, e6, E6, A6, D6, -, st6⟩ := newO X5 hx hZ hown (hw _ (List.mem_of_getElem? (i := 4) rfl)) (hw _ (List.mem_of_getElem? (i := 5) rfl)) (hw _ (List.mem_of_getElem? (i := 6) rfl)) eh5 (g := (mkF m 35 #[.val (.long s_), .second, .val (.int a), .val (.int b), .val (.int c0), .val (.int c1), .val (.int c2), .val (.int c3), .val (.int c4), .unset, .unset, .unset, .unset, .unset, .unset, .unset, .unset, .unset, .unset, .unset, .unset, .unset, .unset, .unset, .unset, .unset, .unset, .unset] [])) rfl (hb hby at_35) (by decide) (by decide)
  obtain ⟨b6, gb6⟩ : ∃ z, z = h0.size := ⟨_, rfl⟩
  rw [← gb6] at A6 D6 st6
  have Z6 : n0 ≤ h6.size := Nat.le_trans Z0 E6.1
  have g_b6 : n0 ≤ b6 := Nat.le_trans Z0 (Nat.le_of_eq gb6.symm)
  refine Goes.on (T' := T6) (g' := (mkF m 38 #[.val (.long s_), .second, .val (.int a), .val (.int b), .val (.int c0), .val (.int c1), .val (.int c2), .val (.int c3), .val (.int c4), .unset, .unset, .unset, .unset, .unset, .unset, .unset, .unset, .unset, .unset, .unset, .unset, .unset, .unset, .unset, .unset, .unset, .unset, .unset] [(.ref b6)])) ?_ st6
  have F6_value : Fld Z h6 b6 "java/lang/String" "value" "[B" .null := D6 (Or.inr (hw _ (List.mem_of_getElem? (i := 33) rfl))) (ty := (.array .byte)) (by decide)
  have F6_coder : Fld Z h6 b6 "java/lang/String" "coder" "B" (.int (0 : Int32)) := D6 (Or.inr (hw _ (List.mem_of_getElem? (i := 31) rfl))) (ty := .byte) (by decide)
  refine Goes.on (T' := T6) (g' := (mkF m 39 #[.val (.long s_), .second, .val (.int a), .val (.int b), .val (.int c0), .val (.int c1), .val (.int c2), .val (.int c3), .val (.int c4), .unset, .unset, .unset, .unset, .unset, .unset, .unset, .unset, .unset, .unset, .unset, .unset, .unset, .unset, .unset, .unset, .unset, .unset, .unset] [(.ref b6), (.ref b6)])) ?_ (fun t_ k_ => XS.dup X6.here hx rfl (hb hby at_38) rfl rfl k_)
  refine Goes.on (T' := T6) (g' := (mkF m 40 #[.val (.long s_), .second, .val (.int a), .val (.int b), .val (.int c0), .val (.int c1), .val (.int c2), .val (.int c3), .val (.int c4), .unset, .unset, .unset, .unset, .unset, .unset, .unset, .unset, .unset, .unset, .unset, .unset, .unset, .unset, .unset, .unset, .unset, .unset, .unset] [(.int (5 : Int32)), (.ref b6), (.ref b6)])) ?_ (fun t_ k_ => XS.iconst X6.here hx rfl (hb hby at_39) k_)
  obtain ⟨T7, h7, k7, X7, e7, E7, A7, st7⟩ := newP X6 hx hZ (hw _ (List.mem_of_getElem? (i := 7) rfl)) e6 (g := (mkF m 40 #[.val (.long s_), .second, .val (.int a), .val (.int b), .val (.int c0), .val (.int c1), .val (.int c2), .val (.int c3), .val (.int c4), .unset, .unset, .unset, .unset, .unset, .unset, .unset, .unset, .unset, .unset, .unset, .unset, .unset, .unset, .unset, .unset, .unset, .unset, .unset] [(.int (5 : Int32)), (.ref b6), (.ref b6)])) rfl (hb hby at_40) rfl (by decide) (cap := 5) (by decide) (by decide) (by decide) (by decide)
  obtain ⟨b7, gb7⟩ : ∃ z, z = h6.size := ⟨_, rfl⟩
  rw [← gb7] at A7 st7
  have V7 := Arv.new A7 (by decide)
  have Z7 : n0 ≤ h7.size := Nat.le_trans Z6 E7.1
  have g_b7 : n0 ≤ b7 := Nat.le_trans Z6 (Nat.le_of_eq gb7.symm)
  refine Goes.on (T' := T7) (g' := (mkF m 42 #[.val (.long s_), .second, .val (.int a), .val (.int b), .val (.int c0), .val (.int c1), .val (.int c2), .val (.int c3), .val (.int c4), .unset, .unset, .unset, .unset, .unset, .unset, .unset, .unset, .unset, .unset, .unset, .unset, .unset, .unset, .unset, .unset, .unset, .unset, .unset] [(.ref b7), (.ref b6), (.ref b6)])) ?_ st7
  have fx8 := F6_value.ext E7
  have fx9 := F6_coder.ext E7
  have fx10 := A6.ext E7
  have VV7 : Arv Z h7 b7 k7 .char (5 : Int32) [.int 0, .int 0, .int 0, .int 0, .int 0] (.int 0) := V7.pad (pad_rep [] (.int 0) 5)
  refine Goes.on (T' := T7) (g' := (mkF m 43 #[.val (.long s_), .second, .val (.int a), .val (.int b), .val (.int c0), .val (.int c1), .val (.int c2), .val (.int c3), .val (.int c4), .unset, .unset, .unset, .unset, .unset, .unset, .unset, .unset, .unset, .unset, .unset, .unset, .unset, .unset, .unset, .unset, .unset, .unset, .unset] [(.ref b7), (.ref b7), (.ref b6), (.ref b6)])) ?_ (fun t_ k_ => XS.dup X7.here hx rfl (hb hby at_42) rfl rfl k_)
  refine Goes.on (T' := T7) (g' := (mkF m 44 #[.val (.long s_), .second, .val (.int a), .val (.int b), .val (.int c0), .val (.int c1), .val (.int c2), .val (.int c3), .val (.int c4), .unset, .unset, .unset, .unset, .unset, .unset, .unset, .unset, .unset, .unset, .unset, .unset, .unset, .unset, .unset, .unset, .unset, .unset, .unset] [(.int (0 : Int32)), (.ref b7), (.ref b7), (.ref b6), (.ref b6)])) ?_ (fun t_ k_ => XS.iconst X7.here hx rfl (hb hby at_43) k_)
  refine Goes.on (T' := T7) (g' := (mkF m 46 #[.val (.long s_), .second, .val (.int a), .val (.int b), .val (.int c0), .val (.int c1), .val (.int c2), .val (.int c3), .val (.int c4), .unset, .unset, .unset, .unset, .unset, .unset, .unset, .unset, .unset, .unset, .unset, .unset, .unset, .unset, .unset, .unset, .unset, .unset, .unset] [(.int c0), (.int (0 : Int32)), (.ref b7), (.ref b7), (.ref b6), (.ref b6)])) ?_ (fun t_ k_ => XS.iload X7.here hx rfl (hb hby at_44) rfl k_)
  obtain ⟨cc11, A11, q11, S11, M11, H11, G11⟩ := VV7
  obtain ⟨T12, h12, X12, e12, W12, st12⟩ := stC X7 hx hZ e7 A11 (j := (0 : Int32)) (inb_of S11 ⟨by decide, by decide⟩) (g := (mkF m 46 #[.val (.long s_), .second, .val (.int a), .val (.int b), .val (.int c0), .val (.int c1), .val (.int c2), .val (.int c3), .val (.int c4), .unset, .unset, .unset, .unset, .unset, .unset, .unset, .unset, .unset, .unset, .unset, .unset, .unset, .unset, .unset, .unset, .unset, .unset, .unset] [(.int c0), (.int (0 : Int32)), (.ref b7), (.ref b7), (.ref b6), (.ref b6)])) rfl rfl (hb hby at_46)
  have N12 := Fr.snoc X12 N5 g_b7
  have Z12 : n0 ≤ h12.size := Nat.le_trans Z7 (Nat.le_of_eq W12.size.symm)
  refine Goes.on (T' := T12) (g' := (mkF m 47 #[.val (.long s_), .second, .val (.int a), .val (.int b), .val (.int c0), .val (.int c1), .val (.int c2), .val (.int c3), .val (.int c4), .unset, .unset, .unset, .unset, .unset, .unset, .unset, .unset, .unset, .unset, .unset, .unset, .unset, .unset, .unset, .unset, .unset, .unset, .unset] [(.ref b7), (.ref b6), (.ref b6)])) ?_ st12
  have fx13 := fx8.other W12 (Or.inl (Nat.ne_of_lt (Nat.lt_of_lt_of_le A6.lt (Nat.le_of_eq gb7.symm))))
  have fx14 := fx9.other W12 (Or.inl (Nat.ne_of_lt (Nat.lt_of_lt_of_le A6.lt (Nat.le_of_eq gb7.symm))))
  have fx15 := fx10.wr W12
  have V12 : Arv Z h12 b7 k7 .char (5 : Int32) [.int c0, .int 0, .int 0, .int 0, .int 0] (.int 0) := by have q := Arv.set A11 q11 S11 M11 H11 G11 (fits_nar_char _) W12 0 rfl (Nat.le_of_ble_eq_true rfl); rw [own_narc hp0] at q; exact q
  refine Goes.on (T' := T12) (g' := (mkF m 48 #[.val (.long s_), .second, .val (.int a), .val (.int b), .val (.int c0), .val (.int c1), .val (.int c2), .val (.int c3), .val (.int c4), .unset, .unset, .unset, .unset, .unset, .unset, .unset, .unset, .unset, .unset, .unset, .unset, .unset, .unset, .unset, .unset, .unset, .unset, .unset] [(.ref b7), (.ref b7), (.ref b6), (.ref b6)])) ?_ (fun t_ k_ => XS.dup X12.here hx rfl (hb hby at_47) rfl rfl k_)
  refine Goes.on (T' := T12) (g' := (mkF m 49 #[.val (.long s_), .second, .val (.int a), .val (.int b), .val (.int c0), .val (.int c1), .val (.int c2), .val (.int c3), .val (.int c4), .unset, .unset, .unset, .unset, .unset, .unset, .unset, .unset, .unset, .unset, .unset, .unset, .unset, .unset, .unset, .unset, .unset, .unset, .unset] [(.int (1 : Int32)), (.ref b7), (.ref b7), (.ref b6), (.ref b6)])) ?_ (fun t_ k_ => XS.iconst X12.here hx rfl (hb hby at_48) k_)
  refine Goes.on (T' := T12) (g' := (mkF m 51 #[.val (.long s_), .second, .val (.int a), .val (.int b), .val (.int c0), .val (.int c1), .val (.int c2), .val (.int c3), .val (.int c4), .unset, .unset, .unset, .unset, .unset, .unset, .unset, .unset, .unset, .unset, .unset, .unset, .unset, .unset, .unset, .unset, .unset, .unset, .unset] [(.int c1), (.int (1 : Int32)), (.ref b7), (.ref b7), (.ref b6), (.ref b6)])) ?_ (fun t_ k_ => XS.iload X12.here hx rfl (hb hby at_49) rfl k_)
  obtain ⟨cc16, A16, q16, S16, M16, H16, G16⟩ := V12
  obtain ⟨T17, h17, X17, e17, W17, st17⟩ := stC X12 hx hZ e12 A16 (j := (1 : Int32)) (inb_of S16 ⟨by decide, by decide⟩) (g := (mkF m 51 #[.val (.long s_), .second, .val (.int a), .val (.int b), .val (.int c0), .val (.int c1), .val (.int c2), .val (.int c3), .val (.int c4), .unset, .unset, .unset, .unset, .unset, .unset, .unset, .unset, .unset, .unset, .unset, .unset, .unset, .unset, .unset, .unset, .unset, .unset, .unset] [(.int c1), (.int (1 : Int32)), (.ref b7), (.ref b7), (.ref b6), (.ref b6)])) rfl rfl (hb hby at_51)
  have N17 := Fr.snoc X17 N12 g_b7
  have Z17 : n0 ≤ h17.size := Nat.le_trans Z12 (Nat.le_of_eq W17.size.symm)
  refine Goes.on (T' := T17) (g' := (mkF m 52 #[.val (.long s_), .second, .val (.int a), .val (.int b), .val (.int c0), .val (.int c1), .val (.int c2), .val (.int c3), .val (.int c4), .unset, .unset, .unset, .unset, .unset, .unset, .unset, .unset, .unset, .unset, .unset, .unset, .unset, .unset, .unset, .unset, .unset, .unset, .unset] [(.ref b7), (.ref b6), (.ref b6)])) ?_ st17
  have fx18 := fx13.other W17 (Or.inl (Nat.ne_of_lt (Nat.lt_of_lt_of_le A6.lt (Nat.le_of_eq gb7.symm))))
  have fx19 := fx14.other W17 (Or.inl (Nat.ne_of_lt (Nat.lt_of_lt_of_le A6.lt (Nat.le_of_eq gb7.symm))))
  have fx20 := fx15.wr W17
  have V17 : Arv Z h17 b7 k7 .char (5 : Int32) [.int c0, .int c1, .int 0, .int 0, .int 0] (.int 0) := by have q := Arv.set A16 q16 S16 M16 H16 G16 (fits_nar_char _) W17 1 rfl (Nat.le_of_ble_eq_true rfl); rw [own_narc hp1] at q; exact q
  refine Goes.on (T' := T17) (g' := (mkF m 53 #[.val (.long s_), .second, .val (.int a), .val (.int b), .val (.int c0), .val (.int c1), .val (.int c2), .val (.int c3), .val (.int c4), .unset, .unset, .unset, .unset, .unset, .unset, .unset, .unset, .unset, .unset, .unset, .unset, .unset, .unset, .unset, .unset, .unset, .unset, .unset] [(.ref b7), (.ref b7), (.ref b6), (.ref b6)])) ?_ (fun t_ k_ => XS.dup X17.here hx rfl (hb hby at_52) rfl rfl k_)
  refine Goes.on (T' := T17) (g' := (mkF m 54 #[.val (.long s_), .second, .val (.int a), .val (.int b), .val (.int c0), .val (.int c1), .val (.int c2), .val (.int c3), .val (.int c4), .unset, .unset, .unset, .unset, .unset, .unset, .unset, .unset, .unset, .unset, .unset, .unset, .unset, .unset, .unset, .unset, .unset, .unset, .unset] [(.int (2 : Int32)), (.ref b7), (.ref b7), (.ref b6), (.ref b6)])) ?_ (fun t_ k_ => XS.iconst X17.here hx rfl (hb hby at_53) k_)
  refine Goes.on (T' := T17) (g' := (mkF m 56 #[.val (.long s_), .second, .val (.int a), .val (.int b), .val (.int c0), .val (.int c1), .val (.int c2), .val (.int c3), .val (.int c4), .unset, .unset, .unset, .unset, .unset, .unset, .unset, .unset, .unset, .unset, .unset, .unset, .unset, .unset, .unset, .unset, .unset, .unset, .unset] [(.int c2), (.int (2 : Int32)), (.ref b7), (.ref b7), (.ref b6), (.ref b6)])) ?_ (fun t_ k_ => XS.iload X17.here hx rfl (hb hby at_54) rfl k_)
  obtain ⟨cc21, A21, q21, S21, M21, H21, G21⟩ := V17
  obtain ⟨T22, h22, X22, e22, W22, st22⟩ := stC X17 hx hZ e17 A21 (j := (2 : Int32)) (inb_of S21 ⟨by decide, by decide⟩) (g := (mkF m 56 #[.val (.long s_), .second, .val (.int a), .val (.int b), .val (.int c0), .val (.int c1), .val (.int c2), .val (.int c3), .val (.int c4), .unset, .unset, .unset, .unset, .unset, .unset, .unset, .unset, .unset, .unset, .unset, .unset, .unset, .unset, .unset, .unset, .unset, .unset, .unset] [(.int c2), (.int (2 : Int32)), (.ref b7), (.ref b7), (.ref b6), (.ref b6)])) rfl rfl (hb hby at_56)
  have N22 := Fr.snoc X22 N17 g_b7
  have Z22 : n0 ≤ h22.size := Nat.le_trans Z17 (Nat.le_of_eq W22.size.symm)
  refine Goes.on (T' := T22) (g' := (mkF m 57 #[.val (.long s_), .second, .val (.int a), .val (.int b), .val (.int c0), .val (.int c1), .val (.int c2), .val (.int c3), .val (.int c4), .unset, .unset, .unset, .unset, .unset, .unset, .unset, .unset, .unset, .unset, .unset, .unset, .unset, .unset, .unset, .unset, .unset, .unset, .unset] [(.ref b7), (.ref b6), (.ref b6)])) ?_ st22
  have fx23 := fx18.other W22 (Or.inl (Nat.ne_of_lt (Nat.lt_of_lt_of_le A6.lt (Nat.le_of_eq gb7.symm))))
  have fx24 := fx19.other W22 (Or.inl (Nat.ne_of_lt (Nat.lt_of_lt_of_le A6.lt (Nat.le_of_eq gb7.symm))))
  have fx25 := fx20.wr W22
  have V22 : Arv Z h22 b7 k7 .char (5 : Int32) [.int c0, .int c1, .int c2, .int 0, .int 0] (.int 0) := by have q := Arv.set A21 q21 S21 M21 H21 G21 (fits_nar_char _) W22 2 rfl (Nat.le_of_ble_eq_true rfl); rw [own_narc hp2] at q; exact q
  refine Goes.on (T' := T22) (g' := (mkF m 58 #[.val (.long s_), .second, .val (.int a), .val (.int b), .val (.int c0), .val (.int c1), .val (.int c2), .val (.int c3), .val (.int c4), .unset, .unset, .unset, .unset, .unset, .unset, .unset, .unset, .unset, .unset, .unset, .unset, .unset, .unset, .unset, .unset, .unset, .unset, .unset] [(.ref b7), (.ref b7), (.ref b6), (.ref b6)])) ?_ (fun t_ k_ => XS.dup X22.here hx rfl (hb hby at_57) rfl rfl k_)
  refine Goes.on (T' := T22) (g' := (mkF m 59 #[.val (.long s_), .second, .val (.int a), .val (.int b), .val (.int c0), .val (.int c1), .val (.int c2), .val (.int c3), .val (.int c4), .unset, .unset, .unset, .unset, .unset, .unset, .unset, .unset, .unset, .unset, .unset, .unset, .unset, .unset, .unset, .unset, .unset, .unset, .unset] [(.int (3 : Int32)), (.ref b7), (.ref b7), (.ref b6), (.ref b6)])) ?_ (fun t_ k_ => XS.iconst X22.here hx rfl (hb hby at_58) k_)
  refine Goes.on (T' := T22) (g' := (mkF m 61 #[.val (.long s_), .second, .val (.int a), .val (.int b), .val (.int c0), .val (.int c1), .val (.int c2), .val (.int c3), .val (.int c4), .unset, .unset, .unset, .unset, .unset, .unset, .unset, .unset, .unset, .unset, .unset, .unset, .unset, .unset, .unset, .unset, .unset, .unset, .unset] [(.int c3), (.int (3 : Int32)), (.ref b7), (.ref b7), (.ref b6), (.ref b6)])) ?_ (fun t_ k_ => XS.iload X22.here hx rfl (hb hby at_59) rfl k_)
  obtain ⟨cc26, A26, q26, S26, M26, H26, G26⟩ := V22
  obtain ⟨T27, h27, X27, e27, W27, st27⟩ := stC X22 hx hZ e22 A26 (j := (3 : Int32)) (inb_of S26 ⟨by decide, by decide⟩) (g := (mkF m 61 #[.val (.long s_), .second, .val (.int a), .val (.int b), .val (.int c0), .val (.int c1), .val (.int c2), .val (.int c3), .val (.int c4), .unset, .unset, .unset, .unset, .unset, .unset, .unset, .unset, .unset, .unset, .unset, .unset, .unset, .unset, .unset, .unset, .unset, .unset, .unset] [(.int c3), (.int (3 : Int32)), (.ref b7), (.ref b7), (.ref b6), (.ref b6)])) rfl rfl (hb hby at_61)
  have N27 := Fr.snoc X27 N22 g_b7
  have Z27 : n0 ≤ h27.size := Nat.le_trans Z22 (Nat.le_of_eq W27.size.symm)
  refine Goes.on (T' := T27) (g' := (mkF m 62 #[.val (.long s_), .second, .val (.int a), .val (.int b), .val (.int c0), .val (.int c1), .val (.int c2), .val (.int c3), .val (.int c4), .unset, .unset, .unset, .unset, .unset, .unset, .unset, .unset, .unset, .unset, .unset, .unset, .unset, .unset, .unset, .unset, .unset, .unset, .unset] [(.ref b7), (.ref b6), (.ref b6)])) ?_ st27
  have fx28 := fx23.other W27 (Or.inl (Nat.ne_of_lt (Nat.lt_of_lt_of_le A6.lt (Nat.le_of_eq gb7.symm))))
  have fx29 := fx24.other W27 (Or.inl (Nat.ne_of_lt (Nat.lt_of_lt_of_le A6.lt (Nat.le_of_eq gb7.symm))))
  have fx30 := fx25.wr W27
  have V27 : Arv Z h27 b7 k7 .char (5 : Int32) [.int c0, .int c1, .int c2, .int c3, .int 0] (.int 0) := by have q := Arv.set A26 q26 S26 M26 H26 G26 (fits_nar_char _) W27 3 rfl (Nat.le_of_ble_eq_true rfl); rw [own_narc hp3] at q; exact q
  refine Goes.on (T' := T27) (g' := (mkF m 63 #[.val (.long s_), .second, .val (.int a), .val (.int b), .val (.int c0), .val (.int c1), .val (.int c2), .val (.int c3), .val (.int c4), .unset, .unset, .unset, .unset, .unset, .unset, .unset, .unset, .unset, .unset, .unset, .unset, .unset, .unset, .unset, .unset, .unset, .unset, .unset] [(.ref b7), (.ref b7), (.ref b6), (.ref b6)])) ?_ (fun t_ k_ => XS.dup X27.here hx rfl (hb hby at_62) rfl rfl k_)
  refine Goes.on (T' := T27) (g' := (mkF m 64 #[.val (.long s_), .second, .val (.int a), .val (.int b), .val (.int c0), .val (.int c1), .val (.int c2), .val (.int c3), .val (.int c4), .unset, .unset, .unset, .unset, .unset, .unset, .unset, .unset, .unset, .unset, .unset, .unset, .unset, .unset, .unset, .unset, .unset, .unset, .unset] [(.int (4 : Int32)), (.ref b7), (.ref b7), (.ref b6), (.ref b6)])) ?_ (fun t_ k_ => XS.iconst X27.here hx rfl (hb hby at_63) k_)
  refine Goes.on (T' := T27) (g' := (mkF m 66 #[.val (.long s_), .second, .val (.int a), .val (.int b), .val (.int c0), .val (.int c1), .val (.int c2), .val (.int c3), .val (.int c4), .unset, .unset, .unset, .unset, .unset, .unset, .unset, .unset, .unset, .unset, .unset, .unset, .unset, .unset, .unset, .unset, .unset, .unset, .unset] [(.int c4), (.int (4 : Int32)), (.ref b7), (.ref b7), (.ref b6), (.ref b6)])) ?_ (fun t_ k_ => XS.iload X27.here hx rfl (hb hby at_64) rfl k_)
  obtain ⟨cc31, A31, q31, S31, M31, H31, G31⟩ := V27
  obtain ⟨T32, h32, X32, e32, W32, st32⟩ := stC X27 hx hZ e27 A31 (j := (4 : Int32)) (inb_of S31 ⟨by decide, by decide⟩) (g := (mkF m 66 #[.val (.long s_), .second, .val (.int a), .val (.int b), .val (.int c0), .val (.int c1), .val (.int c2), .val (.int c3), .val (.int c4), .unset, .unset, .unset, .unset, .unset, .unset, .unset, .unset, .unset, .unset, .unset, .unset, .unset, .unset, .unset, .unset, .unset, .unset, .unset] [(.int c4), (.int (4 : Int32)), (.ref b7), (.ref b7), (.ref b6), (.ref b6)])) rfl rfl (hb hby at_66)
  have N32 := Fr.snoc X32 N27 g_b7
  have Z32 : n0 ≤ h32.size := Nat.le_trans Z27 (Nat.le_of_eq W32.size.symm)
  refine Goes.on (T' := T32) (g' := (mkF m 67 #[.val (.long s_), .second, .val (.int a), .val (.int b), .val (.int c0), .val (.int c1), .val (.int c2), .val (.int c3), .val (.int c4), .unset, .unset, .unset, .unset, .unset, .unset, .unset, .unset, .unset, .unset, .unset, .unset, .unset, .unset, .unset, .unset, .unset, .unset, .unset] [(.ref b7), (.ref b6), (.ref b6)])) ?_ st32
  have fx33 := fx28.other W32 (Or.inl (Nat.ne_of_lt (Nat.lt_of_lt_of_le A6.lt (Nat.le_of_eq gb7.symm))))
  have fx34 := fx29.other W32 (Or.inl (Nat.ne_of_lt (Nat.lt_of_lt_of_le A6.lt (Nat.le_of_eq gb7.symm))))
  have fx35 := fx30.wr W32
  have V32 : Arv Z h32 b7 k7 .char (5 : Int32) [.int c0, .int c1, .int c2, .int c3, .int c4] (.int 0) := by have q := Arv.set A31 q31 S31 M31 H31 G31 (fits_nar_char _) W32 4 rfl (Nat.le_of_ble_eq_true rfl); rw [own_narc hp4] at q; exact q
  have hp : ∀ c ∈ ([c0, c1, c2, c3, c4] : List Int32), ¬ c < 0 ∧ ¬ (255 : Int32) < c := by intro c hc; simp only [List.mem_cons, List.not_mem_nil, or_false] at hc; rcases hc with rfl | rfl | rfl | rfl | rfl <;> assumption
  have XO : Old Z n0 h32 := (((((((X00.ext E6).ext E7).wr W12 g_b7).wr W17 g_b7).wr W22 g_b7).wr W27 g_b7).wr W32 g_b7)
  obtain ⟨_, _, ⟨T36, Lq_36, kq_36, nq_36⟩, -, X36, ⟨Lc36, hQ36, l36, y36, z36⟩, st36⟩ := X32.specialBack hx (y := (⟨"java/lang/String", "<init>", "([C)V"⟩ : MethodName)) rfl hown (mvT hZ (hw _ (List.mem_of_getElem? (i := 8) rfl))) (mvT hZ (hw _ (List.mem_of_getElem? (i := 9) rfl))) (mvT hZ (hw _ (List.mem_of_getElem? (i := 10) rfl))) (by decide) (StrChars.Road.backV (W := 1) hZ hws (kI := 4) (hw _ (List.mem_of_getElem? (i := 5) rfl)) (cs := [c0, c1, c2, c3, c4]) (bs := ([c0, c1, c2, c3, c4] : List Int32).map (fun c => c.toInt8.toInt32)) (n := 5) g_b6 Z32 fx35 fx33 fx34 V32 (O2.ext XO.2) P5 rfl rfl (by decide) (by decide) hp rfl (by decide) (by decide)) (g := (mkF m 67 #[.val (.long s_), .second, .val (.int a), .val (.int b), .val (.int c0), .val (.int c1), .val (.int c2), .val (.int c3), .val (.int c4), .unset, .unset, .unset, .unset, .unset, .unset, .unset, .unset, .unset, .unset, .unset, .unset, .unset, .unset, .unset, .unset, .unset, .unset, .unset] [(.ref b7), (.ref b6), (.ref b6)])) rfl (by rw [hml]; rfl) (Steps.refl _) (a := b6) (argsL := [(.ref b7)]) (rest := [(.ref b6)]) (lenOf pd_10 rfl) rfl (by show 2 * 0 + _ ≤ _; exact Nat.le_of_eq rfl) (hb hby at_67) (fun _ _ => ⟨rfl, e32, (by decide : 2 + 1 ≤ _), (by decide : 9 + 5 ≤ _)⟩)
  dsimp only [Pt.U, Pt.locs, Pt.cells, Pt.slots] at X36 l36 y36 z36 st36 hQ36
  rw [l36, y36, z36] at X36
  change Stand p l e _ _ m _ below meth c T36 _ 3 14 at X36
  obtain ⟨rfl, N36q, K36, Es, Cs, ⟨tt, kb, gt, szt, nt, Vs, Ks⟩⟩ := hQ36
  have N36 := Fr.app N32 N36q
  refine Goes.on (T' := T36) (g' := (mkF m 70 #[.val (.long s_), .second, .val (.int a), .val (.int b), .val (.int c0), .val (.int c1), .val (.int c2), .val (.int c3), .val (.int c4), .unset, .unset, .unset, .unset, .unset, .unset, .unset, .unset, .unset, .unset, .unset, .unset, .unset, .unset, .unset, .unset, .unset, .unset, .unset] [(.ref b6)])) ?_ (fun t => st36.trans)
  have Zs : n0 ≤ T36.heap.size := Nat.le_trans Z32 K36.1
  have Xs : Old Z n0 T36.heap := XO.keep K36 (allS g_b6 all0)
  refine Goes.on (T' := T36) (g' := (mkF m 72 #[.val (.long s_), .second, .val (.int a), .val (.int b), .val (.int c0), .val (.int c1), .val (.int c2), .val (.int c3), .val (.int c4), .val (.ref b6), .unset, .unset, .unset, .unset, .unset, .unset, .unset, .unset, .unset, .unset, .unset, .unset, .unset, .unset, .unset, .unset, .unset, .unset] [])) ?_ (fun t_ k_ => XS.astore X36.here hx rfl (hb hby at_70) rfl rfl (l' := #[.val (.long s_), .second, .val (.int a), .val (.int b), .val (.int c0), .val (.int c1), .val (.int c2), .val (.int c3), .val (.int c4), .val (.ref b6), .unset, .unset, .unset, .unset, .unset, .unset, .unset, .unset, .unset, .unset, .unset, .unset, .unset, .unset, .unset, .unset, .unset, .unset]) rfl k_)
  refine Goes.on (T' := T36) (g' := (mkF m 73 #[.val (.long s_), .second, .val (.int a), .val (.int b), .val (.int c0), .val (.int c1), .val (.int c2), .val (.int c3), .val (.int c4), .val (.ref b6), .unset, .unset, .unset, .unset, .unset, .unset, .unset, .unset, .unset, .unset, .unset, .unset, .unset, .unset, .unset, .unset, .unset, .unset] [(.int a)])) ?_ (fun t_ k_ => XS.iloadN X36.here hx rfl (hb hby at_72) rfl k_)
  refine Goes.on (T' := T36) (g' := (mkF m 75 #[.val (.long s_), .second, .val (.int a), .val (.int b), .val (.int c0), .val (.int c1), .val (.int c2), .val (.int c3), .val (.int c4), .val (.ref b6), .unset, .unset, .unset, .unset, .unset, .unset, .unset, .unset, .unset, .unset, .unset, .unset, .unset, .unset, .unset, .unset, .unset, .unset] [(.int (2147483647 : Int32)), (.int a)])) ?_ (X36.ldcInt hx hown (mvT hZ (hw _ (List.mem_of_getElem? (i := 34) rfl))) (g := (mkF m 73 #[.val (.long s_), .second, .val (.int a), .val (.int b), .val (.int c0), .val (.int c1), .val (.int c2), .val (.int c3), .val (.int c4), .val (.ref b6), .unset, .unset, .unset, .unset, .unset, .unset, .unset, .unset, .unset, .unset, .unset, .unset, .unset, .unset, .unset, .unset, .unset, .unset] [(.int a)])) rfl (hb hby at_73))
  refine Goes.on (T' := T36) (g' := (mkF m 76 #[.val (.long s_), .second, .val (.int a), .val (.int b), .val (.int c0), .val (.int c1), .val (.int c2), .val (.int c3), .val (.int c4), .val (.ref b6), .unset, .unset, .unset, .unset, .unset, .unset, .unset, .unset, .unset, .unset, .unset, .unset, .unset, .unset, .unset, .unset, .unset, .unset] [(.int (a &&& (2147483647 : Int32)))])) ?_ (fun t_ k_ => XS.iand X36.here hx rfl (hb hby at_75) rfl k_)
  refine Goes.on (T' := T36) (g' := (mkF m 78 #[.val (.long s_), .second, .val (.int a), .val (.int b), .val (.int c0), .val (.int c1), .val (.int c2), .val (.int c3), .val (.int c4), .val (.ref b6), .unset, .unset, .unset, .unset, .unset, .unset, .unset, .unset, .unset, .unset, .unset, .unset, .unset, .unset, .unset, .unset, .unset, .unset] [(.int (6 : Int32)), (.int (a &&& (2147483647 : Int32)))])) ?_ (fun t_ k_ => XS.bipush X36.here hx rfl (hb hby at_76) k_)
  refine Goes.on (T' := T36) (g' := (mkF m 79 #[.val (.long s_), .second, .val (.int a), .val (.int b), .val (.int c0), .val (.int c1), .val (.int c2), .val (.int c3), .val (.int c4), .val (.ref b6), .unset, .unset, .unset, .unset, .unset, .unset, .unset, .unset, .unset, .unset, .unset, .unset, .unset, .unset, .unset, .unset, .unset, .unset] [(.int ((a &&& (2147483647 : Int32)) % (6 : Int32)))])) ?_ (fun t_ k_ => iremM X36 hx rfl (hb hby at_78) rfl (by decide) k_)
  obtain ⟨f, hf5, ef⟩ := own_from a
  rw [ef]
  refine Goes.on (T' := T36) (g' := (mkF m 81 #[.val (.long s_), .second, .val (.int a), .val (.int b), .val (.int c0), .val (.int c1), .val (.int c2), .val (.int c3), .val (.int c4), .val (.ref b6), .val (.int (Int32.ofNat f)), .unset, .unset, .unset, .unset, .unset, .unset, .unset, .unset, .unset, .unset, .unset, .unset, .unset, .unset, .unset, .unset, .unset] [])) ?_ (fun t_ k_ => XS.istore X36.here hx rfl (hb hby at_79) rfl (l' := #[.val (.long s_), .second, .val (.int a), .val (.int b), .val (.int c0), .val (.int c1), .val (.int c2), .val (.int c3), .val (.int c4), .val (.ref b6), .val (.int (Int32.ofNat f)), .unset, .unset, .unset, .unset, .unset, .unset, .unset, .unset, .unset, .unset, .unset, .unset, .unset, .unset, .unset, .unset, .unset]) rfl k_)
  refine Goes.on (T' := T36) (g' := (mkF m 83 #[.val (.long s_), .second, .val (.int a), .val (.int b), .val (.int c0), .val (.int c1), .val (.int c2), .val (.int c3), .val (.int c4), .val (.ref b6), .val (.int (Int32.ofNat f)), .unset, .unset, .unset, .unset, .unset, .unset, .unset, .unset, .unset, .unset, .unset, .unset, .unset, .unset, .unset, .unset, .unset] [(.int (Int32.ofNat f))])) ?_ (fun t_ k_ => XS.iload X36.here hx rfl (hb hby at_81) rfl k_)
  refine Goes.on (T' := T36) (g' := (mkF m 84 #[.val (.long s_), .second, .val (.int a), .val (.int b), .val (.int c0), .val (.int c1), .val (.int c2), .val (.int c3), .val (.int c4), .val (.ref b6), .val (.int (Int32.ofNat f)), .unset, .unset, .unset, .unset, .unset, .unset, .unset, .unset, .unset, .unset, .unset, .unset, .unset, .unset, .unset, .unset, .unset] [(.int b), (.int (Int32.ofNat f))])) ?_ (fun t_ k_ => XS.iloadN X36.here hx rfl (hb hby at_83) rfl k_)
  refine Goes.on (T' := T36) (g' := (mkF m 86 #[.val (.long s_), .second, .val (.int a), .val (.int b), .val (.int c0), .val (.int c1), .val (.int c2), .val (.int c3), .val (.int c4), .val (.ref b6), .val (.int (Int32.ofNat f)), .unset, .unset, .unset, .unset, .unset, .unset, .unset, .unset, .unset, .unset, .unset, .unset, .unset, .unset, .unset, .unset, .unset] [(.int (2147483647 : Int32)), (.int b), (.int (Int32.ofNat f))])) ?_ (X36.ldcInt hx hown (mvT hZ (hw _ (List.mem_of_getElem? (i := 34) rfl))) (g := (mkF m 84 #[.val (.long s_), .second, .val (.int a), .val (.int b), .val (.int c0), .val (.int c1), .val (.int c2), .val (.int c3), .val (.int c4), .val (.ref b6), .val (.int (Int32.ofNat f)), .unset, .unset, .unset, .unset, .unset, .unset, .unset, .unset, .unset, .unset, .unset, .unset, .unset, .unset, .unset, .unset, .unset] [(.int b), (.int (Int32.ofNat f))])) rfl (hb hby at_84))
  refine Goes.on (T' := T36) (g' := (mkF m 87 #[.val (.long s_), .second, .val (.int a), .val (.int b), .val (.int c0), .val (.int c1), .val (.int c2), .val (.int c3), .val (.int c4), .val (.ref b6), .val (.int (Int32.ofNat f)), .unset, .unset, .unset, .unset, .unset, .unset, .unset, .unset, .unset, .unset, .unset, .unset, .unset, .unset, .unset, .unset, .unset] [(.int (b &&& (2147483647 : Int32))), (.int (Int32.ofNat f))])) ?_ (fun t_ k_ => XS.iand X36.here hx rfl (hb hby at_86) rfl k_)
  refine Goes.on (T' := T36) (g' := (mkF m 89 #[.val (.long s_), .second, .val (.int a), .val (.int b), .val (.int c0), .val (.int c1), .val (.int c2), .val (.int c3), .val (.int c4), .val (.ref b6), .val (.int (Int32.ofNat f)), .unset, .unset, .unset, .unset, .unset, .unset, .unset, .unset, .unset, .unset, .unset, .unset, .unset, .unset, .unset, .unset, .unset] [(.int (6 : Int32)), (.int (b &&& (2147483647 : Int32))), (.int (Int32.ofNat f))])) ?_ (fun t_ k_ => XS.bipush X36.here hx rfl (hb hby at_87) k_)
  refine Goes.on (T' := T36) (g' := (mkF m 91 #[.val (.long s_), .second, .val (.int a), .val (.int b), .val (.int c0), .val (.int c1), .val (.int c2), .val (.int c3), .val (.int c4), .val (.ref b6), .val (.int (Int32.ofNat f)), .unset, .unset, .unset, .unset, .unset, .unset, .unset, .unset, .unset, .unset, .unset, .unset, .unset, .unset, .unset, .unset, .unset] [(.int (Int32.ofNat f)), (.int (6 : Int32)), (.int (b &&& (2147483647 : Int32))), (.int (Int32.ofNat f))])) ?_ (fun t_ k_ => XS.iload X36.here hx rfl (hb hby at_89) rfl k_)
  refine Goes.on (T' := T36) (g' := (mkF m 92 #[.val (.long s_), .second, .val (.int a), .val (.int b), .val (.int c0), .val (.int c1), .val (.int c2), .val (.int c3), .val (.int c4), .val (.ref b6), .val (.int (Int32.ofNat f)), .unset, .unset, .unset, .unset, .unset, .unset, .unset, .unset, .unset, .unset, .unset, .unset, .unset, .unset, .unset, .unset, .unset] [(.int ((6 : Int32) - (Int32.ofNat f))), (.int (b &&& (2147483647 : Int32))), (.int (Int32.ofNat f))])) ?_ (fun t_ k_ => XS.isub X36.here hx rfl (hb hby at_91) rfl k_)
  refine Goes.on (T' := T36) (g' := (mkF m 93 #[.val (.long s_), .second, .val (.int a), .val (.int b), .val (.int c0), .val (.int c1), .val (.int c2), .val (.int c3), .val (.int c4), .val (.ref b6), .val (.int (Int32.ofNat f)), .unset, .unset, .unset, .unset, .unset, .unset, .unset, .unset, .unset, .unset, .unset, .unset, .unset, .unset, .unset, .unset, .unset] [(.int ((b &&& (2147483647 : Int32)) % ((6 : Int32) - (Int32.ofNat f)))), (.int (Int32.ofNat f))])) ?_ (fun t_ k_ => iremM X36 hx rfl (hb hby at_92) rfl (own_nz hf5) k_)
  refine Goes.on (T' := T36) (g' := (mkF m 94 #[.val (.long s_), .second, .val (.int a), .val (.int b), .val (.int c0), .val (.int c1), .val (.int c2), .val (.int c3), .val (.int c4), .val (.ref b6), .val (.int (Int32.ofNat f)), .unset, .unset, .unset, .unset, .unset, .unset, .unset, .unset, .unset, .unset, .unset, .unset, .unset, .unset, .unset, .unset, .unset] [(.int ((Int32.ofNat f) + ((b &&& (2147483647 : Int32)) % ((6 : Int32) - (Int32.ofNat f)))))])) ?_ (fun t_ k_ => XS.iadd X36.here hx rfl (hb hby at_93) rfl k_)
  obtain ⟨t, hft, ht5, et⟩ := own_to b hf5
  rw [et]
  refine Goes.on (T' := T36) (g' := (mkF m 96 #[.val (.long s_), .second, .val (.int a), .val (.int b), .val (.int c0), .val (.int c1), .val (.int c2), .val (.int c3), .val (.int c4), .val (.ref b6), .val (.int (Int32.ofNat f)), .val (.int (Int32.ofNat t)), .unset, .unset, .unset, .unset, .unset, .unset, .unset, .unset, .unset, .unset, .unset, .unset, .unset, .unset, .unset, .unset] [])) ?_ (fun t_ k_ => XS.istore X36.here hx rfl (hb hby at_94) rfl (l' := #[.val (.long s_), .second, .val (.int a), .val (.int b), .val (.int c0), .val (.int c1), .val (.int c2), .val (.int c3), .val (.int c4), .val (.ref b6), .val (.int (Int32.ofNat f)), .val (.int (Int32.ofNat t)), .unset, .unset, .unset, .unset, .unset, .unset, .unset, .unset, .unset, .unset, .unset, .unset, .unset, .unset, .unset, .unset]) rfl k_)
  refine Goes.on (T' := T36) (g' := (mkF m 98 #[.val (.long s_), .second, .val (.int a), .val (.int b), .val (.int c0), .val (.int c1), .val (.int c2), .val (.int c3), .val (.int c4), .val (.ref b6), .val (.int (Int32.ofNat f)), .val (.int (Int32.ofNat t)), .unset, .unset, .unset, .unset, .unset, .unset, .unset, .unset, .unset, .unset, .unset, .unset, .unset, .unset, .unset, .unset] [(.ref b6)])) ?_ (fun t_ k_ => XS.aload X36.here hx rfl (hb hby at_96) rfl rfl k_)
  refine Goes.on (T' := T36) (g' := (mkF m 100 #[.val (.long s_), .second, .val (.int a), .val (.int b), .val (.int c0), .val (.int c1), .val (.int c2), .val (.int c3), .val (.int c4), .val (.ref b6), .val (.int (Int32.ofNat f)), .val (.int (Int32.ofNat t)), .unset, .unset, .unset, .unset, .unset, .unset, .unset, .unset, .unset, .unset, .unset, .unset, .unset, .unset, .unset, .unset] [(.int (Int32.ofNat f)), (.ref b6)])) ?_ (fun t_ k_ => XS.iload X36.here hx rfl (hb hby at_98) rfl k_)
  refine Goes.on (T' := T36) (g' := (mkF m 102 #[.val (.long s_), .second, .val (.int a), .val (.int b), .val (.int c0), .val (.int c1), .val (.int c2), .val (.int c3), .val (.int c4), .val (.ref b6), .val (.int (Int32.ofNat f)), .val (.int (Int32.ofNat t)), .unset, .unset, .unset, .unset, .unset, .unset, .unset, .unset, .unset, .unset, .unset, .unset, .unset, .unset, .unset, .unset] [(.int (Int32.ofNat t)), (.int (Int32.ofNat f)), (.ref b6)])) ?_ (fun t_ k_ => XS.iload X36.here hx rfl (hb hby at_100) rfl k_)
  obtain ⟨S_, E_, hSE⟩ : ∃ S E, own_brackets [c0, c1, c2, c3, c4] f t = (S, E) := ⟨_, _, rfl⟩
  obtain ⟨_, _, ⟨T37, Lq_37, kq_37, nq_37⟩, -, X37, ⟨Lc37, hQ37, l37, y37, z37⟩, st37⟩ := Jvm.LawKit.callS X36 hx (y := (⟨"com/example/covenantry/covenantry/read/Text$Matches", "brackets", "(Ljava/lang/String;II)Lcom/example/covenantry/covenantry/read/Text$Matches;"⟩ : MethodName)) hown (mvT hZ (hw _ (List.mem_of_getElem? (i := 35) rfl))) (mvT hZ (hw _ (List.mem_of_getElem? (i := 36) rfl))) (mvT hZ (hw _ (List.mem_of_getElem? (i := 37) rfl))) (mvT hZ (hw _ (List.mem_of_getElem? (i := 38) rfl))) (by decide) (backOf (W := 0) (rmBR l Z a0 hw [] b6 tt kb [c0, c1, c2, c3, c4] f t S_ E_ zc vf T36.heap n0 Zs Es Vs Cs Ks rfl hp hft ht5 hSE Xs O2 P5 O4 rG) hZ (hw _ (List.mem_of_getElem? (i := 38) rfl)) (hw _ (List.mem_of_getElem? (i := 37) rfl)) (by decide) (by decide)) (g := (mkF m 102 #[.val (.long s_), .second, .val (.int a), .val (.int b), .val (.int c0), .val (.int c1), .val (.int c2), .val (.int c3), .val (.int c4), .val (.ref b6), .val (.int (Int32.ofNat f)), .val (.int (Int32.ofNat t)), .unset, .unset, .unset, .unset, .unset, .unset, .unset, .unset, .unset, .unset, .unset, .unset, .unset, .unset, .unset, .unset] [(.int (Int32.ofNat t)), (.int (Int32.ofNat f)), (.ref b6)])) rfl (by rw [hml]; rfl) (argsL := [(.ref b6), (.int (Int32.ofNat f)), (.int (Int32.ofNat t))]) (rest := []) (lenOf pd_11 rfl) rfl (by show 2 * 0 + _ ≤ _; exact Nat.le_of_eq rfl) (hb hby at_102) (fun _ _ => ⟨rfl, rfl, (by decide : 3 + 6 ≤ _), (by decide : 14 + 69 ≤ _)⟩)
  dsimp only [Pt.U, Pt.locs, Pt.cells, Pt.slots] at X37 l37 y37 z37 st37 hQ37
  rw [l37, y37, z37] at X37
  change Stand p l e _ _ m _ below meth c T37 _ 9 83 at X37
  obtain ⟨mt, sa, ea, ks, ke, rfl, N37q, K37, Em, Fs, Fe, Vm, Ve, h6, hES⟩ := hQ37
  have N37 := Fr.app N36 N37q
  refine Goes.on (T' := T37) (g' := (mkF m 105 #[.val (.long s_), .second, .val (.int a), .val (.int b), .val (.int c0), .val (.int c1), .val (.int c2), .val (.int c3), .val (.int c4), .val (.ref b6), .val (.int (Int32.ofNat f)), .val (.int (Int32.ofNat t)), .unset, .unset, .unset, .unset, .unset, .unset, .unset, .unset, .unset, .unset, .unset, .unset, .unset, .unset, .unset, .unset] [(.ref mt)])) ?_ st37
  have Zm : n0 ≤ T37.heap.size := Nat.le_trans Zs K37.1
  obtain ⟨hM, ehM⟩ : ∃ z, z = T37.heap := ⟨_, rfl⟩
  rw [← ehM] at Em Fs Fe Vm Ve Zm
  refine Goes.on (T' := T37) (g' := (mkF m 107 #[.val (.long s_), .second, .val (.int a), .val (.int b), .val (.int c0), .val (.int c1), .val (.int c2), .val (.int c3), .val (.int c4), .val (.ref b6), .val (.int (Int32.ofNat f)), .val (.int (Int32.ofNat t)), .val (.ref mt), .unset, .unset, .unset, .unset, .unset, .unset, .unset, .unset, .unset, .unset, .unset, .unset, .unset, .unset, .unset] [])) ?_ (fun t_ k_ => XS.astore X37.here hx rfl (hb hby at_105) rfl rfl (l' := #[.val (.long s_), .second, .val (.int a), .val (.int b), .val (.int c0), .val (.int c1), .val (.int c2), .val (.int c3), .val (.int c4), .val (.ref b6), .val (.int (Int32.ofNat f)), .val (.int (Int32.ofNat t)), .val (.ref mt), .unset, .unset, .unset, .unset, .unset, .unset, .unset, .unset, .unset, .unset, .unset, .unset, .unset, .unset, .unset]) rfl k_)
  refine Goes.on (T' := T37) (g' := (mkF m 108 #[.val (.long s_), .second, .val (.int a), .val (.int b), .val (.int c0), .val (.int c1), .val (.int c2), .val (.int c3), .val (.int c4), .val (.ref b6), .val (.int (Int32.ofNat f)), .val (.int (Int32.ofNat t)), .val (.ref mt), .unset, .unset, .unset, .unset, .unset, .unset, .unset, .unset, .unset, .unset, .unset, .unset, .unset, .unset, .unset] [(.int (0 : Int32))])) ?_ (fun t_ k_ => XS.iconst X37.here hx rfl (hb hby at_107) k_)
  refine Goes.on (T' := T37) (g' := (mkF m 110 #[.val (.long s_), .second, .val (.int a), .val (.int b), .val (.int c0), .val (.int c1), .val (.int c2), .val (.int c3), .val (.int c4), .val (.ref b6), .val (.int (Int32.ofNat f)), .val (.int (Int32.ofNat t)), .val (.ref mt), .unset, .unset, .unset, .unset, .unset, .unset, .unset, .unset, .unset, .unset, .unset, .unset, .unset, .unset, .unset] [(.int c0), (.int (0 : Int32))])) ?_ (fun t_ k_ => XS.iload X37.here hx rfl (hb hby at_108) rfl k_)
  refine Goes.on (T' := T37) (g' := (mkF m 111 #[.val (.long s_), .second, .val (.int a), .val (.int b), .val (.int c0), .val (.int c1), .val (.int c2), .val (.int c3), .val (.int c4), .val (.ref b6), .val (.int (Int32.ofNat f)), .val (.int (Int32.ofNat t)), .val (.ref mt), .unset, .unset, .unset, .unset, .unset, .unset, .unset, .unset, .unset, .unset, .unset, .unset, .unset, .unset, .unset] [(.int (0 : Int32)), (.int c0), (.int (0 : Int32))])) ?_ (fun t_ k_ => XS.iconst X37.here hx rfl (hb hby at_110) k_)
  refine Goes.on (T' := T37) (g' := (mkF m 113 #[.val (.long s_), .second, .val (.int a), .val (.int b), .val (.int c0), .val (.int c1), .val (.int c2), .val (.int c3), .val (.int c4), .val (.ref b6), .val (.int (Int32.ofNat f)), .val (.int (Int32.ofNat t)), .val (.ref mt), .unset, .unset, .unset, .unset, .unset, .unset, .unset, .unset, .unset, .unset, .unset, .unset, .unset, .unset, .unset] [(.int (Int32.ofNat f)), (.int (0 : Int32)), (.int c0), (.int (0 : Int32))])) ?_ (fun t_ k_ => XS.iload X37.here hx rfl (hb hby at_111) rfl k_)
  refine Goes.on (T' := T37) (g' := (mkF m 115 #[.val (.long s_), .second, .val (.int a), .val (.int b), .val (.int c0), .val (.int c1), .val (.int c2), .val (.int c3), .val (.int c4), .val (.ref b6), .val (.int (Int32.ofNat f)), .val (.int (Int32.ofNat t)), .val (.ref mt), .unset, .unset, .unset, .unset, .unset, .unset, .unset, .unset, .unset, .unset, .unset, .unset, .unset, .unset, .unset] [(.int (Int32.ofNat t)), (.int (Int32.ofNat f)), (.int (0 : Int32)), (.int c0), (.int (0 : Int32))])) ?_ (fun t_ k_ => XS.iload X37.here hx rfl (hb hby at_113) rfl k_)
  obtain ⟨_, _, ⟨T38, Lq_38, kq_38, nq_38⟩, -, X38, ⟨Lc38, hQ38, l38, y38, z38⟩, st38⟩ := Jvm.LawKit.callS X37 hx (y := (⟨"com/example/covenantry/covenantry/read/MatchesBracketsPinLaw", "next", "(ICIII)I"⟩ : MethodName)) hown (mvT hZ (hw _ (List.mem_of_getElem? (i := 107) rfl))) (mvT hZ (hw _ (List.mem_of_getElem? (i := 108) rfl))) (mvT hZ (hw _ (List.mem_of_getElem? (i := 2) rfl))) (mvT hZ (hw _ (List.mem_of_getElem? (i := 109) rfl))) (by decide) (backOf (W := 0) (rmNX l Z a0 hw [] (0 : Int32) c0 (0 : Int32) (Int32.ofNat f) (Int32.ofNat t) hM n0 Zm) hZ (hw _ (List.mem_of_getElem? (i := 109) rfl)) (hw _ (List.mem_of_getElem? (i := 2) rfl)) (by decide) (by decide)) (g := (mkF m 115 #[.val (.long s_), .second, .val (.int a), .val (.int b), .val (.int c0), .val (.int c1), .val (.int c2), .val (.int c3), .val (.int c4), .val (.ref b6), .val (.int (Int32.ofNat f)), .val (.int (Int32.ofNat t)), .val (.ref mt), .unset, .unset, .unset, .unset, .unset, .unset, .unset, .unset, .unset, .unset, .unset, .unset, .unset, .unset, .unset] [(.int (Int32.ofNat t)), (.int (Int32.ofNat f)), (.int (0 : Int32)), (.int c0), (.int (0 : Int32))])) rfl (by rw [hml]; rfl) (argsL := [(.int (0 : Int32)), (.int c0), (.int (0 : Int32)), (.int (Int32.ofNat f)), (.int (Int32.ofNat t))]) (rest := []) (lenOf pd_12 rfl) rfl (by show 2 * 0 + _ ≤ _; exact Nat.le_of_eq rfl) (hb hby at_115) (fun _ _ => ⟨rfl, ehM.symm, (by decide : 9 + 0 ≤ _), (by decide : 83 + 0 ≤ _)⟩)
  dsimp only [Pt.U, Pt.locs, Pt.cells, Pt.slots] at X38 l38 y38 z38 st38 hQ38
  rw [l38, y38, z38] at X38
  change Stand p l e _ _ m _ below meth c T38 _ 9 83 at X38
  obtain ⟨rfl, N38q, eh38⟩ := hQ38
  have N38 := Fr.app N37 N38q
  refine Goes.on (T' := T38) (g' := (mkF m 118 #[.val (.long s_), .second, .val (.int a), .val (.int b), .val (.int c0), .val (.int c1), .val (.int c2), .val (.int c3), .val (.int c4), .val (.ref b6), .val (.int (Int32.ofNat f)), .val (.int (Int32.ofNat t)), .val (.ref mt), .unset, .unset, .unset, .unset, .unset, .unset, .unset, .unset, .unset, .unset, .unset, .unset, .unset, .unset, .unset] [(.int (own_next (0 : Int32) c0 (0 : Int32) (Int32.ofNat f) (Int32.ofNat t)))])) ?_ st38
  obtain ⟨d1, hd1⟩ : ∃ z, z = own_next (0 : Int32) c0 (0 : Int32) (Int32.ofNat f) (Int32.ofNat t) := ⟨_, rfl⟩
  rw [← hd1]
  refine Goes.on (T' := T38) (g' := (mkF m 120 #[.val (.long s_), .second, .val (.int a), .val (.int b), .val (.int c0), .val (.int c1), .val (.int c2), .val (.int c3), .val (.int c4), .val (.ref b6), .val (.int (Int32.ofNat f)), .val (.int (Int32.ofNat t)), .val (.ref mt), .val (.int d1), .unset, .unset, .unset, .unset, .unset, .unset, .unset, .unset, .unset, .unset, .unset, .unset, .unset, .unset] [])) ?_ (fun t_ k_ => XS.istore X38.here hx rfl (hb hby at_118) rfl (l' := #[.val (.long s_), .second, .val (.int a), .val (.int b), .val (.int c0), .val (.int c1), .val (.int c2), .val (.int c3), .val (.int c4), .val (.ref b6), .val (.int (Int32.ofNat f)), .val (.int (Int32.ofNat t)), .val (.ref mt), .val (.int d1), .unset, .unset, .unset, .unset, .unset, .unset, .unset, .unset, .unset, .unset, .unset, .unset, .unset, .unset]) rfl k_)
  refine Goes.on (T' := T38) (g' := (mkF m 122 #[.val (.long s_), .second, .val (.int a), .val (.int b), .val (.int c0), .val (.int c1), .val (.int c2), .val (.int c3), .val (.int c4), .val (.ref b6), .val (.int (Int32.ofNat f)), .val (.int (Int32.ofNat t)), .val (.ref mt), .val (.int d1), .unset, .unset, .unset, .unset, .unset, .unset, .unset, .unset, .unset, .unset, .unset, .unset, .unset, .unset] [(.int d1)])) ?_ (fun t_ k_ => XS.iload X38.here hx rfl (hb hby at_120) rfl k_)
  refine Goes.on (T' := T38) (g' := (mkF m 124 #[.val (.long s_), .second, .val (.int a), .val (.int b), .val (.int c0), .val (.int c1), .val (.int c2), .val (.int c3), .val (.int c4), .val (.ref b6), .val (.int (Int32.ofNat f)), .val (.int (Int32.ofNat t)), .val (.ref mt), .val (.int d1), .unset, .unset, .unset, .unset, .unset, .unset, .unset, .unset, .unset, .unset, .unset, .unset, .unset, .unset] [(.int c1), (.int d1)])) ?_ (fun t_ k_ => XS.iload X38.here hx rfl (hb hby at_122) rfl k_)
  refine Goes.on (T' := T38) (g' := (mkF m 125 #[.val (.long s_), .second, .val (.int a), .val (.int b), .val (.int c0), .val (.int c1), .val (.int c2), .val (.int c3), .val (.int c4), .val (.ref b6), .val (.int (Int32.ofNat f)), .val (.int (Int32.ofNat t)), .val (.ref mt), .val (.int d1), .unset, .unset, .unset, .unset, .unset, .unset, .unset, .unset, .unset, .unset, .unset, .unset, .unset, .unset] [(.int (1 : Int32)), (.int c1), (.int d1)])) ?_ (fun t_ k_ => XS.iconst X38.here hx rfl (hb hby at_124) k_)
  refine Goes.on (T' := T38) (g' := (mkF m 127 #[.val (.long s_), .second, .val (.int a), .val (.int b), .val (.int c0), .val (.int c1), .val (.int c2), .val (.int c3), .val (.int c4), .val (.ref b6), .val (.int (Int32.ofNat f)), .val (.int (Int32.ofNat t)), .val (.ref mt), .val (.int d1), .unset, .unset, .unset, .unset, .unset, .unset, .unset, .unset, .unset, .unset, .unset, .unset, .unset, .unset] [(.int (Int32.ofNat f)), (.int (1 : Int32)), (.int c1), (.int d1)])) ?_ (fun t_ k_ => XS.iload X38.here hx rfl (hb hby at_125) rfl k_)
  refine Goes.on (T' := T38) (g' := (mkF m 129 #[.val (.long s_), .second, .val (.int a), .val (.int b), .val (.int c0), .val (.int c1), .val (.int c2), .val (.int c3), .val (.int c4), .val (.ref b6), .val (.int (Int32.ofNat f)), .val (.int (Int32.ofNat t)), .val (.ref mt), .val (.int d1), .unset, .unset, .unset, .unset, .unset, .unset, .unset, .unset, .unset, .unset, .unset, .unset, .unset, .unset] [(.int (Int32.ofNat t)), (.int (Int32.ofNat f)), (.int (1 : Int32)), (.int c1), (.int d1)])) ?_ (fun t_ k_ => XS.iload X38.here hx rfl (hb hby at_127) rfl k_)
  obtain ⟨_, _, ⟨T39, Lq_39, kq_39, nq_39⟩, -, X39, ⟨Lc39, hQ39, l39, y39, z39⟩, st39⟩ := Jvm.LawKit.callS X38 hx (y := (⟨"com/example/covenantry/covenantry/read/MatchesBracketsPinLaw", "next", "(ICIII)I"⟩ : MethodName)) hown (mvT hZ (hw _ (List.mem_of_getElem? (i := 107) rfl))) (mvT hZ (hw _ (List.mem_of_getElem? (i := 108) rfl))) (mvT hZ (hw _ (List.mem_of_getElem? (i := 2) rfl))) (mvT hZ (hw _ (List.mem_of_getElem? (i := 109) rfl))) (by decide) (backOf (W := 0) (rmNX l Z a0 hw [] d1 c1 (1 : Int32) (Int32.ofNat f) (Int32.ofNat t) hM n0 Zm) hZ (hw _ (List.mem_of_getElem? (i := 109) rfl)) (hw _ (List.mem_of_getElem? (i := 2) rfl)) (by decide) (by decide)) (g := (mkF m 129 #[.val (.long s_), .second, .val (.int a), .val (.int b), .val (.int c0), .val (.int c1), .val (.int c2), .val (.int c3), .val (.int c4), .val (.ref b6), .val (.int (Int32.ofNat f)), .val (.int (Int32.ofNat t)), .val (.ref mt), .val (.int d1), .unset, .unset, .unset, .unset, .unset, .unset, .unset, .unset, .unset, .unset, .unset, .unset, .unset, .unset] [(.int (Int32.ofNat t)), (.int (Int32.ofNat f)), (.int (1 : Int32)), (.int c1), (.int d1)])) rfl (by rw [hml]; rfl) (argsL := [(.int d1), (.int c1), (.int (1 : Int32)), (.int (Int32.ofNat f)), (.int (Int32.ofNat t))]) (rest := []) (lenOf pd_12 rfl) rfl (by show 2 * 0 + _ ≤ _; exact Nat.le_of_eq rfl) (hb hby at_129) (fun _ _ => ⟨rfl, eh38, (by decide : 9 + 0 ≤ _), (by decide : 83 + 0 ≤ _)⟩)
  dsimp only [Pt.U, Pt.locs, Pt.cells, Pt.slots] at X39 l39 y39 z39 st39 hQ39
  rw [l39, y39, z39] at X39
  change Stand p l e _ _ m _ below meth c T39 _ 9 83 at X39
  obtain ⟨rfl, N39q, eh39⟩ := hQ39
  have N39 := Fr.app N38 N39q
  refine Goes.on (T' := T39) (g' := (mkF m 132 #[.val (.long s_), .second, .val (.int a), .val (.int b), .val (.int c0), .val (.int c1), .val (.int c2), .val (.int c3), .val (.int c4), .val (.ref b6), .val (.int (Int32.ofNat f)), .val (.int (Int32.ofNat t)), .val (.ref mt), .val (.int d1), .unset, .unset, .unset, .unset, .unset, .unset, .unset, .unset, .unset, .unset, .unset, .unset, .unset, .unset] [(.int (own_next d1 c1 (1 : Int32) (Int32.ofNat f) (Int32.ofNat t)))])) ?_ st39
  obtain ⟨d2, hd2⟩ : ∃ z, z = own_next d1 c1 (1 : Int32) (Int32.ofNat f) (Int32.ofNat t) := ⟨_, rfl⟩
  rw [← hd2]
  refine Goes.on (T' := T39) (g' := (mkF m 134 #[.val (.long s_), .second, .val (.int a), .val (.int b), .val (.int c0), .val (.int c1), .val (.int c2), .val (.int c3), .val (.int c4), .val (.ref b6), .val (.int (Int32.ofNat f)), .val (.int (Int32.ofNat t)), .val (.ref mt), .val (.int d1), .val (.int d2), .unset, .unset, .unset, .unset, .unset, .unset, .unset, .unset, .unset, .unset, .unset, .unset, .unset] [])) ?_ (fun t_ k_ => XS.istore X39.here hx rfl (hb hby at_132) rfl (l' := #[.val (.long s_), .second, .val (.int a), .val (.int b), .val (.int c0), .val (.int c1), .val (.int c2), .val (.int c3), .val (.int c4), .val (.ref b6), .val (.int (Int32.ofNat f)), .val (.int (Int32.ofNat t)), .val (.ref mt), .val (.int d1), .val (.int d2), .unset, .unset, .unset, .unset, .unset, .unset, .unset, .unset, .unset, .unset, .unset, .unset, .unset]) rfl k_)
  refine Goes.on (T' := T39) (g' := (mkF m 136 #[.val (.long s_), .second, .val (.int a), .val (.int b), .val (.int c0), .val (.int c1), .val (.int c2), .val (.int c3), .val (.int c4), .val (.ref b6), .val (.int (Int32.ofNat f)), .val (.int (Int32.ofNat t)), .val (.ref mt), .val (.int d1), .val (.int d2), .unset, .unset, .unset, .unset, .unset, .unset, .unset, .unset, .unset, .unset, .unset, .unset, .unset] [(.int d2)])) ?_ (fun t_ k_ => XS.iload X39.here hx rfl (hb hby at_134) rfl k_)
  refine Goes.on (T' := T39) (g' := (mkF m 138 #[.val (.long s_), .second, .val (.int a), .val (.int b), .val (.int c0), .val (.int c1), .val (.int c2), .val (.int c3), .val (.int c4), .val (.ref b6), .val (.int (Int32.ofNat f)), .val (.int (Int32.ofNat t)), .val (.ref mt), .val (.int d1), .val (.int d2), .unset, .unset, .unset, .unset, .unset, .unset, .unset, .unset, .unset, .unset, .unset, .unset, .unset] [(.int c2), (.int d2)])) ?_ (fun t_ k_ => XS.iload X39.here hx rfl (hb hby at_136) rfl k_)
  refine Goes.on (T' := T39) (g' := (mkF m 139 #[.val (.long s_), .second, .val (.int a), .val (.int b), .val (.int c0), .val (.int c1), .val (.int c2), .val (.int c3), .val (.int c4), .val (.ref b6), .val (.int (Int32.ofNat f)), .val (.int (Int32.ofNat t)), .val (.ref mt), .val (.int d1), .val (.int d2), .unset, .unset, .unset, .unset, .unset, .unset, .unset, .unset, .unset, .unset, .unset, .unset, .unset] [(.int (2 : Int32)), (.int c2), (.int d2)])) ?_ (fun t_ k_ => XS.iconst X39.here hx rfl (hb hby at_138) k_)
  refine Goes.on (T' := T39) (g' := (mkF m 141 #[.val (.long s_), .second, .val (.int a), .val (.int b), .val (.int c0), .val (.int c1), .val (.int c2), .val (.int c3), .val (.int c4), .val (.ref b6), .val (.int (Int32.ofNat f)), .val (.int (Int32.ofNat t)), .val (.ref mt), .val (.int d1), .val (.int d2), .unset, .unset, .unset, .unset, .unset, .unset, .unset, .unset, .unset, .unset, .unset, .unset, .unset] [(.int (Int32.ofNat f)), (.int (2 : Int32)), (.int c2), (.int d2)])) ?_ (fun t_ k_ => XS.iload X39.here hx rfl (hb hby at_139) rfl k_)
  refine Goes.on (T' := T39) (g' := (mkF m 143 #[.val (.long s_), .second, .val (.int a), .val (.int b), .val (.int c0), .val (.int c1), .val (.int c2), .val (.int c3), .val (.int c4), .val (.ref b6), .val (.int (Int32.ofNat f)), .val (.int (Int32.ofNat t)), .val (.ref mt), .val (.int d1), .val (.int d2), .unset, .unset, .unset, .unset, .unset, .unset, .unset, .unset, .unset, .unset, .unset, .unset, .unset] [(.int (Int32.ofNat t)), (.int (Int32.ofNat f)), (.int (2 : Int32)), (.int c2), (.int d2)])) ?_ (fun t_ k_ => XS.iload X39.here hx rfl (hb hby at_141) rfl k_)
  obtain ⟨_, _, ⟨T40, Lq_40, kq_40, nq_40⟩, -, X40, ⟨Lc40, hQ40, l40, y40, z40⟩, st40⟩ := Jvm.LawKit.callS X39 hx (y := (⟨"com/example/covenantry/covenantry/read/MatchesBracketsPinLaw", "next", "(ICIII)I"⟩ : MethodName)) hown (mvT hZ (hw _ (List.mem_of_getElem? (i := 107) rfl))) (mvT hZ (hw _ (List.mem_of_getElem? (i := 108) rfl))) (mvT hZ (hw _ (List.mem_of_getElem? (i := 2) rfl))) (mvT hZ (hw _ (List.mem_of_getElem? (i := 109) rfl))) (by decide) (backOf (W := 0) (rmNX l Z a0 hw [] d2 c2 (2 : Int32) (Int32.ofNat f) (Int32.ofNat t) hM n0 Zm) hZ (hw _ (List.mem_of_getElem? (i := 109) rfl)) (hw _ (List.mem_of_getElem? (i := 2) rfl)) (by decide) (by decide)) (g := (mkF m 143 #[.val (.long s_), .second, .val (.int a), .val (.int b), .val (.int c0), .val (.int c1), .val (.int c2), .val (.int c3), .val (.int c4), .val (.ref b6), .val (.int (Int32.ofNat f)), .val (.int (Int32.ofNat t)), .val (.ref mt), .val (.int d1), .val (.int d2), .unset, .unset, .unset, .unset, .unset, .unset, .unset, .unset, .unset, .unset, .unset, .unset, .unset] [(.int (Int32.ofNat t)), (.int (Int32.ofNat f)), (.int (2 : Int32)), (.int c2), (.int d2)])) rfl (by rw [hml]; rfl) (argsL := [(.int d2), (.int c2), (.int (2 : Int32)), (.int (Int32.ofNat f)), (.int (Int32.ofNat t))]) (rest := []) (lenOf pd_12 rfl) rfl (by show 2 * 0 + _ ≤ _; exact Nat.le_of_eq rfl) (hb hby at_143) (fun _ _ => ⟨rfl, eh39, (by decide : 9 + 0 ≤ _), (by decide : 83 + 0 ≤ _)⟩)
  dsimp only [Pt.U, Pt.locs, Pt.cells, Pt.slots] at X40 l40 y40 z40 st40 hQ40
  rw [l40, y40, z40] at X40
  change Stand p l e _ _ m _ below meth c T40 _ 9 83 at X40
  obtain ⟨rfl, N40q, eh40⟩ := hQ40
  have N40 := Fr.app N39 N40q
  refine Goes.on (T' := T40) (g' := (mkF m 146 #[.val (.long s_), .second, .val (.int a), .val (.int b), .val (.int c0), .val (.int c1), .val (.int c2), .val (.int c3), .val (.int c4), .val (.ref b6), .val (.int (Int32.ofNat f)), .val (.int (Int32.ofNat t)), .val (.ref mt), .val (.int d1), .val (.int d2), .unset, .unset, .unset, .unset, .unset, .unset, .unset, .unset, .unset, .unset, .unset, .unset, .unset] [(.int (own_next d2 c2 (2 : Int32) (Int32.ofNat f) (Int32.ofNat t)))])) ?_ st40
  obtain ⟨d3, hd3⟩ : ∃ z, z = own_next d2 c2 (2 : Int32) (Int32.ofNat f) (Int32.ofNat t) := ⟨_, rfl⟩
  rw [← hd3]
  refine Goes.on (T' := T40) (g' := (mkF m 148 #[.val (.long s_), .second, .val (.int a), .val (.int b), .val (.int c0), .val (.int c1), .val (.int c2), .val (.int c3), .val (.int c4), .val (.ref b6), .val (.int (Int32.ofNat f)), .val (.int (Int32.ofNat t)), .val (.ref mt), .val (.int d1), .val (.int d2), .val (.int d3), .unset, .unset, .unset, .unset, .unset, .unset, .unset, .unset, .unset, .unset, .unset, .unset] [])) ?_ (fun t_ k_ => XS.istore X40.here hx rfl (hb hby at_146) rfl (l' := #[.val (.long s_), .second, .val (.int a), .val (.int b), .val (.int c0), .val (.int c1), .val (.int c2), .val (.int c3), .val (.int c4), .val (.ref b6), .val (.int (Int32.ofNat f)), .val (.int (Int32.ofNat t)), .val (.ref mt), .val (.int d1), .val (.int d2), .val (.int d3), .unset, .unset, .unset, .unset, .unset, .unset, .unset, .unset, .unset, .unset, .unset, .unset]) rfl k_)
  refine Goes.on (T' := T40) (g' := (mkF m 150 #[.val (.long s_), .second, .val (.int a), .val (.int b), .val (.int c0), .val (.int c1), .val (.int c2), .val (.int c3), .val (.int c4), .val (.ref b6), .val (.int (Int32.ofNat f)), .val (.int (Int32.ofNat t)), .val (.ref mt), .val (.int d1), .val (.int d2), .val (.int d3), .unset, .unset, .unset, .unset, .unset, .unset, .unset, .unset, .unset, .unset, .unset, .unset] [(.int d3)])) ?_ (fun t_ k_ => XS.iload X40.here hx rfl (hb hby at_148) rfl k_)
  refine Goes.on (T' := T40) (g' := (mkF m 152 #[.val (.long s_), .second, .val (.int a), .val (.int b), .val (.int c0), .val (.int c1), .val (.int c2), .val (.int c3), .val (.int c4), .val (.ref b6), .val (.int (Int32.ofNat f)), .val (.int (Int32.ofNat t)), .val (.ref mt), .val (.int d1), .val (.int d2), .val (.int d3), .unset, .unset, .unset, .unset, .unset, .unset, .unset, .unset, .unset, .unset, .unset, .unset] [(.int c3), (.int d3)])) ?_ (fun t_ k_ => XS.iload X40.here hx rfl (hb hby at_150) rfl k_)
  refine Goes.on (T' := T40) (g' := (mkF m 153 #[.val (.long s_), .second, .val (.int a), .val (.int b), .val (.int c0), .val (.int c1), .val (.int c2), .val (.int c3), .val (.int c4), .val (.ref b6), .val (.int (Int32.ofNat f)), .val (.int (Int32.ofNat t)), .val (.ref mt), .val (.int d1), .val (.int d2), .val (.int d3), .unset, .unset, .unset, .unset, .unset, .unset, .unset, .unset, .unset, .unset, .unset, .unset] [(.int (3 : Int32)), (.int c3), (.int d3)])) ?_ (fun t_ k_ => XS.iconst X40.here hx rfl (hb hby at_152) k_)
  refine Goes.on (T' := T40) (g' := (mkF m 155 #[.val (.long s_), .second, .val (.int a), .val (.int b), .val (.int c0), .val (.int c1), .val (.int c2), .val (.int c3), .val (.int c4), .val (.ref b6), .val (.int (Int32.ofNat f)), .val (.int (Int32.ofNat t)), .val (.ref mt), .val (.int d1), .val (.int d2), .val (.int d3), .unset, .unset, .unset, .unset, .unset, .unset, .unset, .unset, .unset, .unset, .unset, .unset] [(.int (Int32.ofNat f)), (.int (3 : Int32)), (.int c3), (.int d3)])) ?_ (fun t_ k_ => XS.iload X40.here hx rfl (hb hby at_153) rfl k_)
  refine Goes.on (T' := T40) (g' := (mkF m 157 #[.val (.long s_), .second, .val (.int a), .val (.int b), .val (.int c0), .val (.int c1), .val (.int c2), .val (.int c3), .val (.int c4), .val (.ref b6), .val (.int (Int32.ofNat f)), .val (.int (Int32.ofNat t)), .val (.ref mt), .val (.int d1), .val (.int d2), .val (.int d3), .unset, .unset, .unset, .unset, .unset, .unset, .unset, .unset, .unset, .unset, .unset, .unset] [(.int (Int32.ofNat t)), (.int (Int32.ofNat f)), (.int (3 : Int32)), (.int c3), (.int d3)])) ?_ (fun t_ k_ => XS.iload X40.here hx rfl (hb hby at_155) rfl k_)
  obtain ⟨_, _, ⟨T41, Lq_41, kq_41, nq_41⟩, -, X41, ⟨Lc41, hQ41, l41, y41, z41⟩, st41⟩ := Jvm.LawKit.callS X40 hx (y := (⟨"com/example/covenantry/covenantry/read/MatchesBracketsPinLaw", "next", "(ICIII)I"⟩ : MethodName)) hown (mvT hZ (hw _ (List.mem_of_getElem? (i := 107) rfl))) (mvT hZ (hw _ (List.mem_of_getElem? (i := 108) rfl))) (mvT hZ (hw _ (List.mem_of_getElem? (i := 2) rfl))) (mvT hZ (hw _ (List.mem_of_getElem? (i := 109) rfl))) (by decide) (backOf (W := 0) (rmNX l Z a0 hw [] d3 c3 (3 : Int32) (Int32.ofNat f) (Int32.ofNat t) hM n0 Zm) hZ (hw _ (List.mem_of_getElem? (i := 109) rfl)) (hw _ (List.mem_of_getElem? (i := 2) rfl)) (by decide) (by decide)) (g := (mkF m 157 #[.val (.long s_), .second, .val (.int a), .val (.int b), .val (.int c0), .val (.int c1), .val (.int c2), .val (.int c3), .val (.int c4), .val (.ref b6), .val (.int (Int32.ofNat f)), .val (.int (Int32.ofNat t)), .val (.ref mt), .val (.int d1), .val (.int d2), .val (.int d3), .unset, .unset, .unset, .unset, .unset, .unset, .unset, .unset, .unset, .unset, .unset, .unset] [(.int (Int32.ofNat t)), (.int (Int32.ofNat f)), (.int (3 : Int32)), (.int c3), (.int d3)])) rfl (by rw [hml]; rfl) (argsL := [(.int d3), (.int c3), (.int (3 : Int32)), (.int (Int32.ofNat f)), (.int (Int32.ofNat t))]) (rest := []) (lenOf pd_12 rfl) rfl (by show 2 * 0 + _ ≤ _; exact Nat.le_of_eq rfl) (hb hby at_157) (fun _ _ => ⟨rfl, eh40, (by decide : 9 + 0 ≤ _), (by decide : 83 + 0 ≤ _)⟩)
  dsimp only [Pt.U, Pt.locs, Pt.cells, Pt.slots] at X41 l41 y41 z41 st41 hQ41
  rw [l41, y41, z41] at X41
  change Stand p l e _ _ m _ below meth c T41 _ 9 83 at X41
  obtain ⟨rfl, N41q, eh41⟩ := hQ41
  have N41 := Fr.app N40 N41q
  refine Goes.on (T' := T41) (g' := (mkF m 160 #[.val (.long s_), .second, .val (.int a), .val (.int b), .val (.int c0), .val (.int c1), .val (.int c2), .val (.int c3), .val (.int c4), .val (.ref b6), .val (.int (Int32.ofNat f)), .val (.int (Int32.ofNat t)), .val (.ref mt), .val (.int d1), .val (.int d2), .val (.int d3), .unset, .unset, .unset, .unset, .unset, .unset, .unset, .unset, .unset, .unset, .unset, .unset] [(.int (own_next d3 c3 (3 : Int32) (Int32.ofNat f) (Int32.ofNat t)))])) ?_ st41
  obtain ⟨d4, hd4⟩ : ∃ z, z = own_next d3 c3 (3 : Int32) (Int32.ofNat f) (Int32.ofNat t) := ⟨_, rfl⟩
  rw [← hd4]
  refine Goes.on (T' := T41) (g' := (mkF m 162 #[.val (.long s_), .second, .val (.int a), .val (.int b), .val (.int c0), .val (.int c1), .val (.int c2), .val (.int c3), .val (.int c4), .val (.ref b6), .val (.int (Int32.ofNat f)), .val (.int (Int32.ofNat t)), .val (.ref mt), .val (.int d1), .val (.int d2), .val (.int d3), .val (.int d4), .unset, .unset, .unset, .unset, .unset, .unset, .unset, .unset, .unset, .unset, .unset] [])) ?_ (fun t_ k_ => XS.istore X41.here hx rfl (hb hby at_160) rfl (l' := #[.val (.long s_), .second, .val (.int a), .val (.int b), .val (.int c0), .val (.int c1), .val (.int c2), .val (.int c3), .val (.int c4), .val (.ref b6), .val (.int (Int32.ofNat f)), .val (.int (Int32.ofNat t)), .val (.ref mt), .val (.int d1), .val (.int d2), .val (.int d3), .val (.int d4), .unset, .unset, .unset, .unset, .unset, .unset, .unset, .unset, .unset, .unset, .unset]) rfl k_)
  refine Goes.on (T' := T41) (g' := (mkF m 164 #[.val (.long s_), .second, .val (.int a), .val (.int b), .val (.int c0), .val (.int c1), .val (.int c2), .val (.int c3), .val (.int c4), .val (.ref b6), .val (.int (Int32.ofNat f)), .val (.int (Int32.ofNat t)), .val (.ref mt), .val (.int d1), .val (.int d2), .val (.int d3), .val (.int d4), .unset, .unset, .unset, .unset, .unset, .unset, .unset, .unset, .unset, .unset, .unset] [(.int d4)])) ?_ (fun t_ k_ => XS.iload X41.here hx rfl (hb hby at_162) rfl k_)
  refine Goes.on (T' := T41) (g' := (mkF m 166 #[.val (.long s_), .second, .val (.int a), .val (.int b), .val (.int c0), .val (.int c1), .val (.int c2), .val (.int c3), .val (.int c4), .val (.ref b6), .val (.int (Int32.ofNat f)), .val (.int (Int32.ofNat t)), .val (.ref mt), .val (.int d1), .val (.int d2), .val (.int d3), .val (.int d4), .unset, .unset, .unset, .unset, .unset, .unset, .unset, .unset, .unset, .unset, .unset] [(.int c4), (.int d4)])) ?_ (fun t_ k_ => XS.iload X41.here hx rfl (hb hby at_164) rfl k_)
  refine Goes.on (T' := T41) (g' := (mkF m 167 #[.val (.long s_), .second, .val (.int a), .val (.int b), .val (.int c0), .val (.int c1), .val (.int c2), .val (.int c3), .val (.int c4), .val (.ref b6), .val (.int (Int32.ofNat f)), .val (.int (Int32.ofNat t)), .val (.ref mt), .val (.int d1), .val (.int d2), .val (.int d3), .val (.int d4), .unset, .unset, .unset, .unset, .unset, .unset, .unset, .unset, .unset, .unset, .unset] [(.int (4 : Int32)), (.int c4), (.int d4)])) ?_ (fun t_ k_ => XS.iconst X41.here hx rfl (hb hby at_166) k_)
  refine Goes.on (T' := T41) (g' := (mkF m 169 #[.val (.long s_), .second, .val (.int a), .val (.int b), .val (.int c0), .val (.int c1), .val (.int c2), .val (.int c3), .val (.int c4), .val (.ref b6), .val (.int (Int32.ofNat f)), .val (.int (Int32.ofNat t)), .val (.ref mt), .val (.int d1), .val (.int d2), .val (.int d3), .val (.int d4), .unset, .unset, .unset, .unset, .unset, .unset, .unset, .unset, .unset, .unset, .unset] [(.int (Int32.ofNat f)), (.int (4 : Int32)), (.int c4), (.int d4)])) ?_ (fun t_ k_ => XS.iload X41.here hx rfl (hb hby at_167) rfl k_)
  refine Goes.on (T' := T41) (g' := (mkF m 171 #[.val (.long s_), .second, .val (.int a), .val (.int b), .val (.int c0), .val (.int c1), .val (.int c2), .val (.int c3), .val (.int c4), .val (.ref b6), .val (.int (Int32.ofNat f)), .val (.int (Int32.ofNat t)), .val (.ref mt), .val (.int d1), .val (.int d2), .val (.int d3), .val (.int d4), .unset, .unset, .unset, .unset, .unset, .unset, .unset, .unset, .unset, .unset, .unset] [(.int (Int32.ofNat t)), (.int (Int32.ofNat f)), (.int (4 : Int32)), (.int c4), (.int d4)])) ?_ (fun t_ k_ => XS.iload X41.here hx rfl (hb hby at_169) rfl k_)
  obtain ⟨_, _, ⟨T42, Lq_42, kq_42, nq_42⟩, -, X42, ⟨Lc42, hQ42, l42, y42, z42⟩, st42⟩ := Jvm.LawKit.callS X41 hx (y := (⟨"com/example/covenantry/covenantry/read/MatchesBracketsPinLaw", "next", "(ICIII)I"⟩ : MethodName)) hown (mvT hZ (hw _ (List.mem_of_getElem? (i := 107) rfl))) (mvT hZ (hw _ (List.mem_of_getElem? (i := 108) rfl))) (mvT hZ (hw _ (List.mem_of_getElem? (i := 2) rfl))) (mvT hZ (hw _ (List.mem_of_getElem? (i := 109) rfl))) (by decide) (backOf (W := 0) (rmNX l Z a0 hw [] d4 c4 (4 : Int32) (Int32.ofNat f) (Int32.ofNat t) hM n0 Zm) hZ (hw _ (List.mem_of_getElem? (i := 109) rfl)) (hw _ (List.mem_of_getElem? (i := 2) rfl)) (by decide) (by decide)) (g := (mkF m 171 #[.val (.long s_), .second, .val (.int a), .val (.int b), .val (.int c0), .val (.int c1), .val (.int c2), .val (.int c3), .val (.int c4), .val (.ref b6), .val (.int (Int32.ofNat f)), .val (.int (Int32.ofNat t)), .val (.ref mt), .val (.int d1), .val (.int d2), .val (.int d3), .val (.int d4), .unset, .unset, .unset, .unset, .unset, .unset, .unset, .unset, .unset, .unset, .unset] [(.int (Int32.ofNat t)), (.int (Int32.ofNat f)), (.int (4 : Int32)), (.int c4), (.int d4)])) rfl (by rw [hml]; rfl) (argsL := [(.int d4), (.int c4), (.int (4 : Int32)), (.int (Int32.ofNat f)), (.int (Int32.ofNat t))]) (rest := []) (lenOf pd_12 rfl) rfl (by show 2 * 0 + _ ≤ _; exact Nat.le_of_eq rfl) (hb hby at_171) (fun _ _ => ⟨rfl, eh41, (by decide : 9 + 0 ≤ _), (by decide : 83 + 0 ≤ _)⟩)
  dsimp only [Pt.U, Pt.locs, Pt.cells, Pt.slots] at X42 l42 y42 z42 st42 hQ42
  rw [l42, y42, z42] at X42
  change Stand p l e _ _ m _ below meth c T42 _ 9 83 at X42
  obtain ⟨rfl, N42q, eh42⟩ := hQ42
  have N42 := Fr.app N41 N42q
  refine Goes.on (T' := T42) (g' := (mkF m 174 #[.val (.long s_), .second, .val (.int a), .val (.int b), .val (.int c0), .val (.int c1), .val (.int c2), .val (.int c3), .val (.int c4), .val (.ref b6), .val (.int (Int32.ofNat f)), .val (.int (Int32.ofNat t)), .val (.ref mt), .val (.int d1), .val (.int d2), .val (.int d3), .val (.int d4), .unset, .unset, .unset, .unset, .unset, .unset, .unset, .unset, .unset, .unset, .unset] [(.int (own_next d4 c4 (4 : Int32) (Int32.ofNat f) (Int32.ofNat t)))])) ?_ st42
  obtain ⟨d5, hd5⟩ : ∃ z, z = own_next d4 c4 (4 : Int32) (Int32.ofNat f) (Int32.ofNat t) := ⟨_, rfl⟩
  rw [← hd5]
  refine Goes.on (T' := T42) (g' := (mkF m 176 #[.val (.long s_), .second, .val (.int a), .val (.int b), .val (.int c0), .val (.int c1), .val (.int c2), .val (.int c3), .val (.int c4), .val (.ref b6), .val (.int (Int32.ofNat f)), .val (.int (Int32.ofNat t)), .val (.ref mt), .val (.int d1), .val (.int d2), .val (.int d3), .val (.int d4), .val (.int d5), .unset, .unset, .unset, .unset, .unset, .unset, .unset, .unset, .unset, .unset] [])) ?_ (fun t_ k_ => XS.istore X42.here hx rfl (hb hby at_174) rfl (l' := #[.val (.long s_), .second, .val (.int a), .val (.int b), .val (.int c0), .val (.int c1), .val (.int c2), .val (.int c3), .val (.int c4), .val (.ref b6), .val (.int (Int32.ofNat f)), .val (.int (Int32.ofNat t)), .val (.ref mt), .val (.int d1), .val (.int d2), .val (.int d3), .val (.int d4), .val (.int d5), .unset, .unset, .unset, .unset, .unset, .unset, .unset, .unset, .unset, .unset]) rfl k_)
  refine Goes.on (T' := T42) (g' := (mkF m 177 #[.val (.long s_), .second, .val (.int a), .val (.int b), .val (.int c0), .val (.int c1), .val (.int c2), .val (.int c3), .val (.int c4), .val (.ref b6), .val (.int (Int32.ofNat f)), .val (.int (Int32.ofNat t)), .val (.ref mt), .val (.int d1), .val (.int d2), .val (.int d3), .val (.int d4), .val (.int d5), .unset, .unset, .unset, .unset, .unset, .unset, .unset, .unset, .unset, .unset] [(.int (1 : Int32))])) ?_ (fun t_ k_ => XS.iconst X42.here hx rfl (hb hby at_176) k_)
  refine Goes.on (T' := T42) (g' := (mkF m 178 #[.val (.long s_), .second, .val (.int a), .val (.int b), .val (.int c0), .val (.int c1), .val (.int c2), .val (.int c3), .val (.int c4), .val (.ref b6), .val (.int (Int32.ofNat f)), .val (.int (Int32.ofNat t)), .val (.ref mt), .val (.int d1), .val (.int d2), .val (.int d3), .val (.int d4), .val (.int d5), .unset, .unset, .unset, .unset, .unset, .unset, .unset, .unset, .unset, .unset] [(.int (0 : Int32)), (.int (1 : Int32))])) ?_ (fun t_ k_ => XS.iconst X42.here hx rfl (hb hby at_177) k_)
  refine Goes.on (T' := T42) (g' := (mkF m 180 #[.val (.long s_), .second, .val (.int a), .val (.int b), .val (.int c0), .val (.int c1), .val (.int c2), .val (.int c3), .val (.int c4), .val (.ref b6), .val (.int (Int32.ofNat f)), .val (.int (Int32.ofNat t)), .val (.ref mt), .val (.int d1), .val (.int d2), .val (.int d3), .val (.int d4), .val (.int d5), .unset, .unset, .unset, .unset, .unset, .unset, .unset, .unset, .unset, .unset] [(.int c0), (.int (0 : Int32)), (.int (1 : Int32))])) ?_ (fun t_ k_ => XS.iload X42.here hx rfl (hb hby at_178) rfl k_)
  refine Goes.on (T' := T42) (g' := (mkF m 182 #[.val (.long s_), .second, .val (.int a), .val (.int b), .val (.int c0), .val (.int c1), .val (.int c2), .val (.int c3), .val (.int c4), .val (.ref b6), .val (.int (Int32.ofNat f)), .val (.int (Int32.ofNat t)), .val (.ref mt), .val (.int d1), .val (.int d2), .val (.int d3), .val (.int d4), .val (.int d5), .unset, .unset, .unset, .unset, .unset, .unset, .unset, .unset, .unset, .unset] [(.int (Int32.ofNat f)), (.int c0), (.int (0 : Int32)), (.int (1 : Int32))])) ?_ (fun t_ k_ => XS.iload X42.here hx rfl (hb hby at_180) rfl k_)
  refine Goes.on (T' := T42) (g' := (mkF m 184 #[.val (.long s_), .second, .val (.int a), .val (.int b), .val (.int c0), .val (.int c1), .val (.int c2), .val (.int c3), .val (.int c4), .val (.ref b6), .val (.int (Int32.ofNat f)), .val (.int (Int32.ofNat t)), .val (.ref mt), .val (.int d1), .val (.int d2), .val (.int d3), .val (.int d4), .val (.int d5), .unset, .unset, .unset, .unset, .unset, .unset, .unset, .unset, .unset, .unset] [(.int (Int32.ofNat t)), (.int (Int32.ofNat f)), (.int c0), (.int (0 : Int32)), (.int (1 : Int32))])) ?_ (fun t_ k_ => XS.iload X42.here hx rfl (hb hby at_182) rfl k_)
  refine Goes.on (T' := T42) (g' := (mkF m 186 #[.val (.long s_), .second, .val (.int a), .val (.int b), .val (.int c0), .val (.int c1), .val (.int c2), .val (.int c3), .val (.int c4), .val (.ref b6), .val (.int (Int32.ofNat f)), .val (.int (Int32.ofNat t)), .val (.ref mt), .val (.int d1), .val (.int d2), .val (.int d3), .val (.int d4), .val (.int d5), .unset, .unset, .unset, .unset, .unset, .unset, .unset, .unset, .unset, .unset] [(.int d5), (.int (Int32.ofNat t)), (.int (Int32.ofNat f)), (.int c0), (.int (0 : Int32)), (.int (1 : Int32))])) ?_ (fun t_ k_ => XS.iload X42.here hx rfl (hb hby at_184) rfl k_)
  obtain ⟨_, _, ⟨T43, Lq_43, kq_43, nq_43⟩, -, X43, ⟨Lc43, hQ43, l43, y43, z43⟩, st43⟩ := Jvm.LawKit.callS X42 hx (y := (⟨"com/example/covenantry/covenantry/read/MatchesBracketsPinLaw", "isEnd", "(IICIII)Z"⟩ : MethodName)) hown (mvT hZ (hw _ (List.mem_of_getElem? (i := 110) rfl))) (mvT hZ (hw _ (List.mem_of_getElem? (i := 111) rfl))) (mvT hZ (hw _ (List.mem_of_getElem? (i := 2) rfl))) (mvT hZ (hw _ (List.mem_of_getElem? (i := 112) rfl))) (by decide) (backOf (W := 0) (rmIE l Z a0 hw [] (1 : Int32) (0 : Int32) c0 (Int32.ofNat f) (Int32.ofNat t) d5 hM n0 Zm) hZ (hw _ (List.mem_of_getElem? (i := 112) rfl)) (hw _ (List.mem_of_getElem? (i := 2) rfl)) (by decide) (by decide)) (g := (mkF m 186 #[.val (.long s_), .second, .val (.int a), .val (.int b), .val (.int c0), .val (.int c1), .val (.int c2), .val (.int c3), .val (.int c4), .val (.ref b6), .val (.int (Int32.ofNat f)), .val (.int (Int32.ofNat t)), .val (.ref mt), .val (.int d1), .val (.int d2), .val (.int d3), .val (.int d4), .val (.int d5), .unset, .unset, .unset, .unset, .unset, .unset, .unset, .unset, .unset, .unset] [(.int d5), (.int (Int32.ofNat t)), (.int (Int32.ofNat f)), (.int c0), (.int (0 : Int32)), (.int (1 : Int32))])) rfl (by rw [hml]; rfl) (argsL := [(.int (1 : Int32)), (.int (0 : Int32)), (.int c0), (.int (Int32.ofNat f)), (.int (Int32.ofNat t)), (.int d5)]) (rest := []) (lenOf pd_13 rfl) rfl (by show 2 * 0 + _ ≤ _; exact Nat.le_of_eq rfl) (hb hby at_186) (fun _ _ => ⟨rfl, eh42, (by decide : 9 + 0 ≤ _), (by decide : 83 + 0 ≤ _)⟩)
  dsimp only [Pt.U, Pt.locs, Pt.cells, Pt.slots] at X43 l43 y43 z43 st43 hQ43
  rw [l43, y43, z43] at X43
  change Stand p l e _ _ m _ below meth c T43 _ 9 83 at X43
  obtain ⟨rfl, N43q, eh43⟩ := hQ43
  have N43 := Fr.app N42 N43q
  refine Goes.on (T' := T43) (g' := (mkF m 189 #[.val (.long s_), .second, .val (.int a), .val (.int b), .val (.int c0), .val (.int c1), .val (.int c2), .val (.int c3), .val (.int c4), .val (.ref b6), .val (.int (Int32.ofNat f)), .val (.int (Int32.ofNat t)), .val (.ref mt), .val (.int d1), .val (.int d2), .val (.int d3), .val (.int d4), .val (.int d5), .unset, .unset, .unset, .unset, .unset, .unset, .unset, .unset, .unset, .unset] [(.int (own_isEnd (1 : Int32) (0 : Int32) c0 (Int32.ofNat f) (Int32.ofNat t) d5))])) ?_ st43
  obtain ⟨e1_, he1⟩ : ∃ z, z = own_isEnd (1 : Int32) (0 : Int32) c0 (Int32.ofNat f) (Int32.ofNat t) d5 := ⟨_, rfl⟩
  rw [← he1]
  refine Goes.on (T' := T43) (g' := (mkF m 191 #[.val (.long s_), .second, .val (.int a), .val (.int b), .val (.int c0), .val (.int c1), .val (.int c2), .val (.int c3), .val (.int c4), .val (.ref b6), .val (.int (Int32.ofNat f)), .val (.int (Int32.ofNat t)), .val (.ref mt), .val (.int d1), .val (.int d2), .val (.int d3), .val (.int d4), .val (.int d5), .val (.int e1_), .unset, .unset, .unset, .unset, .unset, .unset, .unset, .unset, .unset] [])) ?_ (fun t_ k_ => XS.istore X43.here hx rfl (hb hby at_189) rfl (l' := #[.val (.long s_), .second, .val (.int a), .val (.int b), .val (.int c0), .val (.int c1), .val (.int c2), .val (.int c3), .val (.int c4), .val (.ref b6), .val (.int (Int32.ofNat f)), .val (.int (Int32.ofNat t)), .val (.ref mt), .val (.int d1), .val (.int d2), .val (.int d3), .val (.int d4), .val (.int d5), .val (.int e1_), .unset, .unset, .unset, .unset, .unset, .unset, .unset, .unset, .unset]) rfl k_)
  refine Goes.on (T' := T43) (g' := (mkF m 192 #[.val (.long s_), .second, .val (.int a), .val (.int b), .val (.int c0), .val (.int c1), .val (.int c2), .val (.int c3), .val (.int c4), .val (.ref b6), .val (.int (Int32.ofNat f)), .val (.int (Int32.ofNat t)), .val (.ref mt), .val (.int d1), .val (.int d2), .val (.int d3), .val (.int d4), .val (.int d5), .val (.int e1_), .unset, .unset, .unset, .unset, .unset, .unset, .unset, .unset, .unset] [(.int (2 : Int32))])) ?_ (fun t_ k_ => XS.iconst X43.here hx rfl (hb hby at_191) k_)
  refine Goes.on (T' := T43) (g' := (mkF m 194 #[.val (.long s_), .second, .val (.int a), .val (.int b), .val (.int c0), .val (.int c1), .val (.int c2), .val (.int c3), .val (.int c4), .val (.ref b6), .val (.int (Int32.ofNat f)), .val (.int (Int32.ofNat t)), .val (.ref mt), .val (.int d1), .val (.int d2), .val (.int d3), .val (.int d4), .val (.int d5), .val (.int e1_), .unset, .unset, .unset, .unset, .unset, .unset, .unset, .unset, .unset] [(.int d1), (.int (2 : Int32))])) ?_ (fun t_ k_ => XS.iload X43.here hx rfl (hb hby at_192) rfl k_)
  refine Goes.on (T' := T43) (g' := (mkF m 196 #[.val (.long s_), .second, .val (.int a), .val (.int b), .val (.int c0), .val (.int c1), .val (.int c2), .val (.int c3), .val (.int c4), .val (.ref b6), .val (.int (Int32.ofNat f)), .val (.int (Int32.ofNat t)), .val (.ref mt), .val (.int d1), .val (.int d2), .val (.int d3), .val (.int d4), .val (.int d5), .val (.int e1_), .unset, .unset, .unset, .unset, .unset, .unset, .unset, .unset, .unset] [(.int c1), (.int d1), (.int (2 : Int32))])) ?_ (fun t_ k_ => XS.iload X43.here hx rfl (hb hby at_194) rfl k_)
  refine Goes.on (T' := T43) (g' := (mkF m 198 #[.val (.long s_), .second, .val (.int a), .val (.int b), .val (.int c0), .val (.int c1), .val (.int c2), .val (.int c3), .val (.int c4), .val (.ref b6), .val (.int (Int32.ofNat f)), .val (.int (Int32.ofNat t)), .val (.ref mt), .val (.int d1), .val (.int d2), .val (.int d3), .val (.int d4), .val (.int d5), .val (.int e1_), .unset, .unset, .unset, .unset, .unset, .unset, .unset, .unset, .unset] [(.int (Int32.ofNat f)), (.int c1), (.int d1), (.int (2 : Int32))])) ?_ (fun t_ k_ => XS.iload X43.here hx rfl (hb hby at_196) rfl k_)
  refine Goes.on (T' := T43) (g' := (mkF m 200 #[.val (.long s_), .second, .val (.int a), .val (.int b), .val (.int c0), .val (.int c1), .val (.int c2), .val (.int c3), .val (.int c4), .val (.ref b6), .val (.int (Int32.ofNat f)), .val (.int (Int32.ofNat t)), .val (.ref mt), .val (.int d1), .val (.int d2), .val (.int d3), .val (.int d4), .val (.int d5), .val (.int e1_), .unset, .unset, .unset, .unset, .unset, .unset, .unset, .unset, .unset] [(.int (Int32.ofNat t)), (.int (Int32.ofNat f)), (.int c1), (.int d1), (.int (2 : Int32))])) ?_ (fun t_ k_ => XS.iload X43.here hx rfl (hb hby at_198) rfl k_)
  refine Goes.on (T' := T43) (g' := (mkF m 202 #[.val (.long s_), .second, .val (.int a), .val (.int b), .val (.int c0), .val (.int c1), .val (.int c2), .val (.int c3), .val (.int c4), .val (.ref b6), .val (.int (Int32.ofNat f)), .val (.int (Int32.ofNat t)), .val (.ref mt), .val (.int d1), .val (.int d2), .val (.int d3), .val (.int d4), .val (.int d5), .val (.int e1_), .unset, .unset, .unset, .unset, .unset, .unset, .unset, .unset, .unset] [(.int d5), (.int (Int32.ofNat t)), (.int (Int32.ofNat f)), (.int c1), (.int d1), (.int (2 : Int32))])) ?_ (fun t_ k_ => XS.iload X43.here hx rfl (hb hby at_200) rfl k_)
  obtain ⟨_, _, ⟨T44, Lq_44, kq_44, nq_44⟩, -, X44, ⟨Lc44, hQ44, l44, y44, z44⟩, st44⟩ := Jvm.LawKit.callS X43 hx (y := (⟨"com/example/covenantry/covenantry/read/MatchesBracketsPinLaw", "isEnd", "(IICIII)Z"⟩ : MethodName)) hown (mvT hZ (hw _ (List.mem_of_getElem? (i := 110) rfl))) (mvT hZ (hw _ (List.mem_of_getElem? (i := 111) rfl))) (mvT hZ (hw _ (List.mem_of_getElem? (i := 2) rfl))) (mvT hZ (hw _ (List.mem_of_getElem? (i := 112) rfl))) (by decide) (backOf (W := 0) (rmIE l Z a0 hw [] (2 : Int32) d1 c1 (Int32.ofNat f) (Int32.ofNat t) d5 hM n0 Zm) hZ (hw _ (List.mem_of_getElem? (i := 112) rfl)) (hw _ (List.mem_of_getElem? (i := 2) rfl)) (by decide) (by decide)) (g := (mkF m 202 #[.val (.long s_), .second, .val (.int a), .val (.int b), .val (.int c0), .val (.int c1), .val (.int c2), .val (.int c3), .val (.int c4), .val (.ref b6), .val (.int (Int32.ofNat f)), .val (.int (Int32.ofNat t)), .val (.ref mt), .val (.int d1), .val (.int d2), .val (.int d3), .val (.int d4), .val (.int d5), .val (.int e1_), .unset, .unset, .unset, .unset, .unset, .unset, .unset, .unset, .unset] [(.int d5), (.int (Int32.ofNat t)), (.int (Int32.ofNat f)), (.int c1), (.int d1), (.int (2 : Int32))])) rfl (by rw [hml]; rfl) (argsL := [(.int (2 : Int32)), (.int d1), (.int c1), (.int (Int32.ofNat f)), (.int (Int32.ofNat t)), (.int d5)]) (rest := []) (lenOf pd_13 rfl) rfl (by show 2 * 0 + _ ≤ _; exact Nat.le_of_eq rfl) (hb hby at_202) (fun _ _ => ⟨rfl, eh43, (by decide : 9 + 0 ≤ _), (by decide : 83 + 0 ≤ _)⟩)
  dsimp only [Pt.U, Pt.locs, Pt.cells, Pt.slots] at X44 l44 y44 z44 st44 hQ44
  rw [l44, y44, z44] at X44
  change Stand p l e _ _ m _ below meth c T44 _ 9 83 at X44
  obtain ⟨rfl, N44q, eh44⟩ := hQ44
  have N44 := Fr.app N43 N44q
  refine Goes.on (T' := T44) (g' := (mkF m 205 #[.val (.long s_), .second, .val (.int a), .val (.int b), .val (.int c0), .val (.int c1), .val (.int c2), .val (.int c3), .val (.int c4), .val (.ref b6), .val (.int (Int32.ofNat f)), .val (.int (Int32.ofNat t)), .val (.ref mt), .val (.int d1), .val (.int d2), .val (.int d3), .val (.int d4), .val (.int d5), .val (.int e1_), .unset, .unset, .unset, .unset, .unset, .unset, .unset, .unset, .unset] [(.int (own_isEnd (2 : Int32) d1 c1 (Int32.ofNat f) (Int32.ofNat t) d5))])) ?_ st44
  obtain ⟨e2_, he2⟩ : ∃ z, z = own_isEnd (2 : Int32) d1 c1 (Int32.ofNat f) (Int32.ofNat t) d5 := ⟨_, rfl⟩
  rw [← he2]
  refine Goes.on (T' := T44) (g' := (mkF m 207 #[.val (.long s_), .second, .val (.int a), .val (.int b), .val (.int c0), .val (.int c1), .val (.int c2), .val (.int c3), .val (.int c4), .val (.ref b6), .val (.int (Int32.ofNat f)), .val (.int (Int32.ofNat t)), .val (.ref mt), .val (.int d1), .val (.int d2), .val (.int d3), .val (.int d4), .val (.int d5), .val (.int e1_), .val (.int e2_), .unset, .unset, .unset, .unset, .unset, .unset, .unset, .unset] [])) ?_ (fun t_ k_ => XS.istore X44.here hx rfl (hb hby at_205) rfl (l' := #[.val (.long s_), .second, .val (.int a), .val (.int b), .val (.int c0), .val (.int c1), .val (.int c2), .val (.int c3), .val (.int c4), .val (.ref b6), .val (.int (Int32.ofNat f)), .val (.int (Int32.ofNat t)), .val (.ref mt), .val (.int d1), .val (.int d2), .val (.int d3), .val (.int d4), .val (.int d5), .val (.int e1_), .val (.int e2_), .unset, .unset, .unset, .unset, .unset, .unset, .unset, .unset]) rfl k_)
  refine Goes.on (T' := T44) (g' := (mkF m 208 #[.val (.long s_), .second, .val (.int a), .val (.int b), .val (.int c0), .val (.int c1), .val (.int c2), .val (.int c3), .val (.int c4), .val (.ref b6), .val (.int (Int32.ofNat f)), .val (.int (Int32.ofNat t)), .val (.ref mt), .val (.int d1), .val (.int d2), .val (.int d3), .val (.int d4), .val (.int d5), .val (.int e1_), .val (.int e2_), .unset, .unset, .unset, .unset, .unset, .unset, .unset, .unset] [(.int (3 : Int32))])) ?_ (fun t_ k_ => XS.iconst X44.here hx rfl (hb hby at_207) k_)
  refine Goes.on (T' := T44) (g' := (mkF m 210 #[.val (.long s_), .second, .val (.int a), .val (.int b), .val (.int c0), .val (.int c1), .val (.int c2), .val (.int c3), .val (.int c4), .val (.ref b6), .val (.int (Int32.ofNat f)), .val (.int (Int32.ofNat t)), .val (.ref mt), .val (.int d1), .val (.int d2), .val (.int d3), .val (.int d4), .val (.int d5), .val (.int e1_), .val (.int e2_), .unset, .unset, .unset, .unset, .unset, .unset, .unset, .unset] [(.int d2), (.int (3 : Int32))])) ?_ (fun t_ k_ => XS.iload X44.here hx rfl (hb hby at_208) rfl k_)
  refine Goes.on (T' := T44) (g' := (mkF m 212 #[.val (.long s_), .second, .val (.int a), .val (.int b), .val (.int c0), .val (.int c1), .val (.int c2), .val (.int c3), .val (.int c4), .val (.ref b6), .val (.int (Int32.ofNat f)), .val (.int (Int32.ofNat t)), .val (.ref mt), .val (.int d1), .val (.int d2), .val (.int d3), .val (.int d4), .val (.int d5), .val (.int e1_), .val (.int e2_), .unset, .unset, .unset, .unset, .unset, .unset, .unset, .unset] [(.int c2), (.int d2), (.int (3 : Int32))])) ?_ (fun t_ k_ => XS.iload X44.here hx rfl (hb hby at_210) rfl k_)
  refine Goes.on (T' := T44) (g' := (mkF m 214 #[.val (.long s_), .second, .val (.int a), .val (.int b), .val (.int c0), .val (.int c1), .val (.int c2), .val (.int c3), .val (.int c4), .val (.ref b6), .val (.int (Int32.ofNat f)), .val (.int (Int32.ofNat t)), .val (.ref mt), .val (.int d1), .val (.int d2), .val (.int d3), .val (.int d4), .val (.int d5), .val (.int e1_), .val (.int e2_), .unset, .unset, .unset, .unset, .unset, .unset, .unset, .unset] [(.int (Int32.ofNat f)), (.int c2), (.int d2), (.int (3 : Int32))])) ?_ (fun t_ k_ => XS.iload X44.here hx rfl (hb hby at_212) rfl k_)
  refine Goes.on (T' := T44) (g' := (mkF m 216 #[.val (.long s_), .second, .val (.int a), .val (.int b), .val (.int c0), .val (.int c1), .val (.int c2), .val (.int c3), .val (.int c4), .val (.ref b6), .val (.int (Int32.ofNat f)), .val (.int (Int32.ofNat t)), .val (.ref mt), .val (.int d1), .val (.int d2), .val (.int d3), .val (.int d4), .val (.int d5), .val (.int e1_), .val (.int e2_), .unset, .unset, .unset, .unset, .unset, .unset, .unset, .unset] [(.int (Int32.ofNat t)), (.int (Int32.ofNat f)), (.int c2), (.int d2), (.int (3 : Int32))])) ?_ (fun t_ k_ => XS.iload X44.here hx rfl (hb hby at_214) rfl k_)
  refine Goes.on (T' := T44) (g' := (mkF m 218 #[.val (.long s_), .second, .val (.int a), .val (.int b), .val (.int c0), .val (.int c1), .val (.int c2), .val (.int c3), .val (.int c4), .val (.ref b6), .val (.int (Int32.ofNat f)), .val (.int (Int32.ofNat t)), .val (.ref mt), .val (.int d1), .val (.int d2), .val (.int d3), .val (.int d4), .val (.int d5), .val (.int e1_), .val (.int e2_), .unset, .unset, .unset, .unset, .unset, .unset, .unset, .unset] [(.int d5), (.int (Int32.ofNat t)), (.int (Int32.ofNat f)), (.int c2), (.int d2), (.int (3 : Int32))])) ?_ (fun t_ k_ => XS.iload X44.here hx rfl (hb hby at_216) rfl k_)
  obtain ⟨_, _, ⟨T45, Lq_45, kq_45, nq_45⟩, -, X45, ⟨Lc45, hQ45, l45, y45, z45⟩, st45⟩ := Jvm.LawKit.callS X44 hx (y := (⟨"com/example/covenantry/covenantry/read/MatchesBracketsPinLaw", "isEnd", "(IICIII)Z"⟩ : MethodName)) hown (mvT hZ (hw _ (List.mem_of_getElem? (i := 110) rfl))) (mvT hZ (hw _ (List.mem_of_getElem? (i := 111) rfl))) (mvT hZ (hw _ (List.mem_of_getElem? (i := 2) rfl))) (mvT hZ (hw _ (List.mem_of_getElem? (i := 112) rfl))) (by decide) (backOf (W := 0) (rmIE l Z a0 hw [] (3 : Int32) d2 c2 (Int32.ofNat f) (Int32.ofNat t) d5 hM n0 Zm) hZ (hw _ (List.mem_of_getElem? (i := 112) rfl)) (hw _ (List.mem_of_getElem? (i := 2) rfl)) (by decide) (by decide)) (g := (mkF m 218 #[.val (.long s_), .second, .val (.int a), .val (.int b), .val (.int c0), .val (.int c1), .val (.int c2), .val (.int c3), .val (.int c4), .val (.ref b6), .val (.int (Int32.ofNat f)), .val (.int (Int32.ofNat t)), .val (.ref mt), .val (.int d1), .val (.int d2), .val (.int d3), .val (.int d4), .val (.int d5), .val (.int e1_), .val (.int e2_), .unset, .unset, .unset, .unset, .unset, .unset, .unset, .unset] [(.int d5), (.int (Int32.ofNat t)), (.int (Int32.ofNat f)), (.int c2), (.int d2), (.int (3 : Int32))])) rfl (by rw [hml]; rfl) (argsL := [(.int (3 : Int32)), (.int d2), (.int c2), (.int (Int32.ofNat f)), (.int (Int32.ofNat t)), (.int d5)]) (rest := []) (lenOf pd_13 rfl) rfl (by show 2 * 0 + _ ≤ _; exact Nat.le_of_eq rfl) (hb hby at_218) (fun _ _ => ⟨rfl, eh44, (by decide : 9 + 0 ≤ _), (by decide : 83 + 0 ≤ _)⟩)
  dsimp only [Pt.U, Pt.locs, Pt.cells, Pt.slots] at X45 l45 y45 z45 st45 hQ45
  rw [l45, y45, z45] at X45
  change Stand p l e _ _ m _ below meth c T45 _ 9 83 at X45
  obtain ⟨rfl, N45q, eh45⟩ := hQ45
  have N45 := Fr.app N44 N45q
  refine Goes.on (T' := T45) (g' := (mkF m 221 #[.val (.long s_), .second, .val (.int a), .val (.int b), .val (.int c0), .val (.int c1), .val (.int c2), .val (.int c3), .val (.int c4), .val (.ref b6), .val (.int (Int32.ofNat f)), .val (.int (Int32.ofNat t)), .val (.ref mt), .val (.int d1), .val (.int d2), .val (.int d3), .val (.int d4), .val (.int d5), .val (.int e1_), .val (.int e2_), .unset, .unset, .unset, .unset, .unset, .unset, .unset, .unset] [(.int (own_isEnd (3 : Int32) d2 c2 (Int32.ofNat f) (Int32.ofNat t) d5))])) ?_ st45
  obtain ⟨e3_, he3⟩ : ∃ z, z = own_isEnd (3 : Int32) d2 c2 (Int32.ofNat f) (Int32.ofNat t) d5 := ⟨_, rfl⟩
  rw [← he3]
  refine Goes.on (T' := T45) (g' := (mkF m 223 #[.val (.long s_), .second, .val (.int a), .val (.int b), .val (.int c0), .val (.int c1), .val (.int c2), .val (.int c3), .val (.int c4), .val (.ref b6), .val (.int (Int32.ofNat f)), .val (.int (Int32.ofNat t)), .val (.ref mt), .val (.int d1), .val (.int d2), .val (.int d3), .val (.int d4), .val (.int d5), .val (.int e1_), .val (.int e2_), .val (.int e3_), .unset, .unset, .unset, .unset, .unset, .unset, .unset] [])) ?_ (fun t_ k_ => XS.istore X45.here hx rfl (hb hby at_221) rfl (l' := #[.val (.long s_), .second, .val (.int a), .val (.int b), .val (.int c0), .val (.int c1), .val (.int c2), .val (.int c3), .val (.int c4), .val (.ref b6), .val (.int (Int32.ofNat f)), .val (.int (Int32.ofNat t)), .val (.ref mt), .val (.int d1), .val (.int d2), .val (.int d3), .val (.int d4), .val (.int d5), .val (.int e1_), .val (.int e2_), .val (.int e3_), .unset, .unset, .unset, .unset, .unset, .unset, .unset]) rfl k_)
  refine Goes.on (T' := T45) (g' := (mkF m 224 #[.val (.long s_), .second, .val (.int a), .val (.int b), .val (.int c0), .val (.int c1), .val (.int c2), .val (.int c3), .val (.int c4), .val (.ref b6), .val (.int (Int32.ofNat f)), .val (.int (Int32.ofNat t)), .val (.ref mt), .val (.int d1), .val (.int d2), .val (.int d3), .val (.int d4), .val (.int d5), .val (.int e1_), .val (.int e2_), .val (.int e3_), .unset, .unset, .unset, .unset, .unset, .unset, .unset] [(.int (4 : Int32))])) ?_ (fun t_ k_ => XS.iconst X45.here hx rfl (hb hby at_223) k_)
  refine Goes.on (T' := T45) (g' := (mkF m 226 #[.val (.long s_), .second, .val (.int a), .val (.int b), .val (.int c0), .val (.int c1), .val (.int c2), .val (.int c3), .val (.int c4), .val (.ref b6), .val (.int (Int32.ofNat f)), .val (.int (Int32.ofNat t)), .val (.ref mt), .val (.int d1), .val (.int d2), .val (.int d3), .val (.int d4), .val (.int d5), .val (.int e1_), .val (.int e2_), .val (.int e3_), .unset, .unset, .unset, .unset, .unset, .unset, .unset] [(.int d3), (.int (4 : Int32))])) ?_ (fun t_ k_ => XS.iload X45.here hx rfl (hb hby at_224) rfl k_)
  refine Goes.on (T' := T45) (g' := (mkF m 228 #[.val (.long s_), .second, .val (.int a), .val (.int b), .val (.int c0), .val (.int c1), .val (.int c2), .val (.int c3), .val (.int c4), .val (.ref b6), .val (.int (Int32.ofNat f)), .val (.int (Int32.ofNat t)), .val (.ref mt), .val (.int d1), .val (.int d2), .val (.int d3), .val (.int d4), .val (.int d5), .val (.int e1_), .val (.int e2_), .val (.int e3_), .unset, .unset, .unset, .unset, .unset, .unset, .unset] [(.int c3), (.int d3), (.int (4 : Int32))])) ?_ (fun t_ k_ => XS.iload X45.here hx rfl (hb hby at_226) rfl k_)
  refine Goes.on (T' := T45) (g' := (mkF m 230 #[.val (.long s_), .second, .val (.int a), .val (.int b), .val (.int c0), .val (.int c1), .val (.int c2), .val (.int c3), .val (.int c4), .val (.ref b6), .val (.int (Int32.ofNat f)), .val (.int (Int32.ofNat t)), .val (.ref mt), .val (.int d1), .val (.int d2), .val (.int d3), .val (.int d4), .val (.int d5), .val (.int e1_), .val (.int e2_), .val (.int e3_), .unset, .unset, .unset, .unset, .unset, .unset, .unset] [(.int (Int32.ofNat f)), (.int c3), (.int d3), (.int (4 : Int32))])) ?_ (fun t_ k_ => XS.iload X45.here hx rfl (hb hby at_228) rfl k_)
  refine Goes.on (T' := T45) (g' := (mkF m 232 #[.val (.long s_), .second, .val (.int a), .val (.int b), .val (.int c0), .val (.int c1), .val (.int c2), .val (.int c3), .val (.int c4), .val (.ref b6), .val (.int (Int32.ofNat f)), .val (.int (Int32.ofNat t)), .val (.ref mt), .val (.int d1), .val (.int d2), .val (.int d3), .val (.int d4), .val (.int d5), .val (.int e1_), .val (.int e2_), .val (.int e3_), .unset, .unset, .unset, .unset, .unset, .unset, .unset] [(.int (Int32.ofNat t)), (.int (Int32.ofNat f)), (.int c3), (.int d3), (.int (4 : Int32))])) ?_ (fun t_ k_ => XS.iload X45.here hx rfl (hb hby at_230) rfl k_)
  refine Goes.on (T' := T45) (g' := (mkF m 234 #[.val (.long s_), .second, .val (.int a), .val (.int b), .val (.int c0), .val (.int c1), .val (.int c2), .val (.int c3), .val (.int c4), .val (.ref b6), .val (.int (Int32.ofNat f)), .val (.int (Int32.ofNat t)), .val (.ref mt), .val (.int d1), .val (.int d2), .val (.int d3), .val (.int d4), .val (.int d5), .val (.int e1_), .val (.int e2_), .val (.int e3_), .unset, .unset, .unset, .unset, .unset, .unset, .unset] [(.int d5), (.int (Int32.ofNat t)), (.int (Int32.ofNat f)), (.int c3), (.int d3), (.int (4 : Int32))])) ?_ (fun t_ k_ => XS.iload X45.here hx rfl (hb hby at_232) rfl k_)
  obtain ⟨_, _, ⟨T46, Lq_46, kq_46, nq_46⟩, -, X46, ⟨Lc46, hQ46, l46, y46, z46⟩, st46⟩ := Jvm.LawKit.callS X45 hx (y := (⟨"com/example/covenantry/covenantry/read/MatchesBracketsPinLaw", "isEnd", "(IICIII)Z"⟩ : MethodName)) hown (mvT hZ (hw _ (List.mem_of_getElem? (i := 110) rfl))) (mvT hZ (hw _ (List.mem_of_getElem? (i := 111) rfl))) (mvT hZ (hw _ (List.mem_of_getElem? (i := 2) rfl))) (mvT hZ (hw _ (List.mem_of_getElem? (i := 112) rfl))) (by decide) (backOf (W := 0) (rmIE l Z a0 hw [] (4 : Int32) d3 c3 (Int32.ofNat f) (Int32.ofNat t) d5 hM n0 Zm) hZ (hw _ (List.mem_of_getElem? (i := 112) rfl)) (hw _ (List.mem_of_getElem? (i := 2) rfl)) (by decide) (by decide)) (g := (mkF m 234 #[.val (.long s_), .second, .val (.int a), .val (.int b), .val (.int c0), .val (.int c1), .val (.int c2), .val (.int c3), .val (.int c4), .val (.ref b6), .val (.int (Int32.ofNat f)), .val (.int (Int32.ofNat t)), .val (.ref mt), .val (.int d1), .val (.int d2), .val (.int d3), .val (.int d4), .val (.int d5), .val (.int e1_), .val (.int e2_), .val (.int e3_), .unset, .unset, .unset, .unset, .unset, .unset, .unset] [(.int d5), (.int (Int32.ofNat t)), (.int (Int32.ofNat f)), (.int c3), (.int d3), (.int (4 : Int32))])) rfl (by rw [hml]; rfl) (argsL := [(.int (4 : Int32)), (.int d3), (.int c3), (.int (Int32.ofNat f)), (.int (Int32.ofNat t)), (.int d5)]) (rest := []) (lenOf pd_13 rfl) rfl (by show 2 * 0 + _ ≤ _; exact Nat.le_of_eq rfl) (hb hby at_234) (fun _ _ => ⟨rfl, eh45, (by decide : 9 + 0 ≤ _), (by decide : 83 + 0 ≤ _)⟩)
  dsimp only [Pt.U, Pt.locs, Pt.cells, Pt.slots] at X46 l46 y46 z46 st46 hQ46
  rw [l46, y46, z46] at X46
  change Stand p l e _ _ m _ below meth c T46 _ 9 83 at X46
  obtain ⟨rfl, N46q, eh46⟩ := hQ46
  have N46 := Fr.app N45 N46q
  refine Goes.on (T' := T46) (g' := (mkF m 237 #[.val (.long s_), .second, .val (.int a), .val (.int b), .val (.int c0), .val (.int c1), .val (.int c2), .val (.int c3), .val (.int c4), .val (.ref b6), .val (.int (Int32.ofNat f)), .val (.int (Int32.ofNat t)), .val (.ref mt), .val (.int d1), .val (.int d2), .val (.int d3), .val (.int d4), .val (.int d5), .val (.int e1_), .val (.int e2_), .val (.int e3_), .unset, .unset, .unset, .unset, .unset, .unset, .unset] [(.int (own_isEnd (4 : Int32) d3 c3 (Int32.ofNat f) (Int32.ofNat t) d5))])) ?_ st46
  obtain ⟨e4_, he4⟩ : ∃ z, z = own_isEnd (4 : Int32) d3 c3 (Int32.ofNat f) (Int32.ofNat t) d5 := ⟨_, rfl⟩
  rw [← he4]
  refine Goes.on (T' := T46) (g' := (mkF m 239 #[.val (.long s_), .second, .val (.int a), .val (.int b), .val (.int c0), .val (.int c1), .val (.int c2), .val (.int c3), .val (.int c4), .val (.ref b6), .val (.int (Int32.ofNat f)), .val (.int (Int32.ofNat t)), .val (.ref mt), .val (.int d1), .val (.int d2), .val (.int d3), .val (.int d4), .val (.int d5), .val (.int e1_), .val (.int e2_), .val (.int e3_), .val (.int e4_), .unset, .unset, .unset, .unset, .unset, .unset] [])) ?_ (fun t_ k_ => XS.istore X46.here hx rfl (hb hby at_237) rfl (l' := #[.val (.long s_), .second, .val (.int a), .val (.int b), .val (.int c0), .val (.int c1), .val (.int c2), .val (.int c3), .val (.int c4), .val (.ref b6), .val (.int (Int32.ofNat f)), .val (.int (Int32.ofNat t)), .val (.ref mt), .val (.int d1), .val (.int d2), .val (.int d3), .val (.int d4), .val (.int d5), .val (.int e1_), .val (.int e2_), .val (.int e3_), .val (.int e4_), .unset, .unset, .unset, .unset, .unset, .unset]) rfl k_)
  refine Goes.on (T' := T46) (g' := (mkF m 240 #[.val (.long s_), .second, .val (.int a), .val (.int b), .val (.int c0), .val (.int c1), .val (.int c2), .val (.int c3), .val (.int c4), .val (.ref b6), .val (.int (Int32.ofNat f)), .val (.int (Int32.ofNat t)), .val (.ref mt), .val (.int d1), .val (.int d2), .val (.int d3), .val (.int d4), .val (.int d5), .val (.int e1_), .val (.int e2_), .val (.int e3_), .val (.int e4_), .unset, .unset, .unset, .unset, .unset, .unset] [(.int (5 : Int32))])) ?_ (fun t_ k_ => XS.iconst X46.here hx rfl (hb hby at_239) k_)
  refine Goes.on (T' := T46) (g' := (mkF m 242 #[.val (.long s_), .second, .val (.int a), .val (.int b), .val (.int c0), .val (.int c1), .val (.int c2), .val (.int c3), .val (.int c4), .val (.ref b6), .val (.int (Int32.ofNat f)), .val (.int (Int32.ofNat t)), .val (.ref mt), .val (.int d1), .val (.int d2), .val (.int d3), .val (.int d4), .val (.int d5), .val (.int e1_), .val (.int e2_), .val (.int e3_), .val (.int e4_), .unset, .unset, .unset, .unset, .unset, .unset] [(.int d4), (.int (5 : Int32))])) ?_ (fun t_ k_ => XS.iload X46.here hx rfl (hb hby at_240) rfl k_)
  refine Goes.on (T' := T46) (g' := (mkF m 244 #[.val (.long s_), .second, .val (.int a), .val (.int b), .val (.int c0), .val (.int c1), .val (.int c2), .val (.int c3), .val (.int c4), .val (.ref b6), .val (.int (Int32.ofNat f)), .val (.int (Int32.ofNat t)), .val (.ref mt), .val (.int d1), .val (.int d2), .val (.int d3), .val (.int d4), .val (.int d5), .val (.int e1_), .val (.int e2_), .val (.int e3_), .val (.int e4_), .unset, .unset, .unset, .unset, .unset, .unset] [(.int c4), (.int d4), (.int (5 : Int32))])) ?_ (fun t_ k_ => XS.iload X46.here hx rfl (hb hby at_242) rfl k_)
  refine Goes.on (T' := T46) (g' := (mkF m 246 #[.val (.long s_), .second, .val (.int a), .val (.int b), .val (.int c0), .val (.int c1), .val (.int c2), .val (.int c3), .val (.int c4), .val (.ref b6), .val (.int (Int32.ofNat f)), .val (.int (Int32.ofNat t)), .val (.ref mt), .val (.int d1), .val (.int d2), .val (.int d3), .val (.int d4), .val (.int d5), .val (.int e1_), .val (.int e2_), .val (.int e3_), .val (.int e4_), .unset, .unset, .unset, .unset, .unset, .unset] [(.int (Int32.ofNat f)), (.int c4), (.int d4), (.int (5 : Int32))])) ?_ (fun t_ k_ => XS.iload X46.here hx rfl (hb hby at_244) rfl k_)
  refine Goes.on (T' := T46) (g' := (mkF m 248 #[.val (.long s_), .second, .val (.int a), .val (.int b), .val (.int c0), .val (.int c1), .val (.int c2), .val (.int c3), .val (.int c4), .val (.ref b6), .val (.int (Int32.ofNat f)), .val (.int (Int32.ofNat t)), .val (.ref mt), .val (.int d1), .val (.int d2), .val (.int d3), .val (.int d4), .val (.int d5), .val (.int e1_), .val (.int e2_), .val (.int e3_), .val (.int e4_), .unset, .unset, .unset, .unset, .unset, .unset] [(.int (Int32.ofNat t)), (.int (Int32.ofNat f)), (.int c4), (.int d4), (.int (5 : Int32))])) ?_ (fun t_ k_ => XS.iload X46.here hx rfl (hb hby at_246) rfl k_)
  refine Goes.on (T' := T46) (g' := (mkF m 250 #[.val (.long s_), .second, .val (.int a), .val (.int b), .val (.int c0), .val (.int c1), .val (.int c2), .val (.int c3), .val (.int c4), .val (.ref b6), .val (.int (Int32.ofNat f)), .val (.int (Int32.ofNat t)), .val (.ref mt), .val (.int d1), .val (.int d2), .val (.int d3), .val (.int d4), .val (.int d5), .val (.int e1_), .val (.int e2_), .val (.int e3_), .val (.int e4_), .unset, .unset, .unset, .unset, .unset, .unset] [(.int d5), (.int (Int32.ofNat t)), (.int (Int32.ofNat f)), (.int c4), (.int d4), (.int (5 : Int32))])) ?_ (fun t_ k_ => XS.iload X46.here hx rfl (hb hby at_248) rfl k_)
  obtain ⟨_, _, ⟨T47, Lq_47, kq_47, nq_47⟩, -, X47, ⟨Lc47, hQ47, l47, y47, z47⟩, st47⟩ := Jvm.LawKit.callS X46 hx (y := (⟨"com/example/covenantry/covenantry/read/MatchesBracketsPinLaw", "isEnd", "(IICIII)Z"⟩ : MethodName)) hown (mvT hZ (hw _ (List.mem_of_getElem? (i := 110) rfl))) (mvT hZ (hw _ (List.mem_of_getElem? (i := 111) rfl))) (mvT hZ (hw _ (List.mem_of_getElem? (i := 2) rfl))) (mvT hZ (hw _ (List.mem_of_getElem? (i := 112) rfl))) (by decide) (backOf (W := 0) (rmIE l Z a0 hw [] (5 : Int32) d4 c4 (Int32.ofNat f) (Int32.ofNat t) d5 hM n0 Zm) hZ (hw _ (List.mem_of_getElem? (i := 112) rfl)) (hw _ (List.mem_of_getElem? (i := 2) rfl)) (by decide) (by decide)) (g := (mkF m 250 #[.val (.long s_), .second, .val (.int a), .val (.int b), .val (.int c0), .val (.int c1), .val (.int c2), .val (.int c3), .val (.int c4), .val (.ref b6), .val (.int (Int32.ofNat f)), .val (.int (Int32.ofNat t)), .val (.ref mt), .val (.int d1), .val (.int d2), .val (.int d3), .val (.int d4), .val (.int d5), .val (.int e1_), .val (.int e2_), .val (.int e3_), .val (.int e4_), .unset, .unset, .unset, .unset, .unset, .unset] [(.int d5), (.int (Int32.ofNat t)), (.int (Int32.ofNat f)), (.int c4), (.int d4), (.int (5 : Int32))])) rfl (by rw [hml]; rfl) (argsL := [(.int (5 : Int32)), (.int d4), (.int c4), (.int (Int32.ofNat f)), (.int (Int32.ofNat t)), (.int d5)]) (rest := []) (lenOf pd_13 rfl) rfl (by show 2 * 0 + _ ≤ _; exact Nat.le_of_eq rfl) (hb hby at_250) (fun _ _ => ⟨rfl, eh46, (by decide : 9 + 0 ≤ _), (by decide : 83 + 0 ≤ _)⟩)
  dsimp only [Pt.U, Pt.locs, Pt.cells, Pt.slots] at X47 l47 y47 z47 st47 hQ47
  rw [l47, y47, z47] at X47
  change Stand p l e _ _ m _ below meth c T47 _ 9 83 at X47
  obtain ⟨rfl, N47q, eh47⟩ := hQ47
  have N47 := Fr.app N46 N47q
  refine Goes.on (T' := T47) (g' := (mkF m 253 #[.val (.long s_), .second, .val (.int a), .val (.int b), .val (.int c0), .val (.int c1), .val (.int c2), .val (.int c3), .val (.int c4), .val (.ref b6), .val (.int (Int32.ofNat f)), .val (.int (Int32.ofNat t)), .val (.ref mt), .val (.int d1), .val (.int d2), .val (.int d3), .val (.int d4), .val (.int d5), .val (.int e1_), .val (.int e2_), .val (.int e3_), .val (.int e4_), .unset, .unset, .unset, .unset, .unset, .unset] [(.int (own_isEnd (5 : Int32) d4 c4 (Int32.ofNat f) (Int32.ofNat t) d5))])) ?_ st47
  obtain ⟨e5_, he5⟩ : ∃ z, z = own_isEnd (5 : Int32) d4 c4 (Int32.ofNat f) (Int32.ofNat t) d5 := ⟨_, rfl⟩
  rw [← he5]
  refine Goes.on (T' := T47) (g' := (mkF m 255 #[.val (.long s_), .second, .val (.int a), .val (.int b), .val (.int c0), .val (.int c1), .val (.int c2), .val (.int c3), .val (.int c4), .val (.ref b6), .val (.int (Int32.ofNat f)), .val (.int (Int32.ofNat t)), .val (.ref mt), .val (.int d1), .val (.int d2), .val (.int d3), .val (.int d4), .val (.int d5), .val (.int e1_), .val (.int e2_), .val (.int e3_), .val (.int e4_), .val (.int e5_), .unset, .unset, .unset, .unset, .unset] [])) ?_ (fun t_ k_ => XS.istore X47.here hx rfl (hb hby at_253) rfl (l' := #[.val (.long s_), .second, .val (.int a), .val (.int b), .val (.int c0), .val (.int c1), .val (.int c2), .val (.int c3), .val (.int c4), .val (.ref b6), .val (.int (Int32.ofNat f)), .val (.int (Int32.ofNat t)), .val (.ref mt), .val (.int d1), .val (.int d2), .val (.int d3), .val (.int d4), .val (.int d5), .val (.int e1_), .val (.int e2_), .val (.int e3_), .val (.int e4_), .val (.int e5_), .unset, .unset, .unset, .unset, .unset]) rfl k_)
  refine Goes.on (T' := T47) (g' := (mkF m 257 #[.val (.long s_), .second, .val (.int a), .val (.int b), .val (.int c0), .val (.int c1), .val (.int c2), .val (.int c3), .val (.int c4), .val (.ref b6), .val (.int (Int32.ofNat f)), .val (.int (Int32.ofNat t)), .val (.ref mt), .val (.int d1), .val (.int d2), .val (.int d3), .val (.int d4), .val (.int d5), .val (.int e1_), .val (.int e2_), .val (.int e3_), .val (.int e4_), .val (.int e5_), .unset, .unset, .unset, .unset, .unset] [(.int e1_)])) ?_ (fun t_ k_ => XS.iload X47.here hx rfl (hb hby at_255) rfl k_)
  have J265 : ∀ l1 : Int32, l1 = (if e1_ = 0 then (-1 : Int32) else (1 : Int32)) → Goes p e below W T47 (mkF m 265 #[.val (.long s_), .second, .val (.int a), .val (.int b), .val (.int c0), .val (.int c1), .val (.int c2), .val (.int c3), .val (.int c4), .val (.ref b6), .val (.int (Int32.ofNat f)), .val (.int (Int32.ofNat t)), .val (.ref mt), .val (.int d1), .val (.int d2), .val (.int d3), .val (.int d4), .val (.int d5), .val (.int e1_), .val (.int e2_), .val (.int e3_), .val (.int e4_), .val (.int e5_), .unset, .unset, .unset, .unset, .unset] [(.int l1)]) := by
    intro l1 hl1
    refine Goes.on (T' := T47) (g' := (mkF m 267 #[.val (.long s_), .second, .val (.int a), .val (.int b), .val (.int c0), .val (.int c1), .val (.int c2), .val (.int c3), .val (.int c4), .val (.ref b6), .val (.int (Int32.ofNat f)), .val (.int (Int32.ofNat t)), .val (.ref mt), .val (.int d1), .val (.int d2), .val (.int d3), .val (.int d4), .val (.int d5), .val (.int e1_), .val (.int e2_), .val (.int e3_), .val (.int e4_), .val (.int e5_), .val (.int l1), .unset, .unset, .unset, .unset] [])) ?_ (fun t_ k_ => XS.istore X47.here hx rfl (hb hby at_265) rfl (l' := #[.val (.long s_), .second, .val (.int a), .val (.int b), .val (.int c0), .val (.int c1), .val (.int c2), .val (.int c3), .val (.int c4), .val (.ref b6), .val (.int (Int32.ofNat f)), .val (.int (Int32.ofNat t)), .val (.ref mt), .val (.int d1), .val (.int d2), .val (.int d3), .val (.int d4), .val (.int d5), .val (.int e1_), .val (.int e2_), .val (.int e3_), .val (.int e4_), .val (.int e5_), .val (.int l1), .unset, .unset, .unset, .unset]) rfl k_)
    refine Goes.on (T' := T47) (g' := (mkF m 269 #[.val (.long s_), .second, .val (.int a), .val (.int b), .val (.int c0), .val (.int c1), .val (.int c2), .val (.int c3), .val (.int c4), .val (.ref b6), .val (.int (Int32.ofNat f)), .val (.int (Int32.ofNat t)), .val (.ref mt), .val (.int d1), .val (.int d2), .val (.int d3), .val (.int d4), .val (.int d5), .val (.int e1_), .val (.int e2_), .val (.int e3_), .val (.int e4_), .val (.int e5_), .val (.int l1), .unset, .unset, .unset, .unset] [(.int e2_)])) ?_ (fun t_ k_ => XS.iload X47.here hx rfl (hb hby at_267) rfl k_)
    have J278 : ∀ l2 : Int32, l2 = (if e2_ = 0 then l1 else (2 : Int32)) → Goes p e below W T47 (mkF m 278 #[.val (.long s_), .second, .val (.int a), .val (.int b), .val (.int c0), .val (.int c1), .val (.int c2), .val (.int c3), .val (.int c4), .val (.ref b6), .val (.int (Int32.ofNat f)), .val (.int (Int32.ofNat t)), .val (.ref mt), .val (.int d1), .val (.int d2), .val (.int d3), .val (.int d4), .val (.int d5), .val (.int e1_), .val (.int e2_), .val (.int e3_), .val (.int e4_), .val (.int e5_), .val (.int l1), .unset, .unset, .unset, .unset] [(.int l2)]) := by
      intro l2 hl2
      refine Goes.on (T' := T47) (g' := (mkF m 280 #[.val (.long s_), .second, .val (.int a), .val (.int b), .val (.int c0), .val (.int c1), .val (.int c2), .val (.int c3), .val (.int c4), .val (.ref b6), .val (.int (Int32.ofNat f)), .val (.int (Int32.ofNat t)), .val (.ref mt), .val (.int d1), .val (.int d2), .val (.int d3), .val (.int d4), .val (.int d5), .val (.int e1_), .val (.int e2_), .val (.int e3_), .val (.int e4_), .val (.int e5_), .val (.int l1), .val (.int l2), .unset, .unset, .unset] [])) ?_ (fun t_ k_ => XS.istore X47.here hx rfl (hb hby at_278) rfl (l' := #[.val (.long s_), .second, .val (.int a), .val (.int b), .val (.int c0), .val (.int c1), .val (.int c2), .val (.int c3), .val (.int c4), .val (.ref b6), .val (.int (Int32.ofNat f)), .val (.int (Int32.ofNat t)), .val (.ref mt), .val (.int d1), .val (.int d2), .val (.int d3), .val (.int d4), .val (.int d5), .val (.int e1_), .val (.int e2_), .val (.int e3_), .val (.int e4_), .val (.int e5_), .val (.int l1), .val (.int l2), .unset, .unset, .unset]) rfl k_)
      refine Goes.on (T' := T47) (g' := (mkF m 282 #[.val (.long s_), .second, .val (.int a), .val (.int b), .val (.int c0), .val (.int c1), .val (.int c2), .val (.int c3), .val (.int c4), .val (.ref b6), .val (.int (Int32.ofNat f)), .val (.int (Int32.ofNat t)), .val (.ref mt), .val (.int d1), .val (.int d2), .val (.int d3), .val (.int d4), .val (.int d5), .val (.int e1_), .val (.int e2_), .val (.int e3_), .val (.int e4_), .val (.int e5_), .val (.int l1), .val (.int l2), .unset, .unset, .unset] [(.int e3_)])) ?_ (fun t_ k_ => XS.iload X47.here hx rfl (hb hby at_280) rfl k_)
      have J291 : ∀ l3 : Int32, l3 = (if e3_ = 0 then l2 else (3 : Int32)) → Goes p e below W T47 (mkF m 291 #[.val (.long s_), .second, .val (.int a), .val (.int b), .val (.int c0), .val (.int c1), .val (.int c2), .val (.int c3), .val (.int c4), .val (.ref b6), .val (.int (Int32.ofNat f)), .val (.int (Int32.ofNat t)), .val (.ref mt), .val (.int d1), .val (.int d2), .val (.int d3), .val (.int d4), .val (.int d5), .val (.int e1_), .val (.int e2_), .val (.int e3_), .val (.int e4_), .val (.int e5_), .val (.int l1), .val (.int l2), .unset, .unset, .unset] [(.int l3)]) := by
        intro l3 hl3
        refine Goes.on (T' := T47) (g' := (mkF m 293 #[.val (.long s_), .second, .val (.int a), .val (.int b), .val (.int c0), .val (.int c1), .val (.int c2), .val (.int c3), .val (.int c4), .val (.ref b6), .val (.int (Int32.ofNat f)), .val (.int (Int32.ofNat t)), .val (.ref mt), .val (.int d1), .val (.int d2), .val (.int d3), .val (.int d4), .val (.int d5), .val (.int e1_), .val (.int e2_), .val (.int e3_), .val (.int e4_), .val (.int e5_), .val (.int l1), .val (.int l2), .val (.int l3), .unset, .unset] [])) ?_ (fun t_ k_ => XS.istore X47.here hx rfl (hb hby at_291) rfl (l' := #[.val (.long s_), .second, .val (.int a), .val (.int b), .val (.int c0), .val (.int c1), .val (.int c2), .val (.int c3), .val (.int c4), .val (.ref b6), .val (.int (Int32.ofNat f)), .val (.int (Int32.ofNat t)), .val (.ref mt), .val (.int d1), .val (.int d2), .val (.int d3), .val (.int d4), .val (.int d5), .val (.int e1_), .val (.int e2_), .val (.int e3_), .val (.int e4_), .val (.int e5_), .val (.int l1), .val (.int l2), .val (.int l3), .unset, .unset]) rfl k_)
        refine Goes.on (T' := T47) (g' := (mkF m 295 #[.val (.long s_), .second, .val (.int a), .val (.int b), .val (.int c0), .val (.int c1), .val (.int c2), .val (.int c3), .val (.int c4), .val (.ref b6), .val (.int (Int32.ofNat f)), .val (.int (Int32.ofNat t)), .val (.ref mt), .val (.int d1), .val (.int d2), .val (.int d3), .val (.int d4), .val (.int d5), .val (.int e1_), .val (.int e2_), .val (.int e3_), .val (.int e4_), .val (.int e5_), .val (.int l1), .val (.int l2), .val (.int l3), .unset, .unset] [(.int e4_)])) ?_ (fun t_ k_ => XS.iload X47.here hx rfl (hb hby at_293) rfl k_)
        have J304 : ∀ l4 : Int32, l4 = (if e4_ = 0 then l3 else (4 : Int32)) → Goes p e below W T47 (mkF m 304 #[.val (.long s_), .second, .val (.int a), .val (.int b), .val (.int c0), .val (.int c1), .val (.int c2), .val (.int c3), .val (.int c4), .val (.ref b6), .val (.int (Int32.ofNat f)), .val (.int (Int32.ofNat t)), .val (.ref mt), .val (.int d1), .val (.int d2), .val (.int d3), .val (.int d4), .val (.int d5), .val (.int e1_), .val (.int e2_), .val (.int e3_), .val (.int e4_), .val (.int e5_), .val (.int l1), .val (.int l2), .val (.int l3), .unset, .unset] [(.int l4)]) := by
          intro l4 hl4
          refine Goes.on (T' := T47) (g' := (mkF m 306 #[.val (.long s_), .second, .val (.int a), .val (.int b), .val (.int c0), .val (.int c1), .val (.int c2), .val (.int c3), .val (.int c4), .val (.ref b6), .val (.int (Int32.ofNat f)), .val (.int (Int32.ofNat t)), .val (.ref mt), .val (.int d1), .val (.int d2), .val (.int d3), .val (.int d4), .val (.int d5), .val (.int e1_), .val (.int e2_), .val (.int e3_), .val (.int e4_), .val (.int e5_), .val (.int l1), .val (.int l2), .val (.int l3), .val (.int l4), .unset] [])) ?_ (fun t_ k_ => XS.istore X47.here hx rfl (hb hby at_304) rfl (l' := #[.val (.long s_), .second, .val (.int a), .val (.int b), .val (.int c0), .val (.int c1), .val (.int c2), .val (.int c3), .val (.int c4), .val (.ref b6), .val (.int (Int32.ofNat f)), .val (.int (Int32.ofNat t)), .val (.ref mt), .val (.int d1), .val (.int d2), .val (.int d3), .val (.int d4), .val (.int d5), .val (.int e1_), .val (.int e2_), .val (.int e3_), .val (.int e4_), .val (.int e5_), .val (.int l1), .val (.int l2), .val (.int l3), .val (.int l4), .unset]) rfl k_)
          refine Goes.on (T' := T47) (g' := (mkF m 308 #[.val (.long s_), .second, .val (.int a), .val (.int b), .val (.int c0), .val (.int c1), .val (.int c2), .val (.int c3), .val (.int c4), .val (.ref b6), .val (.int (Int32.ofNat f)), .val (.int (Int32.ofNat t)), .val (.ref mt), .val (.int d1), .val (.int d2), .val (.int d3), .val (.int d4), .val (.int d5), .val (.int e1_), .val (.int e2_), .val (.int e3_), .val (.int e4_), .val (.int e5_), .val (.int l1), .val (.int l2), .val (.int l3), .val (.int l4), .unset] [(.int e5_)])) ?_ (fun t_ k_ => XS.iload X47.here hx rfl (hb hby at_306) rfl k_)
          have J317 : ∀ l5 : Int32, l5 = (if e5_ = 0 then l4 else (5 : Int32)) → Goes p e below W T47 (mkF m 317 #[.val (.long s_), .second, .val (.int a), .val (.int b), .val (.int c0), .val (.int c1), .val (.int c2), .val (.int c3), .val (.int c4), .val (.ref b6), .val (.int (Int32.ofNat f)), .val (.int (Int32.ofNat t)), .val (.ref mt), .val (.int d1), .val (.int d2), .val (.int d3), .val (.int d4), .val (.int d5), .val (.int e1_), .val (.int e2_), .val (.int e3_), .val (.int e4_), .val (.int e5_), .val (.int l1), .val (.int l2), .val (.int l3), .val (.int l4), .unset] [(.int l5)]) := by
            intro l5 hl5
            refine Goes.on (T' := T47) (g' := (mkF m 319 #[.val (.long s_), .second, .val (.int a), .val (.int b), .val (.int c0), .val (.int c1), .val (.int c2), .val (.int c3), .val (.int c4), .val (.ref b6), .val (.int (Int32.ofNat f)), .val (.int (Int32.ofNat t)), .val (.ref mt), .val (.int d1), .val (.int d2), .val (.int d3), .val (.int d4), .val (.int d5), .val (.int e1_), .val (.int e2_), .val (.int e3_), .val (.int e4_), .val (.int e5_), .val (.int l1), .val (.int l2), .val (.int l3), .val (.int l4), .val (.int l5)] [])) ?_ (fun t_ k_ => XS.istore X47.here hx rfl (hb hby at_317) rfl (l' := #[.val (.long s_), .second, .val (.int a), .val (.int b), .val (.int c0), .val (.int c1), .val (.int c2), .val (.int c3), .val (.int c4), .val (.ref b6), .val (.int (Int32.ofNat f)), .val (.int (Int32.ofNat t)), .val (.ref mt), .val (.int d1), .val (.int d2), .val (.int d3), .val (.int d4), .val (.int d5), .val (.int e1_), .val (.int e2_), .val (.int e3_), .val (.int e4_), .val (.int e5_), .val (.int l1), .val (.int l2), .val (.int l3), .val (.int l4), .val (.int l5)]) rfl k_)
            refine Goes.on (T' := T47) (g' := (mkF m 321 #[.val (.long s_), .second, .val (.int a), .val (.int b), .val (.int c0), .val (.int c1), .val (.int c2), .val (.int c3), .val (.int c4), .val (.ref b6), .val (.int (Int32.ofNat f)), .val (.int (Int32.ofNat t)), .val (.ref mt), .val (.int d1), .val (.int d2), .val (.int d3), .val (.int d4), .val (.int d5), .val (.int e1_), .val (.int e2_), .val (.int e3_), .val (.int e4_), .val (.int e5_), .val (.int l1), .val (.int l2), .val (.int l3), .val (.int l4), .val (.int l5)] [(.ref mt)])) ?_ (fun t_ k_ => XS.aload X47.here hx rfl (hb hby at_319) rfl rfl k_)
            refine Goes.on (T' := T47) (g' := (mkF m 322 #[.val (.long s_), .second, .val (.int a), .val (.int b), .val (.int c0), .val (.int c1), .val (.int c2), .val (.int c3), .val (.int c4), .val (.ref b6), .val (.int (Int32.ofNat f)), .val (.int (Int32.ofNat t)), .val (.ref mt), .val (.int d1), .val (.int d2), .val (.int d3), .val (.int d4), .val (.int d5), .val (.int e1_), .val (.int e2_), .val (.int e3_), .val (.int e4_), .val (.int e5_), .val (.int l1), .val (.int l2), .val (.int l3), .val (.int l4), .val (.int l5)] [(.int (1 : Int32)), (.ref mt)])) ?_ (fun t_ k_ => XS.iconst X47.here hx rfl (hb hby at_321) k_)
            have hA := own_all c0 c1 c2 c3 c4 hft ht5 hSE hd1 hd2 hd3 hd4 hd5 (l1 := l1) (l2 := l2) (l3 := l3) (l4 := l4) (l5 := l5) (he1 ▸ hl1) (he2 ▸ hl2) (he3 ▸ hl3) (he4 ▸ hl4) (he5 ▸ hl5)
            obtain ⟨⟨q1, q2, q3, q4⟩, r1, r2, r3, r4, r5⟩ := hA
            obtain ⟨cq48, kq48, q48a, q48b, q48c⟩ := isOf hZ eh47 Em
            obtain ⟨_, _, ⟨T48, Lq_48, kq_48, nq_48⟩, -, X48, ⟨Lc48, hQ48, l48, y48, z48⟩, st48⟩ := X47.virtualBack hx (y := (⟨"com/example/covenantry/covenantry/read/Text$Matches", "holds", "(I)Z"⟩ : MethodName)) (z := (⟨"com/example/covenantry/covenantry/read/Text$Matches", "holds", "(I)Z"⟩ : MethodName)) hown (mvT hZ (hw _ (List.mem_of_getElem? (i := 113) rfl))) (mvT hZ (hw _ (List.mem_of_getElem? (i := 114) rfl))) (notFace_of_selects (args := #[]) (mvT hZ (hw _ (List.mem_of_getElem? (i := 116) rfl)))) (mvT hZ (hw _ (List.mem_of_getElem? (i := 116) rfl))) (mvT hZ (hw _ (List.mem_of_getElem? (i := 115) rfl))) (by decide) (backOf (W := 0) (rmHO l Z a0 hw [] mt sa ea ks ke S_ E_ (1 : Int32) hM n0 Zm Fs Fe Vm Ve (by omega) hES) hZ (hw _ (List.mem_of_getElem? (i := 117) rfl)) (hw _ (List.mem_of_getElem? (i := 37) rfl)) (by decide) (by decide)) q48a q48c (g := (mkF m 322 #[.val (.long s_), .second, .val (.int a), .val (.int b), .val (.int c0), .val (.int c1), .val (.int c2), .val (.int c3), .val (.int c4), .val (.ref b6), .val (.int (Int32.ofNat f)), .val (.int (Int32.ofNat t)), .val (.ref mt), .val (.int d1), .val (.int d2), .val (.int d3), .val (.int d4), .val (.int d5), .val (.int e1_), .val (.int e2_), .val (.int e3_), .val (.int e4_), .val (.int e5_), .val (.int l1), .val (.int l2), .val (.int l3), .val (.int l4), .val (.int l5)] [(.int (1 : Int32)), (.ref mt)])) rfl (by rw [hml]; rfl) (Steps.refl _) (argsL := [(.int (1 : Int32))]) (rest := []) (lenOf pd_14 rfl) rfl (by show 2 * 0 + _ ≤ _; exact Nat.le_of_eq rfl) (hb hby at_322) (fun _ _ => ⟨rfl, eh47, (by decide : 9 + 0 ≤ _), (by decide : 83 + 0 ≤ _)⟩)
            dsimp only [Pt.U, Pt.locs, Pt.cells, Pt.slots] at X48 l48 y48 z48 st48 hQ48
            rw [l48, y48, z48] at X48
            change Stand p l e _ _ m _ below meth c T48 _ 9 83 at X48
            obtain ⟨rfl, N48q, eh48⟩ := hQ48
            have N48 := Fr.app N47 N48q
            refine Goes.on (T' := T48) (g' := (mkF m 325 #[.val (.long s_), .second, .val (.int a), .val (.int b), .val (.int c0), .val (.int c1), .val (.int c2), .val (.int c3), .val (.int c4), .val (.ref b6), .val (.int (Int32.ofNat f)), .val (.int (Int32.ofNat t)), .val (.ref mt), .val (.int d1), .val (.int d2), .val (.int d3), .val (.int d4), .val (.int d5), .val (.int e1_), .val (.int e2_), .val (.int e3_), .val (.int e4_), .val (.int e5_), .val (.int l1), .val (.int l2), .val (.int l3), .val (.int l4), .val (.int l5)] [(.int (own_holds S_ E_ (1 : Int32)))])) ?_ (fun t => st48.trans)
            refine Goes.on (T' := T48) (g' := (mkF m 326 #[.val (.long s_), .second, .val (.int a), .val (.int b), .val (.int c0), .val (.int c1), .val (.int c2), .val (.int c3), .val (.int c4), .val (.ref b6), .val (.int (Int32.ofNat f)), .val (.int (Int32.ofNat t)), .val (.ref mt), .val (.int d1), .val (.int d2), .val (.int d3), .val (.int d4), .val (.int d5), .val (.int e1_), .val (.int e2_), .val (.int e3_), .val (.int e4_), .val (.int e5_), .val (.int l1), .val (.int l2), .val (.int l3), .val (.int l4), .val (.int l5)] [(.int (1 : Int32)), (.int (own_holds S_ E_ (1 : Int32)))])) ?_ (fun t_ k_ => XS.iconst X48.here hx rfl (hb hby at_325) k_)
            refine Goes.on (T' := T48) (g' := (mkF m 328 #[.val (.long s_), .second, .val (.int a), .val (.int b), .val (.int c0), .val (.int c1), .val (.int c2), .val (.int c3), .val (.int c4), .val (.ref b6), .val (.int (Int32.ofNat f)), .val (.int (Int32.ofNat t)), .val (.ref mt), .val (.int d1), .val (.int d2), .val (.int d3), .val (.int d4), .val (.int d5), .val (.int e1_), .val (.int e2_), .val (.int e3_), .val (.int e4_), .val (.int e5_), .val (.int l1), .val (.int l2), .val (.int l3), .val (.int l4), .val (.int l5)] [(.int (Int32.ofNat t)), (.int (1 : Int32)), (.int (own_holds S_ E_ (1 : Int32)))])) ?_ (fun t_ k_ => XS.iload X48.here hx rfl (hb hby at_326) rfl k_)
            have J341 : ∀ u1 : Int32, u1 = own_in (1 : Int32) (Int32.ofNat t) d1 → Goes p e below W T48 (mkF m 341 #[.val (.long s_), .second, .val (.int a), .val (.int b), .val (.int c0), .val (.int c1), .val (.int c2), .val (.int c3), .val (.int c4), .val (.ref b6), .val (.int (Int32.ofNat f)), .val (.int (Int32.ofNat t)), .val (.ref mt), .val (.int d1), .val (.int d2), .val (.int d3), .val (.int d4), .val (.int d5), .val (.int e1_), .val (.int e2_), .val (.int e3_), .val (.int e4_), .val (.int e5_), .val (.int l1), .val (.int l2), .val (.int l3), .val (.int l4), .val (.int l5)] [(.int u1), (.int (own_holds S_ E_ (1 : Int32)))]) := by
              intro u1 hu1
              refine Goes.on (T' := T48) (g' := (mkF m 344 #[.val (.long s_), .second, .val (.int a), .val (.int b), .val (.int c0), .val (.int c1), .val (.int c2), .val (.int c3), .val (.int c4), .val (.ref b6), .val (.int (Int32.ofNat f)), .val (.int (Int32.ofNat t)), .val (.ref mt), .val (.int d1), .val (.int d2), .val (.int d3), .val (.int d4), .val (.int d5), .val (.int e1_), .val (.int e2_), .val (.int e3_), .val (.int e4_), .val (.int e5_), .val (.int l1), .val (.int l2), .val (.int l3), .val (.int l4), .val (.int l5)] [])) ?_ (fun t_ k_ => XS.icmpNo X48.here hx rfl (hb hby at_341) rfl (teq (q1.trans hu1.symm)).2 k_)
              refine Goes.on (T' := T48) (g' := (mkF m 346 #[.val (.long s_), .second, .val (.int a), .val (.int b), .val (.int c0), .val (.int c1), .val (.int c2), .val (.int c3), .val (.int c4), .val (.ref b6), .val (.int (Int32.ofNat f)), .val (.int (Int32.ofNat t)), .val (.ref mt), .val (.int d1), .val (.int d2), .val (.int d3), .val (.int d4), .val (.int d5), .val (.int e1_), .val (.int e2_), .val (.int e3_), .val (.int e4_), .val (.int e5_), .val (.int l1), .val (.int l2), .val (.int l3), .val (.int l4), .val (.int l5)] [(.ref mt)])) ?_ (fun t_ k_ => XS.aload X48.here hx rfl (hb hby at_344) rfl rfl k_)
              refine Goes.on (T' := T48) (g' := (mkF m 347 #[.val (.long s_), .second, .val (.int a), .val (.int b), .val (.int c0), .val (.int c1), .val (.int c2), .val (.int c3), .val (.int c4), .val (.ref b6), .val (.int (Int32.ofNat f)), .val (.int (Int32.ofNat t)), .val (.ref mt), .val (.int d1), .val (.int d2), .val (.int d3), .val (.int d4), .val (.int d5), .val (.int e1_), .val (.int e2_), .val (.int e3_), .val (.int e4_), .val (.int e5_), .val (.int l1), .val (.int l2), .val (.int l3), .val (.int l4), .val (.int l5)] [(.int (2 : Int32)), (.ref mt)])) ?_ (fun t_ k_ => XS.iconst X48.here hx rfl (hb hby at_346) k_)
              obtain ⟨cq49, kq49, q49a, q49b, q49c⟩ := isOf hZ eh48 Em
              obtain ⟨_, _, ⟨T49, Lq_49, kq_49, nq_49⟩, -, X49, ⟨Lc49, hQ49, l49, y49, z49⟩, st49⟩ := X48.virtualBack hx (y := (⟨"com/example/covenantry/covenantry/read/Text$Matches", "holds", "(I)Z"⟩ : MethodName)) (z := (⟨"com/example/covenantry/covenantry/read/Text$Matches", "holds", "(I)Z"⟩ : MethodName)) hown (mvT hZ (hw _ (List.mem_of_getElem? (i := 113) rfl))) (mvT hZ (hw _ (List.mem_of_getElem? (i := 114) rfl))) (notFace_of_selects (args := #[]) (mvT hZ (hw _ (List.mem_of_getElem? (i := 116) rfl)))) (mvT hZ (hw _ (List.mem_of_getElem? (i := 116) rfl))) (mvT hZ (hw _ (List.mem_of_getElem? (i := 115) rfl))) (by decide) (backOf (W := 0) (rmHO l Z a0 hw [] mt sa ea ks ke S_ E_ (2 : Int32) hM n0 Zm Fs Fe Vm Ve (by omega) hES) hZ (hw _ (List.mem_of_getElem? (i := 117) rfl)) (hw _ (List.mem_of_getElem? (i := 37) rfl)) (by decide) (by decide)) q49a q49c (g := (mkF m 347 #[.val (.long s_), .second, .val (.int a), .val (.int b), .val (.int c0), .val (.int c1), .val (.int c2), .val (.int c3), .val (.int c4), .val (.ref b6), .val (.int (Int32.ofNat f)), .val (.int (Int32.ofNat t)), .val (.ref mt), .val (.int d1), .val (.int d2), .val (.int d3), .val (.int d4), .val (.int d5), .val (.int e1_), .val (.int e2_), .val (.int e3_), .val (.int e4_), .val (.int e5_), .val (.int l1), .val (.int l2), .val (.int l3), .val (.int l4), .val (.int l5)] [(.int (2 : Int32)), (.ref mt)])) rfl (by rw [hml]; rfl) (Steps.refl _) (argsL := [(.int (2 : Int32))]) (rest := []) (lenOf pd_14 rfl) rfl (by show 2 * 0 + _ ≤ _; exact Nat.le_of_eq rfl) (hb hby at_347) (fun _ _ => ⟨rfl, eh48, (by decide : 9 + 0 ≤ _), (by decide : 83 + 0 ≤ _)⟩)
              dsimp only [Pt.U, Pt.locs, Pt.cells, Pt.slots] at X49 l49 y49 z49 st49 hQ49
              rw [l49, y49, z49] at X49
              change Stand p l e _ _ m _ below meth c T49 _ 9 83 at X49
              obtain ⟨rfl, N49q, eh49⟩ := hQ49
              have N49 := Fr.app N48 N49q
              refine Goes.on (T' := T49) (g' := (mkF m 350 #[.val (.long s_), .second, .val (.int a), .val (.int b), .val (.int c0), .val (.int c1), .val (.int c2), .val (.int c3), .val (.int c4), .val (.ref b6), .val (.int (Int32.ofNat f)), .val (.int (Int32.ofNat t)), .val (.ref mt), .val (.int d1), .val (.int d2), .val (.int d3), .val (.int d4), .val (.int d5), .val (.int e1_), .val (.int e2_), .val (.int e3_), .val (.int e4_), .val (.int e5_), .val (.int l1), .val (.int l2), .val (.int l3), .val (.int l4), .val (.int l5)] [(.int (own_holds S_ E_ (2 : Int32)))])) ?_ (fun t => st49.trans)
              refine Goes.on (T' := T49) (g' := (mkF m 351 #[.val (.long s_), .second, .val (.int a), .val (.int b), .val (.int c0), .val (.int c1), .val (.int c2), .val (.int c3), .val (.int c4), .val (.ref b6), .val (.int (Int32.ofNat f)), .val (.int (Int32.ofNat t)), .val (.ref mt), .val (.int d1), .val (.int d2), .val (.int d3), .val (.int d4), .val (.int d5), .val (.int e1_), .val (.int e2_), .val (.int e3_), .val (.int e4_), .val (.int e5_), .val (.int l1), .val (.int l2), .val (.int l3), .val (.int l4), .val (.int l5)] [(.int (2 : Int32)), (.int (own_holds S_ E_ (2 : Int32)))])) ?_ (fun t_ k_ => XS.iconst X49.here hx rfl (hb hby at_350) k_)
              refine Goes.on (T' := T49) (g' := (mkF m 353 #[.val (.long s_), .second, .val (.int a), .val (.int b), .val (.int c0), .val (.int c1), .val (.int c2), .val (.int c3), .val (.int c4), .val (.ref b6), .val (.int (Int32.ofNat f)), .val (.int (Int32.ofNat t)), .val (.ref mt), .val (.int d1), .val (.int d2), .val (.int d3), .val (.int d4), .val (.int d5), .val (.int e1_), .val (.int e2_), .val (.int e3_), .val (.int e4_), .val (.int e5_), .val (.int l1), .val (.int l2), .val (.int l3), .val (.int l4), .val (.int l5)] [(.int (Int32.ofNat t)), (.int (2 : Int32)), (.int (own_holds S_ E_ (2 : Int32)))])) ?_ (fun t_ k_ => XS.iload X49.here hx rfl (hb hby at_351) rfl k_)
              have J366 : ∀ u2 : Int32, u2 = own_in (2 : Int32) (Int32.ofNat t) d2 → Goes p e below W T49 (mkF m 366 #[.val (.long s_), .second, .val (.int a), .val (.int b), .val (.int c0), .val (.int c1), .val (.int c2), .val (.int c3), .val (.int c4), .val (.ref b6), .val (.int (Int32.ofNat f)), .val (.int (Int32.ofNat t)), .val (.ref mt), .val (.int d1), .val (.int d2), .val (.int d3), .val (.int d4), .val (.int d5), .val (.int e1_), .val (.int e2_), .val (.int e3_), .val (.int e4_), .val (.int e5_), .val (.int l1), .val (.int l2), .val (.int l3), .val (.int l4), .val (.int l5)] [(.int u2), (.int (own_holds S_ E_ (2 : Int32)))]) := by
                intro u2 hu2
                refine Goes.on (T' := T49) (g' := (mkF m 369 #[.val (.long s_), .second, .val (.int a), .val (.int b), .val (.int c0), .val (.int c1), .val (.int c2), .val (.int c3), .val (.int c4), .val (.ref b6), .val (.int (Int32.ofNat f)), .val (.int (Int32.ofNat t)), .val (.ref mt), .val (.int d1), .val (.int d2), .val (.int d3), .val (.int d4), .val (.int d5), .val (.int e1_), .val (.int e2_), .val (.int e3_), .val (.int e4_), .val (.int e5_), .val (.int l1), .val (.int l2), .val (.int l3), .val (.int l4), .val (.int l5)] [])) ?_ (fun t_ k_ => XS.icmpNo X49.here hx rfl (hb hby at_366) rfl (teq (q2.trans hu2.symm)).2 k_)
                refine Goes.on (T' := T49) (g' := (mkF m 371 #[.val (.long s_), .second, .val (.int a), .val (.int b), .val (.int c0), .val (.int c1), .val (.int c2), .val (.int c3), .val (.int c4), .val (.ref b6), .val (.int (Int32.ofNat f)), .val (.int (Int32.ofNat t)), .val (.ref mt), .val (.int d1), .val (.int d2), .val (.int d3), .val (.int d4), .val (.int d5), .val (.int e1_), .val (.int e2_), .val (.int e3_), .val (.int e4_), .val (.int e5_), .val (.int l1), .val (.int l2), .val (.int l3), .val (.int l4), .val (.int l5)] [(.ref mt)])) ?_ (fun t_ k_ => XS.aload X49.here hx rfl (hb hby at_369) rfl rfl k_)
                refine Goes.on (T' := T49) (g' := (mkF m 372 #[.val (.long s_), .second, .val (.int a), .val (.int b), .val (.int c0), .val (.int c1), .val (.int c2), .val (.int c3), .val (.int c4), .val (.ref b6), .val (.int (Int32.ofNat f)), .val (.int (Int32.ofNat t)), .val (.ref mt), .val (.int d1), .val (.int d2), .val (.int d3), .val (.int d4), .val (.int d5), .val (.int e1_), .val (.int e2_), .val (.int e3_), .val (.int e4_), .val (.int e5_), .val (.int l1), .val (.int l2), .val (.int l3), .val (.int l4), .val (.int l5)] [(.int (3 : Int32)), (.ref mt)])) ?_ (fun t_ k_ => XS.iconst X49.here hx rfl (hb hby at_371) k_)
                obtain ⟨cq50, kq50, q50a, q50b, q50c⟩ := isOf hZ eh49 Em
                obtain ⟨_, _, ⟨T50, Lq_50, kq_50, nq_50⟩, -, X50, ⟨Lc50, hQ50, l50, y50, z50⟩, st50⟩ := X49.virtualBack hx (y := (⟨"com/example/covenantry/covenantry/read/Text$Matches", "holds", "(I)Z"⟩ : MethodName)) (z := (⟨"com/example/covenantry/covenantry/read/Text$Matches", "holds", "(I)Z"⟩ : MethodName)) hown (mvT hZ (hw _ (List.mem_of_getElem? (i := 113) rfl))) (mvT hZ (hw _ (List.mem_of_getElem? (i := 114) rfl))) (notFace_of_selects (args := #[]) (mvT hZ (hw _ (List.mem_of_getElem? (i := 116) rfl)))) (mvT hZ (hw _ (List.mem_of_getElem? (i := 116) rfl))) (mvT hZ (hw _ (List.mem_of_getElem? (i := 115) rfl))) (by decide) (backOf (W := 0) (rmHO l Z a0 hw [] mt sa ea ks ke S_ E_ (3 : Int32) hM n0 Zm Fs Fe Vm Ve (by omega) hES) hZ (hw _ (List.mem_of_getElem? (i := 117) rfl)) (hw _ (List.mem_of_getElem? (i := 37) rfl)) (by decide) (by decide)) q50a q50c (g := (mkF m 372 #[.val (.long s_), .second, .val (.int a), .val (.int b), .val (.int c0), .val (.int c1), .val (.int c2), .val (.int c3), .val (.int c4), .val (.ref b6), .val (.int (Int32.ofNat f)), .val (.int (Int32.ofNat t)), .val (.ref mt), .val (.int d1), .val (.int d2), .val (.int d3), .val (.int d4), .val (.int d5), .val (.int e1_), .val (.int e2_), .val (.int e3_), .val (.int e4_), .val (.int e5_), .val (.int l1), .val (.int l2), .val (.int l3), .val (.int l4), .val (.int l5)] [(.int (3 : Int32)), (.ref mt)])) rfl (by rw [hml]; rfl) (Steps.refl _) (argsL := [(.int (3 : Int32))]) (rest := []) (lenOf pd_14 rfl) rfl (by show 2 * 0 + _ ≤ _; exact Nat.le_of_eq rfl) (hb hby at_372) (fun _ _ => ⟨rfl, eh49, (by decide : 9 + 0 ≤ _), (by decide : 83 + 0 ≤ _)⟩)
                dsimp only [Pt.U, Pt.locs, Pt.cells, Pt.slots] at X50 l50 y50 z50 st50 hQ50
                rw [l50, y50, z50] at X50
                change Stand p l e _ _ m _ below meth c T50 _ 9 83 at X50
                obtain ⟨rfl, N50q, eh50⟩ := hQ50
                have N50 := Fr.app N49 N50q
                refine Goes.on (T' := T50) (g' := (mkF m 375 #[.val (.long s_), .second, .val (.int a), .val (.int b), .val (.int c0), .val (.int c1), .val (.int c2), .val (.int c3), .val (.int c4), .val (.ref b6), .val (.int (Int32.ofNat f)), .val (.int (Int32.ofNat t)), .val (.ref mt), .val (.int d1), .val (.int d2), .val (.int d3), .val (.int d4), .val (.int d5), .val (.int e1_), .val (.int e2_), .val (.int e3_), .val (.int e4_), .val (.int e5_), .val (.int l1), .val (.int l2), .val (.int l3), .val (.int l4), .val (.int l5)] [(.int (own_holds S_ E_ (3 : Int32)))])) ?_ (fun t => st50.trans)
                refine Goes.on (T' := T50) (g' := (mkF m 376 #[.val (.long s_), .second, .val (.int a), .val (.int b), .val (.int c0), .val (.int c1), .val (.int c2), .val (.int c3), .val (.int c4), .val (.ref b6), .val (.int (Int32.ofNat f)), .val (.int (Int32.ofNat t)), .val (.ref mt), .val (.int d1), .val (.int d2), .val (.int d3), .val (.int d4), .val (.int d5), .val (.int e1_), .val (.int e2_), .val (.int e3_), .val (.int e4_), .val (.int e5_), .val (.int l1), .val (.int l2), .val (.int l3), .val (.int l4), .val (.int l5)] [(.int (3 : Int32)), (.int (own_holds S_ E_ (3 : Int32)))])) ?_ (fun t_ k_ => XS.iconst X50.here hx rfl (hb hby at_375) k_)
                refine Goes.on (T' := T50) (g' := (mkF m 378 #[.val (.long s_), .second, .val (.int a), .val (.int b), .val (.int c0), .val (.int c1), .val (.int c2), .val (.int c3), .val (.int c4), .val (.ref b6), .val (.int (Int32.ofNat f)), .val (.int (Int32.ofNat t)), .val (.ref mt), .val (.int d1), .val (.int d2), .val (.int d3), .val (.int d4), .val (.int d5), .val (.int e1_), .val (.int e2_), .val (.int e3_), .val (.int e4_), .val (.int e5_), .val (.int l1), .val (.int l2), .val (.int l3), .val (.int l4), .val (.int l5)] [(.int (Int32.ofNat t)), (.int (3 : Int32)), (.int (own_holds S_ E_ (3 : Int32)))])) ?_ (fun t_ k_ => XS.iload X50.here hx rfl (hb hby at_376) rfl k_)
                have J391 : ∀ u3 : Int32, u3 = own_in (3 : Int32) (Int32.ofNat t) d3 → Goes p e below W T50 (mkF m 391 #[.val (.long s_), .second, .val (.int a), .val (.int b), .val (.int c0), .val (.int c1), .val (.int c2), .val (.int c3), .val (.int c4), .val (.ref b6), .val (.int (Int32.ofNat f)), .val (.int (Int32.ofNat t)), .val (.ref mt), .val (.int d1), .val (.int d2), .val (.int d3), .val (.int d4), .val (.int d5), .val (.int e1_), .val (.int e2_), .val (.int e3_), .val (.int e4_), .val (.int e5_), .val (.int l1), .val (.int l2), .val (.int l3), .val (.int l4), .val (.int l5)] [(.int u3), (.int (own_holds S_ E_ (3 : Int32)))]) := by
                  intro u3 hu3
                  refine Goes.on (T' := T50) (g' := (mkF m 394 #[.val (.long s_), .second, .val (.int a), .val (.int b), .val (.int c0), .val (.int c1), .val (.int c2), .val (.int c3), .val (.int c4), .val (.ref b6), .val (.int (Int32.ofNat f)), .val (.int (Int32.ofNat t)), .val (.ref mt), .val (.int d1), .val (.int d2), .val (.int d3), .val (.int d4), .val (.int d5), .val (.int e1_), .val (.int e2_), .val (.int e3_), .val (.int e4_), .val (.int e5_), .val (.int l1), .val (.int l2), .val (.int l3), .val (.int l4), .val (.int l5)] [])) ?_ (fun t_ k_ => XS.icmpNo X50.here hx rfl (hb hby at_391) rfl (teq (q3.trans hu3.symm)).2 k_)
                  refine Goes.on (T' := T50) (g' := (mkF m 396 #[.val (.long s_), .second, .val (.int a), .val (.int b), .val (.int c0), .val (.int c1), .val (.int c2), .val (.int c3), .val (.int c4), .val (.ref b6), .val (.int (Int32.ofNat f)), .val (.int (Int32.ofNat t)), .val (.ref mt), .val (.int d1), .val (.int d2), .val (.int d3), .val (.int d4), .val (.int d5), .val (.int e1_), .val (.int e2_), .val (.int e3_), .val (.int e4_), .val (.int e5_), .val (.int l1), .val (.int l2), .val (.int l3), .val (.int l4), .val (.int l5)] [(.ref mt)])) ?_ (fun t_ k_ => XS.aload X50.here hx rfl (hb hby at_394) rfl rfl k_)
                  refine Goes.on (T' := T50) (g' := (mkF m 397 #[.val (.long s_), .second, .val (.int a), .val (.int b), .val (.int c0), .val (.int c1), .val (.int c2), .val (.int c3), .val (.int c4), .val (.ref b6), .val (.int (Int32.ofNat f)), .val (.int (Int32.ofNat t)), .val (.ref mt), .val (.int d1), .val (.int d2), .val (.int d3), .val (.int d4), .val (.int d5), .val (.int e1_), .val (.int e2_), .val (.int e3_), .val (.int e4_), .val (.int e5_), .val (.int l1), .val (.int l2), .val (.int l3), .val (.int l4), .val (.int l5)] [(.int (4 : Int32)), (.ref mt)])) ?_ (fun t_ k_ => XS.iconst X50.here hx rfl (hb hby at_396) k_)
                  obtain ⟨cq51, kq51, q51a, q51b, q51c⟩ := isOf hZ eh50 Em
                  obtain ⟨_, _, ⟨T51, Lq_51, kq_51, nq_51⟩, -, X51, ⟨Lc51, hQ51, l51, y51, z51⟩, st51⟩ := X50.virtualBack hx (y := (⟨"com/example/covenantry/covenantry/read/Text$Matches", "holds", "(I)Z"⟩ : MethodName)) (z := (⟨"com/example/covenantry/covenantry/read/Text$Matches", "holds", "(I)Z"⟩ : MethodName)) hown (mvT hZ (hw _ (List.mem_of_getElem? (i := 113) rfl))) (mvT hZ (hw _ (List.mem_of_getElem? (i := 114) rfl))) (notFace_of_selects (args := #[]) (mvT hZ (hw _ (List.mem_of_getElem? (i := 116) rfl)))) (mvT hZ (hw _ (List.mem_of_getElem? (i := 116) rfl))) (mvT hZ (hw _ (List.mem_of_getElem? (i := 115) rfl))) (by decide) (backOf (W := 0) (rmHO l Z a0 hw [] mt sa ea ks ke S_ E_ (4 : Int32) hM n0 Zm Fs Fe Vm Ve (by omega) hES) hZ (hw _ (List.mem_of_getElem? (i := 117) rfl)) (hw _ (List.mem_of_getElem? (i := 37) rfl)) (by decide) (by decide)) q51a q51c (g := (mkF m 397 #[.val (.long s_), .second, .val (.int a), .val (.int b), .val (.int c0), .val (.int c1), .val (.int c2), .val (.int c3), .val (.int c4), .val (.ref b6), .val (.int (Int32.ofNat f)), .val (.int (Int32.ofNat t)), .val (.ref mt), .val (.int d1), .val (.int d2), .val (.int d3), .val (.int d4), .val (.int d5), .val (.int e1_), .val (.int e2_), .val (.int e3_), .val (.int e4_), .val (.int e5_), .val (.int l1), .val (.int l2), .val (.int l3), .val (.int l4), .val (.int l5)] [(.int (4 : Int32)), (.ref mt)])) rfl (by rw [hml]; rfl) (Steps.refl _) (argsL := [(.int (4 : Int32))]) (rest := []) (lenOf pd_14 rfl) rfl (by show 2 * 0 + _ ≤ _; exact Nat.le_of_eq rfl) (hb hby at_397) (fun _ _ => ⟨rfl, eh50, (by decide : 9 + 0 ≤ _), (by decide : 83 + 0 ≤ _)⟩)
                  dsimp only [Pt.U, Pt.locs, Pt.cells, Pt.slots] at X51 l51 y51 z51 st51 hQ51
                  rw [l51, y51, z51] at X51
                  change Stand p l e _ _ m _ below meth c T51 _ 9 83 at X51
                  obtain ⟨rfl, N51q, eh51⟩ := hQ51
                  have N51 := Fr.app N50 N51q
                  refine Goes.on (T' := T51) (g' := (mkF m 400 #[.val (.long s_), .second, .val (.int a), .val (.int b), .val (.int c0), .val (.int c1), .val (.int c2), .val (.int c3), .val (.int c4), .val (.ref b6), .val (.int (Int32.ofNat f)), .val (.int (Int32.ofNat t)), .val (.ref mt), .val (.int d1), .val (.int d2), .val (.int d3), .val (.int d4), .val (.int d5), .val (.int e1_), .val (.int e2_), .val (.int e3_), .val (.int e4_), .val (.int e5_), .val (.int l1), .val (.int l2), .val (.int l3), .val (.int l4), .val (.int l5)] [(.int (own_holds S_ E_ (4 : Int32)))])) ?_ (fun t => st51.trans)
                  refine Goes.on (T' := T51) (g' := (mkF m 401 #[.val (.long s_), .second, .val (.int a), .val (.int b), .val (.int c0), .val (.int c1), .val (.int c2), .val (.int c3), .val (.int c4), .val (.ref b6), .val (.int (Int32.ofNat f)), .val (.int (Int32.ofNat t)), .val (.ref mt), .val (.int d1), .val (.int d2), .val (.int d3), .val (.int d4), .val (.int d5), .val (.int e1_), .val (.int e2_), .val (.int e3_), .val (.int e4_), .val (.int e5_), .val (.int l1), .val (.int l2), .val (.int l3), .val (.int l4), .val (.int l5)] [(.int (4 : Int32)), (.int (own_holds S_ E_ (4 : Int32)))])) ?_ (fun t_ k_ => XS.iconst X51.here hx rfl (hb hby at_400) k_)
                  refine Goes.on (T' := T51) (g' := (mkF m 403 #[.val (.long s_), .second, .val (.int a), .val (.int b), .val (.int c0), .val (.int c1), .val (.int c2), .val (.int c3), .val (.int c4), .val (.ref b6), .val (.int (Int32.ofNat f)), .val (.int (Int32.ofNat t)), .val (.ref mt), .val (.int d1), .val (.int d2), .val (.int d3), .val (.int d4), .val (.int d5), .val (.int e1_), .val (.int e2_), .val (.int e3_), .val (.int e4_), .val (.int e5_), .val (.int l1), .val (.int l2), .val (.int l3), .val (.int l4), .val (.int l5)] [(.int (Int32.ofNat t)), (.int (4 : Int32)), (.int (own_holds S_ E_ (4 : Int32)))])) ?_ (fun t_ k_ => XS.iload X51.here hx rfl (hb hby at_401) rfl k_)
                  have J416 : ∀ u4 : Int32, u4 = own_in (4 : Int32) (Int32.ofNat t) d4 → Goes p e below W T51 (mkF m 416 #[.val (.long s_), .second, .val (.int a), .val (.int b), .val (.int c0), .val (.int c1), .val (.int c2), .val (.int c3), .val (.int c4), .val (.ref b6), .val (.int (Int32.ofNat f)), .val (.int (Int32.ofNat t)), .val (.ref mt), .val (.int d1), .val (.int d2), .val (.int d3), .val (.int d4), .val (.int d5), .val (.int e1_), .val (.int e2_), .val (.int e3_), .val (.int e4_), .val (.int e5_), .val (.int l1), .val (.int l2), .val (.int l3), .val (.int l4), .val (.int l5)] [(.int u4), (.int (own_holds S_ E_ (4 : Int32)))]) := by
                    intro u4 hu4
                    refine Goes.on (T' := T51) (g' := (mkF m 419 #[.val (.long s_), .second, .val (.int a), .val (.int b), .val (.int c0), .val (.int c1), .val (.int c2), .val (.int c3), .val (.int c4), .val (.ref b6), .val (.int (Int32.ofNat f)), .val (.int (Int32.ofNat t)), .val (.ref mt), .val (.int d1), .val (.int d2), .val (.int d3), .val (.int d4), .val (.int d5), .val (.int e1_), .val (.int e2_), .val (.int e3_), .val (.int e4_), .val (.int e5_), .val (.int l1), .val (.int l2), .val (.int l3), .val (.int l4), .val (.int l5)] [])) ?_ (fun t_ k_ => XS.icmpNo X51.here hx rfl (hb hby at_416) rfl (teq (q4.trans hu4.symm)).2 k_)
                    refine Goes.on (T' := T51) (g' := (mkF m 421 #[.val (.long s_), .second, .val (.int a), .val (.int b), .val (.int c0), .val (.int c1), .val (.int c2), .val (.int c3), .val (.int c4), .val (.ref b6), .val (.int (Int32.ofNat f)), .val (.int (Int32.ofNat t)), .val (.ref mt), .val (.int d1), .val (.int d2), .val (.int d3), .val (.int d4), .val (.int d5), .val (.int e1_), .val (.int e2_), .val (.int e3_), .val (.int e4_), .val (.int e5_), .val (.int l1), .val (.int l2), .val (.int l3), .val (.int l4), .val (.int l5)] [(.ref mt)])) ?_ (fun t_ k_ => XS.aload X51.here hx rfl (hb hby at_419) rfl rfl k_)
                    refine Goes.on (T' := T51) (g' := (mkF m 422 #[.val (.long s_), .second, .val (.int a), .val (.int b), .val (.int c0), .val (.int c1), .val (.int c2), .val (.int c3), .val (.int c4), .val (.ref b6), .val (.int (Int32.ofNat f)), .val (.int (Int32.ofNat t)), .val (.ref mt), .val (.int d1), .val (.int d2), .val (.int d3), .val (.int d4), .val (.int d5), .val (.int e1_), .val (.int e2_), .val (.int e3_), .val (.int e4_), .val (.int e5_), .val (.int l1), .val (.int l2), .val (.int l3), .val (.int l4), .val (.int l5)] [(.int (1 : Int32)), (.ref mt)])) ?_ (fun t_ k_ => XS.iconst X51.here hx rfl (hb hby at_421) k_)
                    obtain ⟨cq52, kq52, q52a, q52b, q52c⟩ := isOf hZ eh51 Em
                    obtain ⟨_, _, ⟨T52, Lq_52, kq_52, nq_52⟩, -, X52, ⟨Lc52, hQ52, l52, y52, z52⟩, st52⟩ := X51.virtualBack hx (y := (⟨"com/example/covenantry/covenantry/read/Text$Matches", "lastEnd", "(I)I"⟩ : MethodName)) (z := (⟨"com/example/covenantry/covenantry/read/Text$Matches", "lastEnd", "(I)I"⟩ : MethodName)) hown (mvT hZ (hw _ (List.mem_of_getElem? (i := 124) rfl))) (mvT hZ (hw _ (List.mem_of_getElem? (i := 125) rfl))) (notFace_of_selects (args := #[]) (mvT hZ (hw _ (List.mem_of_getElem? (i := 127) rfl)))) (mvT hZ (hw _ (List.mem_of_getElem? (i := 127) rfl))) (mvT hZ (hw _ (List.mem_of_getElem? (i := 126) rfl))) (by decide) (backOf (W := 0) (rmLE l Z a0 hw [] mt sa ea ks ke S_ E_ (1 : Int32) hM n0 Zm Fs Fe Vm Ve (by omega) hES) hZ (hw _ (List.mem_of_getElem? (i := 128) rfl)) (hw _ (List.mem_of_getElem? (i := 37) rfl)) (by decide) (by decide)) q52a q52c (g := (mkF m 422 #[.val (.long s_), .second, .val (.int a), .val (.int b), .val (.int c0), .val (.int c1), .val (.int c2), .val (.int c3), .val (.int c4), .val (.ref b6), .val (.int (Int32.ofNat f)), .val (.int (Int32.ofNat t)), .val (.ref mt), .val (.int d1), .val (.int d2), .val (.int d3), .val (.int d4), .val (.int d5), .val (.int e1_), .val (.int e2_), .val (.int e3_), .val (.int e4_), .val (.int e5_), .val (.int l1), .val (.int l2), .val (.int l3), .val (.int l4), .val (.int l5)] [(.int (1 : Int32)), (.ref mt)])) rfl (by rw [hml]; rfl) (Steps.refl _) (argsL := [(.int (1 : Int32))]) (rest := []) (lenOf pd_15 rfl) rfl (by show 2 * 0 + _ ≤ _; exact Nat.le_of_eq rfl) (hb hby at_422) (fun _ _ => ⟨rfl, eh51, (by decide : 9 + 0 ≤ _), (by decide : 83 + 0 ≤ _)⟩)
                    dsimp only [Pt.U, Pt.locs, Pt.cells, Pt.slots] at X52 l52 y52 z52 st52 hQ52
                    rw [l52, y52, z52] at X52
                    change Stand p l e _ _ m _ below meth c T52 _ 9 83 at X52
                    obtain ⟨rfl, N52q, eh52⟩ := hQ52
                    have N52 := Fr.app N51 N52q
                    refine Goes.on (T' := T52) (g' := (mkF m 425 #[.val (.long s_), .second, .val (.int a), .val (.int b), .val (.int c0), .val (.int c1), .val (.int c2), .val (.int c3), .val (.int c4), .val (.ref b6), .val (.int (Int32.ofNat f)), .val (.int (Int32.ofNat t)), .val (.ref mt), .val (.int d1), .val (.int d2), .val (.int d3), .val (.int d4), .val (.int d5), .val (.int e1_), .val (.int e2_), .val (.int e3_), .val (.int e4_), .val (.int e5_), .val (.int l1), .val (.int l2), .val (.int l3), .val (.int l4), .val (.int l5)] [(.int (own_lastEnd E_ (1 : Int32)))])) ?_ (fun t => st52.trans)
                    refine Goes.on (T' := T52) (g' := (mkF m 427 #[.val (.long s_), .second, .val (.int a), .val (.int b), .val (.int c0), .val (.int c1), .val (.int c2), .val (.int c3), .val (.int c4), .val (.ref b6), .val (.int (Int32.ofNat f)), .val (.int (Int32.ofNat t)), .val (.ref mt), .val (.int d1), .val (.int d2), .val (.int d3), .val (.int d4), .val (.int d5), .val (.int e1_), .val (.int e2_), .val (.int e3_), .val (.int e4_), .val (.int e5_), .val (.int l1), .val (.int l2), .val (.int l3), .val (.int l4), .val (.int l5)] [(.int l1), (.int (own_lastEnd E_ (1 : Int32)))])) ?_ (fun t_ k_ => XS.iload X52.here hx rfl (hb hby at_425) rfl k_)
                    refine Goes.on (T' := T52) (g' := (mkF m 430 #[.val (.long s_), .second, .val (.int a), .val (.int b), .val (.int c0), .val (.int c1), .val (.int c2), .val (.int c3), .val (.int c4), .val (.ref b6), .val (.int (Int32.ofNat f)), .val (.int (Int32.ofNat t)), .val (.ref mt), .val (.int d1), .val (.int d2), .val (.int d3), .val (.int d4), .val (.int d5), .val (.int e1_), .val (.int e2_), .val (.int e3_), .val (.int e4_), .val (.int e5_), .val (.int l1), .val (.int l2), .val (.int l3), .val (.int l4), .val (.int l5)] [])) ?_ (fun t_ k_ => XS.icmpNo X52.here hx rfl (hb hby at_427) rfl (teq r1).2 k_)
                    refine Goes.on (T' := T52) (g' := (mkF m 432 #[.val (.long s_), .second, .val (.int a), .val (.int b), .val (.int c0), .val (.int c1), .val (.int c2), .val (.int c3), .val (.int c4), .val (.ref b6), .val (.int (Int32.ofNat f)), .val (.int (Int32.ofNat t)), .val (.ref mt), .val (.int d1), .val (.int d2), .val (.int d3), .val (.int d4), .val (.int d5), .val (.int e1_), .val (.int e2_), .val (.int e3_), .val (.int e4_), .val (.int e5_), .val (.int l1), .val (.int l2), .val (.int l3), .val (.int l4), .val (.int l5)] [(.ref mt)])) ?_ (fun t_ k_ => XS.aload X52.here hx rfl (hb hby at_430) rfl rfl k_)
                    refine Goes.on (T' := T52) (g' := (mkF m 433 #[.val (.long s_), .second, .val (.int a), .val (.int b), .val (.int c0), .val (.int c1), .val (.int c2), .val (.int c3), .val (.int c4), .val (.ref b6), .val (.int (Int32.ofNat f)), .val (.int (Int32.ofNat t)), .val (.ref mt), .val (.int d1), .val (.int d2), .val (.int d3), .val (.int d4), .val (.int d5), .val (.int e1_), .val (.int e2_), .val (.int e3_), .val (.int e4_), .val (.int e5_), .val (.int l1), .val (.int l2), .val (.int l3), .val (.int l4), .val (.int l5)] [(.int (2 : Int32)), (.ref mt)])) ?_ (fun t_ k_ => XS.iconst X52.here hx rfl (hb hby at_432) k_)
                    obtain ⟨cq53, kq53, q53a, q53b, q53c⟩ := isOf hZ eh52 Em
                    obtain ⟨_, _, ⟨T53, Lq_53, kq_53, nq_53⟩, -, X53, ⟨Lc53, hQ53, l53, y53, z53⟩, st53⟩ := X52.virtualBack hx (y := (⟨"com/example/covenantry/covenantry/read/Text$Matches", "lastEnd", "(I)I"⟩ : MethodName)) (z := (⟨"com/example/covenantry/covenantry/read/Text$Matches", "lastEnd", "(I)I"⟩ : MethodName)) hown (mvT hZ (hw _ (List.mem_of_getElem? (i := 124) rfl))) (mvT hZ (hw _ (List.mem_of_getElem? (i := 125) rfl))) (notFace_of_selects (args := #[]) (mvT hZ (hw _ (List.mem_of_getElem? (i := 127) rfl)))) (mvT hZ (hw _ (List.mem_of_getElem? (i := 127) rfl))) (mvT hZ (hw _ (List.mem_of_getElem? (i := 126) rfl))) (by decide) (backOf (W := 0) (rmLE l Z a0 hw [] mt sa ea ks ke S_ E_ (2 : Int32) hM n0 Zm Fs Fe Vm Ve (by omega) hES) hZ (hw _ (List.mem_of_getElem? (i := 128) rfl)) (hw _ (List.mem_of_getElem? (i := 37) rfl)) (by decide) (by decide)) q53a q53c (g := (mkF m 433 #[.val (.long s_), .second, .val (.int a), .val (.int b), .val (.int c0), .val (.int c1), .val (.int c2), .val (.int c3), .val (.int c4), .val (.ref b6), .val (.int (Int32.ofNat f)), .val (.int (Int32.ofNat t)), .val (.ref mt), .val (.int d1), .val (.int d2), .val (.int d3), .val (.int d4), .val (.int d5), .val (.int e1_), .val (.int e2_), .val (.int e3_), .val (.int e4_), .val (.int e5_), .val (.int l1), .val (.int l2), .val (.int l3), .val (.int l4), .val (.int l5)] [(.int (2 : Int32)), (.ref mt)])) rfl (by rw [hml]; rfl) (Steps.refl _) (argsL := [(.int (2 : Int32))]) (rest := []) (lenOf pd_15 rfl) rfl (by show 2 * 0 + _ ≤ _; exact Nat.le_of_eq rfl) (hb hby at_433) (fun _ _ => ⟨rfl, eh52, (by decide : 9 + 0 ≤ _), (by decide : 83 + 0 ≤ _)⟩)
                    dsimp only [Pt.U, Pt.locs, Pt.cells, Pt.slots] at X53 l53 y53 z53 st53 hQ53
                    rw [l53, y53, z53] at X53
                    change Stand p l e _ _ m _ below meth c T53 _ 9 83 at X53
                    obtain ⟨rfl, N53q, eh53⟩ := hQ53
                    have N53 := Fr.app N52 N53q
                    refine Goes.on (T' := T53) (g' := (mkF m 436 #[.val (.long s_), .second, .val (.int a), .val (.int b), .val (.int c0), .val (.int c1), .val (.int c2), .val (.int c3), .val (.int c4), .val (.ref b6), .val (.int (Int32.ofNat f)), .val (.int (Int32.ofNat t)), .val (.ref mt), .val (.int d1), .val (.int d2), .val (.int d3), .val (.int d4), .val (.int d5), .val (.int e1_), .val (.int e2_), .val (.int e3_), .val (.int e4_), .val (.int e5_), .val (.int l1), .val (.int l2), .val (.int l3), .val (.int l4), .val (.int l5)] [(.int (own_lastEnd E_ (2 : Int32)))])) ?_ (fun t => st53.trans)
                    refine Goes.on (T' := T53) (g' := (mkF m 438 #[.val (.long s_), .second, .val (.int a), .val (.int b), .val (.int c0), .val (.int c1), .val (.int c2), .val (.int c3), .val (.int c4), .val (.ref b6), .val (.int (Int32.ofNat f)), .val (.int (Int32.ofNat t)), .val (.ref mt), .val (.int d1), .val (.int d2), .val (.int d3), .val (.int d4), .val (.int d5), .val (.int e1_), .val (.int e2_), .val (.int e3_), .val (.int e4_), .val (.int e5_), .val (.int l1), .val (.int l2), .val (.int l3), .val (.int l4), .val (.int l5)] [(.int l2), (.int (own_lastEnd E_ (2 : Int32)))])) ?_ (fun t_ k_ => XS.iload X53.here hx rfl (hb hby at_436) rfl k_)
                    refine Goes.on (T' := T53) (g' := (mkF m 441 #[.val (.long s_), .second, .val (.int a), .val (.int b), .val (.int c0), .val (.int c1), .val (.int c2), .val (.int c3), .val (.int c4), .val (.ref b6), .val (.int (Int32.ofNat f)), .val (.int (Int32.ofNat t)), .val (.ref mt), .val (.int d1), .val (.int d2), .val (.int d3), .val (.int d4), .val (.int d5), .val (.int e1_), .val (.int e2_), .val (.int e3_), .val (.int e4_), .val (.int e5_), .val (.int l1), .val (.int l2), .val (.int l3), .val (.int l4), .val (.int l5)] [])) ?_ (fun t_ k_ => XS.icmpNo X53.here hx rfl (hb hby at_438) rfl (teq r2).2 k_)
                    refine Goes.on (T' := T53) (g' := (mkF m 443 #[.val (.long s_), .second, .val (.int a), .val (.int b), .val (.int c0), .val (.int c1), .val (.int c2), .val (.int c3), .val (.int c4), .val (.ref b6), .val (.int (Int32.ofNat f)), .val (.int (Int32.ofNat t)), .val (.ref mt), .val (.int d1), .val (.int d2), .val (.int d3), .val (.int d4), .val (.int d5), .val (.int e1_), .val (.int e2_), .val (.int e3_), .val (.int e4_), .val (.int e5_), .val (.int l1), .val (.int l2), .val (.int l3), .val (.int l4), .val (.int l5)] [(.ref mt)])) ?_ (fun t_ k_ => XS.aload X53.here hx rfl (hb hby at_441) rfl rfl k_)
                    refine Goes.on (T' := T53) (g' := (mkF m 444 #[.val (.long s_), .second, .val (.int a), .val (.int b), .val (.int c0), .val (.int c1), .val (.int c2), .val (.int c3), .val (.int c4), .val (.ref b6), .val (.int (Int32.ofNat f)), .val (.int (Int32.ofNat t)), .val (.ref mt), .val (.int d1), .val (.int d2), .val (.int d3), .val (.int d4), .val (.int d5), .val (.int e1_), .val (.int e2_), .val (.int e3_), .val (.int e4_), .val (.int e5_), .val (.int l1), .val (.int l2), .val (.int l3), .val (.int l4), .val (.int l5)] [(.int (3 : Int32)), (.ref mt)])) ?_ (fun t_ k_ => XS.iconst X53.here hx rfl (hb hby at_443) k_)
                    obtain ⟨cq54, kq54, q54a, q54b, q54c⟩ := isOf hZ eh53 Em
                    obtain ⟨_, _, ⟨T54, Lq_54, kq_54, nq_54⟩, -, X54, ⟨Lc54, hQ54, l54, y54, z54⟩, st54⟩ := X53.virtualBack hx (y := (⟨"com/example/covenantry/covenantry/read/Text$Matches", "lastEnd", "(I)I"⟩ : MethodName)) (z := (⟨"com/example/covenantry/covenantry/read/Text$Matches", "lastEnd", "(I)I"⟩ : MethodName)) hown (mvT hZ (hw _ (List.mem_of_getElem? (i := 124) rfl))) (mvT hZ (hw _ (List.mem_of_getElem? (i := 125) rfl))) (notFace_of_selects (args := #[]) (mvT hZ (hw _ (List.mem_of_getElem? (i := 127) rfl)))) (mvT hZ (hw _ (List.mem_of_getElem? (i := 127) rfl))) (mvT hZ (hw _ (List.mem_of_getElem? (i := 126) rfl))) (by decide) (backOf (W := 0) (rmLE l Z a0 hw [] mt sa ea ks ke S_ E_ (3 : Int32) hM n0 Zm Fs Fe Vm Ve (by omega) hES) hZ (hw _ (List.mem_of_getElem? (i := 128) rfl)) (hw _ (List.mem_of_getElem? (i := 37) rfl)) (by decide) (by decide)) q54a q54c (g := (mkF m 444 #[.val (.long s_), .second, .val (.int a), .val (.int b), .val (.int c0), .val (.int c1), .val (.int c2), .val (.int c3), .val (.int c4), .val (.ref b6), .val (.int (Int32.ofNat f)), .val (.int (Int32.ofNat t)), .val (.ref mt), .val (.int d1), .val (.int d2), .val (.int d3), .val (.int d4), .val (.int d5), .val (.int e1_), .val (.int e2_), .val (.int e3_), .val (.int e4_), .val (.int e5_), .val (.int l1), .val (.int l2), .val (.int l3), .val (.int l4), .val (.int l5)] [(.int (3 : Int32)), (.ref mt)])) rfl (by rw [hml]; rfl) (Steps.refl _) (argsL := [(.int (3 : Int32))]) (rest := []) (lenOf pd_15 rfl) rfl (by show 2 * 0 + _ ≤ _; exact Nat.le_of_eq rfl) (hb hby at_444) (fun _ _ => ⟨rfl, eh53, (by decide : 9 + 0 ≤ _), (by decide : 83 + 0 ≤ _)⟩)
                    dsimp only [Pt.U, Pt.locs, Pt.cells, Pt.slots] at X54 l54 y54 z54 st54 hQ54
                    rw [l54, y54, z54] at X54
                    change Stand p l e _ _ m _ below meth c T54 _ 9 83 at X54
                    obtain ⟨rfl, N54q, eh54⟩ := hQ54
                    have N54 := Fr.app N53 N54q
                    refine Goes.on (T' := T54) (g' := (mkF m 447 #[.val (.long s_), .second, .val (.int a), .val (.int b), .val (.int c0), .val (.int c1), .val (.int c2), .val (.int c3), .val (.int c4), .val (.ref b6), .val (.int (Int32.ofNat f)), .val (.int (Int32.ofNat t)), .val (.ref mt), .val (.int d1), .val (.int d2), .val (.int d3), .val (.int d4), .val (.int d5), .val (.int e1_), .val (.int e2_), .val (.int e3_), .val (.int e4_), .val (.int e5_), .val (.int l1), .val (.int l2), .val (.int l3), .val (.int l4), .val (.int l5)] [(.int (own_lastEnd E_ (3 : Int32)))])) ?_ (fun t => st54.trans)
                    refine Goes.on (T' := T54) (g' := (mkF m 449 #[.val (.long s_), .second, .val (.int a), .val (.int b), .val (.int c0), .val (.int c1), .val (.int c2), .val (.int c3), .val (.int c4), .val (.ref b6), .val (.int (Int32.ofNat f)), .val (.int (Int32.ofNat t)), .val (.ref mt), .val (.int d1), .val (.int d2), .val (.int d3), .val (.int d4), .val (.int d5), .val (.int e1_), .val (.int e2_), .val (.int e3_), .val (.int e4_), .val (.int e5_), .val (.int l1), .val (.int l2), .val (.int l3), .val (.int l4), .val (.int l5)] [(.int l3), (.int (own_lastEnd E_ (3 : Int32)))])) ?_ (fun t_ k_ => XS.iload X54.here hx rfl (hb hby at_447) rfl k_)
                    refine Goes.on (T' := T54) (g' := (mkF m 452 #[.val (.long s_), .second, .val (.int a), .val (.int b), .val (.int c0), .val (.int c1), .val (.int c2), .val (.int c3), .val (.int c4), .val (.ref b6), .val (.int (Int32.ofNat f)), .val (.int (Int32.ofNat t)), .val (.ref mt), .val (.int d1), .val (.int d2), .val (.int d3), .val (.int d4), .val (.int d5), .val (.int e1_), .val (.int e2_), .val (.int e3_), .val (.int e4_), .val (.int e5_), .val (.int l1), .val (.int l2), .val (.int l3), .val (.int l4), .val (.int l5)] [])) ?_ (fun t_ k_ => XS.icmpNo X54.here hx rfl (hb hby at_449) rfl (teq r3).2 k_)
                    refine Goes.on (T' := T54) (g' := (mkF m 454 #[.val (.long s_), .second, .val (.int a), .val (.int b), .val (.int c0), .val (.int c1), .val (.int c2), .val (.int c3), .val (.int c4), .val (.ref b6), .val (.int (Int32.ofNat f)), .val (.int (Int32.ofNat t)), .val (.ref mt), .val (.int d1), .val (.int d2), .val (.int d3), .val (.int d4), .val (.int d5), .val (.int e1_), .val (.int e2_), .val (.int e3_), .val (.int e4_), .val (.int e5_), .val (.int l1), .val (.int l2), .val (.int l3), .val (.int l4), .val (.int l5)] [(.ref mt)])) ?_ (fun t_ k_ => XS.aload X54.here hx rfl (hb hby at_452) rfl rfl k_)
                    refine Goes.on (T' := T54) (g' := (mkF m 455 #[.val (.long s_), .second, .val (.int a), .val (.int b), .val (.int c0), .val (.int c1), .val (.int c2), .val (.int c3), .val (.int c4), .val (.ref b6), .val (.int (Int32.ofNat f)), .val (.int (Int32.ofNat t)), .val (.ref mt), .val (.int d1), .val (.int d2), .val (.int d3), .val (.int d4), .val (.int d5), .val (.int e1_), .val (.int e2_), .val (.int e3_), .val (.int e4_), .val (.int e5_), .val (.int l1), .val (.int l2), .val (.int l3), .val (.int l4), .val (.int l5)] [(.int (4 : Int32)), (.ref mt)])) ?_ (fun t_ k_ => XS.iconst X54.here hx rfl (hb hby at_454) k_)
                    obtain ⟨cq55, kq55, q55a, q55b, q55c⟩ := isOf hZ eh54 Em
                    obtain ⟨_, _, ⟨T55, Lq_55, kq_55, nq_55⟩, -, X55, ⟨Lc55, hQ55, l55, y55, z55⟩, st55⟩ := X54.virtualBack hx (y := (⟨"com/example/covenantry/covenantry/read/Text$Matches", "lastEnd", "(I)I"⟩ : MethodName)) (z := (⟨"com/example/covenantry/covenantry/read/Text$Matches", "lastEnd", "(I)I"⟩ : MethodName)) hown (mvT hZ (hw _ (List.mem_of_getElem? (i := 124) rfl))) (mvT hZ (hw _ (List.mem_of_getElem? (i := 125) rfl))) (notFace_of_selects (args := #[]) (mvT hZ (hw _ (List.mem_of_getElem? (i := 127) rfl)))) (mvT hZ (hw _ (List.mem_of_getElem? (i := 127) rfl))) (mvT hZ (hw _ (List.mem_of_getElem? (i := 126) rfl))) (by decide) (backOf (W := 0) (rmLE l Z a0 hw [] mt sa ea ks ke S_ E_ (4 : Int32) hM n0 Zm Fs Fe Vm Ve (by omega) hES) hZ (hw _ (List.mem_of_getElem? (i := 128) rfl)) (hw _ (List.mem_of_getElem? (i := 37) rfl)) (by decide) (by decide)) q55a q55c (g := (mkF m 455 #[.val (.long s_), .second, .val (.int a), .val (.int b), .val (.int c0), .val (.int c1), .val (.int c2), .val (.int c3), .val (.int c4), .val (.ref b6), .val (.int (Int32.ofNat f)), .val (.int (Int32.ofNat t)), .val (.ref mt), .val (.int d1), .val (.int d2), .val (.int d3), .val (.int d4), .val (.int d5), .val (.int e1_), .val (.int e2_), .val (.int e3_), .val (.int e4_), .val (.int e5_), .val (.int l1), .val (.int l2), .val (.int l3), .val (.int l4), .val (.int l5)] [(.int (4 : Int32)), (.ref mt)])) rfl (by rw [hml]; rfl) (Steps.refl _) (argsL := [(.int (4 : Int32))]) (rest := []) (lenOf pd_15 rfl) rfl (by show 2 * 0 + _ ≤ _; exact Nat.le_of_eq rfl) (hb hby at_455) (fun _ _ => ⟨rfl, eh54, (by decide : 9 + 0 ≤ _), (by decide : 83 + 0 ≤ _)⟩)
                    dsimp only [Pt.U, Pt.locs, Pt.cells, Pt.slots] at X55 l55 y55 z55 st55 hQ55
                    rw [l55, y55, z55] at X55
                    change Stand p l e _ _ m _ below meth c T55 _ 9 83 at X55
                    obtain ⟨rfl, N55q, eh55⟩ := hQ55
                    have N55 := Fr.app N54 N55q
                    refine Goes.on (T' := T55) (g' := (mkF m 458 #[.val (.long s_), .second, .val (.int a), .val (.int b), .val (.int c0), .val (.int c1), .val (.int c2), .val (.int c3), .val (.int c4), .val (.ref b6), .val (.int (Int32.ofNat f)), .val (.int (Int32.ofNat t)), .val (.ref mt), .val (.int d1), .val (.int d2), .val (.int d3), .val (.int d4), .val (.int d5), .val (.int e1_), .val (.int e2_), .val (.int e3_), .val (.int e4_), .val (.int e5_), .val (.int l1), .val (.int l2), .val (.int l3), .val (.int l4), .val (.int l5)] [(.int (own_lastEnd E_ (4 : Int32)))])) ?_ (fun t => st55.trans)
                    refine Goes.on (T' := T55) (g' := (mkF m 460 #[.val (.long s_), .second, .val (.int a), .val (.int b), .val (.int c0), .val (.int c1), .val (.int c2), .val (.int c3), .val (.int c4), .val (.ref b6), .val (.int (Int32.ofNat f)), .val (.int (Int32.ofNat t)), .val (.ref mt), .val (.int d1), .val (.int d2), .val (.int d3), .val (.int d4), .val (.int d5), .val (.int e1_), .val (.int e2_), .val (.int e3_), .val (.int e4_), .val (.int e5_), .val (.int l1), .val (.int l2), .val (.int l3), .val (.int l4), .val (.int l5)] [(.int l4), (.int (own_lastEnd E_ (4 : Int32)))])) ?_ (fun t_ k_ => XS.iload X55.here hx rfl (hb hby at_458) rfl k_)
                    refine Goes.on (T' := T55) (g' := (mkF m 463 #[.val (.long s_), .second, .val (.int a), .val (.int b), .val (.int c0), .val (.int c1), .val (.int c2), .val (.int c3), .val (.int c4), .val (.ref b6), .val (.int (Int32.ofNat f)), .val (.int (Int32.ofNat t)), .val (.ref mt), .val (.int d1), .val (.int d2), .val (.int d3), .val (.int d4), .val (.int d5), .val (.int e1_), .val (.int e2_), .val (.int e3_), .val (.int e4_), .val (.int e5_), .val (.int l1), .val (.int l2), .val (.int l3), .val (.int l4), .val (.int l5)] [])) ?_ (fun t_ k_ => XS.icmpNo X55.here hx rfl (hb hby at_460) rfl (teq r4).2 k_)
                    refine Goes.on (T' := T55) (g' := (mkF m 465 #[.val (.long s_), .second, .val (.int a), .val (.int b), .val (.int c0), .val (.int c1), .val (.int c2), .val (.int c3), .val (.int c4), .val (.ref b6), .val (.int (Int32.ofNat f)), .val (.int (Int32.ofNat t)), .val (.ref mt), .val (.int d1), .val (.int d2), .val (.int d3), .val (.int d4), .val (.int d5), .val (.int e1_), .val (.int e2_), .val (.int e3_), .val (.int e4_), .val (.int e5_), .val (.int l1), .val (.int l2), .val (.int l3), .val (.int l4), .val (.int l5)] [(.ref mt)])) ?_ (fun t_ k_ => XS.aload X55.here hx rfl (hb hby at_463) rfl rfl k_)
                    refine Goes.on (T' := T55) (g' := (mkF m 466 #[.val (.long s_), .second, .val (.int a), .val (.int b), .val (.int c0), .val (.int c1), .val (.int c2), .val (.int c3), .val (.int c4), .val (.ref b6), .val (.int (Int32.ofNat f)), .val (.int (Int32.ofNat t)), .val (.ref mt), .val (.int d1), .val (.int d2), .val (.int d3), .val (.int d4), .val (.int d5), .val (.int e1_), .val (.int e2_), .val (.int e3_), .val (.int e4_), .val (.int e5_), .val (.int l1), .val (.int l2), .val (.int l3), .val (.int l4), .val (.int l5)] [(.int (5 : Int32)), (.ref mt)])) ?_ (fun t_ k_ => XS.iconst X55.here hx rfl (hb hby at_465) k_)
                    obtain ⟨cq56, kq56, q56a, q56b, q56c⟩ := isOf hZ eh55 Em
                    obtain ⟨_, _, ⟨T56, Lq_56, kq_56, nq_56⟩, -, X56, ⟨Lc56, hQ56, l56, y56, z56⟩, st56⟩ := X55.virtualBack hx (y := (⟨"com/example/covenantry/covenantry/read/Text$Matches", "lastEnd", "(I)I"⟩ : MethodName)) (z := (⟨"com/example/covenantry/covenantry/read/Text$Matches", "lastEnd", "(I)I"⟩ : MethodName)) hown (mvT hZ (hw _ (List.mem_of_getElem? (i := 124) rfl))) (mvT hZ (hw _ (List.mem_of_getElem? (i := 125) rfl))) (notFace_of_selects (args := #[]) (mvT hZ (hw _ (List.mem_of_getElem? (i := 127) rfl)))) (mvT hZ (hw _ (List.mem_of_getElem? (i := 127) rfl))) (mvT hZ (hw _ (List.mem_of_getElem? (i := 126) rfl))) (by decide) (backOf (W := 0) (rmLE l Z a0 hw [] mt sa ea ks ke S_ E_ (5 : Int32) hM n0 Zm Fs Fe Vm Ve (by omega) hES) hZ (hw _ (List.mem_of_getElem? (i := 128) rfl)) (hw _ (List.mem_of_getElem? (i := 37) rfl)) (by decide) (by decide)) q56a q56c (g := (mkF m 466 #[.val (.long s_), .second, .val (.int a), .val (.int b), .val (.int c0), .val (.int c1), .val (.int c2), .val (.int c3), .val (.int c4), .val (.ref b6), .val (.int (Int32.ofNat f)), .val (.int (Int32.ofNat t)), .val (.ref mt), .val (.int d1), .val (.int d2), .val (.int d3), .val (.int d4), .val (.int d5), .val (.int e1_), .val (.int e2_), .val (.int e3_), .val (.int e4_), .val (.int e5_), .val (.int l1), .val (.int l2), .val (.int l3), .val (.int l4), .val (.int l5)] [(.int (5 : Int32)), (.ref mt)])) rfl (by rw [hml]; rfl) (Steps.refl _) (argsL := [(.int (5 : Int32))]) (rest := []) (lenOf pd_15 rfl) rfl (by show 2 * 0 + _ ≤ _; exact Nat.le_of_eq rfl) (hb hby at_466) (fun _ _ => ⟨rfl, eh55, (by decide : 9 + 0 ≤ _), (by decide : 83 + 0 ≤ _)⟩)
                    dsimp only [Pt.U, Pt.locs, Pt.cells, Pt.slots] at X56 l56 y56 z56 st56 hQ56
                    rw [l56, y56, z56] at X56
                    change Stand p l e _ _ m _ below meth c T56 _ 9 83 at X56
                    obtain ⟨rfl, N56q, eh56⟩ := hQ56
                    have N56 := Fr.app N55 N56q
                    refine Goes.on (T' := T56) (g' := (mkF m 469 #[.val (.long s_), .second, .val (.int a), .val (.int b), .val (.int c0), .val (.int c1), .val (.int c2), .val (.int c3), .val (.int c4), .val (.ref b6), .val (.int (Int32.ofNat f)), .val (.int (Int32.ofNat t)), .val (.ref mt), .val (.int d1), .val (.int d2), .val (.int d3), .val (.int d4), .val (.int d5), .val (.int e1_), .val (.int e2_), .val (.int e3_), .val (.int e4_), .val (.int e5_), .val (.int l1), .val (.int l2), .val (.int l3), .val (.int l4), .val (.int l5)] [(.int (own_lastEnd E_ (5 : Int32)))])) ?_ (fun t => st56.trans)
                    refine Goes.on (T' := T56) (g' := (mkF m 471 #[.val (.long s_), .second, .val (.int a), .val (.int b), .val (.int c0), .val (.int c1), .val (.int c2), .val (.int c3), .val (.int c4), .val (.ref b6), .val (.int (Int32.ofNat f)), .val (.int (Int32.ofNat t)), .val (.ref mt), .val (.int d1), .val (.int d2), .val (.int d3), .val (.int d4), .val (.int d5), .val (.int e1_), .val (.int e2_), .val (.int e3_), .val (.int e4_), .val (.int e5_), .val (.int l1), .val (.int l2), .val (.int l3), .val (.int l4), .val (.int l5)] [(.int l5), (.int (own_lastEnd E_ (5 : Int32)))])) ?_ (fun t_ k_ => XS.iload X56.here hx rfl (hb hby at_469) rfl k_)
                    refine Goes.on (T' := T56) (g' := (mkF m 474 #[.val (.long s_), .second, .val (.int a), .val (.int b), .val (.int c0), .val (.int c1), .val (.int c2), .val (.int c3), .val (.int c4), .val (.ref b6), .val (.int (Int32.ofNat f)), .val (.int (Int32.ofNat t)), .val (.ref mt), .val (.int d1), .val (.int d2), .val (.int d3), .val (.int d4), .val (.int d5), .val (.int e1_), .val (.int e2_), .val (.int e3_), .val (.int e4_), .val (.int e5_), .val (.int l1), .val (.int l2), .val (.int l3), .val (.int l4), .val (.int l5)] [])) ?_ (fun t_ k_ => XS.icmpNo X56.here hx rfl (hb hby at_471) rfl (teq r5).2 k_)
                    refine Goes.on (T' := T56) (g' := (mkF m 475 #[.val (.long s_), .second, .val (.int a), .val (.int b), .val (.int c0), .val (.int c1), .val (.int c2), .val (.int c3), .val (.int c4), .val (.ref b6), .val (.int (Int32.ofNat f)), .val (.int (Int32.ofNat t)), .val (.ref mt), .val (.int d1), .val (.int d2), .val (.int d3), .val (.int d4), .val (.int d5), .val (.int e1_), .val (.int e2_), .val (.int e3_), .val (.int e4_), .val (.int e5_), .val (.int l1), .val (.int l2), .val (.int l3), .val (.int l4), .val (.int l5)] [(.int (1 : Int32))])) ?_ (fun t_ k_ => XS.iconst X56.here hx rfl (hb hby at_474) k_)
                    refine Goes.on (T' := T56) (g' := (mkF m 479 #[.val (.long s_), .second, .val (.int a), .val (.int b), .val (.int c0), .val (.int c1), .val (.int c2), .val (.int c3), .val (.int c4), .val (.ref b6), .val (.int (Int32.ofNat f)), .val (.int (Int32.ofNat t)), .val (.ref mt), .val (.int d1), .val (.int d2), .val (.int d3), .val (.int d4), .val (.int d5), .val (.int e1_), .val (.int e2_), .val (.int e3_), .val (.int e4_), .val (.int e5_), .val (.int l1), .val (.int l2), .val (.int l3), .val (.int l4), .val (.int l5)] [(.int (1 : Int32))])) ?_ (fun t_ k_ => XS.goto X56.here hx rfl (pc0 := 475) (pc' := 479) rfl (hb hby at_475) (by decide) (by decide) k_)
                    rw [hWd]
                    exact Goes.retn X56 (v := some (.int (nar .boolean (1 : Int32)))) (fun fs hr => retN X56 hx (t := .boolean) Bd.returns (by simp) (hb hby at_479) hr) (fun h => by rw [Bd.returns] at h; cases h) Bd.notSynchronized (by decide) (by decide) (by rw [eh56]; exact ⟨rfl, N56⟩)
                  refine Goes.icmpN X51 hx rfl (pc0 := 403) (pc' := 415) rfl (hb hby at_403) rfl (by decide) (by decide) (P := (4 : Int32) < (Int32.ofNat t)) (cmp_ge _ _) (fun hc403 => ?_) (fun hc403 => ?_)
                  · show Goes p e below W T51 (mkF m 415 #[.val (.long s_), .second, .val (.int a), .val (.int b), .val (.int c0), .val (.int c1), .val (.int c2), .val (.int c3), .val (.int c4), .val (.ref b6), .val (.int (Int32.ofNat f)), .val (.int (Int32.ofNat t)), .val (.ref mt), .val (.int d1), .val (.int d2), .val (.int d3), .val (.int d4), .val (.int d5), .val (.int e1_), .val (.int e2_), .val (.int e3_), .val (.int e4_), .val (.int e5_), .val (.int l1), .val (.int l2), .val (.int l3), .val (.int l4), .val (.int l5)] [(.int (own_holds S_ E_ (4 : Int32)))])
                    refine Goes.on (T' := T51) (g' := (mkF m 416 #[.val (.long s_), .second, .val (.int a), .val (.int b), .val (.int c0), .val (.int c1), .val (.int c2), .val (.int c3), .val (.int c4), .val (.ref b6), .val (.int (Int32.ofNat f)), .val (.int (Int32.ofNat t)), .val (.ref mt), .val (.int d1), .val (.int d2), .val (.int d3), .val (.int d4), .val (.int d5), .val (.int e1_), .val (.int e2_), .val (.int e3_), .val (.int e4_), .val (.int e5_), .val (.int l1), .val (.int l2), .val (.int l3), .val (.int l4), .val (.int l5)] [(.int (0 : Int32)), (.int (own_holds S_ E_ (4 : Int32)))])) ?_ (fun t_ k_ => XS.iconst X51.here hx rfl (hb hby at_415) k_)
                    exact J416 _ (by simp only [own_in, eq_false hc403, if_true, if_false, ↓reduceIte, not_true_eq_false, not_false_eq_true, true_and, and_true, false_and, and_false, or_true, true_or, or_false, false_or, and_self, or_self])
                  · show Goes p e below W T51 (mkF m 406 #[.val (.long s_), .second, .val (.int a), .val (.int b), .val (.int c0), .val (.int c1), .val (.int c2), .val (.int c3), .val (.int c4), .val (.ref b6), .val (.int (Int32.ofNat f)), .val (.int (Int32.ofNat t)), .val (.ref mt), .val (.int d1), .val (.int d2), .val (.int d3), .val (.int d4), .val (.int d5), .val (.int e1_), .val (.int e2_), .val (.int e3_), .val (.int e4_), .val (.int e5_), .val (.int l1), .val (.int l2), .val (.int l3), .val (.int l4), .val (.int l5)] [(.int (own_holds S_ E_ (4 : Int32)))])
                    refine Goes.on (T' := T51) (g' := (mkF m 408 #[.val (.long s_), .second, .val (.int a), .val (.int b), .val (.int c0), .val (.int c1), .val (.int c2), .val (.int c3), .val (.int c4), .val (.ref b6), .val (.int (Int32.ofNat f)), .val (.int (Int32.ofNat t)), .val (.ref mt), .val (.int d1), .val (.int d2), .val (.int d3), .val (.int d4), .val (.int d5), .val (.int e1_), .val (.int e2_), .val (.int e3_), .val (.int e4_), .val (.int e5_), .val (.int l1), .val (.int l2), .val (.int l3), .val (.int l4), .val (.int l5)] [(.int d4), (.int (own_holds S_ E_ (4 : Int32)))])) ?_ (fun t_ k_ => XS.iload X51.here hx rfl (hb hby at_406) rfl k_)
                    refine Goes.ifN X51 hx rfl (pc0 := 408) (pc' := 415) rfl (hb hby at_408) rfl (by decide) (by decide) (P := (0 : Int32) < d4) (ifc_le _ _) (fun hc408 => ?_) (fun hc408 => ?_)
                    · show Goes p e below W T51 (mkF m 415 #[.val (.long s_), .second, .val (.int a), .val (.int b), .val (.int c0), .val (.int c1), .val (.int c2), .val (.int c3), .val (.int c4), .val (.ref b6), .val (.int (Int32.ofNat f)), .val (.int (Int32.ofNat t)), .val (.ref mt), .val (.int d1), .val (.int d2), .val (.int d3), .val (.int d4), .val (.int d5), .val (.int e1_), .val (.int e2_), .val (.int e3_), .val (.int e4_), .val (.int e5_), .val (.int l1), .val (.int l2), .val (.int l3), .val (.int l4), .val (.int l5)] [(.int (own_holds S_ E_ (4 : Int32)))])
                      refine Goes.on (T' := T51) (g' := (mkF m 416 #[.val (.long s_), .second, .val (.int a), .val (.int b), .val (.int c0), .val (.int c1), .val (.int c2), .val (.int c3), .val (.int c4), .val (.ref b6), .val (.int (Int32.ofNat f)), .val (.int (Int32.ofNat t)), .val (.ref mt), .val (.int d1), .val (.int d2), .val (.int d3), .val (.int d4), .val (.int d5), .val (.int e1_), .val (.int e2_), .val (.int e3_), .val (.int e4_), .val (.int e5_), .val (.int l1), .val (.int l2), .val (.int l3), .val (.int l4), .val (.int l5)] [(.int (0 : Int32)), (.int (own_holds S_ E_ (4 : Int32)))])) ?_ (fun t_ k_ => XS.iconst X51.here hx rfl (hb hby at_415) k_)
                      exact J416 _ (by simp only [own_in, eq_true hc403, eq_false hc408, if_true, if_false, ↓reduceIte, not_true_eq_false, not_false_eq_true, true_and, and_true, false_and, and_false, or_true, true_or, or_false, false_or, and_self, or_self])
                    · show Goes p e below W T51 (mkF m 411 #[.val (.long s_), .second, .val (.int a), .val (.int b), .val (.int c0), .val (.int c1), .val (.int c2), .val (.int c3), .val (.int c4), .val (.ref b6), .val (.int (Int32.ofNat f)), .val (.int (Int32.ofNat t)), .val (.ref mt), .val (.int d1), .val (.int d2), .val (.int d3), .val (.int d4), .val (.int d5), .val (.int e1_), .val (.int e2_), .val (.int e3_), .val (.int e4_), .val (.int e5_), .val (.int l1), .val (.int l2), .val (.int l3), .val (.int l4), .val (.int l5)] [(.int (own_holds S_ E_ (4 : Int32)))])
                      refine Goes.on (T' := T51) (g' := (mkF m 412 #[.val (.long s_), .second, .val (.int a), .val (.int b), .val (.int c0), .val (.int c1), .val (.int c2), .val (.int c3), .val (.int c4), .val (.ref b6), .val (.int (Int32.ofNat f)), .val (.int (Int32.ofNat t)), .val (.ref mt), .val (.int d1), .val (.int d2), .val (.int d3), .val (.int d4), .val (.int d5), .val (.int e1_), .val (.int e2_), .val (.int e3_), .val (.int e4_), .val (.int e5_), .val (.int l1), .val (.int l2), .val (.int l3), .val (.int l4), .val (.int l5)] [(.int (1 : Int32)), (.int (own_holds S_ E_ (4 : Int32)))])) ?_ (fun t_ k_ => XS.iconst X51.here hx rfl (hb hby at_411) k_)
                      refine Goes.on (T' := T51) (g' := (mkF m 416 #[.val (.long s_), .second, .val (.int a), .val (.int b), .val (.int c0), .val (.int c1), .val (.int c2), .val (.int c3), .val (.int c4), .val (.ref b6), .val (.int (Int32.ofNat f)), .val (.int (Int32.ofNat t)), .val (.ref mt), .val (.int d1), .val (.int d2), .val (.int d3), .val (.int d4), .val (.int d5), .val (.int e1_), .val (.int e2_), .val (.int e3_), .val (.int e4_), .val (.int e5_), .val (.int l1), .val (.int l2), .val (.int l3), .val (.int l4), .val (.int l5)] [(.int (1 : Int32)), (.int (own_holds S_ E_ (4 : Int32)))])) ?_ (fun t_ k_ => XS.goto X51.here hx rfl (pc0 := 412) (pc' := 416) rfl (hb hby at_412) (by decide) (by decide) k_)
                      exact J416 _ (by simp only [own_in, eq_true hc403, eq_true hc408, if_true, if_false, ↓reduceIte, not_true_eq_false, not_false_eq_true, true_and, and_true, false_and, and_false, or_true, true_or, or_false, false_or, and_self, or_self])
                refine Goes.icmpN X50 hx rfl (pc0 := 378) (pc' := 390) rfl (hb hby at_378) rfl (by decide) (by decide) (P := (3 : Int32) < (Int32.ofNat t)) (cmp_ge _ _) (fun hc378 => ?_) (fun hc378 => ?_)
                · show Goes p e below W T50 (mkF m 390 #[.val (.long s_), .second, .val (.int a), .val (.int b), .val (.int c0), .val (.int c1), .val (.int c2), .val (.int c3), .val (.int c4), .val (.ref b6), .val (.int (Int32.ofNat f)), .val (.int (Int32.ofNat t)), .val (.ref mt), .val (.int d1), .val (.int d2), .val (.int d3), .val (.int d4), .val (.int d5), .val (.int e1_), .val (.int e2_), .val (.int e3_), .val (.int e4_), .val (.int e5_), .val (.int l1), .val (.int l2), .val (.int l3), .val (.int l4), .val (.int l5)] [(.int (own_holds S_ E_ (3 : Int32)))])
                  refine Goes.on (T' := T50) (g' := (mkF m 391 #[.val (.long s_), .second, .val (.int a), .val (.int b), .val (.int c0), .val (.int c1), .val (.int c2), .val (.int c3), .val (.int c4), .val (.ref b6), .val (.int (Int32.ofNat f)), .val (.int (Int32.ofNat t)), .val (.ref mt), .val (.int d1), .val (.int d2), .val (.int d3), .val (.int d4), .val (.int d5), .val (.int e1_), .val (.int e2_), .val (.int e3_), .val (.int e4_), .val (.int e5_), .val (.int l1), .val (.int l2), .val (.int l3), .val (.int l4), .val (.int l5)] [(.int (0 : Int32)), (.int (own_holds S_ E_ (3 : Int32)))])) ?_ (fun t_ k_ => XS.iconst X50.here hx rfl (hb hby at_390) k_)
                  exact J391 _ (by simp only [own_in, eq_false hc378, if_true, if_false, ↓reduceIte, not_true_eq_false, not_false_eq_true, true_and, and_true, false_and, and_false, or_true, true_or, or_false, false_or, and_self, or_self])
                · show Goes p e below W T50 (mkF m 381 #[.val (.long s_), .second, .val (.int a), .val (.int b), .val (.int c0), .val (.int c1), .val (.int c2), .val (.int c3), .val (.int c4), .val (.ref b6), .val (.int (Int32.ofNat f)), .val (.int (Int32.ofNat t)), .val (.ref mt), .val (.int d1), .val (.int d2), .val (.int d3), .val (.int d4), .val (.int d5), .val (.int e1_), .val (.int e2_), .val (.int e3_), .val (.int e4_), .val (.int e5_), .val (.int l1), .val (.int l2), .val (.int l3), .val (.int l4), .val (.int l5)] [(.int (own_holds S_ E_ (3 : Int32)))])
                  refine Goes.on (T' := T50) (g' := (mkF m 383 #[.val (.long s_), .second, .val (.int a), .val (.int b), .val (.int c0), .val (.int c1), .val (.int c2), .val (.int c3), .val (.int c4), .val (.ref b6), .val (.int (Int32.ofNat f)), .val (.int (Int32.ofNat t)), .val (.ref mt), .val (.int d1), .val (.int d2), .val (.int d3), .val (.int d4), .val (.int d5), .val (.int e1_), .val (.int e2_), .val (.int e3_), .val (.int e4_), .val (.int e5_), .val (.int l1), .val (.int l2), .val (.int l3), .val (.int l4), .val (.int l5)] [(.int d3), (.int (own_holds S_ E_ (3 : Int32)))])) ?_ (fun t_ k_ => XS.iload X50.here hx rfl (hb hby at_381) rfl k_)
                  refine Goes.ifN X50 hx rfl (pc0 := 383) (pc' := 390) rfl (hb hby at_383) rfl (by decide) (by decide) (P := (0 : Int32) < d3) (ifc_le _ _) (fun hc383 => ?_) (fun hc383 => ?_)
                  · show Goes p e below W T50 (mkF m 390 #[.val (.long s_), .second, .val (.int a), .val (.int b), .val (.int c0), .val (.int c1), .val (.int c2), .val (.int c3), .val (.int c4), .val (.ref b6), .val (.int (Int32.ofNat f)), .val (.int (Int32.ofNat t)), .val (.ref mt), .val (.int d1), .val (.int d2), .val (.int d3), .val (.int d4), .val (.int d5), .val (.int e1_), .val (.int e2_), .val (.int e3_), .val (.int e4_), .val (.int e5_), .val (.int l1), .val (.int l2), .val (.int l3), .val (.int l4), .val (.int l5)] [(.int (own_holds S_ E_ (3 : Int32)))])
                    refine Goes.on (T' := T50) (g' := (mkF m 391 #[.val (.long s_), .second, .val (.int a), .val (.int b), .val (.int c0), .val (.int c1), .val (.int c2), .val (.int c3), .val (.int c4), .val (.ref b6), .val (.int (Int32.ofNat f)), .val (.int (Int32.ofNat t)), .val (.ref mt), .val (.int d1), .val (.int d2), .val (.int d3), .val (.int d4), .val (.int d5), .val (.int e1_), .val (.int e2_), .val (.int e3_), .val (.int e4_), .val (.int e5_), .val (.int l1), .val (.int l2), .val (.int l3), .val (.int l4), .val (.int l5)] [(.int (0 : Int32)), (.int (own_holds S_ E_ (3 : Int32)))])) ?_ (fun t_ k_ => XS.iconst X50.here hx rfl (hb hby at_390) k_)
                    exact J391 _ (by simp only [own_in, eq_true hc378, eq_false hc383, if_true, if_false, ↓reduceIte, not_true_eq_false, not_false_eq_true, true_and, and_true, false_and, and_false, or_true, true_or, or_false, false_or, and_self, or_self])
                  · show Goes p e below W T50 (mkF m 386 #[.val (.long s_), .second, .val (.int a), .val (.int b), .val (.int c0), .val (.int c1), .val (.int c2), .val (.int c3), .val (.int c4), .val (.ref b6), .val (.int (Int32.ofNat f)), .val (.int (Int32.ofNat t)), .val (.ref mt), .val (.int d1), .val (.int d2), .val (.int d3), .val (.int d4), .val (.int d5), .val (.int e1_), .val (.int e2_), .val (.int e3_), .val (.int e4_), .val (.int e5_), .val (.int l1), .val (.int l2), .val (.int l3), .val (.int l4), .val (.int l5)] [(.int (own_holds S_ E_ (3 : Int32)))])
                    refine Goes.on (T' := T50) (g' := (mkF m 387 #[.val (.long s_), .second, .val (.int a), .val (.int b), .val (.int c0), .val (.int c1), .val (.int c2), .val (.int c3), .val (.int c4), .val (.ref b6), .val (.int (Int32.ofNat f)), .val (.int (Int32.ofNat t)), .val (.ref mt), .val (.int d1), .val (.int d2), .val (.int d3), .val (.int d4), .val (.int d5), .val (.int e1_), .val (.int e2_), .val (.int e3_), .val (.int e4_), .val (.int e5_), .val (.int l1), .val (.int l2), .val (.int l3), .val (.int l4), .val (.int l5)] [(.int (1 : Int32)), (.int (own_holds S_ E_ (3 : Int32)))])) ?_ (fun t_ k_ => XS.iconst X50.here hx rfl (hb hby at_386) k_)
                    refine Goes.on (T' := T50) (g' := (mkF m 391 #[.val (.long s_), .second, .val (.int a), .val (.int b), .val (.int c0), .val (.int c1), .val (.int c2), .val (.int c3), .val (.int c4), .val (.ref b6), .val (.int (Int32.ofNat f)), .val (.int (Int32.ofNat t)), .val (.ref mt), .val (.int d1), .val (.int d2), .val (.int d3), .val (.int d4), .val (.int d5), .val (.int e1_), .val (.int e2_), .val (.int e3_), .val (.int e4_), .val (.int e5_), .val (.int l1), .val (.int l2), .val (.int l3), .val (.int l4), .val (.int l5)] [(.int (1 : Int32)), (.int (own_holds S_ E_ (3 : Int32)))])) ?_ (fun t_ k_ => XS.goto X50.here hx rfl (pc0 := 387) (pc' := 391) rfl (hb hby at_387) (by decide) (by decide) k_)
                    exact J391 _ (by simp only [own_in, eq_true hc378, eq_true hc383, if_true, if_false, ↓reduceIte, not_true_eq_false, not_false_eq_true, true_and, and_true, false_and, and_false, or_true, true_or, or_false, false_or, and_self, or_self])
              refine Goes.icmpN X49 hx rfl (pc0 := 353) (pc' := 365) rfl (hb hby at_353) rfl (by decide) (by decide) (P := (2 : Int32) < (Int32.ofNat t)) (cmp_ge _ _) (fun hc353 => ?_) (fun hc353 => ?_)
              · show Goes p e below W T49 (mkF m 365 #[.val (.long s_), .second, .val (.int a), .val (.int b), .val (.int c0), .val (.int c1), .val (.int c2), .val (.int c3), .val (.int c4), .val (.ref b6), .val (.int (Int32.ofNat f)), .val (.int (Int32.ofNat t)), .val (.ref mt), .val (.int d1), .val (.int d2), .val (.int d3), .val (.int d4), .val (.int d5), .val (.int e1_), .val (.int e2_), .val (.int e3_), .val (.int e4_), .val (.int e5_), .val (.int l1), .val (.int l2), .val (.int l3), .val (.int l4), .val (.int l5)] [(.int (own_holds S_ E_ (2 : Int32)))])
                refine Goes.on (T' := T49) (g' := (mkF m 366 #[.val (.long s_), .second, .val (.int a), .val (.int b), .val (.int c0), .val (.int c1), .val (.int c2), .val (.int c3), .val (.int c4), .val (.ref b6), .val (.int (Int32.ofNat f)), .val (.int (Int32.ofNat t)), .val (.ref mt), .val (.int d1), .val (.int d2), .val (.int d3), .val (.int d4), .val (.int d5), .val (.int e1_), .val (.int e2_), .val (.int e3_), .val (.int e4_), .val (.int e5_), .val (.int l1), .val (.int l2), .val (.int l3), .val (.int l4), .val (.int l5)] [(.int (0 : Int32)), (.int (own_holds S_ E_ (2 : Int32)))])) ?_ (fun t_ k_ => XS.iconst X49.here hx rfl (hb hby at_365) k_)
                exact J366 _ (by simp only [own_in, eq_false hc353, if_true, if_false, ↓reduceIte, not_true_eq_false, not_false_eq_true, true_and, and_true, false_and, and_false, or_true, true_or, or_false, false_or, and_self, or_self])
              · show Goes p e below W T49 (mkF m 356 #[.val (.long s_), .second, .val (.int a), .val (.int b), .val (.int c0), .val (.int c1), .val (.int c2), .val (.int c3), .val (.int c4), .val (.ref b6), .val (.int (Int32.ofNat f)), .val (.int (Int32.ofNat t)), .val (.ref mt), .val (.int d1), .val (.int d2), .val (.int d3), .val (.int d4), .val (.int d5), .val (.int e1_), .val (.int e2_), .val (.int e3_), .val (.int e4_), .val (.int e5_), .val (.int l1), .val (.int l2), .val (.int l3), .val (.int l4), .val (.int l5)] [(.int (own_holds S_ E_ (2 : Int32)))])
                refine Goes.on (T' := T49) (g' := (mkF m 358 #[.val (.long s_), .second, .val (.int a), .val (.int b), .val (.int c0), .val (.int c1), .val (.int c2), .val (.int c3), .val (.int c4), .val (.ref b6), .val (.int (Int32.ofNat f)), .val (.int (Int32.ofNat t)), .val (.ref mt), .val (.int d1), .val (.int d2), .val (.int d3), .val (.int d4), .val (.int d5), .val (.int e1_), .val (.int e2_), .val (.int e3_), .val (.int e4_), .val (.int e5_), .val (.int l1), .val (.int l2), .val (.int l3), .val (.int l4), .val (.int l5)] [(.int d2), (.int (own_holds S_ E_ (2 : Int32)))])) ?_ (fun t_ k_ => XS.iload X49.here hx rfl (hb hby at_356) rfl k_)
                refine Goes.ifN X49 hx rfl (pc0 := 358) (pc' := 365) rfl (hb hby at_358) rfl (by decide) (by decide) (P := (0 : Int32) < d2) (ifc_le _ _) (fun hc358 => ?_) (fun hc358 => ?_)
                · show Goes p e below W T49 (mkF m 365 #[.val (.long s_), .second, .val (.int a), .val (.int b), .val (.int c0), .val (.int c1), .val (.int c2), .val (.int c3), .val (.int c4), .val (.ref b6), .val (.int (Int32.ofNat f)), .val (.int (Int32.ofNat t)), .val (.ref mt), .val (.int d1), .val (.int d2), .val (.int d3), .val (.int d4), .val (.int d5), .val (.int e1_), .val (.int e2_), .val (.int e3_), .val (.int e4_), .val (.int e5_), .val (.int l1), .val (.int l2), .val (.int l3), .val (.int l4), .val (.int l5)] [(.int (own_holds S_ E_ (2 : Int32)))])
                  refine Goes.on (T' := T49) (g' := (mkF m 366 #[.val (.long s_), .second, .val (.int a), .val (.int b), .val (.int c0), .val (.int c1), .val (.int c2), .val (.int c3), .val (.int c4), .val (.ref b6), .val (.int (Int32.ofNat f)), .val (.int (Int32.ofNat t)), .val (.ref mt), .val (.int d1), .val (.int d2), .val (.int d3), .val (.int d4), .val (.int d5), .val (.int e1_), .val (.int e2_), .val (.int e3_), .val (.int e4_), .val (.int e5_), .val (.int l1), .val (.int l2), .val (.int l3), .val (.int l4), .val (.int l5)] [(.int (0 : Int32)), (.int (own_holds S_ E_ (2 : Int32)))])) ?_ (fun t_ k_ => XS.iconst X49.here hx rfl (hb hby at_365) k_)
                  exact J366 _ (by simp only [own_in, eq_true hc353, eq_false hc358, if_true, if_false, ↓reduceIte, not_true_eq_false, not_false_eq_true, true_and, and_true, false_and, and_false, or_true, true_or, or_false, false_or, and_self, or_self])
                · show Goes p e below W T49 (mkF m 361 #[.val (.long s_), .second, .val (.int a), .val (.int b), .val (.int c0), .val (.int c1), .val (.int c2), .val (.int c3), .val (.int c4), .val (.ref b6), .val (.int (Int32.ofNat f)), .val (.int (Int32.ofNat t)), .val (.ref mt), .val (.int d1), .val (.int d2), .val (.int d3), .val (.int d4), .val (.int d5), .val (.int e1_), .val (.int e2_), .val (.int e3_), .val (.int e4_), .val (.int e5_), .val (.int l1), .val (.int l2), .val (.int l3), .val (.int l4), .val (.int l5)] [(.int (own_holds S_ E_ (2 : Int32)))])
                  refine Goes.on (T' := T49) (g' := (mkF m 362 #[.val (.long s_), .second, .val (.int a), .val (.int b), .val (.int c0), .val (.int c1), .val (.int c2), .val (.int c3), .val (.int c4), .val (.ref b6), .val (.int (Int32.ofNat f)), .val (.int (Int32.ofNat t)), .val (.ref mt), .val (.int d1), .val (.int d2), .val (.int d3), .val (.int d4), .val (.int d5), .val (.int e1_), .val (.int e2_), .val (.int e3_), .val (.int e4_), .val (.int e5_), .val (.int l1), .val (.int l2), .val (.int l3), .val (.int l4), .val (.int l5)] [(.int (1 : Int32)), (.int (own_holds S_ E_ (2 : Int32)))])) ?_ (fun t_ k_ => XS.iconst X49.here hx rfl (hb hby at_361) k_)
                  refine Goes.on (T' := T49) (g' := (mkF m 366 #[.val (.long s_), .second, .val (.int a), .val (.int b), .val (.int c0), .val (.int c1), .val (.int c2), .val (.int c3), .val (.int c4), .val (.ref b6), .val (.int (Int32.ofNat f)), .val (.int (Int32.ofNat t)), .val (.ref mt), .val (.int d1), .val (.int d2), .val (.int d3), .val (.int d4), .val (.int d5), .val (.int e1_), .val (.int e2_), .val (.int e3_), .val (.int e4_), .val (.int e5_), .val (.int l1), .val (.int l2), .val (.int l3), .val (.int l4), .val (.int l5)] [(.int (1 : Int32)), (.int (own_holds S_ E_ (2 : Int32)))])) ?_ (fun t_ k_ => XS.goto X49.here hx rfl (pc0 := 362) (pc' := 366) rfl (hb hby at_362) (by decide) (by decide) k_)
                  exact J366 _ (by simp only [own_in, eq_true hc353, eq_true hc358, if_true, if_false, ↓reduceIte, not_true_eq_false, not_false_eq_true, true_and, and_true, false_and, and_false, or_true, true_or, or_false, false_or, and_self, or_self])
            refine Goes.icmpN X48 hx rfl (pc0 := 328) (pc' := 340) rfl (hb hby at_328) rfl (by decide) (by decide) (P := (1 : Int32) < (Int32.ofNat t)) (cmp_ge _ _) (fun hc328 => ?_) (fun hc328 => ?_)
            · show Goes p e below W T48 (mkF m 340 #[.val (.long s_), .second, .val (.int a), .val (.int b), .val (.int c0), .val (.int c1), .val (.int c2), .val (.int c3), .val (.int c4), .val (.ref b6), .val (.int (Int32.ofNat f)), .val (.int (Int32.ofNat t)), .val (.ref mt), .val (.int d1), .val (.int d2), .val (.int d3), .val (.int d4), .val (.int d5), .val (.int e1_), .val (.int e2_), .val (.int e3_), .val (.int e4_), .val (.int e5_), .val (.int l1), .val (.int l2), .val (.int l3), .val (.int l4), .val (.int l5)] [(.int (own_holds S_ E_ (1 : Int32)))])
              refine Goes.on (T' := T48) (g' := (mkF m 341 #[.val (.long s_), .second, .val (.int a), .val (.int b), .val (.int c0), .val (.int c1), .val (.int c2), .val (.int c3), .val (.int c4), .val (.ref b6), .val (.int (Int32.ofNat f)), .val (.int (Int32.ofNat t)), .val (.ref mt), .val (.int d1), .val (.int d2), .val (.int d3), .val (.int d4), .val (.int d5), .val (.int e1_), .val (.int e2_), .val (.int e3_), .val (.int e4_), .val (.int e5_), .val (.int l1), .val (.int l2), .val (.int l3), .val (.int l4), .val (.int l5)] [(.int (0 : Int32)), (.int (own_holds S_ E_ (1 : Int32)))])) ?_ (fun t_ k_ => XS.iconst X48.here hx rfl (hb hby at_340) k_)
              exact J341 _ (by simp only [own_in, eq_false hc328, if_true, if_false, ↓reduceIte, not_true_eq_false, not_false_eq_true, true_and, and_true, false_and, and_false, or_true, true_or, or_false, false_or, and_self, or_self])
            · show Goes p e below W T48 (mkF m 331 #[.val (.long s_), .second, .val (.int a), .val (.int b), .val (.int c0), .val (.int c1), .val (.int c2), .val (.int c3), .val (.int c4), .val (.ref b6), .val (.int (Int32.ofNat f)), .val (.int (Int32.ofNat t)), .val (.ref mt), .val (.int d1), .val (.int d2), .val (.int d3), .val (.int d4), .val (.int d5), .val (.int e1_), .val (.int e2_), .val (.int e3_), .val (.int e4_), .val (.int e5_), .val (.int l1), .val (.int l2), .val (.int l3), .val (.int l4), .val (.int l5)] [(.int (own_holds S_ E_ (1 : Int32)))])
              refine Goes.on (T' := T48) (g' := (mkF m 333 #[.val (.long s_), .second, .val (.int a), .val (.int b), .val (.int c0), .val (.int c1), .val (.int c2), .val (.int c3), .val (.int c4), .val (.ref b6), .val (.int (Int32.ofNat f)), .val (.int (Int32.ofNat t)), .val (.ref mt), .val (.int d1), .val (.int d2), .val (.int d3), .val (.int d4), .val (.int d5), .val (.int e1_), .val (.int e2_), .val (.int e3_), .val (.int e4_), .val (.int e5_), .val (.int l1), .val (.int l2), .val (.int l3), .val (.int l4), .val (.int l5)] [(.int d1), (.int (own_holds S_ E_ (1 : Int32)))])) ?_ (fun t_ k_ => XS.iload X48.here hx rfl (hb hby at_331) rfl k_)
              refine Goes.ifN X48 hx rfl (pc0 := 333) (pc' := 340) rfl (hb hby at_333) rfl (by decide) (by decide) (P := (0 : Int32) < d1) (ifc_le _ _) (fun hc333 => ?_) (fun hc333 => ?_)
              · show Goes p e below W T48 (mkF m 340 #[.val (.long s_), .second, .val (.int a), .val (.int b), .val (.int c0), .val (.int c1), .val (.int c2), .val (.int c3), .val (.int c4), .val (.ref b6), .val (.int (Int32.ofNat f)), .val (.int (Int32.ofNat t)), .val (.ref mt), .val (.int d1), .val (.int d2), .val (.int d3), .val (.int d4), .val (.int d5), .val (.int e1_), .val (.int e2_), .val (.int e3_), .val (.int e4_), .val (.int e5_), .val (.int l1), .val (.int l2), .val (.int l3), .val (.int l4), .val (.int l5)] [(.int (own_holds S_ E_ (1 : Int32)))])
                refine Goes.on (T' := T48) (g' := (mkF m 341 #[.val (.long s_), .second, .val (.int a), .val (.int b), .val (.int c0), .val (.int c1), .val (.int c2), .val (.int c3), .val (.int c4), .val (.ref b6), .val (.int (Int32.ofNat f)), .val (.int (Int32.ofNat t)), .val (.ref mt), .val (.int d1), .val (.int d2), .val (.int d3), .val (.int d4), .val (.int d5), .val (.int e1_), .val (.int e2_), .val (.int e3_), .val (.int e4_), .val (.int e5_), .val (.int l1), .val (.int l2), .val (.int l3), .val (.int l4), .val (.int l5)] [(.int (0 : Int32)), (.int (own_holds S_ E_ (1 : Int32)))])) ?_ (fun t_ k_ => XS.iconst X48.here hx rfl (hb hby at_340) k_)
                exact J341 _ (by simp only [own_in, eq_true hc328, eq_false hc333, if_true, if_false, ↓reduceIte, not_true_eq_false, not_false_eq_true, true_and, and_true, false_and, and_false, or_true, true_or, or_false, false_or, and_self, or_self])
              · show Goes p e below W T48 (mkF m 336 #[.val (.long s_), .second, .val (.int a), .val (.int b), .val (.int c0), .val (.int c1), .val (.int c2), .val (.int c3), .val (.int c4), .val (.ref b6), .val (.int (Int32.ofNat f)), .val (.int (Int32.ofNat t)), .val (.ref mt), .val (.int d1), .val (.int d2), .val (.int d3), .val (.int d4), .val (.int d5), .val (.int e1_), .val (.int e2_), .val (.int e3_), .val (.int e4_), .val (.int e5_), .val (.int l1), .val (.int l2), .val (.int l3), .val (.int l4), .val (.int l5)] [(.int (own_holds S_ E_ (1 : Int32)))])
                refine Goes.on (T' := T48) (g' := (mkF m 337 #[.val (.long s_), .second, .val (.int a), .val (.int b), .val (.int c0), .val (.int c1), .val (.int c2), .val (.int c3), .val (.int c4), .val (.ref b6), .val (.int (Int32.ofNat f)), .val (.int (Int32.ofNat t)), .val (.ref mt), .val (.int d1), .val (.int d2), .val (.int d3), .val (.int d4), .val (.int d5), .val (.int e1_), .val (.int e2_), .val (.int e3_), .val (.int e4_), .val (.int e5_), .val (.int l1), .val (.int l2), .val (.int l3), .val (.int l4), .val (.int l5)] [(.int (1 : Int32)), (.int (own_holds S_ E_ (1 : Int32)))])) ?_ (fun t_ k_ => XS.iconst X48.here hx rfl (hb hby at_336) k_)
                refine Goes.on (T' := T48) (g' := (mkF m 341 #[.val (.long s_), .second, .val (.int a), .val (.int b), .val (.int c0), .val (.int c1), .val (.int c2), .val (.int c3), .val (.int c4), .val (.ref b6), .val (.int (Int32.ofNat f)), .val (.int (Int32.ofNat t)), .val (.ref mt), .val (.int d1), .val (.int d2), .val (.int d3), .val (.int d4), .val (.int d5), .val (.int e1_), .val (.int e2_), .val (.int e3_), .val (.int e4_), .val (.int e5_), .val (.int l1), .val (.int l2), .val (.int l3), .val (.int l4), .val (.int l5)] [(.int (1 : Int32)), (.int (own_holds S_ E_ (1 : Int32)))])) ?_ (fun t_ k_ => XS.goto X48.here hx rfl (pc0 := 337) (pc' := 341) rfl (hb hby at_337) (by decide) (by decide) k_)
                exact J341 _ (by simp only [own_in, eq_true hc328, eq_true hc333, if_true, if_false, ↓reduceIte, not_true_eq_false, not_false_eq_true, true_and, and_true, false_and, and_false, or_true, true_or, or_false, false_or, and_self, or_self])
          refine Goes.ifP X47 hx rfl (pc0 := 308) (pc' := 315) rfl (hb hby at_308) rfl (by decide) (by decide) (P := e5_ = (0 : Int32)) (ifc_eq _ _) (fun hc308 => ?_) (fun hc308 => ?_)
          · show Goes p e below W T47 (mkF m 315 #[.val (.long s_), .second, .val (.int a), .val (.int b), .val (.int c0), .val (.int c1), .val (.int c2), .val (.int c3), .val (.int c4), .val (.ref b6), .val (.int (Int32.ofNat f)), .val (.int (Int32.ofNat t)), .val (.ref mt), .val (.int d1), .val (.int d2), .val (.int d3), .val (.int d4), .val (.int d5), .val (.int e1_), .val (.int e2_), .val (.int e3_), .val (.int e4_), .val (.int e5_), .val (.int l1), .val (.int l2), .val (.int l3), .val (.int l4), .unset] [])
            refine Goes.on (T' := T47) (g' := (mkF m 317 #[.val (.long s_), .second, .val (.int a), .val (.int b), .val (.int c0), .val (.int c1), .val (.int c2), .val (.int c3), .val (.int c4), .val (.ref b6), .val (.int (Int32.ofNat f)), .val (.int (Int32.ofNat t)), .val (.ref mt), .val (.int d1), .val (.int d2), .val (.int d3), .val (.int d4), .val (.int d5), .val (.int e1_), .val (.int e2_), .val (.int e3_), .val (.int e4_), .val (.int e5_), .val (.int l1), .val (.int l2), .val (.int l3), .val (.int l4), .unset] [(.int l4)])) ?_ (fun t_ k_ => XS.iload X47.here hx rfl (hb hby at_315) rfl k_)
            exact J317 _ (by simp only [own_in, eq_true hc308, if_true, if_false, ↓reduceIte, not_true_eq_false, not_false_eq_true, true_and, and_true, false_and, and_false, or_true, true_or, or_false, false_or, and_self, or_self])
          · show Goes p e below W T47 (mkF m 311 #[.val (.long s_), .second, .val (.int a), .val (.int b), .val (.int c0), .val (.int c1), .val (.int c2), .val (.int c3), .val (.int c4), .val (.ref b6), .val (.int (Int32.ofNat f)), .val (.int (Int32.ofNat t)), .val (.ref mt), .val (.int d1), .val (.int d2), .val (.int d3), .val (.int d4), .val (.int d5), .val (.int e1_), .val (.int e2_), .val (.int e3_), .val (.int e4_), .val (.int e5_), .val (.int l1), .val (.int l2), .val (.int l3), .val (.int l4), .unset] [])
            refine Goes.on (T' := T47) (g' := (mkF m 312 #[.val (.long s_), .second, .val (.int a), .val (.int b), .val (.int c0), .val (.int c1), .val (.int c2), .val (.int c3), .val (.int c4), .val (.ref b6), .val (.int (Int32.ofNat f)), .val (.int (Int32.ofNat t)), .val (.ref mt), .val (.int d1), .val (.int d2), .val (.int d3), .val (.int d4), .val (.int d5), .val (.int e1_), .val (.int e2_), .val (.int e3_), .val (.int e4_), .val (.int e5_), .val (.int l1), .val (.int l2), .val (.int l3), .val (.int l4), .unset] [(.int (5 : Int32))])) ?_ (fun t_ k_ => XS.iconst X47.here hx rfl (hb hby at_311) k_)
            refine Goes.on (T' := T47) (g' := (mkF m 317 #[.val (.long s_), .second, .val (.int a), .val (.int b), .val (.int c0), .val (.int c1), .val (.int c2), .val (.int c3), .val (.int c4), .val (.ref b6), .val (.int (Int32.ofNat f)), .val (.int (Int32.ofNat t)), .val (.ref mt), .val (.int d1), .val (.int d2), .val (.int d3), .val (.int d4), .val (.int d5), .val (.int e1_), .val (.int e2_), .val (.int e3_), .val (.int e4_), .val (.int e5_), .val (.int l1), .val (.int l2), .val (.int l3), .val (.int l4), .unset] [(.int (5 : Int32))])) ?_ (fun t_ k_ => XS.goto X47.here hx rfl (pc0 := 312) (pc' := 317) rfl (hb hby at_312) (by decide) (by decide) k_)
            exact J317 _ (by simp only [own_in, eq_false hc308, if_true, if_false, ↓reduceIte, not_true_eq_false, not_false_eq_true, true_and, and_true, false_and, and_false, or_true, true_or, or_false, false_or, and_self, or_self])
        refine Goes.ifP X47 hx rfl (pc0 := 295) (pc' := 302) rfl (hb hby at_295) rfl (by decide) (by decide) (P := e4_ = (0 : Int32)) (ifc_eq _ _) (fun hc295 => ?_) (fun hc295 => ?_)
        · show Goes p e below W T47 (mkF m 302 #[.val (.long s_), .second, .val (.int a), .val (.int b), .val (.int c0), .val (.int c1), .val (.int c2), .val (.int c3), .val (.int c4), .val (.ref b6), .val (.int (Int32.ofNat f)), .val (.int (Int32.ofNat t)), .val (.ref mt), .val (.int d1), .val (.int d2), .val (.int d3), .val (.int d4), .val (.int d5), .val (.int e1_), .val (.int e2_), .val (.int e3_), .val (.int e4_), .val (.int e5_), .val (.int l1), .val (.int l2), .val (.int l3), .unset, .unset] [])
          refine Goes.on (T' := T47) (g' := (mkF m 304 #[.val (.long s_), .second, .val (.int a), .val (.int b), .val (.int c0), .val (.int c1), .val (.int c2), .val (.int c3), .val (.int c4), .val (.ref b6), .val (.int (Int32.ofNat f)), .val (.int (Int32.ofNat t)), .val (.ref mt), .val (.int d1), .val (.int d2), .val (.int d3), .val (.int d4), .val (.int d5), .val (.int e1_), .val (.int e2_), .val (.int e3_), .val (.int e4_), .val (.int e5_), .val (.int l1), .val (.int l2), .val (.int l3), .unset, .unset] [(.int l3)])) ?_ (fun t_ k_ => XS.iload X47.here hx rfl (hb hby at_302) rfl k_)
          exact J304 _ (by simp only [own_in, eq_true hc295, if_true, if_false, ↓reduceIte, not_true_eq_false, not_false_eq_true, true_and, and_true, false_and, and_false, or_true, true_or, or_false, false_or, and_self, or_self])
        · show Goes p e below W T47 (mkF m 298 #[.val (.long s_), .second, .val (.int a), .val (.int b), .val (.int c0), .val (.int c1), .val (.int c2), .val (.int c3), .val (.int c4), .val (.ref b6), .val (.int (Int32.ofNat f)), .val (.int (Int32.ofNat t)), .val (.ref mt), .val (.int d1), .val (.int d2), .val (.int d3), .val (.int d4), .val (.int d5), .val (.int e1_), .val (.int e2_), .val (.int e3_), .val (.int e4_), .val (.int e5_), .val (.int l1), .val (.int l2), .val (.int l3), .unset, .unset] [])
          refine Goes.on (T' := T47) (g' := (mkF m 299 #[.val (.long s_), .second, .val (.int a), .val (.int b), .val (.int c0), .val (.int c1), .val (.int c2), .val (.int c3), .val (.int c4), .val (.ref b6), .val (.int (Int32.ofNat f)), .val (.int (Int32.ofNat t)), .val (.ref mt), .val (.int d1), .val (.int d2), .val (.int d3), .val (.int d4), .val (.int d5), .val (.int e1_), .val (.int e2_), .val (.int e3_), .val (.int e4_), .val (.int e5_), .val (.int l1), .val (.int l2), .val (.int l3), .unset, .unset] [(.int (4 : Int32))])) ?_ (fun t_ k_ => XS.iconst X47.here hx rfl (hb hby at_298) k_)
          refine Goes.on (T' := T47) (g' := (mkF m 304 #[.val (.long s_), .second, .val (.int a), .val (.int b), .val (.int c0), .val (.int c1), .val (.int c2), .val (.int c3), .val (.int c4), .val (.ref b6), .val (.int (Int32.ofNat f)), .val (.int (Int32.ofNat t)), .val (.ref mt), .val (.int d1), .val (.int d2), .val (.int d3), .val (.int d4), .val (.int d5), .val (.int e1_), .val (.int e2_), .val (.int e3_), .val (.int e4_), .val (.int e5_), .val (.int l1), .val (.int l2), .val (.int l3), .unset, .unset] [(.int (4 : Int32))])) ?_ (fun t_ k_ => XS.goto X47.here hx rfl (pc0 := 299) (pc' := 304) rfl (hb hby at_299) (by decide) (by decide) k_)
          exact J304 _ (by simp only [own_in, eq_false hc295, if_true, if_false, ↓reduceIte, not_true_eq_false, not_false_eq_true, true_and, and_true, false_and, and_false, or_true, true_or, or_false, false_or, and_self, or_self])
      refine Goes.ifP X47 hx rfl (pc0 := 282) (pc' := 289) rfl (hb hby at_282) rfl (by decide) (by decide) (P := e3_ = (0 : Int32)) (ifc_eq _ _) (fun hc282 => ?_) (fun hc282 => ?_)
      · show Goes p e below W T47 (mkF m 289 #[.val (.long s_), .second, .val (.int a), .val (.int b), .val (.int c0), .val (.int c1), .val (.int c2), .val (.int c3), .val (.int c4), .val (.ref b6), .val (.int (Int32.ofNat f)), .val (.int (Int32.ofNat t)), .val (.ref mt), .val (.int d1), .val (.int d2), .val (.int d3), .val (.int d4), .val (.int d5), .val (.int e1_), .val (.int e2_), .val (.int e3_), .val (.int e4_), .val (.int e5_), .val (.int l1), .val (.int l2), .unset, .unset, .unset] [])
        refine Goes.on (T' := T47) (g' := (mkF m 291 #[.val (.long s_), .second, .val (.int a), .val (.int b), .val (.int c0), .val (.int c1), .val (.int c2), .val (.int c3), .val (.int c4), .val (.ref b6), .val (.int (Int32.ofNat f)), .val (.int (Int32.ofNat t)), .val (.ref mt), .val (.int d1), .val (.int d2), .val (.int d3), .val (.int d4), .val (.int d5), .val (.int e1_), .val (.int e2_), .val (.int e3_), .val (.int e4_), .val (.int e5_), .val (.int l1), .val (.int l2), .unset, .unset, .unset] [(.int l2)])) ?_ (fun t_ k_ => XS.iload X47.here hx rfl (hb hby at_289) rfl k_)
        exact J291 _ (by simp only [own_in, eq_true hc282, if_true, if_false, ↓reduceIte, not_true_eq_false, not_false_eq_true, true_and, and_true, false_and, and_false, or_true, true_or, or_false, false_or, and_self, or_self])
      · show Goes p e below W T47 (mkF m 285 #[.val (.long s_), .second, .val (.int a), .val (.int b), .val (.int c0), .val (.int c1), .val (.int c2), .val (.int c3), .val (.int c4), .val (.ref b6), .val (.int (Int32.ofNat f)), .val (.int (Int32.ofNat t)), .val (.ref mt), .val (.int d1), .val (.int d2), .val (.int d3), .val (.int d4), .val (.int d5), .val (.int e1_), .val (.int e2_), .val (.int e3_), .val (.int e4_), .val (.int e5_), .val (.int l1), .val (.int l2), .unset, .unset, .unset] [])
        refine Goes.on (T' := T47) (g' := (mkF m 286 #[.val (.long s_), .second, .val (.int a), .val (.int b), .val (.int c0), .val (.int c1), .val (.int c2), .val (.int c3), .val (.int c4), .val (.ref b6), .val (.int (Int32.ofNat f)), .val (.int (Int32.ofNat t)), .val (.ref mt), .val (.int d1), .val (.int d2), .val (.int d3), .val (.int d4), .val (.int d5), .val (.int e1_), .val (.int e2_), .val (.int e3_), .val (.int e4_), .val (.int e5_), .val (.int l1), .val (.int l2), .unset, .unset, .unset] [(.int (3 : Int32))])) ?_ (fun t_ k_ => XS.iconst X47.here hx rfl (hb hby at_285) k_)
        refine Goes.on (T' := T47) (g' := (mkF m 291 #[.val (.long s_), .second, .val (.int a), .val (.int b), .val (.int c0), .val (.int c1), .val (.int c2), .val (.int c3), .val (.int c4), .val (.ref b6), .val (.int (Int32.ofNat f)), .val (.int (Int32.ofNat t)), .val (.ref mt), .val (.int d1), .val (.int d2), .val (.int d3), .val (.int d4), .val (.int d5), .val (.int e1_), .val (.int e2_), .val (.int e3_), .val (.int e4_), .val (.int e5_), .val (.int l1), .val (.int l2), .unset, .unset, .unset] [(.int (3 : Int32))])) ?_ (fun t_ k_ => XS.goto X47.here hx rfl (pc0 := 286) (pc' := 291) rfl (hb hby at_286) (by decide) (by decide) k_)
        exact J291 _ (by simp only [own_in, eq_false hc282, if_true, if_false, ↓reduceIte, not_true_eq_false, not_false_eq_true, true_and, and_true, false_and, and_false, or_true, true_or, or_false, false_or, and_self, or_self])
    refine Goes.ifP X47 hx rfl (pc0 := 269) (pc' := 276) rfl (hb hby at_269) rfl (by decide) (by decide) (P := e2_ = (0 : Int32)) (ifc_eq _ _) (fun hc269 => ?_) (fun hc269 => ?_)
    · show Goes p e below W T47 (mkF m 276 #[.val (.long s_), .second, .val (.int a), .val (.int b), .val (.int c0), .val (.int c1), .val (.int c2), .val (.int c3), .val (.int c4), .val (.ref b6), .val (.int (Int32.ofNat f)), .val (.int (Int32.ofNat t)), .val (.ref mt), .val (.int d1), .val (.int d2), .val (.int d3), .val (.int d4), .val (.int d5), .val (.int e1_), .val (.int e2_), .val (.int e3_), .val (.int e4_), .val (.int e5_), .val (.int l1), .unset, .unset, .unset, .unset] [])
      refine Goes.on (T' := T47) (g' := (mkF m 278 #[.val (.long s_), .second, .val (.int a), .val (.int b), .val (.int c0), .val (.int c1), .val (.int c2), .val (.int c3), .val (.int c4), .val (.ref b6), .val (.int (Int32.ofNat f)), .val (.int (Int32.ofNat t)), .val (.ref mt), .val (.int d1), .val (.int d2), .val (.int d3), .val (.int d4), .val (.int d5), .val (.int e1_), .val (.int e2_), .val (.int e3_), .val (.int e4_), .val (.int e5_), .val (.int l1), .unset, .unset, .unset, .unset] [(.int l1)])) ?_ (fun t_ k_ => XS.iload X47.here hx rfl (hb hby at_276) rfl k_)
      exact J278 _ (by simp only [own_in, eq_true hc269, if_true, if_false, ↓reduceIte, not_true_eq_false, not_false_eq_true, true_and, and_true, false_and, and_false, or_true, true_or, or_false, false_or, and_self, or_self])
    · show Goes p e below W T47 (mkF m 272 #[.val (.long s_), .second, .val (.int a), .val (.int b), .val (.int c0), .val (.int c1), .val (.int c2), .val (.int c3), .val (.int c4), .val (.ref b6), .val (.int (Int32.ofNat f)), .val (.int (Int32.ofNat t)), .val (.ref mt), .val (.int d1), .val (.int d2), .val (.int d3), .val (.int d4), .val (.int d5), .val (.int e1_), .val (.int e2_), .val (.int e3_), .val (.int e4_), .val (.int e5_), .val (.int l1), .unset, .unset, .unset, .unset] [])
      refine Goes.on (T' := T47) (g' := (mkF m 273 #[.val (.long s_), .second, .val (.int a), .val (.int b), .val (.int c0), .val (.int c1), .val (.int c2), .val (.int c3), .val (.int c4), .val (.ref b6), .val (.int (Int32.ofNat f)), .val (.int (Int32.ofNat t)), .val (.ref mt), .val (.int d1), .val (.int d2), .val (.int d3), .val (.int d4), .val (.int d5), .val (.int e1_), .val (.int e2_), .val (.int e3_), .val (.int e4_), .val (.int e5_), .val (.int l1), .unset, .unset, .unset, .unset] [(.int (2 : Int32))])) ?_ (fun t_ k_ => XS.iconst X47.here hx rfl (hb hby at_272) k_)
      refine Goes.on (T' := T47) (g' := (mkF m 278 #[.val (.long s_), .second, .val (.int a), .val (.int b), .val (.int c0), .val (.int c1), .val (.int c2), .val (.int c3), .val (.int c4), .val (.ref b6), .val (.int (Int32.ofNat f)), .val (.int (Int32.ofNat t)), .val (.ref mt), .val (.int d1), .val (.int d2), .val (.int d3), .val (.int d4), .val (.int d5), .val (.int e1_), .val (.int e2_), .val (.int e3_), .val (.int e4_), .val (.int e5_), .val (.int l1), .unset, .unset, .unset, .unset] [(.int (2 : Int32))])) ?_ (fun t_ k_ => XS.goto X47.here hx rfl (pc0 := 273) (pc' := 278) rfl (hb hby at_273) (by decide) (by decide) k_)
      exact J278 _ (by simp only [own_in, eq_false hc269, if_true, if_false, ↓reduceIte, not_true_eq_false, not_false_eq_true, true_and, and_true, false_and, and_false, or_true, true_or, or_false, false_or, and_self, or_self])
  refine Goes.ifP X47 hx rfl (pc0 := 257) (pc' := 264) rfl (hb hby at_257) rfl (by decide) (by decide) (P := e1_ = (0 : Int32)) (ifc_eq _ _) (fun hc257 => ?_) (fun hc257 => ?_)
  · show Goes p e below W T47 (mkF m 264 #[.val (.long s_), .second, .val (.int a), .val (.int b), .val (.int c0), .val (.int c1), .val (.int c2), .val (.int c3), .val (.int c4), .val (.ref b6), .val (.int (Int32.ofNat f)), .val (.int (Int32.ofNat t)), .val (.ref mt), .val (.int d1), .val (.int d2), .val (.int d3), .val (.int d4), .val (.int d5), .val (.int e1_), .val (.int e2_), .val (.int e3_), .val (.int e4_), .val (.int e5_), .unset, .unset, .unset, .unset, .unset] [])
    refine Goes.on (T' := T47) (g' := (mkF m 265 #[.val (.long s_), .second, .val (.int a), .val (.int b), .val (.int c0), .val (.int c1), .val (.int c2), .val (.int c3), .val (.int c4), .val (.ref b6), .val (.int (Int32.ofNat f)), .val (.int (Int32.ofNat t)), .val (.ref mt), .val (.int d1), .val (.int d2), .val (.int d3), .val (.int d4), .val (.int d5), .val (.int e1_), .val (.int e2_), .val (.int e3_), .val (.int e4_), .val (.int e5_), .unset, .unset, .unset, .unset, .unset] [(.int (-1 : Int32))])) ?_ (fun t_ k_ => XS.iconst X47.here hx rfl (hb hby at_264) k_)
    exact J265 _ (by simp only [own_in, eq_true hc257, if_true, if_false, ↓reduceIte, not_true_eq_false, not_false_eq_true, true_and, and_true, false_and, and_false, or_true, true_or, or_false, false_or, and_self, or_self])
  · show Goes p e below W T47 (mkF m 260 #[.val (.long s_), .second, .val (.int a), .val (.int b), .val (.int c0), .val (.int c1), .val (.int c2), .val (.int c3), .val (.int c4), .val (.ref b6), .val (.int (Int32.ofNat f)), .val (.int (Int32.ofNat t)), .val (.ref mt), .val (.int d1), .val (.int d2), .val (.int d3), .val (.int d4), .val (.int d5), .val (.int e1_), .val (.int e2_), .val (.int e3_), .val (.int e4_), .val (.int e5_), .unset, .unset, .unset, .unset, .unset] [])
    refine Goes.on (T' := T47) (g' := (mkF m 261 #[.val (.long s_), .second, .val (.int a), .val (.int b), .val (.int c0), .val (.int c1), .val (.int c2), .val (.int c3), .val (.int c4), .val (.ref b6), .val (.int (Int32.ofNat f)), .val (.int (Int32.ofNat t)), .val (.ref mt), .val (.int d1), .val (.int d2), .val (.int d3), .val (.int d4), .val (.int d5), .val (.int e1_), .val (.int e2_), .val (.int e3_), .val (.int e4_), .val (.int e5_), .unset, .unset, .unset, .unset, .unset] [(.int (1 : Int32))])) ?_ (fun t_ k_ => XS.iconst X47.here hx rfl (hb hby at_260) k_)
    refine Goes.on (T' := T47) (g' := (mkF m 265 #[.val (.long s_), .second, .val (.int a), .val (.int b), .val (.int c0), .val (.int c1), .val (.int c2), .val (.int c3), .val (.int c4), .val (.ref b6), .val (.int (Int32.ofNat f)), .val (.int (Int32.ofNat t)), .val (.ref mt), .val (.int d1), .val (.int d2), .val (.int d3), .val (.int d4), .val (.int d5), .val (.int e1_), .val (.int e2_), .val (.int e3_), .val (.int e4_), .val (.int e5_), .unset, .unset, .unset, .unset, .unset] [(.int (1 : Int32))])) ?_ (fun t_ k_ => XS.goto X47.here hx rfl (pc0 := 261) (pc' := 265) rfl (hb hby at_261) (by decide) (by decide) k_)
    exact J265 _ (by simp only [own_in, eq_false hc257, if_true, if_false, ↓reduceIte, not_true_eq_false, not_false_eq_true, true_and, and_true, false_and, and_false, or_true, true_or, or_false, false_or, and_self, or_self])
set_option maxRecDepth 65536 in
set_option maxHeartbeats 40000000 in
theorem comes_1 {Post : Tables → Env → Array Value → State → Outcome → State → Prop} (hpost : ∀ tb e args s v u, (limb_1_1.after args s (.returned v) u = true ∧ limb_1_2.after args s (.returned v) u = true ∧ True) → FrameEnd s (.returned v) u (Jvm.fieldLocs frame_1_writes args s ++ Jvm.arrayLocs frame_1_arrays args s ++ Jvm.staticLocs frame_1_statics s) 32 192 → Post tb e args s (.returned v) u) :
    ArmFor flags0 classFile x code maxLocals ret World_1 tables_1 room_1 Calls_1 rest_1 Pre_1 Post := by
  intro l hfl _ _ p e ha hc hk s m args below hf hA hF happ hP
  obtain ⟨hcalls, hrest, hpre⟩ := hP
  obtain ⟨-, -, -, hnamed, -, -, -, hat⟩ := (Spec.applies_iff hf).mp happ
  obtain ⟨hg, hn⟩ := and_e (Cond.before_iff.mp (show (Jvm.Cond.and given_1 narrow_1).before args s = true from hpre))
  obtain ⟨hcount, hq0⟩ := and_e hg
  obtain ⟨ha0, hq1⟩ := and_e hq0
  obtain ⟨ha1, hq2⟩ := and_e hq1
  have ha2 := hq2
  obtain ⟨w0, w1, w2, rfl⟩ : ∃ w0 w1 w2 : Value, args = #[w0, w1, w2] := by
    have hs : args.size = 3 := by simpa [Cond.value, given_1] using hcount
    obtain ⟨L⟩ := args
    match L, hs with
    | [w0, w1, w2], _ => exact ⟨w0, w1, w2, rfl⟩
  have hw := fun d (hd : d ∈ tables_1) => atoms_spec (ws := Jvm.Cond.code x code maxLocals ret :: tables_1) hat d (List.mem_cons_of_mem _ hd)
  obtain ⟨hsets, hown0⟩ := atoms_of _ (rest_1_c_eq ▸ (show rest_1_c.before _ s = true from hrest))
  have hfit : Fit s := fun {y c} hc i hi => by
    obtain ⟨ha, rfl⟩ := Array.getElem?_eq_some_iff.mp hc
    have q := List.all_eq_true.mp ((Array.all_eq_true_iff_forall_mem.mp hF) _ (Array.getElem_mem ha)) i (List.mem_range.mpr hi)
    simpa [Array.getElem?_eq_getElem hi] using q
  obtain ⟨i0, ea0⟩ := isL_v ha0
  obtain rfl : w0 = (.long i0) := Option.some.inj ea0
  obtain ⟨i1, ea1⟩ := is_v ha1
  obtain rfl : w1 = (.int i1) := Option.some.inj ea1
  obtain ⟨i2, ea2⟩ := is_v ha2
  obtain rfl : w2 = (.int i2) := Option.some.inj ea2
  obtain ⟨zc, ecz⟩ := is_v (Cond.before_iff.mp (hsets _ (List.mem_of_getElem? (i := 1) rfl)))
  have O2 : Sta s s.heap "java/lang/String" "COMPACT_STRINGS" "Z" (.int zc) := Sta.start ecz (Or.inl (hsets _ (List.mem_of_getElem? (i := 0) rfl)))
  have P5 : ¬ zc = (0 : Int32) := gotF (Cond.eq_ints ecz (Term.int_eval (0))) (not_v (Cond.before_iff.mp (hsets _ (List.mem_of_getElem? (i := 2) rfl))))
  obtain ⟨vf, evf, rG⟩ := isR_v (Cond.before_iff.mp (hsets _ (List.mem_of_getElem? (i := 8) rfl)))
  have O4 : Sta s s.heap "jdk/internal/util/Preconditions" "SIOOBE_FORMATTER" "Ljava/util/function/BiFunction;" vf := Sta.start evf (Or.inl (hsets _ (List.mem_of_getElem? (i := 7) rfl)))
  obtain ⟨n, o, h1, h2, h3, _, L, rfl, ⟨rfl, N⟩, hq⟩ := rm0 l s _ hw tables_1 i0 i1 i2 zc vf s.heap s.heap.size (Nat.le_refl _) (Old.start s) O2 P5 O4 rG p e ha hc hk s m _ below hf ((Spec.applies_iff_loose hf).mp happ).1 ⟨rfl, State.Warmed39.refl s, rfl⟩ trivial
  refine ⟨n, _, h1, h2, h3, hpost _ _ _ _ _ _ ⟨Cond.after_iff.mpr rfl, Cond.after_iff.mpr (eq_i res_at (Term.int_eval (1)) rfl), trivial⟩ ⟨hq.1, hq.2.1, (hq.2.2.sift fun y hy => Or.inr (N y hy)).mono (by decide) (by decide)⟩⟩
theorem main_1_1 : Claimed_1_1 := comes_1 fun _ _ _ _ _ _ h hF => ⟨h.1, hF⟩
theorem main_1_2 : Claimed_1_2 := comes_1 fun _ _ _ _ _ _ h hF => ⟨h.2.1, hF⟩
end Jvm.Pilot.@@N@@
namespace Jvm.Pilot.@@N@@
open Jvm Jvm.ClassFile Sem Op Lib Jvm.Free Jvm.Stand Jvm.Pilot.@@N@@.Jvm.D
/-! MADE BY PROGRAM (witnessworld.py) out of the Statement's table words and the real class files: 25 classes; the members and pool entries that the words name. The judged class is class 1, her method 4. -/
namespace start1
open Jvm.ClassFile
def u (s : String) : CpInfo := .utf8 (stringToUtf16 s)
/-- a pool by its gaps: so many unusable entries, then the entry; so many at the end -/
def gap : Nat → List CpInfo → List CpInfo
  | 0, r => r
  | n + 1, r => .unusable :: gap n r
def poolList (es : List (Nat × CpInfo)) (last : Nat) : List CpInfo := es.foldr (fun e r => gap e.1 (e.2 :: r)) (gap last [])
def pool (es : List (Nat × CpInfo)) (last : Nat) : Array CpInfo := ⟨poolList es last⟩
def fileOf (pool : Array CpInfo) (this : Nat) (attrs : Array Attribute := #[]) (ms : Array MethodInfo := #[]) (fl : Nat := 33) (sup : Nat := 0) (ifs : Array Nat := #[]) (fds : Array FieldInfo := #[]) : ClassFile where
  minorVersion := 0
  majorVersion := 65
  constantPool := pool
  accessFlags := fl
  thisClass := this
  superClass := sup
  interfaces := ifs
  fields := fds
  methods := ms
  attributes := attrs
def plain (name : String) (sup : Option ClassId) : Class where
  name := name
  kind := .ordinary
  loader := none
  accessFlags := 33
  super := sup
  interfaces := #[]
  cf := none
  fields := #[]
  methods := #[]
  instanceTypes := #[]
  staticTypes := #[]
  resolved := #[]
  callSites := []
  init := .initialized
  statics := none
  mirror := none

def pool0 : Array CpInfo := pool [(5, u "<init>"), (0, u "()V"), (1, .class_ 10), (1, u "java/lang/Object")] 113

def k0c0 : Code := { maxStack := 0, maxLocals := 1, code := object_method_1_code, exceptionTable := #[], attributes := #[] }
def k0m0 : Method := { name := "<init>", desc := "()V", sig := { parameters := [], returnType := none }, accessFlags := 1, code := some k0c0 }
/-- java/lang/Object -/
def k0 : Class := { plain "java/lang/Object" none with
  accessFlags := 33
  interfaces := #[]
  cf := some (fileOf pool0 8 #[] #[{ accessFlags := 1, nameIndex := 5, descriptorIndex := 6, attributes := #[] }] 33 0 #[] #[])
  fields := #[]
  methods := #[k0m0]
  instanceTypes := #[]
  staticTypes := #[]
  resolved := Array.replicate 124 none
  statics := none }

def pool1 : Array CpInfo := pool [(2, .class_ 4), (1, u "java/lang/Object"), (0, u "<init>"), (0, u "()V"), (0, .methodref 8 9), (0, .class_ 10), (0, .nameAndType 11 12), (0, u "com/example/covenantry/covenantry/read/MatchesBracketsPinLaw"), (0, u "pick"), (0, u "(JI)C"), (0, .class_ 14), (0, u "java/lang/String"), (0, .methodref 13 16), (0, .nameAndType 5 17), (0, u "([C)V"), (0, .integer 2147483647), (0, .methodref 20 21), (0, .class_ 22), (0, .nameAndType 23 24), (0, u "com/example/covenantry/covenantry/read/Text$Matches"), (0, u "brackets"), (0, u "(Ljava/lang/String;II)Lcom/example/covenantry/covenantry/read/Text$Matches;"), (0, .methodref 8 26), (0, .nameAndType 27 28), (0, u "next"), (0, u "(ICIII)I"), (0, .methodref 8 30), (0, .nameAndType 31 32), (0, u "isEnd"), (0, u "(IICIII)Z"), (0, .methodref 20 34), (0, .nameAndType 35 36), (0, u "holds"), (0, u "(I)Z"), (0, .methodref 20 38), (0, .nameAndType 39 40), (0, u "lastEnd"), (0, u "(I)I"), (3, u "law"), (0, u "(JII)Z")] 6

def k1m0 : Method := { name := "<init>", desc := "()V", sig := { parameters := [], returnType := none }, accessFlags := 2, code := none }
def k1c1 : Code := { maxStack := 4, maxLocals := 5, code := method_2_code, exceptionTable := #[], attributes := #[] }
def k1m1 : Method := { name := "pick", desc := "(JI)C", sig := { parameters := [.long, .int], returnType := some .char }, accessFlags := 10, code := some k1c1 }
def k1c2 : Code := { maxStack := 2, maxLocals := 5, code := method_3_code, exceptionTable := #[], attributes := #[] }
def k1m2 : Method := { name := "next", desc := "(ICIII)I", sig := { parameters := [.int, .char, .int, .int, .int], returnType := some .int }, accessFlags := 10, code := some k1c2 }
def k1c3 : Code := { maxStack := 2, maxLocals := 8, code := method_4_code, exceptionTable := #[], attributes := #[] }
def k1m3 : Method := { name := "isEnd", desc := "(IICIII)Z", sig := { parameters := [.int, .int, .char, .int, .int, .int], returnType := some .boolean }, accessFlags := 10, code := some k1c3 }
def k1c4 : Code := { maxStack := 6, maxLocals := 28, code := code, exceptionTable := #[], attributes := #[] }
def k1m4 : Method := { name := "law", desc := "(JII)Z", sig := { parameters := [.long, .int, .int], returnType := some .boolean }, accessFlags := 9, code := some k1c4 }
/-- com/example/covenantry/covenantry/read/MatchesBracketsPinLaw -/
def k1 : Class := { plain "com/example/covenantry/covenantry/read/MatchesBracketsPinLaw" (some 0) with
  accessFlags := 49
  interfaces := #[]
  cf := some (fileOf pool1 8 #[] #[{ accessFlags := 2, nameIndex := 5, descriptorIndex := 6, attributes := #[] }, { accessFlags := 10, nameIndex := 11, descriptorIndex := 12, attributes := #[] }, { accessFlags := 10, nameIndex := 27, descriptorIndex := 28, attributes := #[] }, { accessFlags := 10, nameIndex := 31, descriptorIndex := 32, attributes := #[] }, { accessFlags := 9, nameIndex := 44, descriptorIndex := 45, attributes := #[] }] 49 2 #[] #[])
  fields := #[]
  methods := #[k1m0, k1m1, k1m2, k1m3, k1m4]
  instanceTypes := #[]
  staticTypes := #[]
  resolved := Array.replicate 52 none
  statics := none }

def pool2 : Array CpInfo := pool [(1, .class_ 2), (0, u "java/io/Serializable"), (0, .class_ 4), (0, u "java/lang/Object")] 2

/-- java/io/Serializable -/
def k2 : Class := { plain "java/io/Serializable" (some 0) with
  accessFlags := 1537
  interfaces := #[]
  cf := some (fileOf pool2 1 #[] #[] 1537 3 #[] #[])
  fields := #[]
  methods := #[]
  instanceTypes := #[]
  staticTypes := #[]
  resolved := Array.replicate 7 none
  statics := none }

def pool3 : Array CpInfo := pool [(1, .class_ 2), (0, u "java/lang/Comparable"), (0, .class_ 4), (0, u "java/lang/Object")] 7

/-- java/lang/Comparable -/
def k3 : Class := { plain "java/lang/Comparable" (some 0) with
  accessFlags := 1537
  interfaces := #[]
  cf := some (fileOf pool3 1 #[] #[] 1537 3 #[] #[])
  fields := #[]
  methods := #[]
  instanceTypes := #[]
  staticTypes := #[]
  resolved := Array.replicate 12 none
  statics := none }

def pool4 : Array CpInfo := pool [(2, .class_ 4), (1, u "java/lang/CharSequence"), (42, .class_ 48), (0, u "java/lang/CharSequence$1CodePointIterator"), (10, .class_ 60), (0, u "java/lang/CharSequence$1CharIterator"), (5, .class_ 67), (0, u "java/lang/Object")] 63

/-- java/lang/CharSequence -/
def k4 : Class := { plain "java/lang/CharSequence" (some 0) with
  accessFlags := 1537
  interfaces := #[]
  cf := some (fileOf pool4 2 #[.nestMembers #[47, 59]] #[] 1537 66 #[] #[])
  fields := #[]
  methods := #[]
  instanceTypes := #[]
  staticTypes := #[]
  resolved := Array.replicate 131 none
  statics := none }

def pool5 : Array CpInfo := pool [(1, .class_ 2), (0, u "java/lang/constant/Constable"), (0, .class_ 4), (0, u "java/lang/Object")] 6

/-- java/lang/constant/Constable -/
def k5 : Class := { plain "java/lang/constant/Constable" (some 0) with
  accessFlags := 1537
  interfaces := #[]
  cf := some (fileOf pool5 1 #[] #[] 1537 3 #[] #[])
  fields := #[]
  methods := #[]
  instanceTypes := #[]
  staticTypes := #[]
  resolved := Array.replicate 11 none
  statics := none }

def pool6 : Array CpInfo := pool [(1, .class_ 2), (0, u "java/lang/constant/ConstantDesc"), (0, .class_ 4), (0, u "java/lang/Object")] 32

/-- java/lang/constant/ConstantDesc -/
def k6 : Class := { plain "java/lang/constant/ConstantDesc" (some 0) with
  accessFlags := 1537
  interfaces := #[]
  cf := some (fileOf pool6 1 #[] #[] 1537 3 #[] #[])
  fields := #[]
  methods := #[]
  instanceTypes := #[]
  staticTypes := #[]
  resolved := Array.replicate 37 none
  statics := none }

def pool7 : Array CpInfo := pool [(1, .methodref 2 3), (0, .class_ 4), (0, .nameAndType 5 6), (0, u "java/lang/Object"), (0, u "<init>"), (0, u "()V"), (2, .fieldref 10 11), (0, .class_ 12), (0, .nameAndType 13 14), (0, u "java/lang/String"), (0, u "value"), (0, u "[B"), (0, .fieldref 10 16), (0, .nameAndType 17 18), (0, u "coder"), (0, u "B"), (2, u "hash"), (0, u "I"), (2, u "hashIsZero"), (0, u "Z"), (0, .methodref 10 28), (0, .nameAndType 5 29), (0, u "([CIILjava/lang/Void;)V"), (8, .fieldref 10 39), (0, .nameAndType 40 26), (0, u "COMPACT_STRINGS"), (1, .class_ 44), (1, u "java/lang/StringUTF16"), (0, u "compress"), (1, .methodref 42 48), (0, .nameAndType 49 50), (0, u "coderFromArrayLen"), (0, u "([BI)B"), (56, .class_ 109), (1, u "java/lang/StringLatin1"), (32, u "()Z"), (34, .methodref 42 178), (0, .nameAndType 45 179), (0, u "([CII)[B"), (183, u "([BI)C"), (27, u "(II)V"), (35, u "(I)C"), (64, .methodref 10 493), (0, .nameAndType 494 142), (0, u "isLatin1"), (0, .methodref 107 496), (0, .nameAndType 497 363), (0, u "charAt"), (3, u "checkIndex"), (73, .class_ 576), (0, u "java/lang/CharSequence"), (22, u "CASE_INSENSITIVE_ORDER"), (0, u "Ljava/util/Comparator;"), (409, u "([C)V"), (42, .fieldref 1054 1055), (0, .class_ 1056), (0, .nameAndType 1057 1058), (0, u "jdk/internal/util/Preconditions"), (0, u "SIOOBE_FORMATTER"), (0, u "Ljava/util/function/BiFunction;"), (0, .methodref 1054 1060), (0, .nameAndType 501 1061), (0, u "(IILjava/util/function/BiFunction;)I"), (39, u "serialPersistentFields"), (0, u "[Ljava/io/ObjectStreamField;"), (0, .class_ 1104), (0, u "java/lang/String$CaseInsensitiveComparator"), (1, .class_ 1107), (0, u "java/io/Serializable"), (0, .class_ 1109), (0, u "java/lang/Comparable"), (0, .class_ 1111), (0, u "java/lang/constant/Constable"), (0, .class_ 1113), (0, u "java/lang/constant/ConstantDesc"), (2, u "serialVersionUID"), (0, u "J"), (3, u "REPL"), (0, u "C"), (2, u "LATIN1"), (1, u "UTF16")] 323

def k7m0 : Method := { name := "<init>", desc := "()V", sig := { parameters := [], returnType := none }, accessFlags := 1, code := none }
def k7c1 : Code := { maxStack := 5, maxLocals := 2, code := jdk_42_method_3_code, exceptionTable := #[], attributes := #[] }
def k7m1 : Method := { name := "<init>", desc := "([C)V", sig := { parameters := [(.array .char)], returnType := none }, accessFlags := 1, code := some k7c1 }
def k7c2 : Code := { maxStack := 2, maxLocals := 2, code := jdk_42_method_56_code, exceptionTable := #[], attributes := #[] }
def k7m2 : Method := { name := "charAt", desc := "(I)C", sig := { parameters := [.int], returnType := some .char }, accessFlags := 1, code := some k7c2 }
def k7c3 : Code := { maxStack := 4, maxLocals := 6, code := jdk_42_method_149_code, exceptionTable := #[], attributes := #[] }
def k7m3 : Method := { name := "<init>", desc := "([CIILjava/lang/Void;)V", sig := { parameters := [(.array .char), .int, .int, (.object "java/lang/Void")], returnType := none }, accessFlags := 2, code := some k7c3 }
def k7c4 : Code := { maxStack := 1, maxLocals := 1, code := jdk_42_method_154_code, exceptionTable := #[], attributes := #[] }
def k7m4 : Method := { name := "isLatin1", desc := "()Z", sig := { parameters := [], returnType := some .boolean }, accessFlags := 0, code := some k7c4 }
def k7c5 : Code := { maxStack := 3, maxLocals := 2, code := jdk_42_method_155_code, exceptionTable := #[], attributes := #[] }
def k7m5 : Method := { name := "checkIndex", desc := "(II)V", sig := { parameters := [.int, .int], returnType := none }, accessFlags := 8, code := some k7c5 }
/-- java/lang/String -/
def k7 : Class := { plain "java/lang/String" (some 0) with
  accessFlags := 49
  interfaces := #[2, 3, 4, 5, 6]
  cf := some (fileOf pool7 10 #[.nestMembers #[1103]] #[{ accessFlags := 1, nameIndex := 5, descriptorIndex := 6, attributes := #[] }, { accessFlags := 1, nameIndex := 5, descriptorIndex := 1010, attributes := #[] }, { accessFlags := 1, nameIndex := 497, descriptorIndex := 427, attributes := #[] }, { accessFlags := 2, nameIndex := 5, descriptorIndex := 29, attributes := #[] }, { accessFlags := 0, nameIndex := 494, descriptorIndex := 142, attributes := #[] }, { accessFlags := 8, nameIndex := 501, descriptorIndex := 391, attributes := #[] }] 49 2 #[1106, 1108, 575, 1110, 1112] #[{ accessFlags := 18, nameIndex := 13, descriptorIndex := 14, attributes := #[] }, { accessFlags := 18, nameIndex := 17, descriptorIndex := 18, attributes := #[] }, { accessFlags := 2, nameIndex := 21, descriptorIndex := 22, attributes := #[] }, { accessFlags := 2, nameIndex := 25, descriptorIndex := 26, attributes := #[] }, { accessFlags := 26, nameIndex := 1116, descriptorIndex := 1117, attributes := #[] }, { accessFlags := 24, nameIndex := 40, descriptorIndex := 26, attributes := #[] }, { accessFlags := 26, nameIndex := 1101, descriptorIndex := 1102, attributes := #[] }, { accessFlags := 26, nameIndex := 1121, descriptorIndex := 1122, attributes := #[] }, { accessFlags := 25, nameIndex := 599, descriptorIndex := 600, attributes := #[] }, { accessFlags := 24, nameIndex := 1125, descriptorIndex := 18, attributes := #[] }, { accessFlags := 24, nameIndex := 1127, descriptorIndex := 18, attributes := #[] }])
  fields := #[{ name := "value", type := (.array .byte), accessFlags := 18, slot := 0, constantValue := 0 }, { name := "coder", type := .byte, accessFlags := 18, slot := 1, constantValue := 0 }, { name := "hash", type := .int, accessFlags := 2, slot := 2, constantValue := 0 }, { name := "hashIsZero", type := .boolean, accessFlags := 2, slot := 3, constantValue := 0 }, { name := "serialVersionUID", type := .long, accessFlags := 26, slot := 0, constantValue := 0 }, { name := "COMPACT_STRINGS", type := .boolean, accessFlags := 24, slot := 1, constantValue := 0 }, { name := "serialPersistentFields", type := (.array (.object "java/io/ObjectStreamField")), accessFlags := 26, slot := 2, constantValue := 0 }, { name := "REPL", type := .char, accessFlags := 26, slot := 3, constantValue := 0 }, { name := "CASE_INSENSITIVE_ORDER", type := (.object "java/util/Comparator"), accessFlags := 25, slot := 4, constantValue := 0 }, { name := "LATIN1", type := .byte, accessFlags := 24, slot := 5, constantValue := 0 }, { name := "UTF16", type := .byte, accessFlags := 24, slot := 6, constantValue := 0 }]
  methods := #[k7m0, k7m1, k7m2, k7m3, k7m4, k7m5]
  instanceTypes := #[(.array .byte), .byte, .int, .boolean]
  staticTypes := #[.long, .boolean, (.array (.object "java/io/ObjectStreamField")), .char, (.object "java/util/Comparator"), .byte, .byte]
  resolved := Array.replicate 1451 none
  statics := some 0 }

def pool8 : Array CpInfo := pool [(6, .class_ 8), (1, u "java/lang/Object"), (0, u "<init>"), (0, u "()V"), (1, .class_ 14), (1, u "java/lang/StringUTF16"), (31, u "$assertionsDisabled"), (0, u "Z"), (13, u "HI_BYTE_SHIFT"), (0, u "I"), (2, u "LO_BYTE_SHIFT"), (49, .methodref 12 116), (0, .nameAndType 117 118), (0, u "compress"), (0, u "([CI[BII)I"), (3, u "([CII)[B"), (138, u "coderFromArrayLen"), (0, u "([BI)B"), (106, .class_ 371), (1, u "java/lang/StringUTF16$LinesSpliterator"), (58, u "MAX_LENGTH"), (196, .class_ 628), (0, u "java/lang/StringUTF16$CodePointsSpliterator"), (0, .class_ 630), (0, u "java/lang/StringUTF16$CharsSpliterator")] 4

def k8m0 : Method := { name := "<init>", desc := "()V", sig := { parameters := [], returnType := none }, accessFlags := 0, code := none }
def k8c1 : Code := { maxStack := 2, maxLocals := 2, code := jdk_52_method_15_code, exceptionTable := #[], attributes := #[] }
def k8m1 : Method := { name := "coderFromArrayLen", desc := "([BI)B", sig := { parameters := [(.array .byte), .int], returnType := some .byte }, accessFlags := 8, code := some k8c1 }
def k8c2 : Code := { maxStack := 5, maxLocals := 6, code := jdk_52_method_16_code, exceptionTable := #[], attributes := #[] }
def k8m2 : Method := { name := "compress", desc := "([CII)[B", sig := { parameters := [(.array .char), .int, .int], returnType := some (.array .byte) }, accessFlags := 9, code := some k8c2 }
def k8c3 : Code := { maxStack := 3, maxLocals := 7, code := jdk_52_method_21_code, exceptionTable := #[], attributes := #[] }
def k8m3 : Method := { name := "compress", desc := "([CI[BII)I", sig := { parameters := [(.array .char), .int, (.array .byte), .int, .int], returnType := some .int }, accessFlags := 9, code := some k8c3 }
/-- java/lang/StringUTF16 -/
def k8 : Class := { plain "java/lang/StringUTF16" (some 0) with
  accessFlags := 48
  interfaces := #[]
  cf := some (fileOf pool8 12 #[.nestMembers #[627, 629, 369]] #[{ accessFlags := 0, nameIndex := 9, descriptorIndex := 10, attributes := #[] }, { accessFlags := 8, nameIndex := 261, descriptorIndex := 262, attributes := #[] }, { accessFlags := 9, nameIndex := 117, descriptorIndex := 122, attributes := #[] }, { accessFlags := 9, nameIndex := 117, descriptorIndex := 118, attributes := #[] }] 48 6 #[] #[{ accessFlags := 26, nameIndex := 61, descriptorIndex := 62, attributes := #[] }, { accessFlags := 26, nameIndex := 65, descriptorIndex := 62, attributes := #[] }, { accessFlags := 24, nameIndex := 430, descriptorIndex := 62, attributes := #[] }, { accessFlags := 4120, nameIndex := 46, descriptorIndex := 47, attributes := #[] }])
  fields := #[{ name := "HI_BYTE_SHIFT", type := .int, accessFlags := 26, slot := 0, constantValue := 0 }, { name := "LO_BYTE_SHIFT", type := .int, accessFlags := 26, slot := 1, constantValue := 0 }, { name := "MAX_LENGTH", type := .int, accessFlags := 24, slot := 2, constantValue := 0 }, { name := "$assertionsDisabled", type := .boolean, accessFlags := 4120, slot := 3, constantValue := 0 }]
  methods := #[k8m0, k8m1, k8m2, k8m3]
  instanceTypes := #[]
  staticTypes := #[.int, .int, .int, .boolean]
  resolved := Array.replicate 635 none
  statics := none }

def pool9 : Array CpInfo := pool [(1, .methodref 2 3), (0, .class_ 4), (0, .nameAndType 5 6), (0, u "java/lang/Object"), (0, u "<init>"), (0, u "()V"), (0, .fieldref 8 9), (0, .class_ 10), (0, .nameAndType 11 12), (0, u "com/example/covenantry/covenantry/read/Text$Matches"), (0, u "starts"), (0, u "[I"), (0, .fieldref 8 14), (0, .nameAndType 15 12), (0, u "ends"), (14, .class_ 31), (0, u "com/example/covenantry/covenantry/read/Text$Matches$Found"), (0, .methodref 30 3), (18, .methodref 30 52), (0, .nameAndType 53 54), (0, u "add"), (0, u "(II)V"), (0, .methodref 30 56), (0, .nameAndType 57 58), (0, u "matches"), (0, u "()Lcom/example/covenantry/covenantry/read/Text$Matches;"), (0, .methodref 60 61), (0, .class_ 62), (0, .nameAndType 63 64), (0, u "java/lang/String"), (0, u "charAt"), (0, u "(I)C"), (0, .methodref 66 67), (0, .class_ 68), (0, .nameAndType 69 70), (0, u "java/util/Arrays"), (0, u "binarySearch"), (0, u "([II)I"), (0, u "([I[I)V"), (6, u "brackets"), (0, u "(Ljava/lang/String;II)Lcom/example/covenantry/covenantry/read/Text$Matches;"), (0, u "lastEnd"), (0, u "(I)I"), (2, u "holds"), (0, u "(I)Z"), (5, .class_ 92), (0, u "com/example/covenantry/covenantry/read/Text")] 21

def k9c0 : Code := { maxStack := 2, maxLocals := 3, code := prog_71_method_1_code, exceptionTable := #[], attributes := #[] }
def k9m0 : Method := { name := "<init>", desc := "([I[I)V", sig := { parameters := [(.array .int), (.array .int)], returnType := none }, accessFlags := 2, code := some k9c0 }
def k9c1 : Code := { maxStack := 4, maxLocals := 8, code := prog_71_method_4_code, exceptionTable := #[], attributes := #[] }
def k9m1 : Method := { name := "brackets", desc := "(Ljava/lang/String;II)Lcom/example/covenantry/covenantry/read/Text$Matches;", sig := { parameters := [(.object "java/lang/String"), .int, .int], returnType := some (.object "com/example/covenantry/covenantry/read/Text$Matches") }, accessFlags := 8, code := some k9c1 }
def k9c2 : Code := { maxStack := 2, maxLocals := 4, code := prog_71_method_5_code, exceptionTable := #[], attributes := #[] }
def k9m2 : Method := { name := "lastEnd", desc := "(I)I", sig := { parameters := [.int], returnType := some .int }, accessFlags := 0, code := some k9c2 }
def k9c3 : Code := { maxStack := 3, maxLocals := 4, code := prog_71_method_7_code, exceptionTable := #[], attributes := #[] }
def k9m3 : Method := { name := "holds", desc := "(I)Z", sig := { parameters := [.int], returnType := some .boolean }, accessFlags := 0, code := some k9c3 }
/-- com/example/covenantry/covenantry/read/Text$Matches -/
def k9 : Class := { plain "com/example/covenantry/covenantry/read/Text$Matches" (some 0) with
  accessFlags := 48
  interfaces := #[]
  cf := some (fileOf pool9 8 #[.nestHost 91] #[{ accessFlags := 2, nameIndex := 5, descriptorIndex := 71, attributes := #[] }, { accessFlags := 8, nameIndex := 78, descriptorIndex := 79, attributes := #[] }, { accessFlags := 0, nameIndex := 80, descriptorIndex := 81, attributes := #[] }, { accessFlags := 0, nameIndex := 84, descriptorIndex := 85, attributes := #[] }] 48 2 #[] #[{ accessFlags := 18, nameIndex := 11, descriptorIndex := 12, attributes := #[] }, { accessFlags := 18, nameIndex := 15, descriptorIndex := 12, attributes := #[] }])
  fields := #[{ name := "starts", type := (.array .int), accessFlags := 18, slot := 0, constantValue := 0 }, { name := "ends", type := (.array .int), accessFlags := 18, slot := 1, constantValue := 0 }]
  methods := #[k9m0, k9m1, k9m2, k9m3]
  instanceTypes := #[(.array .int), (.array .int)]
  staticTypes := #[]
  resolved := Array.replicate 114 none
  statics := none }

def pool10 : Array CpInfo := pool [(1, .methodref 2 3), (0, .class_ 4), (0, .nameAndType 5 6), (0, u "java/lang/Object"), (0, u "<init>"), (0, u "()V"), (0, .fieldref 8 9), (0, .class_ 10), (0, .nameAndType 11 12), (0, u "com/example/covenantry/covenantry/read/Text$Matches$Found"), (0, u "starts"), (0, u "[I"), (0, .fieldref 8 14), (0, .nameAndType 15 12), (0, u "ends"), (0, .fieldref 8 17), (0, .nameAndType 18 19), (0, u "count"), (0, u "I"), (0, .methodref 21 22), (0, .class_ 23), (0, .nameAndType 24 25), (0, u "java/util/Arrays"), (0, u "copyOf"), (0, u "([II)[I"), (0, .class_ 27), (0, u "com/example/covenantry/covenantry/read/Text$Matches"), (0, .methodref 26 29), (0, .nameAndType 5 30), (0, u "([I[I)V"), (2, u "add"), (0, u "(II)V"), (1, u "matches"), (0, u "()Lcom/example/covenantry/covenantry/read/Text$Matches;"), (3, .class_ 42), (0, u "com/example/covenantry/covenantry/read/Text")] 3

def k10c0 : Code := { maxStack := 2, maxLocals := 1, code := prog_72_method_1_code, exceptionTable := #[], attributes := #[] }
def k10m0 : Method := { name := "<init>", desc := "()V", sig := { parameters := [], returnType := none }, accessFlags := 2, code := some k10c0 }
def k10c1 : Code := { maxStack := 4, maxLocals := 3, code := prog_72_method_2_code, exceptionTable := #[], attributes := #[] }
def k10m1 : Method := { name := "add", desc := "(II)V", sig := { parameters := [.int, .int], returnType := none }, accessFlags := 0, code := some k10c1 }
def k10c2 : Code := { maxStack := 5, maxLocals := 1, code := prog_72_method_3_code, exceptionTable := #[], attributes := #[] }
def k10m2 : Method := { name := "matches", desc := "()Lcom/example/covenantry/covenantry/read/Text$Matches;", sig := { parameters := [], returnType := some (.object "com/example/covenantry/covenantry/read/Text$Matches") }, accessFlags := 0, code := some k10c2 }
/-- com/example/covenantry/covenantry/read/Text$Matches$Found -/
def k10 : Class := { plain "com/example/covenantry/covenantry/read/Text$Matches$Found" (some 0) with
  accessFlags := 48
  interfaces := #[]
  cf := some (fileOf pool10 8 #[.nestHost 41] #[{ accessFlags := 2, nameIndex := 5, descriptorIndex := 6, attributes := #[] }, { accessFlags := 0, nameIndex := 33, descriptorIndex := 34, attributes := #[] }, { accessFlags := 0, nameIndex := 36, descriptorIndex := 37, attributes := #[] }] 48 2 #[] #[{ accessFlags := 2, nameIndex := 11, descriptorIndex := 12, attributes := #[] }, { accessFlags := 2, nameIndex := 15, descriptorIndex := 12, attributes := #[] }, { accessFlags := 2, nameIndex := 18, descriptorIndex := 19, attributes := #[] }])
  fields := #[{ name := "starts", type := (.array .int), accessFlags := 2, slot := 0, constantValue := 0 }, { name := "ends", type := (.array .int), accessFlags := 2, slot := 1, constantValue := 0 }, { name := "count", type := .int, accessFlags := 2, slot := 2, constantValue := 0 }]
  methods := #[k10m0, k10m1, k10m2]
  instanceTypes := #[(.array .int), (.array .int), .int]
  staticTypes := #[]
  resolved := Array.replicate 46 none
  statics := none }

def pool11 : Array CpInfo := pool [(1, .class_ 2), (0, u "java/lang/String"), (1, .class_ 6), (1, u "java/lang/Object"), (0, u "<init>"), (0, u "()V"), (0, .methodref 1 10), (0, .nameAndType 11 12), (0, u "checkIndex"), (0, u "(II)V"), (1, .class_ 16), (1, u "java/lang/StringLatin1"), (36, u "([BI)C"), (67, u "$assertionsDisabled"), (0, u "Z"), (98, .class_ 223), (1, u "java/lang/StringLatin1$LinesSpliterator"), (28, u "charAt"), (137, .class_ 391), (0, u "java/lang/StringLatin1$CharsSpliterator")] 3

def k11m0 : Method := { name := "<init>", desc := "()V", sig := { parameters := [], returnType := none }, accessFlags := 0, code := none }
def k11c1 : Code := { maxStack := 2, maxLocals := 2, code := jdk_43_method_2_code, exceptionTable := #[], attributes := #[] }
def k11m1 : Method := { name := "charAt", desc := "([BI)C", sig := { parameters := [(.array .byte), .int], returnType := some .char }, accessFlags := 9, code := some k11c1 }
/-- java/lang/StringLatin1 -/
def k11 : Class := { plain "java/lang/StringLatin1" (some 0) with
  accessFlags := 48
  interfaces := #[]
  cf := some (fileOf pool11 14 #[.nestMembers #[390, 221]] #[{ accessFlags := 0, nameIndex := 7, descriptorIndex := 8, attributes := #[] }, { accessFlags := 9, nameIndex := 252, descriptorIndex := 53, attributes := #[] }] 48 4 #[] #[{ accessFlags := 4120, nameIndex := 121, descriptorIndex := 122, attributes := #[] }])
  fields := #[{ name := "$assertionsDisabled", type := .boolean, accessFlags := 4120, slot := 0, constantValue := 0 }]
  methods := #[k11m0, k11m1]
  instanceTypes := #[]
  staticTypes := #[.boolean]
  resolved := Array.replicate 395 none
  statics := none }

def pool12 : Array CpInfo := pool [(2, .class_ 4), (1, u "java/lang/Object"), (0, u "<init>"), (0, u "()V"), (17, .class_ 26), (1, u "jdk/internal/util/Preconditions"), (6, u "checkIndex"), (21, .class_ 56), (0, u "jdk/internal/util/Preconditions$4"), (57, .class_ 115), (0, u "jdk/internal/util/Preconditions$1"), (7, u "SIOOBE_FORMATTER"), (0, u "Ljava/util/function/BiFunction;"), (0, .class_ 126), (0, u "jdk/internal/util/Preconditions$2"), (3, u "AIOOBE_FORMATTER"), (0, .class_ 132), (0, u "jdk/internal/util/Preconditions$3"), (3, u "IOOBE_FORMATTER"), (41, u "(IILjava/util/function/BiFunction;)I")] 15

def k12m0 : Method := { name := "<init>", desc := "()V", sig := { parameters := [], returnType := none }, accessFlags := 1, code := none }
def k12c1 : Code := { maxStack := 3, maxLocals := 3, code := jdk_41_method_11_code, exceptionTable := #[], attributes := #[] }
def k12m1 : Method := { name := "checkIndex", desc := "(IILjava/util/function/BiFunction;)I", sig := { parameters := [.int, .int, (.object "java/util/function/BiFunction")], returnType := some .int }, accessFlags := 9, code := some k12c1 }
/-- jdk/internal/util/Preconditions -/
def k12 : Class := { plain "jdk/internal/util/Preconditions" (some 0) with
  accessFlags := 33
  interfaces := #[]
  cf := some (fileOf pool12 24 #[.nestMembers #[55, 131, 125, 114]] #[{ accessFlags := 1, nameIndex := 5, descriptorIndex := 6, attributes := #[] }, { accessFlags := 9, nameIndex := 33, descriptorIndex := 178, attributes := #[] }] 33 2 #[] #[{ accessFlags := 25, nameIndex := 123, descriptorIndex := 124, attributes := #[] }, { accessFlags := 25, nameIndex := 130, descriptorIndex := 124, attributes := #[] }, { accessFlags := 25, nameIndex := 136, descriptorIndex := 124, attributes := #[] }])
  fields := #[{ name := "SIOOBE_FORMATTER", type := (.object "java/util/function/BiFunction"), accessFlags := 25, slot := 0, constantValue := 0 }, { name := "AIOOBE_FORMATTER", type := (.object "java/util/function/BiFunction"), accessFlags := 25, slot := 1, constantValue := 0 }, { name := "IOOBE_FORMATTER", type := (.object "java/util/function/BiFunction"), accessFlags := 25, slot := 2, constantValue := 0 }]
  methods := #[k12m0, k12m1]
  instanceTypes := #[]
  staticTypes := #[(.object "java/util/function/BiFunction"), (.object "java/util/function/BiFunction"), (.object "java/util/function/BiFunction")]
  resolved := Array.replicate 194 none
  statics := some 1 }

def pool13 : Array CpInfo := pool [(2, .class_ 4), (1, u "java/lang/Object"), (0, u "<init>"), (0, u "()V"), (7, .class_ 16), (1, u "java/util/Arrays"), (57, .class_ 76), (1, u "java/util/Arrays$NaturalOrder"), (36, .class_ 115), (1, u "java/util/Arrays$LegacyMergeSort"), (1, u "Z"), (32, .methodref 151 152), (0, .class_ 153), (0, .nameAndType 154 155), (0, u "java/lang/System"), (0, u "arraycopy"), (0, u "(Ljava/lang/Object;ILjava/lang/Object;II)V"), (51, u "binarySearch0"), (1, .methodref 14 210), (0, .nameAndType 207 211), (0, u "([IIII)I"), (90, u "copyOf"), (1, .methodref 305 306), (0, .class_ 307), (0, .nameAndType 308 309), (0, u "java/lang/Math"), (0, u "min"), (0, u "(II)I"), (65, .class_ 376), (0, u "java/util/Arrays$ArrayList"), (68, u "$assertionsDisabled"), (269, u "MIN_ARRAY_SORT_GRAN"), (0, u "I"), (2, u "INSERTIONSORT_THRESHOLD"), (74, u "binarySearch"), (4, u "([II)I"), (71, u "([II)[I"), (103, .class_ 976), (0, u "java/util/Arrays$ArrayItr")] 52

def k13m0 : Method := { name := "<init>", desc := "()V", sig := { parameters := [], returnType := none }, accessFlags := 2, code := none }
def k13c1 : Code := { maxStack := 4, maxLocals := 2, code := jdk_65_method_57_code, exceptionTable := #[], attributes := #[] }
def k13m1 : Method := { name := "binarySearch", desc := "([II)I", sig := { parameters := [(.array .int), .int], returnType := some .int }, accessFlags := 9, code := some k13c1 }
def k13c2 : Code := { maxStack := 2, maxLocals := 8, code := jdk_65_method_59_code, exceptionTable := #[], attributes := #[] }
def k13m2 : Method := { name := "binarySearch0", desc := "([IIII)I", sig := { parameters := [(.array .int), .int, .int, .int], returnType := some .int }, accessFlags := 10, code := some k13c2 }
def k13c3 : Code := { maxStack := 6, maxLocals := 3, code := jdk_65_method_123_code, exceptionTable := #[], attributes := #[] }
def k13m3 : Method := { name := "copyOf", desc := "([II)[I", sig := { parameters := [(.array .int), .int], returnType := some (.array .int) }, accessFlags := 9, code := some k13c3 }
/-- java/util/Arrays -/
def k13 : Class := { plain "java/util/Arrays" (some 0) with
  accessFlags := 49
  interfaces := #[]
  cf := some (fileOf pool13 14 #[.nestMembers #[975, 375, 113, 74]] #[{ accessFlags := 2, nameIndex := 5, descriptorIndex := 6, attributes := #[] }, { accessFlags := 9, nameIndex := 794, descriptorIndex := 799, attributes := #[] }, { accessFlags := 10, nameIndex := 207, descriptorIndex := 211, attributes := #[] }, { accessFlags := 9, nameIndex := 302, descriptorIndex := 871, attributes := #[] }] 49 2 #[] #[{ accessFlags := 26, nameIndex := 715, descriptorIndex := 716, attributes := #[] }, { accessFlags := 26, nameIndex := 719, descriptorIndex := 716, attributes := #[] }, { accessFlags := 4120, nameIndex := 445, descriptorIndex := 117, attributes := #[] }])
  fields := #[{ name := "MIN_ARRAY_SORT_GRAN", type := .int, accessFlags := 26, slot := 0, constantValue := 0 }, { name := "INSERTIONSORT_THRESHOLD", type := .int, accessFlags := 26, slot := 1, constantValue := 0 }, { name := "$assertionsDisabled", type := .boolean, accessFlags := 4120, slot := 2, constantValue := 0 }]
  methods := #[k13m0, k13m1, k13m2, k13m3]
  instanceTypes := #[]
  staticTypes := #[.int, .int, .boolean]
  resolved := Array.replicate 1029 none
  statics := none }

def pool14 : Array CpInfo := pool [(1, .class_ 2), (0, u "java/lang/Math"), (1, .class_ 6), (1, u "java/lang/Object"), (0, u "<init>"), (0, u "()V"), (89, .class_ 100), (1, u "java/lang/Math$RandomNumberGeneratorHolder"), (71, u "negativeZeroFloatBits"), (0, u "J"), (2, u "negativeZeroDoubleBits"), (24, u "min"), (43, u "$assertionsDisabled"), (0, u "Z"), (88, u "(II)I"), (2, u "twoToTheDoubleScaleDown"), (0, u "D"), (4, u "twoToTheDoubleScaleUp"), (9, u "E"), (3, u "PI"), (2, u "TAU"), (2, u "DEGREES_TO_RADIANS"), (0, u "RADIANS_TO_DEGREES")] 94

def k14m0 : Method := { name := "<init>", desc := "()V", sig := { parameters := [], returnType := none }, accessFlags := 2, code := none }
def k14c1 : Code := { maxStack := 2, maxLocals := 2, code := jdk_29_method_69_code, exceptionTable := #[], attributes := #[] }
def k14m1 : Method := { name := "min", desc := "(II)I", sig := { parameters := [.int, .int], returnType := some .int }, accessFlags := 9, code := some k14c1 }
/-- java/lang/Math -/
def k14 : Class := { plain "java/lang/Math" (some 0) with
  accessFlags := 49
  interfaces := #[]
  cf := some (fileOf pool14 1 #[.nestMembers #[98]] #[{ accessFlags := 2, nameIndex := 7, descriptorIndex := 8, attributes := #[] }, { accessFlags := 9, nameIndex := 201, descriptorIndex := 335, attributes := #[] }] 49 4 #[] #[{ accessFlags := 25, nameIndex := 354, descriptorIndex := 339, attributes := #[] }, { accessFlags := 25, nameIndex := 358, descriptorIndex := 339, attributes := #[] }, { accessFlags := 25, nameIndex := 361, descriptorIndex := 339, attributes := #[] }, { accessFlags := 26, nameIndex := 364, descriptorIndex := 339, attributes := #[] }, { accessFlags := 26, nameIndex := 365, descriptorIndex := 339, attributes := #[] }, { accessFlags := 26, nameIndex := 172, descriptorIndex := 173, attributes := #[] }, { accessFlags := 26, nameIndex := 176, descriptorIndex := 173, attributes := #[] }, { accessFlags := 8, nameIndex := 344, descriptorIndex := 339, attributes := #[] }, { accessFlags := 8, nameIndex := 338, descriptorIndex := 339, attributes := #[] }, { accessFlags := 4120, nameIndex := 245, descriptorIndex := 246, attributes := #[] }])
  fields := #[{ name := "E", type := .double, accessFlags := 25, slot := 0, constantValue := 0 }, { name := "PI", type := .double, accessFlags := 25, slot := 1, constantValue := 0 }, { name := "TAU", type := .double, accessFlags := 25, slot := 2, constantValue := 0 }, { name := "DEGREES_TO_RADIANS", type := .double, accessFlags := 26, slot := 3, constantValue := 0 }, { name := "RADIANS_TO_DEGREES", type := .double, accessFlags := 26, slot := 4, constantValue := 0 }, { name := "negativeZeroFloatBits", type := .long, accessFlags := 26, slot := 5, constantValue := 0 }, { name := "negativeZeroDoubleBits", type := .long, accessFlags := 26, slot := 6, constantValue := 0 }, { name := "twoToTheDoubleScaleUp", type := .double, accessFlags := 8, slot := 7, constantValue := 0 }, { name := "twoToTheDoubleScaleDown", type := .double, accessFlags := 8, slot := 8, constantValue := 0 }, { name := "$assertionsDisabled", type := .boolean, accessFlags := 4120, slot := 9, constantValue := 0 }]
  methods := #[k14m0, k14m1]
  instanceTypes := #[]
  staticTypes := #[.double, .double, .double, .double, .double, .long, .long, .double, .double, .boolean]
  resolved := Array.replicate 460 none
  statics := none }

def pool15 : Array CpInfo := pool [(2, .class_ 4), (1, u "java/lang/Object"), (0, u "<init>"), (0, u "()V"), (1, .class_ 10), (1, u "java/lang/System"), (0, u "allowSecurityManager"), (0, u "I"), (16, u "cons"), (0, u "Ljava/io/Console;"), (77, .class_ 110), (1, u "java/lang/System$CallersHolder"), (43, u "initialErrStream"), (0, u "Ljava/io/PrintStream;"), (19, u "security"), (0, u "Ljava/lang/SecurityManager;"), (31, .class_ 209), (0, u "java/lang/System$1"), (7, u "props"), (0, u "Ljava/util/Properties;"), (2, u "lineSeparator"), (0, u "Ljava/lang/String;"), (96, .class_ 321), (1, u "java/lang/System$LoggerFinder"), (5, .class_ 328), (0, u "java/lang/System$Logger"), (67, u "err"), (2, u "out"), (91, u "notSupportedJnuEncoding"), (15, u "in"), (17, u "initialIn"), (0, u "Ljava/io/InputStream;"), (35, u "bootLayer"), (0, u "Ljava/lang/ModuleLayer;"), (99, .class_ 664), (0, u "java/lang/System$2"), (9, u "NEVER"), (2, u "MAYBE"), (49, u "arraycopy"), (0, u "(Ljava/lang/Object;ILjava/lang/Object;II)V"), (72, .class_ 802), (0, u "java/lang/System$Logger$Level")] 31

def k15m0 : Method := { name := "<init>", desc := "()V", sig := { parameters := [], returnType := none }, accessFlags := 2, code := none }
def k15m1 : Method := { name := "arraycopy", desc := "(Ljava/lang/Object;ILjava/lang/Object;II)V", sig := { parameters := [(.object "java/lang/Object"), .int, (.object "java/lang/Object"), .int, .int], returnType := none }, accessFlags := 265, code := none }
/-- java/lang/System -/
def k15 : Class := { plain "java/lang/System" (some 0) with
  accessFlags := 49
  interfaces := #[]
  cf := some (fileOf pool15 8 #[.nestMembers #[319, 327, 801, 108, 663, 208]] #[{ accessFlags := 2, nameIndex := 5, descriptorIndex := 6, attributes := #[] }, { accessFlags := 265, nameIndex := 727, descriptorIndex := 728, attributes := #[] }] 49 2 #[] #[{ accessFlags := 25, nameIndex := 507, descriptorIndex := 526, attributes := #[] }, { accessFlags := 25, nameIndex := 399, descriptorIndex := 155, attributes := #[] }, { accessFlags := 25, nameIndex := 396, descriptorIndex := 155, attributes := #[] }, { accessFlags := 10, nameIndex := 525, descriptorIndex := 526, attributes := #[] }, { accessFlags := 26, nameIndex := 674, descriptorIndex := 12, attributes := #[] }, { accessFlags := 26, nameIndex := 677, descriptorIndex := 12, attributes := #[] }, { accessFlags := 10, nameIndex := 11, descriptorIndex := 12, attributes := #[] }, { accessFlags := 74, nameIndex := 175, descriptorIndex := 176, attributes := #[] }, { accessFlags := 10, nameIndex := 491, descriptorIndex := 222, attributes := #[] }, { accessFlags := 74, nameIndex := 29, descriptorIndex := 30, attributes := #[] }, { accessFlags := 74, nameIndex := 154, descriptorIndex := 155, attributes := #[] }, { accessFlags := 10, nameIndex := 217, descriptorIndex := 218, attributes := #[] }, { accessFlags := 10, nameIndex := 221, descriptorIndex := 222, attributes := #[] }, { accessFlags := 8, nameIndex := 562, descriptorIndex := 563, attributes := #[] }])
  fields := #[{ name := "in", type := (.object "java/io/InputStream"), accessFlags := 25, slot := 0, constantValue := 0 }, { name := "out", type := (.object "java/io/PrintStream"), accessFlags := 25, slot := 1, constantValue := 0 }, { name := "err", type := (.object "java/io/PrintStream"), accessFlags := 25, slot := 2, constantValue := 0 }, { name := "initialIn", type := (.object "java/io/InputStream"), accessFlags := 10, slot := 3, constantValue := 0 }, { name := "NEVER", type := .int, accessFlags := 26, slot := 4, constantValue := 0 }, { name := "MAYBE", type := .int, accessFlags := 26, slot := 5, constantValue := 0 }, { name := "allowSecurityManager", type := .int, accessFlags := 10, slot := 6, constantValue := 0 }, { name := "security", type := (.object "java/lang/SecurityManager"), accessFlags := 74, slot := 7, constantValue := 0 }, { name := "notSupportedJnuEncoding", type := (.object "java/lang/String"), accessFlags := 10, slot := 8, constantValue := 0 }, { name := "cons", type := (.object "java/io/Console"), accessFlags := 74, slot := 9, constantValue := 0 }, { name := "initialErrStream", type := (.object "java/io/PrintStream"), accessFlags := 74, slot := 10, constantValue := 0 }, { name := "props", type := (.object "java/util/Properties"), accessFlags := 10, slot := 11, constantValue := 0 }, { name := "lineSeparator", type := (.object "java/lang/String"), accessFlags := 10, slot := 12, constantValue := 0 }, { name := "bootLayer", type := (.object "java/lang/ModuleLayer"), accessFlags := 8, slot := 13, constantValue := 0 }]
  methods := #[k15m0, k15m1]
  instanceTypes := #[]
  staticTypes := #[(.object "java/io/InputStream"), (.object "java/io/PrintStream"), (.object "java/io/PrintStream"), (.object "java/io/InputStream"), .int, .int, .int, (.object "java/lang/SecurityManager"), (.object "java/lang/String"), (.object "java/io/Console"), (.object "java/io/PrintStream"), (.object "java/util/Properties"), (.object "java/lang/String"), (.object "java/lang/ModuleLayer")]
  resolved := Array.replicate 834 none
  statics := none }

def pool16 : Array CpInfo := pool [(9, u "<init>"), (6, .class_ 18), (1, u "java/lang/Object"), (0, u "()V"), (1, .class_ 23), (1, u "jdk/internal/util/ArraysSupport"), (0, u "LOG2_ARRAY_LONG_INDEX_SCALE"), (0, u "I"), (2, u "U"), (0, u "Ljdk/internal/misc/Unsafe;"), (8, u "BIG_ENDIAN"), (0, u "Z"), (8, u "LOG2_BYTE_BIT_SIZE"), (4, u "LOG2_ARRAY_INT_INDEX_SCALE"), (54, u "JLA"), (0, u "Ljdk/internal/access/JavaLangAccess;"), (11, u "LOG2_ARRAY_BOOLEAN_INDEX_SCALE"), (9, u "LOG2_ARRAY_BYTE_INDEX_SCALE"), (5, u "LOG2_ARRAY_CHAR_INDEX_SCALE"), (5, u "LOG2_ARRAY_SHORT_INDEX_SCALE"), (18, u "LOG2_ARRAY_FLOAT_INDEX_SCALE"), (24, u "LOG2_ARRAY_DOUBLE_INDEX_SCALE"), (89, u "T_BOOLEAN"), (2, u "T_CHAR"), (1, u "T_FLOAT"), (1, u "T_DOUBLE"), (1, u "T_BYTE"), (1, u "T_SHORT"), (1, u "T_INT"), (1, u "T_LONG"), (1, u "SOFT_MAX_ARRAY_LENGTH")] 83

def k16m0 : Method := { name := "<init>", desc := "()V", sig := { parameters := [], returnType := none }, accessFlags := 2, code := none }
/-- jdk/internal/util/ArraysSupport -/
def k16 : Class := { plain "jdk/internal/util/ArraysSupport" (some 0) with
  accessFlags := 33
  interfaces := #[]
  cf := some (fileOf pool16 21 #[] #[{ accessFlags := 2, nameIndex := 9, descriptorIndex := 19, attributes := #[] }] 33 16 #[] #[{ accessFlags := 24, nameIndex := 28, descriptorIndex := 29, attributes := #[] }, { accessFlags := 26, nameIndex := 38, descriptorIndex := 39, attributes := #[] }, { accessFlags := 25, nameIndex := 121, descriptorIndex := 25, attributes := #[] }, { accessFlags := 25, nameIndex := 131, descriptorIndex := 25, attributes := #[] }, { accessFlags := 25, nameIndex := 137, descriptorIndex := 25, attributes := #[] }, { accessFlags := 25, nameIndex := 143, descriptorIndex := 25, attributes := #[] }, { accessFlags := 25, nameIndex := 53, descriptorIndex := 25, attributes := #[] }, { accessFlags := 25, nameIndex := 24, descriptorIndex := 25, attributes := #[] }, { accessFlags := 25, nameIndex := 162, descriptorIndex := 25, attributes := #[] }, { accessFlags := 25, nameIndex := 187, descriptorIndex := 25, attributes := #[] }, { accessFlags := 26, nameIndex := 48, descriptorIndex := 25, attributes := #[] }, { accessFlags := 25, nameIndex := 277, descriptorIndex := 25, attributes := #[] }, { accessFlags := 25, nameIndex := 280, descriptorIndex := 25, attributes := #[] }, { accessFlags := 25, nameIndex := 282, descriptorIndex := 25, attributes := #[] }, { accessFlags := 25, nameIndex := 284, descriptorIndex := 25, attributes := #[] }, { accessFlags := 25, nameIndex := 286, descriptorIndex := 25, attributes := #[] }, { accessFlags := 25, nameIndex := 288, descriptorIndex := 25, attributes := #[] }, { accessFlags := 25, nameIndex := 290, descriptorIndex := 25, attributes := #[] }, { accessFlags := 25, nameIndex := 292, descriptorIndex := 25, attributes := #[] }, { accessFlags := 26, nameIndex := 108, descriptorIndex := 109, attributes := #[] }, { accessFlags := 25, nameIndex := 294, descriptorIndex := 25, attributes := #[] }])
  fields := #[{ name := "U", type := (.object "jdk/internal/misc/Unsafe"), accessFlags := 24, slot := 0, constantValue := 0 }, { name := "BIG_ENDIAN", type := .boolean, accessFlags := 26, slot := 1, constantValue := 0 }, { name := "LOG2_ARRAY_BOOLEAN_INDEX_SCALE", type := .int, accessFlags := 25, slot := 2, constantValue := 0 }, { name := "LOG2_ARRAY_BYTE_INDEX_SCALE", type := .int, accessFlags := 25, slot := 3, constantValue := 0 }, { name := "LOG2_ARRAY_CHAR_INDEX_SCALE", type := .int, accessFlags := 25, slot := 4, constantValue := 0 }, { name := "LOG2_ARRAY_SHORT_INDEX_SCALE", type := .int, accessFlags := 25, slot := 5, constantValue := 0 }, { name := "LOG2_ARRAY_INT_INDEX_SCALE", type := .int, accessFlags := 25, slot := 6, constantValue := 0 }, { name := "LOG2_ARRAY_LONG_INDEX_SCALE", type := .int, accessFlags := 25, slot := 7, constantValue := 0 }, { name := "LOG2_ARRAY_FLOAT_INDEX_SCALE", type := .int, accessFlags := 25, slot := 8, constantValue := 0 }, { name := "LOG2_ARRAY_DOUBLE_INDEX_SCALE", type := .int, accessFlags := 25, slot := 9, constantValue := 0 }, { name := "LOG2_BYTE_BIT_SIZE", type := .int, accessFlags := 26, slot := 10, constantValue := 0 }, { name := "T_BOOLEAN", type := .int, accessFlags := 25, slot := 11, constantValue := 0 }, { name := "T_CHAR", type := .int, accessFlags := 25, slot := 12, constantValue := 0 }, { name := "T_FLOAT", type := .int, accessFlags := 25, slot := 13, constantValue := 0 }, { name := "T_DOUBLE", type := .int, accessFlags := 25, slot := 14, constantValue := 0 }, { name := "T_BYTE", type := .int, accessFlags := 25, slot := 15, constantValue := 0 }, { name := "T_SHORT", type := .int, accessFlags := 25, slot := 16, constantValue := 0 }, { name := "T_INT", type := .int, accessFlags := 25, slot := 17, constantValue := 0 }, { name := "T_LONG", type := .int, accessFlags := 25, slot := 18, constantValue := 0 }, { name := "JLA", type := (.object "jdk/internal/access/JavaLangAccess"), accessFlags := 26, slot := 19, constantValue := 0 }, { name := "SOFT_MAX_ARRAY_LENGTH", type := .int, accessFlags := 25, slot := 20, constantValue := 0 }]
  methods := #[k16m0]
  instanceTypes := #[]
  staticTypes := #[(.object "jdk/internal/misc/Unsafe"), .boolean, .int, .int, .int, .int, .int, .int, .int, .int, .int, .int, .int, .int, .int, .int, .int, .int, .int, (.object "jdk/internal/access/JavaLangAccess"), .int]
  resolved := Array.replicate 378 none
  statics := none }

def pool17 : Array CpInfo := pool [(2, .class_ 4), (1, u "java/lang/Object"), (0, u "<init>"), (0, u "()V"), (1, .class_ 10), (1, u "com/example/covenantry/covenantry/read/Text"), (0, u "WHITESPACE"), (0, u "Ljava/util/regex/Pattern;"), (25, .class_ 40), (1, u "com/example/covenantry/covenantry/read/Text$Passage"), (48, u "SENTENCE_END"), (10, u "CLAUSE_END"), (8, .class_ 111), (1, u "com/example/covenantry/covenantry/read/Text$Matches"), (33, .class_ 146), (0, u "com/example/covenantry/covenantry/read/Text$Sentences"), (9, u "ENDS_MID_SENTENCE"), (5, u "PAGE_NUMBER"), (5, u "RULE"), (74, u "ABBREVIATED"), (0, u "Ljava/util/List;"), (11, u "NO_ABBREVIATION"), (0, u "Ljava/lang/String;"), (32, .class_ 291), (0, u "com/example/covenantry/covenantry/read/Text$Matches$Found")] 23

def k17m0 : Method := { name := "<init>", desc := "()V", sig := { parameters := [], returnType := none }, accessFlags := 2, code := none }
/-- com/example/covenantry/covenantry/read/Text -/
def k17 : Class := { plain "com/example/covenantry/covenantry/read/Text" (some 0) with
  accessFlags := 48
  interfaces := #[]
  cf := some (fileOf pool17 8 #[.nestMembers #[109, 290, 145, 38]] #[{ accessFlags := 2, nameIndex := 5, descriptorIndex := 6, attributes := #[] }] 48 2 #[] #[{ accessFlags := 26, nameIndex := 11, descriptorIndex := 12, attributes := #[] }, { accessFlags := 26, nameIndex := 162, descriptorIndex := 12, attributes := #[] }, { accessFlags := 26, nameIndex := 168, descriptorIndex := 12, attributes := #[] }, { accessFlags := 26, nameIndex := 156, descriptorIndex := 12, attributes := #[] }, { accessFlags := 26, nameIndex := 243, descriptorIndex := 244, attributes := #[] }, { accessFlags := 24, nameIndex := 256, descriptorIndex := 257, attributes := #[] }, { accessFlags := 26, nameIndex := 89, descriptorIndex := 12, attributes := #[] }, { accessFlags := 26, nameIndex := 100, descriptorIndex := 12, attributes := #[] }])
  fields := #[{ name := "WHITESPACE", type := (.object "java/util/regex/Pattern"), accessFlags := 26, slot := 0, constantValue := 0 }, { name := "PAGE_NUMBER", type := (.object "java/util/regex/Pattern"), accessFlags := 26, slot := 1, constantValue := 0 }, { name := "RULE", type := (.object "java/util/regex/Pattern"), accessFlags := 26, slot := 2, constantValue := 0 }, { name := "ENDS_MID_SENTENCE", type := (.object "java/util/regex/Pattern"), accessFlags := 26, slot := 3, constantValue := 0 }, { name := "ABBREVIATED", type := (.object "java/util/List"), accessFlags := 26, slot := 4, constantValue := 0 }, { name := "NO_ABBREVIATION", type := (.object "java/lang/String"), accessFlags := 24, slot := 5, constantValue := 0 }, { name := "SENTENCE_END", type := (.object "java/util/regex/Pattern"), accessFlags := 26, slot := 6, constantValue := 0 }, { name := "CLAUSE_END", type := (.object "java/util/regex/Pattern"), accessFlags := 26, slot := 7, constantValue := 0 }]
  methods := #[k17m0]
  instanceTypes := #[]
  staticTypes := #[(.object "java/util/regex/Pattern"), (.object "java/util/regex/Pattern"), (.object "java/util/regex/Pattern"), (.object "java/util/regex/Pattern"), (.object "java/util/List"), (.object "java/lang/String"), (.object "java/util/regex/Pattern"), (.object "java/util/regex/Pattern")]
  resolved := Array.replicate 315 none
  statics := some 2 }

def pool18 : Array CpInfo := pool [(1, u "java/lang/Cloneable"), (0, .class_ 1), (0, u "java/lang/Object"), (0, .class_ 3)] 3

/-- java/lang/Cloneable -/
def k18 : Class := { plain "java/lang/Cloneable" (some 0) with
  accessFlags := 1537
  interfaces := #[]
  cf := some (fileOf pool18 2 #[] #[] 1537 4 #[] #[])
  fields := #[]
  methods := #[]
  instanceTypes := #[]
  staticTypes := #[]
  resolved := Array.replicate 8 none
  statics := none }

/-- the primitive byte -/
def k19 : Class := { plain "byte" none with kind := .primitive 'B', accessFlags := 0x411 }
/-- [B -/
def k20 : Class := { plain "[B" (some 0) with kind := .array 19 .byte, interfaces := #[18, 2], accessFlags := 1041 }

/-- the primitive char -/
def k21 : Class := { plain "char" none with kind := .primitive 'C', accessFlags := 0x411 }
/-- [C -/
def k22 : Class := { plain "[C" (some 0) with kind := .array 21 .char, interfaces := #[18, 2], accessFlags := 1041 }

/-- the primitive int -/
def k23 : Class := { plain "int" none with kind := .primitive 'I', accessFlags := 0x411 }
/-- [I -/
def k24 : Class := { plain "[I" (some 0) with kind := .array 23 .int, interfaces := #[18, 2], accessFlags := 1041 }

def heap : Heap := #[{ cls := 7, slots := #[.long 0, .int 1, .null, .int 0, .null, .int 0, .int 0], vm := .statics 7 },
  { cls := 12, slots := #[.null, .null, .null], vm := .statics 12 },
  { cls := 17, slots := #[.null, .null, .null, .null, .null, .null, .null, .null], vm := .statics 17 }]
def classes : Array Class := #[k0, k1, k2, k3, k4, k5, k6, k7, k8, k9, k10, k11, k12, k13, k14, k15, k16, k17, k18, k19, k20, k21, k22, k23, k24]
def interned : List (Array UInt16 × Addr) := []
def slotsUsed : Nat := 18
def theMethod : MethodId := ⟨1, 4⟩
def args0 : Array Value := #[.long 5, .int 1, .int 2]
def aboutOver (below : List Frame) : State where
  vm := { classes := classes, interned := interned.toArray }
  heap := heap
  slotsUsed := slotsUsed
  threads := #[{ frames := .invoking theMethod args0 :: below }]
def below0 : List Frame := [.native { method := ⟨0, 0⟩, args := #[] }]
def about1 : State := aboutOver below0
def p0 : Program := .bare "" "" ""
def e0 : Env := launch0.env 0 0 0
theorem w_frames : about1.frames = Frame.invoking theMethod args0 :: below0 := rfl
set_option maxRecDepth 65536 in
theorem w_args : argsFit about1.vm theMethod args0 = true := by decide +kernel
set_option maxRecDepth 65536 in
theorem w_heap : heapFits about1 = true := by decide +kernel
set_option maxRecDepth 65536 in
theorem w_runnable : about1.curStatus? = some .runnable := by decide +kernel
set_option maxRecDepth 65536 in
theorem w_alone : about1.alone = true := by decide +kernel
set_option maxRecDepth 65536 in
theorem w_named : about1.methodNamed? x = some theMethod := by decide +kernel
set_option maxRecDepth 65536 in
theorem w_hears : about1.hears theMethod below0 = true := by decide +kernel
set_option maxRecDepth 65536 in
theorem w_ripe : about1.ripe theMethod args0 below0 = true := by decide +kernel
theorem w_running : about1.status = .running := rfl
set_option maxRecDepth 65536 in
theorem w_room : about1.hasRoom e0.platform room_1 = true :=
  launch0.hasRoom_least _ room_1 (by decide +kernel) (by decide +kernel) (by decide +kernel) (by decide +kernel) (by decide +kernel) (by decide +kernel)
theorem allAtoms_all (ts : List Jvm.Cond) (a : Array Jvm.Value) (st : Jvm.State) : (allAtoms ts).before a st = ts.all (fun c => c.before a st) := by
  induction ts with
  | nil => rfl
  | cons c t ih =>
    show (Jvm.Cond.and c (allAtoms t)).before a st = _
    rw [Jvm.Cond.before_and, ih, List.all_cons]
def words1 : List Jvm.Cond := Jvm.Cond.code x code maxLocals ret :: tables_1
/-- a 'code' word, met by the world's own term for the bytes: nothing is compared byte by byte -/
theorem code_word {y : MethodName} {bytes : ByteArray} {mx : Nat} {rt : Option FieldType} {a : Array Value} {s : State} {m : MethodId} {meth : Method} {c : Code} (h1 : s.methodNamed? y = some m) (h2 : s.vm.method? m = some meth) (h3 : meth.code = some c) (h4 : c.code = bytes)
    (h5 : (c.maxLocals == mx && c.exceptionTable.isEmpty && decide (c.maxStack ≤ mostOperands) && decide (meth.sig.returnType = rt) && !meth.locks && decide (parseMethodDescriptor y.desc = some meth.sig)) = true) : (Jvm.Cond.code y bytes mx rt).before a s = true := by
  simp only [Bool.and_eq_true, beq_iff_eq, Bool.not_eq_true', decide_eq_true_eq] at h5
  obtain ⟨⟨⟨⟨⟨g1, g2⟩, g3⟩, g4⟩, g5⟩, g6⟩ := h5
  simp [Cond.before, Cond.holds, Cond.value, h1, h2, h3, h4, g1, g2, g3, g4, g5, g6]
def isCode : Jvm.Cond → Bool
  | .code _ _ _ _ => true
  | _ => false
theorem all_split {L : List Jvm.Cond} {P : Jvm.Cond → Bool} (h1 : L.all (fun c => isCode c || P c) = true) (h2 : ∀ c ∈ L.filter isCode, P c = true) : L.all P = true := by
  refine List.all_eq_true.mpr fun c hc => ?_
  have h := List.all_eq_true.mp h1 c hc
  rcases Bool.eq_false_or_eq_true (isCode c) with hi | hi
  · exact h2 c (List.mem_filter.mpr ⟨hc, hi⟩)
  · simpa [hi] using h
set_option maxRecDepth 65536 in
theorem w_c0 : (Jvm.Cond.code x code maxLocals ret).before args0 about1 = true := code_word (m := ⟨1, 4⟩) (meth := k1m4) (c := k1c4) (by decide +kernel) rfl rfl rfl (by decide +kernel)
set_option maxRecDepth 65536 in
theorem w_c1 : (Jvm.Cond.code ({ cls := "com/example/covenantry/covenantry/read/MatchesBracketsPinLaw", name := "pick", desc := "(JI)C" } : Jvm.MethodName) method_2_code (5 : Nat) (Option.some Jvm.ClassFile.FieldType.char)).before args0 about1 = true := code_word (m := ⟨1, 1⟩) (meth := k1m1) (c := k1c1) (by decide +kernel) rfl rfl rfl (by decide +kernel)
set_option maxRecDepth 65536 in
theorem w_c2 : (Jvm.Cond.code ({ cls := "java/lang/String", name := "<init>", desc := "([C)V" } : Jvm.MethodName) jdk_42_method_3_code (2 : Nat) (Option.none : Option Jvm.ClassFile.FieldType)).before args0 about1 = true := code_word (m := ⟨7, 1⟩) (meth := k7m1) (c := k7c1) (by decide +kernel) rfl rfl rfl (by decide +kernel)
set_option maxRecDepth 65536 in
theorem w_c3 : (Jvm.Cond.code ({ cls := "java/lang/String", name := "<init>", desc := "([CIILjava/lang/Void;)V" } : Jvm.MethodName) jdk_42_method_149_code (6 : Nat) (Option.none : Option Jvm.ClassFile.FieldType)).before args0 about1 = true := code_word (m := ⟨7, 3⟩) (meth := k7m3) (c := k7c3) (by decide +kernel) rfl rfl rfl (by decide +kernel)
set_option maxRecDepth 65536 in
theorem w_c4 : (Jvm.Cond.code ({ cls := "java/lang/Object", name := "<init>", desc := "()V" } : Jvm.MethodName) object_method_1_code (1 : Nat) (Option.none : Option Jvm.ClassFile.FieldType)).before args0 about1 = true := code_word (m := ⟨0, 0⟩) (meth := k0m0) (c := k0c0) (by decide +kernel) rfl rfl rfl (by decide +kernel)
set_option maxRecDepth 65536 in
theorem w_c5 : (Jvm.Cond.code ({ cls := "java/lang/StringUTF16", name := "compress", desc := "([CII)[B" } : Jvm.MethodName) jdk_52_method_16_code (6 : Nat) (Option.some (Jvm.ClassFile.FieldType.array Jvm.ClassFile.FieldType.byte))).before args0 about1 = true := code_word (m := ⟨8, 2⟩) (meth := k8m2) (c := k8c2) (by decide +kernel) rfl rfl rfl (by decide +kernel)
set_option maxRecDepth 65536 in
theorem w_c6 : (Jvm.Cond.code ({ cls := "java/lang/StringUTF16", name := "compress", desc := "([CI[BII)I" } : Jvm.MethodName) jdk_52_method_21_code (7 : Nat) (Option.some Jvm.ClassFile.FieldType.int)).before args0 about1 = true := code_word (m := ⟨8, 3⟩) (meth := k8m3) (c := k8c3) (by decide +kernel) rfl rfl rfl (by decide +kernel)
set_option maxRecDepth 65536 in
theorem w_c7 : (Jvm.Cond.code ({ cls := "java/lang/StringUTF16", name := "coderFromArrayLen", desc := "([BI)B" } : Jvm.MethodName) jdk_52_method_15_code (2 : Nat) (Option.some Jvm.ClassFile.FieldType.byte)).before args0 about1 = true := code_word (m := ⟨8, 1⟩) (meth := k8m1) (c := k8c1) (by decide +kernel) rfl rfl rfl (by decide +kernel)
set_option maxRecDepth 65536 in
theorem w_c8 : (Jvm.Cond.code ({ cls := "com/example/covenantry/covenantry/read/Text$Matches", name := "brackets", desc := "(Ljava/lang/String;II)Lcom/example/covenantry/covenantry/read/Text$Matches;" } : Jvm.MethodName) prog_71_method_4_code (8 : Nat) (Option.some (Jvm.ClassFile.FieldType.object "com/example/covenantry/covenantry/read/Text$Matches"))).before args0 about1 = true := code_word (m := ⟨9, 1⟩) (meth := k9m1) (c := k9c1) (by decide +kernel) rfl rfl rfl (by decide +kernel)
set_option maxRecDepth 65536 in
theorem w_c9 : (Jvm.Cond.code ({ cls := "com/example/covenantry/covenantry/read/Text$Matches$Found", name := "<init>", desc := "()V" } : Jvm.MethodName) prog_72_method_1_code (1 : Nat) (Option.none : Option Jvm.ClassFile.FieldType)).before args0 about1 = true := code_word (m := ⟨10, 0⟩) (meth := k10m0) (c := k10c0) (by decide +kernel) rfl rfl rfl (by decide +kernel)
set_option maxRecDepth 65536 in
theorem w_c10 : (Jvm.Cond.code ({ cls := "java/lang/String", name := "charAt", desc := "(I)C" } : Jvm.MethodName) jdk_42_method_56_code (2 : Nat) (Option.some Jvm.ClassFile.FieldType.char)).before args0 about1 = true := code_word (m := ⟨7, 2⟩) (meth := k7m2) (c := k7c2) (by decide +kernel) rfl rfl rfl (by decide +kernel)
set_option maxRecDepth 65536 in
theorem w_c11 : (Jvm.Cond.code ({ cls := "java/lang/String", name := "isLatin1", desc := "()Z" } : Jvm.MethodName) jdk_42_method_154_code (1 : Nat) (Option.some Jvm.ClassFile.FieldType.boolean)).before args0 about1 = true := code_word (m := ⟨7, 4⟩) (meth := k7m4) (c := k7c4) (by decide +kernel) rfl rfl rfl (by decide +kernel)
set_option maxRecDepth 65536 in
theorem w_c12 : (Jvm.Cond.code ({ cls := "java/lang/StringLatin1", name := "charAt", desc := "([BI)C" } : Jvm.MethodName) jdk_43_method_2_code (2 : Nat) (Option.some Jvm.ClassFile.FieldType.char)).before args0 about1 = true := code_word (m := ⟨11, 1⟩) (meth := k11m1) (c := k11c1) (by decide +kernel) rfl rfl rfl (by decide +kernel)
set_option maxRecDepth 65536 in
theorem w_c13 : (Jvm.Cond.code ({ cls := "java/lang/String", name := "checkIndex", desc := "(II)V" } : Jvm.MethodName) jdk_42_method_155_code (2 : Nat) (Option.none : Option Jvm.ClassFile.FieldType)).before args0 about1 = true := code_word (m := ⟨7, 5⟩) (meth := k7m5) (c := k7c5) (by decide +kernel) rfl rfl rfl (by decide +kernel)
set_option maxRecDepth 65536 in
theorem w_c14 : (Jvm.Cond.code ({ cls := "jdk/internal/util/Preconditions", name := "checkIndex", desc := "(IILjava/util/function/BiFunction;)I" } : Jvm.MethodName) jdk_41_method_11_code (3 : Nat) (Option.some Jvm.ClassFile.FieldType.int)).before args0 about1 = true := code_word (m := ⟨12, 1⟩) (meth := k12m1) (c := k12c1) (by decide +kernel) rfl rfl rfl (by decide +kernel)
set_option maxRecDepth 65536 in
theorem w_c15 : (Jvm.Cond.code ({ cls := "com/example/covenantry/covenantry/read/Text$Matches$Found", name := "add", desc := "(II)V" } : Jvm.MethodName) prog_72_method_2_code (3 : Nat) (Option.none : Option Jvm.ClassFile.FieldType)).before args0 about1 = true := code_word (m := ⟨10, 1⟩) (meth := k10m1) (c := k10c1) (by decide +kernel) rfl rfl rfl (by decide +kernel)
set_option maxRecDepth 65536 in
theorem w_c16 : (Jvm.Cond.code ({ cls := "com/example/covenantry/covenantry/read/Text$Matches$Found", name := "matches", desc := "()Lcom/example/covenantry/covenantry/read/Text$Matches;" } : Jvm.MethodName) prog_72_method_3_code (1 : Nat) (Option.some (Jvm.ClassFile.FieldType.object "com/example/covenantry/covenantry/read/Text$Matches"))).before args0 about1 = true := code_word (m := ⟨10, 2⟩) (meth := k10m2) (c := k10c2) (by decide +kernel) rfl rfl rfl (by decide +kernel)
set_option maxRecDepth 65536 in
theorem w_c17 : (Jvm.Cond.code ({ cls := "java/util/Arrays", name := "copyOf", desc := "([II)[I" } : Jvm.MethodName) jdk_65_method_123_code (3 : Nat) (Option.some (Jvm.ClassFile.FieldType.array Jvm.ClassFile.FieldType.int))).before args0 about1 = true := code_word (m := ⟨13, 3⟩) (meth := k13m3) (c := k13c3) (by decide +kernel) rfl rfl rfl (by decide +kernel)
set_option maxRecDepth 65536 in
theorem w_c18 : (Jvm.Cond.code ({ cls := "java/lang/Math", name := "min", desc := "(II)I" } : Jvm.MethodName) jdk_29_method_69_code (2 : Nat) (Option.some Jvm.ClassFile.FieldType.int)).before args0 about1 = true := code_word (m := ⟨14, 1⟩) (meth := k14m1) (c := k14c1) (by decide +kernel) rfl rfl rfl (by decide +kernel)
set_option maxRecDepth 65536 in
theorem w_c19 : (Jvm.Cond.code ({ cls := "com/example/covenantry/covenantry/read/Text$Matches", name := "<init>", desc := "([I[I)V" } : Jvm.MethodName) prog_71_method_1_code (3 : Nat) (Option.none : Option Jvm.ClassFile.FieldType)).before args0 about1 = true := code_word (m := ⟨9, 0⟩) (meth := k9m0) (c := k9c0) (by decide +kernel) rfl rfl rfl (by decide +kernel)
set_option maxRecDepth 65536 in
theorem w_c20 : (Jvm.Cond.code ({ cls := "com/example/covenantry/covenantry/read/MatchesBracketsPinLaw", name := "next", desc := "(ICIII)I" } : Jvm.MethodName) method_3_code (5 : Nat) (Option.some Jvm.ClassFile.FieldType.int)).before args0 about1 = true := code_word (m := ⟨1, 2⟩) (meth := k1m2) (c := k1c2) (by decide +kernel) rfl rfl rfl (by decide +kernel)
set_option maxRecDepth 65536 in
theorem w_c21 : (Jvm.Cond.code ({ cls := "com/example/covenantry/covenantry/read/MatchesBracketsPinLaw", name := "isEnd", desc := "(IICIII)Z" } : Jvm.MethodName) method_4_code (8 : Nat) (Option.some Jvm.ClassFile.FieldType.boolean)).before args0 about1 = true := code_word (m := ⟨1, 3⟩) (meth := k1m3) (c := k1c3) (by decide +kernel) rfl rfl rfl (by decide +kernel)
set_option maxRecDepth 65536 in
theorem w_c22 : (Jvm.Cond.code ({ cls := "com/example/covenantry/covenantry/read/Text$Matches", name := "holds", desc := "(I)Z" } : Jvm.MethodName) prog_71_method_7_code (4 : Nat) (Option.some Jvm.ClassFile.FieldType.boolean)).before args0 about1 = true := code_word (m := ⟨9, 3⟩) (meth := k9m3) (c := k9c3) (by decide +kernel) rfl rfl rfl (by decide +kernel)
set_option maxRecDepth 65536 in
theorem w_c23 : (Jvm.Cond.code ({ cls := "java/util/Arrays", name := "binarySearch", desc := "([II)I" } : Jvm.MethodName) jdk_65_method_57_code (2 : Nat) (Option.some Jvm.ClassFile.FieldType.int)).before args0 about1 = true := code_word (m := ⟨13, 1⟩) (meth := k13m1) (c := k13c1) (by decide +kernel) rfl rfl rfl (by decide +kernel)
set_option maxRecDepth 65536 in
theorem w_c24 : (Jvm.Cond.code ({ cls := "java/util/Arrays", name := "binarySearch0", desc := "([IIII)I" } : Jvm.MethodName) jdk_65_method_59_code (8 : Nat) (Option.some Jvm.ClassFile.FieldType.int)).before args0 about1 = true := code_word (m := ⟨13, 2⟩) (meth := k13m2) (c := k13c2) (by decide +kernel) rfl rfl rfl (by decide +kernel)
set_option maxRecDepth 65536 in
theorem w_c25 : (Jvm.Cond.code ({ cls := "com/example/covenantry/covenantry/read/Text$Matches", name := "lastEnd", desc := "(I)I" } : Jvm.MethodName) prog_71_method_5_code (4 : Nat) (Option.some Jvm.ClassFile.FieldType.int)).before args0 about1 = true := code_word (m := ⟨9, 2⟩) (meth := k9m2) (c := k9c2) (by decide +kernel) rfl rfl rfl (by decide +kernel)
def codes1 : List Jvm.Cond := [Jvm.Cond.code x code maxLocals ret, Jvm.Cond.code ({ cls := "com/example/covenantry/covenantry/read/MatchesBracketsPinLaw", name := "pick", desc := "(JI)C" } : Jvm.MethodName) method_2_code (5 : Nat) (Option.some Jvm.ClassFile.FieldType.char), Jvm.Cond.code ({ cls := "java/lang/String", name := "<init>", desc := "([C)V" } : Jvm.MethodName) jdk_42_method_3_code (2 : Nat) (Option.none : Option Jvm.ClassFile.FieldType), Jvm.Cond.code ({ cls := "java/lang/String", name := "<init>", desc := "([CIILjava/lang/Void;)V" } : Jvm.MethodName) jdk_42_method_149_code (6 : Nat) (Option.none : Option Jvm.ClassFile.FieldType), Jvm.Cond.code ({ cls := "java/lang/Object", name := "<init>", desc := "()V" } : Jvm.MethodName) object_method_1_code (1 : Nat) (Option.none : Option Jvm.ClassFile.FieldType), Jvm.Cond.code ({ cls := "java/lang/StringUTF16", name := "compress", desc := "([CII)[B" } : Jvm.MethodName) jdk_52_method_16_code (6 : Nat) (Option.some (Jvm.ClassFile.FieldType.array Jvm.ClassFile.FieldType.byte)), Jvm.Cond.code ({ cls := "java/lang/StringUTF16", name := "compress", desc := "([CI[BII)I" } : Jvm.MethodName) jdk_52_method_21_code (7 : Nat) (Option.some Jvm.ClassFile.FieldType.int), Jvm.Cond.code ({ cls := "java/lang/StringUTF16", name := "coderFromArrayLen", desc := "([BI)B" } : Jvm.MethodName) jdk_52_method_15_code (2 : Nat) (Option.some Jvm.ClassFile.FieldType.byte), Jvm.Cond.code ({ cls := "com/example/covenantry/covenantry/read/Text$Matches", name := "brackets", desc := "(Ljava/lang/String;II)Lcom/example/covenantry/covenantry/read/Text$Matches;" } : Jvm.MethodName) prog_71_method_4_code (8 : Nat) (Option.some (Jvm.ClassFile.FieldType.object "com/example/covenantry/covenantry/read/Text$Matches")), Jvm.Cond.code ({ cls := "com/example/covenantry/covenantry/read/Text$Matches$Found", name := "<init>", desc := "()V" } : Jvm.MethodName) prog_72_method_1_code (1 : Nat) (Option.none : Option Jvm.ClassFile.FieldType), Jvm.Cond.code ({ cls := "java/lang/String", name := "charAt", desc := "(I)C" } : Jvm.MethodName) jdk_42_method_56_code (2 : Nat) (Option.some Jvm.ClassFile.FieldType.char), Jvm.Cond.code ({ cls := "java/lang/String", name := "isLatin1", desc := "()Z" } : Jvm.MethodName) jdk_42_method_154_code (1 : Nat) (Option.some Jvm.ClassFile.FieldType.boolean), Jvm.Cond.code ({ cls := "java/lang/StringLatin1", name := "charAt", desc := "([BI)C" } : Jvm.MethodName) jdk_43_method_2_code (2 : Nat) (Option.some Jvm.ClassFile.FieldType.char), Jvm.Cond.code ({ cls := "java/lang/String", name := "checkIndex", desc := "(II)V" } : Jvm.MethodName) jdk_42_method_155_code (2 : Nat) (Option.none : Option Jvm.ClassFile.FieldType), Jvm.Cond.code ({ cls := "jdk/internal/util/Preconditions", name := "checkIndex", desc := "(IILjava/util/function/BiFunction;)I" } : Jvm.MethodName) jdk_41_method_11_code (3 : Nat) (Option.some Jvm.ClassFile.FieldType.int), Jvm.Cond.code ({ cls := "com/example/covenantry/covenantry/read/Text$Matches$Found", name := "add", desc := "(II)V" } : Jvm.MethodName) prog_72_method_2_code (3 : Nat) (Option.none : Option Jvm.ClassFile.FieldType), Jvm.Cond.code ({ cls := "com/example/covenantry/covenantry/read/Text$Matches$Found", name := "matches", desc := "()Lcom/example/covenantry/covenantry/read/Text$Matches;" } : Jvm.MethodName) prog_72_method_3_code (1 : Nat) (Option.some (Jvm.ClassFile.FieldType.object "com/example/covenantry/covenantry/read/Text$Matches")), Jvm.Cond.code ({ cls := "java/util/Arrays", name := "copyOf", desc := "([II)[I" } : Jvm.MethodName) jdk_65_method_123_code (3 : Nat) (Option.some (Jvm.ClassFile.FieldType.array Jvm.ClassFile.FieldType.int)), Jvm.Cond.code ({ cls := "java/lang/Math", name := "min", desc := "(II)I" } : Jvm.MethodName) jdk_29_method_69_code (2 : Nat) (Option.some Jvm.ClassFile.FieldType.int), Jvm.Cond.code ({ cls := "com/example/covenantry/covenantry/read/Text$Matches", name := "<init>", desc := "([I[I)V" } : Jvm.MethodName) prog_71_method_1_code (3 : Nat) (Option.none : Option Jvm.ClassFile.FieldType), Jvm.Cond.code ({ cls := "com/example/covenantry/covenantry/read/MatchesBracketsPinLaw", name := "next", desc := "(ICIII)I" } : Jvm.MethodName) method_3_code (5 : Nat) (Option.some Jvm.ClassFile.FieldType.int), Jvm.Cond.code ({ cls := "com/example/covenantry/covenantry/read/MatchesBracketsPinLaw", name := "isEnd", desc := "(IICIII)Z" } : Jvm.MethodName) method_4_code (8 : Nat) (Option.some Jvm.ClassFile.FieldType.boolean), Jvm.Cond.code ({ cls := "com/example/covenantry/covenantry/read/Text$Matches", name := "holds", desc := "(I)Z" } : Jvm.MethodName) prog_71_method_7_code (4 : Nat) (Option.some Jvm.ClassFile.FieldType.boolean), Jvm.Cond.code ({ cls := "java/util/Arrays", name := "binarySearch", desc := "([II)I" } : Jvm.MethodName) jdk_65_method_57_code (2 : Nat) (Option.some Jvm.ClassFile.FieldType.int), Jvm.Cond.code ({ cls := "java/util/Arrays", name := "binarySearch0", desc := "([IIII)I" } : Jvm.MethodName) jdk_65_method_59_code (8 : Nat) (Option.some Jvm.ClassFile.FieldType.int), Jvm.Cond.code ({ cls := "com/example/covenantry/covenantry/read/Text$Matches", name := "lastEnd", desc := "(I)I" } : Jvm.MethodName) prog_71_method_5_code (4 : Nat) (Option.some Jvm.ClassFile.FieldType.int)]
set_option maxRecDepth 65536 in
theorem codes_eq : words1.filter isCode = codes1 := rfl
theorem w_codes : ∀ c ∈ words1.filter isCode, c.before args0 about1 = true := by
  rw [codes_eq]
  intro c hc
  simp only [codes1, List.mem_cons, List.not_mem_nil, or_false] at hc
  rcases hc with rfl | rfl | rfl | rfl | rfl | rfl | rfl | rfl | rfl | rfl | rfl | rfl | rfl | rfl | rfl | rfl | rfl | rfl | rfl | rfl | rfl | rfl | rfl | rfl | rfl | rfl
  · exact w_c0
  · exact w_c1
  · exact w_c2
  · exact w_c3
  · exact w_c4
  · exact w_c5
  · exact w_c6
  · exact w_c7
  · exact w_c8
  · exact w_c9
  · exact w_c10
  · exact w_c11
  · exact w_c12
  · exact w_c13
  · exact w_c14
  · exact w_c15
  · exact w_c16
  · exact w_c17
  · exact w_c18
  · exact w_c19
  · exact w_c20
  · exact w_c21
  · exact w_c22
  · exact w_c23
  · exact w_c24
  · exact w_c25
set_option maxRecDepth 65536 in
theorem w_t1 : (words1.take 24).all (fun c => isCode c || c.before args0 about1) = true := by decide +kernel
set_option maxRecDepth 65536 in
theorem w_t2 : ((words1.drop 24).take 24).all (fun c => isCode c || c.before args0 about1) = true := by decide +kernel
set_option maxRecDepth 65536 in
theorem w_t3 : (((words1.drop 24).drop 24).take 24).all (fun c => isCode c || c.before args0 about1) = true := by decide +kernel
set_option maxRecDepth 65536 in
theorem w_t4 : ((((words1.drop 24).drop 24).drop 24).take 24).all (fun c => isCode c || c.before args0 about1) = true := by decide +kernel
set_option maxRecDepth 65536 in
theorem w_t5 : (((((words1.drop 24).drop 24).drop 24).drop 24).take 24).all (fun c => isCode c || c.before args0 about1) = true := by decide +kernel
set_option maxRecDepth 65536 in
theorem w_t6 : (((((words1.drop 24).drop 24).drop 24).drop 24).drop 24).all (fun c => isCode c || c.before args0 about1) = true := by decide +kernel
theorem w_tables : (allAtoms (Jvm.Cond.code x code maxLocals ret :: tables_1)).before args0 about1 = true := by
  rw [allAtoms_all]
  show words1.all (fun c => c.before args0 about1) = true
  refine all_split ?_ w_codes
  rw [← List.take_append_drop 24 words1, List.all_append, w_t1, ← List.take_append_drop 24 (words1.drop 24), List.all_append, w_t2, ← List.take_append_drop 24 ((words1.drop 24).drop 24), List.all_append, w_t3, ← List.take_append_drop 24 (((words1.drop 24).drop 24).drop 24), List.all_append, w_t4, ← List.take_append_drop 24 ((((words1.drop 24).drop 24).drop 24).drop 24), List.all_append, w_t5, w_t6]
  rfl
set_option maxRecDepth 65536 in
theorem w_rest : rest_1_c.before args0 about1 = true := by decide +kernel
set_option maxRecDepth 65536 in
theorem w_case : (Jvm.Cond.and given_1 narrow_1).before args0 about1 = true := by decide +kernel
theorem w_applies : (headSpec (Jvm.Cond.code x code maxLocals ret :: tables_1) room_1).applies x e0.platform about1 = true :=
  (Spec.applies_iff w_frames).mpr ⟨w_running, w_runnable, w_alone, w_named, w_hears, w_ripe, w_room, w_tables⟩
theorem atStart : AtStart classFile x code maxLocals ret World_1 tables_1 room_1 Calls_1 rest_1 Pre_1 launch0 p0 e0 about1 theMethod args0 below0 :=
  ⟨lists_1, trivial, launch0.admits_env _ _ _, launch0.least_env, fairChoices_fair.cas, fairChoices_fair.clock, w_frames, w_args, w_heap, w_applies, trivial, w_rest, w_case⟩
end start1
theorem witness_1 : WitnessClaimed_1 := ⟨start1.p0, start1.e0, start1.about1, start1.theMethod, start1.args0, start1.below0, start1.atStart⟩
end Jvm.Pilot.@@N@@
