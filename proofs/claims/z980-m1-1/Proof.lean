import JvmDerived
import JvmDerived.Pilot.@@N@@Statement
import JvmDerived.Pilot.@@N@@Code
set_option linter.unusedVariables false
set_option linter.unusedSimpArgs false
namespace Jvm.RoadKit
open Sem ClassFile Op Lib Jvm.Stand Jvm.Free Jvm.LawKit
section New
variable {p : Program} {l : Launch} {e : Env} {R : Room} {s : State} {m : MethodId} {args : Array Value} {below : List Frame} {meth : Method} {c : Code} {T : State} {locs : List Loc} {cells slots : Nat}
theorem retI (X : Stand p l e R s m args below meth c T locs cells slots) (hx : p.tables.exec = Jvm.exec) {pc : Nat} {Ls : Array Slot} {z : Int32} {rest : List Value} (hret : meth.sig.returnType = some .int) (hd : decode c.code pc = .ok (.ireturn, 1)) {fs : List Frame}
    (hl : ∀ (f : JFrame) (acts : List Action), f.method = m → f.locked = none → f.entered = [] → (doReturn e (T.setTop f) acts (some (.int z))).1 = T.setFrames fs) : Steps p.tables e below (T.setTop (mkF m pc Ls (.int z :: rest))) (T.setFrames fs) := by
  have hm' : T.vm.method? m = some meth := X.method'
  have hn : narrow .int (.int z) = .int z := rfl
  show Steps p.tables e below (T.setTop { method := m, pc := pc, locals := Ls, stack := _ :: rest, locked := none }) _
  jvm_step X.here [X.here.top, hx, hd, hm', hret, hn]
  first | (intro acts; rw [hl _ acts rfl rfl rfl]) | rw [hl _ _ rfl rfl rfl]
  exact Steps.refl _
/-- the run from U on ends as W says -/
def Onw (p : Program) (e : Env) (below : List Frame) (W : Outcome → State → Prop) (U : State) : Prop :=
  ∃ s₂ o, Steps p.tables e below U s₂ ∧ s₂.status = .running ∧ Ended s₂ below o ∧ W o s₂
theorem Onw.go {W : Outcome → State → Prop} {U U' : State} (h : ∀ t, Steps p.tables e below U' t → Steps p.tables e below U t) (k : Onw p e below W U') : Onw p e below W U := by
  obtain ⟨s₂, o, h1, h2⟩ := k
  exact ⟨s₂, o, h _ h1, h2⟩
theorem Onw.of {W : Outcome → State → Prop} {U : State} (k : Onw p e below W U) : ∃ s₂ o, Steps p.tables e below U s₂ ∧ s₂.status = .running ∧ Ended s₂ below o ∧ W o s₂ := k
/-- the end of a walk -/
theorem Onw.ret (X : Stand p l e R s m args below meth c T locs cells slots) (hlk : meth.locks = false) {U : State} {v : Option Value} (hv : meth.sig.returnType = none → v = none)
    (hs : ∀ fs, (∀ (f : JFrame) (acts : List Action), f.method = m → f.locked = none → f.entered = [] → (doReturn e (T.setTop f) acts v).1 = T.setFrames fs) → Steps p.tables e below U (T.setFrames fs))
    {Q : Option Value → Heap → List Loc → Prop} (hQ : Q v T.heap locs) {k n : Nat} (hk : cells ≤ k) (hn : slots ≤ n) :
    Onw p e below (fun o s₂ => ∃ v L, o = .returned v ∧ Q v s₂.heap L ∧ FrameEnd s o s₂ L k n) U := by
  obtain ⟨fs, hr, hrun, hended, hW, hsame⟩ := X.leave (v := v) hv hlk
  exact ⟨_, _, hs fs hr, hrun, hended, v, locs, rfl, hQ, ⟨_, rfl⟩, hW, hsame.mono hk hn⟩
/-- .. where Strings may have been interned -/
theorem Onw.retW {vm₁ : Vm} (X : Stand p l e R (s.setVm vm₁) m args below meth c T locs cells slots) {j : Nat} (hS : s.Since vm₁ j) (hj : j ≤ T.heap.size) (hlk : meth.locks = false) {U : State} {v : Option Value} (hv : meth.sig.returnType = none → v = none)
    (hs : ∀ fs, (∀ (f : JFrame) (acts : List Action), f.method = m → f.locked = none → f.entered = [] → (doReturn e (T.setTop f) acts v).1 = T.setFrames fs) → Steps p.tables e below U (T.setFrames fs))
    {Q : Option Value → Heap → List Loc → Prop} (hQ : Q v T.heap locs) {k n : Nat} (hk : cells ≤ k) (hn : slots ≤ n) :
    Onw p e below (fun o s₂ => ∃ v L, o = .returned v ∧ Q v s₂.heap L ∧ ReturnedEndW s o s₂ L k n) U := by
  obtain ⟨fs, hr, hrun, hended, hE⟩ := X.leaveW hS hj (v := v) hv hlk
  exact ⟨_, _, hs fs hr, hrun, hended, v, locs, rfl, hQ, hE.1, hE.2.1, hE.2.2.1, hE.2.2.2.mono hk hn⟩
end New
end Jvm.RoadKit
namespace Jvm.Pilot.@@N@@
open Jvm Jvm.ClassFile Sem Op Lib Jvm.Free Jvm.Stand Jvm.LawKit Jvm.RoadKit Bundle Jvm.Pilot.@@N@@.Jvm.D
theorem pd_0 : parseMethodDescriptor "(I)B" = some ⟨[.int], some .byte⟩ := by decide +kernel
theorem pd_1 : parseMethodDescriptor "([B)V" = some ⟨[(.array .byte)], none⟩ := by decide +kernel
theorem pd_2 : parseMethodDescriptor "([BI)Z" = some ⟨[(.array .byte), .int], some .boolean⟩ := by decide +kernel
theorem pd_3 : parseMethodDescriptor "()V" = some ⟨[], none⟩ := by decide +kernel
theorem pd_4 : parseMethodDescriptor "()J" = some ⟨[], some .long⟩ := by decide +kernel
theorem pd_5 : parseMethodDescriptor "()Z" = some ⟨[], some .boolean⟩ := by decide +kernel
theorem pd_6 : parseMethodDescriptor "([BII)I" = some ⟨[(.array .byte), .int, .int], some .int⟩ := by decide +kernel
theorem pd_7 : parseMethodDescriptor "(II)I" = some ⟨[.int, .int], some .int⟩ := by decide +kernel
def own_pk (p : Int32) : Int32 := if p &&& 3 = 0 then 13 else if p &&& 3 = 1 then 10 else nar .byte ((p >>> ((2 : Int32) &&& 31)).toInt8.toInt32)
def own_el (c0 c1 c2 c3 i : Int32) : Int32 := if i = 0 then c0 else if i = 1 then c1 else if i = 2 then c2 else c3
def own_ie (f : Int32 → Int32) (i : Int32) : Int32 := if i < 4 then (if f i = 13 then 1 else if f i = 10 then 1 else 0) else 0
def own_skip (f : Int32 → Int32) : Nat → Int32 → Int32
  | 0, p => p
  | k + 1, p => if f p = 13 ∨ f p = 10 then own_skip f k (p + 1) else p
def own_more (p : Int32) : Int32 := if p < 4 then 1 else 0
def own_min (p q : Int32) : Int32 := if q < p then q else p
def own_sk4 (f : Int32 → Int32) (p : Int32) : Int32 := if own_ie f p = 0 then p else if own_ie f (p + 1) = 0 then p + 1 else if own_ie f (p + 1 + 1) = 0 then p + 1 + 1 else if own_ie f (p + 1 + 1 + 1) = 0 then p + 1 + 1 + 1 else p + 1 + 1 + 1 + 1
theorem own_t4 : (4 : Int32).toInt = 4 := rfl
theorem own_t1 : (1 : Int32).toInt = 1 := rfl
theorem own_t0 : (0 : Int32).toInt = 0 := rfl
theorem own_four {p : Int32} (h : p < 4) : p.toInt < 4 := by rw [Int32.lt_iff_toInt_lt, own_t4] at h; exact h
theorem own_elt {cl : Cell} {c0 c1 c2 c3 : Int32} (S : cl.slots.size = (4 : Int32).toNatClampNeg) (H : Has cl [.int c0, .int c1, .int c2, .int c3] (.int (0 : Int32))) (i : Int32) (hi : 0 ≤ i.toInt) (hl : i.toInt < 4) :
    ¬ (i < 0 ∨ cl.slots.size ≤ i.toNatClampNeg) ∧ cl.slots[i.toNatClampNeg]? = some (.int (own_el c0 c1 c2 c3 i)) := by
  have hb : i.toInt = 0 ∨ i.toInt = 1 ∨ i.toInt = 2 ∨ i.toInt = 3 := by omega
  rcases hb with h | h | h | h
  · obtain rfl : i = 0 := Int32.toInt_inj.mp h
    exact ⟨by rw [S]; decide, H 0 (by rw [S]; decide)⟩
  · obtain rfl : i = 1 := Int32.toInt_inj.mp h
    exact ⟨by rw [S]; decide, H 1 (by rw [S]; decide)⟩
  · obtain rfl : i = 2 := Int32.toInt_inj.mp h
    exact ⟨by rw [S]; decide, H 2 (by rw [S]; decide)⟩
  · obtain rfl : i = 3 := Int32.toInt_inj.mp h
    exact ⟨by rw [S]; decide, H 3 (by rw [S]; decide)⟩
theorem own_left {pos : Int32} (h : 0 ≤ pos.toInt ∧ pos.toInt ≤ 4) : pos.toInt + ((4 : Int32) - pos).toNatClampNeg = 4 := by
  have e1 := c_isub (4 : Int32) pos
  have e2 := rng32 ((4 : Int32) - pos)
  rw [own_t4] at e1
  unfold Int32.toNatClampNeg
  omega
theorem own_not4 {pos p3 : Int32} (hp : 0 ≤ pos.toInt ∧ 1 ≤ p3.toInt ∧ pos.toInt + p3.toInt ≤ 4) : ¬ pos = 4 := fun q => by subst q; rw [own_t4] at hp; omega
theorem own_min3 {pos p3 : Int32} (hp : 0 ≤ pos.toInt ∧ 1 ≤ p3.toInt ∧ pos.toInt + p3.toInt ≤ 4) : own_min p3 ((4 : Int32) - pos) = p3 := by
  have e1 := c_isub (4 : Int32) pos
  have e2 := rng32 ((4 : Int32) - pos)
  rw [own_t4] at e1
  unfold own_min
  rw [if_neg (by rw [Int32.lt_iff_toInt_lt]; omega)]
theorem own_nn {x : Int32} (h : 0 ≤ x.toInt) : ¬ x < 0 := by rw [Int32.lt_iff_toInt_lt, own_t0]; omega
theorem own_fit4 {pos p3 : Int32} (hp : 0 ≤ pos.toInt ∧ 1 ≤ p3.toInt ∧ pos.toInt + p3.toInt ≤ 4) : pos.toNatClampNeg + p3.toNatClampNeg ≤ (4 : Int32).toNatClampNeg := by
  unfold Int32.toNatClampNeg
  rw [own_t4]
  omega
theorem own_self {s : State} {args : Array Value} {C : String} {y z : MethodName} (hz : (Jvm.Cond.selects C z z).before args s = true) (hpriv : s.PrivateAt y) (hinst : (Jvm.Cond.instanceMethod y).before args s = true) (hc : C = y.cls ∧ C = z.cls) (hy : y.cls ≠ "java/lang/invoke/MethodHandle" ∧ y.cls ≠ "java/lang/invoke/VarHandle") : (Jvm.Cond.selects C y y).before args s = true := by
  obtain ⟨c2, r2, m2, q1, -, q3, -, kP, hkP, hkPi⟩ := Cond.selects_spec hz
  rw [hc.1]
  have hcls := findClass_of_methodNamed q3
  rw [← hc.2, hc.1] at hcls
  exact Jvm.Stand.selects_self_of_private hcls hkP hkPi hpriv hinst hy
theorem own_args {s : State} {args args' : Array Value} {C : String} {y z : MethodName} (h : (Jvm.Cond.selects C y z).before args s = true) : (Jvm.Cond.selects C y z).before args' s = true := by
  simp only [Cond.before, Cond.holds, Cond.value] at h ⊢
  exact h
theorem own_upp {x : Int32} {k : Int} (h : 0 ≤ x.toInt ∧ x.toInt ≤ k) (hk : k ≤ 100) : 0 ≤ (x + 1).toInt ∧ (x + 1).toInt ≤ k + 1 ∧ (x + 1).toInt = x.toInt + 1 := by
  have e1 := c_iadd x (1 : Int32)
  have e2 := rng32 (x + (1 : Int32))
  rw [own_t1] at e1
  omega
theorem own_up0 {x : Int32} (h : 0 ≤ x.toInt ∧ x.toInt ≤ 4) : 0 ≤ x.toInt := h.1
theorem own_up1 {x : Int32} (h : 0 ≤ x.toInt ∧ x.toInt ≤ 4) : 0 ≤ (x + 1).toInt := (own_upp h (by decide)).1
theorem own_up2 {x : Int32} (h : 0 ≤ x.toInt ∧ x.toInt ≤ 4) : 0 ≤ (x + 1 + 1).toInt := (own_upp (k := 5) ⟨own_up1 h, (own_upp h (by decide)).2.1⟩ (by decide)).1
theorem own_up3 {x : Int32} (h : 0 ≤ x.toInt ∧ x.toInt ≤ 4) : 0 ≤ (x + 1 + 1 + 1).toInt := (own_upp (k := 6) ⟨own_up2 h, (own_upp (k := 5) ⟨own_up1 h, (own_upp h (by decide)).2.1⟩ (by decide)).2.1⟩ (by decide)).1
theorem own_ch0 {f : Int32 → Int32} {p : Int32} (h : own_ie f p = 0) : own_sk4 f p = p := if_pos h
theorem own_ch1 {f : Int32 → Int32} {p : Int32} (h0 : ¬ own_ie f p = 0) (h : own_ie f (p + 1) = 0) : own_sk4 f p = p + 1 := by unfold own_sk4; rw [if_neg h0, if_pos h]
theorem own_ch2 {f : Int32 → Int32} {p : Int32} (h0 : ¬ own_ie f p = 0) (h1 : ¬ own_ie f (p + 1) = 0) (h : own_ie f (p + 1 + 1) = 0) : own_sk4 f p = p + 1 + 1 := by unfold own_sk4; rw [if_neg h0, if_neg h1, if_pos h]
theorem own_ch3 {f : Int32 → Int32} {p : Int32} (h0 : ¬ own_ie f p = 0) (h1 : ¬ own_ie f (p + 1) = 0) (h2 : ¬ own_ie f (p + 1 + 1) = 0) (h : own_ie f (p + 1 + 1 + 1) = 0) : own_sk4 f p = p + 1 + 1 + 1 := by unfold own_sk4; rw [if_neg h0, if_neg h1, if_neg h2, if_pos h]
theorem own_ch4 {f : Int32 → Int32} {p : Int32} (h0 : ¬ own_ie f p = 0) (h1 : ¬ own_ie f (p + 1) = 0) (h2 : ¬ own_ie f (p + 1 + 1) = 0) (h3 : ¬ own_ie f (p + 1 + 1 + 1) = 0) : own_sk4 f p = p + 1 + 1 + 1 + 1 := by unfold own_sk4; rw [if_neg h0, if_neg h1, if_neg h2, if_neg h3]
theorem own_five {p : Int32} (h : 0 ≤ p.toInt ∧ p.toInt ≤ 4) : p = 0 ∨ p = 1 ∨ p = 2 ∨ p = 3 ∨ p = 4 := by
  have h : p.toInt = 0 ∨ p.toInt = 1 ∨ p.toInt = 2 ∨ p.toInt = 3 ∨ p.toInt = 4 := by omega
  rcases h with h | h | h | h | h
  · exact Or.inl (Int32.toInt_inj.mp h)
  · exact Or.inr (Or.inl (Int32.toInt_inj.mp h))
  · exact Or.inr (Or.inr (Or.inl (Int32.toInt_inj.mp h)))
  · exact Or.inr (Or.inr (Or.inr (Or.inl (Int32.toInt_inj.mp h))))
  · exact Or.inr (Or.inr (Or.inr (Or.inr (Int32.toInt_inj.mp h))))
theorem own_ie_of {f : Int32 → Int32} {i : Int32} (h : i < 4) : own_ie f i = 0 ↔ ¬ (f i = 13 ∨ f i = 10) := by
  unfold own_ie
  rw [if_pos h]
  by_cases h1 : f i = 13 <;> by_cases h2 : f i = 10 <;> simp [h1, h2]
theorem own_ie4 {f : Int32 → Int32} : own_ie f 4 = 0 := by unfold own_ie; rw [if_neg (by decide)]
/-- the place that the law reckons is the one to which the loop comes, and there it stays -/
theorem own_place (f : Int32 → Int32) {p q : Int32} (hp : 0 ≤ p.toInt ∧ p.toInt ≤ 4) (hq : own_sk4 f p = q) : (p.toInt ≤ q.toInt ∧ q.toInt ≤ 4) ∧ own_ie f q = 0 ∧ own_skip f ((4 : Int32) - p).toNatClampNeg p = q ∧ own_skip f ((4 : Int32) - q).toNatClampNeg q = q := by
  have i0 := own_ie_of (f := f) (i := 0) (by decide)
  have i1 := own_ie_of (f := f) (i := 1) (by decide)
  have i2 := own_ie_of (f := f) (i := 2) (by decide)
  have i3 := own_ie_of (f := f) (i := 3) (by decide)
  have i4 := own_ie4 (f := f)
  have a0 : (0 : Int32) + 1 = 1 := rfl
  have a1 : (1 : Int32) + 1 = 2 := rfl
  have a2 : (2 : Int32) + 1 = 3 := rfl
  have a3 : (3 : Int32) + 1 = 4 := rfl
  have s4 : own_skip f ((4 : Int32) - 4).toNatClampNeg 4 = 4 := rfl
  have s3 : own_skip f ((4 : Int32) - 3).toNatClampNeg 3 = if f 3 = 13 ∨ f 3 = 10 then 4 else 3 := rfl
  have s2 : own_skip f ((4 : Int32) - 2).toNatClampNeg 2 = if f 2 = 13 ∨ f 2 = 10 then (if f 3 = 13 ∨ f 3 = 10 then 4 else 3) else 2 := rfl
  have s1 : own_skip f ((4 : Int32) - 1).toNatClampNeg 1 = if f 1 = 13 ∨ f 1 = 10 then (if f 2 = 13 ∨ f 2 = 10 then (if f 3 = 13 ∨ f 3 = 10 then 4 else 3) else 2) else 1 := rfl
  have s0 : own_skip f ((4 : Int32) - 0).toNatClampNeg 0 = if f 0 = 13 ∨ f 0 = 10 then (if f 1 = 13 ∨ f 1 = 10 then (if f 2 = 13 ∨ f 2 = 10 then (if f 3 = 13 ∨ f 3 = 10 then 4 else 3) else 2) else 1) else 0 := rfl
  unfold own_sk4 at hq
  have key : ∀ q' : Int32, q' = q → ((p.toInt ≤ q'.toInt ∧ q'.toInt ≤ 4) ∧ own_ie f q' = 0 ∧ own_skip f ((4 : Int32) - p).toNatClampNeg p = q' ∧ own_skip f ((4 : Int32) - q').toNatClampNeg q' = q') → ((p.toInt ≤ q.toInt ∧ q.toInt ≤ 4) ∧ own_ie f q = 0 ∧ own_skip f ((4 : Int32) - p).toNatClampNeg p = q ∧ own_skip f ((4 : Int32) - q).toNatClampNeg q = q) := fun q' h => h ▸ id
  refine key _ hq ?_
  clear key hq
  rcases own_five hp with rfl | rfl | rfl | rfl | rfl
  · simp only [a0, a1, a2, a3]
    by_cases c0 : f 0 = 13 ∨ f 0 = 10 <;> by_cases c1 : f 1 = 13 ∨ f 1 = 10 <;> by_cases c2 : f 2 = 13 ∨ f 2 = 10 <;> by_cases c3 : f 3 = 13 ∨ f 3 = 10 <;>
      simp only [c0, c1, c2, c3, not_true_eq_false, not_false_eq_true, if_true, if_false, i0, i1, i2, i3, i4, s0, s1, s2, s3, s4] <;> decide
  · simp only [a1, a2, a3, i4]
    by_cases c1 : f 1 = 13 ∨ f 1 = 10 <;> by_cases c2 : f 2 = 13 ∨ f 2 = 10 <;> by_cases c3 : f 3 = 13 ∨ f 3 = 10 <;>
      simp only [c1, c2, c3, not_true_eq_false, not_false_eq_true, if_true, if_false, i0, i1, i2, i3, i4, s0, s1, s2, s3, s4] <;> decide
  · simp only [a2, a3, i4]
    by_cases c2 : f 2 = 13 ∨ f 2 = 10 <;> by_cases c3 : f 3 = 13 ∨ f 3 = 10 <;>
      simp only [c2, c3, not_true_eq_false, not_false_eq_true, if_true, if_false, i0, i1, i2, i3, i4, s0, s1, s2, s3, s4] <;> decide
  · simp only [a3, i4]
    by_cases c3 : f 3 = 13 ∨ f 3 = 10 <;>
      simp only [c3, not_true_eq_false, not_false_eq_true, if_true, if_false, i0, i1, i2, i3, i4, s0, s1, s2, s3, s4] <;> decide
  · rw [if_pos i4]
    exact ⟨by decide, i4, rfl, rfl⟩
theorem own_sum {pre q : Int32} (hp : 0 ≤ pre.toInt ∧ pre.toInt ≤ 4) (hq : pre.toInt ≤ q.toInt ∧ q.toInt ≤ 4) : pre.toInt64 + (q - pre).toInt64 = q.toInt64 := by
  apply Int64.toInt_inj.mp
  have a1 := c_i2l pre
  have a2 := c_i2l (q - pre)
  have a3 := c_i2l q
  have a4 := c_isub q pre
  have a5 := rng32 (q - pre)
  have a6 := c_ladd pre.toInt64 (q - pre).toInt64
  have a7 := rng64 (pre.toInt64 + (q - pre).toInt64)
  omega
theorem own_sum2 {pre q : Int32} (hp : 0 ≤ pre.toInt ∧ pre.toInt ≤ 4) (hq : pre.toInt ≤ q.toInt ∧ q.toInt ≤ 4) : (pre.toInt64 + (q - pre).toInt64) + (q - q).toInt64 = q.toInt64 := by
  rw [own_sum hp hq]
  apply Int64.toInt_inj.mp
  have a2 := c_i2l (q - q)
  have a3 := c_i2l q
  have a4 := c_isub q q
  have a5 := rng32 (q - q)
  have a6 := c_ladd q.toInt64 (q - q).toInt64
  have a7 := rng64 (q.toInt64 + (q - q).toInt64)
  omega
theorem own_le4 {pre q : Int32} (hp : 0 ≤ pre.toInt ∧ pre.toInt ≤ 4) (hq : pre.toInt ≤ q.toInt ∧ q.toInt ≤ 4) : 0 ≤ q.toInt ∧ q.toInt ≤ 4 := by omega
theorem own_ge0 {pre q : Int32} (hp : 0 ≤ pre.toInt ∧ pre.toInt ≤ 4) (hq : pre.toInt ≤ q.toInt ∧ q.toInt ≤ 4) : 0 ≤ q.toInt := by omega
theorem own_one4 {pre q : Int32} (hp : 0 ≤ pre.toInt ∧ pre.toInt ≤ 4) (hq : pre.toInt ≤ q.toInt ∧ q.toInt ≤ 4) (h4 : q < 4) : 0 ≤ q.toInt ∧ 1 ≤ (1 : Int32).toInt ∧ q.toInt + (1 : Int32).toInt ≤ 4 := by
  have := own_four h4
  rw [own_t1]; omega
theorem own_is4 {pre q : Int32} (hp : 0 ≤ pre.toInt ∧ pre.toInt ≤ 4) (hq : pre.toInt ≤ q.toInt ∧ q.toInt ≤ 4) (h4 : ¬ q < 4) : q = 4 := by
  rw [Int32.lt_iff_toInt_lt, own_t4] at h4
  apply Int32.toInt_inj.mp
  rw [own_t4]; omega
theorem own_got {cd : Cell} {m0 m1 m2 m3 q : Int32} (S : cd.slots.size = (1 : Int32).toNatClampNeg) (H : Has cd ((([.int (0 : Int32)] : List Value).take (0 : Int32).toNatClampNeg) ++ ((List.range (1 : Int32).toNatClampNeg).map fun i => ([.int m0, .int m1, .int m2, .int m3] : List Value).getD (q.toNatClampNeg + i) (.int (0 : Int32))) ++ ([.int (0 : Int32)] : List Value).drop ((0 : Int32).toNatClampNeg + (1 : Int32).toNatClampNeg)) (.int (0 : Int32))) (h0 : 0 ≤ q.toInt) (h4 : q.toInt < 4) :
    cd.slots[(0 : Int32).toNatClampNeg]? = some (.int (own_el m0 m1 m2 m3 q)) := by
  have hb : q.toInt = 0 ∨ q.toInt = 1 ∨ q.toInt = 2 ∨ q.toInt = 3 := by omega
  have e := H 0 (by rw [S]; decide)
  rcases hb with h | h | h | h
  · obtain rfl : q = 0 := Int32.toInt_inj.mp h
    exact e
  · obtain rfl : q = 1 := Int32.toInt_inj.mp h
    exact e
  · obtain rfl : q = 2 := Int32.toInt_inj.mp h
    exact e
  · obtain rfl : q = 3 := Int32.toInt_inj.mp h
    exact e
theorem own_os {s0 s1 s2 s3 s4 s5 s6 s7 s8 s9 o s11 s12 : Slot} {v : Int32} (h : One o) : storeLocals #[s0, s1, s2, s3, s4, s5, s6, s7, s8, s9, o, s11, s12] 10 (.int v) = some #[s0, s1, s2, s3, s4, s5, s6, s7, s8, s9, .val (.int v), s11, s12] := by
  rcases h with rfl | ⟨w, rfl, hw⟩
  · rfl
  · cases w <;> first | rfl | (simp [Value.category] at hw)
theorem own_pre (x p : Int32) (h : p = (x &&& (2147483647 : Int32)) % (5 : Int32)) : 0 ≤ p.toInt ∧ p.toInt ≤ 4 := by
  have e1 : (x &&& (2147483647 : Int32)).toInt = x.toInt % (2 ^ 31 : Nat) := c_mask x 2147483647 31 (by decide) (by decide)
  have e6 := (c_irem (x &&& (2147483647 : Int32)) (5 : Int32) 5 rfl).1 (by omega)
  rw [← h] at e6
  omega
theorem own_pre0 {p : Int32} (hp : 0 ≤ p.toInt ∧ p.toInt ≤ 4) (h : 0 < p) : 0 ≤ (0 : Int32).toInt ∧ 1 ≤ p.toInt ∧ (0 : Int32).toInt + p.toInt ≤ 4 := by
  rw [Int32.lt_iff_toInt_lt] at h
  rw [own_t0] at h ⊢
  omega
theorem own_pre4 {p : Int32} (hp : 0 ≤ p.toInt ∧ p.toInt ≤ 4) : p.toNatClampNeg ≤ 4 := by unfold Int32.toNatClampNeg; omega
theorem own_z32 (x : Int32) : (0 : Int32) + x = x := Int32.zero_add x
theorem own_z64 (x : Int32) : (0 : Int64) + x.toInt64 = x.toInt64 := Int64.zero_add _
theorem own_pz {p : Int32} (hp : 0 ≤ p.toInt ∧ p.toInt ≤ 4) (h : ¬ 0 < p) : p = 0 := by
  rw [Int32.lt_iff_toInt_lt, own_t0] at h
  apply Int32.toInt_inj.mp
  rw [own_t0]; omega
def own_MB (Z : State) (h : Heap) (a : Addr) (v1 v2 v3 v4 v5 : Value) : Prop := Exa Z h a "com/example/shrewd_spider/shrewdspider/net/MessageBytes" ∧ Fld Z h a "com/example/shrewd_spider/shrewdspider/net/MessageBytes" "source" "Ljava/io/InputStream;" v1 ∧ Fld Z h a "com/example/shrewd_spider/shrewdspider/net/MessageBytes" "buffer" "[B" v2 ∧ Fld Z h a "com/example/shrewd_spider/shrewdspider/net/MessageBytes" "limit" "I" v3 ∧ Fld Z h a "com/example/shrewd_spider/shrewdspider/net/MessageBytes" "position" "I" v4 ∧ Fld Z h a "com/example/shrewd_spider/shrewdspider/net/MessageBytes" "taken" "J" v5
theorem own_set_source {Z : State} {a0 : Array Value} (hw : ∀ d ∈ tables_1, d.before a0 Z = true) {h h' : Heap} {a : Addr} {v1 v2 v3 v4 v5 v : Value} (M : own_MB Z h a v1 v2 v3 v4 v5) (W : Wr h h' a (Jvm.RoadKit.slotOf Z "com/example/shrewd_spider/shrewdspider/net/MessageBytes" "source" "Ljava/io/InputStream;") v) : own_MB Z h' a v v2 v3 v4 v5 := by
  obtain ⟨E, F1, F2, F3, F4, F5⟩ := M
  exact ⟨E.wr W, F1.same W, F2.other W (Or.inr (slot_ne (Or.inr (hw _ (List.mem_of_getElem? (i := 18) rfl))) (Or.inr (hw _ (List.mem_of_getElem? (i := 16) rfl))) (by decide) (t := (.array .byte)) (t' := (.object "java/io/InputStream")) (by decide) (by decide))), F3.other W (Or.inr (slot_ne (Or.inl (hw _ (List.mem_of_getElem? (i := 20) rfl))) (Or.inr (hw _ (List.mem_of_getElem? (i := 16) rfl))) (by decide) (t := .int) (t' := (.object "java/io/InputStream")) (by decide) (by decide))), F4.other W (Or.inr (slot_ne (Or.inl (hw _ (List.mem_of_getElem? (i := 30) rfl))) (Or.inr (hw _ (List.mem_of_getElem? (i := 16) rfl))) (by decide) (t := .int) (t' := (.object "java/io/InputStream")) (by decide) (by decide))), F5.other W (Or.inr (slot_ne (Or.inl (hw _ (List.mem_of_getElem? (i := 32) rfl))) (Or.inr (hw _ (List.mem_of_getElem? (i := 16) rfl))) (by decide) (t := .long) (t' := (.object "java/io/InputStream")) (by decide) (by decide)))⟩
theorem own_set_buffer {Z : State} {a0 : Array Value} (hw : ∀ d ∈ tables_1, d.before a0 Z = true) {h h' : Heap} {a : Addr} {v1 v2 v3 v4 v5 v : Value} (M : own_MB Z h a v1 v2 v3 v4 v5) (W : Wr h h' a (Jvm.RoadKit.slotOf Z "com/example/shrewd_spider/shrewdspider/net/MessageBytes" "buffer" "[B") v) : own_MB Z h' a v1 v v3 v4 v5 := by
  obtain ⟨E, F1, F2, F3, F4, F5⟩ := M
  exact ⟨E.wr W, F1.other W (Or.inr (slot_ne (Or.inr (hw _ (List.mem_of_getElem? (i := 16) rfl))) (Or.inr (hw _ (List.mem_of_getElem? (i := 18) rfl))) (by decide) (t := (.object "java/io/InputStream")) (t' := (.array .byte)) (by decide) (by decide))), F2.same W, F3.other W (Or.inr (slot_ne (Or.inl (hw _ (List.mem_of_getElem? (i := 20) rfl))) (Or.inr (hw _ (List.mem_of_getElem? (i := 18) rfl))) (by decide) (t := .int) (t' := (.array .byte)) (by decide) (by decide))), F4.other W (Or.inr (slot_ne (Or.inl (hw _ (List.mem_of_getElem? (i := 30) rfl))) (Or.inr (hw _ (List.mem_of_getElem? (i := 18) rfl))) (by decide) (t := .int) (t' := (.array .byte)) (by decide) (by decide))), F5.other W (Or.inr (slot_ne (Or.inl (hw _ (List.mem_of_getElem? (i := 32) rfl))) (Or.inr (hw _ (List.mem_of_getElem? (i := 18) rfl))) (by decide) (t := .long) (t' := (.array .byte)) (by decide) (by decide)))⟩
theorem own_set_limit {Z : State} {a0 : Array Value} (hw : ∀ d ∈ tables_1, d.before a0 Z = true) {h h' : Heap} {a : Addr} {v1 v2 v3 v4 v5 v : Value} (M : own_MB Z h a v1 v2 v3 v4 v5) (W : Wr h h' a (Jvm.RoadKit.slotOf Z "com/example/shrewd_spider/shrewdspider/net/MessageBytes" "limit" "I") v) : own_MB Z h' a v1 v2 v v4 v5 := by
  obtain ⟨E, F1, F2, F3, F4, F5⟩ := M
  exact ⟨E.wr W, F1.other W (Or.inr (slot_ne (Or.inr (hw _ (List.mem_of_getElem? (i := 16) rfl))) (Or.inl (hw _ (List.mem_of_getElem? (i := 20) rfl))) (by decide) (t := (.object "java/io/InputStream")) (t' := .int) (by decide) (by decide))), F2.other W (Or.inr (slot_ne (Or.inr (hw _ (List.mem_of_getElem? (i := 18) rfl))) (Or.inl (hw _ (List.mem_of_getElem? (i := 20) rfl))) (by decide) (t := (.array .byte)) (t' := .int) (by decide) (by decide))), F3.same W, F4.other W (Or.inr (slot_ne (Or.inl (hw _ (List.mem_of_getElem? (i := 30) rfl))) (Or.inl (hw _ (List.mem_of_getElem? (i := 20) rfl))) (by decide) (t := .int) (t' := .int) (by decide) (by decide))), F5.other W (Or.inr (slot_ne (Or.inl (hw _ (List.mem_of_getElem? (i := 32) rfl))) (Or.inl (hw _ (List.mem_of_getElem? (i := 20) rfl))) (by decide) (t := .long) (t' := .int) (by decide) (by decide)))⟩
theorem own_set_position {Z : State} {a0 : Array Value} (hw : ∀ d ∈ tables_1, d.before a0 Z = true) {h h' : Heap} {a : Addr} {v1 v2 v3 v4 v5 v : Value} (M : own_MB Z h a v1 v2 v3 v4 v5) (W : Wr h h' a (Jvm.RoadKit.slotOf Z "com/example/shrewd_spider/shrewdspider/net/MessageBytes" "position" "I") v) : own_MB Z h' a v1 v2 v3 v v5 := by
  obtain ⟨E, F1, F2, F3, F4, F5⟩ := M
  exact ⟨E.wr W, F1.other W (Or.inr (slot_ne (Or.inr (hw _ (List.mem_of_getElem? (i := 16) rfl))) (Or.inl (hw _ (List.mem_of_getElem? (i := 30) rfl))) (by decide) (t := (.object "java/io/InputStream")) (t' := .int) (by decide) (by decide))), F2.other W (Or.inr (slot_ne (Or.inr (hw _ (List.mem_of_getElem? (i := 18) rfl))) (Or.inl (hw _ (List.mem_of_getElem? (i := 30) rfl))) (by decide) (t := (.array .byte)) (t' := .int) (by decide) (by decide))), F3.other W (Or.inr (slot_ne (Or.inl (hw _ (List.mem_of_getElem? (i := 20) rfl))) (Or.inl (hw _ (List.mem_of_getElem? (i := 30) rfl))) (by decide) (t := .int) (t' := .int) (by decide) (by decide))), F4.same W, F5.other W (Or.inr (slot_ne (Or.inl (hw _ (List.mem_of_getElem? (i := 32) rfl))) (Or.inl (hw _ (List.mem_of_getElem? (i := 30) rfl))) (by decide) (t := .long) (t' := .int) (by decide) (by decide)))⟩
theorem own_set_taken {Z : State} {a0 : Array Value} (hw : ∀ d ∈ tables_1, d.before a0 Z = true) {h h' : Heap} {a : Addr} {v1 v2 v3 v4 v5 v : Value} (M : own_MB Z h a v1 v2 v3 v4 v5) (W : Wr h h' a (Jvm.RoadKit.slotOf Z "com/example/shrewd_spider/shrewdspider/net/MessageBytes" "taken" "J") v) : own_MB Z h' a v1 v2 v3 v4 v := by
  obtain ⟨E, F1, F2, F3, F4, F5⟩ := M
  exact ⟨E.wr W, F1.other W (Or.inr (slot_ne (Or.inr (hw _ (List.mem_of_getElem? (i := 16) rfl))) (Or.inl (hw _ (List.mem_of_getElem? (i := 32) rfl))) (by decide) (t := (.object "java/io/InputStream")) (t' := .long) (by decide) (by decide))), F2.other W (Or.inr (slot_ne (Or.inr (hw _ (List.mem_of_getElem? (i := 18) rfl))) (Or.inl (hw _ (List.mem_of_getElem? (i := 32) rfl))) (by decide) (t := (.array .byte)) (t' := .long) (by decide) (by decide))), F3.other W (Or.inr (slot_ne (Or.inl (hw _ (List.mem_of_getElem? (i := 20) rfl))) (Or.inl (hw _ (List.mem_of_getElem? (i := 32) rfl))) (by decide) (t := .int) (t' := .long) (by decide) (by decide))), F4.other W (Or.inr (slot_ne (Or.inl (hw _ (List.mem_of_getElem? (i := 30) rfl))) (Or.inl (hw _ (List.mem_of_getElem? (i := 32) rfl))) (by decide) (t := .int) (t' := .long) (by decide) (by decide))), F5.same W⟩
theorem own_MB.keep {Z : State} {h h' : Heap} {a : Addr} {v1 v2 v3 v4 v5 : Value} {ws : List Addr} (M : own_MB Z h a v1 v2 v3 v4 v5) (K : Keep h h' ws) (q : a ∉ ws) : own_MB Z h' a v1 v2 v3 v4 v5 := by
  obtain ⟨E, F1, F2, F3, F4, F5⟩ := M
  exact ⟨E.keep K, F1.keep K q, F2.keep K q, F3.keep K q, F4.keep K q, F5.keep K q⟩
theorem own_MB.ext {Z : State} {h h' : Heap} {a : Addr} {v1 v2 v3 v4 v5 : Value} (M : own_MB Z h a v1 v2 v3 v4 v5) (K : Ext h h') : own_MB Z h' a v1 v2 v3 v4 v5 := by
  obtain ⟨E, F1, F2, F3, F4, F5⟩ := M
  exact ⟨E.ext K, F1.ext K, F2.ext K, F3.ext K, F4.ext K, F5.ext K⟩
theorem own_MB.lt {Z : State} {h : Heap} {a : Addr} {v1 v2 v3 v4 v5 : Value} (M : own_MB Z h a v1 v2 v3 v4 v5) : a < h.size := M.1.lt
theorem pn_0 : plainName "com/example/shrewd_spider/shrewdspider/net/MessageBytesPassOverLineEndsPinLaw" = true := by first | (simp [plainName, overriddenIn]; done) | decide +kernel
theorem ef_1 (m : MethodId) (x0 : Int32) : entryFrame m #[(.int x0)] 2 = mkF m 0 #[.val (.int x0), .unset] [] := by first | (simp [entryFrame, mkF, argsToLocals, Value.category]; done) | rfl
def Q_rm1 (Z : State) (p0 : Int32) (h0 : Heap) (n0 : Nat) (v : Option Value) (h : Heap) (L : List Loc) : Prop := v = some (.int (own_pk p0)) ∧ Fr n0 L ∧ h = h0
theorem d1_0 : decode method_2_code 0 = .ok (.iload_n 0, 1) := by decide +kernel
theorem d1_1 : decode method_2_code 1 = .ok (.iconst 3, 1) := by decide +kernel
theorem d1_2 : decode method_2_code 2 = .ok (.iand, 1) := by decide +kernel
theorem d1_3 : decode method_2_code 3 = .ok (.istore_n 1, 1) := by decide +kernel
theorem d1_4 : decode method_2_code 4 = .ok (.iload_n 1, 1) := by decide +kernel
theorem d1_5 : decode method_2_code 5 = .ok (.ifCond .ne 6, 3) := by decide +kernel
theorem d1_8 : decode method_2_code 8 = .ok (.bipush 13, 2) := by decide +kernel
theorem d1_10 : decode method_2_code 10 = .ok (.ireturn, 1) := by decide +kernel
theorem d1_11 : decode method_2_code 11 = .ok (.iload_n 1, 1) := by decide +kernel
theorem d1_12 : decode method_2_code 12 = .ok (.iconst 1, 1) := by decide +kernel
theorem d1_13 : decode method_2_code 13 = .ok (.if_icmp .ne 6, 3) := by decide +kernel
theorem d1_16 : decode method_2_code 16 = .ok (.bipush 10, 2) := by decide +kernel
theorem d1_18 : decode method_2_code 18 = .ok (.ireturn, 1) := by decide +kernel
theorem d1_19 : decode method_2_code 19 = .ok (.iload_n 0, 1) := by decide +kernel
theorem d1_20 : decode method_2_code 20 = .ok (.iconst 2, 1) := by decide +kernel
theorem d1_21 : decode method_2_code 21 = .ok (.ishr, 1) := by decide +kernel
theorem d1_22 : decode method_2_code 22 = .ok (.i2b, 1) := by decide +kernel
theorem d1_23 : decode method_2_code 23 = .ok (.ireturn, 1) := by decide +kernel
set_option maxRecDepth 65536 in
set_option maxHeartbeats 40000000 in
theorem rm1 (l : Launch) (Z : State) (a0 : Array Value) (hw : ∀ d ∈ tables_1, d.before a0 Z = true) (ws : List Jvm.Cond) (p0 : Int32) (h0 : Heap) (n0 : Nat)  :
    MetFree l (⟨"com/example/shrewd_spider/shrewdspider/net/MessageBytesPassOverLineEndsPinLaw", "pick", "(I)B"⟩ : MethodName) (head1 (Jvm.Cond.code (⟨"com/example/shrewd_spider/shrewdspider/net/MessageBytesPassOverLineEndsPinLaw", "pick", "(I)B"⟩ : MethodName) method_2_code 2 (some .byte) :: ws) ({ frames := 0, cells := 0, slots := 0, locals := 0 } : Room)) (fun a U => a = #[(.int p0)] ∧ Z.Warmed39 U.vm ∧ U.heap = h0) (fun _ _ _ _ _ => True) (fun _ U o U' => ∃ v L, o = .returned v ∧ Q_rm1 Z p0 h0 n0 v U'.heap L ∧ FrameEnd U o U' L ({ frames := 0, cells := 0, slots := 0, locals := 0 } : Room).cells ({ frames := 0, cells := 0, slots := 0, locals := 0 } : Room).slots) := by
  refine MetFree.of_bodySF (plainFor_of_name pn_0) hisR ?_
  intro p e s m args below meth c s₁ Bd hml0 hP hK
  obtain ⟨rfl, hZ, hh⟩ := hP
  have hx := Bd.exec
  have hby := Bd.bytes
  have hml : c.maxLocals = 2 := hml0
  have hown : s.vm.findClass "com/example/shrewd_spider/shrewdspider/net/MessageBytesPassOverLineEndsPinLaw" = some m.cls := findClass_of_methodNamed Bd.named
  have hnm := (name_of_methodNamed Bd.named Bd.method).1
  have X0 : Stand p l e ({ frames := 0, cells := 0, slots := 0, locals := 0 } : Room) s m #[(.int p0)] below meth c s₁ [] 0 0 := Stand.of_body Bd
  have e0 : s₁.heap = h0 := by rw [← hh, Bd.state]; rfl
  have N0 := Fr.nil n0
  refine Onw.of (Onw.go (fun own_u k => castTop (ef_1 m p0) k) ?_)
  show Onw p e below _ (s₁.setTop (mkF m 0 #[.val (.int p0), .unset] []))
  refine Onw.go (fun own_u kt => XS.iloadN X0.here hx rfl (hb hby d1_0) rfl kt) ?_
  show Onw p e below _ (s₁.setTop (mkF m 1 #[.val (.int p0), .unset] [(.int p0)]))
  refine Onw.go (fun own_u kt => XS.iconst X0.here hx rfl (hb hby d1_1) kt) ?_
  show Onw p e below _ (s₁.setTop (mkF m 2 #[.val (.int p0), .unset] [(.int (3 : Int32)), (.int p0)]))
  refine Onw.go (fun own_u kt => XS.iand X0.here hx rfl (hb hby d1_2) rfl kt) ?_
  show Onw p e below _ (s₁.setTop (mkF m 3 #[.val (.int p0), .unset] [(.int (p0 &&& (3 : Int32)))]))
  obtain ⟨k, hk⟩ : ∃ own_z, own_z = (p0 &&& (3 : Int32)) := ⟨_, rfl⟩
  rw [← hk]
  show Onw p e below _ (s₁.setTop (mkF m 3 #[.val (.int p0), .unset] [(.int k)]))
  refine Onw.go (fun own_u kt => XS.istoreN X0.here hx rfl (hb hby d1_3) rfl (l' := #[.val (.int p0), .val (.int k)]) rfl kt) ?_
  show Onw p e below _ (s₁.setTop (mkF m 4 #[.val (.int p0), .val (.int k)] []))
  refine Onw.go (fun own_u kt => XS.iloadN X0.here hx rfl (hb hby d1_4) rfl kt) ?_
  show Onw p e below _ (s₁.setTop (mkF m 5 #[.val (.int p0), .val (.int k)] [(.int k)]))
  by_cases h0 : k = (0 : Int32)
  · refine Onw.go (fun own_u kt => XS.ifNo X0.here hx rfl (hb hby d1_5) rfl ((if0 _ _).trans (teq (h0 : k = (0 : Int32))).2) kt) ?_
    show Onw p e below _ (s₁.setTop (mkF m 8 #[.val (.int p0), .val (.int k)] []))
    refine Onw.go (fun own_u kt => XS.bipush X0.here hx rfl (hb hby d1_8) kt) ?_
    show Onw p e below _ (s₁.setTop (mkF m 10 #[.val (.int p0), .val (.int k)] [(.int (13 : Int32))]))
    exact Onw.ret X0 Bd.notSynchronized (fun h => by rw [Bd.returns] at h; cases h) (fun fs hr => retN X0 hx (t := .byte) Bd.returns (by simp) (hb hby d1_10) hr) ⟨(by show some (Value.int (nar .byte 13)) = some (Value.int (own_pk _)); unfold own_pk; rw [← hk, if_pos h0]; rfl), N0, e0⟩ (by decide) (by decide)
  · refine Onw.go (fun own_u kt => XS.ifYes X0.here hx rfl (pc0 := 5) (pc' := 11) rfl (hb hby d1_5) rfl ((if0 _ _).trans (feq (h0 : ¬ (k = (0 : Int32)))).2) (by decide) (by decide) kt) ?_
    show Onw p e below _ (s₁.setTop (mkF m 11 #[.val (.int p0), .val (.int k)] []))
    refine Onw.go (fun own_u kt => XS.iloadN X0.here hx rfl (hb hby d1_11) rfl kt) ?_
    show Onw p e below _ (s₁.setTop (mkF m 12 #[.val (.int p0), .val (.int k)] [(.int k)]))
    refine Onw.go (fun own_u kt => XS.iconst X0.here hx rfl (hb hby d1_12) kt) ?_
    show Onw p e below _ (s₁.setTop (mkF m 13 #[.val (.int p0), .val (.int k)] [(.int (1 : Int32)), (.int k)]))
    by_cases h1 : k = (1 : Int32)
    · refine Onw.go (fun own_u kt => XS.icmpNo X0.here hx rfl (hb hby d1_13) rfl (teq (h1 : k = (1 : Int32))).2 kt) ?_
      show Onw p e below _ (s₁.setTop (mkF m 16 #[.val (.int p0), .val (.int k)] []))
      refine Onw.go (fun own_u kt => XS.bipush X0.here hx rfl (hb hby d1_16) kt) ?_
      show Onw p e below _ (s₁.setTop (mkF m 18 #[.val (.int p0), .val (.int k)] [(.int (10 : Int32))]))
      exact Onw.ret X0 Bd.notSynchronized (fun h => by rw [Bd.returns] at h; cases h) (fun fs hr => retN X0 hx (t := .byte) Bd.returns (by simp) (hb hby d1_18) hr) ⟨(by show some (Value.int (nar .byte 10)) = some (Value.int (own_pk _)); unfold own_pk; rw [← hk, if_neg h0, if_pos h1]; rfl), N0, e0⟩ (by decide) (by decide)
    · refine Onw.go (fun own_u kt => XS.icmpYes X0.here hx rfl (pc0 := 13) (pc' := 19) rfl (hb hby d1_13) rfl (feq (h1 : ¬ (k = (1 : Int32)))).2 (by decide) (by decide) kt) ?_
      show Onw p e below _ (s₁.setTop (mkF m 19 #[.val (.int p0), .val (.int k)] []))
      refine Onw.go (fun own_u kt => XS.iloadN X0.here hx rfl (hb hby d1_19) rfl kt) ?_
      show Onw p e below _ (s₁.setTop (mkF m 20 #[.val (.int p0), .val (.int k)] [(.int p0)]))
      refine Onw.go (fun own_u kt => XS.iconst X0.here hx rfl (hb hby d1_20) kt) ?_
      show Onw p e below _ (s₁.setTop (mkF m 21 #[.val (.int p0), .val (.int k)] [(.int (2 : Int32)), (.int p0)]))
      refine Onw.go (fun own_u kt => XS.ishr X0.here hx rfl (hb hby d1_21) rfl kt) ?_
      show Onw p e below _ (s₁.setTop (mkF m 22 #[.val (.int p0), .val (.int k)] [(.int (p0 >>> ((2 : Int32) &&& 31)))]))
      refine Onw.go (fun own_u kt => XS.i2b X0.here hx rfl (hb hby d1_22) rfl kt) ?_
      show Onw p e below _ (s₁.setTop (mkF m 23 #[.val (.int p0), .val (.int k)] [(.int ((p0 >>> ((2 : Int32) &&& 31)).toInt8.toInt32))]))
      exact Onw.ret X0 Bd.notSynchronized (fun h => by rw [Bd.returns] at h; cases h) (fun fs hr => retN X0 hx (t := .byte) Bd.returns (by simp) (hb hby d1_23) hr) ⟨(by show some (Value.int (nar .byte _)) = some (Value.int (own_pk _)); unfold own_pk; rw [← hk, if_neg h0, if_neg h1]), N0, e0⟩ (by decide) (by decide)
theorem pn_1 : plainName "com/example/shrewd_spider/shrewdspider/net/MessageBytes" = true := by first | (simp [plainName, overriddenIn]; done) | decide +kernel
theorem ef_2 (m : MethodId) (x0 : Addr) (x1 : Addr) : entryFrame m #[(.ref x0), (.ref x1)] 2 = mkF m 0 #[.val (.ref x0), .val (.ref x1)] [] := by first | (simp [entryFrame, mkF, argsToLocals, Value.category]; done) | rfl
def Q_rm2 (Z : State) (r0 : Addr) (r1 : Addr) (kb : ClassId) (vs : List Value) (h0 : Heap) (n0 : Nat) (v : Option Value) (h : Heap) (L : List Loc) : Prop := v = none ∧ Fr n0 L ∧ Keep h0 h [r0] ∧ own_MB Z h r0 .null (.ref r1) (.int (4 : Int32)) (.int (0 : Int32)) (.long (0 : Int64))
theorem d2_0 : decode prog_8_method_2_code 0 = .ok (.aload_n 0, 1) := by decide +kernel
theorem d2_1 : decode prog_8_method_2_code 1 = .ok (.invokespecial 1, 3) := by decide +kernel
theorem d2_4 : decode prog_8_method_2_code 4 = .ok (.aload_n 0, 1) := by decide +kernel
theorem d2_5 : decode prog_8_method_2_code 5 = .ok (.aconst_null, 1) := by decide +kernel
theorem d2_6 : decode prog_8_method_2_code 6 = .ok (.putfield 7, 3) := by decide +kernel
theorem d2_9 : decode prog_8_method_2_code 9 = .ok (.aload_n 0, 1) := by decide +kernel
theorem d2_10 : decode prog_8_method_2_code 10 = .ok (.aload_n 1, 1) := by decide +kernel
theorem d2_11 : decode prog_8_method_2_code 11 = .ok (.putfield 14, 3) := by decide +kernel
theorem d2_14 : decode prog_8_method_2_code 14 = .ok (.aload_n 0, 1) := by decide +kernel
theorem d2_15 : decode prog_8_method_2_code 15 = .ok (.aload_n 1, 1) := by decide +kernel
theorem d2_16 : decode prog_8_method_2_code 16 = .ok (.arraylength, 1) := by decide +kernel
theorem d2_17 : decode prog_8_method_2_code 17 = .ok (.putfield 18, 3) := by decide +kernel
theorem d2_20 : decode prog_8_method_2_code 20 = .ok (.return_, 1) := by decide +kernel
set_option maxRecDepth 65536 in
set_option maxHeartbeats 40000000 in
theorem rm2 (l : Launch) (Z : State) (a0 : Array Value) (hw : ∀ d ∈ tables_1, d.before a0 Z = true) (ws : List Jvm.Cond) (r0 : Addr) (r1 : Addr) (kb : ClassId) (vs : List Value) (h0 : Heap) (n0 : Nat) (M0 : own_MB Z h0 r0 .null .null (.int (0 : Int32)) (.int (0 : Int32)) (.long (0 : Int64))) (V0 : Arv Z h0 r1 kb .byte (4 : Int32) vs (.int (0 : Int32))) (g_r0 : n0 ≤ r0) (hne : r1 ≠ r0) :
    MetFree l (⟨"com/example/shrewd_spider/shrewdspider/net/MessageBytes", "<init>", "([B)V"⟩ : MethodName) (head1 (Jvm.Cond.code (⟨"com/example/shrewd_spider/shrewdspider/net/MessageBytes", "<init>", "([B)V"⟩ : MethodName) prog_8_method_2_code 2 none :: ws) ({ frames := 1, cells := 0, slots := 0, locals := 12 } : Room)) (fun a U => a = #[(.ref r0), (.ref r1)] ∧ Z.Warmed39 U.vm ∧ U.heap = h0) (fun _ _ _ _ _ => True) (fun _ U o U' => ∃ v L, o = .returned v ∧ Q_rm2 Z r0 r1 kb vs h0 n0 v U'.heap L ∧ FrameEnd U o U' L ({ frames := 1, cells := 0, slots := 0, locals := 12 } : Room).cells ({ frames := 1, cells := 0, slots := 0, locals := 12 } : Room).slots) := by
  refine MetFree.of_bodySF (plainFor_of_name pn_1) hisR ?_
  intro p e s m args below meth c s₁ Bd hml0 hP hK
  obtain ⟨rfl, hZ, hh⟩ := hP
  have hx := Bd.exec
  have hby := Bd.bytes
  have hml : c.maxLocals = 2 := hml0
  have hown : s.vm.findClass "com/example/shrewd_spider/shrewdspider/net/MessageBytes" = some m.cls := findClass_of_methodNamed Bd.named
  have hnm := (name_of_methodNamed Bd.named Bd.method).1
  have X0 : Stand p l e ({ frames := 1, cells := 0, slots := 0, locals := 12 } : Room) s m #[(.ref r0), (.ref r1)] below meth c s₁ [] 0 0 := Stand.of_body Bd
  have e0 : s₁.heap = h0 := by rw [← hh, Bd.state]; rfl
  have N0 := Fr.nil n0
  refine Onw.of (Onw.go (fun own_u k => castTop (ef_2 m r0 r1) k) ?_)
  show Onw p e below _ (s₁.setTop (mkF m 0 #[.val (.ref r0), .val (.ref r1)] []))
  refine Onw.go (fun own_u kt => XS.aloadN X0.here hx rfl (hb hby d2_0) rfl rfl kt) ?_
  show Onw p e below _ (s₁.setTop (mkF m 1 #[.val (.ref r0), .val (.ref r1)] [(.ref r0)]))
  obtain ⟨T1, X1, e1, st1⟩ := initO X0 hx hZ hown (hw _ (List.mem_of_getElem? (i := 12) rfl)) (hw _ (List.mem_of_getElem? (i := 13) rfl)) (hw _ (List.mem_of_getElem? (i := 14) rfl)) e0 (g := (mkF m 1 #[.val (.ref r0), .val (.ref r1)] [(.ref r0)])) rfl (by rw [hml]; rfl) rfl (hb hby d2_1) (by decide) (W := 0) (by show 2 * 0 + _ ≤ _; exact Nat.le_of_eq rfl) (by decide)
  refine Onw.go st1 ?_
  show Onw p e below _ (T1.setTop (mkF m 4 #[.val (.ref r0), .val (.ref r1)] []))
  refine Onw.go (fun own_u kt => XS.aloadN X1.here hx rfl (hb hby d2_4) rfl rfl kt) ?_
  show Onw p e below _ (T1.setTop (mkF m 5 #[.val (.ref r0), .val (.ref r1)] [(.ref r0)]))
  refine Onw.go (fun own_u kt => XS.aconstNull X1.here hx rfl (hb hby d2_5) kt) ?_
  show Onw p e below _ (T1.setTop (mkF m 6 #[.val (.ref r0), .val (.ref r1)] [.null, (.ref r0)]))
  obtain ⟨T2, h2, X2, e2, W2, st2⟩ := putF X1 hx hZ hown (host := "") (Or.inl (hw _ (List.mem_of_getElem? (i := 15) rfl))) Via.refl e1 M0.2.1 M0.1 (Or.inr ⟨(hw _ (List.mem_of_getElem? (i := 16) rfl)), rfl, hnm⟩) (hw _ (List.mem_of_getElem? (i := 7) rfl)) (ty := (.object "java/io/InputStream")) (by decide) rfl rfl (g := (mkF m 6 #[.val (.ref r0), .val (.ref r1)] [.null, (.ref r0)])) rfl rfl (hb hby d2_6)
  have N2 := Fr.snoc X2 N0 g_r0
  refine Onw.go st2 ?_
  show Onw p e below _ (T2.setTop (mkF m 9 #[.val (.ref r0), .val (.ref r1)] []))
  have M1 := own_set_source hw M0 W2
  have K1 := (Keep.refl h0 [r0]).wr W2 (Or.inl (List.mem_of_getElem? (i := 0) rfl))
  have V1 := V0.other W2 hne
  refine Onw.go (fun own_u kt => XS.aloadN X2.here hx rfl (hb hby d2_9) rfl rfl kt) ?_
  show Onw p e below _ (T2.setTop (mkF m 10 #[.val (.ref r0), .val (.ref r1)] [(.ref r0)]))
  refine Onw.go (fun own_u kt => XS.aloadN X2.here hx rfl (hb hby d2_10) rfl rfl kt) ?_
  show Onw p e below _ (T2.setTop (mkF m 11 #[.val (.ref r0), .val (.ref r1)] [(.ref r1), (.ref r0)]))
  obtain ⟨T3, h3, X3, e3, W3, st3⟩ := putF X2 hx hZ hown (host := "") (Or.inl (hw _ (List.mem_of_getElem? (i := 17) rfl))) Via.refl e2 M1.2.2.1 M1.1 (Or.inr ⟨(hw _ (List.mem_of_getElem? (i := 18) rfl)), rfl, hnm⟩) (hw _ (List.mem_of_getElem? (i := 7) rfl)) (ty := (.array .byte)) (by decide) rfl rfl (g := (mkF m 11 #[.val (.ref r0), .val (.ref r1)] [(.ref r1), (.ref r0)])) rfl rfl (hb hby d2_11)
  have N3 := Fr.snoc X3 N2 g_r0
  refine Onw.go st3 ?_
  show Onw p e below _ (T3.setTop (mkF m 14 #[.val (.ref r0), .val (.ref r1)] []))
  have M2 := own_set_buffer hw M1 W3
  have K2 := K1.wr W3 (Or.inl (List.mem_of_getElem? (i := 0) rfl))
  have V2 := V1.other W3 hne
  refine Onw.go (fun own_u kt => XS.aloadN X3.here hx rfl (hb hby d2_14) rfl rfl kt) ?_
  show Onw p e below _ (T3.setTop (mkF m 15 #[.val (.ref r0), .val (.ref r1)] [(.ref r0)]))
  refine Onw.go (fun own_u kt => XS.aloadN X3.here hx rfl (hb hby d2_15) rfl rfl kt) ?_
  show Onw p e below _ (T3.setTop (mkF m 16 #[.val (.ref r0), .val (.ref r1)] [(.ref r1), (.ref r0)]))
  obtain ⟨cl, Ar, qa, Sa, Na, Ha, Ga⟩ := V2
  refine Onw.go (X3.arraylength hx (by rw [e3]; exact Ar.1) (State.isArrayOf_alike hZ.alike Ar.2.1) (g := (mkF m 16 #[.val (.ref r0), .val (.ref r1)] [(.ref r1), (.ref r0)])) rfl rfl (hb hby d2_16)) ?_
  rw [len_of Sa Na]
  show Onw p e below _ (T3.setTop (mkF m 17 #[.val (.ref r0), .val (.ref r1)] [(.int (4 : Int32)), (.ref r0)]))
  obtain ⟨T4, h4, X4, e4, W4, st4⟩ := putF X3 hx hZ hown (host := "") (Or.inl (hw _ (List.mem_of_getElem? (i := 19) rfl))) Via.refl e3 M2.2.2.2.1 M2.1 (Or.inl (hw _ (List.mem_of_getElem? (i := 20) rfl))) (hw _ (List.mem_of_getElem? (i := 7) rfl)) (ty := .int) (by decide) rfl rfl (g := (mkF m 17 #[.val (.ref r0), .val (.ref r1)] [(.int (4 : Int32)), (.ref r0)])) rfl rfl (hb hby d2_17)
  have N4 := Fr.snoc X4 N3 g_r0
  refine Onw.go st4 ?_
  show Onw p e below _ (T4.setTop (mkF m 20 #[.val (.ref r0), .val (.ref r1)] []))
  have M3 := own_set_limit hw M2 W4
  have K3 := K2.wr W4 (Or.inl (List.mem_of_getElem? (i := 0) rfl))
  exact Onw.ret X4 Bd.notSynchronized (fun _ => rfl) (fun fs hr => X4.returnOut hx Bd.returns (hb hby d2_20) hr) ⟨rfl, N4, by rw [e4]; exact K3, by rw [e4]; exact M3⟩ (by decide) (by decide)
theorem ef_4 (m : MethodId) (x0 : Addr) (x1 : Int32) : entryFrame m #[(.ref x0), (.int x1)] 2 = mkF m 0 #[.val (.ref x0), .val (.int x1)] [] := by first | (simp [entryFrame, mkF, argsToLocals, Value.category]; done) | rfl
def Q_rm4 (Z : State) (b : Addr) (p1 : Int32) (kb : ClassId) (m0 m1 m2 m3 : Int32) (h0 : Heap) (n0 : Nat) (v : Option Value) (h : Heap) (L : List Loc) : Prop := v = some (.int (own_ie (own_el m0 m1 m2 m3) p1)) ∧ Fr n0 L ∧ h = h0
theorem d4_0 : decode method_3_code 0 = .ok (.iload_n 1, 1) := by decide +kernel
theorem d4_1 : decode method_3_code 1 = .ok (.iconst 4, 1) := by decide +kernel
theorem d4_2 : decode method_3_code 2 = .ok (.if_icmp .lt 5, 3) := by decide +kernel
theorem d4_5 : decode method_3_code 5 = .ok (.iconst 0, 1) := by decide +kernel
theorem d4_6 : decode method_3_code 6 = .ok (.ireturn, 1) := by decide +kernel
theorem d4_7 : decode method_3_code 7 = .ok (.aload_n 0, 1) := by decide +kernel
theorem d4_8 : decode method_3_code 8 = .ok (.iload_n 1, 1) := by decide +kernel
theorem d4_9 : decode method_3_code 9 = .ok (.baload, 1) := by decide +kernel
theorem d4_10 : decode method_3_code 10 = .ok (.bipush 13, 2) := by decide +kernel
theorem d4_12 : decode method_3_code 12 = .ok (.if_icmp .eq 11, 3) := by decide +kernel
theorem d4_15 : decode method_3_code 15 = .ok (.aload_n 0, 1) := by decide +kernel
theorem d4_16 : decode method_3_code 16 = .ok (.iload_n 1, 1) := by decide +kernel
theorem d4_17 : decode method_3_code 17 = .ok (.baload, 1) := by decide +kernel
theorem d4_18 : decode method_3_code 18 = .ok (.bipush 10, 2) := by decide +kernel
theorem d4_20 : decode method_3_code 20 = .ok (.if_icmp .ne 7, 3) := by decide +kernel
theorem d4_23 : decode method_3_code 23 = .ok (.iconst 1, 1) := by decide +kernel
theorem d4_24 : decode method_3_code 24 = .ok (.goto 4, 3) := by decide +kernel
theorem d4_27 : decode method_3_code 27 = .ok (.iconst 0, 1) := by decide +kernel
theorem d4_28 : decode method_3_code 28 = .ok (.ireturn, 1) := by decide +kernel
set_option maxRecDepth 65536 in
set_option maxHeartbeats 40000000 in
theorem rm4 (l : Launch) (Z : State) (a0 : Array Value) (hw : ∀ d ∈ tables_1, d.before a0 Z = true) (ws : List Jvm.Cond) (b : Addr) (p1 : Int32) (kb : ClassId) (m0 m1 m2 m3 : Int32) (h0 : Heap) (n0 : Nat) (V0 : Arv Z h0 b kb .byte (4 : Int32) [.int m0, .int m1, .int m2, .int m3] (.int (0 : Int32))) (hi : 0 ≤ p1.toInt) :
    MetFree l (⟨"com/example/shrewd_spider/shrewdspider/net/MessageBytesPassOverLineEndsPinLaw", "isEnd", "([BI)Z"⟩ : MethodName) (head1 (Jvm.Cond.code (⟨"com/example/shrewd_spider/shrewdspider/net/MessageBytesPassOverLineEndsPinLaw", "isEnd", "([BI)Z"⟩ : MethodName) method_3_code 2 (some .boolean) :: ws) ({ frames := 0, cells := 0, slots := 0, locals := 0 } : Room)) (fun a U => a = #[(.ref b), (.int p1)] ∧ Z.Warmed39 U.vm ∧ U.heap = h0) (fun _ _ _ _ _ => True) (fun _ U o U' => ∃ v L, o = .returned v ∧ Q_rm4 Z b p1 kb m0 m1 m2 m3 h0 n0 v U'.heap L ∧ FrameEnd U o U' L ({ frames := 0, cells := 0, slots := 0, locals := 0 } : Room).cells ({ frames := 0, cells := 0, slots := 0, locals := 0 } : Room).slots) := by
  refine MetFree.of_bodySF (plainFor_of_name pn_0) hisR ?_
  intro p e s m args below meth c s₁ Bd hml0 hP hK
  obtain ⟨rfl, hZ, hh⟩ := hP
  have hx := Bd.exec
  have hby := Bd.bytes
  have hml : c.maxLocals = 2 := hml0
  have hown : s.vm.findClass "com/example/shrewd_spider/shrewdspider/net/MessageBytesPassOverLineEndsPinLaw" = some m.cls := findClass_of_methodNamed Bd.named
  have hnm := (name_of_methodNamed Bd.named Bd.method).1
  have X0 : Stand p l e ({ frames := 0, cells := 0, slots := 0, locals := 0 } : Room) s m #[(.ref b), (.int p1)] below meth c s₁ [] 0 0 := Stand.of_body Bd
  have e0 : s₁.heap = h0 := by rw [← hh, Bd.state]; rfl
  have N0 := Fr.nil n0
  refine Onw.of (Onw.go (fun own_u k => castTop (ef_4 m b p1) k) ?_)
  show Onw p e below _ (s₁.setTop (mkF m 0 #[.val (.ref b), .val (.int p1)] []))
  refine Onw.go (fun own_u kt => XS.iloadN X0.here hx rfl (hb hby d4_0) rfl kt) ?_
  show Onw p e below _ (s₁.setTop (mkF m 1 #[.val (.ref b), .val (.int p1)] [(.int p1)]))
  refine Onw.go (fun own_u kt => XS.iconst X0.here hx rfl (hb hby d4_1) kt) ?_
  show Onw p e below _ (s₁.setTop (mkF m 2 #[.val (.ref b), .val (.int p1)] [(.int (4 : Int32)), (.int p1)]))
  by_cases h1 : p1 < (4 : Int32)
  · refine Onw.go (fun own_u kt => XS.icmpYes X0.here hx rfl (pc0 := 2) (pc' := 7) rfl (hb hby d4_2) rfl (tlt (h1 : p1 < (4 : Int32))).1 (by decide) (by decide) kt) ?_
    show Onw p e below _ (s₁.setTop (mkF m 7 #[.val (.ref b), .val (.int p1)] []))
    obtain ⟨cl, Ar, qa, Sa, Na, Ha, Ga⟩ := V0
    obtain ⟨hin, hat⟩ := own_elt Sa Ha p1 hi (own_four h1)
    refine Onw.go (fun own_u kt => XS.aloadN X0.here hx rfl (hb hby d4_7) rfl rfl kt) ?_
    show Onw p e below _ (s₁.setTop (mkF m 8 #[.val (.ref b), .val (.int p1)] [(.ref b)]))
    refine Onw.go (fun own_u kt => XS.iloadN X0.here hx rfl (hb hby d4_8) rfl kt) ?_
    show Onw p e below _ (s₁.setTop (mkF m 9 #[.val (.ref b), .val (.int p1)] [(.int p1), (.ref b)]))
    refine Onw.go (X0.baloadBytes hx (j := p1) (v := (.int (own_el m0 m1 m2 m3 p1))) (by rw [e0]; exact Ar.1) (State.isArrayOf_alike hZ.alike Ar.2.1) Ar.2.2 hin hat (g := (mkF m 9 #[.val (.ref b), .val (.int p1)] [(.int p1), (.ref b)])) rfl rfl (hb hby d4_9)) ?_
    show Onw p e below _ (s₁.setTop (mkF m 10 #[.val (.ref b), .val (.int p1)] [(.int (own_el m0 m1 m2 m3 p1))]))
    refine Onw.go (fun own_u kt => XS.bipush X0.here hx rfl (hb hby d4_10) kt) ?_
    show Onw p e below _ (s₁.setTop (mkF m 12 #[.val (.ref b), .val (.int p1)] [(.int (13 : Int32)), (.int (own_el m0 m1 m2 m3 p1))]))
    by_cases h2 : (own_el m0 m1 m2 m3 p1) = (13 : Int32)
    · refine Onw.go (fun own_u kt => XS.icmpYes X0.here hx rfl (pc0 := 12) (pc' := 23) rfl (hb hby d4_12) rfl (teq (h2 : (own_el m0 m1 m2 m3 p1) = (13 : Int32))).1 (by decide) (by decide) kt) ?_
      show Onw p e below _ (s₁.setTop (mkF m 23 #[.val (.ref b), .val (.int p1)] []))
      refine Onw.go (fun own_u kt => XS.iconst X0.here hx rfl (hb hby d4_23) kt) ?_
      show Onw p e below _ (s₁.setTop (mkF m 24 #[.val (.ref b), .val (.int p1)] [(.int (1 : Int32))]))
      refine Onw.go (fun own_u kt => XS.goto X0.here hx rfl (pc0 := 24) (pc' := 28) rfl (hb hby d4_24) (by decide) (by decide) kt) ?_
      show Onw p e below _ (s₁.setTop (mkF m 28 #[.val (.ref b), .val (.int p1)] [(.int (1 : Int32))]))
      exact Onw.ret X0 Bd.notSynchronized (fun h => by rw [Bd.returns] at h; cases h) (fun fs hr => retN X0 hx (t := .boolean) Bd.returns (by simp) (hb hby d4_28) hr) ⟨(by show some (Value.int (nar .boolean 1)) = _; unfold own_ie; rw [if_pos h1, if_pos h2]; rfl), N0, e0⟩ (by decide) (by decide)
    · refine Onw.go (fun own_u kt => XS.icmpNo X0.here hx rfl (hb hby d4_12) rfl (feq (h2 : ¬ ((own_el m0 m1 m2 m3 p1) = (13 : Int32)))).1 kt) ?_
      show Onw p e below _ (s₁.setTop (mkF m 15 #[.val (.ref b), .val (.int p1)] []))
      refine Onw.go (fun own_u kt => XS.aloadN X0.here hx rfl (hb hby d4_15) rfl rfl kt) ?_
      show Onw p e below _ (s₁.setTop (mkF m 16 #[.val (.ref b), .val (.int p1)] [(.ref b)]))
      refine Onw.go (fun own_u kt => XS.iloadN X0.here hx rfl (hb hby d4_16) rfl kt) ?_
      show Onw p e below _ (s₁.setTop (mkF m 17 #[.val (.ref b), .val (.int p1)] [(.int p1), (.ref b)]))
      refine Onw.go (X0.baloadBytes hx (j := p1) (v := (.int (own_el m0 m1 m2 m3 p1))) (by rw [e0]; exact Ar.1) (State.isArrayOf_alike hZ.alike Ar.2.1) Ar.2.2 hin hat (g := (mkF m 17 #[.val (.ref b), .val (.int p1)] [(.int p1), (.ref b)])) rfl rfl (hb hby d4_17)) ?_
      show Onw p e below _ (s₁.setTop (mkF m 18 #[.val (.ref b), .val (.int p1)] [(.int (own_el m0 m1 m2 m3 p1))]))
      refine Onw.go (fun own_u kt => XS.bipush X0.here hx rfl (hb hby d4_18) kt) ?_
      show Onw p e below _ (s₁.setTop (mkF m 20 #[.val (.ref b), .val (.int p1)] [(.int (10 : Int32)), (.int (own_el m0 m1 m2 m3 p1))]))
      by_cases h3 : (own_el m0 m1 m2 m3 p1) = (10 : Int32)
      · refine Onw.go (fun own_u kt => XS.icmpNo X0.here hx rfl (hb hby d4_20) rfl (teq (h3 : (own_el m0 m1 m2 m3 p1) = (10 : Int32))).2 kt) ?_
        show Onw p e below _ (s₁.setTop (mkF m 23 #[.val (.ref b), .val (.int p1)] []))
        refine Onw.go (fun own_u kt => XS.iconst X0.here hx rfl (hb hby d4_23) kt) ?_
        show Onw p e below _ (s₁.setTop (mkF m 24 #[.val (.ref b), .val (.int p1)] [(.int (1 : Int32))]))
        refine Onw.go (fun own_u kt => XS.goto X0.here hx rfl (pc0 := 24) (pc' := 28) rfl (hb hby d4_24) (by decide) (by decide) kt) ?_
        show Onw p e below _ (s₁.setTop (mkF m 28 #[.val (.ref b), .val (.int p1)] [(.int (1 : Int32))]))
        exact Onw.ret X0 Bd.notSynchronized (fun h => by rw [Bd.returns] at h; cases h) (fun fs hr => retN X0 hx (t := .boolean) Bd.returns (by simp) (hb hby d4_28) hr) ⟨(by show some (Value.int (nar .boolean 1)) = _; unfold own_ie; rw [if_pos h1, if_neg h2, if_pos h3]; rfl), N0, e0⟩ (by decide) (by decide)
      · refine Onw.go (fun own_u kt => XS.icmpYes X0.here hx rfl (pc0 := 20) (pc' := 27) rfl (hb hby d4_20) rfl (feq (h3 : ¬ ((own_el m0 m1 m2 m3 p1) = (10 : Int32)))).2 (by decide) (by decide) kt) ?_
        show Onw p e below _ (s₁.setTop (mkF m 27 #[.val (.ref b), .val (.int p1)] []))
        refine Onw.go (fun own_u kt => XS.iconst X0.here hx rfl (hb hby d4_27) kt) ?_
        show Onw p e below _ (s₁.setTop (mkF m 28 #[.val (.ref b), .val (.int p1)] [(.int (0 : Int32))]))
        exact Onw.ret X0 Bd.notSynchronized (fun h => by rw [Bd.returns] at h; cases h) (fun fs hr => retN X0 hx (t := .boolean) Bd.returns (by simp) (hb hby d4_28) hr) ⟨(by show some (Value.int (nar .boolean 0)) = _; unfold own_ie; rw [if_pos h1, if_neg h2, if_neg h3]; rfl), N0, e0⟩ (by decide) (by decide)
  · refine Onw.go (fun own_u kt => XS.icmpNo X0.here hx rfl (hb hby d4_2) rfl (flt (h1 : ¬ (p1 < (4 : Int32)))).1 kt) ?_
    show Onw p e below _ (s₁.setTop (mkF m 5 #[.val (.ref b), .val (.int p1)] []))
    refine Onw.go (fun own_u kt => XS.iconst X0.here hx rfl (hb hby d4_5) kt) ?_
    show Onw p e below _ (s₁.setTop (mkF m 6 #[.val (.ref b), .val (.int p1)] [(.int (0 : Int32))]))
    exact Onw.ret X0 Bd.notSynchronized (fun h => by rw [Bd.returns] at h; cases h) (fun fs hr => retN X0 hx (t := .boolean) Bd.returns (by simp) (hb hby d4_6) hr) ⟨(by show some (Value.int (nar .boolean 0)) = _; unfold own_ie; rw [if_neg h1]; rfl), N0, e0⟩ (by decide) (by decide)
theorem d5_5 : decode prog_8_method_7_code 5 = .ok (.aload_n 0, 1) := by decide +kernel
theorem d5_6 : decode prog_8_method_7_code 6 = .ok (.getfield 43, 3) := by decide +kernel
theorem d5_9 : decode prog_8_method_7_code 9 = .ok (.aload_n 0, 1) := by decide +kernel
theorem d5_10 : decode prog_8_method_7_code 10 = .ok (.getfield 18, 3) := by decide +kernel
theorem d5_13 : decode prog_8_method_7_code 13 = .ok (.if_icmp .ge 44, 3) := by decide +kernel
theorem d5_16 : decode prog_8_method_7_code 16 = .ok (.aload_n 0, 1) := by decide +kernel
theorem d5_17 : decode prog_8_method_7_code 17 = .ok (.getfield 14, 3) := by decide +kernel
theorem d5_20 : decode prog_8_method_7_code 20 = .ok (.aload_n 0, 1) := by decide +kernel
theorem d5_21 : decode prog_8_method_7_code 21 = .ok (.getfield 43, 3) := by decide +kernel
theorem d5_24 : decode prog_8_method_7_code 24 = .ok (.baload, 1) := by decide +kernel
theorem d5_25 : decode prog_8_method_7_code 25 = .ok (.bipush 13, 2) := by decide +kernel
theorem d5_27 : decode prog_8_method_7_code 27 = .ok (.if_icmp .eq 17, 3) := by decide +kernel
theorem d5_30 : decode prog_8_method_7_code 30 = .ok (.aload_n 0, 1) := by decide +kernel
theorem d5_31 : decode prog_8_method_7_code 31 = .ok (.getfield 14, 3) := by decide +kernel
theorem d5_34 : decode prog_8_method_7_code 34 = .ok (.aload_n 0, 1) := by decide +kernel
theorem d5_35 : decode prog_8_method_7_code 35 = .ok (.getfield 43, 3) := by decide +kernel
theorem d5_38 : decode prog_8_method_7_code 38 = .ok (.baload, 1) := by decide +kernel
theorem d5_39 : decode prog_8_method_7_code 39 = .ok (.bipush 10, 2) := by decide +kernel
theorem d5_41 : decode prog_8_method_7_code 41 = .ok (.if_icmp .ne 16, 3) := by decide +kernel
theorem d5_44 : decode prog_8_method_7_code 44 = .ok (.aload_n 0, 1) := by decide +kernel
theorem d5_45 : decode prog_8_method_7_code 45 = .ok (.dup, 1) := by decide +kernel
theorem d5_46 : decode prog_8_method_7_code 46 = .ok (.getfield 43, 3) := by decide +kernel
theorem d5_49 : decode prog_8_method_7_code 49 = .ok (.iconst 1, 1) := by decide +kernel
theorem d5_50 : decode prog_8_method_7_code 50 = .ok (.iadd, 1) := by decide +kernel
theorem d5_51 : decode prog_8_method_7_code 51 = .ok (.putfield 43, 3) := by decide +kernel
theorem d5_54 : decode prog_8_method_7_code 54 = .ok (.goto (-49), 3) := by decide +kernel
set_option maxRecDepth 65536 in
set_option maxHeartbeats 40000000 in
theorem po_turn {p : Program} {l : Launch} {e : Env} {R : Room} {s : State} {m : MethodId} {args : Array Value} {below : List Frame} {meth : Method} {c : Code} {Z : State} {a0 : Array Value} {W : Outcome → State → Prop} (hx : p.tables.exec = Jvm.exec) (hZ : Z.Warmed39 s.vm) (hw : ∀ d ∈ tables_1, d.before a0 Z = true) (hby : c.code = prog_8_method_7_code) (hml : c.maxLocals = 2) (hown : s.vm.findClass "com/example/shrewd_spider/shrewdspider/net/MessageBytes" = some m.cls) {h0 : Heap} {n0 : Nat}  (r0 : Addr) (p1 pos : Int32) (tk : Int64) (b : Addr) (kb : ClassId) (m0 m1 m2 m3 : Int32)
    {T0 : State} {locs0 : List Loc} {cells slots : Nat} (X0 : Stand p l e R s m args below meth c T0 locs0 cells slots) (e0 : T0.heap = h0) (N0 : Fr n0 locs0) (M0 : own_MB Z h0 r0 .null (.ref b) (.int (4 : Int32)) (.int pos) (.long tk)) (V0 : Arv Z h0 b kb .byte (4 : Int32) [.int m0, .int m1, .int m2, .int m3] (.int (0 : Int32))) (hne : b ≠ r0) (g_r0 : n0 ≤ r0) (hp : 0 ≤ pos.toInt) (h4 : pos < (4 : Int32)) (hend : own_el m0 m1 m2 m3 pos = 13 ∨ own_el m0 m1 m2 m3 pos = 10) (hK : ∀ (T' : State) (h' : Heap) (locs' : List Loc), Stand p l e R s m args below meth c T' locs' cells slots → T'.heap = h' → Fr n0 locs' → Keep h0 h' [r0] → own_MB Z h' r0 .null (.ref b) (.int (4 : Int32)) (.int (pos + (1 : Int32))) (.long tk) → Onw p e below W (T'.setTop (mkF m 5 #[.val (.ref r0), .val (.int p1)] []))) :
    Onw p e below W (T0.setTop (mkF m 5 #[.val (.ref r0), .val (.int p1)] [])) := by
  obtain ⟨cl, Ar, qa, Sa, Na, Ha, Ga⟩ := V0
  obtain ⟨hin, hat⟩ := own_elt Sa Ha pos hp (own_four h4)
  refine Onw.go (fun own_u kt => XS.aloadN X0.here hx rfl (hb hby d5_5) rfl rfl kt) ?_
  show Onw p e below _ (T0.setTop (mkF m 6 #[.val (.ref r0), .val (.int p1)] [(.ref r0)]))
  obtain ⟨T1, X1, e1, st1⟩ := getF X0 hx hZ hown (host := "") (Or.inl (hw _ (List.mem_of_getElem? (i := 29) rfl))) Via.refl e0 M0.2.2.2.2.1 (g := (mkF m 6 #[.val (.ref r0), .val (.int p1)] [(.ref r0)])) rfl rfl (hb hby d5_6)
  refine Onw.go st1 ?_
  show Onw p e below _ (T1.setTop (mkF m 9 #[.val (.ref r0), .val (.int p1)] [(.int pos)]))
  refine Onw.go (fun own_u kt => XS.aloadN X1.here hx rfl (hb hby d5_9) rfl rfl kt) ?_
  show Onw p e below _ (T1.setTop (mkF m 10 #[.val (.ref r0), .val (.int p1)] [(.ref r0), (.int pos)]))
  obtain ⟨T2, X2, e2, st2⟩ := getF X1 hx hZ hown (host := "") (Or.inl (hw _ (List.mem_of_getElem? (i := 19) rfl))) Via.refl e1 M0.2.2.2.1 (g := (mkF m 10 #[.val (.ref r0), .val (.int p1)] [(.ref r0), (.int pos)])) rfl rfl (hb hby d5_10)
  refine Onw.go st2 ?_
  show Onw p e below _ (T2.setTop (mkF m 13 #[.val (.ref r0), .val (.int p1)] [(.int (4 : Int32)), (.int pos)]))
  refine Onw.go (fun own_u kt => XS.icmpNo X2.here hx rfl (hb hby d5_13) rfl (tlt (h4 : pos < (4 : Int32))).2.1 kt) ?_
  show Onw p e below _ (T2.setTop (mkF m 16 #[.val (.ref r0), .val (.int p1)] []))
  refine Onw.go (fun own_u kt => XS.aloadN X2.here hx rfl (hb hby d5_16) rfl rfl kt) ?_
  show Onw p e below _ (T2.setTop (mkF m 17 #[.val (.ref r0), .val (.int p1)] [(.ref r0)]))
  obtain ⟨T3, X3, e3, st3⟩ := getF X2 hx hZ hown (host := "") (Or.inl (hw _ (List.mem_of_getElem? (i := 17) rfl))) Via.refl e2 M0.2.2.1 (g := (mkF m 17 #[.val (.ref r0), .val (.int p1)] [(.ref r0)])) rfl rfl (hb hby d5_17)
  refine Onw.go st3 ?_
  show Onw p e below _ (T3.setTop (mkF m 20 #[.val (.ref r0), .val (.int p1)] [(.ref b)]))
  refine Onw.go (fun own_u kt => XS.aloadN X3.here hx rfl (hb hby d5_20) rfl rfl kt) ?_
  show Onw p e below _ (T3.setTop (mkF m 21 #[.val (.ref r0), .val (.int p1)] [(.ref r0), (.ref b)]))
  obtain ⟨T4, X4, e4, st4⟩ := getF X3 hx hZ hown (host := "") (Or.inl (hw _ (List.mem_of_getElem? (i := 29) rfl))) Via.refl e3 M0.2.2.2.2.1 (g := (mkF m 21 #[.val (.ref r0), .val (.int p1)] [(.ref r0), (.ref b)])) rfl rfl (hb hby d5_21)
  refine Onw.go st4 ?_
  show Onw p e below _ (T4.setTop (mkF m 24 #[.val (.ref r0), .val (.int p1)] [(.int pos), (.ref b)]))
  refine Onw.go (X4.baloadBytes hx (j := pos) (v := (.int (own_el m0 m1 m2 m3 pos))) (by rw [e4]; exact Ar.1) (State.isArrayOf_alike hZ.alike Ar.2.1) Ar.2.2 hin hat (g := (mkF m 24 #[.val (.ref r0), .val (.int p1)] [(.int pos), (.ref b)])) rfl rfl (hb hby d5_24)) ?_
  show Onw p e below _ (T4.setTop (mkF m 25 #[.val (.ref r0), .val (.int p1)] [(.int (own_el m0 m1 m2 m3 pos))]))
  refine Onw.go (fun own_u kt => XS.bipush X4.here hx rfl (hb hby d5_25) kt) ?_
  show Onw p e below _ (T4.setTop (mkF m 27 #[.val (.ref r0), .val (.int p1)] [(.int (13 : Int32)), (.int (own_el m0 m1 m2 m3 pos))]))
  by_cases h1 : (own_el m0 m1 m2 m3 pos) = (13 : Int32)
  · refine Onw.go (fun own_u kt => XS.icmpYes X4.here hx rfl (pc0 := 27) (pc' := 44) rfl (hb hby d5_27) rfl (teq (h1 : (own_el m0 m1 m2 m3 pos) = (13 : Int32))).1 (by decide) (by decide) kt) ?_
    show Onw p e below _ (T4.setTop (mkF m 44 #[.val (.ref r0), .val (.int p1)] []))
    refine Onw.go (fun own_u kt => XS.aloadN X4.here hx rfl (hb hby d5_44) rfl rfl kt) ?_
    show Onw p e below _ (T4.setTop (mkF m 45 #[.val (.ref r0), .val (.int p1)] [(.ref r0)]))
    refine Onw.go (fun own_u kt => XS.dup X4.here hx rfl (hb hby d5_45) rfl rfl kt) ?_
    show Onw p e below _ (T4.setTop (mkF m 46 #[.val (.ref r0), .val (.int p1)] [(.ref r0), (.ref r0)]))
    obtain ⟨T5, X5, e5, st5⟩ := getF X4 hx hZ hown (host := "") (Or.inl (hw _ (List.mem_of_getElem? (i := 29) rfl))) Via.refl e4 M0.2.2.2.2.1 (g := (mkF m 46 #[.val (.ref r0), .val (.int p1)] [(.ref r0), (.ref r0)])) rfl rfl (hb hby d5_46)
    refine Onw.go st5 ?_
    show Onw p e below _ (T5.setTop (mkF m 49 #[.val (.ref r0), .val (.int p1)] [(.int pos), (.ref r0)]))
    refine Onw.go (fun own_u kt => XS.iconst X5.here hx rfl (hb hby d5_49) kt) ?_
    show Onw p e below _ (T5.setTop (mkF m 50 #[.val (.ref r0), .val (.int p1)] [(.int (1 : Int32)), (.int pos), (.ref r0)]))
    refine Onw.go (fun own_u kt => XS.iadd X5.here hx rfl (hb hby d5_50) rfl kt) ?_
    show Onw p e below _ (T5.setTop (mkF m 51 #[.val (.ref r0), .val (.int p1)] [(.int (pos + (1 : Int32))), (.ref r0)]))
    obtain ⟨T6, h6, X6, e6, W6, st6⟩ := putF X5 hx hZ hown (host := "") (Or.inl (hw _ (List.mem_of_getElem? (i := 29) rfl))) Via.refl e5 M0.2.2.2.2.1 M0.1 (Or.inl (hw _ (List.mem_of_getElem? (i := 30) rfl))) (hw _ (List.mem_of_getElem? (i := 7) rfl)) (ty := .int) (by decide) rfl rfl (g := (mkF m 51 #[.val (.ref r0), .val (.int p1)] [(.int (pos + (1 : Int32))), (.ref r0)])) rfl rfl (hb hby d5_51)
    have N6 := Fr.snoc X6 N0 g_r0
    refine Onw.go st6 ?_
    show Onw p e below _ (T6.setTop (mkF m 54 #[.val (.ref r0), .val (.int p1)] []))
    refine Onw.go (fun own_u kt => XS.goto X6.here hx rfl (pc0 := 54) (pc' := 5) rfl (hb hby d5_54) (by decide) (by decide) kt) ?_
    show Onw p e below _ (T6.setTop (mkF m 5 #[.val (.ref r0), .val (.int p1)] []))
    exact hK _ _ _ X6 e6 N6 (Keep.of_wr W6) (own_set_position hw M0 W6)
  · refine Onw.go (fun own_u kt => XS.icmpNo X4.here hx rfl (hb hby d5_27) rfl (feq (h1 : ¬ ((own_el m0 m1 m2 m3 pos) = (13 : Int32)))).1 kt) ?_
    show Onw p e below _ (T4.setTop (mkF m 30 #[.val (.ref r0), .val (.int p1)] []))
    refine Onw.go (fun own_u kt => XS.aloadN X4.here hx rfl (hb hby d5_30) rfl rfl kt) ?_
    show Onw p e below _ (T4.setTop (mkF m 31 #[.val (.ref r0), .val (.int p1)] [(.ref r0)]))
    obtain ⟨T7, X7, e7, st7⟩ := getF X4 hx hZ hown (host := "") (Or.inl (hw _ (List.mem_of_getElem? (i := 17) rfl))) Via.refl e4 M0.2.2.1 (g := (mkF m 31 #[.val (.ref r0), .val (.int p1)] [(.ref r0)])) rfl rfl (hb hby d5_31)
    refine Onw.go st7 ?_
    show Onw p e below _ (T7.setTop (mkF m 34 #[.val (.ref r0), .val (.int p1)] [(.ref b)]))
    refine Onw.go (fun own_u kt => XS.aloadN X7.here hx rfl (hb hby d5_34) rfl rfl kt) ?_
    show Onw p e below _ (T7.setTop (mkF m 35 #[.val (.ref r0), .val (.int p1)] [(.ref r0), (.ref b)]))
    obtain ⟨T8, X8, e8, st8⟩ := getF X7 hx hZ hown (host := "") (Or.inl (hw _ (List.mem_of_getElem? (i := 29) rfl))) Via.refl e7 M0.2.2.2.2.1 (g := (mkF m 35 #[.val (.ref r0), .val (.int p1)] [(.ref r0), (.ref b)])) rfl rfl (hb hby d5_35)
    refine Onw.go st8 ?_
    show Onw p e below _ (T8.setTop (mkF m 38 #[.val (.ref r0), .val (.int p1)] [(.int pos), (.ref b)]))
    refine Onw.go (X8.baloadBytes hx (j := pos) (v := (.int (own_el m0 m1 m2 m3 pos))) (by rw [e8]; exact Ar.1) (State.isArrayOf_alike hZ.alike Ar.2.1) Ar.2.2 hin hat (g := (mkF m 38 #[.val (.ref r0), .val (.int p1)] [(.int pos), (.ref b)])) rfl rfl (hb hby d5_38)) ?_
    show Onw p e below _ (T8.setTop (mkF m 39 #[.val (.ref r0), .val (.int p1)] [(.int (own_el m0 m1 m2 m3 pos))]))
    refine Onw.go (fun own_u kt => XS.bipush X8.here hx rfl (hb hby d5_39) kt) ?_
    show Onw p e below _ (T8.setTop (mkF m 41 #[.val (.ref r0), .val (.int p1)] [(.int (10 : Int32)), (.int (own_el m0 m1 m2 m3 pos))]))
    refine Onw.go (fun own_u kt => XS.icmpNo X8.here hx rfl (hb hby d5_41) rfl (teq (hend.resolve_left h1 : (own_el m0 m1 m2 m3 pos) = (10 : Int32))).2 kt) ?_
    show Onw p e below _ (T8.setTop (mkF m 44 #[.val (.ref r0), .val (.int p1)] []))
    refine Onw.go (fun own_u kt => XS.aloadN X8.here hx rfl (hb hby d5_44) rfl rfl kt) ?_
    show Onw p e below _ (T8.setTop (mkF m 45 #[.val (.ref r0), .val (.int p1)] [(.ref r0)]))
    refine Onw.go (fun own_u kt => XS.dup X8.here hx rfl (hb hby d5_45) rfl rfl kt) ?_
    show Onw p e below _ (T8.setTop (mkF m 46 #[.val (.ref r0), .val (.int p1)] [(.ref r0), (.ref r0)]))
    obtain ⟨T9, X9, e9, st9⟩ := getF X8 hx hZ hown (host := "") (Or.inl (hw _ (List.mem_of_getElem? (i := 29) rfl))) Via.refl e8 M0.2.2.2.2.1 (g := (mkF m 46 #[.val (.ref r0), .val (.int p1)] [(.ref r0), (.ref r0)])) rfl rfl (hb hby d5_46)
    refine Onw.go st9 ?_
    show Onw p e below _ (T9.setTop (mkF m 49 #[.val (.ref r0), .val (.int p1)] [(.int pos), (.ref r0)]))
    refine Onw.go (fun own_u kt => XS.iconst X9.here hx rfl (hb hby d5_49) kt) ?_
    show Onw p e below _ (T9.setTop (mkF m 50 #[.val (.ref r0), .val (.int p1)] [(.int (1 : Int32)), (.int pos), (.ref r0)]))
    refine Onw.go (fun own_u kt => XS.iadd X9.here hx rfl (hb hby d5_50) rfl kt) ?_
    show Onw p e below _ (T9.setTop (mkF m 51 #[.val (.ref r0), .val (.int p1)] [(.int (pos + (1 : Int32))), (.ref r0)]))
    obtain ⟨T10, h10, X10, e10, W10, st10⟩ := putF X9 hx hZ hown (host := "") (Or.inl (hw _ (List.mem_of_getElem? (i := 29) rfl))) Via.refl e9 M0.2.2.2.2.1 M0.1 (Or.inl (hw _ (List.mem_of_getElem? (i := 30) rfl))) (hw _ (List.mem_of_getElem? (i := 7) rfl)) (ty := .int) (by decide) rfl rfl (g := (mkF m 51 #[.val (.ref r0), .val (.int p1)] [(.int (pos + (1 : Int32))), (.ref r0)])) rfl rfl (hb hby d5_51)
    have N10 := Fr.snoc X10 N0 g_r0
    refine Onw.go st10 ?_
    show Onw p e below _ (T10.setTop (mkF m 54 #[.val (.ref r0), .val (.int p1)] []))
    refine Onw.go (fun own_u kt => XS.goto X10.here hx rfl (pc0 := 54) (pc' := 5) rfl (hb hby d5_54) (by decide) (by decide) kt) ?_
    show Onw p e below _ (T10.setTop (mkF m 5 #[.val (.ref r0), .val (.int p1)] []))
    exact hK _ _ _ X10 e10 N10 (Keep.of_wr W10) (own_set_position hw M0 W10)
set_option maxRecDepth 65536 in
set_option maxHeartbeats 40000000 in
theorem po_end {p : Program} {l : Launch} {e : Env} {R : Room} {s : State} {m : MethodId} {args : Array Value} {below : List Frame} {meth : Method} {c : Code} {Z : State} {a0 : Array Value} {W : Outcome → State → Prop} (hx : p.tables.exec = Jvm.exec) (hZ : Z.Warmed39 s.vm) (hw : ∀ d ∈ tables_1, d.before a0 Z = true) (hby : c.code = prog_8_method_7_code) (hml : c.maxLocals = 2) (hown : s.vm.findClass "com/example/shrewd_spider/shrewdspider/net/MessageBytes" = some m.cls) {h0 : Heap} {n0 : Nat}  (r0 : Addr) (p1 pos : Int32) (tk : Int64) (b : Addr) (kb : ClassId) (m0 m1 m2 m3 : Int32)
    {T0 : State} {locs0 : List Loc} {cells slots : Nat} (X0 : Stand p l e R s m args below meth c T0 locs0 cells slots) (e0 : T0.heap = h0) (N0 : Fr n0 locs0) (M0 : own_MB Z h0 r0 .null (.ref b) (.int (4 : Int32)) (.int pos) (.long tk)) (V0 : Arv Z h0 b kb .byte (4 : Int32) [.int m0, .int m1, .int m2, .int m3] (.int (0 : Int32))) (hp : 0 ≤ pos.toInt) (hor : pos < (4 : Int32) → ¬ (own_el m0 m1 m2 m3 pos = 13 ∨ own_el m0 m1 m2 m3 pos = 10)) (hK : ∀ (T' : State) , Stand p l e R s m args below meth c T' locs0 cells slots → T'.heap = h0 → Onw p e below W (T'.setTop (mkF m 57 #[.val (.ref r0), .val (.int p1)] []))) :
    Onw p e below W (T0.setTop (mkF m 5 #[.val (.ref r0), .val (.int p1)] [])) := by
  refine Onw.go (fun own_u kt => XS.aloadN X0.here hx rfl (hb hby d5_5) rfl rfl kt) ?_
  show Onw p e below _ (T0.setTop (mkF m 6 #[.val (.ref r0), .val (.int p1)] [(.ref r0)]))
  obtain ⟨T1, X1, e1, st1⟩ := getF X0 hx hZ hown (host := "") (Or.inl (hw _ (List.mem_of_getElem? (i := 29) rfl))) Via.refl e0 M0.2.2.2.2.1 (g := (mkF m 6 #[.val (.ref r0), .val (.int p1)] [(.ref r0)])) rfl rfl (hb hby d5_6)
  refine Onw.go st1 ?_
  show Onw p e below _ (T1.setTop (mkF m 9 #[.val (.ref r0), .val (.int p1)] [(.int pos)]))
  refine Onw.go (fun own_u kt => XS.aloadN X1.here hx rfl (hb hby d5_9) rfl rfl kt) ?_
  show Onw p e below _ (T1.setTop (mkF m 10 #[.val (.ref r0), .val (.int p1)] [(.ref r0), (.int pos)]))
  obtain ⟨T2, X2, e2, st2⟩ := getF X1 hx hZ hown (host := "") (Or.inl (hw _ (List.mem_of_getElem? (i := 19) rfl))) Via.refl e1 M0.2.2.2.1 (g := (mkF m 10 #[.val (.ref r0), .val (.int p1)] [(.ref r0), (.int pos)])) rfl rfl (hb hby d5_10)
  refine Onw.go st2 ?_
  show Onw p e below _ (T2.setTop (mkF m 13 #[.val (.ref r0), .val (.int p1)] [(.int (4 : Int32)), (.int pos)]))
  by_cases h4 : pos < (4 : Int32)
  · refine Onw.go (fun own_u kt => XS.icmpNo X2.here hx rfl (hb hby d5_13) rfl (tlt (h4 : pos < (4 : Int32))).2.1 kt) ?_
    show Onw p e below _ (T2.setTop (mkF m 16 #[.val (.ref r0), .val (.int p1)] []))
    obtain ⟨cl, Ar, qa, Sa, Na, Ha, Ga⟩ := V0
    obtain ⟨hin, hat⟩ := own_elt Sa Ha pos hp (own_four h4)
    refine Onw.go (fun own_u kt => XS.aloadN X2.here hx rfl (hb hby d5_16) rfl rfl kt) ?_
    show Onw p e below _ (T2.setTop (mkF m 17 #[.val (.ref r0), .val (.int p1)] [(.ref r0)]))
    obtain ⟨T3, X3, e3, st3⟩ := getF X2 hx hZ hown (host := "") (Or.inl (hw _ (List.mem_of_getElem? (i := 17) rfl))) Via.refl e2 M0.2.2.1 (g := (mkF m 17 #[.val (.ref r0), .val (.int p1)] [(.ref r0)])) rfl rfl (hb hby d5_17)
    refine Onw.go st3 ?_
    show Onw p e below _ (T3.setTop (mkF m 20 #[.val (.ref r0), .val (.int p1)] [(.ref b)]))
    refine Onw.go (fun own_u kt => XS.aloadN X3.here hx rfl (hb hby d5_20) rfl rfl kt) ?_
    show Onw p e below _ (T3.setTop (mkF m 21 #[.val (.ref r0), .val (.int p1)] [(.ref r0), (.ref b)]))
    obtain ⟨T4, X4, e4, st4⟩ := getF X3 hx hZ hown (host := "") (Or.inl (hw _ (List.mem_of_getElem? (i := 29) rfl))) Via.refl e3 M0.2.2.2.2.1 (g := (mkF m 21 #[.val (.ref r0), .val (.int p1)] [(.ref r0), (.ref b)])) rfl rfl (hb hby d5_21)
    refine Onw.go st4 ?_
    show Onw p e below _ (T4.setTop (mkF m 24 #[.val (.ref r0), .val (.int p1)] [(.int pos), (.ref b)]))
    refine Onw.go (X4.baloadBytes hx (j := pos) (v := (.int (own_el m0 m1 m2 m3 pos))) (by rw [e4]; exact Ar.1) (State.isArrayOf_alike hZ.alike Ar.2.1) Ar.2.2 hin hat (g := (mkF m 24 #[.val (.ref r0), .val (.int p1)] [(.int pos), (.ref b)])) rfl rfl (hb hby d5_24)) ?_
    show Onw p e below _ (T4.setTop (mkF m 25 #[.val (.ref r0), .val (.int p1)] [(.int (own_el m0 m1 m2 m3 pos))]))
    refine Onw.go (fun own_u kt => XS.bipush X4.here hx rfl (hb hby d5_25) kt) ?_
    show Onw p e below _ (T4.setTop (mkF m 27 #[.val (.ref r0), .val (.int p1)] [(.int (13 : Int32)), (.int (own_el m0 m1 m2 m3 pos))]))
    refine Onw.go (fun own_u kt => XS.icmpNo X4.here hx rfl (hb hby d5_27) rfl (feq (fun q => hor h4 (Or.inl q) : ¬ ((own_el m0 m1 m2 m3 pos) = (13 : Int32)))).1 kt) ?_
    show Onw p e below _ (T4.setTop (mkF m 30 #[.val (.ref r0), .val (.int p1)] []))
    refine Onw.go (fun own_u kt => XS.aloadN X4.here hx rfl (hb hby d5_30) rfl rfl kt) ?_
    show Onw p e below _ (T4.setTop (mkF m 31 #[.val (.ref r0), .val (.int p1)] [(.ref r0)]))
    obtain ⟨T5, X5, e5, st5⟩ := getF X4 hx hZ hown (host := "") (Or.inl (hw _ (List.mem_of_getElem? (i := 17) rfl))) Via.refl e4 M0.2.2.1 (g := (mkF m 31 #[.val (.ref r0), .val (.int p1)] [(.ref r0)])) rfl rfl (hb hby d5_31)
    refine Onw.go st5 ?_
    show Onw p e below _ (T5.setTop (mkF m 34 #[.val (.ref r0), .val (.int p1)] [(.ref b)]))
    refine Onw.go (fun own_u kt => XS.aloadN X5.here hx rfl (hb hby d5_34) rfl rfl kt) ?_
    show Onw p e below _ (T5.setTop (mkF m 35 #[.val (.ref r0), .val (.int p1)] [(.ref r0), (.ref b)]))
    obtain ⟨T6, X6, e6, st6⟩ := getF X5 hx hZ hown (host := "") (Or.inl (hw _ (List.mem_of_getElem? (i := 29) rfl))) Via.refl e5 M0.2.2.2.2.1 (g := (mkF m 35 #[.val (.ref r0), .val (.int p1)] [(.ref r0), (.ref b)])) rfl rfl (hb hby d5_35)
    refine Onw.go st6 ?_
    show Onw p e below _ (T6.setTop (mkF m 38 #[.val (.ref r0), .val (.int p1)] [(.int pos), (.ref b)]))
    refine Onw.go (X6.baloadBytes hx (j := pos) (v := (.int (own_el m0 m1 m2 m3 pos))) (by rw [e6]; exact Ar.1) (State.isArrayOf_alike hZ.alike Ar.2.1) Ar.2.2 hin hat (g := (mkF m 38 #[.val (.ref r0), .val (.int p1)] [(.int pos), (.ref b)])) rfl rfl (hb hby d5_38)) ?_
    show Onw p e below _ (T6.setTop (mkF m 39 #[.val (.ref r0), .val (.int p1)] [(.int (own_el m0 m1 m2 m3 pos))]))
    refine Onw.go (fun own_u kt => XS.bipush X6.here hx rfl (hb hby d5_39) kt) ?_
    show Onw p e below _ (T6.setTop (mkF m 41 #[.val (.ref r0), .val (.int p1)] [(.int (10 : Int32)), (.int (own_el m0 m1 m2 m3 pos))]))
    refine Onw.go (fun own_u kt => XS.icmpYes X6.here hx rfl (pc0 := 41) (pc' := 57) rfl (hb hby d5_41) rfl (feq (fun q => hor h4 (Or.inr q) : ¬ ((own_el m0 m1 m2 m3 pos) = (10 : Int32)))).2 (by decide) (by decide) kt) ?_
    show Onw p e below _ (T6.setTop (mkF m 57 #[.val (.ref r0), .val (.int p1)] []))
    exact hK _ X6 e6
  · refine Onw.go (fun own_u kt => XS.icmpYes X2.here hx rfl (pc0 := 13) (pc' := 57) rfl (hb hby d5_13) rfl (flt (h4 : ¬ (pos < (4 : Int32)))).2.1 (by decide) (by decide) kt) ?_
    show Onw p e below _ (T2.setTop (mkF m 57 #[.val (.ref r0), .val (.int p1)] []))
    exact hK _ X2 e2
set_option maxRecDepth 65536 in
set_option maxHeartbeats 40000000 in
theorem po_loop {p : Program} {l : Launch} {e : Env} {R : Room} {s : State} {m : MethodId} {args : Array Value} {below : List Frame} {meth : Method} {c : Code} {Z : State} {a0 : Array Value} {W : Outcome → State → Prop} (hx : p.tables.exec = Jvm.exec) (hZ : Z.Warmed39 s.vm) (hw : ∀ d ∈ tables_1, d.before a0 Z = true) (hby : c.code = prog_8_method_7_code) (hml : c.maxLocals = 2) (hown : s.vm.findClass "com/example/shrewd_spider/shrewdspider/net/MessageBytes" = some m.cls) {h0 : Heap} {n0 : Nat} (r0 : Addr) (p1 : Int32) (tk : Int64) (b : Addr) (kb : ClassId) (m0 m1 m2 m3 : Int32) {cells slots : Nat} (hne : b ≠ r0) (g_r0 : n0 ≤ r0) (r : Int32)
    (hK : ∀ (T' : State) (h' : Heap) (locs' : List Loc), Stand p l e R s m args below meth c T' locs' cells slots → T'.heap = h' → Fr n0 locs' → Keep h0 h' [r0] → own_MB Z h' r0 .null (.ref b) (.int (4 : Int32)) (.int r) (.long tk) → Onw p e below W (T'.setTop (mkF m 57 #[.val (.ref r0), .val (.int p1)] []))) :
    ∀ (k : Nat) (T : State) (h : Heap) (locs : List Loc) (pos : Int32), Stand p l e R s m args below meth c T locs cells slots → T.heap = h → Fr n0 locs → Keep h0 h [r0] → own_MB Z h r0 .null (.ref b) (.int (4 : Int32)) (.int pos) (.long tk) → Arv Z h b kb .byte (4 : Int32) [.int m0, .int m1, .int m2, .int m3] (.int (0 : Int32)) → 0 ≤ pos.toInt → pos.toInt + k = 4 → own_skip (own_el m0 m1 m2 m3) k pos = r → Onw p e below W (T.setTop (mkF m 5 #[.val (.ref r0), .val (.int p1)] [])) := by
  intro k
  have t4 : (4 : Int32).toInt = 4 := rfl
  induction k with
  | zero =>
    intro T h locs pos X0 e0 N0 K0 M0 V0 hp hk hr
    have hr' : pos = r := hr
    subst hr'
    exact po_end hx hZ hw hby hml hown r0 p1 pos tk b kb m0 m1 m2 m3 X0 e0 N0 M0 V0 hp (fun q => by rw [Int32.lt_iff_toInt_lt] at q; omega) (fun T' X' e' => hK T' h locs X' e' N0 K0 M0)
  | succ k ih =>
    intro T h locs pos X0 e0 N0 K0 M0 V0 hp hk hr
    have h4 : pos < (4 : Int32) := by rw [Int32.lt_iff_toInt_lt]; omega
    by_cases hend : own_el m0 m1 m2 m3 pos = 13 ∨ own_el m0 m1 m2 m3 pos = 10
    · have e1 := c_iadd pos (1 : Int32)
      have e2 := rng32 (pos + (1 : Int32))
      have e4 : (1 : Int32).toInt = 1 := rfl
      refine po_turn hx hZ hw hby hml hown r0 p1 pos tk b kb m0 m1 m2 m3 X0 e0 N0 M0 V0 hne g_r0 hp h4 hend (fun T' h' locs' X' e' N' K' M' => ih T' h' locs' _ X' e' N' (K0.trans K' (fun x hx => Or.inl hx)) M' (V0.keep K' (by simpa using hne)) (by omega) (by omega) ?_)
      rw [← hr]
      show _ = (if _ then _ else _)
      rw [if_pos hend]
    · have hr' : pos = r := by rw [← hr]; show _ = (if _ then _ else _); rw [if_neg hend]
      subst hr'
      exact po_end hx hZ hw hby hml hown r0 p1 pos tk b kb m0 m1 m2 m3 X0 e0 N0 M0 V0 hp (fun _ => hend) (fun T' X' e' => hK T' h locs X' e' N0 K0 M0)
theorem ef_5 (m : MethodId) (x0 : Addr) : entryFrame m #[(.ref x0)] 2 = mkF m 0 #[.val (.ref x0), .unset] [] := by first | (simp [entryFrame, mkF, argsToLocals, Value.category]; done) | rfl
def Q_rm5 (Z : State) (r0 : Addr) (pos : Int32) (tk : Int64) (b : Addr) (kb : ClassId) (m0 m1 m2 m3 : Int32) (h0 : Heap) (n0 : Nat) (v : Option Value) (h : Heap) (L : List Loc) : Prop := v = none ∧ Fr n0 L ∧ Keep h0 h [r0] ∧ own_MB Z h r0 .null (.ref b) (.int (4 : Int32)) (.int (own_skip (own_el m0 m1 m2 m3) ((4 : Int32) - pos).toNatClampNeg pos)) (.long (tk + ((own_skip (own_el m0 m1 m2 m3) ((4 : Int32) - pos).toNatClampNeg pos) - pos).toInt64))
theorem d5_0 : decode prog_8_method_7_code 0 = .ok (.aload_n 0, 1) := by decide +kernel
theorem d5_1 : decode prog_8_method_7_code 1 = .ok (.getfield 43, 3) := by decide +kernel
theorem d5_4 : decode prog_8_method_7_code 4 = .ok (.istore_n 1, 1) := by decide +kernel
theorem d5_57 : decode prog_8_method_7_code 57 = .ok (.aload_n 0, 1) := by decide +kernel
theorem d5_58 : decode prog_8_method_7_code 58 = .ok (.dup, 1) := by decide +kernel
theorem d5_59 : decode prog_8_method_7_code 59 = .ok (.getfield 22, 3) := by decide +kernel
theorem d5_62 : decode prog_8_method_7_code 62 = .ok (.aload_n 0, 1) := by decide +kernel
theorem d5_63 : decode prog_8_method_7_code 63 = .ok (.getfield 43, 3) := by decide +kernel
theorem d5_66 : decode prog_8_method_7_code 66 = .ok (.iload_n 1, 1) := by decide +kernel
theorem d5_67 : decode prog_8_method_7_code 67 = .ok (.isub, 1) := by decide +kernel
theorem d5_68 : decode prog_8_method_7_code 68 = .ok (.i2l, 1) := by decide +kernel
theorem d5_69 : decode prog_8_method_7_code 69 = .ok (.ladd, 1) := by decide +kernel
theorem d5_70 : decode prog_8_method_7_code 70 = .ok (.putfield 22, 3) := by decide +kernel
theorem d5_73 : decode prog_8_method_7_code 73 = .ok (.return_, 1) := by decide +kernel
set_option maxRecDepth 65536 in
set_option maxHeartbeats 40000000 in
theorem rm5 (l : Launch) (Z : State) (a0 : Array Value) (hw : ∀ d ∈ tables_1, d.before a0 Z = true) (ws : List Jvm.Cond) (r0 : Addr) (pos : Int32) (tk : Int64) (b : Addr) (kb : ClassId) (m0 m1 m2 m3 : Int32) (h0 : Heap) (n0 : Nat) (M0 : own_MB Z h0 r0 .null (.ref b) (.int (4 : Int32)) (.int pos) (.long tk)) (V0 : Arv Z h0 b kb .byte (4 : Int32) [.int m0, .int m1, .int m2, .int m3] (.int (0 : Int32))) (hne : b ≠ r0) (g_r0 : n0 ≤ r0) (hp : 0 ≤ pos.toInt ∧ pos.toInt ≤ 4) :
    MetFree l (⟨"com/example/shrewd_spider/shrewdspider/net/MessageBytes", "passOverLineEnds", "()V"⟩ : MethodName) (head1 (Jvm.Cond.code (⟨"com/example/shrewd_spider/shrewdspider/net/MessageBytes", "passOverLineEnds", "()V"⟩ : MethodName) prog_8_method_7_code 2 none :: ws) ({ frames := 0, cells := 0, slots := 0, locals := 0 } : Room)) (fun a U => a = #[(.ref r0)] ∧ Z.Warmed39 U.vm ∧ U.heap = h0) (fun _ _ _ _ _ => True) (fun _ U o U' => ∃ v L, o = .returned v ∧ Q_rm5 Z r0 pos tk b kb m0 m1 m2 m3 h0 n0 v U'.heap L ∧ FrameEnd U o U' L ({ frames := 0, cells := 0, slots := 0, locals := 0 } : Room).cells ({ frames := 0, cells := 0, slots := 0, locals := 0 } : Room).slots) := by
  refine MetFree.of_bodySF (plainFor_of_name pn_1) hisR ?_
  intro p e s m args below meth c s₁ Bd hml0 hP hK
  obtain ⟨rfl, hZ, hh⟩ := hP
  have hx := Bd.exec
  have hby := Bd.bytes
  have hml : c.maxLocals = 2 := hml0
  have hown : s.vm.findClass "com/example/shrewd_spider/shrewdspider/net/MessageBytes" = some m.cls := findClass_of_methodNamed Bd.named
  have hnm := (name_of_methodNamed Bd.named Bd.method).1
  have X0 : Stand p l e ({ frames := 0, cells := 0, slots := 0, locals := 0 } : Room) s m #[(.ref r0)] below meth c s₁ [] 0 0 := Stand.of_body Bd
  have e0 : s₁.heap = h0 := by rw [← hh, Bd.state]; rfl
  have N0 := Fr.nil n0
  refine Onw.of (Onw.go (fun own_u k => castTop (ef_5 m r0) k) ?_)
  show Onw p e below _ (s₁.setTop (mkF m 0 #[.val (.ref r0), .unset] []))
  refine Onw.go (fun own_u kt => XS.aloadN X0.here hx rfl (hb hby d5_0) rfl rfl kt) ?_
  show Onw p e below _ (s₁.setTop (mkF m 1 #[.val (.ref r0), .unset] [(.ref r0)]))
  obtain ⟨T1, X1, e1, st1⟩ := getF X0 hx hZ hown (host := "") (Or.inl (hw _ (List.mem_of_getElem? (i := 29) rfl))) Via.refl e0 M0.2.2.2.2.1 (g := (mkF m 1 #[.val (.ref r0), .unset] [(.ref r0)])) rfl rfl (hb hby d5_1)
  refine Onw.go st1 ?_
  show Onw p e below _ (T1.setTop (mkF m 4 #[.val (.ref r0), .unset] [(.int pos)]))
  refine Onw.go (fun own_u kt => XS.istoreN X1.here hx rfl (hb hby d5_4) rfl (l' := #[.val (.ref r0), .val (.int pos)]) rfl kt) ?_
  show Onw p e below _ (T1.setTop (mkF m 5 #[.val (.ref r0), .val (.int pos)] []))
  refine po_loop hx hZ hw hby hml hown r0 pos tk b kb m0 m1 m2 m3 hne g_r0 (own_skip (own_el m0 m1 m2 m3) ((4 : Int32) - pos).toNatClampNeg pos) (fun T' h' locs' X' e' N' K' M' => ?_) ((4 : Int32) - pos).toNatClampNeg _ _ _ pos X1 e1 N0 (Keep.refl h0 [r0]) M0 V0 hp.1 (own_left hp) rfl
  show Onw p e below _ (T'.setTop (mkF m 57 #[.val (.ref r0), .val (.int pos)] []))
  obtain ⟨q, hq⟩ : ∃ own_z, own_z = (own_skip (own_el m0 m1 m2 m3) ((4 : Int32) - pos).toNatClampNeg pos) := ⟨_, rfl⟩
  rw [← hq] at M'
  refine Onw.go (fun own_u kt => XS.aloadN X'.here hx rfl (hb hby d5_57) rfl rfl kt) ?_
  show Onw p e below _ (T'.setTop (mkF m 58 #[.val (.ref r0), .val (.int pos)] [(.ref r0)]))
  refine Onw.go (fun own_u kt => XS.dup X'.here hx rfl (hb hby d5_58) rfl rfl kt) ?_
  show Onw p e below _ (T'.setTop (mkF m 59 #[.val (.ref r0), .val (.int pos)] [(.ref r0), (.ref r0)]))
  obtain ⟨T2, X2, e2, st2⟩ := getF X' hx hZ hown (host := "") (Or.inl (hw _ (List.mem_of_getElem? (i := 31) rfl))) Via.refl e' M'.2.2.2.2.2 (g := (mkF m 59 #[.val (.ref r0), .val (.int pos)] [(.ref r0), (.ref r0)])) rfl rfl (hb hby d5_59)
  refine Onw.go st2 ?_
  show Onw p e below _ (T2.setTop (mkF m 62 #[.val (.ref r0), .val (.int pos)] [(.long tk), (.ref r0)]))
  refine Onw.go (fun own_u kt => XS.aloadN X2.here hx rfl (hb hby d5_62) rfl rfl kt) ?_
  show Onw p e below _ (T2.setTop (mkF m 63 #[.val (.ref r0), .val (.int pos)] [(.ref r0), (.long tk), (.ref r0)]))
  obtain ⟨T3, X3, e3, st3⟩ := getF X2 hx hZ hown (host := "") (Or.inl (hw _ (List.mem_of_getElem? (i := 29) rfl))) Via.refl e2 M'.2.2.2.2.1 (g := (mkF m 63 #[.val (.ref r0), .val (.int pos)] [(.ref r0), (.long tk), (.ref r0)])) rfl rfl (hb hby d5_63)
  refine Onw.go st3 ?_
  show Onw p e below _ (T3.setTop (mkF m 66 #[.val (.ref r0), .val (.int pos)] [(.int q), (.long tk), (.ref r0)]))
  refine Onw.go (fun own_u kt => XS.iloadN X3.here hx rfl (hb hby d5_66) rfl kt) ?_
  show Onw p e below _ (T3.setTop (mkF m 67 #[.val (.ref r0), .val (.int pos)] [(.int pos), (.int q), (.long tk), (.ref r0)]))
  refine Onw.go (fun own_u kt => XS.isub X3.here hx rfl (hb hby d5_67) rfl kt) ?_
  show Onw p e below _ (T3.setTop (mkF m 68 #[.val (.ref r0), .val (.int pos)] [(.int (q - pos)), (.long tk), (.ref r0)]))
  refine Onw.go (fun own_u kt => XS.i2l X3.here hx rfl (hb hby d5_68) rfl kt) ?_
  show Onw p e below _ (T3.setTop (mkF m 69 #[.val (.ref r0), .val (.int pos)] [(.long ((q - pos).toInt64)), (.long tk), (.ref r0)]))
  refine Onw.go (fun own_u kt => XS.ladd X3.here hx rfl (hb hby d5_69) rfl kt) ?_
  show Onw p e below _ (T3.setTop (mkF m 70 #[.val (.ref r0), .val (.int pos)] [(.long (tk + ((q - pos).toInt64))), (.ref r0)]))
  obtain ⟨T4, h4, X4, e4, W4, st4⟩ := putF X3 hx hZ hown (host := "") (Or.inl (hw _ (List.mem_of_getElem? (i := 31) rfl))) Via.refl e3 M'.2.2.2.2.2 M'.1 (Or.inl (hw _ (List.mem_of_getElem? (i := 32) rfl))) (hw _ (List.mem_of_getElem? (i := 7) rfl)) (ty := .long) (by decide) rfl rfl (g := (mkF m 70 #[.val (.ref r0), .val (.int pos)] [(.long (tk + ((q - pos).toInt64))), (.ref r0)])) rfl rfl (hb hby d5_70)
  have N4 := Fr.snoc X4 N' g_r0
  refine Onw.go st4 ?_
  show Onw p e below _ (T4.setTop (mkF m 73 #[.val (.ref r0), .val (.int pos)] []))
  exact Onw.ret X4 Bd.notSynchronized (fun _ => rfl) (fun fs hr => X4.returnOut hx Bd.returns (hb hby d5_73) hr) ⟨rfl, N4, by rw [e4]; exact K'.wr W4 (Or.inl (List.mem_of_getElem? (i := 0) rfl)), by rw [e4, ← hq]; exact own_set_taken hw M' W4⟩ (by decide) (by decide)
theorem ef_6 (m : MethodId) (x0 : Addr) : entryFrame m #[(.ref x0)] 1 = mkF m 0 #[.val (.ref x0)] [] := by first | (simp [entryFrame, mkF, argsToLocals, Value.category]; done) | rfl
def Q_rm6 (Z : State) (r0 : Addr) (pos : Int32) (tk : Int64) (b : Addr) (h0 : Heap) (n0 : Nat) (v : Option Value) (h : Heap) (L : List Loc) : Prop := v = some (.long tk) ∧ Fr n0 L ∧ h = h0
theorem d6_0 : decode prog_8_method_3_code 0 = .ok (.aload_n 0, 1) := by decide +kernel
theorem d6_1 : decode prog_8_method_3_code 1 = .ok (.getfield 22, 3) := by decide +kernel
theorem d6_4 : decode prog_8_method_3_code 4 = .ok (.lreturn, 1) := by decide +kernel
set_option maxRecDepth 65536 in
set_option maxHeartbeats 40000000 in
theorem rm6 (l : Launch) (Z : State) (a0 : Array Value) (hw : ∀ d ∈ tables_1, d.before a0 Z = true) (ws : List Jvm.Cond) (r0 : Addr) (pos : Int32) (tk : Int64) (b : Addr) (h0 : Heap) (n0 : Nat) (M0 : own_MB Z h0 r0 .null (.ref b) (.int (4 : Int32)) (.int pos) (.long tk)) :
    MetFree l (⟨"com/example/shrewd_spider/shrewdspider/net/MessageBytes", "taken", "()J"⟩ : MethodName) (head1 (Jvm.Cond.code (⟨"com/example/shrewd_spider/shrewdspider/net/MessageBytes", "taken", "()J"⟩ : MethodName) prog_8_method_3_code 1 (some .long) :: ws) ({ frames := 0, cells := 0, slots := 0, locals := 0 } : Room)) (fun a U => a = #[(.ref r0)] ∧ Z.Warmed39 U.vm ∧ U.heap = h0) (fun _ _ _ _ _ => True) (fun _ U o U' => ∃ v L, o = .returned v ∧ Q_rm6 Z r0 pos tk b h0 n0 v U'.heap L ∧ FrameEnd U o U' L ({ frames := 0, cells := 0, slots := 0, locals := 0 } : Room).cells ({ frames := 0, cells := 0, slots := 0, locals := 0 } : Room).slots) := by
  refine MetFree.of_bodySF (plainFor_of_name pn_1) hisR ?_
  intro p e s m args below meth c s₁ Bd hml0 hP hK
  obtain ⟨rfl, hZ, hh⟩ := hP
  have hx := Bd.exec
  have hby := Bd.bytes
  have hml : c.maxLocals = 1 := hml0
  have hown : s.vm.findClass "com/example/shrewd_spider/shrewdspider/net/MessageBytes" = some m.cls := findClass_of_methodNamed Bd.named
  have hnm := (name_of_methodNamed Bd.named Bd.method).1
  have X0 : Stand p l e ({ frames := 0, cells := 0, slots := 0, locals := 0 } : Room) s m #[(.ref r0)] below meth c s₁ [] 0 0 := Stand.of_body Bd
  have e0 : s₁.heap = h0 := by rw [← hh, Bd.state]; rfl
  have N0 := Fr.nil n0
  refine Onw.of (Onw.go (fun own_u k => castTop (ef_6 m r0) k) ?_)
  show Onw p e below _ (s₁.setTop (mkF m 0 #[.val (.ref r0)] []))
  refine Onw.go (fun own_u kt => XS.aloadN X0.here hx rfl (hb hby d6_0) rfl rfl kt) ?_
  show Onw p e below _ (s₁.setTop (mkF m 1 #[.val (.ref r0)] [(.ref r0)]))
  obtain ⟨T1, X1, e1, st1⟩ := getF X0 hx hZ hown (host := "") (Or.inl (hw _ (List.mem_of_getElem? (i := 31) rfl))) Via.refl e0 M0.2.2.2.2.2 (g := (mkF m 1 #[.val (.ref r0)] [(.ref r0)])) rfl rfl (hb hby d6_1)
  refine Onw.go st1 ?_
  show Onw p e below _ (T1.setTop (mkF m 4 #[.val (.ref r0)] [(.long tk)]))
  exact Onw.ret X1 Bd.notSynchronized (fun h => by rw [Bd.returns] at h; cases h) (fun fs hr => X1.lreturnOut hx Bd.returns (hb hby d6_4) hr) ⟨rfl, N0, e1⟩ (by decide) (by decide)
theorem ef_7 (m : MethodId) (x0 : Addr) : entryFrame m #[(.ref x0)] 1 = mkF m 0 #[.val (.ref x0)] [] := by first | (simp [entryFrame, mkF, argsToLocals, Value.category]; done) | rfl
def Q_rm7 (Z : State) (r0 : Addr) (pos : Int32) (tk : Int64) (b : Addr) (h0 : Heap) (n0 : Nat) (v : Option Value) (h : Heap) (L : List Loc) : Prop := v = some (.int (own_more pos)) ∧ Fr n0 L ∧ h = h0
theorem d7_0 : decode prog_8_method_6_code 0 = .ok (.aload_n 0, 1) := by decide +kernel
theorem d7_1 : decode prog_8_method_6_code 1 = .ok (.getfield 43, 3) := by decide +kernel
theorem d7_4 : decode prog_8_method_6_code 4 = .ok (.aload_n 0, 1) := by decide +kernel
theorem d7_5 : decode prog_8_method_6_code 5 = .ok (.getfield 18, 3) := by decide +kernel
theorem d7_8 : decode prog_8_method_6_code 8 = .ok (.if_icmp .ge 7, 3) := by decide +kernel
theorem d7_11 : decode prog_8_method_6_code 11 = .ok (.iconst 1, 1) := by decide +kernel
theorem d7_12 : decode prog_8_method_6_code 12 = .ok (.goto 4, 3) := by decide +kernel
theorem d7_15 : decode prog_8_method_6_code 15 = .ok (.iconst 0, 1) := by decide +kernel
theorem d7_16 : decode prog_8_method_6_code 16 = .ok (.ireturn, 1) := by decide +kernel
set_option maxRecDepth 65536 in
set_option maxHeartbeats 40000000 in
theorem rm7 (l : Launch) (Z : State) (a0 : Array Value) (hw : ∀ d ∈ tables_1, d.before a0 Z = true) (ws : List Jvm.Cond) (r0 : Addr) (pos : Int32) (tk : Int64) (b : Addr) (h0 : Heap) (n0 : Nat) (M0 : own_MB Z h0 r0 .null (.ref b) (.int (4 : Int32)) (.int pos) (.long tk)) :
    MetFree l (⟨"com/example/shrewd_spider/shrewdspider/net/MessageBytes", "holdsMore", "()Z"⟩ : MethodName) (head1 (Jvm.Cond.code (⟨"com/example/shrewd_spider/shrewdspider/net/MessageBytes", "holdsMore", "()Z"⟩ : MethodName) prog_8_method_6_code 1 (some .boolean) :: ws) ({ frames := 0, cells := 0, slots := 0, locals := 0 } : Room)) (fun a U => a = #[(.ref r0)] ∧ Z.Warmed39 U.vm ∧ U.heap = h0) (fun _ _ _ _ _ => True) (fun _ U o U' => ∃ v L, o = .returned v ∧ Q_rm7 Z r0 pos tk b h0 n0 v U'.heap L ∧ FrameEnd U o U' L ({ frames := 0, cells := 0, slots := 0, locals := 0 } : Room).cells ({ frames := 0, cells := 0, slots := 0, locals := 0 } : Room).slots) := by
  refine MetFree.of_bodySF (plainFor_of_name pn_1) hisR ?_
  intro p e s m args below meth c s₁ Bd hml0 hP hK
  obtain ⟨rfl, hZ, hh⟩ := hP
  have hx := Bd.exec
  have hby := Bd.bytes
  have hml : c.maxLocals = 1 := hml0
  have hown : s.vm.findClass "com/example/shrewd_spider/shrewdspider/net/MessageBytes" = some m.cls := findClass_of_methodNamed Bd.named
  have hnm := (name_of_methodNamed Bd.named Bd.method).1
  have X0 : Stand p l e ({ frames := 0, cells := 0, slots := 0, locals := 0 } : Room) s m #[(.ref r0)] below meth c s₁ [] 0 0 := Stand.of_body Bd
  have e0 : s₁.heap = h0 := by rw [← hh, Bd.state]; rfl
  have N0 := Fr.nil n0
  refine Onw.of (Onw.go (fun own_u k => castTop (ef_7 m r0) k) ?_)
  show Onw p e below _ (s₁.setTop (mkF m 0 #[.val (.ref r0)] []))
  refine Onw.go (fun own_u kt => XS.aloadN X0.here hx rfl (hb hby d7_0) rfl rfl kt) ?_
  show Onw p e below _ (s₁.setTop (mkF m 1 #[.val (.ref r0)] [(.ref r0)]))
  obtain ⟨T1, X1, e1, st1⟩ := getF X0 hx hZ hown (host := "") (Or.inl (hw _ (List.mem_of_getElem? (i := 29) rfl))) Via.refl e0 M0.2.2.2.2.1 (g := (mkF m 1 #[.val (.ref r0)] [(.ref r0)])) rfl rfl (hb hby d7_1)
  refine Onw.go st1 ?_
  show Onw p e below _ (T1.setTop (mkF m 4 #[.val (.ref r0)] [(.int pos)]))
  refine Onw.go (fun own_u kt => XS.aloadN X1.here hx rfl (hb hby d7_4) rfl rfl kt) ?_
  show Onw p e below _ (T1.setTop (mkF m 5 #[.val (.ref r0)] [(.ref r0), (.int pos)]))
  obtain ⟨T2, X2, e2, st2⟩ := getF X1 hx hZ hown (host := "") (Or.inl (hw _ (List.mem_of_getElem? (i := 19) rfl))) Via.refl e1 M0.2.2.2.1 (g := (mkF m 5 #[.val (.ref r0)] [(.ref r0), (.int pos)])) rfl rfl (hb hby d7_5)
  refine Onw.go st2 ?_
  show Onw p e below _ (T2.setTop (mkF m 8 #[.val (.ref r0)] [(.int (4 : Int32)), (.int pos)]))
  by_cases h1 : pos < (4 : Int32)
  · refine Onw.go (fun own_u kt => XS.icmpNo X2.here hx rfl (hb hby d7_8) rfl (tlt (h1 : pos < (4 : Int32))).2.1 kt) ?_
    show Onw p e below _ (T2.setTop (mkF m 11 #[.val (.ref r0)] []))
    refine Onw.go (fun own_u kt => XS.iconst X2.here hx rfl (hb hby d7_11) kt) ?_
    show Onw p e below _ (T2.setTop (mkF m 12 #[.val (.ref r0)] [(.int (1 : Int32))]))
    refine Onw.go (fun own_u kt => XS.goto X2.here hx rfl (pc0 := 12) (pc' := 16) rfl (hb hby d7_12) (by decide) (by decide) kt) ?_
    show Onw p e below _ (T2.setTop (mkF m 16 #[.val (.ref r0)] [(.int (1 : Int32))]))
    exact Onw.ret X2 Bd.notSynchronized (fun h => by rw [Bd.returns] at h; cases h) (fun fs hr => retN X2 hx (t := .boolean) Bd.returns (by simp) (hb hby d7_16) hr) ⟨(by show some (Value.int (nar .boolean 1)) = _; unfold own_more; rw [if_pos h1]; rfl), N0, e2⟩ (by decide) (by decide)
  · refine Onw.go (fun own_u kt => XS.icmpYes X2.here hx rfl (pc0 := 8) (pc' := 15) rfl (hb hby d7_8) rfl (flt (h1 : ¬ (pos < (4 : Int32)))).2.1 (by decide) (by decide) kt) ?_
    show Onw p e below _ (T2.setTop (mkF m 15 #[.val (.ref r0)] []))
    refine Onw.go (fun own_u kt => XS.iconst X2.here hx rfl (hb hby d7_15) kt) ?_
    show Onw p e below _ (T2.setTop (mkF m 16 #[.val (.ref r0)] [(.int (0 : Int32))]))
    exact Onw.ret X2 Bd.notSynchronized (fun h => by rw [Bd.returns] at h; cases h) (fun fs hr => retN X2 hx (t := .boolean) Bd.returns (by simp) (hb hby d7_16) hr) ⟨(by show some (Value.int (nar .boolean 0)) = _; unfold own_more; rw [if_neg h1]; rfl), N0, e2⟩ (by decide) (by decide)
theorem ef_9 (m : MethodId) (x0 : Int32) (x1 : Int32) : entryFrame m #[(.int x0), (.int x1)] 2 = mkF m 0 #[.val (.int x0), .val (.int x1)] [] := by first | (simp [entryFrame, mkF, argsToLocals, Value.category]; done) | rfl
def Q_rm9 (Z : State) (p0 : Int32) (p1 : Int32) (h0 : Heap) (n0 : Nat) (v : Option Value) (h : Heap) (L : List Loc) : Prop := v = some (.int (own_min p0 p1)) ∧ Fr n0 L ∧ h = h0
theorem d9_0 : decode jdk_29_method_69_code 0 = .ok (.iload_n 0, 1) := by decide +kernel
theorem d9_1 : decode jdk_29_method_69_code 1 = .ok (.iload_n 1, 1) := by decide +kernel
theorem d9_2 : decode jdk_29_method_69_code 2 = .ok (.if_icmp .gt 7, 3) := by decide +kernel
theorem d9_5 : decode jdk_29_method_69_code 5 = .ok (.iload_n 0, 1) := by decide +kernel
theorem d9_6 : decode jdk_29_method_69_code 6 = .ok (.goto 4, 3) := by decide +kernel
theorem d9_9 : decode jdk_29_method_69_code 9 = .ok (.iload_n 1, 1) := by decide +kernel
theorem d9_10 : decode jdk_29_method_69_code 10 = .ok (.ireturn, 1) := by decide +kernel
set_option maxRecDepth 65536 in
set_option maxHeartbeats 40000000 in
theorem rm9 (l : Launch) (Z : State) (a0 : Array Value) (hw : ∀ d ∈ tables_1, d.before a0 Z = true) (ws : List Jvm.Cond) (p0 : Int32) (p1 : Int32) (h0 : Heap) (n0 : Nat)  :
    MetFree l (⟨"java/lang/Math", "min", "(II)I"⟩ : MethodName) (head1 (Jvm.Cond.code (⟨"java/lang/Math", "min", "(II)I"⟩ : MethodName) jdk_29_method_69_code 2 (some .int) :: ws) ({ frames := 0, cells := 0, slots := 0, locals := 0 } : Room)) (fun a U => a = #[(.int p0), (.int p1)] ∧ Z.Warmed39 U.vm ∧ U.heap = h0) (fun _ _ _ _ _ => True) (fun _ U o U' => ∃ v L, o = .returned v ∧ Q_rm9 Z p0 p1 h0 n0 v U'.heap L ∧ FrameEnd U o U' L ({ frames := 0, cells := 0, slots := 0, locals := 0 } : Room).cells ({ frames := 0, cells := 0, slots := 0, locals := 0 } : Room).slots) := by
  refine MetFree.of_bodySF (Jvm.Free.JP.mathPlain rfl (by decide +kernel)) hisR ?_
  intro p e s m args below meth c s₁ Bd hml0 hP hK
  obtain ⟨rfl, hZ, hh⟩ := hP
  have hx := Bd.exec
  have hby := Bd.bytes
  have hml : c.maxLocals = 2 := hml0
  have hown : s.vm.findClass "java/lang/Math" = some m.cls := findClass_of_methodNamed Bd.named
  have hnm := (name_of_methodNamed Bd.named Bd.method).1
  have X0 : Stand p l e ({ frames := 0, cells := 0, slots := 0, locals := 0 } : Room) s m #[(.int p0), (.int p1)] below meth c s₁ [] 0 0 := Stand.of_body Bd
  have e0 : s₁.heap = h0 := by rw [← hh, Bd.state]; rfl
  have N0 := Fr.nil n0
  refine Onw.of (Onw.go (fun own_u k => castTop (ef_9 m p0 p1) k) ?_)
  show Onw p e below _ (s₁.setTop (mkF m 0 #[.val (.int p0), .val (.int p1)] []))
  refine Onw.go (fun own_u kt => XS.iloadN X0.here hx rfl (hb hby d9_0) rfl kt) ?_
  show Onw p e below _ (s₁.setTop (mkF m 1 #[.val (.int p0), .val (.int p1)] [(.int p0)]))
  refine Onw.go (fun own_u kt => XS.iloadN X0.here hx rfl (hb hby d9_1) rfl kt) ?_
  show Onw p e below _ (s₁.setTop (mkF m 2 #[.val (.int p0), .val (.int p1)] [(.int p1), (.int p0)]))
  by_cases h1 : p1 < p0
  · refine Onw.go (fun own_u kt => XS.icmpYes X0.here hx rfl (pc0 := 2) (pc' := 9) rfl (hb hby d9_2) rfl (tlt (h1 : p1 < p0)).2.2.1 (by decide) (by decide) kt) ?_
    show Onw p e below _ (s₁.setTop (mkF m 9 #[.val (.int p0), .val (.int p1)] []))
    refine Onw.go (fun own_u kt => XS.iloadN X0.here hx rfl (hb hby d9_9) rfl kt) ?_
    show Onw p e below _ (s₁.setTop (mkF m 10 #[.val (.int p0), .val (.int p1)] [(.int p1)]))
    exact Onw.ret X0 Bd.notSynchronized (fun h => by rw [Bd.returns] at h; cases h) (fun fs hr => retI X0 hx Bd.returns (hb hby d9_10) hr) ⟨(by show some (Value.int p1) = _; unfold own_min; rw [if_pos h1]), N0, e0⟩ (by decide) (by decide)
  · refine Onw.go (fun own_u kt => XS.icmpNo X0.here hx rfl (hb hby d9_2) rfl (flt (h1 : ¬ (p1 < p0))).2.2.1 kt) ?_
    show Onw p e below _ (s₁.setTop (mkF m 5 #[.val (.int p0), .val (.int p1)] []))
    refine Onw.go (fun own_u kt => XS.iloadN X0.here hx rfl (hb hby d9_5) rfl kt) ?_
    show Onw p e below _ (s₁.setTop (mkF m 6 #[.val (.int p0), .val (.int p1)] [(.int p0)]))
    refine Onw.go (fun own_u kt => XS.goto X0.here hx rfl (pc0 := 6) (pc' := 10) rfl (hb hby d9_6) (by decide) (by decide) kt) ?_
    show Onw p e below _ (s₁.setTop (mkF m 10 #[.val (.int p0), .val (.int p1)] [(.int p0)]))
    exact Onw.ret X0 Bd.notSynchronized (fun h => by rw [Bd.returns] at h; cases h) (fun fs hr => retI X0 hx Bd.returns (hb hby d9_10) hr) ⟨(by show some (Value.int p0) = _; unfold own_min; rw [if_neg h1]), N0, e0⟩ (by decide) (by decide)
theorem ef_10 (m : MethodId) (x0 : Addr) : entryFrame m #[(.ref x0)] 2 = mkF m 0 #[.val (.ref x0), .unset] [] := by first | (simp [entryFrame, mkF, argsToLocals, Value.category]; done) | rfl
def Q_rm10 (Z : State) (r0 : Addr) (pos : Int32) (tk : Int64) (b : Addr) (h0 : Heap) (n0 : Nat) (v : Option Value) (h : Heap) (L : List Loc) : Prop := v = some (.int (0 : Int32)) ∧ Fr n0 L ∧ h = h0
theorem d10_0 : decode prog_8_method_10_code 0 = .ok (.aload_n 0, 1) := by decide +kernel
theorem d10_1 : decode prog_8_method_10_code 1 = .ok (.getfield 7, 3) := by decide +kernel
theorem d10_4 : decode prog_8_method_10_code 4 = .ok (.ifnonnull 5, 3) := by decide +kernel
theorem d10_7 : decode prog_8_method_10_code 7 = .ok (.iconst 0, 1) := by decide +kernel
theorem d10_8 : decode prog_8_method_10_code 8 = .ok (.ireturn, 1) := by decide +kernel
set_option maxRecDepth 65536 in
set_option maxHeartbeats 40000000 in
theorem rm10 (l : Launch) (Z : State) (a0 : Array Value) (hw : ∀ d ∈ tables_1, d.before a0 Z = true) (ws : List Jvm.Cond) (r0 : Addr) (pos : Int32) (tk : Int64) (b : Addr) (h0 : Heap) (n0 : Nat) (M0 : own_MB Z h0 r0 .null (.ref b) (.int (4 : Int32)) (.int pos) (.long tk)) :
    MetFree l (⟨"com/example/shrewd_spider/shrewdspider/net/MessageBytes", "fill", "()Z"⟩ : MethodName) (head1 (Jvm.Cond.code (⟨"com/example/shrewd_spider/shrewdspider/net/MessageBytes", "fill", "()Z"⟩ : MethodName) prog_8_method_10_code 2 (some .boolean) :: ws) ({ frames := 0, cells := 0, slots := 0, locals := 0 } : Room)) (fun a U => a = #[(.ref r0)] ∧ Z.Warmed39 U.vm ∧ U.heap = h0) (fun _ _ _ _ _ => True) (fun _ U o U' => ∃ v L, o = .returned v ∧ Q_rm10 Z r0 pos tk b h0 n0 v U'.heap L ∧ FrameEnd U o U' L ({ frames := 0, cells := 0, slots := 0, locals := 0 } : Room).cells ({ frames := 0, cells := 0, slots := 0, locals := 0 } : Room).slots) := by
  refine MetFree.of_bodySF (plainFor_of_name pn_1) hisR ?_
  intro p e s m args below meth c s₁ Bd hml0 hP hK
  obtain ⟨rfl, hZ, hh⟩ := hP
  have hx := Bd.exec
  have hby := Bd.bytes
  have hml : c.maxLocals = 2 := hml0
  have hown : s.vm.findClass "com/example/shrewd_spider/shrewdspider/net/MessageBytes" = some m.cls := findClass_of_methodNamed Bd.named
  have hnm := (name_of_methodNamed Bd.named Bd.method).1
  have X0 : Stand p l e ({ frames := 0, cells := 0, slots := 0, locals := 0 } : Room) s m #[(.ref r0)] below meth c s₁ [] 0 0 := Stand.of_body Bd
  have e0 : s₁.heap = h0 := by rw [← hh, Bd.state]; rfl
  have N0 := Fr.nil n0
  refine Onw.of (Onw.go (fun own_u k => castTop (ef_10 m r0) k) ?_)
  show Onw p e below _ (s₁.setTop (mkF m 0 #[.val (.ref r0), .unset] []))
  refine Onw.go (fun own_u kt => XS.aloadN X0.here hx rfl (hb hby d10_0) rfl rfl kt) ?_
  show Onw p e below _ (s₁.setTop (mkF m 1 #[.val (.ref r0), .unset] [(.ref r0)]))
  obtain ⟨T1, X1, e1, st1⟩ := getF X0 hx hZ hown (host := "") (Or.inl (hw _ (List.mem_of_getElem? (i := 15) rfl))) Via.refl e0 M0.2.1 (g := (mkF m 1 #[.val (.ref r0), .unset] [(.ref r0)])) rfl rfl (hb hby d10_1)
  refine Onw.go st1 ?_
  show Onw p e below _ (T1.setTop (mkF m 4 #[.val (.ref r0), .unset] [.null]))
  refine Onw.go (fun own_u kt => XS.ifnonnullNo X1.here hx rfl (hb hby d10_4) rfl kt) ?_
  show Onw p e below _ (T1.setTop (mkF m 7 #[.val (.ref r0), .unset] []))
  refine Onw.go (fun own_u kt => XS.iconst X1.here hx rfl (hb hby d10_7) kt) ?_
  show Onw p e below _ (T1.setTop (mkF m 8 #[.val (.ref r0), .unset] [(.int (0 : Int32))]))
  exact Onw.ret X1 Bd.notSynchronized (fun h => by rw [Bd.returns] at h; cases h) (fun fs hr => retN X1 hx (t := .boolean) Bd.returns (by simp) (hb hby d10_8) hr) ⟨rfl, N0, e1⟩ (by decide) (by decide)
theorem ef_8 (m : MethodId) (x0 : Addr) (x1 : Addr) (x2 : Int32) (x3 : Int32) : entryFrame m #[(.ref x0), (.ref x1), (.int x2), (.int x3)] 5 = mkF m 0 #[.val (.ref x0), .val (.ref x1), .val (.int x2), .val (.int x3), .unset] [] := by first | (simp [entryFrame, mkF, argsToLocals, Value.category]; done) | rfl
def Q_rm_take (Z : State) (r0 : Addr) (r1 : Addr) (p2 : Int32) (p3 : Int32) (pos : Int32) (tk : Int64) (b : Addr) (kb : ClassId) (m0 m1 m2 m3 : Int32) (kd : ClassId) (zd : Int32) (vd : List Value) (dd : Value) (h0 : Heap) (n0 : Nat) (v : Option Value) (h : Heap) (L : List Loc) : Prop := v = some (.int p3) ∧ Fr n0 L ∧ Keep h0 h [r0, r1] ∧ own_MB Z h r0 .null (.ref b) (.int (4 : Int32)) (.int (pos + p3)) (.long (tk + p3.toInt64)) ∧ Arv Z h r1 kd .byte zd ((vd.take (0 : Int32).toNatClampNeg) ++ ((List.range p3.toNatClampNeg).map fun i => ([.int m0, .int m1, .int m2, .int m3] : List Value).getD (pos.toNatClampNeg + i) (.int (0 : Int32))) ++ vd.drop ((0 : Int32).toNatClampNeg + p3.toNatClampNeg)) dd
theorem d8_0 : decode prog_8_method_8_code 0 = .ok (.aload_n 0, 1) := by decide +kernel
theorem d8_1 : decode prog_8_method_8_code 1 = .ok (.getfield 43, 3) := by decide +kernel
theorem d8_4 : decode prog_8_method_8_code 4 = .ok (.aload_n 0, 1) := by decide +kernel
theorem d8_5 : decode prog_8_method_8_code 5 = .ok (.getfield 18, 3) := by decide +kernel
theorem d8_8 : decode prog_8_method_8_code 8 = .ok (.if_icmp .ne 12, 3) := by decide +kernel
theorem d8_20 : decode prog_8_method_8_code 20 = .ok (.iload_n 3, 1) := by decide +kernel
theorem d8_21 : decode prog_8_method_8_code 21 = .ok (.aload_n 0, 1) := by decide +kernel
theorem d8_22 : decode prog_8_method_8_code 22 = .ok (.getfield 18, 3) := by decide +kernel
theorem d8_25 : decode prog_8_method_8_code 25 = .ok (.aload_n 0, 1) := by decide +kernel
theorem d8_26 : decode prog_8_method_8_code 26 = .ok (.getfield 43, 3) := by decide +kernel
theorem d8_29 : decode prog_8_method_8_code 29 = .ok (.isub, 1) := by decide +kernel
theorem d8_30 : decode prog_8_method_8_code 30 = .ok (.invokestatic 50, 3) := by decide +kernel
theorem d8_33 : decode prog_8_method_8_code 33 = .ok (.istore 4, 2) := by decide +kernel
theorem d8_35 : decode prog_8_method_8_code 35 = .ok (.aload_n 0, 1) := by decide +kernel
theorem d8_36 : decode prog_8_method_8_code 36 = .ok (.getfield 14, 3) := by decide +kernel
theorem d8_39 : decode prog_8_method_8_code 39 = .ok (.aload_n 0, 1) := by decide +kernel
theorem d8_40 : decode prog_8_method_8_code 40 = .ok (.getfield 43, 3) := by decide +kernel
theorem d8_43 : decode prog_8_method_8_code 43 = .ok (.aload_n 1, 1) := by decide +kernel
theorem d8_44 : decode prog_8_method_8_code 44 = .ok (.iload_n 2, 1) := by decide +kernel
theorem d8_45 : decode prog_8_method_8_code 45 = .ok (.iload 4, 2) := by decide +kernel
theorem d8_47 : decode prog_8_method_8_code 47 = .ok (.invokestatic 56, 3) := by decide +kernel
theorem d8_50 : decode prog_8_method_8_code 50 = .ok (.aload_n 0, 1) := by decide +kernel
theorem d8_51 : decode prog_8_method_8_code 51 = .ok (.dup, 1) := by decide +kernel
theorem d8_52 : decode prog_8_method_8_code 52 = .ok (.getfield 43, 3) := by decide +kernel
theorem d8_55 : decode prog_8_method_8_code 55 = .ok (.iload 4, 2) := by decide +kernel
theorem d8_57 : decode prog_8_method_8_code 57 = .ok (.iadd, 1) := by decide +kernel
theorem d8_58 : decode prog_8_method_8_code 58 = .ok (.putfield 43, 3) := by decide +kernel
theorem d8_61 : decode prog_8_method_8_code 61 = .ok (.aload_n 0, 1) := by decide +kernel
theorem d8_62 : decode prog_8_method_8_code 62 = .ok (.dup, 1) := by decide +kernel
theorem d8_63 : decode prog_8_method_8_code 63 = .ok (.getfield 22, 3) := by decide +kernel
theorem d8_66 : decode prog_8_method_8_code 66 = .ok (.iload 4, 2) := by decide +kernel
theorem d8_68 : decode prog_8_method_8_code 68 = .ok (.i2l, 1) := by decide +kernel
theorem d8_69 : decode prog_8_method_8_code 69 = .ok (.ladd, 1) := by decide +kernel
theorem d8_70 : decode prog_8_method_8_code 70 = .ok (.putfield 22, 3) := by decide +kernel
theorem d8_73 : decode prog_8_method_8_code 73 = .ok (.iload 4, 2) := by decide +kernel
theorem d8_75 : decode prog_8_method_8_code 75 = .ok (.ireturn, 1) := by decide +kernel
set_option maxRecDepth 65536 in
set_option maxHeartbeats 40000000 in
theorem rm_take (l : Launch) (Z : State) (a0 : Array Value) (hw : ∀ d ∈ tables_1, d.before a0 Z = true) (ws : List Jvm.Cond) (r0 : Addr) (r1 : Addr) (p2 : Int32) (p3 : Int32) (pos : Int32) (tk : Int64) (b : Addr) (kb : ClassId) (m0 m1 m2 m3 : Int32) (kd : ClassId) (zd : Int32) (vd : List Value) (dd : Value) (h0 : Heap) (n0 : Nat) (M0 : own_MB Z h0 r0 .null (.ref b) (.int (4 : Int32)) (.int pos) (.long tk)) (V0 : Arv Z h0 b kb .byte (4 : Int32) [.int m0, .int m1, .int m2, .int m3] (.int (0 : Int32))) (B0 : Arv Z h0 r1 kd .byte zd vd dd) (hne : b ≠ r0) (hne1 : b ≠ r1) (hne2 : r0 ≠ r1) (g_r0 : n0 ≤ r0) (g_r1 : n0 ≤ r1) (h2 : p2 = 0) (hp : 0 ≤ pos.toInt ∧ 1 ≤ p3.toInt ∧ pos.toInt + p3.toInt ≤ 4) (hz : p3.toNatClampNeg ≤ zd.toNatClampNeg) (hz2 : p3.toNatClampNeg ≤ vd.length) :
    MetFree l (⟨"com/example/shrewd_spider/shrewdspider/net/MessageBytes", "take", "([BII)I"⟩ : MethodName) (head1 (Jvm.Cond.code (⟨"com/example/shrewd_spider/shrewdspider/net/MessageBytes", "take", "([BII)I"⟩ : MethodName) prog_8_method_8_code 5 (some .int) :: ws) ({ frames := 1, cells := 0, slots := 0, locals := 40 } : Room)) (fun a U => a = #[(.ref r0), (.ref r1), (.int p2), (.int p3)] ∧ Z.Warmed39 U.vm ∧ U.heap = h0) (fun _ _ _ _ _ => True) (fun _ U o U' => ∃ v L, o = .returned v ∧ Q_rm_take Z r0 r1 p2 p3 pos tk b kb m0 m1 m2 m3 kd zd vd dd h0 n0 v U'.heap L ∧ FrameEnd U o U' L ({ frames := 1, cells := 0, slots := 0, locals := 40 } : Room).cells ({ frames := 1, cells := 0, slots := 0, locals := 40 } : Room).slots) := by
  refine MetFree.of_bodySF (plainFor_of_name pn_1) hisR ?_
  intro p e s m args below meth c s₁ Bd hml0 hP hK
  obtain ⟨rfl, hZ, hh⟩ := hP
  have hx := Bd.exec
  have hby := Bd.bytes
  have hml : c.maxLocals = 5 := hml0
  have hown : s.vm.findClass "com/example/shrewd_spider/shrewdspider/net/MessageBytes" = some m.cls := findClass_of_methodNamed Bd.named
  have hnm := (name_of_methodNamed Bd.named Bd.method).1
  have X0 : Stand p l e ({ frames := 1, cells := 0, slots := 0, locals := 40 } : Room) s m #[(.ref r0), (.ref r1), (.int p2), (.int p3)] below meth c s₁ [] 0 0 := Stand.of_body Bd
  have e0 : s₁.heap = h0 := by rw [← hh, Bd.state]; rfl
  have N0 := Fr.nil n0
  refine Onw.of (Onw.go (fun own_u k => castTop (ef_8 m r0 r1 p2 p3) k) ?_)
  show Onw p e below _ (s₁.setTop (mkF m 0 #[.val (.ref r0), .val (.ref r1), .val (.int p2), .val (.int p3), .unset] []))
  subst h2
  show Onw p e below _ (s₁.setTop (mkF m 0 #[.val (.ref r0), .val (.ref r1), .val (.int (0 : Int32)), .val (.int p3), .unset] []))
  refine Onw.go (fun own_u kt => XS.aloadN X0.here hx rfl (hb hby d8_0) rfl rfl kt) ?_
  show Onw p e below _ (s₁.setTop (mkF m 1 #[.val (.ref r0), .val (.ref r1), .val (.int (0 : Int32)), .val (.int p3), .unset] [(.ref r0)]))
  obtain ⟨T1, X1, e1, st1⟩ := getF X0 hx hZ hown (host := "") (Or.inl (hw _ (List.mem_of_getElem? (i := 29) rfl))) Via.refl e0 M0.2.2.2.2.1 (g := (mkF m 1 #[.val (.ref r0), .val (.ref r1), .val (.int (0 : Int32)), .val (.int p3), .unset] [(.ref r0)])) rfl rfl (hb hby d8_1)
  refine Onw.go st1 ?_
  show Onw p e below _ (T1.setTop (mkF m 4 #[.val (.ref r0), .val (.ref r1), .val (.int (0 : Int32)), .val (.int p3), .unset] [(.int pos)]))
  refine Onw.go (fun own_u kt => XS.aloadN X1.here hx rfl (hb hby d8_4) rfl rfl kt) ?_
  show Onw p e below _ (T1.setTop (mkF m 5 #[.val (.ref r0), .val (.ref r1), .val (.int (0 : Int32)), .val (.int p3), .unset] [(.ref r0), (.int pos)]))
  obtain ⟨T2, X2, e2, st2⟩ := getF X1 hx hZ hown (host := "") (Or.inl (hw _ (List.mem_of_getElem? (i := 19) rfl))) Via.refl e1 M0.2.2.2.1 (g := (mkF m 5 #[.val (.ref r0), .val (.ref r1), .val (.int (0 : Int32)), .val (.int p3), .unset] [(.ref r0), (.int pos)])) rfl rfl (hb hby d8_5)
  refine Onw.go st2 ?_
  show Onw p e below _ (T2.setTop (mkF m 8 #[.val (.ref r0), .val (.ref r1), .val (.int (0 : Int32)), .val (.int p3), .unset] [(.int (4 : Int32)), (.int pos)]))
  refine Onw.go (fun own_u kt => XS.icmpYes X2.here hx rfl (pc0 := 8) (pc' := 20) rfl (hb hby d8_8) rfl (feq (own_not4 hp : ¬ (pos = (4 : Int32)))).2 (by decide) (by decide) kt) ?_
  show Onw p e below _ (T2.setTop (mkF m 20 #[.val (.ref r0), .val (.ref r1), .val (.int (0 : Int32)), .val (.int p3), .unset] []))
  refine Onw.go (fun own_u kt => XS.iloadN X2.here hx rfl (hb hby d8_20) rfl kt) ?_
  show Onw p e below _ (T2.setTop (mkF m 21 #[.val (.ref r0), .val (.ref r1), .val (.int (0 : Int32)), .val (.int p3), .unset] [(.int p3)]))
  refine Onw.go (fun own_u kt => XS.aloadN X2.here hx rfl (hb hby d8_21) rfl rfl kt) ?_
  show Onw p e below _ (T2.setTop (mkF m 22 #[.val (.ref r0), .val (.ref r1), .val (.int (0 : Int32)), .val (.int p3), .unset] [(.ref r0), (.int p3)]))
  obtain ⟨T3, X3, e3, st3⟩ := getF X2 hx hZ hown (host := "") (Or.inl (hw _ (List.mem_of_getElem? (i := 19) rfl))) Via.refl e2 M0.2.2.2.1 (g := (mkF m 22 #[.val (.ref r0), .val (.ref r1), .val (.int (0 : Int32)), .val (.int p3), .unset] [(.ref r0), (.int p3)])) rfl rfl (hb hby d8_22)
  refine Onw.go st3 ?_
  show Onw p e below _ (T3.setTop (mkF m 25 #[.val (.ref r0), .val (.ref r1), .val (.int (0 : Int32)), .val (.int p3), .unset] [(.int (4 : Int32)), (.int p3)]))
  refine Onw.go (fun own_u kt => XS.aloadN X3.here hx rfl (hb hby d8_25) rfl rfl kt) ?_
  show Onw p e below _ (T3.setTop (mkF m 26 #[.val (.ref r0), .val (.ref r1), .val (.int (0 : Int32)), .val (.int p3), .unset] [(.ref r0), (.int (4 : Int32)), (.int p3)]))
  obtain ⟨T4, X4, e4, st4⟩ := getF X3 hx hZ hown (host := "") (Or.inl (hw _ (List.mem_of_getElem? (i := 29) rfl))) Via.refl e3 M0.2.2.2.2.1 (g := (mkF m 26 #[.val (.ref r0), .val (.ref r1), .val (.int (0 : Int32)), .val (.int p3), .unset] [(.ref r0), (.int (4 : Int32)), (.int p3)])) rfl rfl (hb hby d8_26)
  refine Onw.go st4 ?_
  show Onw p e below _ (T4.setTop (mkF m 29 #[.val (.ref r0), .val (.ref r1), .val (.int (0 : Int32)), .val (.int p3), .unset] [(.int pos), (.int (4 : Int32)), (.int p3)]))
  refine Onw.go (fun own_u kt => XS.isub X4.here hx rfl (hb hby d8_29) rfl kt) ?_
  show Onw p e below _ (T4.setTop (mkF m 30 #[.val (.ref r0), .val (.ref r1), .val (.int (0 : Int32)), .val (.int p3), .unset] [(.int ((4 : Int32) - pos)), (.int p3)]))
  obtain ⟨_, _, ⟨T5, L5, k5, n5⟩, -, X5, ⟨Lc5, hQ5, l5, y5, z5⟩, st5⟩ := Jvm.LawKit.callS X4 hx (y := (⟨"java/lang/Math", "min", "(II)I"⟩ : MethodName)) hown (mvT hZ (hw _ (List.mem_of_getElem? (i := 48) rfl))) (mvT hZ (hw _ (List.mem_of_getElem? (i := 49) rfl))) (mvT hZ (hw _ (List.mem_of_getElem? (i := 50) rfl))) (mvT hZ (hw _ (List.mem_of_getElem? (i := 51) rfl))) (by decide) (backOf (W := 0) (rm9 l Z a0 hw [] p3 ((4 : Int32) - pos)  h0 n0 ) hZ (hw _ (List.mem_of_getElem? (i := 51) rfl)) (hw _ (List.mem_of_getElem? (i := 50) rfl)) (by decide) (by decide)) (g := (mkF m 30 #[.val (.ref r0), .val (.ref r1), .val (.int (0 : Int32)), .val (.int p3), .unset] [(.int ((4 : Int32) - pos)), (.int p3)])) rfl (by rw [hml]; rfl) (argsL := [(.int p3), (.int ((4 : Int32) - pos))]) (rest := []) (lenOf pd_7 rfl) rfl (by show 2 * 0 + _ ≤ _; exact Nat.le_of_eq rfl) (hb hby d8_30) (fun _ _ => ⟨rfl, e4, (by decide : 0 + 0 ≤ _), (by decide : 0 + 0 ≤ _)⟩)
  dsimp only [Pt.U, Pt.locs, Pt.cells, Pt.slots] at X5 l5 y5 z5 st5 hQ5
  subst l5 y5 z5
  obtain ⟨rfl, N5q, e5q⟩ := hQ5
  have N5 := Fr.app N0 N5q
  refine Onw.go st5 ?_
  show Onw p e below _ (T5.setTop (mkF m 33 #[.val (.ref r0), .val (.ref r1), .val (.int (0 : Int32)), .val (.int p3), .unset] [(.int (own_min p3 ((4 : Int32) - pos)))]))
  rw [(own_min3 hp : (own_min p3 ((4 : Int32) - pos)) = p3)]
  show Onw p e below _ (T5.setTop (mkF m 33 #[.val (.ref r0), .val (.ref r1), .val (.int (0 : Int32)), .val (.int p3), .unset] [(.int p3)]))
  refine Onw.go (fun own_u kt => XS.istore X5.here hx rfl (hb hby d8_33) rfl (l' := #[.val (.ref r0), .val (.ref r1), .val (.int (0 : Int32)), .val (.int p3), .val (.int p3)]) rfl kt) ?_
  show Onw p e below _ (T5.setTop (mkF m 35 #[.val (.ref r0), .val (.ref r1), .val (.int (0 : Int32)), .val (.int p3), .val (.int p3)] []))
  refine Onw.go (fun own_u kt => XS.aloadN X5.here hx rfl (hb hby d8_35) rfl rfl kt) ?_
  show Onw p e below _ (T5.setTop (mkF m 36 #[.val (.ref r0), .val (.ref r1), .val (.int (0 : Int32)), .val (.int p3), .val (.int p3)] [(.ref r0)]))
  obtain ⟨T6, X6, e6, st6⟩ := getF X5 hx hZ hown (host := "") (Or.inl (hw _ (List.mem_of_getElem? (i := 17) rfl))) Via.refl e5q M0.2.2.1 (g := (mkF m 36 #[.val (.ref r0), .val (.ref r1), .val (.int (0 : Int32)), .val (.int p3), .val (.int p3)] [(.ref r0)])) rfl rfl (hb hby d8_36)
  refine Onw.go st6 ?_
  show Onw p e below _ (T6.setTop (mkF m 39 #[.val (.ref r0), .val (.ref r1), .val (.int (0 : Int32)), .val (.int p3), .val (.int p3)] [(.ref b)]))
  refine Onw.go (fun own_u kt => XS.aloadN X6.here hx rfl (hb hby d8_39) rfl rfl kt) ?_
  show Onw p e below _ (T6.setTop (mkF m 40 #[.val (.ref r0), .val (.ref r1), .val (.int (0 : Int32)), .val (.int p3), .val (.int p3)] [(.ref r0), (.ref b)]))
  obtain ⟨T7, X7, e7, st7⟩ := getF X6 hx hZ hown (host := "") (Or.inl (hw _ (List.mem_of_getElem? (i := 29) rfl))) Via.refl e6 M0.2.2.2.2.1 (g := (mkF m 40 #[.val (.ref r0), .val (.ref r1), .val (.int (0 : Int32)), .val (.int p3), .val (.int p3)] [(.ref r0), (.ref b)])) rfl rfl (hb hby d8_40)
  refine Onw.go st7 ?_
  show Onw p e below _ (T7.setTop (mkF m 43 #[.val (.ref r0), .val (.ref r1), .val (.int (0 : Int32)), .val (.int p3), .val (.int p3)] [(.int pos), (.ref b)]))
  refine Onw.go (fun own_u kt => XS.aloadN X7.here hx rfl (hb hby d8_43) rfl rfl kt) ?_
  show Onw p e below _ (T7.setTop (mkF m 44 #[.val (.ref r0), .val (.ref r1), .val (.int (0 : Int32)), .val (.int p3), .val (.int p3)] [(.ref r1), (.int pos), (.ref b)]))
  refine Onw.go (fun own_u kt => XS.iloadN X7.here hx rfl (hb hby d8_44) rfl kt) ?_
  show Onw p e below _ (T7.setTop (mkF m 45 #[.val (.ref r0), .val (.ref r1), .val (.int (0 : Int32)), .val (.int p3), .val (.int p3)] [(.int (0 : Int32)), (.ref r1), (.int pos), (.ref b)]))
  refine Onw.go (fun own_u kt => XS.iload X7.here hx rfl (hb hby d8_45) rfl kt) ?_
  show Onw p e below _ (T7.setTop (mkF m 47 #[.val (.ref r0), .val (.ref r1), .val (.int (0 : Int32)), .val (.int p3), .val (.int p3)] [(.int p3), (.int (0 : Int32)), (.ref r1), (.int pos), (.ref b)]))
  obtain ⟨T8, h8, L8, X8, e8, N8, K8, V8, st8⟩ := cpA X7 hx hZ hown (hw _ (List.mem_of_getElem? (i := 52) rfl)) (hw _ (List.mem_of_getElem? (i := 55) rfl)) (hw _ (List.mem_of_getElem? (i := 53) rfl)) (hw _ (List.mem_of_getElem? (i := 54) rfl)) e7 V0 B0 (Or.inl ⟨rfl, rfl⟩) (own_nn hp.1) (by decide) (own_nn (Int.le_trans (by decide) hp.2.1)) (own_fit4 hp) (by rw [show (0 : Int32).toNatClampNeg = 0 from rfl, Nat.zero_add]; exact hz) rfl (by rw [show (0 : Int32).toNatClampNeg = 0 from rfl, Nat.zero_add]; exact hz2) N5 g_r1 (g := (mkF m 47 #[.val (.ref r0), .val (.ref r1), .val (.int (0 : Int32)), .val (.int p3), .val (.int p3)] [(.int p3), (.int (0 : Int32)), (.ref r1), (.int pos), (.ref b)])) rfl (by rw [hml]; rfl) rfl (hb hby d8_47) (by decide) (W := 0) (by show 2 * 0 + _ ≤ _; exact Nat.le_of_eq rfl) (by decide)
  refine Onw.go st8 ?_
  show Onw p e below _ (T8.setTop (mkF m 50 #[.val (.ref r0), .val (.ref r1), .val (.int (0 : Int32)), .val (.int p3), .val (.int p3)] []))
  have M1 := M0.keep K8 (by simpa using hne2)
  refine Onw.go (fun own_u kt => XS.aloadN X8.here hx rfl (hb hby d8_50) rfl rfl kt) ?_
  show Onw p e below _ (T8.setTop (mkF m 51 #[.val (.ref r0), .val (.ref r1), .val (.int (0 : Int32)), .val (.int p3), .val (.int p3)] [(.ref r0)]))
  refine Onw.go (fun own_u kt => XS.dup X8.here hx rfl (hb hby d8_51) rfl rfl kt) ?_
  show Onw p e below _ (T8.setTop (mkF m 52 #[.val (.ref r0), .val (.ref r1), .val (.int (0 : Int32)), .val (.int p3), .val (.int p3)] [(.ref r0), (.ref r0)]))
  obtain ⟨T9, X9, e9, st9⟩ := getF X8 hx hZ hown (host := "") (Or.inl (hw _ (List.mem_of_getElem? (i := 29) rfl))) Via.refl e8 M1.2.2.2.2.1 (g := (mkF m 52 #[.val (.ref r0), .val (.ref r1), .val (.int (0 : Int32)), .val (.int p3), .val (.int p3)] [(.ref r0), (.ref r0)])) rfl rfl (hb hby d8_52)
  refine Onw.go st9 ?_
  show Onw p e below _ (T9.setTop (mkF m 55 #[.val (.ref r0), .val (.ref r1), .val (.int (0 : Int32)), .val (.int p3), .val (.int p3)] [(.int pos), (.ref r0)]))
  refine Onw.go (fun own_u kt => XS.iload X9.here hx rfl (hb hby d8_55) rfl kt) ?_
  show Onw p e below _ (T9.setTop (mkF m 57 #[.val (.ref r0), .val (.ref r1), .val (.int (0 : Int32)), .val (.int p3), .val (.int p3)] [(.int p3), (.int pos), (.ref r0)]))
  refine Onw.go (fun own_u kt => XS.iadd X9.here hx rfl (hb hby d8_57) rfl kt) ?_
  show Onw p e below _ (T9.setTop (mkF m 58 #[.val (.ref r0), .val (.ref r1), .val (.int (0 : Int32)), .val (.int p3), .val (.int p3)] [(.int (pos + p3)), (.ref r0)]))
  obtain ⟨T10, h10, X10, e10, W10, st10⟩ := putF X9 hx hZ hown (host := "") (Or.inl (hw _ (List.mem_of_getElem? (i := 29) rfl))) Via.refl e9 M1.2.2.2.2.1 M1.1 (Or.inl (hw _ (List.mem_of_getElem? (i := 30) rfl))) (hw _ (List.mem_of_getElem? (i := 7) rfl)) (ty := .int) (by decide) rfl rfl (g := (mkF m 58 #[.val (.ref r0), .val (.ref r1), .val (.int (0 : Int32)), .val (.int p3), .val (.int p3)] [(.int (pos + p3)), (.ref r0)])) rfl rfl (hb hby d8_58)
  have N10 := Fr.snoc X10 N8 g_r0
  refine Onw.go st10 ?_
  show Onw p e below _ (T10.setTop (mkF m 61 #[.val (.ref r0), .val (.ref r1), .val (.int (0 : Int32)), .val (.int p3), .val (.int p3)] []))
  have M2 := own_set_position hw M1 W10
  refine Onw.go (fun own_u kt => XS.aloadN X10.here hx rfl (hb hby d8_61) rfl rfl kt) ?_
  show Onw p e below _ (T10.setTop (mkF m 62 #[.val (.ref r0), .val (.ref r1), .val (.int (0 : Int32)), .val (.int p3), .val (.int p3)] [(.ref r0)]))
  refine Onw.go (fun own_u kt => XS.dup X10.here hx rfl (hb hby d8_62) rfl rfl kt) ?_
  show Onw p e below _ (T10.setTop (mkF m 63 #[.val (.ref r0), .val (.ref r1), .val (.int (0 : Int32)), .val (.int p3), .val (.int p3)] [(.ref r0), (.ref r0)]))
  obtain ⟨T11, X11, e11, st11⟩ := getF X10 hx hZ hown (host := "") (Or.inl (hw _ (List.mem_of_getElem? (i := 31) rfl))) Via.refl e10 M2.2.2.2.2.2 (g := (mkF m 63 #[.val (.ref r0), .val (.ref r1), .val (.int (0 : Int32)), .val (.int p3), .val (.int p3)] [(.ref r0), (.ref r0)])) rfl rfl (hb hby d8_63)
  refine Onw.go st11 ?_
  show Onw p e below _ (T11.setTop (mkF m 66 #[.val (.ref r0), .val (.ref r1), .val (.int (0 : Int32)), .val (.int p3), .val (.int p3)] [(.long tk), (.ref r0)]))
  refine Onw.go (fun own_u kt => XS.iload X11.here hx rfl (hb hby d8_66) rfl kt) ?_
  show Onw p e below _ (T11.setTop (mkF m 68 #[.val (.ref r0), .val (.ref r1), .val (.int (0 : Int32)), .val (.int p3), .val (.int p3)] [(.int p3), (.long tk), (.ref r0)]))
  refine Onw.go (fun own_u kt => XS.i2l X11.here hx rfl (hb hby d8_68) rfl kt) ?_
  show Onw p e below _ (T11.setTop (mkF m 69 #[.val (.ref r0), .val (.ref r1), .val (.int (0 : Int32)), .val (.int p3), .val (.int p3)] [(.long (p3.toInt64)), (.long tk), (.ref r0)]))
  refine Onw.go (fun own_u kt => XS.ladd X11.here hx rfl (hb hby d8_69) rfl kt) ?_
  show Onw p e below _ (T11.setTop (mkF m 70 #[.val (.ref r0), .val (.ref r1), .val (.int (0 : Int32)), .val (.int p3), .val (.int p3)] [(.long (tk + (p3.toInt64))), (.ref r0)]))
  obtain ⟨T12, h12, X12, e12, W12, st12⟩ := putF X11 hx hZ hown (host := "") (Or.inl (hw _ (List.mem_of_getElem? (i := 31) rfl))) Via.refl e11 M2.2.2.2.2.2 M2.1 (Or.inl (hw _ (List.mem_of_getElem? (i := 32) rfl))) (hw _ (List.mem_of_getElem? (i := 7) rfl)) (ty := .long) (by decide) rfl rfl (g := (mkF m 70 #[.val (.ref r0), .val (.ref r1), .val (.int (0 : Int32)), .val (.int p3), .val (.int p3)] [(.long (tk + (p3.toInt64))), (.ref r0)])) rfl rfl (hb hby d8_70)
  have N12 := Fr.snoc X12 N10 g_r0
  refine Onw.go st12 ?_
  show Onw p e below _ (T12.setTop (mkF m 73 #[.val (.ref r0), .val (.ref r1), .val (.int (0 : Int32)), .val (.int p3), .val (.int p3)] []))
  have M3 := own_set_taken hw M2 W12
  have K3 : Keep h0 h12 [r0, r1] := (((Keep.refl h0 [r0, r1]).trans K8 (fun x hx => Or.inl (by simp at hx; simp [hx]))).wr W10 (Or.inl (List.mem_of_getElem? (i := 0) rfl))).wr W12 (Or.inl (List.mem_of_getElem? (i := 0) rfl))
  have V3 := (V8.other W10 hne2.symm).other W12 hne2.symm
  refine Onw.go (fun own_u kt => XS.iload X12.here hx rfl (hb hby d8_73) rfl kt) ?_
  show Onw p e below _ (T12.setTop (mkF m 75 #[.val (.ref r0), .val (.ref r1), .val (.int (0 : Int32)), .val (.int p3), .val (.int p3)] [(.int p3)]))
  exact Onw.ret X12 Bd.notSynchronized (fun h => by rw [Bd.returns] at h; cases h) (fun fs hr => retI X12 hx Bd.returns (hb hby d8_75) hr) ⟨rfl, N12, by rw [e12]; exact K3, by rw [e12]; exact M3, by rw [e12]; exact V3⟩ (by decide) (by decide)
def Q_rm_takeEnd (Z : State) (r0 : Addr) (r1 : Addr) (p2 : Int32) (p3 : Int32) (tk : Int64) (b : Addr) (h0 : Heap) (n0 : Nat) (v : Option Value) (h : Heap) (L : List Loc) : Prop := v = some (.int (-1 : Int32)) ∧ Fr n0 L ∧ h = h0
theorem d8_11 : decode prog_8_method_8_code 11 = .ok (.aload_n 0, 1) := by decide +kernel
theorem d8_12 : decode prog_8_method_8_code 12 = .ok (.invokevirtual 46, 3) := by decide +kernel
theorem d8_15 : decode prog_8_method_8_code 15 = .ok (.ifCond .ne 5, 3) := by decide +kernel
theorem d8_18 : decode prog_8_method_8_code 18 = .ok (.iconst (-1), 1) := by decide +kernel
theorem d8_19 : decode prog_8_method_8_code 19 = .ok (.ireturn, 1) := by decide +kernel
set_option maxRecDepth 65536 in
set_option maxHeartbeats 40000000 in
theorem rm_takeEnd (l : Launch) (Z : State) (a0 : Array Value) (hw : ∀ d ∈ tables_1, d.before a0 Z = true) (ws : List Jvm.Cond) (r0 : Addr) (r1 : Addr) (p2 : Int32) (p3 : Int32) (tk : Int64) (b : Addr) (h0 : Heap) (n0 : Nat) (M0 : own_MB Z h0 r0 .null (.ref b) (.int (4 : Int32)) (.int (4 : Int32)) (.long tk)) :
    MetFree l (⟨"com/example/shrewd_spider/shrewdspider/net/MessageBytes", "take", "([BII)I"⟩ : MethodName) (head1 (Jvm.Cond.code (⟨"com/example/shrewd_spider/shrewdspider/net/MessageBytes", "take", "([BII)I"⟩ : MethodName) prog_8_method_8_code 5 (some .int) :: ws) ({ frames := 1, cells := 0, slots := 0, locals := 40 } : Room)) (fun a U => a = #[(.ref r0), (.ref r1), (.int p2), (.int p3)] ∧ Z.Warmed39 U.vm ∧ U.heap = h0) (fun _ _ _ _ _ => True) (fun _ U o U' => ∃ v L, o = .returned v ∧ Q_rm_takeEnd Z r0 r1 p2 p3 tk b h0 n0 v U'.heap L ∧ FrameEnd U o U' L ({ frames := 1, cells := 0, slots := 0, locals := 40 } : Room).cells ({ frames := 1, cells := 0, slots := 0, locals := 40 } : Room).slots) := by
  refine MetFree.of_bodySF (plainFor_of_name pn_1) hisR ?_
  intro p e s m args below meth c s₁ Bd hml0 hP hK
  obtain ⟨rfl, hZ, hh⟩ := hP
  have hx := Bd.exec
  have hby := Bd.bytes
  have hml : c.maxLocals = 5 := hml0
  have hown : s.vm.findClass "com/example/shrewd_spider/shrewdspider/net/MessageBytes" = some m.cls := findClass_of_methodNamed Bd.named
  have hnm := (name_of_methodNamed Bd.named Bd.method).1
  have X0 : Stand p l e ({ frames := 1, cells := 0, slots := 0, locals := 40 } : Room) s m #[(.ref r0), (.ref r1), (.int p2), (.int p3)] below meth c s₁ [] 0 0 := Stand.of_body Bd
  have e0 : s₁.heap = h0 := by rw [← hh, Bd.state]; rfl
  have N0 := Fr.nil n0
  refine Onw.of (Onw.go (fun own_u k => castTop (ef_8 m r0 r1 p2 p3) k) ?_)
  show Onw p e below _ (s₁.setTop (mkF m 0 #[.val (.ref r0), .val (.ref r1), .val (.int p2), .val (.int p3), .unset] []))
  refine Onw.go (fun own_u kt => XS.aloadN X0.here hx rfl (hb hby d8_0) rfl rfl kt) ?_
  show Onw p e below _ (s₁.setTop (mkF m 1 #[.val (.ref r0), .val (.ref r1), .val (.int p2), .val (.int p3), .unset] [(.ref r0)]))
  obtain ⟨T1, X1, e1, st1⟩ := getF X0 hx hZ hown (host := "") (Or.inl (hw _ (List.mem_of_getElem? (i := 29) rfl))) Via.refl e0 M0.2.2.2.2.1 (g := (mkF m 1 #[.val (.ref r0), .val (.ref r1), .val (.int p2), .val (.int p3), .unset] [(.ref r0)])) rfl rfl (hb hby d8_1)
  refine Onw.go st1 ?_
  show Onw p e below _ (T1.setTop (mkF m 4 #[.val (.ref r0), .val (.ref r1), .val (.int p2), .val (.int p3), .unset] [(.int (4 : Int32))]))
  refine Onw.go (fun own_u kt => XS.aloadN X1.here hx rfl (hb hby d8_4) rfl rfl kt) ?_
  show Onw p e below _ (T1.setTop (mkF m 5 #[.val (.ref r0), .val (.ref r1), .val (.int p2), .val (.int p3), .unset] [(.ref r0), (.int (4 : Int32))]))
  obtain ⟨T2, X2, e2, st2⟩ := getF X1 hx hZ hown (host := "") (Or.inl (hw _ (List.mem_of_getElem? (i := 19) rfl))) Via.refl e1 M0.2.2.2.1 (g := (mkF m 5 #[.val (.ref r0), .val (.ref r1), .val (.int p2), .val (.int p3), .unset] [(.ref r0), (.int (4 : Int32))])) rfl rfl (hb hby d8_5)
  refine Onw.go st2 ?_
  show Onw p e below _ (T2.setTop (mkF m 8 #[.val (.ref r0), .val (.ref r1), .val (.int p2), .val (.int p3), .unset] [(.int (4 : Int32)), (.int (4 : Int32))]))
  refine Onw.go (fun own_u kt => XS.icmpNo X2.here hx rfl (hb hby d8_8) rfl (teq (rfl : (4 : Int32) = (4 : Int32))).2 kt) ?_
  show Onw p e below _ (T2.setTop (mkF m 11 #[.val (.ref r0), .val (.ref r1), .val (.int p2), .val (.int p3), .unset] []))
  refine Onw.go (fun own_u kt => XS.aloadN X2.here hx rfl (hb hby d8_11) rfl rfl kt) ?_
  show Onw p e below _ (T2.setTop (mkF m 12 #[.val (.ref r0), .val (.ref r1), .val (.int p2), .val (.int p3), .unset] [(.ref r0)]))
  obtain ⟨cq, q1, q2⟩ := M0.1.cell
  have hpv := Cond.privateMethod_at (mvP hZ (hw _ (List.mem_of_getElem? (i := 58) rfl)) (args := #[]))
  have hsel : (Jvm.Cond.selects "com/example/shrewd_spider/shrewdspider/net/MessageBytes" ({ cls := "com/example/shrewd_spider/shrewdspider/net/MessageBytes", name := "fill", desc := "()Z" } : Jvm.MethodName) ({ cls := "com/example/shrewd_spider/shrewdspider/net/MessageBytes", name := "fill", desc := "()Z" } : Jvm.MethodName)).before #[] s = true := own_self (mvT hZ (hw _ (List.mem_of_getElem? (i := 36) rfl))) hpv (mvT hZ (hw _ (List.mem_of_getElem? (i := 57) rfl))) (by decide) (by decide)
  obtain ⟨_, _, ⟨T3, L3, k3, n3⟩, -, X3, ⟨Lc3, hQ3, l3, y3, z3⟩, st3⟩ := X2.privateBack hx (y := (⟨"com/example/shrewd_spider/shrewdspider/net/MessageBytes", "fill", "()Z"⟩ : MethodName)) hown (mvT hZ (hw _ (List.mem_of_getElem? (i := 56) rfl))) (mvT hZ (hw _ (List.mem_of_getElem? (i := 57) rfl))) (own_args hsel) hpv (mvT hZ (hw _ (List.mem_of_getElem? (i := 59) rfl))) (by decide) (backOf (W := 0) (rm10 l Z a0 hw [] r0 (4 : Int32) tk b h0 n0 M0) hZ (hw _ (List.mem_of_getElem? (i := 59) rfl)) (hw _ (List.mem_of_getElem? (i := 8) rfl)) (by decide) (by decide)) (g := (mkF m 12 #[.val (.ref r0), .val (.ref r1), .val (.int p2), .val (.int p3), .unset] [(.ref r0)])) rfl (by rw [hml]; rfl) (Steps.refl _) (a := r0) (by rw [e2]; exact q1) q2 (argsL := []) (rest := []) (lenOf pd_5 rfl) rfl (by show 2 * 0 + _ ≤ _; exact Nat.le_of_eq rfl) (hb hby d8_12) (fun _ _ => ⟨rfl, e2, (by decide : 0 + 0 ≤ _), (by decide : 0 + 0 ≤ _)⟩)
  dsimp only [Pt.U, Pt.locs, Pt.cells, Pt.slots] at X3 l3 y3 z3 st3 hQ3
  subst l3 y3 z3
  obtain ⟨rfl, N3q, e3q⟩ := hQ3
  have N3 := Fr.app N0 N3q
  refine Onw.go (fun own_u kt => st3.trans kt) ?_
  show Onw p e below _ (T3.setTop (mkF m 15 #[.val (.ref r0), .val (.ref r1), .val (.int p2), .val (.int p3), .unset] [(.int (0 : Int32))]))
  refine Onw.go (fun own_u kt => XS.ifNo X3.here hx rfl (hb hby d8_15) rfl ((if0 _ _).trans (teq (rfl : (0 : Int32) = (0 : Int32))).2) kt) ?_
  show Onw p e below _ (T3.setTop (mkF m 18 #[.val (.ref r0), .val (.ref r1), .val (.int p2), .val (.int p3), .unset] []))
  refine Onw.go (fun own_u kt => XS.iconst X3.here hx rfl (hb hby d8_18) kt) ?_
  show Onw p e below _ (T3.setTop (mkF m 19 #[.val (.ref r0), .val (.ref r1), .val (.int p2), .val (.int p3), .unset] [(.int (-1 : Int32))]))
  exact Onw.ret X3 Bd.notSynchronized (fun h => by rw [Bd.returns] at h; cases h) (fun fs hr => retI X3 hx Bd.returns (hb hby d8_19) hr) ⟨rfl, N3, e3q⟩ (by decide) (by decide)
set_option maxRecDepth 65536 in
set_option maxHeartbeats 40000000 in
theorem law_tail {p : Program} {l : Launch} {e : Env} {s : State} {m : MethodId} {args : Array Value} {below : List Frame} {meth : Method} {c : Code} {Z : State} {a0 : Array Value} {W : Outcome → State → Prop} (hx : p.tables.exec = Jvm.exec) (hZ : Z.Warmed39 s.vm) (hw : ∀ d ∈ tables_1, d.before a0 Z = true) (hby : c.code = code) (hml : c.maxLocals = 13) (hown : s.vm.findClass "com/example/shrewd_spider/shrewdspider/net/MessageBytesPassOverLineEndsPinLaw" = some m.cls) {h0 : Heap} {n0 : Nat}  (p0 p1 p2 p3 p4 pre : Int32) (c1 d a : Addr) (kd : ClassId) (b : Addr) (kb : ClassId) (m0 m1 m2 m3 : Int32) (q : Int32)
    {T0 : State} {locs0 : List Loc} (X0 : Stand p l e room_1 s m args below meth c T0 locs0 4 15) (e0 : T0.heap = h0) (N0 : Fr n0 locs0) (M0 : own_MB Z h0 a .null (.ref b) (.int (4 : Int32)) (.int pre) (.long pre.toInt64)) (V0 : Arv Z h0 b kb .byte (4 : Int32) [.int m0, .int m1, .int m2, .int m3] (.int (0 : Int32))) (B0 : Arv Z h0 d kd .byte (1 : Int32) [.int (0 : Int32)] (.int (0 : Int32))) (hba : b ≠ a) (hbd : b ≠ d) (had : a ≠ d) (g_a : n0 ≤ a) (g_d : n0 ≤ d) (hp : 0 ≤ pre.toInt ∧ pre.toInt ≤ 4) (hq : own_sk4 (own_el m0 m1 m2 m3) pre = q) (hK : ∀ (pc : Nat) (Ls : Array Slot) (T' : State) (locs' : List Loc), (pc = 262 ∨ pc = 274) → Stand p l e room_1 s m args below meth c T' locs' 4 15 → Fr n0 locs' → Onw p e below W (T'.setTop (mkF m pc Ls [(.int (1 : Int32))]))) :
    Onw p e below W (T0.setTop (mkF m 149 #[.val (.int p0), .val (.int p1), .val (.int p2), .val (.int p3), .val (.int p4), .val (.ref b), .val (.ref c1), .val (.ref d), .val (.int pre), .val (.ref a), .val (.int q), .unset, .unset] [])) := by
  obtain ⟨q1, q2, q3, q4⟩ := own_place (own_el m0 m1 m2 m3) hp hq
  refine Onw.go (fun own_u kt => XS.aload X0.here hx rfl (hb hby at_149) rfl rfl kt) ?_
  show Onw p e below _ (T0.setTop (mkF m 151 #[.val (.int p0), .val (.int p1), .val (.int p2), .val (.int p3), .val (.int p4), .val (.ref b), .val (.ref c1), .val (.ref d), .val (.int pre), .val (.ref a), .val (.int q), .unset, .unset] [(.ref a)]))
  obtain ⟨cq1, kq1, q1a, q1b, q1c⟩ := isOf hZ e0 M0.1
  obtain ⟨_, _, ⟨T1, L1, k1, n1⟩, -, X1, ⟨Lc1, hQ1, l1, y1, z1⟩, st1⟩ := X0.virtualBack hx (y := (⟨"com/example/shrewd_spider/shrewdspider/net/MessageBytes", "passOverLineEnds", "()V"⟩ : MethodName)) (z := (⟨"com/example/shrewd_spider/shrewdspider/net/MessageBytes", "passOverLineEnds", "()V"⟩ : MethodName)) hown (mvT hZ (hw _ (List.mem_of_getElem? (i := 24) rfl))) (mvT hZ (hw _ (List.mem_of_getElem? (i := 25) rfl))) (notFace_of_selects (args := #[]) (mvT hZ (hw _ (List.mem_of_getElem? (i := 27) rfl)))) (mvT hZ (hw _ (List.mem_of_getElem? (i := 27) rfl))) (mvT hZ (hw _ (List.mem_of_getElem? (i := 26) rfl))) (by decide) (backOf (W := 0) (rm5 l Z a0 hw [] a pre pre.toInt64 b kb m0 m1 m2 m3 h0 n0 M0 V0 hba g_a hp) hZ (hw _ (List.mem_of_getElem? (i := 28) rfl)) (hw _ (List.mem_of_getElem? (i := 8) rfl)) (by decide) (by decide)) q1a q1c (g := (mkF m 151 #[.val (.int p0), .val (.int p1), .val (.int p2), .val (.int p3), .val (.int p4), .val (.ref b), .val (.ref c1), .val (.ref d), .val (.int pre), .val (.ref a), .val (.int q), .unset, .unset] [(.ref a)])) rfl (by rw [hml]; rfl) (Steps.refl _) (argsL := []) (rest := []) (lenOf pd_3 rfl) rfl (by show 2 * 0 + _ ≤ _; exact Nat.le_of_eq rfl) (hb hby at_151) (fun _ _ => ⟨rfl, e0, (by decide : 4 + 0 ≤ _), (by decide : 15 + 0 ≤ _)⟩)
  dsimp only [Pt.U, Pt.locs, Pt.cells, Pt.slots] at X1 l1 y1 z1 st1 hQ1
  subst l1 y1 z1
  obtain ⟨rfl, N1q, K1, M1⟩ := hQ1
  have N1 := Fr.app N0 N1q
  refine Onw.go (fun own_u kt => st1.trans kt) ?_
  show Onw p e below _ (T1.setTop (mkF m 154 #[.val (.int p0), .val (.int p1), .val (.int p2), .val (.int p3), .val (.int p4), .val (.ref b), .val (.ref c1), .val (.ref d), .val (.int pre), .val (.ref a), .val (.int q), .unset, .unset] []))
  rw [q3] at M1
  have V1 := V0.keep K1 (by simpa using hba)
  have B1 := B0.keep K1 (by simpa using had.symm)
  refine Onw.go (fun own_u kt => XS.aload X1.here hx rfl (hb hby at_154) rfl rfl kt) ?_
  show Onw p e below _ (T1.setTop (mkF m 156 #[.val (.int p0), .val (.int p1), .val (.int p2), .val (.int p3), .val (.int p4), .val (.ref b), .val (.ref c1), .val (.ref d), .val (.int pre), .val (.ref a), .val (.int q), .unset, .unset] [(.ref a)]))
  obtain ⟨cq2, kq2, q2a, q2b, q2c⟩ := isOf hZ rfl M1.1
  obtain ⟨_, _, ⟨T2, L2, k2, n2⟩, -, X2, ⟨Lc2, hQ2, l2, y2, z2⟩, st2⟩ := X1.virtualBack hx (y := (⟨"com/example/shrewd_spider/shrewdspider/net/MessageBytes", "taken", "()J"⟩ : MethodName)) (z := (⟨"com/example/shrewd_spider/shrewdspider/net/MessageBytes", "taken", "()J"⟩ : MethodName)) hown (mvT hZ (hw _ (List.mem_of_getElem? (i := 33) rfl))) (mvT hZ (hw _ (List.mem_of_getElem? (i := 34) rfl))) (notFace_of_selects (args := #[]) (mvT hZ (hw _ (List.mem_of_getElem? (i := 36) rfl)))) (mvT hZ (hw _ (List.mem_of_getElem? (i := 36) rfl))) (mvT hZ (hw _ (List.mem_of_getElem? (i := 35) rfl))) (by decide) (backOf (W := 0) (rm6 l Z a0 hw [] a q _ b T1.heap n0 M1) hZ (hw _ (List.mem_of_getElem? (i := 37) rfl)) (hw _ (List.mem_of_getElem? (i := 8) rfl)) (by decide) (by decide)) q2a q2c (g := (mkF m 156 #[.val (.int p0), .val (.int p1), .val (.int p2), .val (.int p3), .val (.int p4), .val (.ref b), .val (.ref c1), .val (.ref d), .val (.int pre), .val (.ref a), .val (.int q), .unset, .unset] [(.ref a)])) rfl (by rw [hml]; rfl) (Steps.refl _) (argsL := []) (rest := []) (lenOf pd_4 rfl) rfl (by show 2 * 0 + _ ≤ _; exact Nat.le_of_eq rfl) (hb hby at_156) (fun _ _ => ⟨rfl, rfl, (by decide : 4 + 0 ≤ _), (by decide : 15 + 0 ≤ _)⟩)
  dsimp only [Pt.U, Pt.locs, Pt.cells, Pt.slots] at X2 l2 y2 z2 st2 hQ2
  subst l2 y2 z2
  obtain ⟨rfl, N2q, e2q⟩ := hQ2
  have N2 := Fr.app N1 N2q
  refine Onw.go (fun own_u kt => st2.trans kt) ?_
  show Onw p e below _ (T2.setTop (mkF m 159 #[.val (.int p0), .val (.int p1), .val (.int p2), .val (.int p3), .val (.int p4), .val (.ref b), .val (.ref c1), .val (.ref d), .val (.int pre), .val (.ref a), .val (.int q), .unset, .unset] [(.long (pre.toInt64 + (q - pre).toInt64))]))
  rw [(own_sum hp q1 : (pre.toInt64 + (q - pre).toInt64) = (q.toInt64))]
  show Onw p e below _ (T2.setTop (mkF m 159 #[.val (.int p0), .val (.int p1), .val (.int p2), .val (.int p3), .val (.int p4), .val (.ref b), .val (.ref c1), .val (.ref d), .val (.int pre), .val (.ref a), .val (.int q), .unset, .unset] [(.long (q.toInt64))]))
  refine Onw.go (fun own_u kt => XS.iload X2.here hx rfl (hb hby at_159) rfl kt) ?_
  show Onw p e below _ (T2.setTop (mkF m 161 #[.val (.int p0), .val (.int p1), .val (.int p2), .val (.int p3), .val (.int p4), .val (.ref b), .val (.ref c1), .val (.ref d), .val (.int pre), .val (.ref a), .val (.int q), .unset, .unset] [(.int q), (.long (q.toInt64))]))
  refine Onw.go (fun own_u kt => XS.i2l X2.here hx rfl (hb hby at_161) rfl kt) ?_
  show Onw p e below _ (T2.setTop (mkF m 162 #[.val (.int p0), .val (.int p1), .val (.int p2), .val (.int p3), .val (.int p4), .val (.ref b), .val (.ref c1), .val (.ref d), .val (.int pre), .val (.ref a), .val (.int q), .unset, .unset] [(.long (q.toInt64)), (.long (q.toInt64))]))
  refine Onw.go (fun own_u kt => XS.lcmp X2.here hx rfl (hb hby at_162) rfl kt) ?_
  show Onw p e below _ (T2.setTop (mkF m 163 #[.val (.int p0), .val (.int p1), .val (.int p2), .val (.int p3), .val (.int p4), .val (.ref b), .val (.ref c1), .val (.ref d), .val (.int pre), .val (.ref a), .val (.int q), .unset, .unset] [(.int (lcmpW (q.toInt64) (q.toInt64)))]))
  refine Onw.go (fun own_u kt => XS.ifYes X2.here hx rfl (pc0 := 163) (pc' := 168) rfl (hb hby at_163) rfl ((if0 _ _).trans (teq ((lw_eq _ _).mpr rfl : (lcmpW (q.toInt64) (q.toInt64)) = (0 : Int32))).1) (by decide) (by decide) kt) ?_
  show Onw p e below _ (T2.setTop (mkF m 168 #[.val (.int p0), .val (.int p1), .val (.int p2), .val (.int p3), .val (.int p4), .val (.ref b), .val (.ref c1), .val (.ref d), .val (.int pre), .val (.ref a), .val (.int q), .unset, .unset] []))
  refine Onw.go (fun own_u kt => XS.aload X2.here hx rfl (hb hby at_168) rfl rfl kt) ?_
  show Onw p e below _ (T2.setTop (mkF m 170 #[.val (.int p0), .val (.int p1), .val (.int p2), .val (.int p3), .val (.int p4), .val (.ref b), .val (.ref c1), .val (.ref d), .val (.int pre), .val (.ref a), .val (.int q), .unset, .unset] [(.ref a)]))
  obtain ⟨cq3, kq3, q3a, q3b, q3c⟩ := isOf hZ e2q M1.1
  obtain ⟨_, _, ⟨T3, L3, k3, n3⟩, -, X3, ⟨Lc3, hQ3, l3, y3, z3⟩, st3⟩ := X2.virtualBack hx (y := (⟨"com/example/shrewd_spider/shrewdspider/net/MessageBytes", "passOverLineEnds", "()V"⟩ : MethodName)) (z := (⟨"com/example/shrewd_spider/shrewdspider/net/MessageBytes", "passOverLineEnds", "()V"⟩ : MethodName)) hown (mvT hZ (hw _ (List.mem_of_getElem? (i := 24) rfl))) (mvT hZ (hw _ (List.mem_of_getElem? (i := 25) rfl))) (notFace_of_selects (args := #[]) (mvT hZ (hw _ (List.mem_of_getElem? (i := 27) rfl)))) (mvT hZ (hw _ (List.mem_of_getElem? (i := 27) rfl))) (mvT hZ (hw _ (List.mem_of_getElem? (i := 26) rfl))) (by decide) (backOf (W := 0) (rm5 l Z a0 hw [] a q (pre.toInt64 + (q - pre).toInt64) b kb m0 m1 m2 m3 T1.heap n0 M1 V1 hba g_a (own_le4 hp q1)) hZ (hw _ (List.mem_of_getElem? (i := 28) rfl)) (hw _ (List.mem_of_getElem? (i := 8) rfl)) (by decide) (by decide)) q3a q3c (g := (mkF m 170 #[.val (.int p0), .val (.int p1), .val (.int p2), .val (.int p3), .val (.int p4), .val (.ref b), .val (.ref c1), .val (.ref d), .val (.int pre), .val (.ref a), .val (.int q), .unset, .unset] [(.ref a)])) rfl (by rw [hml]; rfl) (Steps.refl _) (argsL := []) (rest := []) (lenOf pd_3 rfl) rfl (by show 2 * 0 + _ ≤ _; exact Nat.le_of_eq rfl) (hb hby at_170) (fun _ _ => ⟨rfl, e2q, (by decide : 4 + 0 ≤ _), (by decide : 15 + 0 ≤ _)⟩)
  dsimp only [Pt.U, Pt.locs, Pt.cells, Pt.slots] at X3 l3 y3 z3 st3 hQ3
  subst l3 y3 z3
  obtain ⟨rfl, N3q, K3, M3⟩ := hQ3
  have N3 := Fr.app N2 N3q
  refine Onw.go (fun own_u kt => st3.trans kt) ?_
  show Onw p e below _ (T3.setTop (mkF m 173 #[.val (.int p0), .val (.int p1), .val (.int p2), .val (.int p3), .val (.int p4), .val (.ref b), .val (.ref c1), .val (.ref d), .val (.int pre), .val (.ref a), .val (.int q), .unset, .unset] []))
  rw [q4] at M3
  have V2 := V1.keep K3 (by simpa using hba)
  have B2 := B1.keep K3 (by simpa using had.symm)
  refine Onw.go (fun own_u kt => XS.aload X3.here hx rfl (hb hby at_173) rfl rfl kt) ?_
  show Onw p e below _ (T3.setTop (mkF m 175 #[.val (.int p0), .val (.int p1), .val (.int p2), .val (.int p3), .val (.int p4), .val (.ref b), .val (.ref c1), .val (.ref d), .val (.int pre), .val (.ref a), .val (.int q), .unset, .unset] [(.ref a)]))
  obtain ⟨cq4, kq4, q4a, q4b, q4c⟩ := isOf hZ rfl M3.1
  obtain ⟨_, _, ⟨T4, L4, k4, n4⟩, -, X4, ⟨Lc4, hQ4, l4, y4, z4⟩, st4⟩ := X3.virtualBack hx (y := (⟨"com/example/shrewd_spider/shrewdspider/net/MessageBytes", "taken", "()J"⟩ : MethodName)) (z := (⟨"com/example/shrewd_spider/shrewdspider/net/MessageBytes", "taken", "()J"⟩ : MethodName)) hown (mvT hZ (hw _ (List.mem_of_getElem? (i := 33) rfl))) (mvT hZ (hw _ (List.mem_of_getElem? (i := 34) rfl))) (notFace_of_selects (args := #[]) (mvT hZ (hw _ (List.mem_of_getElem? (i := 36) rfl)))) (mvT hZ (hw _ (List.mem_of_getElem? (i := 36) rfl))) (mvT hZ (hw _ (List.mem_of_getElem? (i := 35) rfl))) (by decide) (backOf (W := 0) (rm6 l Z a0 hw [] a q _ b T3.heap n0 M3) hZ (hw _ (List.mem_of_getElem? (i := 37) rfl)) (hw _ (List.mem_of_getElem? (i := 8) rfl)) (by decide) (by decide)) q4a q4c (g := (mkF m 175 #[.val (.int p0), .val (.int p1), .val (.int p2), .val (.int p3), .val (.int p4), .val (.ref b), .val (.ref c1), .val (.ref d), .val (.int pre), .val (.ref a), .val (.int q), .unset, .unset] [(.ref a)])) rfl (by rw [hml]; rfl) (Steps.refl _) (argsL := []) (rest := []) (lenOf pd_4 rfl) rfl (by show 2 * 0 + _ ≤ _; exact Nat.le_of_eq rfl) (hb hby at_175) (fun _ _ => ⟨rfl, rfl, (by decide : 4 + 0 ≤ _), (by decide : 15 + 0 ≤ _)⟩)
  dsimp only [Pt.U, Pt.locs, Pt.cells, Pt.slots] at X4 l4 y4 z4 st4 hQ4
  subst l4 y4 z4
  obtain ⟨rfl, N4q, e4q⟩ := hQ4
  have N4 := Fr.app N3 N4q
  refine Onw.go (fun own_u kt => st4.trans kt) ?_
  show Onw p e below _ (T4.setTop (mkF m 178 #[.val (.int p0), .val (.int p1), .val (.int p2), .val (.int p3), .val (.int p4), .val (.ref b), .val (.ref c1), .val (.ref d), .val (.int pre), .val (.ref a), .val (.int q), .unset, .unset] [(.long ((pre.toInt64 + (q - pre).toInt64) + (q - q).toInt64))]))
  rw [(own_sum2 hp q1 : ((pre.toInt64 + (q - pre).toInt64) + (q - q).toInt64) = (q.toInt64))]
  show Onw p e below _ (T4.setTop (mkF m 178 #[.val (.int p0), .val (.int p1), .val (.int p2), .val (.int p3), .val (.int p4), .val (.ref b), .val (.ref c1), .val (.ref d), .val (.int pre), .val (.ref a), .val (.int q), .unset, .unset] [(.long (q.toInt64))]))
  refine Onw.go (fun own_u kt => XS.iload X4.here hx rfl (hb hby at_178) rfl kt) ?_
  show Onw p e below _ (T4.setTop (mkF m 180 #[.val (.int p0), .val (.int p1), .val (.int p2), .val (.int p3), .val (.int p4), .val (.ref b), .val (.ref c1), .val (.ref d), .val (.int pre), .val (.ref a), .val (.int q), .unset, .unset] [(.int q), (.long (q.toInt64))]))
  refine Onw.go (fun own_u kt => XS.i2l X4.here hx rfl (hb hby at_180) rfl kt) ?_
  show Onw p e below _ (T4.setTop (mkF m 181 #[.val (.int p0), .val (.int p1), .val (.int p2), .val (.int p3), .val (.int p4), .val (.ref b), .val (.ref c1), .val (.ref d), .val (.int pre), .val (.ref a), .val (.int q), .unset, .unset] [(.long (q.toInt64)), (.long (q.toInt64))]))
  refine Onw.go (fun own_u kt => XS.lcmp X4.here hx rfl (hb hby at_181) rfl kt) ?_
  show Onw p e below _ (T4.setTop (mkF m 182 #[.val (.int p0), .val (.int p1), .val (.int p2), .val (.int p3), .val (.int p4), .val (.ref b), .val (.ref c1), .val (.ref d), .val (.int pre), .val (.ref a), .val (.int q), .unset, .unset] [(.int (lcmpW (q.toInt64) (q.toInt64)))]))
  refine Onw.go (fun own_u kt => XS.ifYes X4.here hx rfl (pc0 := 182) (pc' := 187) rfl (hb hby at_182) rfl ((if0 _ _).trans (teq ((lw_eq _ _).mpr rfl : (lcmpW (q.toInt64) (q.toInt64)) = (0 : Int32))).1) (by decide) (by decide) kt) ?_
  show Onw p e below _ (T4.setTop (mkF m 187 #[.val (.int p0), .val (.int p1), .val (.int p2), .val (.int p3), .val (.int p4), .val (.ref b), .val (.ref c1), .val (.ref d), .val (.int pre), .val (.ref a), .val (.int q), .unset, .unset] []))
  refine Onw.go (fun own_u kt => XS.aload X4.here hx rfl (hb hby at_187) rfl rfl kt) ?_
  show Onw p e below _ (T4.setTop (mkF m 189 #[.val (.int p0), .val (.int p1), .val (.int p2), .val (.int p3), .val (.int p4), .val (.ref b), .val (.ref c1), .val (.ref d), .val (.int pre), .val (.ref a), .val (.int q), .unset, .unset] [(.ref a)]))
  obtain ⟨cq5, kq5, q5a, q5b, q5c⟩ := isOf hZ e4q M3.1
  obtain ⟨_, _, ⟨T5, L5, k5, n5⟩, -, X5, ⟨Lc5, hQ5, l5, y5, z5⟩, st5⟩ := X4.virtualBack hx (y := (⟨"com/example/shrewd_spider/shrewdspider/net/MessageBytes", "holdsMore", "()Z"⟩ : MethodName)) (z := (⟨"com/example/shrewd_spider/shrewdspider/net/MessageBytes", "holdsMore", "()Z"⟩ : MethodName)) hown (mvT hZ (hw _ (List.mem_of_getElem? (i := 38) rfl))) (mvT hZ (hw _ (List.mem_of_getElem? (i := 39) rfl))) (notFace_of_selects (args := #[]) (mvT hZ (hw _ (List.mem_of_getElem? (i := 41) rfl)))) (mvT hZ (hw _ (List.mem_of_getElem? (i := 41) rfl))) (mvT hZ (hw _ (List.mem_of_getElem? (i := 40) rfl))) (by decide) (backOf (W := 0) (rm7 l Z a0 hw [] a q _ b T3.heap n0 M3) hZ (hw _ (List.mem_of_getElem? (i := 42) rfl)) (hw _ (List.mem_of_getElem? (i := 8) rfl)) (by decide) (by decide)) q5a q5c (g := (mkF m 189 #[.val (.int p0), .val (.int p1), .val (.int p2), .val (.int p3), .val (.int p4), .val (.ref b), .val (.ref c1), .val (.ref d), .val (.int pre), .val (.ref a), .val (.int q), .unset, .unset] [(.ref a)])) rfl (by rw [hml]; rfl) (Steps.refl _) (argsL := []) (rest := []) (lenOf pd_5 rfl) rfl (by show 2 * 0 + _ ≤ _; exact Nat.le_of_eq rfl) (hb hby at_189) (fun _ _ => ⟨rfl, e4q, (by decide : 4 + 0 ≤ _), (by decide : 15 + 0 ≤ _)⟩)
  dsimp only [Pt.U, Pt.locs, Pt.cells, Pt.slots] at X5 l5 y5 z5 st5 hQ5
  subst l5 y5 z5
  obtain ⟨rfl, N5q, e5q⟩ := hQ5
  have N5 := Fr.app N4 N5q
  refine Onw.go (fun own_u kt => st5.trans kt) ?_
  show Onw p e below _ (T5.setTop (mkF m 192 #[.val (.int p0), .val (.int p1), .val (.int p2), .val (.int p3), .val (.int p4), .val (.ref b), .val (.ref c1), .val (.ref d), .val (.int pre), .val (.ref a), .val (.int q), .unset, .unset] [(.int (own_more q))]))
  refine Onw.go (fun own_u kt => XS.istore X5.here hx rfl (hb hby at_192) rfl (l' := #[.val (.int p0), .val (.int p1), .val (.int p2), .val (.int p3), .val (.int p4), .val (.ref b), .val (.ref c1), .val (.ref d), .val (.int pre), .val (.ref a), .val (.int q), .val (.int (own_more q)), .unset]) rfl kt) ?_
  show Onw p e below _ (T5.setTop (mkF m 194 #[.val (.int p0), .val (.int p1), .val (.int p2), .val (.int p3), .val (.int p4), .val (.ref b), .val (.ref c1), .val (.ref d), .val (.int pre), .val (.ref a), .val (.int q), .val (.int (own_more q)), .unset] []))
  refine Onw.go (fun own_u kt => XS.iload X5.here hx rfl (hb hby at_194) rfl kt) ?_
  show Onw p e below _ (T5.setTop (mkF m 196 #[.val (.int p0), .val (.int p1), .val (.int p2), .val (.int p3), .val (.int p4), .val (.ref b), .val (.ref c1), .val (.ref d), .val (.int pre), .val (.ref a), .val (.int q), .val (.int (own_more q)), .unset] [(.int (own_more q))]))
  refine Onw.go (fun own_u kt => XS.iload X5.here hx rfl (hb hby at_196) rfl kt) ?_
  show Onw p e below _ (T5.setTop (mkF m 198 #[.val (.int p0), .val (.int p1), .val (.int p2), .val (.int p3), .val (.int p4), .val (.ref b), .val (.ref c1), .val (.ref d), .val (.int pre), .val (.ref a), .val (.int q), .val (.int (own_more q)), .unset] [(.int q), (.int (own_more q))]))
  refine Onw.go (fun own_u kt => XS.iconst X5.here hx rfl (hb hby at_198) kt) ?_
  show Onw p e below _ (T5.setTop (mkF m 199 #[.val (.int p0), .val (.int p1), .val (.int p2), .val (.int p3), .val (.int p4), .val (.ref b), .val (.ref c1), .val (.ref d), .val (.int pre), .val (.ref a), .val (.int q), .val (.int (own_more q)), .unset] [(.int (4 : Int32)), (.int q), (.int (own_more q))]))
  by_cases h4 : q < (4 : Int32)
  · refine Onw.go (fun own_u kt => XS.icmpNo X5.here hx rfl (hb hby at_199) rfl (tlt (h4 : q < (4 : Int32))).2.1 kt) ?_
    show Onw p e below _ (T5.setTop (mkF m 202 #[.val (.int p0), .val (.int p1), .val (.int p2), .val (.int p3), .val (.int p4), .val (.ref b), .val (.ref c1), .val (.ref d), .val (.int pre), .val (.ref a), .val (.int q), .val (.int (own_more q)), .unset] [(.int (own_more q))]))
    refine Onw.go (fun own_u kt => XS.iconst X5.here hx rfl (hb hby at_202) kt) ?_
    show Onw p e below _ (T5.setTop (mkF m 203 #[.val (.int p0), .val (.int p1), .val (.int p2), .val (.int p3), .val (.int p4), .val (.ref b), .val (.ref c1), .val (.ref d), .val (.int pre), .val (.ref a), .val (.int q), .val (.int (own_more q)), .unset] [(.int (1 : Int32)), (.int (own_more q))]))
    refine Onw.go (fun own_u kt => XS.goto X5.here hx rfl (pc0 := 203) (pc' := 207) rfl (hb hby at_203) (by decide) (by decide) kt) ?_
    show Onw p e below _ (T5.setTop (mkF m 207 #[.val (.int p0), .val (.int p1), .val (.int p2), .val (.int p3), .val (.int p4), .val (.ref b), .val (.ref c1), .val (.ref d), .val (.int pre), .val (.ref a), .val (.int q), .val (.int (own_more q)), .unset] [(.int (1 : Int32)), (.int (own_more q))]))
    have hm : own_more q = (1 : Int32) := by unfold own_more; rw [if_pos h4]
    refine Onw.go (fun own_u kt => XS.icmpYes X5.here hx rfl (pc0 := 207) (pc' := 212) rfl (hb hby at_207) rfl (teq (hm : (own_more q) = (1 : Int32))).1 (by decide) (by decide) kt) ?_
    show Onw p e below _ (T5.setTop (mkF m 212 #[.val (.int p0), .val (.int p1), .val (.int p2), .val (.int p3), .val (.int p4), .val (.ref b), .val (.ref c1), .val (.ref d), .val (.int pre), .val (.ref a), .val (.int q), .val (.int (own_more q)), .unset] []))
    refine Onw.go (fun own_u kt => XS.aload X5.here hx rfl (hb hby at_212) rfl rfl kt) ?_
    show Onw p e below _ (T5.setTop (mkF m 214 #[.val (.int p0), .val (.int p1), .val (.int p2), .val (.int p3), .val (.int p4), .val (.ref b), .val (.ref c1), .val (.ref d), .val (.int pre), .val (.ref a), .val (.int q), .val (.int (own_more q)), .unset] [(.ref a)]))
    refine Onw.go (fun own_u kt => XS.aload X5.here hx rfl (hb hby at_214) rfl rfl kt) ?_
    show Onw p e below _ (T5.setTop (mkF m 216 #[.val (.int p0), .val (.int p1), .val (.int p2), .val (.int p3), .val (.int p4), .val (.ref b), .val (.ref c1), .val (.ref d), .val (.int pre), .val (.ref a), .val (.int q), .val (.int (own_more q)), .unset] [(.ref d), (.ref a)]))
    refine Onw.go (fun own_u kt => XS.iconst X5.here hx rfl (hb hby at_216) kt) ?_
    show Onw p e below _ (T5.setTop (mkF m 217 #[.val (.int p0), .val (.int p1), .val (.int p2), .val (.int p3), .val (.int p4), .val (.ref b), .val (.ref c1), .val (.ref d), .val (.int pre), .val (.ref a), .val (.int q), .val (.int (own_more q)), .unset] [(.int (0 : Int32)), (.ref d), (.ref a)]))
    refine Onw.go (fun own_u kt => XS.iconst X5.here hx rfl (hb hby at_217) kt) ?_
    show Onw p e below _ (T5.setTop (mkF m 218 #[.val (.int p0), .val (.int p1), .val (.int p2), .val (.int p3), .val (.int p4), .val (.ref b), .val (.ref c1), .val (.ref d), .val (.int pre), .val (.ref a), .val (.int q), .val (.int (own_more q)), .unset] [(.int (1 : Int32)), (.int (0 : Int32)), (.ref d), (.ref a)]))
    obtain ⟨cq6, kq6, q6a, q6b, q6c⟩ := isOf hZ e5q M3.1
    obtain ⟨_, _, ⟨T6, L6, k6, n6⟩, -, X6, ⟨Lc6, hQ6, l6, y6, z6⟩, st6⟩ := X5.virtualBack hx (y := (⟨"com/example/shrewd_spider/shrewdspider/net/MessageBytes", "take", "([BII)I"⟩ : MethodName)) (z := (⟨"com/example/shrewd_spider/shrewdspider/net/MessageBytes", "take", "([BII)I"⟩ : MethodName)) hown (mvT hZ (hw _ (List.mem_of_getElem? (i := 43) rfl))) (mvT hZ (hw _ (List.mem_of_getElem? (i := 44) rfl))) (notFace_of_selects (args := #[]) (mvT hZ (hw _ (List.mem_of_getElem? (i := 46) rfl)))) (mvT hZ (hw _ (List.mem_of_getElem? (i := 46) rfl))) (mvT hZ (hw _ (List.mem_of_getElem? (i := 45) rfl))) (by decide) (backOf (W := 0) (rm_take l Z a0 hw [] a d (0 : Int32) (1 : Int32) q ((pre.toInt64 + (q - pre).toInt64) + (q - q).toInt64) b kb m0 m1 m2 m3 kd (1 : Int32) [.int (0 : Int32)] (.int (0 : Int32)) T3.heap n0 M3 V2 B2 hba hbd had g_a g_d rfl (own_one4 hp q1 h4) (by decide) (by decide)) hZ (hw _ (List.mem_of_getElem? (i := 47) rfl)) (hw _ (List.mem_of_getElem? (i := 8) rfl)) (by decide) (by decide)) q6a q6c (g := (mkF m 218 #[.val (.int p0), .val (.int p1), .val (.int p2), .val (.int p3), .val (.int p4), .val (.ref b), .val (.ref c1), .val (.ref d), .val (.int pre), .val (.ref a), .val (.int q), .val (.int (own_more q)), .unset] [(.int (1 : Int32)), (.int (0 : Int32)), (.ref d), (.ref a)])) rfl (by rw [hml]; rfl) (Steps.refl _) (argsL := [(.ref d), (.int (0 : Int32)), (.int (1 : Int32))]) (rest := []) (lenOf pd_6 rfl) rfl (by show 2 * 0 + _ ≤ _; exact Nat.le_of_eq rfl) (hb hby at_218) (fun _ _ => ⟨rfl, e5q, (by decide : 4 + 0 ≤ _), (by decide : 15 + 0 ≤ _)⟩)
    dsimp only [Pt.U, Pt.locs, Pt.cells, Pt.slots] at X6 l6 y6 z6 st6 hQ6
    subst l6 y6 z6
    obtain ⟨rfl, N6q, K6, M6, B6⟩ := hQ6
    have N6 := Fr.app N5 N6q
    refine Onw.go (fun own_u kt => st6.trans kt) ?_
    show Onw p e below _ (T6.setTop (mkF m 221 #[.val (.int p0), .val (.int p1), .val (.int p2), .val (.int p3), .val (.int p4), .val (.ref b), .val (.ref c1), .val (.ref d), .val (.int pre), .val (.ref a), .val (.int q), .val (.int (own_more q)), .unset] [(.int (1 : Int32))]))
    have V3 := V2.keep K6 (by simpa using ⟨hba, hbd⟩)
    refine Onw.go (fun own_u kt => XS.istore X6.here hx rfl (hb hby at_221) rfl (l' := #[.val (.int p0), .val (.int p1), .val (.int p2), .val (.int p3), .val (.int p4), .val (.ref b), .val (.ref c1), .val (.ref d), .val (.int pre), .val (.ref a), .val (.int q), .val (.int (own_more q)), .val (.int (1 : Int32))]) rfl kt) ?_
    show Onw p e below _ (T6.setTop (mkF m 223 #[.val (.int p0), .val (.int p1), .val (.int p2), .val (.int p3), .val (.int p4), .val (.ref b), .val (.ref c1), .val (.ref d), .val (.int pre), .val (.ref a), .val (.int q), .val (.int (own_more q)), .val (.int (1 : Int32))] []))
    refine Onw.go (fun own_u kt => XS.iload X6.here hx rfl (hb hby at_223) rfl kt) ?_
    show Onw p e below _ (T6.setTop (mkF m 225 #[.val (.int p0), .val (.int p1), .val (.int p2), .val (.int p3), .val (.int p4), .val (.ref b), .val (.ref c1), .val (.ref d), .val (.int pre), .val (.ref a), .val (.int q), .val (.int (own_more q)), .val (.int (1 : Int32))] [(.int q)]))
    refine Onw.go (fun own_u kt => XS.iconst X6.here hx rfl (hb hby at_225) kt) ?_
    show Onw p e below _ (T6.setTop (mkF m 226 #[.val (.int p0), .val (.int p1), .val (.int p2), .val (.int p3), .val (.int p4), .val (.ref b), .val (.ref c1), .val (.ref d), .val (.int pre), .val (.ref a), .val (.int q), .val (.int (own_more q)), .val (.int (1 : Int32))] [(.int (4 : Int32)), (.int q)]))
    refine Onw.go (fun own_u kt => XS.icmpNo X6.here hx rfl (hb hby at_226) rfl (tlt (h4 : q < (4 : Int32))).2.1 kt) ?_
    show Onw p e below _ (T6.setTop (mkF m 229 #[.val (.int p0), .val (.int p1), .val (.int p2), .val (.int p3), .val (.int p4), .val (.ref b), .val (.ref c1), .val (.ref d), .val (.int pre), .val (.ref a), .val (.int q), .val (.int (own_more q)), .val (.int (1 : Int32))] []))
    refine Onw.go (fun own_u kt => XS.iload X6.here hx rfl (hb hby at_229) rfl kt) ?_
    show Onw p e below _ (T6.setTop (mkF m 231 #[.val (.int p0), .val (.int p1), .val (.int p2), .val (.int p3), .val (.int p4), .val (.ref b), .val (.ref c1), .val (.ref d), .val (.int pre), .val (.ref a), .val (.int q), .val (.int (own_more q)), .val (.int (1 : Int32))] [(.int (1 : Int32))]))
    refine Onw.go (fun own_u kt => XS.iconst X6.here hx rfl (hb hby at_231) kt) ?_
    show Onw p e below _ (T6.setTop (mkF m 232 #[.val (.int p0), .val (.int p1), .val (.int p2), .val (.int p3), .val (.int p4), .val (.ref b), .val (.ref c1), .val (.ref d), .val (.int pre), .val (.ref a), .val (.int q), .val (.int (own_more q)), .val (.int (1 : Int32))] [(.int (1 : Int32)), (.int (1 : Int32))]))
    refine Onw.go (fun own_u kt => XS.icmpNo X6.here hx rfl (hb hby at_232) rfl (teq (rfl : (1 : Int32) = (1 : Int32))).2 kt) ?_
    show Onw p e below _ (T6.setTop (mkF m 235 #[.val (.int p0), .val (.int p1), .val (.int p2), .val (.int p3), .val (.int p4), .val (.ref b), .val (.ref c1), .val (.ref d), .val (.int pre), .val (.ref a), .val (.int q), .val (.int (own_more q)), .val (.int (1 : Int32))] []))
    refine Onw.go (fun own_u kt => XS.aload X6.here hx rfl (hb hby at_235) rfl rfl kt) ?_
    show Onw p e below _ (T6.setTop (mkF m 237 #[.val (.int p0), .val (.int p1), .val (.int p2), .val (.int p3), .val (.int p4), .val (.ref b), .val (.ref c1), .val (.ref d), .val (.int pre), .val (.ref a), .val (.int q), .val (.int (own_more q)), .val (.int (1 : Int32))] [(.ref d)]))
    refine Onw.go (fun own_u kt => XS.iconst X6.here hx rfl (hb hby at_237) kt) ?_
    show Onw p e below _ (T6.setTop (mkF m 238 #[.val (.int p0), .val (.int p1), .val (.int p2), .val (.int p3), .val (.int p4), .val (.ref b), .val (.ref c1), .val (.ref d), .val (.int pre), .val (.ref a), .val (.int q), .val (.int (own_more q)), .val (.int (1 : Int32))] [(.int (0 : Int32)), (.ref d)]))
    obtain ⟨cd, Ad, qd, Sd, Nd, Hd, Gd⟩ := B6
    obtain ⟨cl, Ar, qa, Sa, Na, Ha, Ga⟩ := V3
    obtain ⟨hin, hat⟩ := own_elt Sa Ha q (own_ge0 hp q1) (own_four h4)
    refine Onw.go (X6.baloadBytes hx (j := (0 : Int32)) (v := (.int (own_el m0 m1 m2 m3 q))) Ad.1 (State.isArrayOf_alike hZ.alike Ad.2.1) Ad.2.2 (inb_of Sd ⟨by decide, by decide⟩) (own_got Sd Hd (own_ge0 hp q1) (own_four h4)) (g := (mkF m 238 #[.val (.int p0), .val (.int p1), .val (.int p2), .val (.int p3), .val (.int p4), .val (.ref b), .val (.ref c1), .val (.ref d), .val (.int pre), .val (.ref a), .val (.int q), .val (.int (own_more q)), .val (.int (1 : Int32))] [(.int (0 : Int32)), (.ref d)])) rfl rfl (hb hby at_238)) ?_
    show Onw p e below _ (T6.setTop (mkF m 239 #[.val (.int p0), .val (.int p1), .val (.int p2), .val (.int p3), .val (.int p4), .val (.ref b), .val (.ref c1), .val (.ref d), .val (.int pre), .val (.ref a), .val (.int q), .val (.int (own_more q)), .val (.int (1 : Int32))] [(.int (own_el m0 m1 m2 m3 q))]))
    refine Onw.go (fun own_u kt => XS.aload X6.here hx rfl (hb hby at_239) rfl rfl kt) ?_
    show Onw p e below _ (T6.setTop (mkF m 241 #[.val (.int p0), .val (.int p1), .val (.int p2), .val (.int p3), .val (.int p4), .val (.ref b), .val (.ref c1), .val (.ref d), .val (.int pre), .val (.ref a), .val (.int q), .val (.int (own_more q)), .val (.int (1 : Int32))] [(.ref b), (.int (own_el m0 m1 m2 m3 q))]))
    refine Onw.go (fun own_u kt => XS.iload X6.here hx rfl (hb hby at_241) rfl kt) ?_
    show Onw p e below _ (T6.setTop (mkF m 243 #[.val (.int p0), .val (.int p1), .val (.int p2), .val (.int p3), .val (.int p4), .val (.ref b), .val (.ref c1), .val (.ref d), .val (.int pre), .val (.ref a), .val (.int q), .val (.int (own_more q)), .val (.int (1 : Int32))] [(.int q), (.ref b), (.int (own_el m0 m1 m2 m3 q))]))
    refine Onw.go (X6.baloadBytes hx (j := q) (v := (.int (own_el m0 m1 m2 m3 q))) Ar.1 (State.isArrayOf_alike hZ.alike Ar.2.1) Ar.2.2 hin hat (g := (mkF m 243 #[.val (.int p0), .val (.int p1), .val (.int p2), .val (.int p3), .val (.int p4), .val (.ref b), .val (.ref c1), .val (.ref d), .val (.int pre), .val (.ref a), .val (.int q), .val (.int (own_more q)), .val (.int (1 : Int32))] [(.int q), (.ref b), (.int (own_el m0 m1 m2 m3 q))])) rfl rfl (hb hby at_243)) ?_
    show Onw p e below _ (T6.setTop (mkF m 244 #[.val (.int p0), .val (.int p1), .val (.int p2), .val (.int p3), .val (.int p4), .val (.ref b), .val (.ref c1), .val (.ref d), .val (.int pre), .val (.ref a), .val (.int q), .val (.int (own_more q)), .val (.int (1 : Int32))] [(.int (own_el m0 m1 m2 m3 q)), (.int (own_el m0 m1 m2 m3 q))]))
    refine Onw.go (fun own_u kt => XS.icmpNo X6.here hx rfl (hb hby at_244) rfl (teq (rfl : (own_el m0 m1 m2 m3 q) = (own_el m0 m1 m2 m3 q))).2 kt) ?_
    show Onw p e below _ (T6.setTop (mkF m 247 #[.val (.int p0), .val (.int p1), .val (.int p2), .val (.int p3), .val (.int p4), .val (.ref b), .val (.ref c1), .val (.ref d), .val (.int pre), .val (.ref a), .val (.int q), .val (.int (own_more q)), .val (.int (1 : Int32))] []))
    refine Onw.go (fun own_u kt => XS.aload X6.here hx rfl (hb hby at_247) rfl rfl kt) ?_
    show Onw p e below _ (T6.setTop (mkF m 249 #[.val (.int p0), .val (.int p1), .val (.int p2), .val (.int p3), .val (.int p4), .val (.ref b), .val (.ref c1), .val (.ref d), .val (.int pre), .val (.ref a), .val (.int q), .val (.int (own_more q)), .val (.int (1 : Int32))] [(.ref b)]))
    refine Onw.go (fun own_u kt => XS.iload X6.here hx rfl (hb hby at_249) rfl kt) ?_
    show Onw p e below _ (T6.setTop (mkF m 251 #[.val (.int p0), .val (.int p1), .val (.int p2), .val (.int p3), .val (.int p4), .val (.ref b), .val (.ref c1), .val (.ref d), .val (.int pre), .val (.ref a), .val (.int q), .val (.int (own_more q)), .val (.int (1 : Int32))] [(.int q), (.ref b)]))
    have V4 : Arv Z T6.heap b kb .byte (4 : Int32) [.int m0, .int m1, .int m2, .int m3] (.int (0 : Int32)) := ⟨cl, Ar, qa, Sa, Na, Ha, Ga⟩
    obtain ⟨_, _, ⟨T7, L7, k7, n7⟩, -, X7, ⟨Lc7, hQ7, l7, y7, z7⟩, st7⟩ := Jvm.LawKit.callS X6 hx (y := (⟨"com/example/shrewd_spider/shrewdspider/net/MessageBytesPassOverLineEndsPinLaw", "isEnd", "([BI)Z"⟩ : MethodName)) hown (mvT hZ (hw _ (List.mem_of_getElem? (i := 21) rfl))) (mvT hZ (hw _ (List.mem_of_getElem? (i := 22) rfl))) (mvT hZ (hw _ (List.mem_of_getElem? (i := 3) rfl))) (mvT hZ (hw _ (List.mem_of_getElem? (i := 23) rfl))) (by decide) (backOf (W := 0) (rm4 l Z a0 hw [] b q kb m0 m1 m2 m3 T6.heap n0 V4 (own_ge0 hp q1)) hZ (hw _ (List.mem_of_getElem? (i := 23) rfl)) (hw _ (List.mem_of_getElem? (i := 3) rfl)) (by decide) (by decide)) (g := (mkF m 251 #[.val (.int p0), .val (.int p1), .val (.int p2), .val (.int p3), .val (.int p4), .val (.ref b), .val (.ref c1), .val (.ref d), .val (.int pre), .val (.ref a), .val (.int q), .val (.int (own_more q)), .val (.int (1 : Int32))] [(.int q), (.ref b)])) rfl (by rw [hml]; rfl) (argsL := [(.ref b), (.int q)]) (rest := []) (lenOf pd_2 rfl) rfl (by show 2 * 0 + _ ≤ _; exact Nat.le_of_eq rfl) (hb hby at_251) (fun _ _ => ⟨rfl, rfl, (by decide : 4 + 0 ≤ _), (by decide : 15 + 0 ≤ _)⟩)
    dsimp only [Pt.U, Pt.locs, Pt.cells, Pt.slots] at X7 l7 y7 z7 st7 hQ7
    subst l7 y7 z7
    obtain ⟨rfl, N7q, e7q⟩ := hQ7
    have N7 := Fr.app N6 N7q
    refine Onw.go st7 ?_
    show Onw p e below _ (T7.setTop (mkF m 254 #[.val (.int p0), .val (.int p1), .val (.int p2), .val (.int p3), .val (.int p4), .val (.ref b), .val (.ref c1), .val (.ref d), .val (.int pre), .val (.ref a), .val (.int q), .val (.int (own_more q)), .val (.int (1 : Int32))] [(.int (own_ie (own_el m0 m1 m2 m3) q))]))
    refine Onw.go (fun own_u kt => XS.ifNo X7.here hx rfl (hb hby at_254) rfl ((if0 _ _).trans (teq (q2 : (own_ie (own_el m0 m1 m2 m3) q) = (0 : Int32))).2) kt) ?_
    show Onw p e below _ (T7.setTop (mkF m 257 #[.val (.int p0), .val (.int p1), .val (.int p2), .val (.int p3), .val (.int p4), .val (.ref b), .val (.ref c1), .val (.ref d), .val (.int pre), .val (.ref a), .val (.int q), .val (.int (own_more q)), .val (.int (1 : Int32))] []))
    refine Onw.go (fun own_u kt => XS.iconst X7.here hx rfl (hb hby at_257) kt) ?_
    show Onw p e below _ (T7.setTop (mkF m 258 #[.val (.int p0), .val (.int p1), .val (.int p2), .val (.int p3), .val (.int p4), .val (.ref b), .val (.ref c1), .val (.ref d), .val (.int pre), .val (.ref a), .val (.int q), .val (.int (own_more q)), .val (.int (1 : Int32))] [(.int (1 : Int32))]))
    refine Onw.go (fun own_u kt => XS.goto X7.here hx rfl (pc0 := 258) (pc' := 262) rfl (hb hby at_258) (by decide) (by decide) kt) ?_
    show Onw p e below _ (T7.setTop (mkF m 262 #[.val (.int p0), .val (.int p1), .val (.int p2), .val (.int p3), .val (.int p4), .val (.ref b), .val (.ref c1), .val (.ref d), .val (.int pre), .val (.ref a), .val (.int q), .val (.int (own_more q)), .val (.int (1 : Int32))] [(.int (1 : Int32))]))
    exact hK _ _ _ _ (Or.inl rfl) X7 N7
  · refine Onw.go (fun own_u kt => XS.icmpYes X5.here hx rfl (pc0 := 199) (pc' := 206) rfl (hb hby at_199) rfl (flt (h4 : ¬ (q < (4 : Int32)))).2.1 (by decide) (by decide) kt) ?_
    show Onw p e below _ (T5.setTop (mkF m 206 #[.val (.int p0), .val (.int p1), .val (.int p2), .val (.int p3), .val (.int p4), .val (.ref b), .val (.ref c1), .val (.ref d), .val (.int pre), .val (.ref a), .val (.int q), .val (.int (own_more q)), .unset] [(.int (own_more q))]))
    refine Onw.go (fun own_u kt => XS.iconst X5.here hx rfl (hb hby at_206) kt) ?_
    show Onw p e below _ (T5.setTop (mkF m 207 #[.val (.int p0), .val (.int p1), .val (.int p2), .val (.int p3), .val (.int p4), .val (.ref b), .val (.ref c1), .val (.ref d), .val (.int pre), .val (.ref a), .val (.int q), .val (.int (own_more q)), .unset] [(.int (0 : Int32)), (.int (own_more q))]))
    have hm : own_more q = (0 : Int32) := by unfold own_more; rw [if_neg h4]
    refine Onw.go (fun own_u kt => XS.icmpYes X5.here hx rfl (pc0 := 207) (pc' := 212) rfl (hb hby at_207) rfl (teq (hm : (own_more q) = (0 : Int32))).1 (by decide) (by decide) kt) ?_
    show Onw p e below _ (T5.setTop (mkF m 212 #[.val (.int p0), .val (.int p1), .val (.int p2), .val (.int p3), .val (.int p4), .val (.ref b), .val (.ref c1), .val (.ref d), .val (.int pre), .val (.ref a), .val (.int q), .val (.int (own_more q)), .unset] []))
    obtain rfl : q = 4 := own_is4 hp q1 h4
    show Onw p e below _ (T5.setTop (mkF m 212 #[.val (.int p0), .val (.int p1), .val (.int p2), .val (.int p3), .val (.int p4), .val (.ref b), .val (.ref c1), .val (.ref d), .val (.int pre), .val (.ref a), .val (.int (4 : Int32)), .val (.int (own_more (4 : Int32))), .unset] []))
    refine Onw.go (fun own_u kt => XS.aload X5.here hx rfl (hb hby at_212) rfl rfl kt) ?_
    show Onw p e below _ (T5.setTop (mkF m 214 #[.val (.int p0), .val (.int p1), .val (.int p2), .val (.int p3), .val (.int p4), .val (.ref b), .val (.ref c1), .val (.ref d), .val (.int pre), .val (.ref a), .val (.int (4 : Int32)), .val (.int (own_more (4 : Int32))), .unset] [(.ref a)]))
    refine Onw.go (fun own_u kt => XS.aload X5.here hx rfl (hb hby at_214) rfl rfl kt) ?_
    show Onw p e below _ (T5.setTop (mkF m 216 #[.val (.int p0), .val (.int p1), .val (.int p2), .val (.int p3), .val (.int p4), .val (.ref b), .val (.ref c1), .val (.ref d), .val (.int pre), .val (.ref a), .val (.int (4 : Int32)), .val (.int (own_more (4 : Int32))), .unset] [(.ref d), (.ref a)]))
    refine Onw.go (fun own_u kt => XS.iconst X5.here hx rfl (hb hby at_216) kt) ?_
    show Onw p e below _ (T5.setTop (mkF m 217 #[.val (.int p0), .val (.int p1), .val (.int p2), .val (.int p3), .val (.int p4), .val (.ref b), .val (.ref c1), .val (.ref d), .val (.int pre), .val (.ref a), .val (.int (4 : Int32)), .val (.int (own_more (4 : Int32))), .unset] [(.int (0 : Int32)), (.ref d), (.ref a)]))
    refine Onw.go (fun own_u kt => XS.iconst X5.here hx rfl (hb hby at_217) kt) ?_
    show Onw p e below _ (T5.setTop (mkF m 218 #[.val (.int p0), .val (.int p1), .val (.int p2), .val (.int p3), .val (.int p4), .val (.ref b), .val (.ref c1), .val (.ref d), .val (.int pre), .val (.ref a), .val (.int (4 : Int32)), .val (.int (own_more (4 : Int32))), .unset] [(.int (1 : Int32)), (.int (0 : Int32)), (.ref d), (.ref a)]))
    obtain ⟨cq8, kq8, q8a, q8b, q8c⟩ := isOf hZ e5q M3.1
    obtain ⟨_, _, ⟨T8, L8, k8, n8⟩, -, X8, ⟨Lc8, hQ8, l8, y8, z8⟩, st8⟩ := X5.virtualBack hx (y := (⟨"com/example/shrewd_spider/shrewdspider/net/MessageBytes", "take", "([BII)I"⟩ : MethodName)) (z := (⟨"com/example/shrewd_spider/shrewdspider/net/MessageBytes", "take", "([BII)I"⟩ : MethodName)) hown (mvT hZ (hw _ (List.mem_of_getElem? (i := 43) rfl))) (mvT hZ (hw _ (List.mem_of_getElem? (i := 44) rfl))) (notFace_of_selects (args := #[]) (mvT hZ (hw _ (List.mem_of_getElem? (i := 46) rfl)))) (mvT hZ (hw _ (List.mem_of_getElem? (i := 46) rfl))) (mvT hZ (hw _ (List.mem_of_getElem? (i := 45) rfl))) (by decide) (backOf (W := 0) (rm_takeEnd l Z a0 hw [] a d (0 : Int32) (1 : Int32) _ b T3.heap n0 M3) hZ (hw _ (List.mem_of_getElem? (i := 47) rfl)) (hw _ (List.mem_of_getElem? (i := 8) rfl)) (by decide) (by decide)) q8a q8c (g := (mkF m 218 #[.val (.int p0), .val (.int p1), .val (.int p2), .val (.int p3), .val (.int p4), .val (.ref b), .val (.ref c1), .val (.ref d), .val (.int pre), .val (.ref a), .val (.int (4 : Int32)), .val (.int (own_more (4 : Int32))), .unset] [(.int (1 : Int32)), (.int (0 : Int32)), (.ref d), (.ref a)])) rfl (by rw [hml]; rfl) (Steps.refl _) (argsL := [(.ref d), (.int (0 : Int32)), (.int (1 : Int32))]) (rest := []) (lenOf pd_6 rfl) rfl (by show 2 * 0 + _ ≤ _; exact Nat.le_of_eq rfl) (hb hby at_218) (fun _ _ => ⟨rfl, e5q, (by decide : 4 + 0 ≤ _), (by decide : 15 + 0 ≤ _)⟩)
    dsimp only [Pt.U, Pt.locs, Pt.cells, Pt.slots] at X8 l8 y8 z8 st8 hQ8
    subst l8 y8 z8
    obtain ⟨rfl, N8q, e8q⟩ := hQ8
    have N8 := Fr.app N5 N8q
    refine Onw.go (fun own_u kt => st8.trans kt) ?_
    show Onw p e below _ (T8.setTop (mkF m 221 #[.val (.int p0), .val (.int p1), .val (.int p2), .val (.int p3), .val (.int p4), .val (.ref b), .val (.ref c1), .val (.ref d), .val (.int pre), .val (.ref a), .val (.int (4 : Int32)), .val (.int (own_more (4 : Int32))), .unset] [(.int (-1 : Int32))]))
    refine Onw.go (fun own_u kt => XS.istore X8.here hx rfl (hb hby at_221) rfl (l' := #[.val (.int p0), .val (.int p1), .val (.int p2), .val (.int p3), .val (.int p4), .val (.ref b), .val (.ref c1), .val (.ref d), .val (.int pre), .val (.ref a), .val (.int (4 : Int32)), .val (.int (own_more (4 : Int32))), .val (.int (-1 : Int32))]) rfl kt) ?_
    show Onw p e below _ (T8.setTop (mkF m 223 #[.val (.int p0), .val (.int p1), .val (.int p2), .val (.int p3), .val (.int p4), .val (.ref b), .val (.ref c1), .val (.ref d), .val (.int pre), .val (.ref a), .val (.int (4 : Int32)), .val (.int (own_more (4 : Int32))), .val (.int (-1 : Int32))] []))
    refine Onw.go (fun own_u kt => XS.iload X8.here hx rfl (hb hby at_223) rfl kt) ?_
    show Onw p e below _ (T8.setTop (mkF m 225 #[.val (.int p0), .val (.int p1), .val (.int p2), .val (.int p3), .val (.int p4), .val (.ref b), .val (.ref c1), .val (.ref d), .val (.int pre), .val (.ref a), .val (.int (4 : Int32)), .val (.int (own_more (4 : Int32))), .val (.int (-1 : Int32))] [(.int (4 : Int32))]))
    refine Onw.go (fun own_u kt => XS.iconst X8.here hx rfl (hb hby at_225) kt) ?_
    show Onw p e below _ (T8.setTop (mkF m 226 #[.val (.int p0), .val (.int p1), .val (.int p2), .val (.int p3), .val (.int p4), .val (.ref b), .val (.ref c1), .val (.ref d), .val (.int pre), .val (.ref a), .val (.int (4 : Int32)), .val (.int (own_more (4 : Int32))), .val (.int (-1 : Int32))] [(.int (4 : Int32)), (.int (4 : Int32))]))
    refine Onw.go (fun own_u kt => XS.icmpYes X8.here hx rfl (pc0 := 226) (pc' := 263) rfl (hb hby at_226) rfl (flt (h4 : ¬ ((4 : Int32) < (4 : Int32)))).2.1 (by decide) (by decide) kt) ?_
    show Onw p e below _ (T8.setTop (mkF m 263 #[.val (.int p0), .val (.int p1), .val (.int p2), .val (.int p3), .val (.int p4), .val (.ref b), .val (.ref c1), .val (.ref d), .val (.int pre), .val (.ref a), .val (.int (4 : Int32)), .val (.int (own_more (4 : Int32))), .val (.int (-1 : Int32))] []))
    refine Onw.go (fun own_u kt => XS.iload X8.here hx rfl (hb hby at_263) rfl kt) ?_
    show Onw p e below _ (T8.setTop (mkF m 265 #[.val (.int p0), .val (.int p1), .val (.int p2), .val (.int p3), .val (.int p4), .val (.ref b), .val (.ref c1), .val (.ref d), .val (.int pre), .val (.ref a), .val (.int (4 : Int32)), .val (.int (own_more (4 : Int32))), .val (.int (-1 : Int32))] [(.int (-1 : Int32))]))
    refine Onw.go (fun own_u kt => XS.iconst X8.here hx rfl (hb hby at_265) kt) ?_
    show Onw p e below _ (T8.setTop (mkF m 266 #[.val (.int p0), .val (.int p1), .val (.int p2), .val (.int p3), .val (.int p4), .val (.ref b), .val (.ref c1), .val (.ref d), .val (.int pre), .val (.ref a), .val (.int (4 : Int32)), .val (.int (own_more (4 : Int32))), .val (.int (-1 : Int32))] [(.int (-1 : Int32)), (.int (-1 : Int32))]))
    refine Onw.go (fun own_u kt => XS.icmpNo X8.here hx rfl (hb hby at_266) rfl (teq (rfl : (-1 : Int32) = (-1 : Int32))).2 kt) ?_
    show Onw p e below _ (T8.setTop (mkF m 269 #[.val (.int p0), .val (.int p1), .val (.int p2), .val (.int p3), .val (.int p4), .val (.ref b), .val (.ref c1), .val (.ref d), .val (.int pre), .val (.ref a), .val (.int (4 : Int32)), .val (.int (own_more (4 : Int32))), .val (.int (-1 : Int32))] []))
    refine Onw.go (fun own_u kt => XS.iconst X8.here hx rfl (hb hby at_269) kt) ?_
    show Onw p e below _ (T8.setTop (mkF m 270 #[.val (.int p0), .val (.int p1), .val (.int p2), .val (.int p3), .val (.int p4), .val (.ref b), .val (.ref c1), .val (.ref d), .val (.int pre), .val (.ref a), .val (.int (4 : Int32)), .val (.int (own_more (4 : Int32))), .val (.int (-1 : Int32))] [(.int (1 : Int32))]))
    refine Onw.go (fun own_u kt => XS.goto X8.here hx rfl (pc0 := 270) (pc' := 274) rfl (hb hby at_270) (by decide) (by decide) kt) ?_
    show Onw p e below _ (T8.setTop (mkF m 274 #[.val (.int p0), .val (.int p1), .val (.int p2), .val (.int p3), .val (.int p4), .val (.ref b), .val (.ref c1), .val (.ref d), .val (.int pre), .val (.ref a), .val (.int (4 : Int32)), .val (.int (own_more (4 : Int32))), .val (.int (-1 : Int32))] [(.int (1 : Int32))]))
    exact hK _ _ _ _ (Or.inr rfl) X8 N8
set_option maxRecDepth 65536 in
set_option maxHeartbeats 40000000 in
theorem law_mid {p : Program} {l : Launch} {e : Env} {s : State} {m : MethodId} {args : Array Value} {below : List Frame} {meth : Method} {c : Code} {Z : State} {a0 : Array Value} {W : Outcome → State → Prop} (hx : p.tables.exec = Jvm.exec) (hZ : Z.Warmed39 s.vm) (hw : ∀ d ∈ tables_1, d.before a0 Z = true) (hby : c.code = code) (hml : c.maxLocals = 13) (hown : s.vm.findClass "com/example/shrewd_spider/shrewdspider/net/MessageBytesPassOverLineEndsPinLaw" = some m.cls) {h0 : Heap} {n0 : Nat}  (p0 p1 p2 p3 p4 pre : Int32) (c1 d a : Addr) (kd : ClassId) (b : Addr) (kb : ClassId) (m0 m1 m2 m3 : Int32) (s10 : Slot)
    {T0 : State} {locs0 : List Loc} (X0 : Stand p l e room_1 s m args below meth c T0 locs0 4 15) (e0 : T0.heap = h0) (N0 : Fr n0 locs0) (M0 : own_MB Z h0 a .null (.ref b) (.int (4 : Int32)) (.int pre) (.long pre.toInt64)) (V0 : Arv Z h0 b kb .byte (4 : Int32) [.int m0, .int m1, .int m2, .int m3] (.int (0 : Int32))) (B0 : Arv Z h0 d kd .byte (1 : Int32) [.int (0 : Int32)] (.int (0 : Int32))) (hba : b ≠ a) (hbd : b ≠ d) (had : a ≠ d) (g_a : n0 ≤ a) (g_d : n0 ≤ d) (hp : 0 ≤ pre.toInt ∧ pre.toInt ≤ 4) (h10 : One s10) (hK : ∀ (pc : Nat) (Ls : Array Slot) (T' : State) (locs' : List Loc), (pc = 262 ∨ pc = 274) → Stand p l e room_1 s m args below meth c T' locs' 4 15 → Fr n0 locs' → Onw p e below W (T'.setTop (mkF m pc Ls [(.int (1 : Int32))]))) :
    Onw p e below W (T0.setTop (mkF m 93 #[.val (.int p0), .val (.int p1), .val (.int p2), .val (.int p3), .val (.int p4), .val (.ref b), .val (.ref c1), .val (.ref d), .val (.int pre), .val (.ref a), s10, .unset, .unset] [])) := by
  refine Onw.go (fun own_u kt => XS.iload X0.here hx rfl (hb hby at_93) rfl kt) ?_
  show Onw p e below _ (T0.setTop (mkF m 95 #[.val (.int p0), .val (.int p1), .val (.int p2), .val (.int p3), .val (.int p4), .val (.ref b), .val (.ref c1), .val (.ref d), .val (.int pre), .val (.ref a), s10, .unset, .unset] [(.int pre)]))
  refine Onw.go (fun own_u kt => XS.istore X0.here hx rfl (hb hby at_95) rfl (l' := #[.val (.int p0), .val (.int p1), .val (.int p2), .val (.int p3), .val (.int p4), .val (.ref b), .val (.ref c1), .val (.ref d), .val (.int pre), .val (.ref a), .val (.int pre), .unset, .unset]) (own_os h10) kt) ?_
  show Onw p e below _ (T0.setTop (mkF m 97 #[.val (.int p0), .val (.int p1), .val (.int p2), .val (.int p3), .val (.int p4), .val (.ref b), .val (.ref c1), .val (.ref d), .val (.int pre), .val (.ref a), .val (.int pre), .unset, .unset] []))
  refine Onw.go (fun own_u kt => XS.aload X0.here hx rfl (hb hby at_97) rfl rfl kt) ?_
  show Onw p e below _ (T0.setTop (mkF m 99 #[.val (.int p0), .val (.int p1), .val (.int p2), .val (.int p3), .val (.int p4), .val (.ref b), .val (.ref c1), .val (.ref d), .val (.int pre), .val (.ref a), .val (.int pre), .unset, .unset] [(.ref b)]))
  refine Onw.go (fun own_u kt => XS.iload X0.here hx rfl (hb hby at_99) rfl kt) ?_
  show Onw p e below _ (T0.setTop (mkF m 101 #[.val (.int p0), .val (.int p1), .val (.int p2), .val (.int p3), .val (.int p4), .val (.ref b), .val (.ref c1), .val (.ref d), .val (.int pre), .val (.ref a), .val (.int pre), .unset, .unset] [(.int pre), (.ref b)]))
  obtain ⟨_, _, ⟨T1, L1, k1, n1⟩, -, X1, ⟨Lc1, hQ1, l1, y1, z1⟩, st1⟩ := Jvm.LawKit.callS X0 hx (y := (⟨"com/example/shrewd_spider/shrewdspider/net/MessageBytesPassOverLineEndsPinLaw", "isEnd", "([BI)Z"⟩ : MethodName)) hown (mvT hZ (hw _ (List.mem_of_getElem? (i := 21) rfl))) (mvT hZ (hw _ (List.mem_of_getElem? (i := 22) rfl))) (mvT hZ (hw _ (List.mem_of_getElem? (i := 3) rfl))) (mvT hZ (hw _ (List.mem_of_getElem? (i := 23) rfl))) (by decide) (backOf (W := 0) (rm4 l Z a0 hw [] b pre kb m0 m1 m2 m3 h0 n0 V0 (own_up0 hp)) hZ (hw _ (List.mem_of_getElem? (i := 23) rfl)) (hw _ (List.mem_of_getElem? (i := 3) rfl)) (by decide) (by decide)) (g := (mkF m 101 #[.val (.int p0), .val (.int p1), .val (.int p2), .val (.int p3), .val (.int p4), .val (.ref b), .val (.ref c1), .val (.ref d), .val (.int pre), .val (.ref a), .val (.int pre), .unset, .unset] [(.int pre), (.ref b)])) rfl (by rw [hml]; rfl) (argsL := [(.ref b), (.int pre)]) (rest := []) (lenOf pd_2 rfl) rfl (by show 2 * 0 + _ ≤ _; exact Nat.le_of_eq rfl) (hb hby at_101) (fun _ _ => ⟨rfl, e0, (by decide : 4 + 0 ≤ _), (by decide : 15 + 0 ≤ _)⟩)
  dsimp only [Pt.U, Pt.locs, Pt.cells, Pt.slots] at X1 l1 y1 z1 st1 hQ1
  subst l1 y1 z1
  obtain ⟨rfl, N1q, e1q⟩ := hQ1
  have N1 := Fr.app N0 N1q
  refine Onw.go st1 ?_
  show Onw p e below _ (T1.setTop (mkF m 104 #[.val (.int p0), .val (.int p1), .val (.int p2), .val (.int p3), .val (.int p4), .val (.ref b), .val (.ref c1), .val (.ref d), .val (.int pre), .val (.ref a), .val (.int pre), .unset, .unset] [(.int (own_ie (own_el m0 m1 m2 m3) pre))]))
  by_cases hc0 : (own_ie (own_el m0 m1 m2 m3) pre) = (0 : Int32)
  · refine Onw.go (fun own_u kt => XS.ifYes X1.here hx rfl (pc0 := 104) (pc' := 149) rfl (hb hby at_104) rfl ((if0 _ _).trans (teq (hc0 : (own_ie (own_el m0 m1 m2 m3) pre) = (0 : Int32))).1) (by decide) (by decide) kt) ?_
    show Onw p e below _ (T1.setTop (mkF m 149 #[.val (.int p0), .val (.int p1), .val (.int p2), .val (.int p3), .val (.int p4), .val (.ref b), .val (.ref c1), .val (.ref d), .val (.int pre), .val (.ref a), .val (.int pre), .unset, .unset] []))
    exact law_tail hx hZ hw hby hml hown p0 p1 p2 p3 p4 pre c1 d a kd b kb m0 m1 m2 m3 pre X1 e1q N1 M0 V0 B0 hba hbd had g_a g_d hp (own_ch0  hc0) hK
  · refine Onw.go (fun own_u kt => XS.ifNo X1.here hx rfl (hb hby at_104) rfl ((if0 _ _).trans (feq (hc0 : ¬ ((own_ie (own_el m0 m1 m2 m3) pre) = (0 : Int32)))).1) kt) ?_
    show Onw p e below _ (T1.setTop (mkF m 107 #[.val (.int p0), .val (.int p1), .val (.int p2), .val (.int p3), .val (.int p4), .val (.ref b), .val (.ref c1), .val (.ref d), .val (.int pre), .val (.ref a), .val (.int pre), .unset, .unset] []))
    refine Onw.go (fun own_u kt => XS.iinc X1.here hx rfl (hb hby at_107) rfl (l' := #[.val (.int p0), .val (.int p1), .val (.int p2), .val (.int p3), .val (.int p4), .val (.ref b), .val (.ref c1), .val (.ref d), .val (.int pre), .val (.ref a), .val (.int (pre + (1 : Int32))), .unset, .unset]) rfl kt) ?_
    show Onw p e below _ (T1.setTop (mkF m 110 #[.val (.int p0), .val (.int p1), .val (.int p2), .val (.int p3), .val (.int p4), .val (.ref b), .val (.ref c1), .val (.ref d), .val (.int pre), .val (.ref a), .val (.int (pre + (1 : Int32))), .unset, .unset] []))
    refine Onw.go (fun own_u kt => XS.aload X1.here hx rfl (hb hby at_110) rfl rfl kt) ?_
    show Onw p e below _ (T1.setTop (mkF m 112 #[.val (.int p0), .val (.int p1), .val (.int p2), .val (.int p3), .val (.int p4), .val (.ref b), .val (.ref c1), .val (.ref d), .val (.int pre), .val (.ref a), .val (.int (pre + (1 : Int32))), .unset, .unset] [(.ref b)]))
    refine Onw.go (fun own_u kt => XS.iload X1.here hx rfl (hb hby at_112) rfl kt) ?_
    show Onw p e below _ (T1.setTop (mkF m 114 #[.val (.int p0), .val (.int p1), .val (.int p2), .val (.int p3), .val (.int p4), .val (.ref b), .val (.ref c1), .val (.ref d), .val (.int pre), .val (.ref a), .val (.int (pre + (1 : Int32))), .unset, .unset] [(.int (pre + (1 : Int32))), (.ref b)]))
    obtain ⟨_, _, ⟨T2, L2, k2, n2⟩, -, X2, ⟨Lc2, hQ2, l2, y2, z2⟩, st2⟩ := Jvm.LawKit.callS X1 hx (y := (⟨"com/example/shrewd_spider/shrewdspider/net/MessageBytesPassOverLineEndsPinLaw", "isEnd", "([BI)Z"⟩ : MethodName)) hown (mvT hZ (hw _ (List.mem_of_getElem? (i := 21) rfl))) (mvT hZ (hw _ (List.mem_of_getElem? (i := 22) rfl))) (mvT hZ (hw _ (List.mem_of_getElem? (i := 3) rfl))) (mvT hZ (hw _ (List.mem_of_getElem? (i := 23) rfl))) (by decide) (backOf (W := 0) (rm4 l Z a0 hw [] b (pre + (1 : Int32)) kb m0 m1 m2 m3 h0 n0 V0 (own_up1 hp)) hZ (hw _ (List.mem_of_getElem? (i := 23) rfl)) (hw _ (List.mem_of_getElem? (i := 3) rfl)) (by decide) (by decide)) (g := (mkF m 114 #[.val (.int p0), .val (.int p1), .val (.int p2), .val (.int p3), .val (.int p4), .val (.ref b), .val (.ref c1), .val (.ref d), .val (.int pre), .val (.ref a), .val (.int (pre + (1 : Int32))), .unset, .unset] [(.int (pre + (1 : Int32))), (.ref b)])) rfl (by rw [hml]; rfl) (argsL := [(.ref b), (.int (pre + (1 : Int32)))]) (rest := []) (lenOf pd_2 rfl) rfl (by show 2 * 0 + _ ≤ _; exact Nat.le_of_eq rfl) (hb hby at_114) (fun _ _ => ⟨rfl, e1q, (by decide : 4 + 0 ≤ _), (by decide : 15 + 0 ≤ _)⟩)
    dsimp only [Pt.U, Pt.locs, Pt.cells, Pt.slots] at X2 l2 y2 z2 st2 hQ2
    subst l2 y2 z2
    obtain ⟨rfl, N2q, e2q⟩ := hQ2
    have N2 := Fr.app N1 N2q
    refine Onw.go st2 ?_
    show Onw p e below _ (T2.setTop (mkF m 117 #[.val (.int p0), .val (.int p1), .val (.int p2), .val (.int p3), .val (.int p4), .val (.ref b), .val (.ref c1), .val (.ref d), .val (.int pre), .val (.ref a), .val (.int (pre + (1 : Int32))), .unset, .unset] [(.int (own_ie (own_el m0 m1 m2 m3) (pre + (1 : Int32))))]))
    by_cases hc1 : (own_ie (own_el m0 m1 m2 m3) (pre + (1 : Int32))) = (0 : Int32)
    · refine Onw.go (fun own_u kt => XS.ifYes X2.here hx rfl (pc0 := 117) (pc' := 149) rfl (hb hby at_117) rfl ((if0 _ _).trans (teq (hc1 : (own_ie (own_el m0 m1 m2 m3) (pre + (1 : Int32))) = (0 : Int32))).1) (by decide) (by decide) kt) ?_
      show Onw p e below _ (T2.setTop (mkF m 149 #[.val (.int p0), .val (.int p1), .val (.int p2), .val (.int p3), .val (.int p4), .val (.ref b), .val (.ref c1), .val (.ref d), .val (.int pre), .val (.ref a), .val (.int (pre + (1 : Int32))), .unset, .unset] []))
      exact law_tail hx hZ hw hby hml hown p0 p1 p2 p3 p4 pre c1 d a kd b kb m0 m1 m2 m3 (pre + (1 : Int32)) X2 e2q N2 M0 V0 B0 hba hbd had g_a g_d hp (own_ch1 hc0 hc1) hK
    · refine Onw.go (fun own_u kt => XS.ifNo X2.here hx rfl (hb hby at_117) rfl ((if0 _ _).trans (feq (hc1 : ¬ ((own_ie (own_el m0 m1 m2 m3) (pre + (1 : Int32))) = (0 : Int32)))).1) kt) ?_
      show Onw p e below _ (T2.setTop (mkF m 120 #[.val (.int p0), .val (.int p1), .val (.int p2), .val (.int p3), .val (.int p4), .val (.ref b), .val (.ref c1), .val (.ref d), .val (.int pre), .val (.ref a), .val (.int (pre + (1 : Int32))), .unset, .unset] []))
      refine Onw.go (fun own_u kt => XS.iinc X2.here hx rfl (hb hby at_120) rfl (l' := #[.val (.int p0), .val (.int p1), .val (.int p2), .val (.int p3), .val (.int p4), .val (.ref b), .val (.ref c1), .val (.ref d), .val (.int pre), .val (.ref a), .val (.int ((pre + (1 : Int32)) + (1 : Int32))), .unset, .unset]) rfl kt) ?_
      show Onw p e below _ (T2.setTop (mkF m 123 #[.val (.int p0), .val (.int p1), .val (.int p2), .val (.int p3), .val (.int p4), .val (.ref b), .val (.ref c1), .val (.ref d), .val (.int pre), .val (.ref a), .val (.int ((pre + (1 : Int32)) + (1 : Int32))), .unset, .unset] []))
      refine Onw.go (fun own_u kt => XS.aload X2.here hx rfl (hb hby at_123) rfl rfl kt) ?_
      show Onw p e below _ (T2.setTop (mkF m 125 #[.val (.int p0), .val (.int p1), .val (.int p2), .val (.int p3), .val (.int p4), .val (.ref b), .val (.ref c1), .val (.ref d), .val (.int pre), .val (.ref a), .val (.int ((pre + (1 : Int32)) + (1 : Int32))), .unset, .unset] [(.ref b)]))
      refine Onw.go (fun own_u kt => XS.iload X2.here hx rfl (hb hby at_125) rfl kt) ?_
      show Onw p e below _ (T2.setTop (mkF m 127 #[.val (.int p0), .val (.int p1), .val (.int p2), .val (.int p3), .val (.int p4), .val (.ref b), .val (.ref c1), .val (.ref d), .val (.int pre), .val (.ref a), .val (.int ((pre + (1 : Int32)) + (1 : Int32))), .unset, .unset] [(.int ((pre + (1 : Int32)) + (1 : Int32))), (.ref b)]))
      obtain ⟨_, _, ⟨T3, L3, k3, n3⟩, -, X3, ⟨Lc3, hQ3, l3, y3, z3⟩, st3⟩ := Jvm.LawKit.callS X2 hx (y := (⟨"com/example/shrewd_spider/shrewdspider/net/MessageBytesPassOverLineEndsPinLaw", "isEnd", "([BI)Z"⟩ : MethodName)) hown (mvT hZ (hw _ (List.mem_of_getElem? (i := 21) rfl))) (mvT hZ (hw _ (List.mem_of_getElem? (i := 22) rfl))) (mvT hZ (hw _ (List.mem_of_getElem? (i := 3) rfl))) (mvT hZ (hw _ (List.mem_of_getElem? (i := 23) rfl))) (by decide) (backOf (W := 0) (rm4 l Z a0 hw [] b ((pre + (1 : Int32)) + (1 : Int32)) kb m0 m1 m2 m3 h0 n0 V0 (own_up2 hp)) hZ (hw _ (List.mem_of_getElem? (i := 23) rfl)) (hw _ (List.mem_of_getElem? (i := 3) rfl)) (by decide) (by decide)) (g := (mkF m 127 #[.val (.int p0), .val (.int p1), .val (.int p2), .val (.int p3), .val (.int p4), .val (.ref b), .val (.ref c1), .val (.ref d), .val (.int pre), .val (.ref a), .val (.int ((pre + (1 : Int32)) + (1 : Int32))), .unset, .unset] [(.int ((pre + (1 : Int32)) + (1 : Int32))), (.ref b)])) rfl (by rw [hml]; rfl) (argsL := [(.ref b), (.int ((pre + (1 : Int32)) + (1 : Int32)))]) (rest := []) (lenOf pd_2 rfl) rfl (by show 2 * 0 + _ ≤ _; exact Nat.le_of_eq rfl) (hb hby at_127) (fun _ _ => ⟨rfl, e2q, (by decide : 4 + 0 ≤ _), (by decide : 15 + 0 ≤ _)⟩)
      dsimp only [Pt.U, Pt.locs, Pt.cells, Pt.slots] at X3 l3 y3 z3 st3 hQ3
      subst l3 y3 z3
      obtain ⟨rfl, N3q, e3q⟩ := hQ3
      have N3 := Fr.app N2 N3q
      refine Onw.go st3 ?_
      show Onw p e below _ (T3.setTop (mkF m 130 #[.val (.int p0), .val (.int p1), .val (.int p2), .val (.int p3), .val (.int p4), .val (.ref b), .val (.ref c1), .val (.ref d), .val (.int pre), .val (.ref a), .val (.int ((pre + (1 : Int32)) + (1 : Int32))), .unset, .unset] [(.int (own_ie (own_el m0 m1 m2 m3) ((pre + (1 : Int32)) + (1 : Int32))))]))
      by_cases hc2 : (own_ie (own_el m0 m1 m2 m3) ((pre + (1 : Int32)) + (1 : Int32))) = (0 : Int32)
      · refine Onw.go (fun own_u kt => XS.ifYes X3.here hx rfl (pc0 := 130) (pc' := 149) rfl (hb hby at_130) rfl ((if0 _ _).trans (teq (hc2 : (own_ie (own_el m0 m1 m2 m3) ((pre + (1 : Int32)) + (1 : Int32))) = (0 : Int32))).1) (by decide) (by decide) kt) ?_
        show Onw p e below _ (T3.setTop (mkF m 149 #[.val (.int p0), .val (.int p1), .val (.int p2), .val (.int p3), .val (.int p4), .val (.ref b), .val (.ref c1), .val (.ref d), .val (.int pre), .val (.ref a), .val (.int ((pre + (1 : Int32)) + (1 : Int32))), .unset, .unset] []))
        exact law_tail hx hZ hw hby hml hown p0 p1 p2 p3 p4 pre c1 d a kd b kb m0 m1 m2 m3 ((pre + (1 : Int32)) + (1 : Int32)) X3 e3q N3 M0 V0 B0 hba hbd had g_a g_d hp (own_ch2 hc0 hc1 hc2) hK
      · refine Onw.go (fun own_u kt => XS.ifNo X3.here hx rfl (hb hby at_130) rfl ((if0 _ _).trans (feq (hc2 : ¬ ((own_ie (own_el m0 m1 m2 m3) ((pre + (1 : Int32)) + (1 : Int32))) = (0 : Int32)))).1) kt) ?_
        show Onw p e below _ (T3.setTop (mkF m 133 #[.val (.int p0), .val (.int p1), .val (.int p2), .val (.int p3), .val (.int p4), .val (.ref b), .val (.ref c1), .val (.ref d), .val (.int pre), .val (.ref a), .val (.int ((pre + (1 : Int32)) + (1 : Int32))), .unset, .unset] []))
        refine Onw.go (fun own_u kt => XS.iinc X3.here hx rfl (hb hby at_133) rfl (l' := #[.val (.int p0), .val (.int p1), .val (.int p2), .val (.int p3), .val (.int p4), .val (.ref b), .val (.ref c1), .val (.ref d), .val (.int pre), .val (.ref a), .val (.int (((pre + (1 : Int32)) + (1 : Int32)) + (1 : Int32))), .unset, .unset]) rfl kt) ?_
        show Onw p e below _ (T3.setTop (mkF m 136 #[.val (.int p0), .val (.int p1), .val (.int p2), .val (.int p3), .val (.int p4), .val (.ref b), .val (.ref c1), .val (.ref d), .val (.int pre), .val (.ref a), .val (.int (((pre + (1 : Int32)) + (1 : Int32)) + (1 : Int32))), .unset, .unset] []))
        refine Onw.go (fun own_u kt => XS.aload X3.here hx rfl (hb hby at_136) rfl rfl kt) ?_
        show Onw p e below _ (T3.setTop (mkF m 138 #[.val (.int p0), .val (.int p1), .val (.int p2), .val (.int p3), .val (.int p4), .val (.ref b), .val (.ref c1), .val (.ref d), .val (.int pre), .val (.ref a), .val (.int (((pre + (1 : Int32)) + (1 : Int32)) + (1 : Int32))), .unset, .unset] [(.ref b)]))
        refine Onw.go (fun own_u kt => XS.iload X3.here hx rfl (hb hby at_138) rfl kt) ?_
        show Onw p e below _ (T3.setTop (mkF m 140 #[.val (.int p0), .val (.int p1), .val (.int p2), .val (.int p3), .val (.int p4), .val (.ref b), .val (.ref c1), .val (.ref d), .val (.int pre), .val (.ref a), .val (.int (((pre + (1 : Int32)) + (1 : Int32)) + (1 : Int32))), .unset, .unset] [(.int (((pre + (1 : Int32)) + (1 : Int32)) + (1 : Int32))), (.ref b)]))
        obtain ⟨_, _, ⟨T4, L4, k4, n4⟩, -, X4, ⟨Lc4, hQ4, l4, y4, z4⟩, st4⟩ := Jvm.LawKit.callS X3 hx (y := (⟨"com/example/shrewd_spider/shrewdspider/net/MessageBytesPassOverLineEndsPinLaw", "isEnd", "([BI)Z"⟩ : MethodName)) hown (mvT hZ (hw _ (List.mem_of_getElem? (i := 21) rfl))) (mvT hZ (hw _ (List.mem_of_getElem? (i := 22) rfl))) (mvT hZ (hw _ (List.mem_of_getElem? (i := 3) rfl))) (mvT hZ (hw _ (List.mem_of_getElem? (i := 23) rfl))) (by decide) (backOf (W := 0) (rm4 l Z a0 hw [] b (((pre + (1 : Int32)) + (1 : Int32)) + (1 : Int32)) kb m0 m1 m2 m3 h0 n0 V0 (own_up3 hp)) hZ (hw _ (List.mem_of_getElem? (i := 23) rfl)) (hw _ (List.mem_of_getElem? (i := 3) rfl)) (by decide) (by decide)) (g := (mkF m 140 #[.val (.int p0), .val (.int p1), .val (.int p2), .val (.int p3), .val (.int p4), .val (.ref b), .val (.ref c1), .val (.ref d), .val (.int pre), .val (.ref a), .val (.int (((pre + (1 : Int32)) + (1 : Int32)) + (1 : Int32))), .unset, .unset] [(.int (((pre + (1 : Int32)) + (1 : Int32)) + (1 : Int32))), (.ref b)])) rfl (by rw [hml]; rfl) (argsL := [(.ref b), (.int (((pre + (1 : Int32)) + (1 : Int32)) + (1 : Int32)))]) (rest := []) (lenOf pd_2 rfl) rfl (by show 2 * 0 + _ ≤ _; exact Nat.le_of_eq rfl) (hb hby at_140) (fun _ _ => ⟨rfl, e3q, (by decide : 4 + 0 ≤ _), (by decide : 15 + 0 ≤ _)⟩)
        dsimp only [Pt.U, Pt.locs, Pt.cells, Pt.slots] at X4 l4 y4 z4 st4 hQ4
        subst l4 y4 z4
        obtain ⟨rfl, N4q, e4q⟩ := hQ4
        have N4 := Fr.app N3 N4q
        refine Onw.go st4 ?_
        show Onw p e below _ (T4.setTop (mkF m 143 #[.val (.int p0), .val (.int p1), .val (.int p2), .val (.int p3), .val (.int p4), .val (.ref b), .val (.ref c1), .val (.ref d), .val (.int pre), .val (.ref a), .val (.int (((pre + (1 : Int32)) + (1 : Int32)) + (1 : Int32))), .unset, .unset] [(.int (own_ie (own_el m0 m1 m2 m3) (((pre + (1 : Int32)) + (1 : Int32)) + (1 : Int32))))]))
        by_cases hc3 : (own_ie (own_el m0 m1 m2 m3) (((pre + (1 : Int32)) + (1 : Int32)) + (1 : Int32))) = (0 : Int32)
        · refine Onw.go (fun own_u kt => XS.ifYes X4.here hx rfl (pc0 := 143) (pc' := 149) rfl (hb hby at_143) rfl ((if0 _ _).trans (teq (hc3 : (own_ie (own_el m0 m1 m2 m3) (((pre + (1 : Int32)) + (1 : Int32)) + (1 : Int32))) = (0 : Int32))).1) (by decide) (by decide) kt) ?_
          show Onw p e below _ (T4.setTop (mkF m 149 #[.val (.int p0), .val (.int p1), .val (.int p2), .val (.int p3), .val (.int p4), .val (.ref b), .val (.ref c1), .val (.ref d), .val (.int pre), .val (.ref a), .val (.int (((pre + (1 : Int32)) + (1 : Int32)) + (1 : Int32))), .unset, .unset] []))
          exact law_tail hx hZ hw hby hml hown p0 p1 p2 p3 p4 pre c1 d a kd b kb m0 m1 m2 m3 (((pre + (1 : Int32)) + (1 : Int32)) + (1 : Int32)) X4 e4q N4 M0 V0 B0 hba hbd had g_a g_d hp (own_ch3 hc0 hc1 hc2 hc3) hK
        · refine Onw.go (fun own_u kt => XS.ifNo X4.here hx rfl (hb hby at_143) rfl ((if0 _ _).trans (feq (hc3 : ¬ ((own_ie (own_el m0 m1 m2 m3) (((pre + (1 : Int32)) + (1 : Int32)) + (1 : Int32))) = (0 : Int32)))).1) kt) ?_
          show Onw p e below _ (T4.setTop (mkF m 146 #[.val (.int p0), .val (.int p1), .val (.int p2), .val (.int p3), .val (.int p4), .val (.ref b), .val (.ref c1), .val (.ref d), .val (.int pre), .val (.ref a), .val (.int (((pre + (1 : Int32)) + (1 : Int32)) + (1 : Int32))), .unset, .unset] []))
          refine Onw.go (fun own_u kt => XS.iinc X4.here hx rfl (hb hby at_146) rfl (l' := #[.val (.int p0), .val (.int p1), .val (.int p2), .val (.int p3), .val (.int p4), .val (.ref b), .val (.ref c1), .val (.ref d), .val (.int pre), .val (.ref a), .val (.int ((((pre + (1 : Int32)) + (1 : Int32)) + (1 : Int32)) + (1 : Int32))), .unset, .unset]) rfl kt) ?_
          show Onw p e below _ (T4.setTop (mkF m 149 #[.val (.int p0), .val (.int p1), .val (.int p2), .val (.int p3), .val (.int p4), .val (.ref b), .val (.ref c1), .val (.ref d), .val (.int pre), .val (.ref a), .val (.int ((((pre + (1 : Int32)) + (1 : Int32)) + (1 : Int32)) + (1 : Int32))), .unset, .unset] []))
          exact law_tail hx hZ hw hby hml hown p0 p1 p2 p3 p4 pre c1 d a kd b kb m0 m1 m2 m3 ((((pre + (1 : Int32)) + (1 : Int32)) + (1 : Int32)) + (1 : Int32)) X4 e4q N4 M0 V0 B0 hba hbd had g_a g_d hp (own_ch4 hc0 hc1 hc2 hc3) hK
theorem ef_0 (m : MethodId) (x0 : Int32) (x1 : Int32) (x2 : Int32) (x3 : Int32) (x4 : Int32) : entryFrame m #[(.int x0), (.int x1), (.int x2), (.int x3), (.int x4)] maxLocals = mkF m 0 #[.val (.int x0), .val (.int x1), .val (.int x2), .val (.int x3), .val (.int x4), .unset, .unset, .unset, .unset, .unset, .unset, .unset, .unset] [] := by first | (simp [entryFrame, mkF, argsToLocals, Value.category, maxLocals]; done) | rfl
def Q_rm0 (Z : State) (p0 : Int32) (p1 : Int32) (p2 : Int32) (p3 : Int32) (p4 : Int32) (h0 : Heap) (n0 : Nat) (v : Option Value) (h : Heap) (L : List Loc) : Prop := v = some (.int (1 : Int32)) ∧ Fr n0 L
set_option maxRecDepth 65536 in
set_option maxHeartbeats 40000000 in
theorem rm0 (l : Launch) (Z : State) (a0 : Array Value) (hw : ∀ d ∈ tables_1, d.before a0 Z = true) (ws : List Jvm.Cond) (p0 : Int32) (p1 : Int32) (p2 : Int32) (p3 : Int32) (p4 : Int32) (h0 : Heap) (n0 : Nat) (Z0 : n0 ≤ h0.size) :
    MetFree l x (head1 (Jvm.Cond.code x code maxLocals ret :: ws) room_1) (fun a U => a = #[(.int p0), (.int p1), (.int p2), (.int p3), (.int p4)] ∧ Z.Warmed39 U.vm ∧ U.heap = h0) (fun _ _ _ _ _ => True) (fun _ U o U' => ∃ v L, o = .returned v ∧ Q_rm0 Z p0 p1 p2 p3 p4 h0 n0 v U'.heap L ∧ FrameEnd U o U' L room_1.cells room_1.slots) := by
  refine MetFree.of_bodySF (plainFor_of_name pn_0) hisR ?_
  intro p e s m args below meth c s₁ Bd hml0 hP hK
  obtain ⟨rfl, hZ, hh⟩ := hP
  have hx := Bd.exec
  have hby := Bd.bytes
  have hml : c.maxLocals = 13 := hml0
  have hown : s.vm.findClass "com/example/shrewd_spider/shrewdspider/net/MessageBytesPassOverLineEndsPinLaw" = some m.cls := findClass_of_methodNamed Bd.named
  have hnm := (name_of_methodNamed Bd.named Bd.method).1
  have X0 : Stand p l e room_1 s m #[(.int p0), (.int p1), (.int p2), (.int p3), (.int p4)] below meth c s₁ [] 0 0 := Stand.of_body Bd
  have e0 : s₁.heap = h0 := by rw [← hh, Bd.state]; rfl
  have N0 := Fr.nil n0
  refine Onw.of (Onw.go (fun own_u k => castTop (ef_0 m p0 p1 p2 p3 p4) k) ?_)
  show Onw p e below _ (s₁.setTop (mkF m 0 #[.val (.int p0), .val (.int p1), .val (.int p2), .val (.int p3), .val (.int p4), .unset, .unset, .unset, .unset, .unset, .unset, .unset, .unset] []))
  refine Onw.go (fun own_u kt => XS.iconst X0.here hx rfl (hb hby at_0) kt) ?_
  show Onw p e below _ (s₁.setTop (mkF m 1 #[.val (.int p0), .val (.int p1), .val (.int p2), .val (.int p3), .val (.int p4), .unset, .unset, .unset, .unset, .unset, .unset, .unset, .unset] [(.int (4 : Int32))]))
  obtain ⟨T1, h1, k1, X1, e1, E1, A1, st1⟩ := newP X0 hx hZ (hw _ (List.mem_of_getElem? (i := 0) rfl)) e0 (g := (mkF m 1 #[.val (.int p0), .val (.int p1), .val (.int p2), .val (.int p3), .val (.int p4), .unset, .unset, .unset, .unset, .unset, .unset, .unset, .unset] [(.int (4 : Int32))])) rfl (hb hby at_1) rfl (by decide) (cap := 4) (by decide) (by decide) (by decide) (by decide)
  obtain ⟨b, gg1⟩ : ∃ own_z, own_z = h0.size := ⟨_, rfl⟩
  rw [← gg1] at A1 st1
  have V_b : Arv Z h1 b k1 .byte (4 : Int32) [(.int (0 : Int32)), (.int (0 : Int32)), (.int (0 : Int32)), (.int (0 : Int32))] (.int (0 : Int32)) := (Arv.new A1 (by decide)).pad (pad_rep [] (.int (0 : Int32)) 4)
  refine Onw.go st1 ?_
  show Onw p e below _ (T1.setTop (mkF m 3 #[.val (.int p0), .val (.int p1), .val (.int p2), .val (.int p3), .val (.int p4), .unset, .unset, .unset, .unset, .unset, .unset, .unset, .unset] [(.ref b)]))
  have g_b : n0 ≤ b := gg1 ▸ Z0
  refine Onw.go (fun own_u kt => XS.astore X1.here hx rfl (hb hby at_3) rfl rfl (l' := #[.val (.int p0), .val (.int p1), .val (.int p2), .val (.int p3), .val (.int p4), .val (.ref b), .unset, .unset, .unset, .unset, .unset, .unset, .unset]) rfl kt) ?_
  show Onw p e below _ (T1.setTop (mkF m 5 #[.val (.int p0), .val (.int p1), .val (.int p2), .val (.int p3), .val (.int p4), .val (.ref b), .unset, .unset, .unset, .unset, .unset, .unset, .unset] []))
  refine Onw.go (fun own_u kt => XS.aload X1.here hx rfl (hb hby at_5) rfl rfl kt) ?_
  show Onw p e below _ (T1.setTop (mkF m 7 #[.val (.int p0), .val (.int p1), .val (.int p2), .val (.int p3), .val (.int p4), .val (.ref b), .unset, .unset, .unset, .unset, .unset, .unset, .unset] [(.ref b)]))
  refine Onw.go (fun own_u kt => XS.iconst X1.here hx rfl (hb hby at_7) kt) ?_
  show Onw p e below _ (T1.setTop (mkF m 8 #[.val (.int p0), .val (.int p1), .val (.int p2), .val (.int p3), .val (.int p4), .val (.ref b), .unset, .unset, .unset, .unset, .unset, .unset, .unset] [(.int (0 : Int32)), (.ref b)]))
  refine Onw.go (fun own_u kt => XS.iloadN X1.here hx rfl (hb hby at_8) rfl kt) ?_
  show Onw p e below _ (T1.setTop (mkF m 9 #[.val (.int p0), .val (.int p1), .val (.int p2), .val (.int p3), .val (.int p4), .val (.ref b), .unset, .unset, .unset, .unset, .unset, .unset, .unset] [(.int p0), (.int (0 : Int32)), (.ref b)]))
  obtain ⟨_, _, ⟨T2, L2, k2, n2⟩, -, X2, ⟨Lc2, hQ2, l2, y2, z2⟩, st2⟩ := Jvm.LawKit.callS X1 hx (y := (⟨"com/example/shrewd_spider/shrewdspider/net/MessageBytesPassOverLineEndsPinLaw", "pick", "(I)B"⟩ : MethodName)) hown (mvT hZ (hw _ (List.mem_of_getElem? (i := 1) rfl))) (mvT hZ (hw _ (List.mem_of_getElem? (i := 2) rfl))) (mvT hZ (hw _ (List.mem_of_getElem? (i := 3) rfl))) (mvT hZ (hw _ (List.mem_of_getElem? (i := 4) rfl))) (by decide) (backOf (W := 2) (rm1 l Z a0 hw [] p0  h1 n0 ) hZ (hw _ (List.mem_of_getElem? (i := 4) rfl)) (hw _ (List.mem_of_getElem? (i := 3) rfl)) (by decide) (by decide)) (g := (mkF m 9 #[.val (.int p0), .val (.int p1), .val (.int p2), .val (.int p3), .val (.int p4), .val (.ref b), .unset, .unset, .unset, .unset, .unset, .unset, .unset] [(.int p0), (.int (0 : Int32)), (.ref b)])) rfl (by rw [hml]; rfl) (argsL := [(.int p0)]) (rest := [(.int (0 : Int32)), (.ref b)]) (lenOf pd_0 rfl) rfl (by show 2 * 0 + _ ≤ _; exact Nat.le_of_eq rfl) (hb hby at_9) (fun _ _ => ⟨rfl, e1, (by decide : 1 + 0 ≤ _), (by decide : 4 + 0 ≤ _)⟩)
  dsimp only [Pt.U, Pt.locs, Pt.cells, Pt.slots] at X2 l2 y2 z2 st2 hQ2
  subst l2 y2 z2
  obtain ⟨rfl, N2q, e2q⟩ := hQ2
  have N2 := Fr.app N0 N2q
  refine Onw.go st2 ?_
  show Onw p e below _ (T2.setTop (mkF m 12 #[.val (.int p0), .val (.int p1), .val (.int p2), .val (.int p3), .val (.int p4), .val (.ref b), .unset, .unset, .unset, .unset, .unset, .unset, .unset] [(.int (own_pk p0)), (.int (0 : Int32)), (.ref b)]))
  obtain ⟨cl3, Ar3, qa3, Sa3, Na3, Ha3, Ga3⟩ := V_b
  have hin3 : ¬ ((0 : Int32) < 0 ∨ cl3.slots.size ≤ ((0 : Int32)).toNatClampNeg) := inb_of Sa3 ⟨by decide, by decide⟩
  obtain ⟨T3, h3, X3, e3, W3, st3⟩ := stB X2 hx hZ e2q Ar3 (j := (0 : Int32)) hin3 (g := (mkF m 12 #[.val (.int p0), .val (.int p1), .val (.int p2), .val (.int p3), .val (.int p4), .val (.ref b), .unset, .unset, .unset, .unset, .unset, .unset, .unset] [(.int (own_pk p0)), (.int (0 : Int32)), (.ref b)])) rfl rfl (hb hby at_12)
  have V3 := Arv.set Ar3 qa3 Sa3 Na3 Ha3 Ga3 (fits_nar_byte _) W3 0 rfl (Nat.le_of_ble_eq_true rfl)
  have N3 := Fr.snoc X3 N2 g_b
  refine Onw.go st3 ?_
  show Onw p e below _ (T3.setTop (mkF m 13 #[.val (.int p0), .val (.int p1), .val (.int p2), .val (.int p3), .val (.int p4), .val (.ref b), .unset, .unset, .unset, .unset, .unset, .unset, .unset] []))
  refine Onw.go (fun own_u kt => XS.aload X3.here hx rfl (hb hby at_13) rfl rfl kt) ?_
  show Onw p e below _ (T3.setTop (mkF m 15 #[.val (.int p0), .val (.int p1), .val (.int p2), .val (.int p3), .val (.int p4), .val (.ref b), .unset, .unset, .unset, .unset, .unset, .unset, .unset] [(.ref b)]))
  refine Onw.go (fun own_u kt => XS.iconst X3.here hx rfl (hb hby at_15) kt) ?_
  show Onw p e below _ (T3.setTop (mkF m 16 #[.val (.int p0), .val (.int p1), .val (.int p2), .val (.int p3), .val (.int p4), .val (.ref b), .unset, .unset, .unset, .unset, .unset, .unset, .unset] [(.int (1 : Int32)), (.ref b)]))
  refine Onw.go (fun own_u kt => XS.iloadN X3.here hx rfl (hb hby at_16) rfl kt) ?_
  show Onw p e below _ (T3.setTop (mkF m 17 #[.val (.int p0), .val (.int p1), .val (.int p2), .val (.int p3), .val (.int p4), .val (.ref b), .unset, .unset, .unset, .unset, .unset, .unset, .unset] [(.int p1), (.int (1 : Int32)), (.ref b)]))
  obtain ⟨_, _, ⟨T4, L4, k4, n4⟩, -, X4, ⟨Lc4, hQ4, l4, y4, z4⟩, st4⟩ := Jvm.LawKit.callS X3 hx (y := (⟨"com/example/shrewd_spider/shrewdspider/net/MessageBytesPassOverLineEndsPinLaw", "pick", "(I)B"⟩ : MethodName)) hown (mvT hZ (hw _ (List.mem_of_getElem? (i := 1) rfl))) (mvT hZ (hw _ (List.mem_of_getElem? (i := 2) rfl))) (mvT hZ (hw _ (List.mem_of_getElem? (i := 3) rfl))) (mvT hZ (hw _ (List.mem_of_getElem? (i := 4) rfl))) (by decide) (backOf (W := 2) (rm1 l Z a0 hw [] p1  h3 n0 ) hZ (hw _ (List.mem_of_getElem? (i := 4) rfl)) (hw _ (List.mem_of_getElem? (i := 3) rfl)) (by decide) (by decide)) (g := (mkF m 17 #[.val (.int p0), .val (.int p1), .val (.int p2), .val (.int p3), .val (.int p4), .val (.ref b), .unset, .unset, .unset, .unset, .unset, .unset, .unset] [(.int p1), (.int (1 : Int32)), (.ref b)])) rfl (by rw [hml]; rfl) (argsL := [(.int p1)]) (rest := [(.int (1 : Int32)), (.ref b)]) (lenOf pd_0 rfl) rfl (by show 2 * 0 + _ ≤ _; exact Nat.le_of_eq rfl) (hb hby at_17) (fun _ _ => ⟨rfl, e3, (by decide : 1 + 0 ≤ _), (by decide : 4 + 0 ≤ _)⟩)
  dsimp only [Pt.U, Pt.locs, Pt.cells, Pt.slots] at X4 l4 y4 z4 st4 hQ4
  subst l4 y4 z4
  obtain ⟨rfl, N4q, e4q⟩ := hQ4
  have N4 := Fr.app N3 N4q
  refine Onw.go st4 ?_
  show Onw p e below _ (T4.setTop (mkF m 20 #[.val (.int p0), .val (.int p1), .val (.int p2), .val (.int p3), .val (.int p4), .val (.ref b), .unset, .unset, .unset, .unset, .unset, .unset, .unset] [(.int (own_pk p1)), (.int (1 : Int32)), (.ref b)]))
  obtain ⟨cl5, Ar5, qa5, Sa5, Na5, Ha5, Ga5⟩ := V3
  have hin5 : ¬ ((1 : Int32) < 0 ∨ cl5.slots.size ≤ ((1 : Int32)).toNatClampNeg) := inb_of Sa5 ⟨by decide, by decide⟩
  obtain ⟨T5, h5, X5, e5, W5, st5⟩ := stB X4 hx hZ e4q Ar5 (j := (1 : Int32)) hin5 (g := (mkF m 20 #[.val (.int p0), .val (.int p1), .val (.int p2), .val (.int p3), .val (.int p4), .val (.ref b), .unset, .unset, .unset, .unset, .unset, .unset, .unset] [(.int (own_pk p1)), (.int (1 : Int32)), (.ref b)])) rfl rfl (hb hby at_20)
  have V5 := Arv.set Ar5 qa5 Sa5 Na5 Ha5 Ga5 (fits_nar_byte _) W5 1 rfl (Nat.le_of_ble_eq_true rfl)
  have N5 := Fr.snoc X5 N4 g_b
  refine Onw.go st5 ?_
  show Onw p e below _ (T5.setTop (mkF m 21 #[.val (.int p0), .val (.int p1), .val (.int p2), .val (.int p3), .val (.int p4), .val (.ref b), .unset, .unset, .unset, .unset, .unset, .unset, .unset] []))
  refine Onw.go (fun own_u kt => XS.aload X5.here hx rfl (hb hby at_21) rfl rfl kt) ?_
  show Onw p e below _ (T5.setTop (mkF m 23 #[.val (.int p0), .val (.int p1), .val (.int p2), .val (.int p3), .val (.int p4), .val (.ref b), .unset, .unset, .unset, .unset, .unset, .unset, .unset] [(.ref b)]))
  refine Onw.go (fun own_u kt => XS.iconst X5.here hx rfl (hb hby at_23) kt) ?_
  show Onw p e below _ (T5.setTop (mkF m 24 #[.val (.int p0), .val (.int p1), .val (.int p2), .val (.int p3), .val (.int p4), .val (.ref b), .unset, .unset, .unset, .unset, .unset, .unset, .unset] [(.int (2 : Int32)), (.ref b)]))
  refine Onw.go (fun own_u kt => XS.iloadN X5.here hx rfl (hb hby at_24) rfl kt) ?_
  show Onw p e below _ (T5.setTop (mkF m 25 #[.val (.int p0), .val (.int p1), .val (.int p2), .val (.int p3), .val (.int p4), .val (.ref b), .unset, .unset, .unset, .unset, .unset, .unset, .unset] [(.int p2), (.int (2 : Int32)), (.ref b)]))
  obtain ⟨_, _, ⟨T6, L6, k6, n6⟩, -, X6, ⟨Lc6, hQ6, l6, y6, z6⟩, st6⟩ := Jvm.LawKit.callS X5 hx (y := (⟨"com/example/shrewd_spider/shrewdspider/net/MessageBytesPassOverLineEndsPinLaw", "pick", "(I)B"⟩ : MethodName)) hown (mvT hZ (hw _ (List.mem_of_getElem? (i := 1) rfl))) (mvT hZ (hw _ (List.mem_of_getElem? (i := 2) rfl))) (mvT hZ (hw _ (List.mem_of_getElem? (i := 3) rfl))) (mvT hZ (hw _ (List.mem_of_getElem? (i := 4) rfl))) (by decide) (backOf (W := 2) (rm1 l Z a0 hw [] p2  h5 n0 ) hZ (hw _ (List.mem_of_getElem? (i := 4) rfl)) (hw _ (List.mem_of_getElem? (i := 3) rfl)) (by decide) (by decide)) (g := (mkF m 25 #[.val (.int p0), .val (.int p1), .val (.int p2), .val (.int p3), .val (.int p4), .val (.ref b), .unset, .unset, .unset, .unset, .unset, .unset, .unset] [(.int p2), (.int (2 : Int32)), (.ref b)])) rfl (by rw [hml]; rfl) (argsL := [(.int p2)]) (rest := [(.int (2 : Int32)), (.ref b)]) (lenOf pd_0 rfl) rfl (by show 2 * 0 + _ ≤ _; exact Nat.le_of_eq rfl) (hb hby at_25) (fun _ _ => ⟨rfl, e5, (by decide : 1 + 0 ≤ _), (by decide : 4 + 0 ≤ _)⟩)
  dsimp only [Pt.U, Pt.locs, Pt.cells, Pt.slots] at X6 l6 y6 z6 st6 hQ6
  subst l6 y6 z6
  obtain ⟨rfl, N6q, e6q⟩ := hQ6
  have N6 := Fr.app N5 N6q
  refine Onw.go st6 ?_
  show Onw p e below _ (T6.setTop (mkF m 28 #[.val (.int p0), .val (.int p1), .val (.int p2), .val (.int p3), .val (.int p4), .val (.ref b), .unset, .unset, .unset, .unset, .unset, .unset, .unset] [(.int (own_pk p2)), (.int (2 : Int32)), (.ref b)]))
  obtain ⟨cl7, Ar7, qa7, Sa7, Na7, Ha7, Ga7⟩ := V5
  have hin7 : ¬ ((2 : Int32) < 0 ∨ cl7.slots.size ≤ ((2 : Int32)).toNatClampNeg) := inb_of Sa7 ⟨by decide, by decide⟩
  obtain ⟨T7, h7, X7, e7, W7, st7⟩ := stB X6 hx hZ e6q Ar7 (j := (2 : Int32)) hin7 (g := (mkF m 28 #[.val (.int p0), .val (.int p1), .val (.int p2), .val (.int p3), .val (.int p4), .val (.ref b), .unset, .unset, .unset, .unset, .unset, .unset, .unset] [(.int (own_pk p2)), (.int (2 : Int32)), (.ref b)])) rfl rfl (hb hby at_28)
  have V7 := Arv.set Ar7 qa7 Sa7 Na7 Ha7 Ga7 (fits_nar_byte _) W7 2 rfl (Nat.le_of_ble_eq_true rfl)
  have N7 := Fr.snoc X7 N6 g_b
  refine Onw.go st7 ?_
  show Onw p e below _ (T7.setTop (mkF m 29 #[.val (.int p0), .val (.int p1), .val (.int p2), .val (.int p3), .val (.int p4), .val (.ref b), .unset, .unset, .unset, .unset, .unset, .unset, .unset] []))
  refine Onw.go (fun own_u kt => XS.aload X7.here hx rfl (hb hby at_29) rfl rfl kt) ?_
  show Onw p e below _ (T7.setTop (mkF m 31 #[.val (.int p0), .val (.int p1), .val (.int p2), .val (.int p3), .val (.int p4), .val (.ref b), .unset, .unset, .unset, .unset, .unset, .unset, .unset] [(.ref b)]))
  refine Onw.go (fun own_u kt => XS.iconst X7.here hx rfl (hb hby at_31) kt) ?_
  show Onw p e below _ (T7.setTop (mkF m 32 #[.val (.int p0), .val (.int p1), .val (.int p2), .val (.int p3), .val (.int p4), .val (.ref b), .unset, .unset, .unset, .unset, .unset, .unset, .unset] [(.int (3 : Int32)), (.ref b)]))
  refine Onw.go (fun own_u kt => XS.iloadN X7.here hx rfl (hb hby at_32) rfl kt) ?_
  show Onw p e below _ (T7.setTop (mkF m 33 #[.val (.int p0), .val (.int p1), .val (.int p2), .val (.int p3), .val (.int p4), .val (.ref b), .unset, .unset, .unset, .unset, .unset, .unset, .unset] [(.int p3), (.int (3 : Int32)), (.ref b)]))
  obtain ⟨_, _, ⟨T8, L8, k8, n8⟩, -, X8, ⟨Lc8, hQ8, l8, y8, z8⟩, st8⟩ := Jvm.LawKit.callS X7 hx (y := (⟨"com/example/shrewd_spider/shrewdspider/net/MessageBytesPassOverLineEndsPinLaw", "pick", "(I)B"⟩ : MethodName)) hown (mvT hZ (hw _ (List.mem_of_getElem? (i := 1) rfl))) (mvT hZ (hw _ (List.mem_of_getElem? (i := 2) rfl))) (mvT hZ (hw _ (List.mem_of_getElem? (i := 3) rfl))) (mvT hZ (hw _ (List.mem_of_getElem? (i := 4) rfl))) (by decide) (backOf (W := 2) (rm1 l Z a0 hw [] p3  h7 n0 ) hZ (hw _ (List.mem_of_getElem? (i := 4) rfl)) (hw _ (List.mem_of_getElem? (i := 3) rfl)) (by decide) (by decide)) (g := (mkF m 33 #[.val (.int p0), .val (.int p1), .val (.int p2), .val (.int p3), .val (.int p4), .val (.ref b), .unset, .unset, .unset, .unset, .unset, .unset, .unset] [(.int p3), (.int (3 : Int32)), (.ref b)])) rfl (by rw [hml]; rfl) (argsL := [(.int p3)]) (rest := [(.int (3 : Int32)), (.ref b)]) (lenOf pd_0 rfl) rfl (by show 2 * 0 + _ ≤ _; exact Nat.le_of_eq rfl) (hb hby at_33) (fun _ _ => ⟨rfl, e7, (by decide : 1 + 0 ≤ _), (by decide : 4 + 0 ≤ _)⟩)
  dsimp only [Pt.U, Pt.locs, Pt.cells, Pt.slots] at X8 l8 y8 z8 st8 hQ8
  subst l8 y8 z8
  obtain ⟨rfl, N8q, e8q⟩ := hQ8
  have N8 := Fr.app N7 N8q
  refine Onw.go st8 ?_
  show Onw p e below _ (T8.setTop (mkF m 36 #[.val (.int p0), .val (.int p1), .val (.int p2), .val (.int p3), .val (.int p4), .val (.ref b), .unset, .unset, .unset, .unset, .unset, .unset, .unset] [(.int (own_pk p3)), (.int (3 : Int32)), (.ref b)]))
  obtain ⟨cl9, Ar9, qa9, Sa9, Na9, Ha9, Ga9⟩ := V7
  have hin9 : ¬ ((3 : Int32) < 0 ∨ cl9.slots.size ≤ ((3 : Int32)).toNatClampNeg) := inb_of Sa9 ⟨by decide, by decide⟩
  obtain ⟨T9, h9, X9, e9, W9, st9⟩ := stB X8 hx hZ e8q Ar9 (j := (3 : Int32)) hin9 (g := (mkF m 36 #[.val (.int p0), .val (.int p1), .val (.int p2), .val (.int p3), .val (.int p4), .val (.ref b), .unset, .unset, .unset, .unset, .unset, .unset, .unset] [(.int (own_pk p3)), (.int (3 : Int32)), (.ref b)])) rfl rfl (hb hby at_36)
  have V9 := Arv.set Ar9 qa9 Sa9 Na9 Ha9 Ga9 (fits_nar_byte _) W9 3 rfl (Nat.le_of_ble_eq_true rfl)
  have N9 := Fr.snoc X9 N8 g_b
  refine Onw.go st9 ?_
  show Onw p e below _ (T9.setTop (mkF m 37 #[.val (.int p0), .val (.int p1), .val (.int p2), .val (.int p3), .val (.int p4), .val (.ref b), .unset, .unset, .unset, .unset, .unset, .unset, .unset] []))
  obtain ⟨m0, m1, m2, m3, VB⟩ : ∃ m0 m1 m2 m3, Arv Z h9 b _ .byte (4 : Int32) [.int m0, .int m1, .int m2, .int m3] (.int (0 : Int32)) := ⟨_, _, _, _, V9⟩
  refine Onw.go (fun own_u kt => XS.iconst X9.here hx rfl (hb hby at_37) kt) ?_
  show Onw p e below _ (T9.setTop (mkF m 38 #[.val (.int p0), .val (.int p1), .val (.int p2), .val (.int p3), .val (.int p4), .val (.ref b), .unset, .unset, .unset, .unset, .unset, .unset, .unset] [(.int (4 : Int32))]))
  obtain ⟨T10, h10, k10, X10, e10, E10, A10, st10⟩ := newP X9 hx hZ (hw _ (List.mem_of_getElem? (i := 0) rfl)) e9 (g := (mkF m 38 #[.val (.int p0), .val (.int p1), .val (.int p2), .val (.int p3), .val (.int p4), .val (.ref b), .unset, .unset, .unset, .unset, .unset, .unset, .unset] [(.int (4 : Int32))])) rfl (hb hby at_38) rfl (by decide) (cap := 4) (by decide) (by decide) (by decide) (by decide)
  obtain ⟨c1, gg10⟩ : ∃ own_z, own_z = h9.size := ⟨_, rfl⟩
  rw [← gg10] at A10 st10
  have V_c1 : Arv Z h10 c1 k10 .byte (4 : Int32) [(.int (0 : Int32)), (.int (0 : Int32)), (.int (0 : Int32)), (.int (0 : Int32))] (.int (0 : Int32)) := (Arv.new A10 (by decide)).pad (pad_rep [] (.int (0 : Int32)) 4)
  refine Onw.go st10 ?_
  show Onw p e below _ (T10.setTop (mkF m 40 #[.val (.int p0), .val (.int p1), .val (.int p2), .val (.int p3), .val (.int p4), .val (.ref b), .unset, .unset, .unset, .unset, .unset, .unset, .unset] [(.ref c1)]))
  have VB1 := VB.ext E10
  have g_c1 : n0 ≤ c1 := by have := VB.lt; rw [← gg10] at this; exact Nat.le_trans g_b (Nat.le_of_lt this)
  have bc : b ≠ c1 := by have := VB.lt; rw [← gg10] at this; exact Nat.ne_of_lt this
  refine Onw.go (fun own_u kt => XS.astore X10.here hx rfl (hb hby at_40) rfl rfl (l' := #[.val (.int p0), .val (.int p1), .val (.int p2), .val (.int p3), .val (.int p4), .val (.ref b), .val (.ref c1), .unset, .unset, .unset, .unset, .unset, .unset]) rfl kt) ?_
  show Onw p e below _ (T10.setTop (mkF m 42 #[.val (.int p0), .val (.int p1), .val (.int p2), .val (.int p3), .val (.int p4), .val (.ref b), .val (.ref c1), .unset, .unset, .unset, .unset, .unset, .unset] []))
  refine Onw.go (fun own_u kt => XS.iconst X10.here hx rfl (hb hby at_42) kt) ?_
  show Onw p e below _ (T10.setTop (mkF m 43 #[.val (.int p0), .val (.int p1), .val (.int p2), .val (.int p3), .val (.int p4), .val (.ref b), .val (.ref c1), .unset, .unset, .unset, .unset, .unset, .unset] [(.int (1 : Int32))]))
  obtain ⟨T11, h11, k11, X11, e11, E11, A11, st11⟩ := newP X10 hx hZ (hw _ (List.mem_of_getElem? (i := 0) rfl)) e10 (g := (mkF m 43 #[.val (.int p0), .val (.int p1), .val (.int p2), .val (.int p3), .val (.int p4), .val (.ref b), .val (.ref c1), .unset, .unset, .unset, .unset, .unset, .unset] [(.int (1 : Int32))])) rfl (hb hby at_43) rfl (by decide) (cap := 1) (by decide) (by decide) (by decide) (by decide)
  obtain ⟨d, gg11⟩ : ∃ own_z, own_z = h10.size := ⟨_, rfl⟩
  rw [← gg11] at A11 st11
  have V_d : Arv Z h11 d k11 .byte (1 : Int32) [(.int (0 : Int32))] (.int (0 : Int32)) := (Arv.new A11 (by decide)).pad (pad_rep [] (.int (0 : Int32)) 1)
  refine Onw.go st11 ?_
  show Onw p e below _ (T11.setTop (mkF m 45 #[.val (.int p0), .val (.int p1), .val (.int p2), .val (.int p3), .val (.int p4), .val (.ref b), .val (.ref c1), .unset, .unset, .unset, .unset, .unset, .unset] [(.ref d)]))
  have VB2 := VB1.ext E11
  have VC2 := V_c1.ext E11
  have g_d : n0 ≤ d := by have := VB1.lt; rw [← gg11] at this; exact Nat.le_trans g_b (Nat.le_of_lt this)
  have bd : b ≠ d := by have := VB1.lt; rw [← gg11] at this; exact Nat.ne_of_lt this
  have cd : c1 ≠ d := by have := V_c1.lt; rw [← gg11] at this; exact Nat.ne_of_lt this
  refine Onw.go (fun own_u kt => XS.astore X11.here hx rfl (hb hby at_45) rfl rfl (l' := #[.val (.int p0), .val (.int p1), .val (.int p2), .val (.int p3), .val (.int p4), .val (.ref b), .val (.ref c1), .val (.ref d), .unset, .unset, .unset, .unset, .unset]) rfl kt) ?_
  show Onw p e below _ (T11.setTop (mkF m 47 #[.val (.int p0), .val (.int p1), .val (.int p2), .val (.int p3), .val (.int p4), .val (.ref b), .val (.ref c1), .val (.ref d), .unset, .unset, .unset, .unset, .unset] []))
  refine Onw.go (fun own_u kt => XS.iload X11.here hx rfl (hb hby at_47) rfl kt) ?_
  show Onw p e below _ (T11.setTop (mkF m 49 #[.val (.int p0), .val (.int p1), .val (.int p2), .val (.int p3), .val (.int p4), .val (.ref b), .val (.ref c1), .val (.ref d), .unset, .unset, .unset, .unset, .unset] [(.int p4)]))
  refine Onw.go (X11.ldcInt hx hown (mvT hZ (hw _ (List.mem_of_getElem? (i := 5) rfl))) (g := (mkF m 49 #[.val (.int p0), .val (.int p1), .val (.int p2), .val (.int p3), .val (.int p4), .val (.ref b), .val (.ref c1), .val (.ref d), .unset, .unset, .unset, .unset, .unset] [(.int p4)])) rfl (hb hby at_49)) ?_
  show Onw p e below _ (T11.setTop (mkF m 51 #[.val (.int p0), .val (.int p1), .val (.int p2), .val (.int p3), .val (.int p4), .val (.ref b), .val (.ref c1), .val (.ref d), .unset, .unset, .unset, .unset, .unset] [(.int (2147483647 : Int32)), (.int p4)]))
  refine Onw.go (fun own_u kt => XS.iand X11.here hx rfl (hb hby at_51) rfl kt) ?_
  show Onw p e below _ (T11.setTop (mkF m 52 #[.val (.int p0), .val (.int p1), .val (.int p2), .val (.int p3), .val (.int p4), .val (.ref b), .val (.ref c1), .val (.ref d), .unset, .unset, .unset, .unset, .unset] [(.int (p4 &&& (2147483647 : Int32)))]))
  refine Onw.go (fun own_u kt => XS.iconst X11.here hx rfl (hb hby at_52) kt) ?_
  show Onw p e below _ (T11.setTop (mkF m 53 #[.val (.int p0), .val (.int p1), .val (.int p2), .val (.int p3), .val (.int p4), .val (.ref b), .val (.ref c1), .val (.ref d), .unset, .unset, .unset, .unset, .unset] [(.int (5 : Int32)), (.int (p4 &&& (2147483647 : Int32)))]))
  refine Onw.go (fun own_u kt => iremM X11 hx rfl (hb hby at_53) rfl (by decide) kt) ?_
  show Onw p e below _ (T11.setTop (mkF m 54 #[.val (.int p0), .val (.int p1), .val (.int p2), .val (.int p3), .val (.int p4), .val (.ref b), .val (.ref c1), .val (.ref d), .unset, .unset, .unset, .unset, .unset] [(.int ((p4 &&& (2147483647 : Int32)) % (5 : Int32)))]))
  obtain ⟨pre, hpre⟩ : ∃ own_z, own_z = ((p4 &&& (2147483647 : Int32)) % (5 : Int32)) := ⟨_, rfl⟩
  rw [← hpre]
  show Onw p e below _ (T11.setTop (mkF m 54 #[.val (.int p0), .val (.int p1), .val (.int p2), .val (.int p3), .val (.int p4), .val (.ref b), .val (.ref c1), .val (.ref d), .unset, .unset, .unset, .unset, .unset] [(.int pre)]))
  have hp := own_pre _ _ hpre
  refine Onw.go (fun own_u kt => XS.istore X11.here hx rfl (hb hby at_54) rfl (l' := #[.val (.int p0), .val (.int p1), .val (.int p2), .val (.int p3), .val (.int p4), .val (.ref b), .val (.ref c1), .val (.ref d), .val (.int pre), .unset, .unset, .unset, .unset]) rfl kt) ?_
  show Onw p e below _ (T11.setTop (mkF m 56 #[.val (.int p0), .val (.int p1), .val (.int p2), .val (.int p3), .val (.int p4), .val (.ref b), .val (.ref c1), .val (.ref d), .val (.int pre), .unset, .unset, .unset, .unset] []))
  obtain ⟨T12, h12, X12, e12, E12, A12, D12, -, st12⟩ := newO X11 hx hZ hown (hw _ (List.mem_of_getElem? (i := 6) rfl)) (hw _ (List.mem_of_getElem? (i := 7) rfl)) (hw _ (List.mem_of_getElem? (i := 8) rfl)) e11 (g := (mkF m 56 #[.val (.int p0), .val (.int p1), .val (.int p2), .val (.int p3), .val (.int p4), .val (.ref b), .val (.ref c1), .val (.ref d), .val (.int pre), .unset, .unset, .unset, .unset] [])) rfl (hb hby at_56) (by decide) (by decide)
  obtain ⟨a, gg12⟩ : ∃ own_z, own_z = h11.size := ⟨_, rfl⟩
  rw [← gg12] at A12 D12 st12
  have F_source_a : Fld Z h12 a "com/example/shrewd_spider/shrewdspider/net/MessageBytes" "source" "Ljava/io/InputStream;" .null := D12 (Or.inr (hw _ (List.mem_of_getElem? (i := 16) rfl))) (ty := (.object "java/io/InputStream")) (by decide)
  have F_buffer_a : Fld Z h12 a "com/example/shrewd_spider/shrewdspider/net/MessageBytes" "buffer" "[B" .null := D12 (Or.inr (hw _ (List.mem_of_getElem? (i := 18) rfl))) (ty := (.array .byte)) (by decide)
  have F_limit_a : Fld Z h12 a "com/example/shrewd_spider/shrewdspider/net/MessageBytes" "limit" "I" (.int (0 : Int32)) := D12 (Or.inl (hw _ (List.mem_of_getElem? (i := 20) rfl))) (ty := .int) (by decide)
  have F_position_a : Fld Z h12 a "com/example/shrewd_spider/shrewdspider/net/MessageBytes" "position" "I" (.int (0 : Int32)) := D12 (Or.inl (hw _ (List.mem_of_getElem? (i := 30) rfl))) (ty := .int) (by decide)
  have F_taken_a : Fld Z h12 a "com/example/shrewd_spider/shrewdspider/net/MessageBytes" "taken" "J" (.long (0 : Int64)) := D12 (Or.inl (hw _ (List.mem_of_getElem? (i := 32) rfl))) (ty := .long) (by decide)
  refine Onw.go st12 ?_
  show Onw p e below _ (T12.setTop (mkF m 59 #[.val (.int p0), .val (.int p1), .val (.int p2), .val (.int p3), .val (.int p4), .val (.ref b), .val (.ref c1), .val (.ref d), .val (.int pre), .unset, .unset, .unset, .unset] [(.ref a)]))
  have VB3 := VB2.ext E12
  have VC3 := VC2.ext E12
  have VD3 := V_d.ext E12
  have ba : b ≠ a := by have := VB2.lt; rw [← gg12] at this; exact Nat.ne_of_lt this
  have c1a : c1 ≠ a := by have := VC2.lt; rw [← gg12] at this; exact Nat.ne_of_lt this
  have da : d ≠ a := by have := V_d.lt; rw [← gg12] at this; exact Nat.ne_of_lt this
  have g_a : n0 ≤ a := by have := VB2.lt; rw [← gg12] at this; exact Nat.le_trans g_b (Nat.le_of_lt this)
  have M0 : own_MB Z h12 a .null .null (.int (0 : Int32)) (.int (0 : Int32)) (.long (0 : Int64)) := ⟨A12, F_source_a, F_buffer_a, F_limit_a, F_position_a, F_taken_a⟩
  refine Onw.go (fun own_u kt => XS.dup X12.here hx rfl (hb hby at_59) rfl rfl kt) ?_
  show Onw p e below _ (T12.setTop (mkF m 60 #[.val (.int p0), .val (.int p1), .val (.int p2), .val (.int p3), .val (.int p4), .val (.ref b), .val (.ref c1), .val (.ref d), .val (.int pre), .unset, .unset, .unset, .unset] [(.ref a), (.ref a)]))
  refine Onw.go (fun own_u kt => XS.aload X12.here hx rfl (hb hby at_60) rfl rfl kt) ?_
  show Onw p e below _ (T12.setTop (mkF m 62 #[.val (.int p0), .val (.int p1), .val (.int p2), .val (.int p3), .val (.int p4), .val (.ref b), .val (.ref c1), .val (.ref d), .val (.int pre), .unset, .unset, .unset, .unset] [(.ref b), (.ref a), (.ref a)]))
  obtain ⟨_, _, ⟨T13, L13, k13, n13⟩, -, X13, ⟨Lc13, hQ13, l13, y13, z13⟩, st13⟩ := X12.specialBack hx (y := (⟨"com/example/shrewd_spider/shrewdspider/net/MessageBytes", "<init>", "([B)V"⟩ : MethodName)) rfl hown (mvT hZ (hw _ (List.mem_of_getElem? (i := 9) rfl))) (mvT hZ (hw _ (List.mem_of_getElem? (i := 10) rfl))) (mvT hZ (hw _ (List.mem_of_getElem? (i := 11) rfl))) (by decide) (backOf (W := 1) (rm2 l Z a0 hw [] a b _ _ h12 n0 M0 VB3 g_a ba) hZ (hw _ (List.mem_of_getElem? (i := 11) rfl)) (hw _ (List.mem_of_getElem? (i := 8) rfl)) (by decide) (by decide)) (g := (mkF m 62 #[.val (.int p0), .val (.int p1), .val (.int p2), .val (.int p3), .val (.int p4), .val (.ref b), .val (.ref c1), .val (.ref d), .val (.int pre), .unset, .unset, .unset, .unset] [(.ref b), (.ref a), (.ref a)])) rfl (by rw [hml]; rfl) (Steps.refl _) (a := a) (argsL := [(.ref b)]) (rest := [(.ref a)]) (lenOf pd_1 rfl) rfl (by show 2 * 0 + _ ≤ _; exact Nat.le_of_eq rfl) (hb hby at_62) (fun _ _ => ⟨rfl, e12, (by decide : 4 + 0 ≤ _), (by decide : 15 + 0 ≤ _)⟩)
  dsimp only [Pt.U, Pt.locs, Pt.cells, Pt.slots] at X13 l13 y13 z13 st13 hQ13
  subst l13 y13 z13
  obtain ⟨rfl, N13q, K13, M13⟩ := hQ13
  have N13 := Fr.app N9 N13q
  refine Onw.go (fun own_u kt => st13.trans kt) ?_
  show Onw p e below _ (T13.setTop (mkF m 65 #[.val (.int p0), .val (.int p1), .val (.int p2), .val (.int p3), .val (.int p4), .val (.ref b), .val (.ref c1), .val (.ref d), .val (.int pre), .unset, .unset, .unset, .unset] [(.ref a)]))
  have VB4 := VB3.keep K13 (by simpa using ba)
  have VC4 := VC3.keep K13 (by simpa using c1a)
  have VD4 := VD3.keep K13 (by simpa using da)
  refine Onw.go (fun own_u kt => XS.astore X13.here hx rfl (hb hby at_65) rfl rfl (l' := #[.val (.int p0), .val (.int p1), .val (.int p2), .val (.int p3), .val (.int p4), .val (.ref b), .val (.ref c1), .val (.ref d), .val (.int pre), .val (.ref a), .unset, .unset, .unset]) rfl kt) ?_
  show Onw p e below _ (T13.setTop (mkF m 67 #[.val (.int p0), .val (.int p1), .val (.int p2), .val (.int p3), .val (.int p4), .val (.ref b), .val (.ref c1), .val (.ref d), .val (.int pre), .val (.ref a), .unset, .unset, .unset] []))
  refine Onw.go (fun own_u kt => XS.iload X13.here hx rfl (hb hby at_67) rfl kt) ?_
  show Onw p e below _ (T13.setTop (mkF m 69 #[.val (.int p0), .val (.int p1), .val (.int p2), .val (.int p3), .val (.int p4), .val (.ref b), .val (.ref c1), .val (.ref d), .val (.int pre), .val (.ref a), .unset, .unset, .unset] [(.int pre)]))
  by_cases hpos : (0 : Int32) < pre
  · refine Onw.go (fun own_u kt => XS.ifNo X13.here hx rfl (hb hby at_69) rfl ((if0 _ _).trans (tlt (hpos : (0 : Int32) < pre)).2.2.2) kt) ?_
    show Onw p e below _ (T13.setTop (mkF m 72 #[.val (.int p0), .val (.int p1), .val (.int p2), .val (.int p3), .val (.int p4), .val (.ref b), .val (.ref c1), .val (.ref d), .val (.int pre), .val (.ref a), .unset, .unset, .unset] []))
    refine Onw.go (fun own_u kt => XS.aload X13.here hx rfl (hb hby at_72) rfl rfl kt) ?_
    show Onw p e below _ (T13.setTop (mkF m 74 #[.val (.int p0), .val (.int p1), .val (.int p2), .val (.int p3), .val (.int p4), .val (.ref b), .val (.ref c1), .val (.ref d), .val (.int pre), .val (.ref a), .unset, .unset, .unset] [(.ref a)]))
    refine Onw.go (fun own_u kt => XS.aload X13.here hx rfl (hb hby at_74) rfl rfl kt) ?_
    show Onw p e below _ (T13.setTop (mkF m 76 #[.val (.int p0), .val (.int p1), .val (.int p2), .val (.int p3), .val (.int p4), .val (.ref b), .val (.ref c1), .val (.ref d), .val (.int pre), .val (.ref a), .unset, .unset, .unset] [(.ref c1), (.ref a)]))
    refine Onw.go (fun own_u kt => XS.iconst X13.here hx rfl (hb hby at_76) kt) ?_
    show Onw p e below _ (T13.setTop (mkF m 77 #[.val (.int p0), .val (.int p1), .val (.int p2), .val (.int p3), .val (.int p4), .val (.ref b), .val (.ref c1), .val (.ref d), .val (.int pre), .val (.ref a), .unset, .unset, .unset] [(.int (0 : Int32)), (.ref c1), (.ref a)]))
    refine Onw.go (fun own_u kt => XS.iload X13.here hx rfl (hb hby at_77) rfl kt) ?_
    show Onw p e below _ (T13.setTop (mkF m 79 #[.val (.int p0), .val (.int p1), .val (.int p2), .val (.int p3), .val (.int p4), .val (.ref b), .val (.ref c1), .val (.ref d), .val (.int pre), .val (.ref a), .unset, .unset, .unset] [(.int pre), (.int (0 : Int32)), (.ref c1), (.ref a)]))
    obtain ⟨cq14, kq14, q14a, q14b, q14c⟩ := isOf hZ rfl M13.1
    obtain ⟨_, _, ⟨T14, L14, k14, n14⟩, -, X14, ⟨Lc14, hQ14, l14, y14, z14⟩, st14⟩ := X13.virtualBack hx (y := (⟨"com/example/shrewd_spider/shrewdspider/net/MessageBytes", "take", "([BII)I"⟩ : MethodName)) (z := (⟨"com/example/shrewd_spider/shrewdspider/net/MessageBytes", "take", "([BII)I"⟩ : MethodName)) hown (mvT hZ (hw _ (List.mem_of_getElem? (i := 43) rfl))) (mvT hZ (hw _ (List.mem_of_getElem? (i := 44) rfl))) (notFace_of_selects (args := #[]) (mvT hZ (hw _ (List.mem_of_getElem? (i := 46) rfl)))) (mvT hZ (hw _ (List.mem_of_getElem? (i := 46) rfl))) (mvT hZ (hw _ (List.mem_of_getElem? (i := 45) rfl))) (by decide) (backOf (W := 0) (rm_take l Z a0 hw [] a c1 (0 : Int32) pre (0 : Int32) (0 : Int64) b _ m0 m1 m2 m3 _ (4 : Int32) _ _ T13.heap n0 M13 VB4 VC4 ba bc (Ne.symm c1a) g_a g_c1 rfl (own_pre0 hp hpos) (own_pre4 hp) (own_pre4 hp)) hZ (hw _ (List.mem_of_getElem? (i := 47) rfl)) (hw _ (List.mem_of_getElem? (i := 8) rfl)) (by decide) (by decide)) q14a q14c (g := (mkF m 79 #[.val (.int p0), .val (.int p1), .val (.int p2), .val (.int p3), .val (.int p4), .val (.ref b), .val (.ref c1), .val (.ref d), .val (.int pre), .val (.ref a), .unset, .unset, .unset] [(.int pre), (.int (0 : Int32)), (.ref c1), (.ref a)])) rfl (by rw [hml]; rfl) (Steps.refl _) (argsL := [(.ref c1), (.int (0 : Int32)), (.int pre)]) (rest := []) (lenOf pd_6 rfl) rfl (by show 2 * 0 + _ ≤ _; exact Nat.le_of_eq rfl) (hb hby at_79) (fun _ _ => ⟨rfl, rfl, (by decide : 4 + 0 ≤ _), (by decide : 15 + 0 ≤ _)⟩)
    dsimp only [Pt.U, Pt.locs, Pt.cells, Pt.slots] at X14 l14 y14 z14 st14 hQ14
    subst l14 y14 z14
    obtain ⟨rfl, N14q, K14, M14, B14⟩ := hQ14
    have N14 := Fr.app N13 N14q
    refine Onw.go (fun own_u kt => st14.trans kt) ?_
    show Onw p e below _ (T14.setTop (mkF m 82 #[.val (.int p0), .val (.int p1), .val (.int p2), .val (.int p3), .val (.int p4), .val (.ref b), .val (.ref c1), .val (.ref d), .val (.int pre), .val (.ref a), .unset, .unset, .unset] [(.int pre)]))
    have VB5 := VB4.keep K14 (by simpa using ⟨ba, bc⟩)
    have VD5 := VD4.keep K14 (by simpa using ⟨da, Ne.symm cd⟩)
    have M6 := M14
    rw [own_z32 pre, own_z64 pre] at M6
    refine Onw.go (fun own_u kt => XS.istore X14.here hx rfl (hb hby at_82) rfl (l' := #[.val (.int p0), .val (.int p1), .val (.int p2), .val (.int p3), .val (.int p4), .val (.ref b), .val (.ref c1), .val (.ref d), .val (.int pre), .val (.ref a), .val (.int pre), .unset, .unset]) rfl kt) ?_
    show Onw p e below _ (T14.setTop (mkF m 84 #[.val (.int p0), .val (.int p1), .val (.int p2), .val (.int p3), .val (.int p4), .val (.ref b), .val (.ref c1), .val (.ref d), .val (.int pre), .val (.ref a), .val (.int pre), .unset, .unset] []))
    refine Onw.go (fun own_u kt => XS.iload X14.here hx rfl (hb hby at_84) rfl kt) ?_
    show Onw p e below _ (T14.setTop (mkF m 86 #[.val (.int p0), .val (.int p1), .val (.int p2), .val (.int p3), .val (.int p4), .val (.ref b), .val (.ref c1), .val (.ref d), .val (.int pre), .val (.ref a), .val (.int pre), .unset, .unset] [(.int pre)]))
    refine Onw.go (fun own_u kt => XS.iload X14.here hx rfl (hb hby at_86) rfl kt) ?_
    show Onw p e below _ (T14.setTop (mkF m 88 #[.val (.int p0), .val (.int p1), .val (.int p2), .val (.int p3), .val (.int p4), .val (.ref b), .val (.ref c1), .val (.ref d), .val (.int pre), .val (.ref a), .val (.int pre), .unset, .unset] [(.int pre), (.int pre)]))
    refine Onw.go (fun own_u kt => XS.icmpYes X14.here hx rfl (pc0 := 88) (pc' := 93) rfl (hb hby at_88) rfl (teq (rfl : pre = pre)).1 (by decide) (by decide) kt) ?_
    show Onw p e below _ (T14.setTop (mkF m 93 #[.val (.int p0), .val (.int p1), .val (.int p2), .val (.int p3), .val (.int p4), .val (.ref b), .val (.ref c1), .val (.ref d), .val (.int pre), .val (.ref a), .val (.int pre), .unset, .unset] []))
    refine law_mid hx hZ hw hby hml hown p0 p1 p2 p3 p4 pre c1 d a _ b _ m0 m1 m2 m3 (.val (.int pre)) X14 rfl N14 M6 VB5 VD5 ba bd (Ne.symm da) g_a g_d hp (One.val rfl) (fun pc Ls T' locs' hpc X' N' => ?_)
    rcases hpc with rfl | rfl
    · exact Onw.ret X' Bd.notSynchronized (fun h => by rw [Bd.returns] at h; cases h) (fun fs hr => retN X' hx (t := .boolean) Bd.returns (by simp) (hb hby at_262) hr) ⟨rfl, N'⟩ (by decide) (by decide)
    · exact Onw.ret X' Bd.notSynchronized (fun h => by rw [Bd.returns] at h; cases h) (fun fs hr => retN X' hx (t := .boolean) Bd.returns (by simp) (hb hby at_274) hr) ⟨rfl, N'⟩ (by decide) (by decide)
  · refine Onw.go (fun own_u kt => XS.ifYes X13.here hx rfl (pc0 := 69) (pc' := 93) rfl (hb hby at_69) rfl ((if0 _ _).trans (flt (hpos : ¬ ((0 : Int32) < pre))).2.2.2) (by decide) (by decide) kt) ?_
    show Onw p e below _ (T13.setTop (mkF m 93 #[.val (.int p0), .val (.int p1), .val (.int p2), .val (.int p3), .val (.int p4), .val (.ref b), .val (.ref c1), .val (.ref d), .val (.int pre), .val (.ref a), .unset, .unset, .unset] []))
    obtain rfl : pre = 0 := own_pz hp hpos
    show Onw p e below _ (T13.setTop (mkF m 93 #[.val (.int p0), .val (.int p1), .val (.int p2), .val (.int p3), .val (.int p4), .val (.ref b), .val (.ref c1), .val (.ref d), .val (.int (0 : Int32)), .val (.ref a), .unset, .unset, .unset] []))
    have M6 : own_MB Z T13.heap a .null (.ref b) (.int (4 : Int32)) (.int (0 : Int32)) (.long (0 : Int32).toInt64) := M13
    refine law_mid hx hZ hw hby hml hown p0 p1 p2 p3 p4 0 c1 d a _ b _ m0 m1 m2 m3 .unset X13 rfl N13 M6 VB4 VD4 ba bd (Ne.symm da) g_a g_d hp One.u (fun pc Ls T' locs' hpc X' N' => ?_)
    rcases hpc with rfl | rfl
    · exact Onw.ret X' Bd.notSynchronized (fun h => by rw [Bd.returns] at h; cases h) (fun fs hr => retN X' hx (t := .boolean) Bd.returns (by simp) (hb hby at_262) hr) ⟨rfl, N'⟩ (by decide) (by decide)
    · exact Onw.ret X' Bd.notSynchronized (fun h => by rw [Bd.returns] at h; cases h) (fun fs hr => retN X' hx (t := .boolean) Bd.returns (by simp) (hb hby at_274) hr) ⟨rfl, N'⟩ (by decide) (by decide)
set_option maxRecDepth 65536 in
set_option maxHeartbeats 40000000 in
theorem comes_1 {Post : Tables → Env → Array Value → State → Outcome → State → Prop} (hpost : ∀ tb e args s v u, (limb_1_1.after args s (.returned v) u = true ∧ limb_1_2.after args s (.returned v) u = true ∧ True) → FrameEnd s (.returned v) u (Jvm.fieldLocs frame_1_writes args s ++ Jvm.arrayLocs frame_1_arrays args s ++ Jvm.staticLocs frame_1_statics s) 16 128 → Post tb e args s (.returned v) u) :
    ArmFor flags0 classFile x code maxLocals ret World_1 tables_1 room_1 Calls_1 rest_1 Pre_1 Post := by
  intro l hfl _ _ p e ha hc hk s m args below hf hA hF happ hP
  obtain ⟨hcalls, hrest, hpre⟩ := hP
  obtain ⟨-, -, -, hnamed, -, -, -, hat⟩ := (Spec.applies_iff hf).mp happ
  obtain ⟨hg, hn⟩ := and_e (Cond.before_iff.mp (show (Jvm.Cond.and given_1 narrow_1).before args s = true from hpre))
  obtain ⟨g1, g2⟩ := and_e hg
  obtain ⟨g3, g4⟩ := and_e g2
  obtain ⟨g5, g6⟩ := and_e g4
  obtain ⟨g7, g8⟩ := and_e g6
  obtain ⟨g9, g10⟩ := and_e g8
  obtain ⟨w0, w1, w2, w3, w4, rfl⟩ : ∃ w0 w1 w2 w3 w4 : Value, args = #[w0, w1, w2, w3, w4] := by
    have hs : args.size = 5 := by simpa [Cond.value, given_1] using g1
    obtain ⟨L⟩ := args
    match L, hs with
    | [w0, w1, w2, w3, w4], _ => exact ⟨w0, w1, w2, w3, w4, rfl⟩
  have hw := fun d (hd : d ∈ tables_1) => atoms_spec (ws := Jvm.Cond.code x code maxLocals ret :: tables_1) hat d (List.mem_cons_of_mem _ hd)
  have hfit : Fit s := fun {y c} hc i hi => by
    obtain ⟨ha, rfl⟩ := Array.getElem?_eq_some_iff.mp hc
    have q := List.all_eq_true.mp ((Array.all_eq_true_iff_forall_mem.mp hF) _ (Array.getElem_mem ha)) i (List.mem_range.mpr hi)
    simpa [Array.getElem?_eq_getElem hi] using q
  obtain ⟨i0, ei0⟩ := is_v g3
  obtain rfl : w0 = (.int i0) := Option.some.inj ei0
  obtain ⟨i1, ei1⟩ := is_v g5
  obtain rfl : w1 = (.int i1) := Option.some.inj ei1
  obtain ⟨i2, ei2⟩ := is_v g7
  obtain rfl : w2 = (.int i2) := Option.some.inj ei2
  obtain ⟨i3, ei3⟩ := is_v g9
  obtain rfl : w3 = (.int i3) := Option.some.inj ei3
  obtain ⟨i4, ei4⟩ := is_v g10
  obtain rfl : w4 = (.int i4) := Option.some.inj ei4
  obtain ⟨n, o, h1, h2, h3, _, L, rfl, ⟨rfl, N⟩, hq⟩ := rm0 l s _ hw tables_1 i0 i1 i2 i3 i4  s.heap s.heap.size (Nat.le_refl _) p e ha hc hk s m _ below hf ((Spec.applies_iff_loose hf).mp happ).1 ⟨rfl, State.Warmed39.refl s, rfl⟩ trivial
  refine ⟨n, _, h1, h2, h3, hpost _ _ _ _ _ _ ⟨Cond.after_iff.mpr rfl, Cond.after_iff.mpr (eq_i res_at (Term.int_eval (1)) rfl), trivial⟩ ⟨hq.1, hq.2.1, (hq.2.2.sift fun y hy => Or.inr (N y hy)).mono (by decide) (by decide)⟩⟩
theorem main_1_1 : Claimed_1_1 := comes_1 fun _ _ _ _ _ _ h hF => ⟨h.1, hF⟩
theorem main_1_2 : Claimed_1_2 := comes_1 fun _ _ _ _ _ _ h hF => ⟨h.2.1, hF⟩
end Jvm.Pilot.@@N@@
namespace Jvm.Pilot.@@N@@
open Jvm Jvm.ClassFile Sem Op Lib Jvm.Free Jvm.Stand Jvm.Pilot.@@N@@.Jvm.D
/-! MADE BY PROGRAM (witnessworld.py) out of the Statement's table words and the real class files: 11 classes; the members and pool entries that the words name. The judged class is class 1, her method 3. -/
namespace start1
open Jvm.ClassFile
def u (s : String) : CpInfo := .utf8 (stringToUtf16 s)
/-- a pool by its gaps: so many unusable entries, then the entry; so many at the end -/
def gap : Nat → List CpInfo → List CpInfo
  | 0, r => r
  | n + 1, r => .unusable :: gap n r
def poolList (es : List (Nat × CpInfo)) (last : Nat) : List CpInfo := es.foldr (fun e r => gap e.1 (e.2 :: r)) (gap last [])
def pool (es : List (Nat × CpInfo)) (last : Nat) : Array CpInfo := ⟨poolList es last⟩
def fileOf (pool : Array CpInfo) (this : Nat) (attrs : Array Attribute := #[]) (ms : Array MethodInfo := #[]) (fl : Nat := 33) (sup : Nat := 0) (ifs : Array Nat := #[]) (fds : Array FieldInfo := #[]) : ClassFile where
  minorVersion := 0
  majorVersion := 65
  constantPool := pool
  accessFlags := fl
  thisClass := this
  superClass := sup
  interfaces := ifs
  fields := fds
  methods := ms
  attributes := attrs
def plain (name : String) (sup : Option ClassId) : Class where
  name := name
  kind := .ordinary
  loader := none
  accessFlags := 33
  super := sup
  interfaces := #[]
  cf := none
  fields := #[]
  methods := #[]
  instanceTypes := #[]
  staticTypes := #[]
  resolved := #[]
  callSites := []
  init := .initialized
  statics := none
  mirror := none

def pool0 : Array CpInfo := pool [(5, u "<init>"), (0, u "()V"), (1, .class_ 10), (1, u "java/lang/Object")] 113

def k0c0 : Code := { maxStack := 0, maxLocals := 1, code := object_method_1_code, exceptionTable := #[], attributes := #[] }
def k0m0 : Method := { name := "<init>", desc := "()V", sig := { parameters := [], returnType := none }, accessFlags := 1, code := some k0c0 }
/-- java/lang/Object -/
def k0 : Class := { plain "java/lang/Object" none with
  accessFlags := 33
  interfaces := #[]
  cf := some (fileOf pool0 8 #[] #[{ accessFlags := 1, nameIndex := 5, descriptorIndex := 6, attributes := #[] }] 33 0 #[] #[])
  fields := #[]
  methods := #[k0m0]
  instanceTypes := #[]
  staticTypes := #[]
  resolved := Array.replicate 124 none
  statics := none }

def pool1 : Array CpInfo := pool [(2, .class_ 4), (1, u "java/lang/Object"), (0, u "<init>"), (0, u "()V"), (0, .methodref 8 9), (0, .class_ 10), (0, .nameAndType 11 12), (0, u "com/example/shrewd_spider/shrewdspider/net/MessageBytesPassOverLineEndsPinLaw"), (0, u "pick"), (0, u "(I)B"), (0, .integer 2147483647), (0, .class_ 15), (0, u "com/example/shrewd_spider/shrewdspider/net/MessageBytes"), (0, .methodref 14 17), (0, .nameAndType 5 18), (0, u "([B)V"), (0, .methodref 14 20), (0, .nameAndType 21 22), (0, u "take"), (0, u "([BII)I"), (0, .methodref 8 24), (0, .nameAndType 25 26), (0, u "isEnd"), (0, u "([BI)Z"), (0, .methodref 14 28), (0, .nameAndType 29 6), (0, u "passOverLineEnds"), (0, .methodref 14 31), (0, .nameAndType 32 33), (0, u "taken"), (0, u "()J"), (0, .methodref 14 35), (0, .nameAndType 36 37), (0, u "holdsMore"), (0, u "()Z"), (3, u "law"), (0, u "(IIIII)Z")] 7

def k1m0 : Method := { name := "<init>", desc := "()V", sig := { parameters := [], returnType := none }, accessFlags := 1, code := none }
def k1c1 : Code := { maxStack := 2, maxLocals := 2, code := method_2_code, exceptionTable := #[], attributes := #[] }
def k1m1 : Method := { name := "pick", desc := "(I)B", sig := { parameters := [.int], returnType := some .byte }, accessFlags := 10, code := some k1c1 }
def k1c2 : Code := { maxStack := 2, maxLocals := 2, code := method_3_code, exceptionTable := #[], attributes := #[] }
def k1m2 : Method := { name := "isEnd", desc := "([BI)Z", sig := { parameters := [(.array .byte), .int], returnType := some .boolean }, accessFlags := 10, code := some k1c2 }
def k1c3 : Code := { maxStack := 4, maxLocals := 13, code := code, exceptionTable := #[], attributes := #[] }
def k1m3 : Method := { name := "law", desc := "(IIIII)Z", sig := { parameters := [.int, .int, .int, .int, .int], returnType := some .boolean }, accessFlags := 9, code := some k1c3 }
/-- com/example/shrewd_spider/shrewdspider/net/MessageBytesPassOverLineEndsPinLaw -/
def k1 : Class := { plain "com/example/shrewd_spider/shrewdspider/net/MessageBytesPassOverLineEndsPinLaw" (some 0) with
  accessFlags := 49
  interfaces := #[]
  cf := some (fileOf pool1 8 #[] #[{ accessFlags := 1, nameIndex := 5, descriptorIndex := 6, attributes := #[] }, { accessFlags := 10, nameIndex := 11, descriptorIndex := 12, attributes := #[] }, { accessFlags := 10, nameIndex := 25, descriptorIndex := 26, attributes := #[] }, { accessFlags := 9, nameIndex := 41, descriptorIndex := 42, attributes := #[] }] 49 2 #[] #[])
  fields := #[]
  methods := #[k1m0, k1m1, k1m2, k1m3]
  instanceTypes := #[]
  staticTypes := #[]
  resolved := Array.replicate 50 none
  statics := none }

def pool2 : Array CpInfo := pool [(1, .methodref 2 3), (0, .class_ 4), (0, .nameAndType 5 6), (0, u "java/lang/Object"), (0, u "<init>"), (0, u "()V"), (0, .fieldref 8 9), (0, .class_ 10), (0, .nameAndType 11 12), (0, u "com/example/shrewd_spider/shrewdspider/net/MessageBytes"), (0, u "source"), (0, u "Ljava/io/InputStream;"), (1, .fieldref 8 15), (0, .nameAndType 16 17), (0, u "buffer"), (0, u "[B"), (0, .fieldref 8 19), (0, .nameAndType 20 21), (0, u "limit"), (0, u "I"), (0, .fieldref 8 23), (0, .nameAndType 24 25), (0, u "taken"), (0, u "J"), (11, u "kept"), (0, u "Lcom/example/shrewd_spider/shrewdspider/net/KeptBytes;"), (4, .fieldref 8 44), (0, .nameAndType 45 21), (0, u "position"), (0, .methodref 8 47), (0, .nameAndType 48 49), (0, u "fill"), (0, u "()Z"), (0, .methodref 51 52), (0, .class_ 53), (0, .nameAndType 54 55), (0, u "java/lang/Math"), (0, u "min"), (0, u "(II)I"), (0, .methodref 57 58), (0, .class_ 59), (0, .nameAndType 60 61), (0, u "java/lang/System"), (0, u "arraycopy"), (0, u "(Ljava/lang/Object;ILjava/lang/Object;II)V"), (3, .class_ 66), (0, u "com/example/shrewd_spider/shrewdspider/net/MessageBytes$LineTooLongException"), (46, u "([BII)I"), (3, u "BUFFER"), (1, u "FIRST_KEPT_ROOM"), (4, u "([B)V"), (0, u "()J"), (1, u "holdsMore"), (1, u "passOverLineEnds"), (0, u "take")] 10

def k2c0 : Code := { maxStack := 2, maxLocals := 2, code := prog_8_method_2_code, exceptionTable := #[], attributes := #[] }
def k2m0 : Method := { name := "<init>", desc := "([B)V", sig := { parameters := [(.array .byte)], returnType := none }, accessFlags := 0, code := some k2c0 }
def k2c1 : Code := { maxStack := 2, maxLocals := 1, code := prog_8_method_3_code, exceptionTable := #[], attributes := #[] }
def k2m1 : Method := { name := "taken", desc := "()J", sig := { parameters := [], returnType := some .long }, accessFlags := 0, code := some k2c1 }
def k2c2 : Code := { maxStack := 2, maxLocals := 1, code := prog_8_method_6_code, exceptionTable := #[], attributes := #[] }
def k2m2 : Method := { name := "holdsMore", desc := "()Z", sig := { parameters := [], returnType := some .boolean }, accessFlags := 0, code := some k2c2 }
def k2c3 : Code := { maxStack := 5, maxLocals := 2, code := prog_8_method_7_code, exceptionTable := #[], attributes := #[] }
def k2m3 : Method := { name := "passOverLineEnds", desc := "()V", sig := { parameters := [], returnType := none }, accessFlags := 0, code := some k2c3 }
def k2c4 : Code := { maxStack := 5, maxLocals := 5, code := prog_8_method_8_code, exceptionTable := #[], attributes := #[] }
def k2m4 : Method := { name := "take", desc := "([BII)I", sig := { parameters := [(.array .byte), .int, .int], returnType := some .int }, accessFlags := 0, code := some k2c4 }
def k2c5 : Code := { maxStack := 4, maxLocals := 2, code := prog_8_method_10_code, exceptionTable := #[], attributes := #[] }
def k2m5 : Method := { name := "fill", desc := "()Z", sig := { parameters := [], returnType := some .boolean }, accessFlags := 2, code := some k2c5 }
/-- com/example/shrewd_spider/shrewdspider/net/MessageBytes -/
def k2 : Class := { plain "com/example/shrewd_spider/shrewdspider/net/MessageBytes" (some 0) with
  accessFlags := 48
  interfaces := #[]
  cf := some (fileOf pool2 8 #[.nestMembers #[65]] #[{ accessFlags := 0, nameIndex := 5, descriptorIndex := 124, attributes := #[] }, { accessFlags := 0, nameIndex := 24, descriptorIndex := 125, attributes := #[] }, { accessFlags := 0, nameIndex := 127, descriptorIndex := 49, attributes := #[] }, { accessFlags := 0, nameIndex := 129, descriptorIndex := 6, attributes := #[] }, { accessFlags := 0, nameIndex := 130, descriptorIndex := 113, attributes := #[] }, { accessFlags := 2, nameIndex := 48, descriptorIndex := 49, attributes := #[] }] 48 2 #[] #[{ accessFlags := 26, nameIndex := 117, descriptorIndex := 21, attributes := #[] }, { accessFlags := 26, nameIndex := 119, descriptorIndex := 21, attributes := #[] }, { accessFlags := 18, nameIndex := 11, descriptorIndex := 12, attributes := #[] }, { accessFlags := 18, nameIndex := 16, descriptorIndex := 17, attributes := #[] }, { accessFlags := 2, nameIndex := 45, descriptorIndex := 21, attributes := #[] }, { accessFlags := 2, nameIndex := 20, descriptorIndex := 21, attributes := #[] }, { accessFlags := 2, nameIndex := 24, descriptorIndex := 25, attributes := #[] }, { accessFlags := 2, nameIndex := 37, descriptorIndex := 38, attributes := #[] }])
  fields := #[{ name := "BUFFER", type := .int, accessFlags := 26, slot := 0, constantValue := 0 }, { name := "FIRST_KEPT_ROOM", type := .int, accessFlags := 26, slot := 1, constantValue := 0 }, { name := "source", type := (.object "java/io/InputStream"), accessFlags := 18, slot := 0, constantValue := 0 }, { name := "buffer", type := (.array .byte), accessFlags := 18, slot := 1, constantValue := 0 }, { name := "position", type := .int, accessFlags := 2, slot := 2, constantValue := 0 }, { name := "limit", type := .int, accessFlags := 2, slot := 3, constantValue := 0 }, { name := "taken", type := .long, accessFlags := 2, slot := 4, constantValue := 0 }, { name := "kept", type := (.object "com/example/shrewd_spider/shrewdspider/net/KeptBytes"), accessFlags := 2, slot := 5, constantValue := 0 }]
  methods := #[k2m0, k2m1, k2m2, k2m3, k2m4, k2m5]
  instanceTypes := #[(.object "java/io/InputStream"), (.array .byte), .int, .int, .long, (.object "com/example/shrewd_spider/shrewdspider/net/KeptBytes")]
  staticTypes := #[.int, .int]
  resolved := Array.replicate 141 none
  statics := none }

def pool3 : Array CpInfo := pool [(1, .class_ 2), (0, u "java/lang/Math"), (1, .class_ 6), (1, u "java/lang/Object"), (0, u "<init>"), (0, u "()V"), (89, .class_ 100), (1, u "java/lang/Math$RandomNumberGeneratorHolder"), (71, u "negativeZeroFloatBits"), (0, u "J"), (2, u "negativeZeroDoubleBits"), (24, u "min"), (43, u "$assertionsDisabled"), (0, u "Z"), (88, u "(II)I"), (2, u "twoToTheDoubleScaleDown"), (0, u "D"), (4, u "twoToTheDoubleScaleUp"), (9, u "E"), (3, u "PI"), (2, u "TAU"), (2, u "DEGREES_TO_RADIANS"), (0, u "RADIANS_TO_DEGREES")] 94

def k3m0 : Method := { name := "<init>", desc := "()V", sig := { parameters := [], returnType := none }, accessFlags := 2, code := none }
def k3c1 : Code := { maxStack := 2, maxLocals := 2, code := jdk_29_method_69_code, exceptionTable := #[], attributes := #[] }
def k3m1 : Method := { name := "min", desc := "(II)I", sig := { parameters := [.int, .int], returnType := some .int }, accessFlags := 9, code := some k3c1 }
/-- java/lang/Math -/
def k3 : Class := { plain "java/lang/Math" (some 0) with
  accessFlags := 49
  interfaces := #[]
  cf := some (fileOf pool3 1 #[.nestMembers #[98]] #[{ accessFlags := 2, nameIndex := 7, descriptorIndex := 8, attributes := #[] }, { accessFlags := 9, nameIndex := 201, descriptorIndex := 335, attributes := #[] }] 49 4 #[] #[{ accessFlags := 25, nameIndex := 354, descriptorIndex := 339, attributes := #[] }, { accessFlags := 25, nameIndex := 358, descriptorIndex := 339, attributes := #[] }, { accessFlags := 25, nameIndex := 361, descriptorIndex := 339, attributes := #[] }, { accessFlags := 26, nameIndex := 364, descriptorIndex := 339, attributes := #[] }, { accessFlags := 26, nameIndex := 365, descriptorIndex := 339, attributes := #[] }, { accessFlags := 26, nameIndex := 172, descriptorIndex := 173, attributes := #[] }, { accessFlags := 26, nameIndex := 176, descriptorIndex := 173, attributes := #[] }, { accessFlags := 8, nameIndex := 344, descriptorIndex := 339, attributes := #[] }, { accessFlags := 8, nameIndex := 338, descriptorIndex := 339, attributes := #[] }, { accessFlags := 4120, nameIndex := 245, descriptorIndex := 246, attributes := #[] }])
  fields := #[{ name := "E", type := .double, accessFlags := 25, slot := 0, constantValue := 0 }, { name := "PI", type := .double, accessFlags := 25, slot := 1, constantValue := 0 }, { name := "TAU", type := .double, accessFlags := 25, slot := 2, constantValue := 0 }, { name := "DEGREES_TO_RADIANS", type := .double, accessFlags := 26, slot := 3, constantValue := 0 }, { name := "RADIANS_TO_DEGREES", type := .double, accessFlags := 26, slot := 4, constantValue := 0 }, { name := "negativeZeroFloatBits", type := .long, accessFlags := 26, slot := 5, constantValue := 0 }, { name := "negativeZeroDoubleBits", type := .long, accessFlags := 26, slot := 6, constantValue := 0 }, { name := "twoToTheDoubleScaleUp", type := .double, accessFlags := 8, slot := 7, constantValue := 0 }, { name := "twoToTheDoubleScaleDown", type := .double, accessFlags := 8, slot := 8, constantValue := 0 }, { name := "$assertionsDisabled", type := .boolean, accessFlags := 4120, slot := 9, constantValue := 0 }]
  methods := #[k3m0, k3m1]
  instanceTypes := #[]
  staticTypes := #[.double, .double, .double, .double, .double, .long, .long, .double, .double, .boolean]
  resolved := Array.replicate 460 none
  statics := none }

def pool4 : Array CpInfo := pool [(2, .class_ 4), (1, u "java/lang/Object"), (0, u "<init>"), (0, u "()V"), (1, .class_ 10), (1, u "java/lang/System"), (0, u "allowSecurityManager"), (0, u "I"), (16, u "cons"), (0, u "Ljava/io/Console;"), (77, .class_ 110), (1, u "java/lang/System$CallersHolder"), (43, u "initialErrStream"), (0, u "Ljava/io/PrintStream;"), (19, u "security"), (0, u "Ljava/lang/SecurityManager;"), (31, .class_ 209), (0, u "java/lang/System$1"), (7, u "props"), (0, u "Ljava/util/Properties;"), (2, u "lineSeparator"), (0, u "Ljava/lang/String;"), (96, .class_ 321), (1, u "java/lang/System$LoggerFinder"), (5, .class_ 328), (0, u "java/lang/System$Logger"), (67, u "err"), (2, u "out"), (91, u "notSupportedJnuEncoding"), (15, u "in"), (17, u "initialIn"), (0, u "Ljava/io/InputStream;"), (35, u "bootLayer"), (0, u "Ljava/lang/ModuleLayer;"), (99, .class_ 664), (0, u "java/lang/System$2"), (9, u "NEVER"), (2, u "MAYBE"), (49, u "arraycopy"), (0, u "(Ljava/lang/Object;ILjava/lang/Object;II)V"), (72, .class_ 802), (0, u "java/lang/System$Logger$Level")] 31

def k4m0 : Method := { name := "<init>", desc := "()V", sig := { parameters := [], returnType := none }, accessFlags := 2, code := none }
def k4m1 : Method := { name := "arraycopy", desc := "(Ljava/lang/Object;ILjava/lang/Object;II)V", sig := { parameters := [(.object "java/lang/Object"), .int, (.object "java/lang/Object"), .int, .int], returnType := none }, accessFlags := 265, code := none }
/-- java/lang/System -/
def k4 : Class := { plain "java/lang/System" (some 0) with
  accessFlags := 49
  interfaces := #[]
  cf := some (fileOf pool4 8 #[.nestMembers #[319, 327, 801, 108, 663, 208]] #[{ accessFlags := 2, nameIndex := 5, descriptorIndex := 6, attributes := #[] }, { accessFlags := 265, nameIndex := 727, descriptorIndex := 728, attributes := #[] }] 49 2 #[] #[{ accessFlags := 25, nameIndex := 507, descriptorIndex := 526, attributes := #[] }, { accessFlags := 25, nameIndex := 399, descriptorIndex := 155, attributes := #[] }, { accessFlags := 25, nameIndex := 396, descriptorIndex := 155, attributes := #[] }, { accessFlags := 10, nameIndex := 525, descriptorIndex := 526, attributes := #[] }, { accessFlags := 26, nameIndex := 674, descriptorIndex := 12, attributes := #[] }, { accessFlags := 26, nameIndex := 677, descriptorIndex := 12, attributes := #[] }, { accessFlags := 10, nameIndex := 11, descriptorIndex := 12, attributes := #[] }, { accessFlags := 74, nameIndex := 175, descriptorIndex := 176, attributes := #[] }, { accessFlags := 10, nameIndex := 491, descriptorIndex := 222, attributes := #[] }, { accessFlags := 74, nameIndex := 29, descriptorIndex := 30, attributes := #[] }, { accessFlags := 74, nameIndex := 154, descriptorIndex := 155, attributes := #[] }, { accessFlags := 10, nameIndex := 217, descriptorIndex := 218, attributes := #[] }, { accessFlags := 10, nameIndex := 221, descriptorIndex := 222, attributes := #[] }, { accessFlags := 8, nameIndex := 562, descriptorIndex := 563, attributes := #[] }])
  fields := #[{ name := "in", type := (.object "java/io/InputStream"), accessFlags := 25, slot := 0, constantValue := 0 }, { name := "out", type := (.object "java/io/PrintStream"), accessFlags := 25, slot := 1, constantValue := 0 }, { name := "err", type := (.object "java/io/PrintStream"), accessFlags := 25, slot := 2, constantValue := 0 }, { name := "initialIn", type := (.object "java/io/InputStream"), accessFlags := 10, slot := 3, constantValue := 0 }, { name := "NEVER", type := .int, accessFlags := 26, slot := 4, constantValue := 0 }, { name := "MAYBE", type := .int, accessFlags := 26, slot := 5, constantValue := 0 }, { name := "allowSecurityManager", type := .int, accessFlags := 10, slot := 6, constantValue := 0 }, { name := "security", type := (.object "java/lang/SecurityManager"), accessFlags := 74, slot := 7, constantValue := 0 }, { name := "notSupportedJnuEncoding", type := (.object "java/lang/String"), accessFlags := 10, slot := 8, constantValue := 0 }, { name := "cons", type := (.object "java/io/Console"), accessFlags := 74, slot := 9, constantValue := 0 }, { name := "initialErrStream", type := (.object "java/io/PrintStream"), accessFlags := 74, slot := 10, constantValue := 0 }, { name := "props", type := (.object "java/util/Properties"), accessFlags := 10, slot := 11, constantValue := 0 }, { name := "lineSeparator", type := (.object "java/lang/String"), accessFlags := 10, slot := 12, constantValue := 0 }, { name := "bootLayer", type := (.object "java/lang/ModuleLayer"), accessFlags := 8, slot := 13, constantValue := 0 }]
  methods := #[k4m0, k4m1]
  instanceTypes := #[]
  staticTypes := #[(.object "java/io/InputStream"), (.object "java/io/PrintStream"), (.object "java/io/PrintStream"), (.object "java/io/InputStream"), .int, .int, .int, (.object "java/lang/SecurityManager"), (.object "java/lang/String"), (.object "java/io/Console"), (.object "java/io/PrintStream"), (.object "java/util/Properties"), (.object "java/lang/String"), (.object "java/lang/ModuleLayer")]
  resolved := Array.replicate 834 none
  statics := none }

def pool5 : Array CpInfo := pool [(1, u "java/lang/Cloneable"), (0, .class_ 1), (0, u "java/lang/Object"), (0, .class_ 3)] 3

/-- java/lang/Cloneable -/
def k5 : Class := { plain "java/lang/Cloneable" (some 0) with
  accessFlags := 1537
  interfaces := #[]
  cf := some (fileOf pool5 2 #[] #[] 1537 4 #[] #[])
  fields := #[]
  methods := #[]
  instanceTypes := #[]
  staticTypes := #[]
  resolved := Array.replicate 8 none
  statics := none }

def pool6 : Array CpInfo := pool [(1, u "java/io/Serializable"), (0, .class_ 1), (0, u "java/lang/Object"), (0, .class_ 3)] 3

/-- java/io/Serializable -/
def k6 : Class := { plain "java/io/Serializable" (some 0) with
  accessFlags := 1537
  interfaces := #[]
  cf := some (fileOf pool6 2 #[] #[] 1537 4 #[] #[])
  fields := #[]
  methods := #[]
  instanceTypes := #[]
  staticTypes := #[]
  resolved := Array.replicate 8 none
  statics := none }

/-- the primitive byte -/
def k7 : Class := { plain "byte" none with kind := .primitive 'B', accessFlags := 0x411 }
/-- [B -/
def k8 : Class := { plain "[B" (some 0) with kind := .array 7 .byte, interfaces := #[5, 6], accessFlags := 1041 }

/-- the primitive int -/
def k9 : Class := { plain "int" none with kind := .primitive 'I', accessFlags := 0x411 }
/-- [I -/
def k10 : Class := { plain "[I" (some 0) with kind := .array 9 .int, interfaces := #[5, 6], accessFlags := 1041 }

def heap : Heap := #[]
def classes : Array Class := #[k0, k1, k2, k3, k4, k5, k6, k7, k8, k9, k10]
def interned : List (Array UInt16 × Addr) := []
def slotsUsed : Nat := 0
def theMethod : MethodId := ⟨1, 3⟩
def args0 : Array Value := #[.int 5, .int 7, .int 1, .int 2, .int 1]
def aboutOver (below : List Frame) : State where
  vm := { classes := classes, interned := interned.toArray }
  heap := heap
  slotsUsed := slotsUsed
  threads := #[{ frames := .invoking theMethod args0 :: below }]
def below0 : List Frame := [.native { method := ⟨0, 0⟩, args := #[] }]
def about1 : State := aboutOver below0
def p0 : Program := .bare "" "" ""
def e0 : Env := launch0.env 0 0 0
theorem w_frames : about1.frames = Frame.invoking theMethod args0 :: below0 := rfl
set_option maxRecDepth 65536 in
theorem w_args : argsFit about1.vm theMethod args0 = true := by decide +kernel
set_option maxRecDepth 65536 in
theorem w_heap : heapFits about1 = true := by decide +kernel
set_option maxRecDepth 65536 in
theorem w_runnable : about1.curStatus? = some .runnable := by decide +kernel
set_option maxRecDepth 65536 in
theorem w_alone : about1.alone = true := by decide +kernel
set_option maxRecDepth 65536 in
theorem w_named : about1.methodNamed? x = some theMethod := by decide +kernel
set_option maxRecDepth 65536 in
theorem w_hears : about1.hears theMethod below0 = true := by decide +kernel
set_option maxRecDepth 65536 in
theorem w_ripe : about1.ripe theMethod args0 below0 = true := by decide +kernel
theorem w_running : about1.status = .running := rfl
set_option maxRecDepth 65536 in
theorem w_room : about1.hasRoom e0.platform room_1 = true :=
  launch0.hasRoom_least _ room_1 (by decide +kernel) (by decide +kernel) (by decide +kernel) (by decide +kernel) (by decide +kernel) (by decide +kernel)
theorem allAtoms_all (ts : List Jvm.Cond) (a : Array Jvm.Value) (st : Jvm.State) : (allAtoms ts).before a st = ts.all (fun c => c.before a st) := by
  induction ts with
  | nil => rfl
  | cons c t ih =>
    show (Jvm.Cond.and c (allAtoms t)).before a st = _
    rw [Jvm.Cond.before_and, ih, List.all_cons]
def words1 : List Jvm.Cond := Jvm.Cond.code x code maxLocals ret :: tables_1
/-- a 'code' word, met by the world's own term for the bytes: nothing is compared byte by byte -/
theorem code_word {y : MethodName} {bytes : ByteArray} {mx : Nat} {rt : Option FieldType} {a : Array Value} {s : State} {m : MethodId} {meth : Method} {c : Code} (h1 : s.methodNamed? y = some m) (h2 : s.vm.method? m = some meth) (h3 : meth.code = some c) (h4 : c.code = bytes)
    (h5 : (c.maxLocals == mx && c.exceptionTable.isEmpty && decide (c.maxStack ≤ mostOperands) && decide (meth.sig.returnType = rt) && !meth.locks && decide (parseMethodDescriptor y.desc = some meth.sig)) = true) : (Jvm.Cond.code y bytes mx rt).before a s = true := by
  simp only [Bool.and_eq_true, beq_iff_eq, Bool.not_eq_true', decide_eq_true_eq] at h5
  obtain ⟨⟨⟨⟨⟨g1, g2⟩, g3⟩, g4⟩, g5⟩, g6⟩ := h5
  simp [Cond.before, Cond.holds, Cond.value, h1, h2, h3, h4, g1, g2, g3, g4, g5, g6]
def isCode : Jvm.Cond → Bool
  | .code _ _ _ _ => true
  | _ => false
theorem all_split {L : List Jvm.Cond} {P : Jvm.Cond → Bool} (h1 : L.all (fun c => isCode c || P c) = true) (h2 : ∀ c ∈ L.filter isCode, P c = true) : L.all P = true := by
  refine List.all_eq_true.mpr fun c hc => ?_
  have h := List.all_eq_true.mp h1 c hc
  rcases Bool.eq_false_or_eq_true (isCode c) with hi | hi
  · exact h2 c (List.mem_filter.mpr ⟨hc, hi⟩)
  · simpa [hi] using h
set_option maxRecDepth 65536 in
theorem w_c0 : (Jvm.Cond.code x code maxLocals ret).before args0 about1 = true := code_word (m := ⟨1, 3⟩) (meth := k1m3) (c := k1c3) (by decide +kernel) rfl rfl rfl (by decide +kernel)
set_option maxRecDepth 65536 in
theorem w_c1 : (Jvm.Cond.code ({ cls := "com/example/shrewd_spider/shrewdspider/net/MessageBytesPassOverLineEndsPinLaw", name := "pick", desc := "(I)B" } : Jvm.MethodName) method_2_code (2 : Nat) (Option.some Jvm.ClassFile.FieldType.byte)).before args0 about1 = true := code_word (m := ⟨1, 1⟩) (meth := k1m1) (c := k1c1) (by decide +kernel) rfl rfl rfl (by decide +kernel)
set_option maxRecDepth 65536 in
theorem w_c2 : (Jvm.Cond.code ({ cls := "com/example/shrewd_spider/shrewdspider/net/MessageBytes", name := "<init>", desc := "([B)V" } : Jvm.MethodName) prog_8_method_2_code (2 : Nat) (Option.none : Option Jvm.ClassFile.FieldType)).before args0 about1 = true := code_word (m := ⟨2, 0⟩) (meth := k2m0) (c := k2c0) (by decide +kernel) rfl rfl rfl (by decide +kernel)
set_option maxRecDepth 65536 in
theorem w_c3 : (Jvm.Cond.code ({ cls := "java/lang/Object", name := "<init>", desc := "()V" } : Jvm.MethodName) object_method_1_code (1 : Nat) (Option.none : Option Jvm.ClassFile.FieldType)).before args0 about1 = true := code_word (m := ⟨0, 0⟩) (meth := k0m0) (c := k0c0) (by decide +kernel) rfl rfl rfl (by decide +kernel)
set_option maxRecDepth 65536 in
theorem w_c4 : (Jvm.Cond.code ({ cls := "com/example/shrewd_spider/shrewdspider/net/MessageBytesPassOverLineEndsPinLaw", name := "isEnd", desc := "([BI)Z" } : Jvm.MethodName) method_3_code (2 : Nat) (Option.some Jvm.ClassFile.FieldType.boolean)).before args0 about1 = true := code_word (m := ⟨1, 2⟩) (meth := k1m2) (c := k1c2) (by decide +kernel) rfl rfl rfl (by decide +kernel)
set_option maxRecDepth 65536 in
theorem w_c5 : (Jvm.Cond.code ({ cls := "com/example/shrewd_spider/shrewdspider/net/MessageBytes", name := "passOverLineEnds", desc := "()V" } : Jvm.MethodName) prog_8_method_7_code (2 : Nat) (Option.none : Option Jvm.ClassFile.FieldType)).before args0 about1 = true := code_word (m := ⟨2, 3⟩) (meth := k2m3) (c := k2c3) (by decide +kernel) rfl rfl rfl (by decide +kernel)
set_option maxRecDepth 65536 in
theorem w_c6 : (Jvm.Cond.code ({ cls := "com/example/shrewd_spider/shrewdspider/net/MessageBytes", name := "taken", desc := "()J" } : Jvm.MethodName) prog_8_method_3_code (1 : Nat) (Option.some Jvm.ClassFile.FieldType.long)).before args0 about1 = true := code_word (m := ⟨2, 1⟩) (meth := k2m1) (c := k2c1) (by decide +kernel) rfl rfl rfl (by decide +kernel)
set_option maxRecDepth 65536 in
theorem w_c7 : (Jvm.Cond.code ({ cls := "com/example/shrewd_spider/shrewdspider/net/MessageBytes", name := "holdsMore", desc := "()Z" } : Jvm.MethodName) prog_8_method_6_code (1 : Nat) (Option.some Jvm.ClassFile.FieldType.boolean)).before args0 about1 = true := code_word (m := ⟨2, 2⟩) (meth := k2m2) (c := k2c2) (by decide +kernel) rfl rfl rfl (by decide +kernel)
set_option maxRecDepth 65536 in
theorem w_c8 : (Jvm.Cond.code ({ cls := "com/example/shrewd_spider/shrewdspider/net/MessageBytes", name := "take", desc := "([BII)I" } : Jvm.MethodName) prog_8_method_8_code (5 : Nat) (Option.some Jvm.ClassFile.FieldType.int)).before args0 about1 = true := code_word (m := ⟨2, 4⟩) (meth := k2m4) (c := k2c4) (by decide +kernel) rfl rfl rfl (by decide +kernel)
set_option maxRecDepth 65536 in
theorem w_c9 : (Jvm.Cond.code ({ cls := "java/lang/Math", name := "min", desc := "(II)I" } : Jvm.MethodName) jdk_29_method_69_code (2 : Nat) (Option.some Jvm.ClassFile.FieldType.int)).before args0 about1 = true := code_word (m := ⟨3, 1⟩) (meth := k3m1) (c := k3c1) (by decide +kernel) rfl rfl rfl (by decide +kernel)
set_option maxRecDepth 65536 in
theorem w_c10 : (Jvm.Cond.code ({ cls := "com/example/shrewd_spider/shrewdspider/net/MessageBytes", name := "fill", desc := "()Z" } : Jvm.MethodName) prog_8_method_10_code (2 : Nat) (Option.some Jvm.ClassFile.FieldType.boolean)).before args0 about1 = true := code_word (m := ⟨2, 5⟩) (meth := k2m5) (c := k2c5) (by decide +kernel) rfl rfl rfl (by decide +kernel)
def codes1 : List Jvm.Cond := [Jvm.Cond.code x code maxLocals ret, Jvm.Cond.code ({ cls := "com/example/shrewd_spider/shrewdspider/net/MessageBytesPassOverLineEndsPinLaw", name := "pick", desc := "(I)B" } : Jvm.MethodName) method_2_code (2 : Nat) (Option.some Jvm.ClassFile.FieldType.byte), Jvm.Cond.code ({ cls := "com/example/shrewd_spider/shrewdspider/net/MessageBytes", name := "<init>", desc := "([B)V" } : Jvm.MethodName) prog_8_method_2_code (2 : Nat) (Option.none : Option Jvm.ClassFile.FieldType), Jvm.Cond.code ({ cls := "java/lang/Object", name := "<init>", desc := "()V" } : Jvm.MethodName) object_method_1_code (1 : Nat) (Option.none : Option Jvm.ClassFile.FieldType), Jvm.Cond.code ({ cls := "com/example/shrewd_spider/shrewdspider/net/MessageBytesPassOverLineEndsPinLaw", name := "isEnd", desc := "([BI)Z" } : Jvm.MethodName) method_3_code (2 : Nat) (Option.some Jvm.ClassFile.FieldType.boolean), Jvm.Cond.code ({ cls := "com/example/shrewd_spider/shrewdspider/net/MessageBytes", name := "passOverLineEnds", desc := "()V" } : Jvm.MethodName) prog_8_method_7_code (2 : Nat) (Option.none : Option Jvm.ClassFile.FieldType), Jvm.Cond.code ({ cls := "com/example/shrewd_spider/shrewdspider/net/MessageBytes", name := "taken", desc := "()J" } : Jvm.MethodName) prog_8_method_3_code (1 : Nat) (Option.some Jvm.ClassFile.FieldType.long), Jvm.Cond.code ({ cls := "com/example/shrewd_spider/shrewdspider/net/MessageBytes", name := "holdsMore", desc := "()Z" } : Jvm.MethodName) prog_8_method_6_code (1 : Nat) (Option.some Jvm.ClassFile.FieldType.boolean), Jvm.Cond.code ({ cls := "com/example/shrewd_spider/shrewdspider/net/MessageBytes", name := "take", desc := "([BII)I" } : Jvm.MethodName) prog_8_method_8_code (5 : Nat) (Option.some Jvm.ClassFile.FieldType.int), Jvm.Cond.code ({ cls := "java/lang/Math", name := "min", desc := "(II)I" } : Jvm.MethodName) jdk_29_method_69_code (2 : Nat) (Option.some Jvm.ClassFile.FieldType.int), Jvm.Cond.code ({ cls := "com/example/shrewd_spider/shrewdspider/net/MessageBytes", name := "fill", desc := "()Z" } : Jvm.MethodName) prog_8_method_10_code (2 : Nat) (Option.some Jvm.ClassFile.FieldType.boolean)]
set_option maxRecDepth 65536 in
theorem codes_eq : words1.filter isCode = codes1 := rfl
theorem w_codes : ∀ c ∈ words1.filter isCode, c.before args0 about1 = true := by
  rw [codes_eq]
  intro c hc
  simp only [codes1, List.mem_cons, List.not_mem_nil, or_false] at hc
  rcases hc with rfl | rfl | rfl | rfl | rfl | rfl | rfl | rfl | rfl | rfl | rfl
  · exact w_c0
  · exact w_c1
  · exact w_c2
  · exact w_c3
  · exact w_c4
  · exact w_c5
  · exact w_c6
  · exact w_c7
  · exact w_c8
  · exact w_c9
  · exact w_c10
set_option maxRecDepth 65536 in
theorem w_t1 : (words1.take 24).all (fun c => isCode c || c.before args0 about1) = true := by decide +kernel
set_option maxRecDepth 65536 in
theorem w_t2 : ((words1.drop 24).take 24).all (fun c => isCode c || c.before args0 about1) = true := by decide +kernel
set_option maxRecDepth 65536 in
theorem w_t3 : ((words1.drop 24).drop 24).all (fun c => isCode c || c.before args0 about1) = true := by decide +kernel
theorem w_tables : (allAtoms (Jvm.Cond.code x code maxLocals ret :: tables_1)).before args0 about1 = true := by
  rw [allAtoms_all]
  show words1.all (fun c => c.before args0 about1) = true
  refine all_split ?_ w_codes
  rw [← List.take_append_drop 24 words1, List.all_append, w_t1, ← List.take_append_drop 24 (words1.drop 24), List.all_append, w_t2, w_t3]
  rfl
set_option maxRecDepth 65536 in
theorem w_case : (Jvm.Cond.and given_1 narrow_1).before args0 about1 = true := by decide +kernel
theorem w_applies : (headSpec (Jvm.Cond.code x code maxLocals ret :: tables_1) room_1).applies x e0.platform about1 = true :=
  (Spec.applies_iff w_frames).mpr ⟨w_running, w_runnable, w_alone, w_named, w_hears, w_ripe, w_room, w_tables⟩
theorem atStart : AtStart classFile x code maxLocals ret World_1 tables_1 room_1 Calls_1 rest_1 Pre_1 launch0 p0 e0 about1 theMethod args0 below0 :=
  ⟨lists_1, trivial, launch0.admits_env _ _ _, launch0.least_env, fairChoices_fair.cas, fairChoices_fair.clock, w_frames, w_args, w_heap, w_applies, trivial, trivial, w_case⟩
end start1
theorem witness_1 : WitnessClaimed_1 := ⟨start1.p0, start1.e0, start1.about1, start1.theMethod, start1.args0, start1.below0, start1.atStart⟩
end Jvm.Pilot.@@N@@
