import JvmDerived
import JvmDerived.Pilot.@@N@@Statement
import JvmDerived.Pilot.@@N@@Code
set_option linter.unusedVariables false
set_option linter.unusedSimpArgs false
namespace Jvm.RoadKit
open Sem ClassFile Op Lib Jvm.Stand Jvm.Free Jvm.LawKit
section New
variable {p : Program} {l : Launch} {e : Env} {R : Room} {s : State} {m : MethodId} {args : Array Value} {below : List Frame} {meth : Method} {c : Code} {T : State} {locs : List Loc} {cells slots : Nat}
theorem retI (X : Stand p l e R s m args below meth c T locs cells slots) (hx : p.tables.exec = Jvm.exec) {pc : Nat} {Ls : Array Slot} {z : Int32} {rest : List Value} (hret : meth.sig.returnType = some .int) (hd : decode c.code pc = .ok (.ireturn, 1)) {fs : List Frame}
    (hl : ∀ (f : JFrame) (acts : List Action), f.method = m → f.locked = none → f.entered = [] → (doReturn e (T.setTop f) acts (some (.int z))).1 = T.setFrames fs) : Steps p.tables e below (T.setTop (mkF m pc Ls (.int z :: rest))) (T.setFrames fs) := by
  have hm' : T.vm.method? m = some meth := X.method'
  have hn : narrow .int (.int z) = .int z := rfl
  show Steps p.tables e below (T.setTop { method := m, pc := pc, locals := Ls, stack := _ :: rest, locked := none }) _
  jvm_step X.here [X.here.top, hx, hd, hm', hret, hn]
  first | (intro acts; rw [hl _ acts rfl rfl rfl]) | rw [hl _ _ rfl rfl rfl]
  exact Steps.refl _
/-- the run from U on ends as W says -/
def Onw (p : Program) (e : Env) (below : List Frame) (W : Outcome → State → Prop) (U : State) : Prop :=
  ∃ s₂ o, Steps p.tables e below U s₂ ∧ s₂.status = .running ∧ Ended s₂ below o ∧ W o s₂
theorem Onw.go {W : Outcome → State → Prop} {U U' : State} (h : ∀ t, Steps p.tables e below U' t → Steps p.tables e below U t) (k : Onw p e below W U') : Onw p e below W U := by
  obtain ⟨s₂, o, h1, h2⟩ := k
  exact ⟨s₂, o, h _ h1, h2⟩
theorem Onw.of {W : Outcome → State → Prop} {U : State} (k : Onw p e below W U) : ∃ s₂ o, Steps p.tables e below U s₂ ∧ s₂.status = .running ∧ Ended s₂ below o ∧ W o s₂ := k
/-- the end of a walk -/
theorem Onw.ret (X : Stand p l e R s m args below meth c T locs cells slots) (hlk : meth.locks = false) {U : State} {v : Option Value} (hv : meth.sig.returnType = none → v = none)
    (hs : ∀ fs, (∀ (f : JFrame) (acts : List Action), f.method = m → f.locked = none → f.entered = [] → (doReturn e (T.setTop f) acts v).1 = T.setFrames fs) → Steps p.tables e below U (T.setFrames fs))
    {Q : Option Value → Heap → List Loc → Prop} (hQ : Q v T.heap locs) {k n : Nat} (hk : cells ≤ k) (hn : slots ≤ n) :
    Onw p e below (fun o s₂ => ∃ v L, o = .returned v ∧ Q v s₂.heap L ∧ FrameEnd s o s₂ L k n) U := by
  obtain ⟨fs, hr, hrun, hended, hW, hsame⟩ := X.leave (v := v) hv hlk
  exact ⟨_, _, hs fs hr, hrun, hended, v, locs, rfl, hQ, ⟨_, rfl⟩, hW, hsame.mono hk hn⟩
/-- .. where Strings may have been interned -/
theorem Onw.retW {vm₁ : Vm} (X : Stand p l e R (s.setVm vm₁) m args below meth c T locs cells slots) {j : Nat} (hS : s.Since vm₁ j) (hj : j ≤ T.heap.size) (hlk : meth.locks = false) {U : State} {v : Option Value} (hv : meth.sig.returnType = none → v = none)
    (hs : ∀ fs, (∀ (f : JFrame) (acts : List Action), f.method = m → f.locked = none → f.entered = [] → (doReturn e (T.setTop f) acts v).1 = T.setFrames fs) → Steps p.tables e below U (T.setFrames fs))
    {Q : Option Value → Heap → List Loc → Prop} (hQ : Q v T.heap locs) {k n : Nat} (hk : cells ≤ k) (hn : slots ≤ n) :
    Onw p e below (fun o s₂ => ∃ v L, o = .returned v ∧ Q v s₂.heap L ∧ ReturnedEndW s o s₂ L k n) U := by
  obtain ⟨fs, hr, hrun, hended, hE⟩ := X.leaveW hS hj (v := v) hv hlk
  exact ⟨_, _, hs fs hr, hrun, hended, v, locs, rfl, hQ, hE.1, hE.2.1, hE.2.2.1, hE.2.2.2.mono hk hn⟩
/-- .. and the invariant on the String constants goes on -/
theorem Onw.retH {vm₁ : Vm} {Z : State} {EL : List (String × Nat)} (X : Stand p l e R (s.setVm vm₁) m args below meth c T locs cells slots) {j : Nat} (hS : s.Since vm₁ j) (hj : j ≤ T.heap.size) (hlk : meth.locks = false) {U : State} {v : Option Value} (hv : meth.sig.returnType = none → v = none)
    (hs : ∀ fs, (∀ (f : JFrame) (acts : List Action), f.method = m → f.locked = none → f.entered = [] → (doReturn e (T.setTop f) acts v).1 = T.setFrames fs) → Steps p.tables e below U (T.setFrames fs))
    {Q : Option Value → Heap → List Loc → Prop} (hQ : Q v T.heap locs) {k n : Nat} (hk : cells ≤ k) (hn : slots ≤ n) (hC : CHr Z EL s.vm s.heap T.vm T.heap) :
    Onw p e below (fun o s₂ => ∃ v L, o = .returned v ∧ Q v s₂.heap L ∧ CHr Z EL s.vm s.heap s₂.vm s₂.heap ∧ ReturnedEndW s o s₂ L k n) U := by
  obtain ⟨fs, hr, hrun, hended, hE⟩ := X.leaveW hS hj (v := v) hv hlk
  exact ⟨_, _, hs fs hr, hrun, hended, v, locs, rfl, hQ, hC, hE.1, hE.2.1, hE.2.2.1, hE.2.2.2.mono hk hn⟩
end New
end Jvm.RoadKit
/- laws to paste: Road.backV, Road.eqW, Road.chN, Road.codOf (cut by pick.py; bodies as the Statement names them) -/
namespace Jvm.Pilot.@@N@@
namespace StrChars
open Jvm Sem ClassFile Op Lib Jvm.Stand Jvm.Free.XT Jvm.Free.ALB Jvm.Free.JM Jvm.Free
open Jvm.Lib.Cold (StaticIs)
/-- a char array whose places are chars -/
def Ch (a : Addr) (A : Cell) (U : State) : Prop := Arr .char a A U ∧ Typed .char A
theorem Ch.mv {a : Addr} {A : Cell} {U U' : State} (h : Ch a A U) (hal : U.vm.Alike U'.vm) (hh : U'.heap = U.heap) : Ch a A U' := ⟨h.1.mv hal hh, h.2⟩
theorem Ch.keep {a : Addr} {A : Cell} {U U' : State} (h : Ch a A U) (hal : U.vm.Alike U'.vm) (hk : U'.heap[a]? = some A) : Ch a A U' := ⟨h.1.keep hal hk, h.2⟩
/-- what place i of a char[]'s cell holds -/
def cv (A : Cell) (i : Nat) : Int32 := match A.slots[i]? with | some (.int x) => x | _ => 0
theorem Ch.get {a : Addr} {A : Cell} {U : State} (h : Ch a A U) {i : Nat} (hi : i < A.slots.size) : A.slots[i]? = some (.int (cv A i)) := by
  have e := Array.getElem?_eq_getElem hi
  have f := h.2 i _ e
  unfold cv; rw [e]
  generalize A.slots[i] = v at f
  cases v <;> simp [fits] at f ⊢
/-- the byte that i2b leaves of a char -/
def lo8 (x : Int32) : Int32 := x.toInt8.toInt32
theorem fits_lo8 (y : Int32) : fits .byte (.int (lo8 y)) = true := by
  have h1 := y.toInt8.le_toInt
  have h2 := y.toInt8.toInt_lt
  simp only [lo8, fits, Bool.and_eq_true, decide_eq_true_eq, Int32.le_iff_toInt_le, Int8.toInt_toInt32, show (-128 : Int32).toInt = -128 from by decide, show (127 : Int32).toInt = 127 from by decide]
  omega
/-- A' is A but that each place j of lo .. hi - 1 holds f j -/
def Laid (A A' : Cell) (lo hi : Nat) (f : Nat → Value) : Prop := A'.cls = A.cls ∧ A'.vm = A.vm ∧ A'.slots.size = A.slots.size ∧ ∀ i, A'.slots[i]? = if lo ≤ i ∧ i < hi then some (f i) else A.slots[i]?
theorem Laid.zero (A : Cell) (lo : Nat) (f : Nat → Value) : Laid A A lo (lo + 0) f := ⟨rfl, rfl, rfl, fun i => by rw [if_neg (by omega)]⟩
theorem Laid.step {A Ak : Cell} {lo k : Nat} {f : Nat → Value} {v : Value} (h : Laid A Ak lo k f) (hlo : lo ≤ k) (hk : k < Ak.slots.size) (hv : v = f k) : Laid A (Ak.setSlot k v) lo (k + 1) f := by
  refine ⟨h.1, h.2.1, by simpa [Cell.setSlot] using h.2.2.1, fun i => ?_⟩
  by_cases e : k = i
  · subst e; rw [Cell.slots_setSlot_self v hk, if_pos (by omega), hv]
  · rw [Cell.slots_setSlot_ne v e, h.2.2.2 i]
    by_cases q : lo ≤ i ∧ i < k
    · rw [if_pos q, if_pos (by omega)]
    · rw [if_neg q, if_neg (by omega)]
def U16 : String := "java/lang/StringUTF16"
namespace Cmp5
def yN : MethodName := ⟨"java/lang/StringUTF16", "compress", "([CI[BII)I"⟩
abbrev yB : ByteArray := jdk_52_method_21_code
theorem d0 : decode yB 0 = .ok (.iconst 0, 1) := by decide +kernel
theorem d1 : decode yB 1 = .ok (.istore 5, 2) := by decide +kernel
theorem d3 : decode yB 3 = .ok (.iload 5, 2) := by decide +kernel
theorem d5 : decode yB 5 = .ok (.iload 4, 2) := by decide +kernel
theorem d7 : decode yB 7 = .ok (.if_icmp (.ge) 37, 3) := by decide +kernel
theorem d10 : decode yB 10 = .ok (.aload_n 0, 1) := by decide +kernel
theorem d11 : decode yB 11 = .ok (.iload_n 1, 1) := by decide +kernel
theorem d12 : decode yB 12 = .ok (.caload, 1) := by decide +kernel
theorem d13 : decode yB 13 = .ok (.istore 6, 2) := by decide +kernel
theorem d15 : decode yB 15 = .ok (.iload 6, 2) := by decide +kernel
theorem d17 : decode yB 17 = .ok (.sipush 255, 3) := by decide +kernel
theorem d20 : decode yB 20 = .ok (.if_icmp (.le) 6, 3) := by decide +kernel
theorem d26 : decode yB 26 = .ok (.aload_n 2, 1) := by decide +kernel
theorem d27 : decode yB 27 = .ok (.iload_n 3, 1) := by decide +kernel
theorem d28 : decode yB 28 = .ok (.iload 6, 2) := by decide +kernel
theorem d30 : decode yB 30 = .ok (.i2b, 1) := by decide +kernel
theorem d31 : decode yB 31 = .ok (.bastore, 1) := by decide +kernel
theorem d32 : decode yB 32 = .ok (.iinc 1 1, 3) := by decide +kernel
theorem d35 : decode yB 35 = .ok (.iinc 3 1, 3) := by decide +kernel
theorem d38 : decode yB 38 = .ok (.iinc 5 1, 3) := by decide +kernel
theorem d41 : decode yB 41 = .ok (.goto (-38), 3) := by decide +kernel
theorem d44 : decode yB 44 = .ok (.iload 4, 2) := by decide +kernel
theorem d46 : decode yB 46 = .ok (.ireturn, 1) := by decide +kernel
def site : List Cond := []
def tab : Cond := tabOf yN yB 7 (some .int) site
def P (b : Addr) (A : Cell) (d : Addr) (B : Cell) (o q len : Nat) (args : Array Value) (s : State) : Prop := args = #[.ref b, .int (Int32.ofNat o), .ref d, .int (Int32.ofNat q), .int (Int32.ofNat len)] ∧ Ch b A s ∧ Arr .byte d B s ∧ b ≠ d ∧ o + len ≤ A.slots.size ∧ q + len ≤ B.slots.size ∧ ∀ i, i < len → ¬ 255 < cv A (o + i)
def E (b : Addr) (A : Cell) (d : Addr) (B : Cell) (o q len : Nat) (r : Option Value) (s u : State) : Prop := r = some (.int (Int32.ofNat len)) ∧ ∃ B', Put d B' s u ∧ Laid B B' q (q + len) (fun j => Value.int (lo8 (cv A (o + (j - q)))))
/-- no char of the range above 255: len; the places written hold each char's low byte -/
theorem law (l : Launch) (b : Addr) (A : Cell) (d : Addr) (B : Cell) (o q len : Nat) : Law l yN 5 5 0 0 yB 7 (some .int) site (P b A d B o q len) (E b A d B o q len) (copyLocs d q len) 0 0 := by
  refine Law.of_walk (plainFor_of_name (by decide +kernel)) (by decide +kernel) (by decide +kernel) (by decide) (fun _ _ h => by rw [h.1]; rfl) (fun _ U U' hal hh h => ⟨h.1, h.2.1.mv hal hh, h.2.2.1.mv hal hh, h.2.2.2⟩) (fun r U U' V V' h1 hal h2 h => ⟨h.1, h.2.elim fun B' q => ⟨B', q.1.mv h1 h2, q.2⟩⟩) ?_
  intro p e s m args below meth c s₁ X0 hexec hbytes hml hret hlk hnm hown hh0 W hP
  obtain ⟨rfl, hA, hB, hne, l1, l2, hp⟩ := hP
  have c1 : Steps p.tables e below (s₁.setTop (entryFrame m #[.ref b, .int (Int32.ofNat o), .ref d, .int (Int32.ofNat q), .int (Int32.ofNat len)] 7)) (s₁.setTop (mkF m 0 #[.val (.ref b), .val (.int (Int32.ofNat o)), .val (.ref d), .val (.int (Int32.ofNat q)), .val (.int (Int32.ofNat len)), .unset, .unset] [])) := entry rfl
  have hA0 := hA.1.mv X0.warmed.alike hh0
  have hB0 := hB.mv X0.warmed.alike hh0
  have a31 := hA.1.2.2.2
  have c2 : Steps p.tables e below (s₁.setTop (entryFrame m #[.ref b, .int (Int32.ofNat o), .ref d, .int (Int32.ofNat q), .int (Int32.ofNat len)] 7)) (s₁.setTop (mkF m 3 #[.val (.ref b), .val (.int (Int32.ofNat o)), .val (.ref d), .val (.int (Int32.ofNat q)), .val (.int (Int32.ofNat len)), .val (.int 0), .unset] [])) := c1.trans (by
    refine iconstV X0.here hexec rfl 0 (hb hbytes d0) (by decide) ?_
    refine XS.istore X0.here hexec rfl (hb hbytes d1) rfl rfl ?_
    exact Steps.refl _)
  have loop : ∀ (r i : Nat), i + r = len → ∀ (z : Slot), (z = .unset ∨ ∃ w, z = .val w ∧ w.category = 1) → ∀ (Tl : State) (Bk : Cell), Stand p l e { frames := 0, locals := 0, cells := 0, slots := 0 } s m #[.ref b, .int (Int32.ofNat o), .ref d, .int (Int32.ofNat q), .int (Int32.ofNat len)] below meth c Tl ([] ++ copyLocs d q i) 0 0 → Put d Bk s₁ Tl → Laid B Bk q (q + i) (fun j => Value.int (lo8 (cv A (o + (j - q))))) →
      Steps p.tables e below (s₁.setTop (entryFrame m #[.ref b, .int (Int32.ofNat o), .ref d, .int (Int32.ofNat q), .int (Int32.ofNat len)] 7)) (Tl.setTop (mkF m 3 #[.val (.ref b), .val (.int (Int32.ofNat (o + i))), .val (.ref d), .val (.int (Int32.ofNat (q + i))), .val (.int (Int32.ofNat len)), .val (.int (Int32.ofNat i)), z] [])) → ∃ (T' : State) (B' : Cell) (z' : Slot), Stand p l e { frames := 0, locals := 0, cells := 0, slots := 0 } s m #[.ref b, .int (Int32.ofNat o), .ref d, .int (Int32.ofNat q), .int (Int32.ofNat len)] below meth c T' ([] ++ copyLocs d q len) 0 0 ∧ Put d B' s₁ T' ∧ Laid B B' q (q + len) (fun j => Value.int (lo8 (cv A (o + (j - q))))) ∧
      Steps p.tables e below (s₁.setTop (entryFrame m #[.ref b, .int (Int32.ofNat o), .ref d, .int (Int32.ofNat q), .int (Int32.ofNat len)] 7)) (T'.setTop (mkF m 3 #[.val (.ref b), .val (.int (Int32.ofNat (o + len))), .val (.ref d), .val (.int (Int32.ofNat (q + len))), .val (.int (Int32.ofNat len)), .val (.int (Int32.ofNat len)), z'] [])) := by
    intro r
    induction r with
    | zero =>
      intro i hi z hz Tl Bk Xl pl fl cl
      have hil : i = len := by omega
      rw [hil] at Xl fl cl
      exact ⟨Tl, Bk, z, Xl, pl, fl, cl⟩
    | succ r ih =>
      intro i hi z hz Tl Bk Xl pl fl cl
      have all := X0.warmed.alike.symm.trans Xl.warmed.alike
      have hAl := hA0.keep all (pl.other hne hA0.1)
      have hBk := hB0.like all pl.1 fl.1 fl.2.1 fl.2.2.1
      have hlt : q + i < Bk.slots.size := by rw [fl.2.2.1]; omega
      have c3 : Steps p.tables e below (s₁.setTop (entryFrame m #[.ref b, .int (Int32.ofNat o), .ref d, .int (Int32.ofNat q), .int (Int32.ofNat len)] 7)) (Tl.setTop (mkF m 12 #[.val (.ref b), .val (.int (Int32.ofNat (o + i))), .val (.ref d), .val (.int (Int32.ofNat (q + i))), .val (.int (Int32.ofNat len)), .val (.int (Int32.ofNat i)), z] [.int (Int32.ofNat (o + i)), .ref b])) := cl.trans (by
        refine XS.iload Xl.here hexec rfl (hb hbytes d3) rfl ?_
        refine XS.iload Xl.here hexec rfl (hb hbytes d5) rfl ?_
        refine XS.icmpNo Xl.here hexec rfl (hb hbytes d7) rfl (ii_ge_f (lt32 (by omega) (by omega))) ?_
        refine XS.aloadN Xl.here hexec rfl (hb hbytes d10) rfl rfl ?_
        refine XS.iloadN Xl.here hexec rfl (hb hbytes d11) rfl ?_
        exact Steps.refl _)
      have c4 : Steps p.tables e below (s₁.setTop (entryFrame m #[.ref b, .int (Int32.ofNat o), .ref d, .int (Int32.ofNat q), .int (Int32.ofNat len)] 7)) (Tl.setTop (mkF m 13 #[.val (.ref b), .val (.int (Int32.ofNat (o + i))), .val (.ref d), .val (.int (Int32.ofNat (q + i))), .val (.int (Int32.ofNat len)), .val (.int (Int32.ofNat i)), z] [.int (cv A (o + i))])) := c3.trans (by
        refine Xl.aget hexec hAl rfl (hA.get (i := o + i) (by omega)) rfl rfl (hb hbytes d12) ?_
        exact Steps.refl _)
      have c5 : Steps p.tables e below (s₁.setTop (entryFrame m #[.ref b, .int (Int32.ofNat o), .ref d, .int (Int32.ofNat q), .int (Int32.ofNat len)] 7)) (Tl.setTop (mkF m 15 #[.val (.ref b), .val (.int (Int32.ofNat (o + i))), .val (.ref d), .val (.int (Int32.ofNat (q + i))), .val (.int (Int32.ofNat len)), .val (.int (Int32.ofNat i)), .val (.int (cv A (o + i)))] [])) := c4.trans (by
        refine XS.istoreS Xl.here hexec rfl (hb hbytes d13) rfl rfl hz ?_
        exact Steps.refl _)
      have c6 : Steps p.tables e below (s₁.setTop (entryFrame m #[.ref b, .int (Int32.ofNat o), .ref d, .int (Int32.ofNat q), .int (Int32.ofNat len)] 7)) (Tl.setTop (mkF m 31 #[.val (.ref b), .val (.int (Int32.ofNat (o + i))), .val (.ref d), .val (.int (Int32.ofNat (q + i))), .val (.int (Int32.ofNat len)), .val (.int (Int32.ofNat i)), .val (.int (cv A (o + i)))] [.int (lo8 (cv A (o + i))), .int (Int32.ofNat (q + i)), .ref d])) := c5.trans (by
        refine XS.iload Xl.here hexec rfl (hb hbytes d15) rfl ?_
        refine sipushV Xl.here hexec rfl 255 (hb hbytes d17) (by decide) ?_
        refine XS.icmpYes Xl.here hexec rfl (pc0 := 20) rfl (hb hbytes d20) rfl (ii_le_t (hp i (by omega))) (by decide) rfl ?_
        refine XS.aloadN Xl.here hexec rfl (hb hbytes d26) rfl rfl ?_
        refine XS.iloadN Xl.here hexec rfl (hb hbytes d27) rfl ?_
        refine XS.iload Xl.here hexec rfl (hb hbytes d28) rfl ?_
        refine i2b Xl.here hexec rfl (hb hbytes d30) rfl ?_
        exact Steps.refl _)
      obtain ⟨T7, X7, p7, st7⟩ := Xl.aput hexec hBk rfl hlt rfl (fits_lo8 (cv A (o + i))) (g := (mkF m 31 #[.val (.ref b), .val (.int (Int32.ofNat (o + i))), .val (.ref d), .val (.int (Int32.ofNat (q + i))), .val (.int (Int32.ofNat len)), .val (.int (Int32.ofNat i)), .val (.int (cv A (o + i)))] [.int (lo8 (cv A (o + i))), .int (Int32.ofNat (q + i)), .ref d])) rfl (rest := []) rfl (hb hbytes d31)
      have c8 : Steps p.tables e below (s₁.setTop (entryFrame m #[.ref b, .int (Int32.ofNat o), .ref d, .int (Int32.ofNat q), .int (Int32.ofNat len)] 7)) (T7.setTop (mkF m 32 #[.val (.ref b), .val (.int (Int32.ofNat (o + i))), .val (.ref d), .val (.int (Int32.ofNat (q + i))), .val (.int (Int32.ofNat len)), .val (.int (Int32.ofNat i)), .val (.int (cv A (o + i)))] [])) := c6.trans (st7 _ (Steps.refl _))
      have c9 : Steps p.tables e below (s₁.setTop (entryFrame m #[.ref b, .int (Int32.ofNat o), .ref d, .int (Int32.ofNat q), .int (Int32.ofNat len)] 7)) (T7.setTop (mkF m 3 #[.val (.ref b), .val (.int (Int32.ofNat (o + i) + 1)), .val (.ref d), .val (.int (Int32.ofNat (q + i) + 1)), .val (.int (Int32.ofNat len)), .val (.int (Int32.ofNat i + 1)), .val (.int (cv A (o + i)))] [])) := c8.trans (by
        refine iincV X7.here hexec rfl 1 (hb hbytes d32) (by decide) rfl rfl ?_
        refine iincV X7.here hexec rfl 1 (hb hbytes d35) (by decide) rfl rfl ?_
        refine iincV X7.here hexec rfl 1 (hb hbytes d38) (by decide) rfl rfl ?_
        refine XS.goto X7.here hexec rfl (pc0 := 41) rfl (hb hbytes d41) (by decide) rfl ?_
        exact Steps.refl _)
      have c10 : Steps p.tables e below (s₁.setTop (entryFrame m #[.ref b, .int (Int32.ofNat o), .ref d, .int (Int32.ofNat q), .int (Int32.ofNat len)] 7)) (T7.setTop (mkF m 3 #[.val (.ref b), .val (.int (Int32.ofNat (o + (i + 1)))), .val (.ref d), .val (.int (Int32.ofNat (q + (i + 1)))), .val (.int (Int32.ofNat len)), .val (.int (Int32.ofNat (i + 1))), .val (.int (cv A (o + i)))] [])) := by
        have := c9
        rw [succ32, succ32, succ32] at this
        exact this
      exact ih (i + 1) (by omega) _ (Or.inr ⟨_, rfl, rfl⟩) T7 _ (by rw [copyLocs_step, ← List.append_assoc]; exact X7) (pl.trans p7) (fl.step (by omega) hlt (by simp)) c10
  obtain ⟨T9, B9, z9, X9, p9, f9, g9⟩ := loop len 0 (by omega) .unset (Or.inl rfl) s₁ B (by simpa [copyLocs] using X0) ⟨hB0.1, fun _ _ => rfl, rfl⟩ (Laid.zero _ _ _) c2
  have c11 : Steps p.tables e below (s₁.setTop (entryFrame m #[.ref b, .int (Int32.ofNat o), .ref d, .int (Int32.ofNat q), .int (Int32.ofNat len)] 7)) (T9.setTop (mkF m 46 #[.val (.ref b), .val (.int (Int32.ofNat (o + len))), .val (.ref d), .val (.int (Int32.ofNat (q + len))), .val (.int (Int32.ofNat len)), .val (.int (Int32.ofNat len)), z9] [.int (Int32.ofNat len)])) := g9.trans (by
    refine XS.iload X9.here hexec rfl (hb hbytes d3) rfl ?_
    refine XS.iload X9.here hexec rfl (hb hbytes d5) rfl ?_
    refine XS.icmpYes X9.here hexec rfl (pc0 := 7) rfl (hb hbytes d7) rfl (ii_ge_t (nlt32 (by omega) (Nat.le_refl _))) (by decide) rfl ?_
    refine XS.iload X9.here hexec rfl (hb hbytes d44) rfl ?_
    exact Steps.refl _)
  exact ⟨T9, some (.int (Int32.ofNat len)), _, _, _, X9, by simp, rfl, rfl, (fun h => by cases h), ⟨rfl, B9, p9.from hh0, f9⟩, fun fs hl => c11.trans (X9.ireturnOut hexec hret rfl (Or.inl rfl) (hb hbytes d46) hl)⟩
end Cmp5
namespace Cmp3
def yN : MethodName := ⟨"java/lang/StringUTF16", "compress", "([CII)[B"⟩
abbrev yB : ByteArray := jdk_52_method_16_code
theorem d0 : decode yB 0 = .ok (.iload_n 2, 1) := by decide +kernel
theorem d1 : decode yB 1 = .ok (.newarray .byte, 2) := by decide +kernel
theorem d3 : decode yB 3 = .ok (.astore_n 3, 1) := by decide +kernel
theorem d4 : decode yB 4 = .ok (.aload_n 0, 1) := by decide +kernel
theorem d5 : decode yB 5 = .ok (.iload_n 1, 1) := by decide +kernel
theorem d6 : decode yB 6 = .ok (.aload_n 3, 1) := by decide +kernel
theorem d7 : decode yB 7 = .ok (.iconst 0, 1) := by decide +kernel
theorem d8 : decode yB 8 = .ok (.iload_n 2, 1) := by decide +kernel
theorem d9 : decode yB 9 = .ok (.invokestatic 115, 3) := by decide +kernel
theorem d12 : decode yB 12 = .ok (.istore 4, 2) := by decide +kernel
theorem d14 : decode yB 14 = .ok (.iload 4, 2) := by decide +kernel
theorem d16 : decode yB 16 = .ok (.iload_n 2, 1) := by decide +kernel
theorem d17 : decode yB 17 = .ok (.if_icmp (.eq) 40, 3) := by decide +kernel
theorem d57 : decode yB 57 = .ok (.aload_n 3, 1) := by decide +kernel
theorem d58 : decode yB 58 = .ok (.areturn, 1) := by decide +kernel
def site : List Cond := [.arrayClass .byte, Cmp5.tab] ++ staticW U16 115 Cmp5.yN
def tab : Cond := tabOf yN yB 6 (some (.array .byte)) site
def P (b : Addr) (A : Cell) (o len : Nat) (args : Array Value) (s : State) : Prop := args = #[.ref b, .int (Int32.ofNat o), .int (Int32.ofNat len)] ∧ Ch b A s ∧ o + len ≤ A.slots.size ∧ len ≤ 536870912 ∧ ∀ i, i < len → ¬ 255 < cv A (o + i)
def E (b : Addr) (A : Cell) (o len : Nat) (r : Option Value) (s u : State) : Prop := NewArr .byte "[B" len (fun j => .int (lo8 (cv A (o + j)))) r s u ∧ u.heap.size = s.heap.size + 1
/-- no char of the range above 255: a new byte[] of their low bytes -/
theorem law (l : Launch) (b : Addr) (A : Cell) (o len : Nat) : Law l yN 3 3 1 18 yB 6 (some (.array .byte)) site (P b A o len) (E b A o len) [] 1 len := by
  refine Law.of_walk (plainFor_of_name (by decide +kernel)) (by decide +kernel) (by decide +kernel) (by decide) (fun _ _ h => by rw [h.1]; rfl) (fun _ U U' hal hh h => ⟨h.1, h.2.1.mv hal hh, h.2.2⟩) (fun r U U' V V' h1 hal h2 h => ⟨NewArr.mv r U U' V V' h1 hal h2 h.1, by rw [h1, h2]; exact h.2⟩) ?_
  intro p e s m args below meth c s₁ X0 hexec hbytes hml hret hlk hnm hown hh0 W hP
  obtain ⟨rfl, hA, l1, l2, hp⟩ := hP
  have a31 := hA.1.2.2.2
  have c1 : Steps p.tables e below (s₁.setTop (entryFrame m #[.ref b, .int (Int32.ofNat o), .int (Int32.ofNat len)] 6)) (s₁.setTop (mkF m 0 #[.val (.ref b), .val (.int (Int32.ofNat o)), .val (.int (Int32.ofNat len)), .unset, .unset, .unset] [])) := entry rfl
  have c2 : Steps p.tables e below (s₁.setTop (entryFrame m #[.ref b, .int (Int32.ofNat o), .int (Int32.ofNat len)] 6)) (s₁.setTop (mkF m 1 #[.val (.ref b), .val (.int (Int32.ofNat o)), .val (.int (Int32.ofNat len)), .unset, .unset, .unset] [.int (Int32.ofNat len)])) := c1.trans (by
    refine XS.iloadN X0.here hexec rfl (hb hbytes d0) rfl ?_
    exact Steps.refl _)
  obtain ⟨T3, B3, X3, ba3, bs3, bv3, bh3, bf3, st3⟩ := X0.anew hexec (atype := .byte) (wk W (.arrayClass .byte)) rfl (by show len * 1 ≤ _; omega) (by omega) (g := (mkF m 1 #[.val (.ref b), .val (.int (Int32.ofNat o)), .val (.int (Int32.ofNat len)), .unset, .unset, .unset] [.int (Int32.ofNat len)])) rfl (hb hbytes d1) (rest := []) rfl (Nat.le_refl _) (by show 0 + len ≤ len; omega)
  rw [hh0] at ba3 st3
  have kp3 : XT.Kept s T3 := (XT.Kept.of_eq hh0).push bh3
  have hA3 := hA.keep X3.warmed.alike (kp3 _ _ hA.1.1)
  have hne : b ≠ s.heap.size := hA.1.ne
  have c4 : Steps p.tables e below (s₁.setTop (entryFrame m #[.ref b, .int (Int32.ofNat o), .int (Int32.ofNat len)] 6)) (T3.setTop (mkF m 3 #[.val (.ref b), .val (.int (Int32.ofNat o)), .val (.int (Int32.ofNat len)), .unset, .unset, .unset] [.ref s.heap.size])) := c2.trans (st3 _ (Steps.refl _))
  have c5 : Steps p.tables e below (s₁.setTop (entryFrame m #[.ref b, .int (Int32.ofNat o), .int (Int32.ofNat len)] 6)) (T3.setTop (mkF m 9 #[.val (.ref b), .val (.int (Int32.ofNat o)), .val (.int (Int32.ofNat len)), .val (.ref s.heap.size), .unset, .unset] [.int (Int32.ofNat len), .int 0, .ref s.heap.size, .int (Int32.ofNat o), .ref b])) := c4.trans (by
    refine XS.astoreN X3.here hexec rfl (hb hbytes d3) rfl rfl rfl ?_
    refine XS.aloadN X3.here hexec rfl (hb hbytes d4) rfl rfl ?_
    refine XS.iloadN X3.here hexec rfl (hb hbytes d5) rfl ?_
    refine XS.aloadN X3.here hexec rfl (hb hbytes d6) rfl rfl ?_
    refine iconstV X3.here hexec rfl 0 (hb hbytes d7) (by decide) ?_
    refine XS.iloadN X3.here hexec rfl (hb hbytes d8) rfl ?_
    exact Steps.refl _)
  obtain ⟨v6, T6, X6, E6, g6⟩ := X3.callS hexec (Cmp5.law l b A s.heap.size B3 o 0 len) hown (wks W (staticW U16 115 Cmp5.yN)) (wk W Cmp5.tab) (W := 0) (Nat.le_of_ble_eq_true rfl) (Nat.le_of_ble_eq_true rfl) (Nat.le_refl _) (by show 0 + len + 0 ≤ len; omega) (g := (mkF m 9 #[.val (.ref b), .val (.int (Int32.ofNat o)), .val (.int (Int32.ofNat len)), .val (.ref s.heap.size), .unset, .unset] [.int (Int32.ofNat len), .int (Int32.ofNat 0), .ref s.heap.size, .int (Int32.ofNat o), .ref b])) rfl (by rw [hml]; rfl) c5 (argsL := [.ref b, .int (Int32.ofNat o), .ref s.heap.size, .int (Int32.ofNat 0), .int (Int32.ofNat len)]) (rest := []) rfl rfl (by show 2 * 0 + 0 ≤ _; decide) (hb hbytes d9) (⟨rfl, hA3, ba3, hne, l1, by rw [bs3]; simp, hp⟩)
  obtain ⟨rfl, B6, p6, f6⟩ := E6
  have c7 : Steps p.tables e below (s₁.setTop (entryFrame m #[.ref b, .int (Int32.ofNat o), .int (Int32.ofNat len)] 6)) (T6.setTop (mkF m 12 #[.val (.ref b), .val (.int (Int32.ofNat o)), .val (.int (Int32.ofNat len)), .val (.ref s.heap.size), .unset, .unset] [.int (Int32.ofNat len)])) := g6
  have c8 : Steps p.tables e below (s₁.setTop (entryFrame m #[.ref b, .int (Int32.ofNat o), .int (Int32.ofNat len)] 6)) (T6.setTop (mkF m 58 #[.val (.ref b), .val (.int (Int32.ofNat o)), .val (.int (Int32.ofNat len)), .val (.ref s.heap.size), .val (.int (Int32.ofNat len)), .unset] [.ref s.heap.size])) := c7.trans (by
    refine XS.istore X6.here hexec rfl (hb hbytes d12) rfl rfl ?_
    refine XS.iload X6.here hexec rfl (hb hbytes d14) rfl ?_
    refine XS.iloadN X6.here hexec rfl (hb hbytes d16) rfl ?_
    refine XS.icmpYes X6.here hexec rfl (pc0 := 17) rfl (hb hbytes d17) rfl (ii_eq_t rfl) (by decide) rfl ?_
    refine XS.aloadN X6.here hexec rfl (hb hbytes d57) rfl rfl ?_
    exact Steps.refl _)
  have X8 := X6.wide (L' := []) (cells' := 1) (slots' := len) (fun x hx hlt => by
    simp only [List.nil_append, copyLocs, List.mem_map, List.mem_range] at hx
    obtain ⟨i, -, rfl⟩ := hx
    exact absurd hlt (Nat.lt_irrefl _)) (Nat.le_refl _) (by omega)
  exact ⟨T6, some (.ref s.heap.size), _, _, _, X8, rfl, rfl, rfl, (fun h => by cases h), ⟨⟨rfl, B6, ba3.like (X3.warmed.alike.symm.trans X6.warmed.alike) p6.1 f6.1 f6.2.1 f6.2.2.1, f6.2.1.trans bv3, by rw [X6.warmed.alike.findClass, f6.1]; exact bf3, by rw [f6.2.2.1, bs3]; simp, fun j hj => by rw [f6.2.2.2 j, if_pos (by omega)]; rfl, kp3.put p6 (Nat.le_refl _)⟩, by rw [p6.2.2, bh3, hh0]; simp⟩, fun fs hl => c8.trans (X8.areturnOut hexec rfl hret rfl (hb hbytes d58) hl)⟩
end Cmp3
namespace CodL
def yN : MethodName := ⟨"java/lang/StringUTF16", "coderFromArrayLen", "([BI)B"⟩
abbrev yB : ByteArray := jdk_52_method_15_code
theorem d0 : decode yB 0 = .ok (.iload_n 1, 1) := by decide +kernel
theorem d1 : decode yB 1 = .ok (.aload_n 0, 1) := by decide +kernel
theorem d2 : decode yB 2 = .ok (.arraylength, 1) := by decide +kernel
theorem d3 : decode yB 3 = .ok (.isub, 1) := by decide +kernel
theorem d4 : decode yB 4 = .ok (.bipush 31, 2) := by decide +kernel
theorem d6 : decode yB 6 = .ok (.iushr, 1) := by decide +kernel
theorem d7 : decode yB 7 = .ok (.i2b, 1) := by decide +kernel
theorem d8 : decode yB 8 = .ok (.ireturn, 1) := by decide +kernel
def site : List Cond := []
def tab : Cond := tabOf yN yB 2 (some .byte) site
def P (d : Addr) (B : Cell) (args : Array Value) (s : State) : Prop := args = #[.ref d, .int (Int32.ofNat B.slots.size)] ∧ Arr .byte d B s
def E (r : Option Value) (s u : State) : Prop := XT.PureE (some (.int 0)) r s u
/-- an array as long as the number of chars: LATIN1 -/
theorem law (l : Launch) (d : Addr) (B : Cell) : Law l yN 2 2 0 0 yB 2 (some .byte) site (P d B) E [] 0 0 := by
  refine Law.of_walk (plainFor_of_name (by decide +kernel)) (by decide +kernel) (by decide +kernel) (by decide) (fun _ _ h => by rw [h.1]; rfl) (fun _ U U' hal hh h => ⟨h.1, h.2.mv hal hh⟩) (fun r U U' V V' h1 hal h2 h => XT.PureE.mv r U U' V V' h1 hal h2 h) ?_
  intro p e s m args below meth c s₁ X0 hexec hbytes hml hret hlk hnm hown hh0 W hP
  obtain ⟨rfl, hB⟩ := hP
  have hB0 := hB.mv X0.warmed.alike hh0
  have c1 : Steps p.tables e below (s₁.setTop (entryFrame m #[.ref d, .int (Int32.ofNat B.slots.size)] 2)) (s₁.setTop (mkF m 0 #[.val (.ref d), .val (.int (Int32.ofNat B.slots.size))] [])) := entry rfl
  have c2 : Steps p.tables e below (s₁.setTop (entryFrame m #[.ref d, .int (Int32.ofNat B.slots.size)] 2)) (s₁.setTop (mkF m 2 #[.val (.ref d), .val (.int (Int32.ofNat B.slots.size))] [.ref d, .int (Int32.ofNat B.slots.size)])) := c1.trans (by
    refine XS.iloadN X0.here hexec rfl (hb hbytes d0) rfl ?_
    refine XS.aloadN X0.here hexec rfl (hb hbytes d1) rfl rfl ?_
    exact Steps.refl _)
  have c3 : Steps p.tables e below (s₁.setTop (entryFrame m #[.ref d, .int (Int32.ofNat B.slots.size)] 2)) (s₁.setTop (mkF m 8 #[.val (.ref d), .val (.int (Int32.ofNat B.slots.size))] [.int (lo8 (ushr (Int32.ofNat B.slots.size - Int32.ofNat B.slots.size) 31))])) := c2.trans (by
    refine X0.alen hexec hB0 rfl rfl (hb hbytes d2) ?_
    refine XS.isub X0.here hexec rfl (hb hbytes d3) rfl ?_
    refine bipushV X0.here hexec rfl 31 (hb hbytes d4) (by decide) ?_
    refine iushr X0.here hexec rfl (hb hbytes d6) rfl ?_
    refine i2b X0.here hexec rfl (hb hbytes d7) rfl ?_
    exact Steps.refl _)
  have e0 : lo8 (ushr (Int32.ofNat B.slots.size - Int32.ofNat B.slots.size) 31) = 0 := by rw [Int32.sub_self]; decide
  rw [e0] at c3
  exact ⟨s₁, some (.int 0), _, _, _, X0, rfl, rfl, rfl, (fun h => by cases h), ⟨rfl, hh0⟩, fun fs hl => c3.trans (X0.ireturnOut hexec hret rfl (Or.inr (Or.inr (Or.inl rfl))) (hb hbytes d8) hl)⟩
end CodL
/-- the String at a is Latin-1 over a new byte[] (the heap's one new cell): the low bytes of the len chars of A from o on; every cell but a is kept -/
def Got (a : Addr) (D : Cell) (fV fC : Field) (A : Cell) (o len : Nat) (r : Option Value) (s u : State) : Prop := r = none ∧ ∃ D' V : Cell, Blank "java/lang/String" a D' u ∧ Same D D' [fV.slot, fC.slot] ∧ D'.slots[fV.slot]? = some (.ref s.heap.size) ∧ D'.slots[fC.slot]? = some (.int 0) ∧ Arr .byte s.heap.size V u ∧ V.vm = .none ∧ u.vm.findClass "[B" = some V.cls ∧ V.slots.size = len ∧ (∀ j, j < len → V.slots[j]? = some (.int (lo8 (cv A (o + j))))) ∧ (∀ (y : Addr) (c : Cell), y ≠ a → s.heap[y]? = some c → u.heap[y]? = some c) ∧ u.heap.size = s.heap.size + 1
theorem Got.mv {a : Addr} {D A : Cell} {fV fC : Field} {o len : Nat} : ∀ r (U U' V V' : State), U'.heap = U.heap → V.vm.Alike V'.vm → V'.heap = V.heap → Got a D fV fC A o len r U V → Got a D fV fC A o len r U' V' :=
  fun r U U' V V' h1 hal h2 ⟨e0, D', X, a1, a2, a3, a4, a5, a6, a7, a8, a9, a10, a11⟩ => ⟨e0, D', X, a1.mv hal h2, a2, by rw [h1]; exact a3, a4, by rw [h1]; exact a5.mv hal h2, a6, by rw [hal.findClass]; exact a7, a8, a9, by rw [h1, h2]; exact a10, by rw [h1, h2]; exact a11⟩
namespace New4
def yN : MethodName := ⟨"java/lang/String", "<init>", "([CIILjava/lang/Void;)V"⟩
abbrev yB : ByteArray := jdk_42_method_149_code
theorem d0 : decode yB 0 = .ok (.aload_n 0, 1) := by decide +kernel
theorem d1 : decode yB 1 = .ok (.invokespecial 1, 3) := by decide +kernel
theorem d4 : decode yB 4 = .ok (.iload_n 3, 1) := by decide +kernel
theorem d5 : decode yB 5 = .ok (.ifCond (.ne) 22, 3) := by decide +kernel
theorem d27 : decode yB 27 = .ok (.getstatic 38, 3) := by decide +kernel
theorem d30 : decode yB 30 = .ok (.ifCond (.eq) 28, 3) := by decide +kernel
theorem d33 : decode yB 33 = .ok (.aload_n 1, 1) := by decide +kernel
theorem d34 : decode yB 34 = .ok (.iload_n 2, 1) := by decide +kernel
theorem d35 : decode yB 35 = .ok (.iload_n 3, 1) := by decide +kernel
theorem d36 : decode yB 36 = .ok (.invokestatic 177, 3) := by decide +kernel
theorem d39 : decode yB 39 = .ok (.astore 5, 2) := by decide +kernel
theorem d41 : decode yB 41 = .ok (.aload_n 0, 1) := by decide +kernel
theorem d42 : decode yB 42 = .ok (.aload 5, 2) := by decide +kernel
theorem d44 : decode yB 44 = .ok (.iload_n 3, 1) := by decide +kernel
theorem d45 : decode yB 45 = .ok (.invokestatic 47, 3) := by decide +kernel
theorem d48 : decode yB 48 = .ok (.putfield 15, 3) := by decide +kernel
theorem d51 : decode yB 51 = .ok (.aload_n 0, 1) := by decide +kernel
theorem d52 : decode yB 52 = .ok (.aload 5, 2) := by decide +kernel
theorem d54 : decode yB 54 = .ok (.putfield 9, 3) := by decide +kernel
theorem d57 : decode yB 57 = .ok (.return_, 1) := by decide +kernel
def site : List Cond := [.fieldLink "java/lang/String" 38 "java/lang/String" "COMPACT_STRINGS" "Z", Cmp3.tab, CodL.tab, .laysFinal "java/lang/String" "java/lang/String" "value" "[B", .fieldLink "java/lang/String" 9 "java/lang/String" "value" "[B", .laysFinal "java/lang/String" "java/lang/String" "coder" "B", .fieldLink "java/lang/String" 15 "java/lang/String" "coder" "B"] ++ objW "java/lang/String" 1 ++ staticW "java/lang/String" 177 Cmp3.yN ++ staticW "java/lang/String" 47 CodL.yN
def tab : Cond := tabOf yN yB 6 none site
def P (a : Addr) (D : Cell) (fV fC : Field) (b : Addr) (A : Cell) (z : Int32) (o len : Nat) (args : Array Value) (s : State) : Prop := args = #[.ref a, .ref b, .int (Int32.ofNat o), .int (Int32.ofNat len), .null] ∧ Blank "java/lang/String" a D s ∧ Found "java/lang/String" "value" "[B" fV s ∧ Found "java/lang/String" "coder" "B" fC s ∧ Ch b A s ∧ StaticIs s "java/lang/String" "COMPACT_STRINGS" "Z" (.int z) ∧ ¬ z = 0 ∧ 0 < len ∧ o + len ≤ A.slots.size ∧ len ≤ 536870912 ∧ ∀ i, i < len → ¬ 255 < cv A (o + i)
def E (a : Addr) (D : Cell) (fV fC : Field) (A : Cell) (o len : Nat) (r : Option Value) (s u : State) : Prop := Got a D fV fC A o len r s u
/-- len > 0, no char of the range above 255: a Latin-1 String of their low bytes -/
theorem law (l : Launch) (a : Addr) (D : Cell) (fV fC : Field) (b : Addr) (A : Cell) (z : Int32) (o len : Nat) : Law l yN 5 4 2 35 yB 6 none site (P a D fV fC b A z o len) (E a D fV fC A o len) [⟨a, fC.slot⟩, ⟨a, fV.slot⟩] 1 len := by
  refine Law.of_walk (plainFor_of_name (by decide +kernel)) (by decide +kernel) (by decide +kernel) (by decide) (fun _ _ h => by rw [h.1]; rfl) (fun _ U U' hal hh h => ⟨h.1, h.2.1.mv hal hh, h.2.2.1.al hal, h.2.2.2.1.al hal, h.2.2.2.2.1.mv hal hh, h.2.2.2.2.2.1.there hal hh, h.2.2.2.2.2.2⟩) (fun r U U' V V' h1 hal h2 h => Got.mv r U U' V V' h1 hal h2 h) ?_
  intro p e s m args below meth c s₁ X0 hexec hbytes hml hret hlk hnm hown hh0 W hP
  obtain ⟨rfl, hB, f1, f2, hA, s1, hz, l0, l1, l2, hp⟩ := hP
  have a31 := hA.1.2.2.2
  have c1 : Steps p.tables e below (s₁.setTop (entryFrame m #[.ref a, .ref b, .int (Int32.ofNat o), .int (Int32.ofNat len), .null] 6)) (s₁.setTop (mkF m 0 #[.val (.ref a), .val (.ref b), .val (.int (Int32.ofNat o)), .val (.int (Int32.ofNat len)), .val .null, .unset] [])) := entry rfl
  have c2 : Steps p.tables e below (s₁.setTop (entryFrame m #[.ref a, .ref b, .int (Int32.ofNat o), .int (Int32.ofNat len), .null] 6)) (s₁.setTop (mkF m 1 #[.val (.ref a), .val (.ref b), .val (.int (Int32.ofNat o)), .val (.int (Int32.ofNat len)), .val .null, .unset] [.ref a])) := c1.trans (by
    refine XS.aloadN X0.here hexec rfl (hb hbytes d0) rfl rfl ?_
    exact Steps.refl _)
  obtain ⟨T3, X3, q3, st3⟩ := X0.oinit hexec hown (wks W (objW "java/lang/String" 1)) (g := (mkF m 1 #[.val (.ref a), .val (.ref b), .val (.int (Int32.ofNat o)), .val (.int (Int32.ofNat len)), .val .null, .unset] [.ref a])) rfl (by rw [hml]; rfl) (rest := []) rfl (hb hbytes d1) (W := 0) (by show 2 * 0 + 0 ≤ _; decide) (Nat.le_of_ble_eq_true rfl) (Nat.le_of_ble_eq_true rfl)
  have hh3 := q3.trans hh0
  have c4 : Steps p.tables e below (s₁.setTop (entryFrame m #[.ref a, .ref b, .int (Int32.ofNat o), .int (Int32.ofNat len), .null] 6)) (T3.setTop (mkF m 27 #[.val (.ref a), .val (.ref b), .val (.int (Int32.ofNat o)), .val (.int (Int32.ofNat len)), .val .null, .unset] [])) := (c2.trans (st3 _ (Steps.refl _))).trans (by
    refine XS.iloadN X3.here hexec rfl (hb hbytes d4) rfl ?_
    refine XS.ifYes X3.here hexec rfl (pc0 := 5) rfl (hb hbytes d5) rfl (i0_ne_t (nz32 (by omega) l0)) (by decide) rfl ?_
    exact Steps.refl _)
  obtain ⟨T5, X5, q5, st5⟩ := X3.sget hexec hown (wk W (.fieldLink "java/lang/String" 38 "java/lang/String" "COMPACT_STRINGS" "Z")) s1 (fun _ _ h => by rw [hh3]; exact h) (g := (mkF m 27 #[.val (.ref a), .val (.ref b), .val (.int (Int32.ofNat o)), .val (.int (Int32.ofNat len)), .val .null, .unset] [])) rfl (hb hbytes d27)
  have hh5 := q5.trans hh3
  have c6 : Steps p.tables e below (s₁.setTop (entryFrame m #[.ref a, .ref b, .int (Int32.ofNat o), .int (Int32.ofNat len), .null] 6)) (T5.setTop (mkF m 30 #[.val (.ref a), .val (.ref b), .val (.int (Int32.ofNat o)), .val (.int (Int32.ofNat len)), .val .null, .unset] [.int z])) := c4.trans (st5 _ (Steps.refl _))
  have c7 : Steps p.tables e below (s₁.setTop (entryFrame m #[.ref a, .ref b, .int (Int32.ofNat o), .int (Int32.ofNat len), .null] 6)) (T5.setTop (mkF m 36 #[.val (.ref a), .val (.ref b), .val (.int (Int32.ofNat o)), .val (.int (Int32.ofNat len)), .val .null, .unset] [.int (Int32.ofNat len), .int (Int32.ofNat o), .ref b])) := c6.trans (by
    refine XS.ifNo X5.here hexec rfl (hb hbytes d30) rfl (i0_eq_f hz) ?_
    refine XS.aloadN X5.here hexec rfl (hb hbytes d33) rfl rfl ?_
    refine XS.iloadN X5.here hexec rfl (hb hbytes d34) rfl ?_
    refine XS.iloadN X5.here hexec rfl (hb hbytes d35) rfl ?_
    exact Steps.refl _)
  obtain ⟨v8, T8, X8, E8, g8⟩ := X5.callS hexec (Cmp3.law l b A o len) hown (wks W (staticW "java/lang/String" 177 Cmp3.yN)) (wk W Cmp3.tab) (W := 0) (Nat.le_of_ble_eq_true rfl) (Nat.le_of_ble_eq_true rfl) (Nat.le_refl _) (by show 0 + len ≤ len; omega) (g := (mkF m 36 #[.val (.ref a), .val (.ref b), .val (.int (Int32.ofNat o)), .val (.int (Int32.ofNat len)), .val .null, .unset] [.int (Int32.ofNat len), .int (Int32.ofNat o), .ref b])) rfl (by rw [hml]; rfl) c7 (argsL := [.ref b, .int (Int32.ofNat o), .int (Int32.ofNat len)]) (rest := []) rfl rfl (by show 2 * 0 + 0 ≤ _; decide) (hb hbytes d36) (⟨rfl, hA.mv X5.warmed.alike hh5, l1, l2, hp⟩)
  obtain ⟨e8, z8⟩ := E8
  obtain ⟨rfl, N, n1, n2, n3, n4, n5, n6⟩ := NewArr.mv _ T5 s _ _ hh5.symm (Vm.Alike.refl _) rfl e8
  rw [hh5] at z8
  have hB1 := hB.keep X8.warmed.alike (n6 _ _ hB.1)
  have hne : s.heap.size ≠ a := (Nat.ne_of_lt (Array.getElem?_eq_some_iff.mp hB.1).1).symm
  have c9 : Steps p.tables e below (s₁.setTop (entryFrame m #[.ref a, .ref b, .int (Int32.ofNat o), .int (Int32.ofNat len), .null] 6)) (T8.setTop (mkF m 39 #[.val (.ref a), .val (.ref b), .val (.int (Int32.ofNat o)), .val (.int (Int32.ofNat len)), .val .null, .unset] [.ref s.heap.size])) := g8
  have c10 : Steps p.tables e below (s₁.setTop (entryFrame m #[.ref a, .ref b, .int (Int32.ofNat o), .int (Int32.ofNat len), .null] 6)) (T8.setTop (mkF m 45 #[.val (.ref a), .val (.ref b), .val (.int (Int32.ofNat o)), .val (.int (Int32.ofNat len)), .val .null, .val (.ref s.heap.size)] [.int (Int32.ofNat N.slots.size), .ref s.heap.size, .ref a])) := by
    have hc : Steps p.tables e below (s₁.setTop (entryFrame m #[.ref a, .ref b, .int (Int32.ofNat o), .int (Int32.ofNat len), .null] 6)) (T8.setTop (mkF m 45 #[.val (.ref a), .val (.ref b), .val (.int (Int32.ofNat o)), .val (.int (Int32.ofNat len)), .val .null, .val (.ref s.heap.size)] [.int (Int32.ofNat len), .ref s.heap.size, .ref a])) := c9.trans (by
      refine XS.astore X8.here hexec rfl (hb hbytes d39) rfl rfl rfl ?_
      refine XS.aloadN X8.here hexec rfl (hb hbytes d41) rfl rfl ?_
      refine XS.aload X8.here hexec rfl (hb hbytes d42) rfl rfl ?_
      refine XS.iloadN X8.here hexec rfl (hb hbytes d44) rfl ?_
      exact Steps.refl _)
    rw [n4]; exact hc
  obtain ⟨v11, T11, X11, E11, g11⟩ := X8.callS hexec (CodL.law l s.heap.size N) hown (wks W (staticW "java/lang/String" 47 CodL.yN)) (wk W CodL.tab) (W := 1) (Nat.le_of_ble_eq_true rfl) (Nat.le_of_ble_eq_true rfl) (Nat.le_refl _) (by show 0 + len + 0 ≤ len; omega) (g := (mkF m 45 #[.val (.ref a), .val (.ref b), .val (.int (Int32.ofNat o)), .val (.int (Int32.ofNat len)), .val .null, .val (.ref s.heap.size)] [.int (Int32.ofNat N.slots.size), .ref s.heap.size, .ref a])) rfl (by rw [hml]; rfl) c10 (argsL := [.ref s.heap.size, .int (Int32.ofNat N.slots.size)]) (rest := [.ref a]) rfl rfl (by show 2 * 0 + (1 + 0) ≤ _; decide) (hb hbytes d45) (⟨rfl, n1⟩)
  obtain ⟨rfl, q11⟩ := E11
  have hB11 := hB1.mv (X8.warmed.alike.symm.trans X11.warmed.alike) q11
  have c12 : Steps p.tables e below (s₁.setTop (entryFrame m #[.ref a, .ref b, .int (Int32.ofNat o), .int (Int32.ofNat len), .null] 6)) (T11.setTop (mkF m 48 #[.val (.ref a), .val (.ref b), .val (.int (Int32.ofNat o)), .val (.int (Int32.ofNat len)), .val .null, .val (.ref s.heap.size)] [.int 0, .ref a])) := g11
  obtain ⟨T13, X13, p13, bl13, sl13, st13⟩ := X11.finit hexec hown (wk W (.fieldLink "java/lang/String" 15 "java/lang/String" "coder" "B")) (Or.inr ⟨_, (wk W (.laysFinal "java/lang/String" "java/lang/String" "coder" "B"))⟩) (Or.inl ⟨rfl, hnm⟩) f2 (Or.inl rfl) hB11 (t := .byte) (by decide +kernel) rfl (g := (mkF m 48 #[.val (.ref a), .val (.ref b), .val (.int (Int32.ofNat o)), .val (.int (Int32.ofNat len)), .val .null, .val (.ref s.heap.size)] [.int 0, .ref a])) rfl (rest := []) rfl (hb hbytes d48)
  have c14 : Steps p.tables e below (s₁.setTop (entryFrame m #[.ref a, .ref b, .int (Int32.ofNat o), .int (Int32.ofNat len), .null] 6)) (T13.setTop (mkF m 54 #[.val (.ref a), .val (.ref b), .val (.int (Int32.ofNat o)), .val (.int (Int32.ofNat len)), .val .null, .val (.ref s.heap.size)] [.ref s.heap.size, .ref a])) := (c12.trans (st13 _ (Steps.refl _))).trans (by
    refine XS.aloadN X13.here hexec rfl (hb hbytes d51) rfl rfl ?_
    refine XS.aload X13.here hexec rfl (hb hbytes d52) rfl rfl ?_
    exact Steps.refl _)
  obtain ⟨T15, X15, p15, bl15, sl15, st15⟩ := X13.finit hexec hown (wk W (.fieldLink "java/lang/String" 9 "java/lang/String" "value" "[B")) (Or.inr ⟨_, (wk W (.laysFinal "java/lang/String" "java/lang/String" "value" "[B"))⟩) (Or.inl ⟨rfl, hnm⟩) f1 (Or.inl rfl) bl13 (t := (.array .byte)) (by decide +kernel) rfl (g := (mkF m 54 #[.val (.ref a), .val (.ref b), .val (.int (Int32.ofNat o)), .val (.int (Int32.ofNat len)), .val .null, .val (.ref s.heap.size)] [.ref s.heap.size, .ref a])) rfl (rest := []) rfl (hb hbytes d54)
  have c16 : Steps p.tables e below (s₁.setTop (entryFrame m #[.ref a, .ref b, .int (Int32.ofNat o), .int (Int32.ofNat len), .null] 6)) (T15.setTop (mkF m 57 #[.val (.ref a), .val (.ref b), .val (.int (Int32.ofNat o)), .val (.int (Int32.ofNat len)), .val .null, .val (.ref s.heap.size)] [])) := c14.trans (st15 _ (Steps.refl _))
  have ap := apart (Or.inr ⟨_, (wk W (.laysFinal "java/lang/String" "java/lang/String" "value" "[B"))⟩) (Or.inr ⟨_, (wk W (.laysFinal "java/lang/String" "java/lang/String" "coder" "B"))⟩) f1 f2 (t₁ := .array .byte) (t₂ := .byte) (by decide +kernel) (by decide +kernel) (by decide)
  have al := X8.warmed.alike.symm.trans X15.warmed.alike
  have n7 : T11.heap[s.heap.size]? = some N := by rw [q11]; exact n1.1
  exact ⟨T15, none, _, _, _, X15, by simp, rfl, by omega, (fun _ => rfl), ⟨rfl, _, N, bl15, ((Same.refl D _).set _ (by simp)).set _ (by simp), sl15, (Cell.slots_setSlot_ne _ ap).trans sl13, n1.keep al (p15.other hne (p13.other hne n7)), n2, by rw [al.findClass]; exact n3, n4, n5, fun y c h1 h2 => p15.other h1 (p13.other h1 (by rw [q11]; exact n6 y c h2)), by rw [p15.2.2, p13.2.2, q11]; exact z8⟩, fun fs hl => c16.trans (X15.returnOut hexec hret (hb hbytes d57) hl)⟩
end New4
namespace New1
def yN : MethodName := ⟨"java/lang/String", "<init>", "([C)V"⟩
abbrev yB : ByteArray := jdk_42_method_3_code
theorem d0 : decode yB 0 = .ok (.aload_n 0, 1) := by decide +kernel
theorem d1 : decode yB 1 = .ok (.aload_n 1, 1) := by decide +kernel
theorem d2 : decode yB 2 = .ok (.iconst 0, 1) := by decide +kernel
theorem d3 : decode yB 3 = .ok (.aload_n 1, 1) := by decide +kernel
theorem d4 : decode yB 4 = .ok (.arraylength, 1) := by decide +kernel
theorem d5 : decode yB 5 = .ok (.aconst_null, 1) := by decide +kernel
theorem d6 : decode yB 6 = .ok (.invokespecial 27, 3) := by decide +kernel
theorem d9 : decode yB 9 = .ok (.return_, 1) := by decide +kernel
def site : List Cond := [New4.tab] ++ initW "java/lang/String" 27 New4.yN
def tab : Cond := tabOf yN yB 2 none site
def P (a : Addr) (D : Cell) (fV fC : Field) (b : Addr) (A : Cell) (z : Int32) (args : Array Value) (s : State) : Prop := args = #[.ref a, .ref b] ∧ Blank "java/lang/String" a D s ∧ Found "java/lang/String" "value" "[B" fV s ∧ Found "java/lang/String" "coder" "B" fC s ∧ Ch b A s ∧ StaticIs s "java/lang/String" "COMPACT_STRINGS" "Z" (.int z) ∧ ¬ z = 0 ∧ 0 < A.slots.size ∧ A.slots.size ≤ 536870912 ∧ ∀ i, i < A.slots.size → ¬ 255 < cv A i
def E (a : Addr) (D : Cell) (fV fC : Field) (A : Cell) (r : Option Value) (s u : State) : Prop := Got a D fV fC A 0 A.slots.size r s u
/-- new String(chars), not empty, no char above 255: a Latin-1 String of their low bytes -/
theorem law (l : Launch) (a : Addr) (D : Cell) (fV fC : Field) (b : Addr) (A : Cell) (z : Int32) : Law l yN 2 1 3 52 yB 2 none site (P a D fV fC b A z) (E a D fV fC A) [⟨a, fC.slot⟩, ⟨a, fV.slot⟩] 1 A.slots.size := by
  refine Law.of_walk (plainFor_of_name (by decide +kernel)) (by decide +kernel) (by decide +kernel) (by decide) (fun _ _ h => by rw [h.1]; rfl) (fun _ U U' hal hh h => ⟨h.1, h.2.1.mv hal hh, h.2.2.1.al hal, h.2.2.2.1.al hal, h.2.2.2.2.1.mv hal hh, h.2.2.2.2.2.1.there hal hh, h.2.2.2.2.2.2⟩) (fun r U U' V V' h1 hal h2 h => Got.mv r U U' V V' h1 hal h2 h) ?_
  intro p e s m args below meth c s₁ X0 hexec hbytes hml hret hlk hnm hown hh0 W hP
  obtain ⟨rfl, hB, f1, f2, hA, s1, hz, l0, l2, hp⟩ := hP
  have c1 : Steps p.tables e below (s₁.setTop (entryFrame m #[.ref a, .ref b] 2)) (s₁.setTop (mkF m 0 #[.val (.ref a), .val (.ref b)] [])) := entry rfl
  have c2 : Steps p.tables e below (s₁.setTop (entryFrame m #[.ref a, .ref b] 2)) (s₁.setTop (mkF m 6 #[.val (.ref a), .val (.ref b)] [.null, .int (Int32.ofNat A.slots.size), .int 0, .ref b, .ref a])) := c1.trans (by
    refine XS.aloadN X0.here hexec rfl (hb hbytes d0) rfl rfl ?_
    refine XS.aloadN X0.here hexec rfl (hb hbytes d1) rfl rfl ?_
    refine iconstV X0.here hexec rfl 0 (hb hbytes d2) (by decide) ?_
    refine XS.aloadN X0.here hexec rfl (hb hbytes d3) rfl rfl ?_
    refine X0.alen hexec (hA.1.mv X0.warmed.alike hh0) rfl rfl (hb hbytes d4) ?_
    refine XS.aconstNull X0.here hexec rfl (hb hbytes d5) ?_
    exact Steps.refl _)
  obtain ⟨v3, T3, X3, E3, g3⟩ := X0.callN hexec (New4.law l a D fV fC b A z 0 A.slots.size) rfl hown (wks W (initW "java/lang/String" 27 New4.yN)) (W New4.tab (by simp only [site, List.mem_cons, List.mem_append, true_or, or_true])) (W := 0) (Nat.le_of_ble_eq_true rfl) (Nat.le_of_ble_eq_true rfl) (Nat.le_refl _) (by show 0 + A.slots.size ≤ A.slots.size; omega) (g := (mkF m 6 #[.val (.ref a), .val (.ref b)] [.null, .int (Int32.ofNat A.slots.size), .int (Int32.ofNat 0), .ref b, .ref a])) rfl (by rw [hml]; rfl) c2 (argsL := [.ref b, .int (Int32.ofNat 0), .int (Int32.ofNat A.slots.size), .null]) (rest := []) rfl rfl (by show 2 * 0 + 0 ≤ _; decide) (hb hbytes d6) (⟨rfl, hB.mv X0.warmed.alike hh0, f1.al X0.warmed.alike, f2.al X0.warmed.alike, hA.mv X0.warmed.alike hh0, s1.there X0.warmed.alike hh0, hz, l0, by omega, l2, fun i hi => by rw [Nat.zero_add]; exact hp i hi⟩)
  have e0 := Got.mv _ s₁ s _ _ hh0.symm (Vm.Alike.refl _) rfl E3
  obtain rfl := e0.1
  have c4 : Steps p.tables e below (s₁.setTop (entryFrame m #[.ref a, .ref b] 2)) (T3.setTop (mkF m 9 #[.val (.ref a), .val (.ref b)] [])) := g3
  exact ⟨T3, none, _, _, _, X3, by simp, rfl, by omega, (fun _ => rfl), e0, fun fs hl => c4.trans (X3.returnOut hexec hret (hb hbytes d9) hl)⟩
theorem pays {l : Launch} {R : Room} {p : Program} {e : Env} {below : List Frame} {s : State} {sargs : Array Value} {len W : Nat} (a : Addr) (D : Cell) (fV fC : Field) (b : Addr) (A : Cell) (z : Int32) (htab : tab.before sargs s = true) (hfr : 4 ≤ R.frames) (hlo : W + 65 ≤ R.locals) :
    Back l R p e below s sargs yN len W (fun A₁ a₁ => A₁.cells + 1 ≤ R.cells ∧ A₁.slots + A.slots.size ≤ R.slots ∧ P a D fV fC b A z a₁ A₁.U) (fun A₁ _ v₁ B₁ => E a D fV fC A v₁ A₁.U B₁.U ∧ B₁.locs = A₁.locs ++ [⟨a, fC.slot⟩, ⟨a, fV.slot⟩] ∧ B₁.cells = A₁.cells + 1 ∧ B₁.slots = A₁.slots + A.slots.size) :=
  (law l a D fV fC b A z).pays htab hfr (by omega)
end New1
/-- the byte, read back as charAt reads it, is the char -/
theorem lo8_mask {x : Int32} (h0 : ¬ x < 0) (h1 : ¬ 255 < x) : lo8 x &&& 255 = x := by
  have t : ∀ k : Fin 256, lo8 (Int32.ofNat k.val) &&& 255 = Int32.ofNat k.val := by decide +kernel
  rw [Int32.lt_iff_toInt_lt] at h0 h1
  have e0 : (0 : Int32).toInt = 0 := rfl
  have e1 : (255 : Int32).toInt = 255 := rfl
  obtain ⟨k, hk⟩ : ∃ k : Nat, x.toInt = k := ⟨x.toInt.toNat, by omega⟩
  have hx : x = Int32.ofNat k := Int32.toInt_inj.mp (by rw [hk, Int32.toInt_ofNat_small (by omega)])
  rw [hx]
  exact t ⟨k, by omega⟩
end StrChars
namespace StrChars.Road
open Jvm Sem ClassFile Op Lib Jvm.Stand Jvm.Free Jvm.Free.XT
open Jvm.Lib.Cold (StaticIs)
abbrev ST : String := "java/lang/String"
/-- every table word that New1's law asks, flat -/
abbrev words : List Jvm.Cond := [.code New1.yN New1.yB 2 none, .initialized ST, .methodLink ST 27 New4.yN, .instanceMethod New4.yN,
  .code New4.yN New4.yB 6 none, .fieldLink ST 38 ST "COMPACT_STRINGS" "Z", .laysFinal ST ST "value" "[B", .fieldLink ST 9 ST "value" "[B", .laysFinal ST ST "coder" "B", .fieldLink ST 15 ST "coder" "B",
  .methodLink ST 1 Lib.objectInit, .instanceMethod Lib.objectInit, .code Lib.objectInit ⟨#[0xb1]⟩ 1 none, .methodLink ST 177 Cmp3.yN, .static Cmp3.yN, .methodLink ST 47 CodL.yN, .static CodL.yN,
  .code Cmp3.yN Cmp3.yB 6 (some (.array .byte)), .initialized U16, .arrayClass .byte, .methodLink U16 115 Cmp5.yN, .static Cmp5.yN, .code Cmp5.yN Cmp5.yB 7 (some .int), .code CodL.yN CodL.yB 2 (some .byte)]
theorem tab_of {a : Array Value} {s : State} (h : ∀ w ∈ words, w.before a s = true) : New1.tab.before a s = true := by
  have h5 : Cmp5.tab.before a s = true := unparts (wk h (.code Cmp5.yN Cmp5.yB 7 (some .int))) (wks h (.initialized Cmp5.yN.cls :: Cmp5.site))
  have hc : CodL.tab.before a s = true := unparts (wk h (.code CodL.yN CodL.yB 2 (some .byte))) (wks h (.initialized CodL.yN.cls :: CodL.site))
  have q5 : ∀ w ∈ Cmp5.tab :: words, w.before a s = true := fun w hw => (List.mem_cons.mp hw).elim (fun e => e ▸ h5) (h w)
  have h3 : Cmp3.tab.before a s = true := unparts (wk q5 (.code Cmp3.yN Cmp3.yB 6 (some (.array .byte)))) (wks q5 (.initialized Cmp3.yN.cls :: Cmp3.site))
  have q3 : ∀ w ∈ Cmp3.tab :: CodL.tab :: words, w.before a s = true := fun w hw => (List.mem_cons.mp hw).elim (fun e => e ▸ h3) fun hw => (List.mem_cons.mp hw).elim (fun e => e ▸ hc) (h w)
  have h4 : New4.tab.before a s = true := unparts (wk q3 (.code New4.yN New4.yB 6 none)) (wks q3 (.initialized New4.yN.cls :: New4.site))
  have q4 : ∀ w ∈ New4.tab :: words, w.before a s = true := fun w hw => (List.mem_cons.mp hw).elim (fun e => e ▸ h4) (h w)
  exact unparts (wk q4 (.code New1.yN New1.yB 2 none)) (wks q4 (.initialized New1.yN.cls :: New1.site))
/-- the words ride from the start Z to the walk's own state -/
theorem moved {Z s : State} {a0 args : Array Value} (hZ : Z.Warmed39 s.vm) (hw : ∀ d ∈ words, d.before a0 Z = true) : ∀ d ∈ words, d.before args s = true := fun d hd => by
  have q := hw d hd
  have t : ∀ d ∈ words, d = .arrayClass .byte ∨ (d.onTables && d.keepsFace) = true := by decide +kernel
  rcases t d hd with rfl | t
  · exact RoadKit.mvA hZ q
  · exact RoadKit.mv hZ q t
/-- WHAT COMES BACK, over the tables of the start Z: h the heap at the call, h' behind it -/
def Q (Z : State) (x : Addr) (A : Cell) (h : Heap) (v : Option Value) (h' : Heap) (L : List Loc) : Prop := v = none ∧ (∀ y ∈ L, y.base = x) ∧ RoadKit.Keep h h' [x] ∧ h'.size = h.size + 1 ∧ RoadKit.Exa Z h' x ST ∧ RoadKit.Fld Z h' x ST "value" "[B" (.ref h.size) ∧ RoadKit.Fld Z h' x ST "coder" "B" (.int 0) ∧
  (∃ V : Cell, RoadKit.Arr Z h' h.size V .byte ∧ V.vm = .none ∧ Z.vm.findClass "[B" = some V.cls ∧ V.slots.size = A.slots.size ∧ ∀ j, j < A.slots.size → V.slots[j]? = some (.int (lo8 (cv A j)))) ∧
  ∀ (O n d : String) (w : Value), RoadKit.Fld Z h x O n d w → RoadKit.slotOf Z O n d ≠ RoadKit.slotOf Z ST "value" "[B" → RoadKit.slotOf Z O n d ≠ RoadKit.slotOf Z ST "coder" "B" → RoadKit.Fld Z h' x O n d w
/-- **new String(chars) AT A CALL, IN THE ROAD'S FORM**: for specialBack behind newO: x the fresh String, b the char[] with the cell A -/
theorem back {p : Program} {l : Launch} {e : Env} {R : Room} {s : State} {args : Array Value} {below : List Frame} {len W : Nat} {Z : State} {a0 : Array Value} {h : Heap} (hZ : Z.Warmed39 s.vm) (hw : ∀ d ∈ words, d.before a0 Z = true) {kI : Nat} (wi : (Jvm.Cond.instantiable ST kI).before a0 Z = true)
    {x b : Addr} {A : Cell} {z : Int32} {v0 c0 : Value} (E : RoadKit.Exa Z h x ST) (V : RoadKit.Fld Z h x ST "value" "[B" v0) (C : RoadKit.Fld Z h x ST "coder" "B" c0) (K : RoadKit.Arr Z h b A .char) (hty : Typed .char A) (S : RoadKit.Sta Z h ST "COMPACT_STRINGS" "Z" (.int z)) (hz : ¬ z = 0)
    (l0 : 0 < A.slots.size) (l2 : A.slots.size ≤ 536870912) (hp : ∀ i, i < A.slots.size → ¬ 255 < cv A i) (hfr : 4 ≤ R.frames) (hlo : W + 65 ≤ R.locals) :
    Back l R p e below s args New1.yN len W (fun P a => a = #[.ref x, .ref b] ∧ P.U.heap = h ∧ P.cells + 1 ≤ R.cells ∧ P.slots + A.slots.size ≤ R.slots)
      (fun P _ v B => ∃ L, Q Z x A h v B.U.heap L ∧ B.locs = P.locs ++ L ∧ B.cells = P.cells + 1 ∧ B.slots = P.slots + A.slots.size) := by
  intro m meth c P g ig mk a X hg hsize hdg hW hn hp'
  obtain ⟨rfl, rfl, r1, r2⟩ := hp'
  have al : Z.vm.Alike P.U.vm := hZ.alike.trans X.warmed.alike
  obtain ⟨D, cfV, kV, iV, fV, hD, gV, stV, knV, obV, asV, slV⟩ := id V
  obtain ⟨D', cfC, kC, iC, fC, hD', gC, stC, -, -, asC, slC⟩ := id C
  cases hD.symm.trans hD'
  obtain ⟨D2, kD, e1, e2, e3, e4, e5⟩ := id E
  cases hD.symm.trans e1
  obtain ⟨c2, k2, i1, i2, i3, -⟩ := Cond.instantiable_spec wi
  cases e2.symm.trans i1
  cases e3.symm.trans i2
  obtain ⟨kU, u1, u2⟩ := al.2.2 _ _ e3
  have hB : Blank ST x D P.U := ⟨hD, ⟨knV, fun q hq => by rw [hq] at obV; cases obV⟩, by rw [al.findClass]; exact e2, kU, u1, by rw [u2]; exact i3, by rw [u2]; exact e5 i3⟩
  have F1 : Found ST "value" "[B" fV P.U := ⟨SBG.found_only al ⟨cfV, kV, iV, gV⟩, stV⟩
  have F2 : Found ST "coder" "B" fC P.U := ⟨SBG.found_only al ⟨cfC, kC, iC, gC⟩, stC⟩
  have hA : Ch b A P.U := ⟨⟨K.1, State.isArrayOf_alike al K.2.1, K.2.2, by omega⟩, hty⟩
  have hS : StaticIs P.U ST "COMPACT_STRINGS" "Z" (.int z) := by
    obtain ⟨cfS, iS, kS, fS, st, cS, t1, t2, t3, t4, t5, t6, t7⟩ := S
    exact StaticIs.there (s := { Z with heap := P.U.heap }) ⟨cfS, iS, kS, fS, st, cS, t1, t2, t3, t4, t5, (fun q => by rw [q] at t6; cases t6), t7⟩ al rfl
  obtain ⟨v, B, X', ⟨⟨hv, E', V', q1, q2, q3, q4, q5, q6, q7, q8, q9, q10, q11⟩, hl, hc, hs⟩, st⟩ := New1.pays x D fV fC b A z (tab_of (moved hZ hw)) hfr hlo m meth c P g ig mk _ X hg hsize hdg hW hn ⟨r1, r2, rfl, hB, F1, F2, hA, hS, hz, l0, l2, hp⟩
  have al' : Z.vm.Alike B.U.vm := hZ.alike.trans X'.warmed.alike
  have hsz : E'.slots.size = D.slots.size := by
    obtain ⟨-, -, -, kB, w1, w2, w3⟩ := q1
    obtain ⟨kB', y1, y2⟩ := al'.2.2 _ _ e3
    rw [q2.2.1] at w1
    cases w1.symm.trans y1
    rw [w3, e5 i3, y2]
  refine ⟨v, B, X', ⟨_, ⟨hv, ?_, ⟨by omega, fun y cy hy hn' => q10 y cy (by simpa using hn') hy, fun y cy hy => ?_⟩, q11, ⟨E', _, q1.1, by rw [q2.2.1]; exact e2, by rw [q2.2.1]; exact e3, by rw [q2.1]; exact obV, fun _ => by rw [hsz]; exact e5 i3⟩,
    ⟨E', cfV, kV, iV, fV, q1.1, gV, stV, by rw [q2.1]; exact knV, by rw [q2.1]; exact obV, by rw [q2.2.1]; exact asV, q3⟩, ⟨E', cfC, kC, iC, fC, q1.1, gC, stC, by rw [q2.1]; exact knV, by rw [q2.1]; exact obV, by rw [q2.2.1]; exact asC, q4⟩,
    ⟨V', ⟨q5.1, State.isArrayOf_alike al'.symm q5.2.1, q5.2.2.1⟩, q6, by rw [← al'.findClass]; exact q7, q8, fun j hj => by have := q9 j hj; rwa [Nat.zero_add] at this⟩, fun O n d w F n1 n2 => ?_⟩, hl, hc, hs⟩, st⟩
  · intro y hy
    simp only [List.mem_cons, List.not_mem_nil, or_false] at hy
    rcases hy with rfl | rfl <;> rfl
  · by_cases q : y = x
    · subst q
      cases hD.symm.trans hy
      exact ⟨E', q1.1, q2.2.1, q2.1, hsz⟩
    · exact ⟨cy, q10 y cy q hy, rfl, rfl, rfl⟩
  · obtain ⟨D3, cf, k, i, f, g1, g2, g3, g4, g5, g6, g7⟩ := F
    cases hD.symm.trans g1
    simp only [RoadKit.slotOf, g2, gV, gC, Option.map_some, Option.getD_some] at n1 n2
    exact ⟨E', cf, k, i, f, q1.1, g2, g3, by rw [q2.1]; exact g4, by rw [q2.1]; exact g5, by rw [q2.2.1]; exact g6, by rw [q2.2.2 f.slot (by simp [n1, n2])]; exact g7⟩
end StrChars.Road
namespace StrChars.Road
open Jvm Sem ClassFile Op Lib Jvm.Stand Jvm.Free Jvm.Free.XT
/-- WHAT COMES BACK, the byte[] as a list of values -/
def QA (Z : State) (x : Addr) (zn : Int32) (cs : List Int32) (h : Heap) (v : Option Value) (h' : Heap) (L : List Loc) : Prop := v = none ∧ (∀ y ∈ L, y.base = x) ∧ RoadKit.Keep h h' [x] ∧ h'.size = h.size + 1 ∧ RoadKit.Exa Z h' x ST ∧ RoadKit.Fld Z h' x ST "value" "[B" (.ref h.size) ∧ RoadKit.Fld Z h' x ST "coder" "B" (.int 0) ∧
  (∃ kb, Z.vm.findClass "[B" = some kb ∧ RoadKit.Arv Z h' h.size kb .byte zn (cs.map fun c => .int (lo8 c)) (.int 0)) ∧
  ∀ (O n d : String) (w : Value), RoadKit.Fld Z h x O n d w → RoadKit.slotOf Z O n d ≠ RoadKit.slotOf Z ST "value" "[B" → RoadKit.slotOf Z O n d ≠ RoadKit.slotOf Z ST "coder" "B" → RoadKit.Fld Z h' x O n d w
/-- **new String(chars) AT A CALL, THE ARRAYS AS LISTS**: the char[] at b holds cs, not empty, no char above 255 -/
theorem backArv {p : Program} {l : Launch} {e : Env} {R : Room} {s : State} {args : Array Value} {below : List Frame} {len W : Nat} {Z : State} {a0 : Array Value} {h : Heap} (hZ : Z.Warmed39 s.vm) (hw : ∀ d ∈ words, d.before a0 Z = true) {kI : Nat} (wi : (Jvm.Cond.instantiable ST kI).before a0 Z = true)
    {x b : Addr} {k : ClassId} {zn z : Int32} {cs : List Int32} {dv v0 c0 : Value} (E : RoadKit.Exa Z h x ST) (V : RoadKit.Fld Z h x ST "value" "[B" v0) (C : RoadKit.Fld Z h x ST "coder" "B" c0) (K : RoadKit.Arv Z h b k .char zn (cs.map Value.int) dv) (S : RoadKit.Sta Z h ST "COMPACT_STRINGS" "Z" (.int z)) (hz : ¬ z = 0)
    (hlen : zn.toNatClampNeg = cs.length) (h0 : 0 < cs.length) (hbig : cs.length ≤ 536870912) (hall : ∀ c ∈ cs, ¬ 255 < c) (hfr : 4 ≤ R.frames) (hlo : W + 65 ≤ R.locals) :
    Back l R p e below s args New1.yN len W (fun P a => a = #[.ref x, .ref b] ∧ P.U.heap = h ∧ P.cells + 1 ≤ R.cells ∧ P.slots + cs.length ≤ R.slots)
      (fun P _ v B => ∃ L, QA Z x zn cs h v B.U.heap L ∧ B.locs = P.locs ++ L ∧ B.cells = P.cells + 1 ∧ B.slots = P.slots + cs.length) := by
  obtain ⟨A, K1, K2, K3, K4, K5, K6⟩ := K
  have e : A.slots.size = cs.length := K3.trans hlen
  have hat : ∀ (i : Nat) (hi : i < cs.length), A.slots[i]? = some (.int cs[i]) := fun i hi => by rw [K5 i (by omega)]; simp [List.getD_eq_getElem?_getD, hi]
  have hcv : ∀ (i : Nat) (hi : i < cs.length), cv A i = cs[i] := fun i hi => by unfold cv; rw [hat i hi]
  have hty : Typed .char A := fun i v hv => by
    have hi : i < A.slots.size := (Array.getElem?_eq_some_iff.mp hv).1
    have q := K5 i hi
    rw [hv] at q
    rw [Option.some.inj q]
    exact K6 i hi
  refine Back.mono (back hZ hw wi E V C K1 hty S hz (by omega) (by omega) (fun i hi => by rw [hcv i (by omega)]; exact hall _ (List.getElem_mem _)) hfr hlo) (fun P a hp => ⟨hp.1, hp.2.1, hp.2.2.1, by rw [e]; exact hp.2.2.2⟩) (fun P a v B hp hq => ?_)
  obtain ⟨L, ⟨q1, q2, q3, q4, q5, q6, q7, ⟨V', v1, v2, v3, v4, v5⟩, q9⟩, hl, hc, hs⟩ := hq
  refine ⟨L, ⟨q1, q2, q3, q4, q5, q6, q7, ⟨V'.cls, v3, V', v1, rfl, by rw [v4, e, hlen], K4, fun i hi => ?_, fun i hi => ?_⟩, q9⟩, hl, hc, by rw [hs, e]⟩
  · have hi' : i < cs.length := by omega
    rw [v5 i (by omega), hcv i hi']; simp [List.getD_eq_getElem?_getD, hi']
  · have hi' : i < cs.length := by omega
    simp only [List.getD_eq_getElem?_getD, List.getElem?_map, List.getElem?_eq_getElem hi', Option.map_some, Option.getD_some]
    exact fits_lo8 _
end StrChars.Road
namespace StrChars.Road
open Jvm Sem ClassFile Op Lib Jvm.Stand Jvm.Free Jvm.Free.XT
/-- WHAT COMES BACK, in the writer's own shape -/
def QV (Z : State) (x : Addr) (N : Int32) (bs : List Int32) (h : Heap) (n0 : Nat) (v : Option Value) (h' : Heap) (L : List Loc) : Prop := v = none ∧ RoadKit.Fr n0 L ∧ RoadKit.Keep h h' [x] ∧ RoadKit.Exa Z h' x ST ∧ RoadKit.Fld Z h' x ST "coder" "B" (.int 0) ∧
  ∃ (t : Addr) (kb : ClassId), n0 ≤ t ∧ h.size ≤ t ∧ ¬ t = x ∧ RoadKit.Fld Z h' x ST "value" "[B" (.ref t) ∧ RoadKit.Arv Z h' t kb .byte N (bs.map Value.int) (.int 0)
/-- **new String(chars) AT A CALL, FOR THE WRITER**: a char[] of n known ints, each 0 to 255 -/
theorem backV {p : Program} {l : Launch} {e : Env} {R : Room} {s : State} {args : Array Value} {below : List Frame} {len W : Nat} {Z : State} {a0 : Array Value} {h : Heap} (hZ : Z.Warmed39 s.vm) (hw : ∀ d ∈ words, d.before a0 Z = true) {kI : Nat} (wi : (Jvm.Cond.instantiable ST kI).before a0 Z = true)
    {x b : Addr} {kC : ClassId} {cs bs : List Int32} {d v0 c0 : Value} {z N : Int32} {n n0 : Nat} (hx0 : n0 ≤ x) (hh0 : n0 ≤ h.size) (E : RoadKit.Exa Z h x ST) (V : RoadKit.Fld Z h x ST "value" "[B" v0) (C : RoadKit.Fld Z h x ST "coder" "B" c0) (K : RoadKit.Arv Z h b kC .char N (cs.map Value.int) d) (S : RoadKit.Sta Z h ST "COMPACT_STRINGS" "Z" (.int z)) (hz : ¬ z = 0)
    (hn : cs.length = n) (hN : N = Int32.ofNat n) (l0 : 0 < n) (l2 : n ≤ 4000) (hp : ∀ c ∈ cs, ¬ c < 0 ∧ ¬ (255 : Int32) < c) (hb : bs = cs.map (fun c => c.toInt8.toInt32)) (hfr : 4 ≤ R.frames) (hlo : W + 65 ≤ R.locals) :
    Back l R p e below s args (⟨"java/lang/String", "<init>", "([C)V"⟩ : MethodName) len W (fun P a => a = #[.ref x, .ref b] ∧ P.U.heap = h ∧ P.cells + 1 ≤ R.cells ∧ P.slots + n ≤ R.slots)
      (fun P _ v B => ∃ L, QV Z x N bs h n0 v B.U.heap L ∧ B.locs = P.locs ++ L ∧ B.cells = P.cells + 1 ∧ B.slots = P.slots + n) := by
  subst hn hN hb
  refine Back.mono (backArv hZ hw wi E V C K S hz (n32 (by omega)) l0 (by omega) (fun c hc => (hp c hc).2) hfr hlo) (fun P a hp => hp) (fun P a v B hp hq => ?_)
  obtain ⟨L, ⟨q1, q2, q3, q4, q5, q6, q7, ⟨kb, v1, v2⟩, q9⟩, hl, hc, hs⟩ := hq
  exact ⟨L, ⟨q1, fun y hy => by rw [q2 y hy]; exact hx0, q3, q5, q7, h.size, kb, hh0, Nat.le_refl _, Nat.ne_of_gt E.lt, q6, by rw [List.map_map]; exact v2⟩, hl, hc, hs⟩
end StrChars.Road
namespace StrChars
open Jvm Sem ClassFile Op Lib Jvm.Stand Jvm.Free.XT Jvm.Free.ALB Jvm.Free.JM Jvm.Free
open Jvm.Lib.Cold (StaticIs)
def hi8 (x : Int32) : Int32 := lo8 (x >>> ((8 : Int32) &&& 31))
/-- what StringUTF16.getChar makes of two bytes -/
def pairCh (u v : Int32) : Int32 := (((u &&& 255) <<< ((0 : Int32) &&& 31)) ||| ((v &&& 255) <<< ((8 : Int32) &&& 31))).toUInt32.toUInt16.toUInt32.toInt32
theorem lo8_and (x : Int32) : (lo8 x &&& 255).toBitVec.toNat = x.toBitVec.toNat % 256 := by
  have h : (lo8 x).toBitVec = (x.toBitVec.signExtend 8).signExtend 32 := by rw [lo8, Int8.toBitVec_toInt32, Int32.toBitVec_toInt8]
  rw [Int32.toBitVec_and, BitVec.toNat_and, h]
  have e : ((x.toBitVec.signExtend 8).signExtend 32).toNat % 256 = x.toBitVec.toNat % 256 := by
    rw [BitVec.toNat_signExtend]
    have hlt := x.toBitVec.isLt
    simp only [BitVec.toNat_setWidth, BitVec.toNat_signExtend]
    split <;> split <;> omega
  rw [← e]
  exact Nat.and_two_pow_sub_one_eq_mod _ 8
theorem pair_says {c : Int32} (h0 : ¬ c < 0) (h1 : ¬ 65535 < c) : pairCh (lo8 c) (hi8 c) = c := by
  rw [Int32.lt_iff_toInt_lt] at h0 h1
  have e0 : (0 : Int32).toInt = 0 := rfl
  have e1 : (65535 : Int32).toInt = 65535 := rfl
  have hc : c.toInt = c.toBitVec.toNat := by
    have := c.toBitVec.isLt
    have e : c.toInt = c.toBitVec.toInt := rfl
    rw [e] at h0 h1
    rw [e]
    rw [BitVec.toInt_eq_toNat_cond] at h0 h1 ⊢
    split at h0 <;> split <;> omega
  have hn : c.toBitVec.toNat < 65536 := by omega
  have a1 := lo8_and c
  have a2 : (hi8 c &&& 255).toBitVec.toNat = c.toBitVec.toNat / 256 := by
    rw [hi8, lo8_and]
    have e : ((8 : Int32) &&& 31) = 8 := by decide
    rw [e, Int32.toBitVec_shiftRight]
    have e2 : ((8 : Int32).toBitVec.smod 32) = 8#32 := by decide
    rw [e2, BitVec.sshiftRight_eq', BitVec.toNat_sshiftRight_of_msb_false (by rw [BitVec.msb_eq_false_iff_two_mul_lt]; omega)]
    show c.toBitVec.toNat >>> 8 % 256 = _
    rw [Nat.shiftRight_eq_div_pow]
    omega
  unfold pairCh
  apply Int32.toBitVec_inj.mp
  apply BitVec.eq_of_toNat_eq
  have f0 : ((0 : Int32) &&& 31) = 0 := by decide
  have f8 : ((8 : Int32) &&& 31) = 8 := by decide
  rw [f0, f8]
  have g : (((lo8 c &&& 255) <<< (0 : Int32)) ||| ((hi8 c &&& 255) <<< (8 : Int32))).toBitVec.toNat = c.toBitVec.toNat := by
    rw [Int32.toBitVec_or, Int32.toBitVec_shiftLeft, Int32.toBitVec_shiftLeft]
    have s0 : ((0 : Int32).toBitVec.smod 32) = 0#32 := by decide
    have s8 : ((8 : Int32).toBitVec.smod 32) = 8#32 := by decide
    rw [s0, s8, BitVec.toNat_or]
    simp only [BitVec.shiftLeft_eq', BitVec.toNat_shiftLeft, a1, a2]
    show (c.toBitVec.toNat % 256) <<< 0 % 2 ^ 32 ||| (c.toBitVec.toNat / 256) <<< 8 % 2 ^ 32 = _
    rw [Nat.shiftLeft_zero, Nat.mod_eq_of_lt (show c.toBitVec.toNat % 256 < 2 ^ 32 by omega), Nat.mod_eq_of_lt (show (c.toBitVec.toNat / 256) <<< 8 < 2 ^ 32 by rw [Nat.shiftLeft_eq]; omega), Nat.or_comm, ← Nat.shiftLeft_add_eq_or_of_lt (by omega), Nat.shiftLeft_eq]
    omega
  show BitVec.toNat (((((lo8 c &&& 255) <<< (0 : Int32)) ||| ((hi8 c &&& 255) <<< (8 : Int32))).toBitVec.setWidth 16).setWidth 32) = _
  rw [BitVec.toNat_setWidth, BitVec.toNat_setWidth, g]
  omega
end StrChars
namespace StrChars
open Jvm Sem ClassFile Op Lib Jvm.Stand Jvm.Free.XT Jvm.Free.ALB Jvm.Free.JM Jvm.Free
open Jvm.Lib.Cold (StaticIs)
/-- charAt's cast of a byte read back -/
def chr8 (u : Int32) : Int32 := (u &&& 255).toUInt32.toUInt16.toUInt32.toInt32
theorem chr8_lo8 {c : Int32} (h0 : ¬ c < 0) (h1 : ¬ 255 < c) : chr8 (lo8 c) = c := by
  have t : ∀ k : Fin 256, (Int32.ofNat k.val).toUInt32.toUInt16.toUInt32.toInt32 = Int32.ofNat k.val := by decide +kernel
  unfold chr8
  rw [lo8_mask h0 h1]
  rw [Int32.lt_iff_toInt_lt] at h0 h1
  have e0 : (0 : Int32).toInt = 0 := rfl
  have e1 : (255 : Int32).toInt = 255 := rfl
  obtain ⟨k, hk⟩ : ∃ k : Nat, c.toInt = k := ⟨c.toInt.toNat, by omega⟩
  have hx : c = Int32.ofNat k := Int32.toInt_inj.mp (by rw [hk, Int32.toInt_ofNat_small (by omega)])
  rw [hx]
  exact t ⟨k, by omega⟩
theorem narrow_ch {c : Int32} (h0 : ¬ c < 0) (h1 : ¬ 65535 < c) : narrow .char (.int c) = .int c := by
  have q : narrow .char (.int (pairCh (lo8 c) (hi8 c))) = .int (pairCh (lo8 c) (hi8 c)) := narrow_c _
  rwa [pair_says h0 h1] at q
/-- the array's cell V codes the n chars f 0 .. f (n - 1) by the coder cd, as the JDK does: coder 1 just where some char is above 255 -/
def Cod (cd : Int32) (n : Nat) (f : Nat → Int32) (V : Cell) : Prop := (cd = 0 ∧ V.slots.size = n ∧ ∀ j, j < n → V.slots[j]? = some (.int (lo8 (f j))) ∧ ¬ 255 < f j) ∨ (cd = 1 ∧ V.slots.size = 2 * n ∧ (∀ j, j < n → V.slots[2 * j]? = some (.int (lo8 (f j))) ∧ V.slots[2 * j + 1]? = some (.int (hi8 (f j)))) ∧ ∃ j, j < n ∧ 255 < f j)
theorem Cod.cd {cd : Int32} {n : Nat} {f : Nat → Int32} {V : Cell} (h : Cod cd n f V) : cd = 0 ∨ cd = 1 := h.imp (fun q => q.1) fun q => q.1
/-- **x is a String of the n chars f 0 .. f (n - 1)**, Latin-1 or UTF-16; its array at t has the cell V -/
def Txt (x t : Addr) (V : Cell) (cd : Int32) (n : Nat) (f : Nat → Int32) (U : State) : Prop := Exact "java/lang/String" x U ∧ Has x "java/lang/String" "value" "[B" (.ref t) U ∧ Has x "java/lang/String" "coder" "B" (.int cd) U ∧ XT.Arr .byte t V U ∧ Cod cd n f V ∧ ∀ j, j < n → ¬ f j < 0 ∧ ¬ 65535 < f j
theorem Txt.mv {x t : Addr} {V : Cell} {cd : Int32} {n : Nat} {f : Nat → Int32} {U U' : State} (h : Txt x t V cd n f U) (hal : U.vm.Alike U'.vm) (hh : U'.heap = U.heap) : Txt x t V cd n f U' := ⟨h.1.mv hal hh, h.2.1.mv hal hh, h.2.2.1.mv hal hh, h.2.2.2.1.mv hal hh, h.2.2.2.2⟩
namespace IsL
def yN : MethodName := ⟨"java/lang/String", "isLatin1", "()Z"⟩
abbrev yB : ByteArray := jdk_42_method_154_code
theorem d0 : decode yB 0 = .ok (.getstatic 38, 3) := by decide +kernel
theorem d3 : decode yB 3 = .ok (.ifCond (.eq) 14, 3) := by decide +kernel
theorem d6 : decode yB 6 = .ok (.aload_n 0, 1) := by decide +kernel
theorem d7 : decode yB 7 = .ok (.getfield 15, 3) := by decide +kernel
theorem d10 : decode yB 10 = .ok (.ifCond (.ne) 7, 3) := by decide +kernel
theorem d13 : decode yB 13 = .ok (.iconst 1, 1) := by decide +kernel
theorem d14 : decode yB 14 = .ok (.goto 4, 3) := by decide +kernel
theorem d17 : decode yB 17 = .ok (.iconst 0, 1) := by decide +kernel
theorem d18 : decode yB 18 = .ok (.ireturn, 1) := by decide +kernel
def site : List Cond := [.fieldLink "java/lang/String" 38 "java/lang/String" "COMPACT_STRINGS" "Z", .fieldLink "java/lang/String" 15 "java/lang/String" "coder" "B"]
def tab : Cond := tabOf yN yB 1 (some .boolean) site
def P (x : Addr) (cd z : Int32) (args : Array Value) (s : State) : Prop := args = #[.ref x] ∧ Has x "java/lang/String" "coder" "B" (.int cd) s ∧ (cd = 0 ∨ cd = 1) ∧ StaticIs s "java/lang/String" "COMPACT_STRINGS" "Z" (.int z) ∧ ¬ z = 0
def E (cd : Int32) (r : Option Value) (s u : State) : Prop := XT.PureE (some (.int (1 - cd))) r s u
theorem law (l : Launch) (x : Addr) (cd z : Int32) : Law l yN 1 0 0 0 yB 1 (some .boolean) site (P x cd z) (E cd) [] 0 0 := by
  refine Law.of_walk (plainFor_of_name (by decide +kernel)) (by decide +kernel) (by decide +kernel) (by decide) (fun _ _ h => by rw [h.1]; rfl) (fun _ U U' hal hh h => ⟨h.1, h.2.1.mv hal hh, h.2.2.1, h.2.2.2.1.there hal hh, h.2.2.2.2⟩) (fun r U U' V V' h1 hal h2 h => XT.PureE.mv r U U' V V' h1 hal h2 h) ?_
  intro p e s m args below meth c s₁ X0 hexec hbytes hml hret hlk hnm hown hh0 W hP
  obtain ⟨rfl, hx, hc, s1, hz⟩ := hP
  have c1 : Steps p.tables e below (s₁.setTop (entryFrame m #[.ref x] 1)) (s₁.setTop (mkF m 0 #[.val (.ref x)] [])) := entry rfl
  obtain ⟨T2, X2, q2, st2⟩ := X0.sget hexec hown (wk W (.fieldLink "java/lang/String" 38 "java/lang/String" "COMPACT_STRINGS" "Z")) s1 (fun _ _ h => by rw [hh0]; exact h) (g := (mkF m 0 #[.val (.ref x)] [])) rfl (hb hbytes d0)
  have hh2 := q2.trans hh0
  have c3 : Steps p.tables e below (s₁.setTop (entryFrame m #[.ref x] 1)) (T2.setTop (mkF m 7 #[.val (.ref x)] [.ref x])) := (c1.trans (st2 _ (Steps.refl _))).trans (by
    refine XS.ifNo X2.here hexec rfl (hb hbytes d3) rfl (i0_eq_f hz) ?_
    refine XS.aloadN X2.here hexec rfl (hb hbytes d6) rfl rfl ?_
    exact Steps.refl _)
  obtain ⟨T4, X4, q4, st4⟩ := X2.hget hexec hown (wk W (.fieldLink "java/lang/String" 15 "java/lang/String" "coder" "B")) (hx.mv X2.warmed.alike hh2) (g := (mkF m 7 #[.val (.ref x)] [.ref x])) rfl (rest := []) rfl (hb hbytes d7)
  have c5 : Steps p.tables e below (s₁.setTop (entryFrame m #[.ref x] 1)) (T4.setTop (mkF m 10 #[.val (.ref x)] [.int cd])) := c3.trans (st4 _ (Steps.refl _))
  have c6 : Steps p.tables e below (s₁.setTop (entryFrame m #[.ref x] 1)) (T4.setTop (mkF m 18 #[.val (.ref x)] [.int (1 - cd)])) := by
    rcases hc with rfl | rfl
    · exact c5.trans (by
        refine XS.ifNo X4.here hexec rfl (hb hbytes d10) rfl (i0_ne_f rfl) ?_
        refine iconstV X4.here hexec rfl 1 (hb hbytes d13) (by decide) ?_
        refine XS.goto X4.here hexec rfl (pc0 := 14) rfl (hb hbytes d14) (by decide) rfl ?_
        exact Steps.refl _)
    · exact c5.trans (by
        refine XS.ifYes X4.here hexec rfl (pc0 := 10) rfl (hb hbytes d10) rfl (i0_ne_t (by decide)) (by decide) rfl ?_
        refine iconstV X4.here hexec rfl 0 (hb hbytes d17) (by decide) ?_
        exact Steps.refl _)
  exact ⟨T4, some (.int (1 - cd)), _, _, _, X4, rfl, rfl, rfl, (fun h => by cases h), ⟨rfl, q4.trans hh2⟩, fun fs hl => c6.trans (X4.ireturnOut hexec hret (by rcases hc with rfl | rfl <;> rfl) (Or.inr (Or.inl rfl)) (hb hbytes d18) hl)⟩
end IsL
namespace LChA
def yN : MethodName := ⟨"java/lang/StringLatin1", "charAt", "([BI)C"⟩
abbrev yB : ByteArray := jdk_43_method_2_code
theorem d0 : decode yB 0 = .ok (.iload_n 1, 1) := by decide +kernel
theorem d1 : decode yB 1 = .ok (.aload_n 0, 1) := by decide +kernel
theorem d2 : decode yB 2 = .ok (.arraylength, 1) := by decide +kernel
theorem d3 : decode yB 3 = .ok (.invokestatic 9, 3) := by decide +kernel
theorem d6 : decode yB 6 = .ok (.aload_n 0, 1) := by decide +kernel
theorem d7 : decode yB 7 = .ok (.iload_n 1, 1) := by decide +kernel
theorem d8 : decode yB 8 = .ok (.baload, 1) := by decide +kernel
theorem d9 : decode yB 9 = .ok (.sipush 255, 3) := by decide +kernel
theorem d12 : decode yB 12 = .ok (.iand, 1) := by decide +kernel
theorem d13 : decode yB 13 = .ok (.i2c, 1) := by decide +kernel
theorem d14 : decode yB 14 = .ok (.ireturn, 1) := by decide +kernel
def site : List Cond := [JO.Str_checkIndex.tab] ++ staticW "java/lang/StringLatin1" 9 JO.Str_checkIndex.yN
def tab : Cond := tabOf yN yB 2 (some .char) site
def P (t : Addr) (V : Cell) (i : Nat) (u : Int32) (fm : Value) (args : Array Value) (s : State) : Prop := args = #[.ref t, .int (Int32.ofNat i)] ∧ XT.Arr .byte t V s ∧ V.slots[i]? = some (.int u) ∧ (StaticIs s "jdk/internal/util/Preconditions" "SIOOBE_FORMATTER" "Ljava/util/function/BiFunction;" fm ∧ fm.isRef = true)
def E (u : Int32) (r : Option Value) (s w : State) : Prop := XT.PureE (some (.int (chr8 u))) r s w
theorem law (l : Launch) (t : Addr) (V : Cell) (i : Nat) (u : Int32) (fm : Value) : Law l yN 2 2 2 27 yB 2 (some .char) site (P t V i u fm) (E u) [] 0 0 := by
  refine Law.of_walk (plainFor_of_name (by decide +kernel)) (by decide +kernel) (by decide +kernel) (by decide) (fun _ _ h => by rw [h.1]; rfl) (fun _ U U' hal hh h => ⟨h.1, h.2.1.mv hal hh, h.2.2.1, h.2.2.2.1.there hal hh, h.2.2.2.2⟩) (fun r U U' V V' h1 hal h2 h => XT.PureE.mv r U U' V V' h1 hal h2 h) ?_
  intro p e s m args below meth c s₁ X0 hexec hbytes hml hret hlk hnm hown hh0 W hP
  obtain ⟨rfl, hV, hu, s1, rf⟩ := hP
  have v31 := hV.2.2.2
  have hi : i < V.slots.size := (Array.getElem?_eq_some_iff.mp hu).1
  have c1 : Steps p.tables e below (s₁.setTop (entryFrame m #[.ref t, .int (Int32.ofNat i)] 2)) (s₁.setTop (mkF m 0 #[.val (.ref t), .val (.int (Int32.ofNat i))] [])) := entry rfl
  have c2 : Steps p.tables e below (s₁.setTop (entryFrame m #[.ref t, .int (Int32.ofNat i)] 2)) (s₁.setTop (mkF m 3 #[.val (.ref t), .val (.int (Int32.ofNat i))] [.int (Int32.ofNat V.slots.size), .int (Int32.ofNat i)])) := c1.trans (by
    refine XS.iloadN X0.here hexec rfl (hb hbytes d0) rfl ?_
    refine XS.aloadN X0.here hexec rfl (hb hbytes d1) rfl rfl ?_
    refine X0.alen hexec (hV.mv X0.warmed.alike hh0) rfl rfl (hb hbytes d2) ?_
    exact Steps.refl _)
  obtain ⟨v3, T3, X3, E3, g3⟩ := X0.callS hexec (JO.Str_checkIndex.law l (Int32.ofNat i) (Int32.ofNat V.slots.size) fm) hown (wks W (staticW "java/lang/StringLatin1" 9 JO.Str_checkIndex.yN)) (wk W JO.Str_checkIndex.tab) (W := 0) (Nat.le_of_ble_eq_true rfl) (Nat.le_of_ble_eq_true rfl) (Nat.le_refl _) (Nat.le_refl _) (g := (mkF m 3 #[.val (.ref t), .val (.int (Int32.ofNat i))] [.int (Int32.ofNat V.slots.size), .int (Int32.ofNat i)])) rfl (by rw [hml]; rfl) c2 (argsL := [.int (Int32.ofNat i), .int (Int32.ofNat V.slots.size)]) (rest := []) rfl rfl (by show 2 * 0 + 0 ≤ _; decide) (hb hbytes d3) (⟨rfl, rf, s1.there X0.warmed.alike hh0, Int32.ofNat_not_neg (by omega), lt32 v31 hi⟩)
  obtain ⟨rfl, q3⟩ := E3
  have hh3 := q3.trans hh0
  have c4 : Steps p.tables e below (s₁.setTop (entryFrame m #[.ref t, .int (Int32.ofNat i)] 2)) (T3.setTop (mkF m 14 #[.val (.ref t), .val (.int (Int32.ofNat i))] [.int (chr8 u)])) := Steps.trans g3 (by
    refine XS.aloadN X3.here hexec rfl (hb hbytes d6) rfl rfl ?_
    refine XS.iloadN X3.here hexec rfl (hb hbytes d7) rfl ?_
    refine X3.aget hexec (hV.mv X3.warmed.alike hh3) rfl hu rfl rfl (hb hbytes d8) ?_
    refine sipushV X3.here hexec rfl 255 (hb hbytes d9) (by decide) ?_
    refine XS.iand X3.here hexec rfl (hb hbytes d12) rfl ?_
    refine i2c X3.here hexec rfl (hb hbytes d13) rfl ?_
    exact Steps.refl _)
  exact ⟨T3, some (.int (chr8 u)), _, _, _, X3, rfl, rfl, rfl, (fun h => by cases h), ⟨rfl, hh3⟩, fun fs hl => c4.trans (X3.ireturnOut hexec hret (narrow_c _) (Or.inr (Or.inr (Or.inr (Or.inl rfl)))) (hb hbytes d14) hl)⟩
end LChA
end StrChars
namespace StrChars.Road
open Jvm Sem ClassFile Op Lib Jvm.Stand Jvm.Free Jvm.Free.XT
open Jvm.Lib.Cold (StaticIs)
theorem consq {a : Array Value} {s : State} {c : Jvm.Cond} {L : List Jvm.Cond} (h0 : c.before a s = true) (h : ∀ w ∈ L, w.before a s = true) : ∀ w ∈ c :: L, w.before a s = true := fun w hw => (List.mem_cons.mp hw).elim (fun e => e ▸ h0) (h w)
/-- the bytes of the chars cs, low before high -/
def wideBytes : List Int32 → List Value
  | [] => []
  | c :: cs => .int (lo8 c) :: .int (hi8 c) :: wideBytes cs
theorem wide_lo (d : Value) : ∀ (cs : List Int32) (j : Nat), j < cs.length → (wideBytes cs).getD (2 * j) d = .int (lo8 (cs.getD j 0))
  | [], j, h => absurd h (Nat.not_lt_zero j)
  | c :: cs, 0, _ => rfl
  | c :: cs, j + 1, h => by
    have q := wide_lo d cs j (by simpa using h)
    rw [show 2 * (j + 1) = 2 * j + 1 + 1 from by omega]
    simpa [wideBytes] using q
theorem wide_hi (d : Value) : ∀ (cs : List Int32) (j : Nat), j < cs.length → (wideBytes cs).getD (2 * j + 1) d = .int (hi8 (cs.getD j 0))
  | [], j, h => absurd h (Nat.not_lt_zero j)
  | c :: cs, 0, _ => rfl
  | c :: cs, j + 1, h => by
    have q := wide_hi d cs j (by simpa using h)
    rw [show 2 * (j + 1) + 1 = 2 * j + 1 + 1 + 1 from by omega]
    simpa [wideBytes] using q
theorem low_at (d : Value) (cs : List Int32) (j : Nat) (h : j < cs.length) : (cs.map fun c => Value.int (lo8 c)).getD j d = .int (lo8 (cs.getD j 0)) := by
  simp [List.getD_eq_getElem?_getD, h]
/-- an array of N2 bytes vs codes the chars cs by the coder cd -/
def CodA (cs : List Int32) (cd N2 : Int32) (vs : List Value) : Prop := (cd = 0 ∧ N2 = Int32.ofNat cs.length ∧ vs = (cs.map fun c => Value.int (lo8 c)) ∧ ∀ c ∈ cs, ¬ 255 < c) ∨ (cd = 1 ∧ N2 = Int32.ofNat (2 * cs.length) ∧ vs = wideBytes cs ∧ ∃ c ∈ cs, 255 < c)
theorem CodA.cod {cs : List Int32} {cd N2 : Int32} {vs : List Value} {V : Cell} (h : CodA cs cd N2 vs) (hn : 2 * cs.length < 2 ^ 31) (hs : V.slots.size = N2.toNatClampNeg) (hv : RoadKit.Has V vs (.int 0)) : Cod cd cs.length (fun j => cs.getD j 0) V := by
  rcases h with ⟨rfl, rfl, rfl, h⟩ | ⟨rfl, rfl, rfl, c, hc, hw⟩
  · rw [n32 (by omega)] at hs
    exact Or.inl ⟨rfl, hs, fun j hj => ⟨by rw [hv j (by omega), low_at _ _ _ hj], by
      have e : cs.getD j 0 = cs[j] := by simp [List.getD_eq_getElem?_getD, hj]
      show ¬ 255 < cs.getD j 0
      rw [e]; exact h _ (List.getElem_mem _)⟩⟩
  · rw [n32 (by omega)] at hs
    obtain ⟨j, hj, rfl⟩ := List.getElem_of_mem hc
    exact Or.inr ⟨rfl, hs, fun j hj => ⟨by rw [hv _ (by omega), wide_lo _ _ _ hj], by rw [hv _ (by omega), wide_hi _ _ _ hj]⟩, j, hj, by
      have e : cs.getD j 0 = cs[j] := by simp [List.getD_eq_getElem?_getD, hj]
      show 255 < cs.getD j 0
      rw [e]; exact hw⟩
/-- an object of exactly java/lang/String, its two fields found: as the laws ask it -/
theorem strObj {Z U : State} {a0 : Array Value} {kI : Nat} (wi : (Jvm.Cond.instantiable ST kI).before a0 Z = true) (al : Z.vm.Alike U.vm) {x : Addr} {v0 c0 : Value} (E : RoadKit.Exa Z U.heap x ST) (V : RoadKit.Fld Z U.heap x ST "value" "[B" v0) (C : RoadKit.Fld Z U.heap x ST "coder" "B" c0) :
    ∃ (D : Cell) (fV fC : Field), Blank ST x D U ∧ Found ST "value" "[B" fV U ∧ Found ST "coder" "B" fC U ∧ D.slots[fV.slot]? = some v0 ∧ D.slots[fC.slot]? = some c0 ∧ RoadKit.slotOf Z ST "value" "[B" = fV.slot ∧ RoadKit.slotOf Z ST "coder" "B" = fC.slot := by
  obtain ⟨D, cfV, kV, iV, fV, hD, gV, stV, knV, obV, asV, slV⟩ := V
  obtain ⟨D', cfC, kC, iC, fC, hD', gC, stC, -, -, asC, slC⟩ := C
  cases hD.symm.trans hD'
  obtain ⟨D2, kD, e1, e2, e3, e4, e5⟩ := E
  cases hD.symm.trans e1
  obtain ⟨c2, k2, i1, i2, i3, -⟩ := Cond.instantiable_spec wi
  cases e2.symm.trans i1
  cases e3.symm.trans i2
  obtain ⟨kU, u1, u2⟩ := al.2.2 _ _ e3
  exact ⟨D, fV, fC, ⟨hD, ⟨knV, fun q hq => by rw [hq] at obV; cases obV⟩, by rw [al.findClass]; exact e2, kU, u1, by rw [u2]; exact i3, by rw [u2]; exact e5 i3⟩, ⟨SBG.found_only al ⟨cfV, kV, iV, gV⟩, stV⟩, ⟨SBG.found_only al ⟨cfC, kC, iC, gC⟩, stC⟩, slV, slC, by simp [RoadKit.slotOf, gV], by simp [RoadKit.slotOf, gC]⟩
theorem sta_is {Z U : State} (al : Z.vm.Alike U.vm) {C n d : String} {v : Value} (S : RoadKit.Sta Z U.heap C n d v) : StaticIs U C n d v := by
  obtain ⟨cfS, iS, kS, fS, st, cS, t1, t2, t3, t4, t5, t6, t7⟩ := S
  exact StaticIs.there (s := { Z with heap := U.heap }) ⟨cfS, iS, kS, fS, st, cS, t1, t2, t3, t4, t5, (fun q => by rw [q] at t6; cases t6), t7⟩ al rfl
end StrChars.Road
namespace StrChars
open Jvm Sem ClassFile Op Lib Jvm.Stand Jvm.Free.XT Jvm.Free.ALB Jvm.Free.JM Jvm.Free
open Jvm.Lib.Cold (StaticIs)
/-- what place i of a byte[]'s cell holds -/
def yv (A : Cell) (i : Nat) : Int32 := match A.slots[i]? with | some (.int x) => x | _ => 0
theorem yv_get {a : Addr} {A : Cell} {U : State} (h : XT.Arr .byte a A U) (ht : Typed .byte A) {i : Nat} (hi : i < A.slots.size) : A.slots[i]? = some (.int (yv A i)) := by
  have e := Array.getElem?_eq_getElem hi
  have f := ht i _ e
  unfold yv; rw [e]
  generalize A.slots[i] = v at f
  cases v <;> simp [fits] at f ⊢
/-- the two arrays are equal, place for place -/
def EqC (A B : Cell) : Prop := A.slots.size = B.slots.size ∧ ∀ i, i < A.slots.size → yv A i = yv B i
/-- a boolean that says whether p -/
def Says01 (q : Prop) (r : Option Value) (s u : State) : Prop := ∃ v : Int32, r = some (.int v) ∧ u.heap = s.heap ∧ ((v = 1 ∧ q) ∨ (v = 0 ∧ ¬ q))
theorem Says01.mv {q : Prop} : ∀ r (U U' V V' : State), U'.heap = U.heap → V.vm.Alike V'.vm → V'.heap = V.heap → Says01 q r U V → Says01 q r U' V' :=
  fun r U U' V V' h1 _ h2 ⟨v, a, b, c⟩ => ⟨v, a, by rw [h1, h2]; exact b, c⟩
namespace LEq
def yN : MethodName := ⟨"java/lang/StringLatin1", "equals", "([B[B)Z"⟩
abbrev yB : ByteArray := jdk_43_method_13_code
theorem d0 : decode yB 0 = .ok (.aload_n 0, 1) := by decide +kernel
theorem d1 : decode yB 1 = .ok (.arraylength, 1) := by decide +kernel
theorem d2 : decode yB 2 = .ok (.aload_n 1, 1) := by decide +kernel
theorem d3 : decode yB 3 = .ok (.arraylength, 1) := by decide +kernel
theorem d4 : decode yB 4 = .ok (.if_icmp (.ne) 30, 3) := by decide +kernel
theorem d7 : decode yB 7 = .ok (.iconst 0, 1) := by decide +kernel
theorem d8 : decode yB 8 = .ok (.istore_n 2, 1) := by decide +kernel
theorem d9 : decode yB 9 = .ok (.iload_n 2, 1) := by decide +kernel
theorem d10 : decode yB 10 = .ok (.aload_n 0, 1) := by decide +kernel
theorem d11 : decode yB 11 = .ok (.arraylength, 1) := by decide +kernel
theorem d12 : decode yB 12 = .ok (.if_icmp (.ge) 20, 3) := by decide +kernel
theorem d15 : decode yB 15 = .ok (.aload_n 0, 1) := by decide +kernel
theorem d16 : decode yB 16 = .ok (.iload_n 2, 1) := by decide +kernel
theorem d17 : decode yB 17 = .ok (.baload, 1) := by decide +kernel
theorem d18 : decode yB 18 = .ok (.aload_n 1, 1) := by decide +kernel
theorem d19 : decode yB 19 = .ok (.iload_n 2, 1) := by decide +kernel
theorem d20 : decode yB 20 = .ok (.baload, 1) := by decide +kernel
theorem d21 : decode yB 21 = .ok (.if_icmp (.eq) 5, 3) := by decide +kernel
theorem d24 : decode yB 24 = .ok (.iconst 0, 1) := by decide +kernel
theorem d25 : decode yB 25 = .ok (.ireturn, 1) := by decide +kernel
theorem d26 : decode yB 26 = .ok (.iinc 2 1, 3) := by decide +kernel
theorem d29 : decode yB 29 = .ok (.goto (-20), 3) := by decide +kernel
theorem d32 : decode yB 32 = .ok (.iconst 1, 1) := by decide +kernel
theorem d33 : decode yB 33 = .ok (.ireturn, 1) := by decide +kernel
theorem d34 : decode yB 34 = .ok (.iconst 0, 1) := by decide +kernel
theorem d35 : decode yB 35 = .ok (.ireturn, 1) := by decide +kernel
def site : List Cond := []
def tab : Cond := tabOf yN yB 3 (some .boolean) site
def P (a : Addr) (A : Cell) (b : Addr) (B : Cell) (args : Array Value) (s : State) : Prop := args = #[.ref a, .ref b] ∧ XT.Arr .byte a A s ∧ Typed .byte A ∧ XT.Arr .byte b B s ∧ Typed .byte B
/-- whether two byte[] are equal, place for place -/
theorem law (l : Launch) (a : Addr) (A : Cell) (b : Addr) (B : Cell) : Law l yN 2 2 0 0 yB 3 (some .boolean) site (P a A b B) (Says01 (EqC A B)) [] 0 0 := by
  refine Law.of_walk (plainFor_of_name (by decide +kernel)) (by decide +kernel) (by decide +kernel) (by decide) (fun _ _ h => by rw [h.1]; rfl) (fun _ U U' hal hh h => ⟨h.1, h.2.1.mv hal hh, h.2.2.1, h.2.2.2.1.mv hal hh, h.2.2.2.2⟩) (fun r U U' V V' h1 hal h2 h => Says01.mv r U U' V V' h1 hal h2 h) ?_
  intro p e s m args below meth c s₁ X0 hexec hbytes hml hret hlk hnm hown hh0 W hP
  obtain ⟨rfl, hA, tA, hB, tB⟩ := hP
  have a31 := hA.2.2.2
  have b31 := hB.2.2.2
  have hA0 := hA.mv X0.warmed.alike hh0
  have hB0 := hB.mv X0.warmed.alike hh0
  have c1 : Steps p.tables e below (s₁.setTop (entryFrame m #[.ref a, .ref b] 3)) (s₁.setTop (mkF m 0 #[.val (.ref a), .val (.ref b), .unset] [])) := entry rfl
  have c2 : Steps p.tables e below (s₁.setTop (entryFrame m #[.ref a, .ref b] 3)) (s₁.setTop (mkF m 4 #[.val (.ref a), .val (.ref b), .unset] [.int (Int32.ofNat B.slots.size), .int (Int32.ofNat A.slots.size)])) := c1.trans (by
    refine XS.aloadN X0.here hexec rfl (hb hbytes d0) rfl rfl ?_
    refine X0.alen hexec hA0 rfl rfl (hb hbytes d1) ?_
    refine XS.aloadN X0.here hexec rfl (hb hbytes d2) rfl rfl ?_
    refine X0.alen hexec hB0 rfl rfl (hb hbytes d3) ?_
    exact Steps.refl _)
  by_cases hs : A.slots.size = B.slots.size
  · have c3 : Steps p.tables e below (s₁.setTop (entryFrame m #[.ref a, .ref b] 3)) (s₁.setTop (mkF m 9 #[.val (.ref a), .val (.ref b), .val (.int 0)] [])) := c2.trans (by
      refine XS.icmpNo X0.here hexec rfl (hb hbytes d4) rfl (ii_ne_f (by rw [hs])) ?_
      refine iconstV X0.here hexec rfl 0 (hb hbytes d7) (by decide) ?_
      refine XS.istoreN X0.here hexec rfl (hb hbytes d8) rfl rfl ?_
      exact Steps.refl _)
    have loop : ∀ (r i : Nat), i + r = A.slots.size → (∀ j, j < i → yv A j = yv B j) → Steps p.tables e below (s₁.setTop (entryFrame m #[.ref a, .ref b] 3)) (s₁.setTop (mkF m 9 #[.val (.ref a), .val (.ref b), .val (.int (Int32.ofNat i))] [])) → ∃ (pc : Nat) (Ls : Array Slot) (v : Int32), (pc = 25 ∨ pc = 33) ∧ ((v = 1 ∧ EqC A B) ∨ (v = 0 ∧ ¬ EqC A B)) ∧ Steps p.tables e below (s₁.setTop (entryFrame m #[.ref a, .ref b] 3)) (s₁.setTop (mkF m pc Ls [.int v])) := by
      intro r
      induction r with
      | zero =>
        intro i hi he cl
        exact ⟨33, _, 1, Or.inr rfl, Or.inl ⟨rfl, hs, fun j hj => he j (by omega)⟩, cl.trans (by
          refine XS.iloadN X0.here hexec rfl (hb hbytes d9) rfl ?_
          refine XS.aloadN X0.here hexec rfl (hb hbytes d10) rfl rfl ?_
          refine X0.alen hexec hA0 rfl rfl (hb hbytes d11) ?_
          refine XS.icmpYes X0.here hexec rfl (pc0 := 12) rfl (hb hbytes d12) rfl (ii_ge_t (nlt32 (by omega) (by omega))) (by decide) rfl ?_
          refine iconstV X0.here hexec rfl 1 (hb hbytes d32) (by decide) ?_
          exact Steps.refl _)⟩
      | succ r ih =>
        intro i hi he cl
        have c4 : Steps p.tables e below (s₁.setTop (entryFrame m #[.ref a, .ref b] 3)) (s₁.setTop (mkF m 21 #[.val (.ref a), .val (.ref b), .val (.int (Int32.ofNat i))] [.int (yv B i), .int (yv A i)])) := cl.trans (by
          refine XS.iloadN X0.here hexec rfl (hb hbytes d9) rfl ?_
          refine XS.aloadN X0.here hexec rfl (hb hbytes d10) rfl rfl ?_
          refine X0.alen hexec hA0 rfl rfl (hb hbytes d11) ?_
          refine XS.icmpNo X0.here hexec rfl (hb hbytes d12) rfl (ii_ge_f (lt32 (by omega) (by omega))) ?_
          refine XS.aloadN X0.here hexec rfl (hb hbytes d15) rfl rfl ?_
          refine XS.iloadN X0.here hexec rfl (hb hbytes d16) rfl ?_
          refine X0.aget hexec hA0 rfl (yv_get hA tA (i := i) (by omega)) rfl rfl (hb hbytes d17) ?_
          refine XS.aloadN X0.here hexec rfl (hb hbytes d18) rfl rfl ?_
          refine XS.iloadN X0.here hexec rfl (hb hbytes d19) rfl ?_
          refine X0.aget hexec hB0 rfl (yv_get hB tB (i := i) (by omega)) rfl rfl (hb hbytes d20) ?_
          exact Steps.refl _)
        by_cases hv : yv A i = yv B i
        · have c5 : Steps p.tables e below (s₁.setTop (entryFrame m #[.ref a, .ref b] 3)) (s₁.setTop (mkF m 9 #[.val (.ref a), .val (.ref b), .val (.int (Int32.ofNat i + 1))] [])) := c4.trans (by
            refine XS.icmpYes X0.here hexec rfl (pc0 := 21) rfl (hb hbytes d21) rfl (ii_eq_t hv) (by decide) rfl ?_
            refine iincV X0.here hexec rfl 1 (hb hbytes d26) (by decide) rfl rfl ?_
            refine XS.goto X0.here hexec rfl (pc0 := 29) rfl (hb hbytes d29) (by decide) rfl ?_
            exact Steps.refl _)
          rw [succ32] at c5
          exact ih (i + 1) (by omega) (fun j hj => by
            by_cases e : j = i
            · rw [e]; exact hv
            · exact he j (by omega)) c5
        · exact ⟨25, _, 0, Or.inl rfl, Or.inr ⟨rfl, fun q => hv (q.2 i (by omega))⟩, c4.trans (by
            refine XS.icmpNo X0.here hexec rfl (hb hbytes d21) rfl (ii_eq_f hv) ?_
            refine iconstV X0.here hexec rfl 0 (hb hbytes d24) (by decide) ?_
            exact Steps.refl _)⟩
    obtain ⟨pc, Ls, v, hpc, hv, cz⟩ := loop A.slots.size 0 (by omega) (fun j hj => absurd hj (Nat.not_lt_zero j)) c3
    have nv : narrow .boolean (.int v) = .int v := by rcases hv with ⟨rfl, -⟩ | ⟨rfl, -⟩ <;> rfl
    rcases hpc with rfl | rfl
    · exact ⟨s₁, some (.int v), _, _, _, X0, rfl, rfl, rfl, (fun h => by cases h), ⟨v, rfl, hh0, hv⟩, fun fs hl => cz.trans (X0.ireturnOut hexec hret nv (Or.inr (Or.inl rfl)) (hb hbytes d25) hl)⟩
    · exact ⟨s₁, some (.int v), _, _, _, X0, rfl, rfl, rfl, (fun h => by cases h), ⟨v, rfl, hh0, hv⟩, fun fs hl => cz.trans (X0.ireturnOut hexec hret nv (Or.inr (Or.inl rfl)) (hb hbytes d33) hl)⟩
  · have c3 : Steps p.tables e below (s₁.setTop (entryFrame m #[.ref a, .ref b] 3)) (s₁.setTop (mkF m 35 #[.val (.ref a), .val (.ref b), .unset] [.int 0])) := c2.trans (by
      refine XS.icmpYes X0.here hexec rfl (pc0 := 4) rfl (hb hbytes d4) rfl (ii_ne_t (ne32 a31 b31 hs)) (by decide) rfl ?_
      refine iconstV X0.here hexec rfl 0 (hb hbytes d34) (by decide) ?_
      exact Steps.refl _)
    exact ⟨s₁, some (.int 0), _, _, _, X0, rfl, rfl, rfl, (fun h => by cases h), ⟨0, rfl, hh0, Or.inr ⟨rfl, fun q => hs q.1⟩⟩, fun fs hl => c3.trans (X0.ireturnOut hexec hret rfl (Or.inr (Or.inl rfl)) (hb hbytes d35) hl)⟩
end LEq
theorem Cod.ty {cd : Int32} {n : Nat} {f : Nat → Int32} {V : Cell} (h : Cod cd n f V) : Typed .byte V := fun i v hv => by
  have hi : i < V.slots.size := (Array.getElem?_eq_some_iff.mp hv).1
  rcases h with ⟨-, k1, k2⟩ | ⟨-, k1, k2, -⟩
  · rw [(k2 i (by omega)).1] at hv; cases hv; exact fits_lo8 _
  · rcases Nat.mod_two_eq_zero_or_one i with e | e
    · obtain ⟨j, rfl⟩ : ∃ j, i = 2 * j := ⟨i / 2, by omega⟩
      rw [(k2 j (by omega)).1] at hv; cases hv; exact fits_lo8 _
    · obtain ⟨j, rfl⟩ : ∃ j, i = 2 * j + 1 := ⟨i / 2, by omega⟩
      rw [(k2 j (by omega)).2] at hv; cases hv; exact fits_lo8 _
/-- the same text -/
def SameT (n : Nat) (f : Nat → Int32) (k : Nat) (g : Nat → Int32) : Prop := n = k ∧ ∀ j, j < n → f j = g j
theorem lo8_inj {x y : Int32} (h0 : ¬ x < 0) (h1 : ¬ 255 < x) (k0 : ¬ y < 0) (k1 : ¬ 255 < y) (h : lo8 x = lo8 y) : x = y := by
  rw [← lo8_mask h0 h1, ← lo8_mask k0 k1, h]
/-- arrays coded by one coder are equal just where the texts are -/
theorem Cod.eqv {cd : Int32} {n k : Nat} {f g : Nat → Int32} {V V' : Cell} (h : Cod cd n f V) (h' : Cod cd k g V') (hf : ∀ j, j < n → ¬ f j < 0 ∧ ¬ 65535 < f j) (hg : ∀ j, j < k → ¬ g j < 0 ∧ ¬ 65535 < g j) : EqC V V' ↔ SameT n f k g := by
  have yvv : ∀ {W : Cell} {i : Nat} {x : Int32}, W.slots[i]? = some (.int x) → yv W i = x := fun q => by unfold yv; rw [q]
  rcases h with ⟨rfl, k1, k2⟩ | ⟨rfl, k1, k2, -⟩
  · rcases h' with ⟨-, m1, m2⟩ | ⟨e, -⟩
    · constructor
      · rintro ⟨e1, e2⟩
        refine ⟨by omega, fun j hj => ?_⟩
        have q := e2 j (by omega)
        rw [yvv (k2 j hj).1, yvv (m2 j (by omega)).1] at q
        exact lo8_inj (hf j hj).1 (k2 j hj).2 (hg j (by omega)).1 (m2 j (by omega)).2 q
      · rintro ⟨rfl, e2⟩
        refine ⟨by omega, fun j hj => ?_⟩
        rw [yvv (k2 j (by omega)).1, yvv (m2 j (by omega)).1, e2 j (by omega)]
    · exact absurd e (by decide)
  · rcases h' with ⟨e, -⟩ | ⟨-, m1, m2, -⟩
    · exact absurd e (by decide)
    · constructor
      · rintro ⟨e1, e2⟩
        refine ⟨by omega, fun j hj => ?_⟩
        have q1 := e2 (2 * j) (by omega)
        have q2 := e2 (2 * j + 1) (by omega)
        rw [yvv (k2 j hj).1, yvv (m2 j (by omega)).1] at q1
        rw [yvv (k2 j hj).2, yvv (m2 j (by omega)).2] at q2
        rw [← pair_says (hf j hj).1 (hf j hj).2, ← pair_says (hg j (by omega)).1 (hg j (by omega)).2, q1, q2]
      · rintro ⟨rfl, e2⟩
        refine ⟨by omega, fun i hi => ?_⟩
        rcases Nat.mod_two_eq_zero_or_one i with e | e
        · obtain ⟨j, rfl⟩ : ∃ j, i = 2 * j := ⟨i / 2, by omega⟩
          rw [yvv (k2 j (by omega)).1, yvv (m2 j (by omega)).1, e2 j (by omega)]
        · obtain ⟨j, rfl⟩ : ∃ j, i = 2 * j + 1 := ⟨i / 2, by omega⟩
          rw [yvv (k2 j (by omega)).2, yvv (m2 j (by omega)).2, e2 j (by omega)]
/-- two codings differ: so do the texts -/
theorem Cod.dif {cd cd' : Int32} {n k : Nat} {f g : Nat → Int32} {V V' : Cell} (h : Cod cd n f V) (h' : Cod cd' k g V') (hne : ¬ cd = cd') : ¬ SameT n f k g := by
  rintro ⟨rfl, e⟩
  rcases h with ⟨rfl, -, k2⟩ | ⟨rfl, -, -, j, hj, hw⟩
  · rcases h' with ⟨rfl, -⟩ | ⟨-, -, -, j, hj, hw⟩
    · exact hne rfl
    · exact (k2 j hj).2 (by rw [e j hj]; exact hw)
  · rcases h' with ⟨-, -, m2⟩ | ⟨rfl, -⟩
    · exact (m2 j hj).2 (by rw [← e j hj]; exact hw)
    · exact hne rfl
/-- an object of exactly C is an instance of C -/
theorem cinst {p : Program} {l : Launch} {e : Env} {R : Room} {s : State} {m : MethodId} {args : Array Value} {below : List Frame} {meth : Method} {c : Code} {T : State} {locs : List Loc} {cells slots : Nat} (X : Stand p l e R s m args below meth c T locs cells slots) (hexec : p.tables.exec = Jvm.exec) {own C : String} {index : Nat} (hown : s.vm.findClass own = some m.cls) (hlink : (Cond.classLink own index C).before args s = true) {a : Addr} (hE : Exact C a T)
    {g : JFrame} (hg : g.method = m) {rest : List Value} (hstack : g.stack = .ref a :: rest) (hdg : decode c.code g.pc = .ok (.instanceof index, 3)) :
    ∃ T', Stand p l e R s m args below meth c T' locs cells slots ∧ T'.heap = T.heap ∧ ∀ target, Steps p.tables e below (T'.setTop { g with pc := g.pc + 3, stack := .int 1 :: rest }) target → Steps p.tables e below (T.setTop g) target := by
  obtain ⟨cB, h1, D, h2, h3, h4⟩ := hE
  have h1' : s.vm.findClass C = some cB := by rw [← X.warmed.alike.findClass]; exact h1
  obtain ⟨vm', X', st⟩ := X.instanceofYes hexec hown hlink h2 h4 h1' (by rw [h3]; exact Jvm.Free.SB.assignable_self _ _) hg hstack hdg
  exact ⟨_, X', rfl, st⟩
theorem cself {p : Program} {l : Launch} {e : Env} {R : Room} {s : State} {m : MethodId} {args : Array Value} {below : List Frame} {meth : Method} {c : Code} {T : State} {locs : List Loc} {cells slots : Nat} (X : Stand p l e R s m args below meth c T locs cells slots) (hexec : p.tables.exec = Jvm.exec) {own C : String} {index : Nat} (hown : s.vm.findClass own = some m.cls) (hlink : (Cond.classLink own index C).before args s = true) {a : Addr} (hE : Exact C a T)
    {g : JFrame} (hg : g.method = m) {rest : List Value} (hstack : g.stack = .ref a :: rest) (hdg : decode c.code g.pc = .ok (.checkcast index, 3)) :
    ∃ T', Stand p l e R s m args below meth c T' locs cells slots ∧ T'.heap = T.heap ∧ ∀ target, Steps p.tables e below (T'.setTop { g with pc := g.pc + 3, stack := .ref a :: rest }) target → Steps p.tables e below (T.setTop g) target := by
  obtain ⟨cB, h1, D, h2, h3, h4⟩ := hE
  have h1' : s.vm.findClass C = some cB := by rw [← X.warmed.alike.findClass]; exact h1
  obtain ⟨vm', X', st⟩ := X.checkcastYes hexec hown hlink h2 h4 h1' (by rw [h3]; exact Jvm.Free.SB.assignable_self _ _) hg hstack hdg
  exact ⟨_, X', rfl, fun t h => st t (by rw [← hstack] at h; exact h)⟩
namespace SEq
def yN : MethodName := ⟨"java/lang/String", "equals", "(Ljava/lang/Object;)Z"⟩
abbrev yB : ByteArray := jdk_42_method_66_code
theorem d0 : decode yB 0 = .ok (.aload_n 0, 1) := by decide +kernel
theorem d1 : decode yB 1 = .ok (.aload_n 1, 1) := by decide +kernel
theorem d2 : decode yB 2 = .ok (.if_acmp (.ne) 5, 3) := by decide +kernel
theorem d5 : decode yB 5 = .ok (.iconst 1, 1) := by decide +kernel
theorem d6 : decode yB 6 = .ok (.ireturn, 1) := by decide +kernel
theorem d7 : decode yB 7 = .ok (.aload_n 1, 1) := by decide +kernel
theorem d8 : decode yB 8 = .ok (.instanceof 10, 3) := by decide +kernel
theorem d11 : decode yB 11 = .ok (.ifCond (.eq) 43, 3) := by decide +kernel
theorem d14 : decode yB 14 = .ok (.aload_n 1, 1) := by decide +kernel
theorem d15 : decode yB 15 = .ok (.checkcast 10, 3) := by decide +kernel
theorem d18 : decode yB 18 = .ok (.astore_n 2, 1) := by decide +kernel
theorem d19 : decode yB 19 = .ok (.getstatic 38, 3) := by decide +kernel
theorem d22 : decode yB 22 = .ok (.ifCond (.eq) 14, 3) := by decide +kernel
theorem d25 : decode yB 25 = .ok (.aload_n 0, 1) := by decide +kernel
theorem d26 : decode yB 26 = .ok (.getfield 15, 3) := by decide +kernel
theorem d29 : decode yB 29 = .ok (.aload_n 2, 1) := by decide +kernel
theorem d30 : decode yB 30 = .ok (.getfield 15, 3) := by decide +kernel
theorem d33 : decode yB 33 = .ok (.if_icmp (.ne) 21, 3) := by decide +kernel
theorem d36 : decode yB 36 = .ok (.aload_n 0, 1) := by decide +kernel
theorem d37 : decode yB 37 = .ok (.getfield 9, 3) := by decide +kernel
theorem d40 : decode yB 40 = .ok (.aload_n 2, 1) := by decide +kernel
theorem d41 : decode yB 41 = .ok (.getfield 9, 3) := by decide +kernel
theorem d44 : decode yB 44 = .ok (.invokestatic 541, 3) := by decide +kernel
theorem d47 : decode yB 47 = .ok (.ifCond (.eq) 7, 3) := by decide +kernel
theorem d50 : decode yB 50 = .ok (.iconst 1, 1) := by decide +kernel
theorem d51 : decode yB 51 = .ok (.goto 4, 3) := by decide +kernel
theorem d54 : decode yB 54 = .ok (.iconst 0, 1) := by decide +kernel
theorem d55 : decode yB 55 = .ok (.ireturn, 1) := by decide +kernel
def site : List Cond := [.classLink "java/lang/String" 10 "java/lang/String", .fieldLink "java/lang/String" 38 "java/lang/String" "COMPACT_STRINGS" "Z", .fieldLink "java/lang/String" 15 "java/lang/String" "coder" "B", .fieldLink "java/lang/String" 9 "java/lang/String" "value" "[B", LEq.tab] ++ staticW "java/lang/String" 541 LEq.yN
def tab : Cond := tabOf yN yB 3 (some .boolean) site
def P (x t : Addr) (V : Cell) (cd : Int32) (n : Nat) (f : Nat → Int32) (y t' : Addr) (V' : Cell) (cd' : Int32) (k : Nat) (g : Nat → Int32) (z : Int32) (args : Array Value) (s : State) : Prop := args = #[.ref x, .ref y] ∧ Txt x t V cd n f s ∧ Txt y t' V' cd' k g s ∧ StaticIs s "java/lang/String" "COMPACT_STRINGS" "Z" (.int z) ∧ ¬ z = 0
/-- equals(Object) of two Strings: whether the texts are the same -/
theorem law (l : Launch) (x t : Addr) (V : Cell) (cd : Int32) (n : Nat) (f : Nat → Int32) (y t' : Addr) (V' : Cell) (cd' : Int32) (k : Nat) (g : Nat → Int32) (z : Int32) : Law l yN 2 1 1 14 yB 3 (some .boolean) site (P x t V cd n f y t' V' cd' k g z) (Says01 (SameT n f k g)) [] 0 0 := by
  refine Law.of_walk (plainFor_of_name (by decide +kernel)) (by decide +kernel) (by decide +kernel) (by decide) (fun _ _ h => by rw [h.1]; rfl) (fun _ U U' hal hh h => ⟨h.1, h.2.1.mv hal hh, h.2.2.1.mv hal hh, h.2.2.2.1.there hal hh, h.2.2.2.2⟩) (fun r U U' V V' h1 hal h2 h => Says01.mv r U U' V V' h1 hal h2 h) ?_
  intro p e s m args below meth c s₁ X0 hexec hbytes hml hret hlk hnm hown hh0 W hP
  obtain ⟨rfl, hx, hy, s1, hz⟩ := hP
  have c1 : Steps p.tables e below (s₁.setTop (entryFrame m #[.ref x, .ref y] 3)) (s₁.setTop (mkF m 2 #[.val (.ref x), .val (.ref y), .unset] [.ref y, .ref x])) := Steps.trans (entry rfl) (by
    show Steps p.tables e below (s₁.setTop (mkF m 0 #[.val (.ref x), .val (.ref y), .unset] [])) _
    refine XS.aloadN X0.here hexec rfl (hb hbytes d0) rfl rfl ?_
    refine XS.aloadN X0.here hexec rfl (hb hbytes d1) rfl rfl ?_
    exact Steps.refl _)
  by_cases hxy : x = y
  · have c2 : Steps p.tables e below (s₁.setTop (entryFrame m #[.ref x, .ref y] 3)) (s₁.setTop (mkF m 6 #[.val (.ref x), .val (.ref y), .unset] [.int 1])) := c1.trans (by
      refine acmpNo X0.here hexec rfl (hb hbytes d2) rfl rfl rfl (by simp [acmp, hxy]) ?_
      refine iconstV X0.here hexec rfl 1 (hb hbytes d5) (by decide) ?_
      exact Steps.refl _)
    subst hxy
    have ec : cd = cd' := by
      obtain ⟨D, fd, a1, a2, a3⟩ := hx.2.2.1
      obtain ⟨D', fd', b1, b2, b3⟩ := hy.2.2.1
      cases a1.symm.trans b1
      obtain ⟨q1, q2, q3, q4⟩ := a2.1
      obtain ⟨r1, r2, r3, r4⟩ := b2.1
      cases q4.symm.trans r4
      cases a3.symm.trans b3; rfl
    have et : t = t' := by
      obtain ⟨D, fd, a1, a2, a3⟩ := hx.2.1
      obtain ⟨D', fd', b1, b2, b3⟩ := hy.2.1
      cases a1.symm.trans b1
      obtain ⟨q1, q2, q3, q4⟩ := a2.1
      obtain ⟨r1, r2, r3, r4⟩ := b2.1
      cases q4.symm.trans r4
      cases a3.symm.trans b3; rfl
    subst ec et
    have ev : V = V' := by cases hx.2.2.2.1.1.symm.trans hy.2.2.2.1.1; rfl
    subst ev
    have hs : SameT n f k g := (Cod.eqv hx.2.2.2.2.1 hy.2.2.2.2.1 hx.2.2.2.2.2 hy.2.2.2.2.2).mp ⟨rfl, fun _ _ => rfl⟩
    exact ⟨s₁, some (.int 1), _, _, _, X0, rfl, rfl, rfl, (fun h => by cases h), ⟨1, rfl, hh0, Or.inl ⟨rfl, hs⟩⟩, fun fs hl => c2.trans (X0.ireturnOut hexec hret rfl (Or.inr (Or.inl rfl)) (hb hbytes d6) hl)⟩
  · have c2 : Steps p.tables e below (s₁.setTop (entryFrame m #[.ref x, .ref y] 3)) (s₁.setTop (mkF m 8 #[.val (.ref x), .val (.ref y), .unset] [.ref y])) := c1.trans (by
      refine acmpYes X0.here hexec rfl (pc0 := 2) rfl (hb hbytes d2) rfl rfl rfl (by simp [acmp, hxy]) (by decide) rfl ?_
      refine XS.aloadN X0.here hexec rfl (hb hbytes d7) rfl rfl ?_
      exact Steps.refl _)
    obtain ⟨T3, X3, q3, st3⟩ := cinst X0 hexec hown (wk W (.classLink "java/lang/String" 10 "java/lang/String")) (hy.mv X0.warmed.alike hh0).1 (g := (mkF m 8 #[.val (.ref x), .val (.ref y), .unset] [.ref y])) rfl (rest := []) rfl (hb hbytes d8)
    have hh3 := q3.trans hh0
    have c4 : Steps p.tables e below (s₁.setTop (entryFrame m #[.ref x, .ref y] 3)) (T3.setTop (mkF m 15 #[.val (.ref x), .val (.ref y), .unset] [.ref y])) := (c2.trans (st3 _ (Steps.refl _))).trans (by
      refine XS.ifNo X3.here hexec rfl (hb hbytes d11) rfl (i0_eq_f (by decide)) ?_
      refine XS.aloadN X3.here hexec rfl (hb hbytes d14) rfl rfl ?_
      exact Steps.refl _)
    obtain ⟨T5, X5, q5, st5⟩ := cself X3 hexec hown (wk W (.classLink "java/lang/String" 10 "java/lang/String")) (hy.mv X3.warmed.alike hh3).1 (g := (mkF m 15 #[.val (.ref x), .val (.ref y), .unset] [.ref y])) rfl (rest := []) rfl (hb hbytes d15)
    have hh5 := q5.trans hh3
    have c6 : Steps p.tables e below (s₁.setTop (entryFrame m #[.ref x, .ref y] 3)) (T5.setTop (mkF m 19 #[.val (.ref x), .val (.ref y), .val (.ref y)] [])) := (c4.trans (st5 _ (Steps.refl _))).trans (by
      refine XS.astoreN X5.here hexec rfl (hb hbytes d18) rfl rfl rfl ?_
      exact Steps.refl _)
    obtain ⟨T7, X7, q7, st7⟩ := X5.sget hexec hown (wk W (.fieldLink "java/lang/String" 38 "java/lang/String" "COMPACT_STRINGS" "Z")) s1 (fun _ _ h => by rw [hh5]; exact h) (g := (mkF m 19 #[.val (.ref x), .val (.ref y), .val (.ref y)] [])) rfl (hb hbytes d19)
    have hh7 := q7.trans hh5
    have c8 : Steps p.tables e below (s₁.setTop (entryFrame m #[.ref x, .ref y] 3)) (T7.setTop (mkF m 26 #[.val (.ref x), .val (.ref y), .val (.ref y)] [.ref x])) := (c6.trans (st7 _ (Steps.refl _))).trans (by
      refine XS.ifNo X7.here hexec rfl (hb hbytes d22) rfl (i0_eq_f hz) ?_
      refine XS.aloadN X7.here hexec rfl (hb hbytes d25) rfl rfl ?_
      exact Steps.refl _)
    obtain ⟨T9, X9, q9, st9⟩ := X7.hget hexec hown (wk W (.fieldLink "java/lang/String" 15 "java/lang/String" "coder" "B")) (hx.mv X7.warmed.alike hh7).2.2.1 (g := (mkF m 26 #[.val (.ref x), .val (.ref y), .val (.ref y)] [.ref x])) rfl (rest := []) rfl (hb hbytes d26)
    have hh9 := q9.trans hh7
    have c10 : Steps p.tables e below (s₁.setTop (entryFrame m #[.ref x, .ref y] 3)) (T9.setTop (mkF m 30 #[.val (.ref x), .val (.ref y), .val (.ref y)] [.ref y, .int cd])) := (c8.trans (st9 _ (Steps.refl _))).trans (by
      refine XS.aloadN X9.here hexec rfl (hb hbytes d29) rfl rfl ?_
      exact Steps.refl _)
    obtain ⟨T11, X11, q11, st11⟩ := X9.hget hexec hown (wk W (.fieldLink "java/lang/String" 15 "java/lang/String" "coder" "B")) (hy.mv X9.warmed.alike hh9).2.2.1 (g := (mkF m 30 #[.val (.ref x), .val (.ref y), .val (.ref y)] [.ref y, .int cd])) rfl (rest := [.int cd]) rfl (hb hbytes d30)
    have hh11 := q11.trans hh9
    have c12 : Steps p.tables e below (s₁.setTop (entryFrame m #[.ref x, .ref y] 3)) (T11.setTop (mkF m 33 #[.val (.ref x), .val (.ref y), .val (.ref y)] [.int cd', .int cd])) := c10.trans (st11 _ (Steps.refl _))
    by_cases hcd : cd = cd'
    · subst hcd
      have c13 : Steps p.tables e below (s₁.setTop (entryFrame m #[.ref x, .ref y] 3)) (T11.setTop (mkF m 37 #[.val (.ref x), .val (.ref y), .val (.ref y)] [.ref x])) := c12.trans (by
        refine XS.icmpNo X11.here hexec rfl (hb hbytes d33) rfl (ii_ne_f rfl) ?_
        refine XS.aloadN X11.here hexec rfl (hb hbytes d36) rfl rfl ?_
        exact Steps.refl _)
      obtain ⟨T14, X14, q14, st14⟩ := X11.hget hexec hown (wk W (.fieldLink "java/lang/String" 9 "java/lang/String" "value" "[B")) (hx.mv X11.warmed.alike hh11).2.1 (g := (mkF m 37 #[.val (.ref x), .val (.ref y), .val (.ref y)] [.ref x])) rfl (rest := []) rfl (hb hbytes d37)
      have hh14 := q14.trans hh11
      have c15 : Steps p.tables e below (s₁.setTop (entryFrame m #[.ref x, .ref y] 3)) (T14.setTop (mkF m 41 #[.val (.ref x), .val (.ref y), .val (.ref y)] [.ref y, .ref t])) := (c13.trans (st14 _ (Steps.refl _))).trans (by
        refine XS.aloadN X14.here hexec rfl (hb hbytes d40) rfl rfl ?_
        exact Steps.refl _)
      obtain ⟨T16, X16, q16, st16⟩ := X14.hget hexec hown (wk W (.fieldLink "java/lang/String" 9 "java/lang/String" "value" "[B")) (hy.mv X14.warmed.alike hh14).2.1 (g := (mkF m 41 #[.val (.ref x), .val (.ref y), .val (.ref y)] [.ref y, .ref t])) rfl (rest := [.ref t]) rfl (hb hbytes d41)
      have hh16 := q16.trans hh14
      have c17 : Steps p.tables e below (s₁.setTop (entryFrame m #[.ref x, .ref y] 3)) (T16.setTop (mkF m 44 #[.val (.ref x), .val (.ref y), .val (.ref y)] [.ref t', .ref t])) := c15.trans (st16 _ (Steps.refl _))
      obtain ⟨v18, T18, X18, E18, g18⟩ := X16.callS hexec (LEq.law l t V t' V') hown (wks W (staticW "java/lang/String" 541 LEq.yN)) (wk W LEq.tab) (W := 0) (Nat.le_of_ble_eq_true rfl) (Nat.le_of_ble_eq_true rfl) (Nat.le_refl _) (Nat.le_refl _) (g := (mkF m 44 #[.val (.ref x), .val (.ref y), .val (.ref y)] [.ref t', .ref t])) rfl (by rw [hml]; rfl) c17 (argsL := [.ref t, .ref t']) (rest := []) rfl rfl (by show 2 * 0 + 0 ≤ _; decide) (hb hbytes d44) (⟨rfl, hx.2.2.2.1.mv X16.warmed.alike hh16, hx.2.2.2.2.1.ty, hy.2.2.2.1.mv X16.warmed.alike hh16, hy.2.2.2.2.1.ty⟩)
      obtain ⟨v, rfl, q18, hv⟩ := E18
      have iff := Cod.eqv hx.2.2.2.2.1 hy.2.2.2.2.1 hx.2.2.2.2.2 hy.2.2.2.2.2
      rcases hv with ⟨rfl, he⟩ | ⟨rfl, he⟩
      · have c19 : Steps p.tables e below (s₁.setTop (entryFrame m #[.ref x, .ref y] 3)) (T18.setTop (mkF m 55 #[.val (.ref x), .val (.ref y), .val (.ref y)] [.int 1])) := Steps.trans g18 (by
          refine XS.ifNo X18.here hexec rfl (hb hbytes d47) rfl (i0_eq_f (by decide)) ?_
          refine iconstV X18.here hexec rfl 1 (hb hbytes d50) (by decide) ?_
          refine XS.goto X18.here hexec rfl (pc0 := 51) rfl (hb hbytes d51) (by decide) rfl ?_
          exact Steps.refl _)
        exact ⟨T18, some (.int 1), _, _, _, X18, rfl, rfl, rfl, (fun h => by cases h), ⟨1, rfl, q18.trans hh16, Or.inl ⟨rfl, iff.mp he⟩⟩, fun fs hl => c19.trans (X18.ireturnOut hexec hret rfl (Or.inr (Or.inl rfl)) (hb hbytes d55) hl)⟩
      · have c19 : Steps p.tables e below (s₁.setTop (entryFrame m #[.ref x, .ref y] 3)) (T18.setTop (mkF m 55 #[.val (.ref x), .val (.ref y), .val (.ref y)] [.int 0])) := Steps.trans g18 (by
          refine XS.ifYes X18.here hexec rfl (pc0 := 47) rfl (hb hbytes d47) rfl (i0_eq_t rfl) (by decide) rfl ?_
          refine iconstV X18.here hexec rfl 0 (hb hbytes d54) (by decide) ?_
          exact Steps.refl _)
        exact ⟨T18, some (.int 0), _, _, _, X18, rfl, rfl, rfl, (fun h => by cases h), ⟨0, rfl, q18.trans hh16, Or.inr ⟨rfl, fun q => he (iff.mpr q)⟩⟩, fun fs hl => c19.trans (X18.ireturnOut hexec hret rfl (Or.inr (Or.inl rfl)) (hb hbytes d55) hl)⟩
    · have c13 : Steps p.tables e below (s₁.setTop (entryFrame m #[.ref x, .ref y] 3)) (T11.setTop (mkF m 55 #[.val (.ref x), .val (.ref y), .val (.ref y)] [.int 0])) := c12.trans (by
        refine XS.icmpYes X11.here hexec rfl (pc0 := 33) rfl (hb hbytes d33) rfl (ii_ne_t hcd) (by decide) rfl ?_
        refine iconstV X11.here hexec rfl 0 (hb hbytes d54) (by decide) ?_
        exact Steps.refl _)
      exact ⟨T11, some (.int 0), _, _, _, X11, rfl, rfl, rfl, (fun h => by cases h), ⟨0, rfl, hh11, Or.inr ⟨rfl, Cod.dif hx.2.2.2.2.1 hy.2.2.2.2.1 hcd⟩⟩, fun fs hl => c13.trans (X11.ireturnOut hexec hret rfl (Or.inr (Or.inl rfl)) (hb hbytes d55) hl)⟩
theorem pays {l : Launch} {R : Room} {p : Program} {e : Env} {below : List Frame} {s : State} {sargs : Array Value} {len W : Nat} (x t : Addr) (V : Cell) (cd : Int32) (n : Nat) (f : Nat → Int32) (y t' : Addr) (V' : Cell) (cd' : Int32) (k : Nat) (g : Nat → Int32) (z : Int32) (htab : tab.before sargs s = true) (hfr : 2 ≤ R.frames) (hlo : W + 28 ≤ R.locals) :
    Back l R p e below s sargs yN len W (fun A₁ a₁ => A₁.cells + 0 ≤ R.cells ∧ A₁.slots + 0 ≤ R.slots ∧ P x t V cd n f y t' V' cd' k g z a₁ A₁.U) (fun A₁ _ v₁ B₁ => Says01 (SameT n f k g) v₁ A₁.U B₁.U ∧ B₁.locs = A₁.locs ++ [] ∧ B₁.cells = A₁.cells + 0 ∧ B₁.slots = A₁.slots + 0) :=
  (law l x t V cd n f y t' V' cd' k g z).pays htab hfr (by omega)
end SEq
end StrChars
namespace StrChars.Road
open Jvm Sem ClassFile Op Lib Jvm.Stand Jvm.Free Jvm.Free.XT
open Jvm.Lib.Cold (StaticIs)
/-- the words of String.equals(Object) -/
abbrev wordsEq : List Jvm.Cond := [.code SEq.yN SEq.yB 3 (some .boolean), .initialized ST, .classLink ST 10 ST, .fieldLink ST 38 ST "COMPACT_STRINGS" "Z", .fieldLink ST 15 ST "coder" "B", .fieldLink ST 9 ST "value" "[B", .methodLink ST 541 LEq.yN, .static LEq.yN, .code LEq.yN LEq.yB 3 (some .boolean), .initialized "java/lang/StringLatin1"]
theorem tabEq_of {a : Array Value} {s : State} (h : ∀ w ∈ wordsEq, w.before a s = true) : SEq.tab.before a s = true := by
  have hl : LEq.tab.before a s = true := unparts (wk h (.code LEq.yN LEq.yB 3 (some .boolean))) (wks h (.initialized LEq.yN.cls :: LEq.site))
  have q := consq hl h
  exact unparts (wk q (.code SEq.yN SEq.yB 3 (some .boolean))) (wks q (.initialized SEq.yN.cls :: SEq.site))
theorem movedEq {Z s : State} {a0 args : Array Value} (hZ : Z.Warmed39 s.vm) (hw : ∀ d ∈ wordsEq, d.before a0 Z = true) : ∀ d ∈ wordsEq, d.before args s = true := fun d hd => by
  have t : ∀ d ∈ wordsEq, (d.onTables && d.keepsFace) = true := by decide +kernel
  exact RoadKit.mv hZ (hw d hd) (t d hd)
/-- the road's facts of a String, as the laws ask it -/
theorem txt_of {Z U : State} {a0 : Array Value} {kI : Nat} (wi : (Jvm.Cond.instantiable ST kI).before a0 Z = true) (al : Z.vm.Alike U.vm) {x t : Addr} {kb : ClassId} {cs : List Int32} {cd N2 : Int32} {vs : List Value} (E : RoadKit.Exa Z U.heap x ST) (V : RoadKit.Fld Z U.heap x ST "value" "[B" (.ref t)) (C : RoadKit.Fld Z U.heap x ST "coder" "B" (.int cd)) (K : RoadKit.Arv Z U.heap t kb .byte N2 vs (.int 0)) (hc : CodA cs cd N2 vs) (hb : ∀ c ∈ cs, ¬ c < 0 ∧ ¬ (65535 : Int32) < c) (l2 : cs.length ≤ 4000) :
    ∃ A, Txt x t A cd cs.length (fun j => cs.getD j 0) U := by
  obtain ⟨A, K1, K2, K3, K4, K5, K6⟩ := K
  have hcod := hc.cod (by omega) K3 K5
  obtain ⟨D, fV, fC, hB, F1, F2, g1, g2, -, -⟩ := strObj wi al E V C
  exact ⟨A, ⟨_, hB.2.2.1, D, hB.1, rfl, by cases q : D.vm <;> first | rfl | exact absurd q (hB.2.1.2 _)⟩, Has.of hB F1 g1, Has.of hB F2 g2, ⟨K1.1, State.isArrayOf_alike al K1.2.1, K1.2.2, by rcases hcod with ⟨-, q, -⟩ | ⟨-, q, -⟩ <;> omega⟩, hcod, fun j hj => by
    have e : cs.getD j 0 = cs[j] := by simp [List.getD_eq_getElem?_getD, hj]
    show ¬ cs.getD j 0 < 0 ∧ ¬ 65535 < cs.getD j 0
    rw [e]; exact hb _ (List.getElem_mem _)⟩
theorem same_list (cs ds : List Int32) : SameT cs.length (fun j => cs.getD j 0) ds.length (fun j => ds.getD j 0) ↔ cs = ds := by
  constructor
  · rintro ⟨e, q⟩
    refine List.ext_getElem e fun j h1 h2 => ?_
    have := q j h1
    simpa [List.getD_eq_getElem?_getD, h1, h2] using this
  · rintro rfl
    exact ⟨rfl, fun _ _ => rfl⟩
/-- **equals(Object) OF TWO SUCH STRINGS**: 1 just where the chars are the same -/
theorem eqW {p : Program} {l : Launch} {e : Env} {R : Room} {s : State} {args : Array Value} {below : List Frame} {len W : Nat} {Z : State} {a0 : Array Value} {h : Heap} (hZ : Z.Warmed39 s.vm) (hw : ∀ d ∈ wordsEq, d.before a0 Z = true) {kI : Nat} (wi : (Jvm.Cond.instantiable ST kI).before a0 Z = true)
    {x t : Addr} {kb : ClassId} {cs : List Int32} {cd N2 : Int32} {vs : List Value} (E : RoadKit.Exa Z h x ST) (V : RoadKit.Fld Z h x ST "value" "[B" (.ref t)) (C : RoadKit.Fld Z h x ST "coder" "B" (.int cd)) (K : RoadKit.Arv Z h t kb .byte N2 vs (.int 0)) (hc : CodA cs cd N2 vs) (hb : ∀ c ∈ cs, ¬ c < 0 ∧ ¬ (65535 : Int32) < c) (l2 : cs.length ≤ 4000)
    {y t' : Addr} {kb' : ClassId} {ds : List Int32} {cd' N2' : Int32} {vs' : List Value} (E' : RoadKit.Exa Z h y ST) (V' : RoadKit.Fld Z h y ST "value" "[B" (.ref t')) (C' : RoadKit.Fld Z h y ST "coder" "B" (.int cd')) (K' : RoadKit.Arv Z h t' kb' .byte N2' vs' (.int 0)) (hc' : CodA ds cd' N2' vs') (hb' : ∀ c ∈ ds, ¬ c < 0 ∧ ¬ (65535 : Int32) < c) (l2' : ds.length ≤ 4000)
    {z : Int32} (S : RoadKit.Sta Z h ST "COMPACT_STRINGS" "Z" (.int z)) (hz : ¬ z = 0) (hfr : 2 ≤ R.frames) (hlo : W + 28 ≤ R.locals) :
    Back l R p e below s args (⟨"java/lang/String", "equals", "(Ljava/lang/Object;)Z"⟩ : MethodName) len W (fun P a => a = #[.ref x, .ref y] ∧ P.U.heap = h ∧ P.cells + 0 ≤ R.cells ∧ P.slots + 0 ≤ R.slots)
      (fun P _ v B => ∃ L, (((v = some (.int 1) ∧ cs = ds) ∨ (v = some (.int 0) ∧ ¬ cs = ds)) ∧ L = [] ∧ B.U.heap = h) ∧ B.locs = P.locs ++ L ∧ B.cells = P.cells + 0 ∧ B.slots = P.slots + 0) := by
  intro m meth c P g ig mk a X hg hsize hdg hW hn hp'
  obtain ⟨rfl, rfl, r1, r2⟩ := hp'
  have al : Z.vm.Alike P.U.vm := hZ.alike.trans X.warmed.alike
  obtain ⟨A, hx⟩ := txt_of wi al E V C K hc hb l2
  obtain ⟨A', hy⟩ := txt_of wi al E' V' C' K' hc' hb' l2'
  obtain ⟨v, B, X', ⟨⟨w, hv, hh, hq⟩, hl, hk, hs⟩, st⟩ := SEq.pays x t A cd cs.length (fun j => cs.getD j 0) y t' A' cd' ds.length (fun j => ds.getD j 0) z (tabEq_of (movedEq hZ hw)) hfr hlo m meth c P g ig mk _ X hg hsize hdg hW hn ⟨r1, r2, rfl, hx, hy, sta_is al S, hz⟩
  refine ⟨v, B, X', ⟨[], ⟨?_, rfl, hh⟩, hl, hk, hs⟩, st⟩
  rcases hq with ⟨rfl, q⟩ | ⟨rfl, q⟩
  · exact Or.inl ⟨hv, (same_list cs ds).mp q⟩
  · exact Or.inr ⟨hv, fun e => q ((same_list cs ds).mpr e)⟩
end StrChars.Road
namespace StrChars
open Jvm Sem ClassFile Op Lib Jvm.Stand Jvm.Free.XT Jvm.Free.ALB Jvm.Free.JM Jvm.Free
open Jvm.Lib.Cold (StaticIs)
namespace ChN
def yN : MethodName := ⟨"java/lang/String", "charAt", "(I)C"⟩
abbrev yB : ByteArray := jdk_42_method_56_code
theorem d0 : decode yB 0 = .ok (.aload_n 0, 1) := by decide +kernel
theorem d1 : decode yB 1 = .ok (.invokevirtual 492, 3) := by decide +kernel
theorem d4 : decode yB 4 = .ok (.ifCond (.eq) 12, 3) := by decide +kernel
theorem d7 : decode yB 7 = .ok (.aload_n 0, 1) := by decide +kernel
theorem d8 : decode yB 8 = .ok (.getfield 9, 3) := by decide +kernel
theorem d11 : decode yB 11 = .ok (.iload_n 1, 1) := by decide +kernel
theorem d12 : decode yB 12 = .ok (.invokestatic 495, 3) := by decide +kernel
theorem d15 : decode yB 15 = .ok (.ireturn, 1) := by decide +kernel
def site : List Cond := [.fieldLink "java/lang/String" 9 "java/lang/String" "value" "[B", IsL.tab, LChA.tab] ++ virtW "java/lang/String" 492 "java/lang/String" IsL.yN IsL.yN ++ staticW "java/lang/String" 495 LChA.yN
def tab : Cond := tabOf yN yB 2 (some .char) site
def P (x t : Addr) (V : Cell) (n : Nat) (f : Nat → Int32) (z : Int32) (fm : Value) (i : Nat) (args : Array Value) (s : State) : Prop := args = #[.ref x, .int (Int32.ofNat i)] ∧ Txt x t V 0 n f s ∧ i < n ∧ StaticIs s "java/lang/String" "COMPACT_STRINGS" "Z" (.int z) ∧ ¬ z = 0 ∧ StaticIs s "jdk/internal/util/Preconditions" "SIOOBE_FORMATTER" "Ljava/util/function/BiFunction;" fm ∧ fm.isRef = true
def E (f : Nat → Int32) (i : Nat) (r : Option Value) (s u : State) : Prop := XT.PureE (some (.int (f i))) r s u
/-- charAt(i) of a Latin-1 String of n chars, i < n: f i -/
theorem law (l : Launch) (x t : Addr) (V : Cell) (n : Nat) (f : Nat → Int32) (z : Int32) (fm : Value) (i : Nat) : Law l yN 2 1 3 40 yB 2 (some .char) site (P x t V n f z fm i) (E f i) [] 0 0 := by
  refine Law.of_walk (plainFor_of_name (by decide +kernel)) (by decide +kernel) (by decide +kernel) (by decide) (fun _ _ h => by rw [h.1]; rfl) (fun _ U U' hal hh h => ⟨h.1, h.2.1.mv hal hh, h.2.2.1, h.2.2.2.1.there hal hh, h.2.2.2.2.1, h.2.2.2.2.2.1.there hal hh, h.2.2.2.2.2.2⟩) (fun r U U' V V' h1 hal h2 h => XT.PureE.mv r U U' V V' h1 hal h2 h) ?_
  intro p e s m args below meth c s₁ X0 hexec hbytes hml hret hlk hnm hown hh0 W hP
  obtain ⟨rfl, hx, hi, s1, hz, s3, rf⟩ := hP
  have v31 := hx.2.2.2.1.2.2.2
  have hr := hx.2.2.2.2.2 i hi
  have hx0 := hx.mv X0.warmed.alike hh0
  have c1 : Steps p.tables e below (s₁.setTop (entryFrame m #[.ref x, .int (Int32.ofNat i)] 2)) (s₁.setTop (mkF m 1 #[.val (.ref x), .val (.int (Int32.ofNat i))] [.ref x])) := Steps.trans (entry rfl) (by
    show Steps p.tables e below (s₁.setTop (mkF m 0 #[.val (.ref x), .val (.int (Int32.ofNat i))] [])) _
    refine XS.aloadN X0.here hexec rfl (hb hbytes d0) rfl rfl ?_
    exact Steps.refl _)
  obtain ⟨v2, T2, X2, E2, g2⟩ := X0.callV hexec (IsL.law l x 0 z) hown (wks W (virtW "java/lang/String" 492 "java/lang/String" IsL.yN IsL.yN)) rfl (by decide) (wk W IsL.tab) (W := 0) (Nat.le_of_ble_eq_true rfl) (Nat.le_of_ble_eq_true rfl) (Nat.le_refl _) (Nat.le_refl _) (hx0.1.fc X0.warmed.alike) hx0.1.is (g := (mkF m 1 #[.val (.ref x), .val (.int (Int32.ofNat i))] [.ref x])) rfl (by rw [hml]; rfl) c1 (argsL := []) (rest := []) rfl rfl (by show 2 * 0 + 0 ≤ _; decide) (hb hbytes d1) (⟨rfl, hx0.2.2.1, hx.2.2.2.2.1.cd, s1.there X0.warmed.alike hh0, hz⟩)
  obtain ⟨rfl, q2⟩ := E2
  have hh2 := q2.trans hh0
  have hx2 := hx.mv X2.warmed.alike hh2
  obtain ⟨-, k1, k2⟩ | ⟨k0, -⟩ := hx.2.2.2.2.1
  · have c3 : Steps p.tables e below (s₁.setTop (entryFrame m #[.ref x, .int (Int32.ofNat i)] 2)) (T2.setTop (mkF m 8 #[.val (.ref x), .val (.int (Int32.ofNat i))] [.ref x])) := Steps.trans g2 (by
      refine XS.ifNo X2.here hexec rfl (hb hbytes d4) rfl (i0_eq_f (by decide)) ?_
      refine XS.aloadN X2.here hexec rfl (hb hbytes d7) rfl rfl ?_
      exact Steps.refl _)
    obtain ⟨T4, X4, q4, st4⟩ := X2.hget hexec hown (wk W (.fieldLink "java/lang/String" 9 "java/lang/String" "value" "[B")) hx2.2.1 (g := (mkF m 8 #[.val (.ref x), .val (.int (Int32.ofNat i))] [.ref x])) rfl (rest := []) rfl (hb hbytes d8)
    have hh4 := q4.trans hh2
    have c5 : Steps p.tables e below (s₁.setTop (entryFrame m #[.ref x, .int (Int32.ofNat i)] 2)) (T4.setTop (mkF m 12 #[.val (.ref x), .val (.int (Int32.ofNat i))] [.int (Int32.ofNat i), .ref t])) := (c3.trans (st4 _ (Steps.refl _))).trans (by
      refine XS.iloadN X4.here hexec rfl (hb hbytes d11) rfl ?_
      exact Steps.refl _)
    obtain ⟨v6, T6, X6, E6, g6⟩ := X4.callS hexec (LChA.law l t V i (lo8 (f i)) fm) hown (wks W (staticW "java/lang/String" 495 LChA.yN)) (wk W LChA.tab) (W := 0) (Nat.le_of_ble_eq_true rfl) (Nat.le_of_ble_eq_true rfl) (Nat.le_refl _) (Nat.le_refl _) (g := (mkF m 12 #[.val (.ref x), .val (.int (Int32.ofNat i))] [.int (Int32.ofNat i), .ref t])) rfl (by rw [hml]; rfl) c5 (argsL := [.ref t, .int (Int32.ofNat i)]) (rest := []) rfl rfl (by show 2 * 0 + 0 ≤ _; decide) (hb hbytes d12) (⟨rfl, hx.2.2.2.1.mv X4.warmed.alike hh4, (k2 i hi).1, s3.there X4.warmed.alike hh4, rf⟩)
    obtain ⟨rfl, q6⟩ := E6
    rw [chr8_lo8 hr.1 (k2 i hi).2] at g6
    exact ⟨T6, some (.int (f i)), _, _, _, X6, rfl, rfl, rfl, (fun h => by cases h), ⟨rfl, q6.trans hh4⟩, fun fs hl => Steps.trans g6 (X6.ireturnOut hexec hret (narrow_ch hr.1 hr.2) (Or.inr (Or.inr (Or.inr (Or.inl rfl)))) (hb hbytes d15) hl)⟩
  · exact absurd k0 (by decide)
theorem pays {l : Launch} {R : Room} {p : Program} {e : Env} {below : List Frame} {s : State} {sargs : Array Value} {len W : Nat} (x t : Addr) (V : Cell) (n : Nat) (f : Nat → Int32) (z : Int32) (fm : Value) (i : Nat) (htab : tab.before sargs s = true) (hfr : 4 ≤ R.frames) (hlo : W + 53 ≤ R.locals) :
    Back l R p e below s sargs yN len W (fun A₁ a₁ => A₁.cells + 0 ≤ R.cells ∧ A₁.slots + 0 ≤ R.slots ∧ P x t V n f z fm i a₁ A₁.U) (fun A₁ _ v₁ B₁ => E f i v₁ A₁.U B₁.U ∧ B₁.locs = A₁.locs ++ [] ∧ B₁.cells = A₁.cells + 0 ∧ B₁.slots = A₁.slots + 0) :=
  (law l x t V n f z fm i).pays htab hfr (by omega)
end ChN
end StrChars
namespace StrChars.Road
open Jvm Sem ClassFile Op Lib Jvm.Stand Jvm.Free Jvm.Free.XT
open Jvm.Lib.Cold (StaticIs)
/-- the words of String.charAt(int), the Latin-1 road alone -/
abbrev wordsChN : List Jvm.Cond := [.code ChN.yN ChN.yB 2 (some .char), .initialized ST, .fieldLink ST 9 ST "value" "[B", .fieldLink ST 38 ST "COMPACT_STRINGS" "Z", .fieldLink ST 15 ST "coder" "B", .code IsL.yN IsL.yB 1 (some .boolean), .methodLink ST 492 IsL.yN, .declares IsL.yN, .selects ST IsL.yN IsL.yN, .instanceMethod IsL.yN,
  .methodLink ST 495 LChA.yN, .static LChA.yN, .code LChA.yN LChA.yB 2 (some .char), .initialized "java/lang/StringLatin1", .methodLink "java/lang/StringLatin1" 9 JO.Str_checkIndex.yN, .static JO.Str_checkIndex.yN, .code JO.Str_checkIndex.yN JO.Str_checkIndex.yB 2 none,
  .fieldLink ST 1053 "jdk/internal/util/Preconditions" "SIOOBE_FORMATTER" "Ljava/util/function/BiFunction;", .methodLink ST 1059 JC.PreCheck.yN, .static JC.PreCheck.yN, .code JC.PreCheck.yN JC.PreCheck.yB 3 (some .int), .initialized "jdk/internal/util/Preconditions"]
theorem tabChN_of {a : Array Value} {s : State} (h : ∀ w ∈ wordsChN, w.before a s = true) : ChN.tab.before a s = true := by
  have hp : JC.PreCheck.tab.before a s = true := unparts (wk h (.code JC.PreCheck.yN JC.PreCheck.yB 3 (some .int))) (wks h (.initialized JC.PreCheck.yN.cls :: JC.PreCheck.site))
  have qk := consq hp h
  have hk : JO.Str_checkIndex.tab.before a s = true := unparts (wk qk (.code JO.Str_checkIndex.yN JO.Str_checkIndex.yB 2 none)) (wks qk (.initialized JO.Str_checkIndex.yN.cls :: JO.Str_checkIndex.site))
  have ql := consq hk h
  have hl : LChA.tab.before a s = true := unparts (wk ql (.code LChA.yN LChA.yB 2 (some .char))) (wks ql (.initialized LChA.yN.cls :: LChA.site))
  have hi : IsL.tab.before a s = true := unparts (wk h (.code IsL.yN IsL.yB 1 (some .boolean))) (wks h (.initialized IsL.yN.cls :: IsL.site))
  have q := consq hi (consq hl h)
  exact unparts (wk q (.code ChN.yN ChN.yB 2 (some .char))) (wks q (.initialized ChN.yN.cls :: ChN.site))
theorem movedChN {Z s : State} {a0 args : Array Value} (hZ : Z.Warmed39 s.vm) (hw : ∀ d ∈ wordsChN, d.before a0 Z = true) : ∀ d ∈ wordsChN, d.before args s = true := fun d hd => by
  have t : ∀ d ∈ wordsChN, (d.onTables && d.keepsFace) = true := by decide +kernel
  exact RoadKit.mv hZ (hw d hd) (t d hd)
/-- **charAt(i) OF A LATIN-1 STRING**, i < n: the char -/
theorem chN {p : Program} {l : Launch} {e : Env} {R : Room} {s : State} {args : Array Value} {below : List Frame} {len W : Nat} {Z : State} {a0 : Array Value} {h : Heap} (hZ : Z.Warmed39 s.vm) (hw : ∀ d ∈ wordsChN, d.before a0 Z = true) {kI : Nat} (wi : (Jvm.Cond.instantiable ST kI).before a0 Z = true)
    {x t : Addr} {kb : ClassId} {cs : List Int32} {N2 z : Int32} {vs : List Value} {fm : Value} {i : Nat} {j : Int32} (E : RoadKit.Exa Z h x ST) (V : RoadKit.Fld Z h x ST "value" "[B" (.ref t)) (C : RoadKit.Fld Z h x ST "coder" "B" (.int 0)) (K : RoadKit.Arv Z h t kb .byte N2 vs (.int 0)) (hc : CodA cs 0 N2 vs) (hb : ∀ c ∈ cs, ¬ c < 0 ∧ ¬ (65535 : Int32) < c)
    (S : RoadKit.Sta Z h ST "COMPACT_STRINGS" "Z" (.int z)) (hz : ¬ z = 0) (F : RoadKit.Sta Z h "jdk/internal/util/Preconditions" "SIOOBE_FORMATTER" "Ljava/util/function/BiFunction;" fm) (rf : fm.isRef = true) (l2 : cs.length ≤ 4000) (hi : i < cs.length) (hj : j = Int32.ofNat i) (hfr : 4 ≤ R.frames) (hlo : W + 53 ≤ R.locals) :
    Back l R p e below s args (⟨"java/lang/String", "charAt", "(I)C"⟩ : MethodName) len W (fun P a => a = #[.ref x, .int j] ∧ P.U.heap = h ∧ P.cells + 0 ≤ R.cells ∧ P.slots + 0 ≤ R.slots)
      (fun P _ v B => ∃ L, (v = some (.int (cs.getD i 0)) ∧ L = [] ∧ B.U.heap = h) ∧ B.locs = P.locs ++ L ∧ B.cells = P.cells + 0 ∧ B.slots = P.slots + 0) := by
  subst hj
  intro m meth c P g ig mk a X hg hsize hdg hW hn hp'
  obtain ⟨rfl, rfl, r1, r2⟩ := hp'
  have al : Z.vm.Alike P.U.vm := hZ.alike.trans X.warmed.alike
  obtain ⟨A, hx⟩ := txt_of wi al E V C K hc hb l2
  obtain ⟨v, B, X', ⟨⟨hv, hh⟩, hl, hk, hs⟩, st⟩ := ChN.pays x t A cs.length (fun j => cs.getD j 0) z fm i (tabChN_of (movedChN hZ hw)) hfr hlo m meth c P g ig mk _ X hg hsize hdg hW hn ⟨r1, r2, rfl, hx, hi, sta_is al S, hz, sta_is al F, rf⟩
  exact ⟨v, B, X', ⟨[], ⟨hv, rfl, hh⟩, hl, hk, hs⟩, st⟩
/-- what backV says of its String, as the contracts of this text ask it: cs's low bytes, coder 0 -/
theorem codOf {cs : List Int32} {n : Nat} (hn : cs.length = n) (hb : ∀ c ∈ cs, ¬ 255 < c) : CodA cs 0 (Int32.ofNat n) ((cs.map lo8).map Value.int) := Or.inl ⟨rfl, by rw [hn], by simp [List.map_map, Function.comp_def], hb⟩
end StrChars.Road
end Jvm.Pilot.@@N@@
namespace Jvm.Pilot.@@N@@
open Jvm Jvm.ClassFile Sem Op Lib Jvm.Free Jvm.Stand Jvm.LawKit Jvm.RoadKit Bundle Jvm.Pilot.@@N@@.Jvm.D
theorem pd_0 : parseMethodDescriptor "(Ljava/lang/Object;)Z" = some ⟨[(.object "java/lang/Object")], some .boolean⟩ := by decide +kernel
theorem pd_1 : parseMethodDescriptor "([C)V" = some ⟨[(.array .char)], none⟩ := by decide +kernel
theorem pd_2 : parseMethodDescriptor "([CIILjava/lang/Void;)V" = some ⟨[(.array .char), .int, .int, (.object "java/lang/Void")], none⟩ := by decide +kernel
theorem pd_3 : parseMethodDescriptor "(I)C" = some ⟨[.int], some .char⟩ := by decide +kernel
theorem pd_4 : parseMethodDescriptor "(Ljava/lang/String;)Z" = some ⟨[(.object "java/lang/String")], some .boolean⟩ := by decide +kernel
abbrev own_EL : List (String × Nat) := consts_1
def own_VL : List Int32 := [45, 45, 118, 101, 114, 98, 111, 115, 101]
def own_VS : List Int32 := [45, 118]
def own_sw (cs : List Int32) : Int32 := if cs = own_VL then 1 else if cs = own_VS then 1 else 0
theorem own_ke {h h' : Heap} (K : Keep h h' []) : Ext h h' := ⟨K.1, fun a c q => K.2.1 a c q (by simp)⟩
theorem own_ib (x : Int32) (k : Nat) (hk : k ≤ 31) (z p : Int32) (hz : z.toInt = k ∧ 0 < k) (hp : p = (x &&& (2147483647 : Int32)) % z) : ¬ p < 0 ∧ p.toNatClampNeg < k ∧ p = Int32.ofNat p.toNatClampNeg := by
  have e1 : (x &&& (2147483647 : Int32)).toInt = x.toInt % (2 ^ 31 : Nat) := c_mask x 2147483647 31 (by decide) (by decide)
  have e6 := (c_irem (x &&& (2147483647 : Int32)) z k hz.1).1 (by omega)
  rw [← hp] at e6
  have t0 : (0 : Int32).toInt = 0 := rfl
  have h1 := Int.emod_nonneg (x &&& (2147483647 : Int32)).toInt (by omega : (k : Int) ≠ 0)
  have h2 := Int.emod_lt_of_pos (x &&& (2147483647 : Int32)).toInt (by omega : (0 : Int) < k)
  have n0 : ¬ p < 0 := by rw [Int32.lt_iff_toInt_lt, t0]; omega
  refine ⟨n0, by unfold Int32.toNatClampNeg; omega, ?_⟩
  exact (back32 n0).1.symm
theorem own_ch (x c : Int32) (hc : c = (x &&& (255 : Int32)).toUInt32.toUInt16.toUInt32.toInt32) : (¬ c < 0 ∧ ¬ (255 : Int32) < c) ∧ nar .char c = c := by
  rw [i2c_mask] at hc
  have e1 := c_mask x 255 8 (by decide) (by decide)
  have t0 : (0 : Int32).toInt = 0 := rfl
  have t255 : (255 : Int32).toInt = 255 := rfl
  subst hc
  refine ⟨⟨by rw [Int32.lt_iff_toInt_lt, t0]; omega, by rw [Int32.lt_iff_toInt_lt, t255]; omega⟩, ?_⟩
  exact i2c_mask x
theorem own_one {c : Int32} (h : ¬ c < 0 ∧ ¬ (255 : Int32) < c) : ∀ d ∈ ([c] : List Int32), ¬ d < 0 ∧ ¬ (255 : Int32) < d := fun d hd => by cases List.mem_singleton.mp hd; exact h
theorem own_set {cs : List Int32} {i : Nat} {c : Int32} (h : ∀ d ∈ cs, ¬ d < 0 ∧ ¬ (255 : Int32) < d) (hc : ¬ c < 0 ∧ ¬ (255 : Int32) < c) : ∀ d ∈ cs.set i c, ¬ d < 0 ∧ ¬ (255 : Int32) < d := fun d hd => by
  rcases List.mem_or_eq_of_mem_set hd with q | rfl
  · exact h d q
  · exact hc
theorem own_up {cs : List Int32} (h : ∀ d ∈ cs, ¬ d < 0 ∧ ¬ (255 : Int32) < d) : ∀ d ∈ cs, ¬ d < 0 ∧ ¬ (65535 : Int32) < d := fun d hd => ⟨(h d hd).1, fun q => (h d hd).2 (by
  rw [Int32.lt_iff_toInt_lt] at q ⊢
  have e1 : (65535 : Int32).toInt = 65535 := rfl
  have e2 : (255 : Int32).toInt = 255 := rfl
  omega)⟩
theorem own_swlen {cs : List Int32} (h1 : ¬ cs.length = 9) (h2 : ¬ cs.length = 2) : own_sw cs = 0 := by
  unfold own_sw
  rw [if_neg (fun q => h1 (by rw [q]; rfl)), if_neg (fun q => h2 (by rw [q]; rfl))]
theorem own_setlen (cs : List Int32) (i : Nat) (c : Int32) : (cs.set i c).length = cs.length := List.length_set
theorem own_seteq {cs : List Int32} {i : Nat} {c : Int32} (hi : i < cs.length) : cs.set i c = cs ↔ c = cs.getD i 0 := by
  constructor
  · intro h
    have e : (cs.set i c)[i]? = some c := by rw [List.getElem?_set_self hi]
    rw [h] at e
    rw [List.getD_eq_getElem?_getD, e]
    rfl
  · intro h
    subst h
    apply List.ext_getElem?
    intro j
    by_cases hj : i = j
    · subst hj
      rw [List.getElem?_set_self hi, List.getD_eq_getElem?_getD, List.getElem?_eq_getElem hi]
      rfl
    · rw [List.getElem?_set_ne hj]
theorem own_swL {i : Nat} {c : Int32} (hi : i < 9) : own_sw (own_VL.set i c) = if c = own_VL.getD i 0 then 1 else 0 := by
  unfold own_sw
  have h2 : ¬ own_VL.set i c = own_VS := fun q => by have := congrArg List.length q; rw [own_setlen] at this; exact absurd this (by decide)
  rw [if_neg h2]
  by_cases h : c = own_VL.getD i 0
  · rw [if_pos ((own_seteq hi).mpr h), if_pos h]
  · rw [if_neg (fun q => h ((own_seteq hi).mp q)), if_neg h]
theorem own_swS {i : Nat} {c : Int32} (hi : i < 2) : own_sw (own_VS.set i c) = if c = own_VS.getD i 0 then 1 else 0 := by
  unfold own_sw
  have h2 : ¬ own_VS.set i c = own_VL := fun q => by have := congrArg List.length q; rw [own_setlen] at this; exact absurd this (by decide)
  rw [if_neg h2]
  by_cases h : c = own_VS.getD i 0
  · rw [if_pos ((own_seteq hi).mpr h), if_pos h]
  · rw [if_neg (fun q => h ((own_seteq hi).mp q)), if_neg h]
theorem own_two {c d : Int32} (hc : ¬ c < 0 ∧ ¬ (255 : Int32) < c) (hd : ¬ d < 0 ∧ ¬ (255 : Int32) < d) : ∀ x ∈ ([c, d] : List Int32), ¬ x < 0 ∧ ¬ (255 : Int32) < x := fun x hx => by
  simp only [List.mem_cons, List.not_mem_nil, or_false] at hx
  rcases hx with rfl | rfl
  · exact hc
  · exact hd
theorem own_last {cs : List Int32} {c : Int32} (h : ∀ d ∈ cs, ¬ d < 0 ∧ ¬ (255 : Int32) < d) (hc : ¬ c < 0 ∧ ¬ (255 : Int32) < c) : ∀ d ∈ cs ++ [c], ¬ d < 0 ∧ ¬ (255 : Int32) < d := fun d hd => by
  rcases List.mem_append.mp hd with q | q
  · exact h d q
  · cases List.mem_singleton.mp q; exact hc
theorem own_sw2 (c d : Int32) : own_sw [c, d] = if c = 45 ∧ d = 118 then 1 else 0 := by
  unfold own_sw own_VL own_VS
  simp
theorem own_safe {Z : State} {EL : List (String × Nat)} {vm : Vm} {h : Heap} {x : Addr} (hal : Z.vm.Alike vm) (E : Exa Z h x "java/lang/String") (V : Fld Z h x "java/lang/String" "value" "[B" .null) : Safe Z EL vm h x := fun B => by
  obtain ⟨cell, k, e1, e2, e3, -, -⟩ := E
  obtain ⟨c', cf, kf, i, f, v1, v2, v3, v4, v5, v6, v7⟩ := V
  cases e1.symm.trans v1
  obtain ⟨p, -, u, a, -, q, -, F, rfl | rfl⟩ := B
  · cases (show h[q.sa]? = some q.sC from F.ha).symm.trans e1
    obtain ⟨cS, ⟨⟨-, -, -, ⟨c1, k1, i1, f1, -⟩, -, -, -, w1, -⟩, -⟩, -⟩ := F
    obtain ⟨k3, e5, -⟩ := State.fieldFound?_setVm (s := Z) hal v2
    have e4 := (show (Wst Z vm h).fieldFound? "java/lang/String" "value" "[B" = some (cf, k3, i, f) from e5).symm.trans f1
    cases e4
    rw [v7] at w1
    cases w1
  · cases (show h[q.sd]? = some q.SA from F.hd).symm.trans e1
    obtain ⟨cS, -, -, g, -⟩ := F
    have g' : vm.findClass "[B" = some q.SA.cls := g
    rw [hal.findClass] at g'
    obtain ⟨k1, q1, q2⟩ := Vm.findClass_spec g'
    obtain ⟨k2, q3, q4⟩ := Vm.findClass_spec e2
    cases q1.symm.trans q3
    exact absurd (q2.symm.trans q4) (by decide)
theorem own_stak {Z : State} {h h' : Heap} {b : Addr} {C C' n d : String} {v : Value} (S : Sta Z h C n d v) (K : Keep h h' [b]) (E : Exa Z h b C') : Sta Z h' C n d v := by
  obtain ⟨cf, i, k, f, st, cell, h1, h2, h3, h4, h5, h6, h7⟩ := S
  obtain ⟨cell', k', e1, -, -, e4, -⟩ := E
  refine ⟨cf, i, k, f, st, cell, h1, h2, h3, h4, K.2.1 st cell h5 (fun q => ?_), h6, h7⟩
  cases List.mem_singleton.mp q
  cases h5.symm.trans e1
  rw [h6] at e4
  cases e4
theorem own_kd (x k : Int32) (hk : k = x &&& (7 : Int32)) : ¬ k < 0 ∧ ¬ (7 : Int32) < k := by
  have e := c_mask x 7 3 (by decide) (by decide)
  rw [← hk] at e
  have t0 : (0 : Int32).toInt = 0 := rfl
  have t7 : (7 : Int32).toInt = 7 := rfl
  rw [Int32.lt_iff_toInt_lt, Int32.lt_iff_toInt_lt, t0, t7]
  omega
theorem own_EW {Z : State} {a0 : Array Value} (hw : ∀ d ∈ tables_1, d.before a0 Z = true) : EW Z a0 own_EL := (EW.cons (hw _ (List.mem_of_getElem? (i := 39) rfl)) (by decide) (EW.cons (hw _ (List.mem_of_getElem? (i := 50) rfl)) (by decide) (EW.cons (hw _ (List.mem_of_getElem? (i := 0) rfl)) (by decide) (EW.cons (hw _ (List.mem_of_getElem? (i := 8) rfl)) (by decide) (EW.cons (hw _ (List.mem_of_getElem? (i := 51) rfl)) (by decide) EW.nil)))))
theorem own_str {Z : State} {a0 : Array Value} (hw : ∀ d ∈ tables_1, d.before a0 Z = true) : ∀ d ∈ Bundle.stringAtoms, d.before a0 Z = true := fun d hd => hw d ((by decide +kernel : ∀ d ∈ Bundle.stringAtoms, d ∈ tables_1) d hd)
theorem own_words {Z : State} {a0 : Array Value} (hw : ∀ d ∈ tables_1, d.before a0 Z = true) : ∀ d ∈ StrChars.Road.words, d.before a0 Z = true := fun d hd => hw d ((by decide +kernel : ∀ d ∈ StrChars.Road.words, d ∈ tables_1) d hd)
theorem own_wordsEq {Z : State} {a0 : Array Value} (hw : ∀ d ∈ tables_1, d.before a0 Z = true) : ∀ d ∈ StrChars.Road.wordsEq, d.before a0 Z = true := fun d hd => hw d ((by decide +kernel : ∀ d ∈ StrChars.Road.wordsEq, d ∈ tables_1) d hd)
theorem own_wordsChN {Z : State} {a0 : Array Value} (hw : ∀ d ∈ tables_1, d.before a0 Z = true) : ∀ d ∈ StrChars.Road.wordsChN, d.before a0 Z = true := fun d hd => hw d ((by decide +kernel : ∀ d ∈ StrChars.Road.wordsChN, d ∈ tables_1) d hd)
theorem own_codL : StrChars.Road.CodA own_VL 0 (9 : Int32) [Value.int (45 : Int32), Value.int (45 : Int32), Value.int (118 : Int32), Value.int (101 : Int32), Value.int (114 : Int32), Value.int (98 : Int32), Value.int (111 : Int32), Value.int (115 : Int32), Value.int (101 : Int32)] := StrChars.Road.codOf (cs := own_VL) (n := 9) rfl (by decide)
theorem own_codS : StrChars.Road.CodA own_VS 0 (2 : Int32) [Value.int (45 : Int32), Value.int (118 : Int32)] := StrChars.Road.codOf (cs := own_VS) (n := 2) rfl (by decide)
theorem own_bdL : ∀ c ∈ own_VL, ¬ c < 0 ∧ ¬ (65535 : Int32) < c := by decide
theorem own_bdS : ∀ c ∈ own_VS, ¬ c < 0 ∧ ¬ (65535 : Int32) < c := by decide
theorem pn_0 : plainName "com/example/clockwise/clockwise/Logging" = true := by first | (simp [plainName, overriddenIn]; done) | decide +kernel
theorem ef_7 (m : MethodId) (x0 : Addr) : entryFrame m #[(.ref x0)] 1 = mkF m 0 #[.val (.ref x0)] [] := by first | (simp [entryFrame, mkF, argsToLocals, Value.category]; done) | rfl
def Q_rm7 (Z : State) (r0 : Addr) (t : Addr) (kb : ClassId) (cs : List Int32) (zc : Int32) (h0 : Heap) (n0 : Nat) (v : Option Value) (h : Heap) (L : List Loc) : Prop := v = some (.int (own_sw cs)) ∧ Fr n0 L
theorem d7_0 : decode prog_26_method_2_code 0 = .ok (.aload_n 0, 1) := by decide +kernel
theorem d7_1 : decode prog_26_method_2_code 1 = .ok (.ldc 9, 2) := by decide +kernel
theorem d7_3 : decode prog_26_method_2_code 3 = .ok (.invokevirtual 11, 3) := by decide +kernel
theorem d7_6 : decode prog_26_method_2_code 6 = .ok (.ifCond .ne 12, 3) := by decide +kernel
theorem d7_9 : decode prog_26_method_2_code 9 = .ok (.aload_n 0, 1) := by decide +kernel
theorem d7_10 : decode prog_26_method_2_code 10 = .ok (.ldc 17, 2) := by decide +kernel
theorem d7_12 : decode prog_26_method_2_code 12 = .ok (.invokevirtual 11, 3) := by decide +kernel
theorem d7_15 : decode prog_26_method_2_code 15 = .ok (.ifCond .eq 7, 3) := by decide +kernel
theorem d7_18 : decode prog_26_method_2_code 18 = .ok (.iconst 1, 1) := by decide +kernel
theorem d7_19 : decode prog_26_method_2_code 19 = .ok (.goto 4, 3) := by decide +kernel
theorem d7_22 : decode prog_26_method_2_code 22 = .ok (.iconst 0, 1) := by decide +kernel
theorem d7_23 : decode prog_26_method_2_code 23 = .ok (.ireturn, 1) := by decide +kernel
set_option maxRecDepth 65536 in
set_option maxHeartbeats 40000000 in
theorem rm7 (l : Launch) (Z : State) (a0 : Array Value) (hw : ∀ d ∈ tables_1, d.before a0 Z = true) (ws : List Jvm.Cond) (r0 : Addr) (t : Addr) (kb : ClassId) (cs : List Int32) (zc : Int32) (h0 : Heap) (n0 : Nat) (E0 : Exa Z h0 r0 "java/lang/String") (C0 : Fld Z h0 r0 "java/lang/String" "coder" "B" (.int (0 : Int32))) (V0 : Fld Z h0 r0 "java/lang/String" "value" "[B" (.ref t)) (K0 : Arv Z h0 t kb .byte (Int32.ofNat cs.length) ((cs.map StrChars.lo8).map Value.int) (.int (0 : Int32))) (S_C : Sta Z h0 "java/lang/String" "COMPACT_STRINGS" "Z" (.int zc)) (hz : ¬ zc = 0) (hp : ∀ c ∈ cs, ¬ c < 0 ∧ ¬ (255 : Int32) < c) (hl : cs.length ≤ 4000) :
    MetFree l (⟨"com/example/clockwise/clockwise/Logging", "isSwitch", "(Ljava/lang/String;)Z"⟩ : MethodName) (head1 (Jvm.Cond.code (⟨"com/example/clockwise/clockwise/Logging", "isSwitch", "(Ljava/lang/String;)Z"⟩ : MethodName) prog_26_method_2_code 1 (some .boolean) :: ws) ({ frames := 2, cells := 4, slots := 52, locals := 28 } : Room)) (fun a U => a = #[(.ref r0)] ∧ Z.Warmed39 U.vm ∧ U.heap = h0 ∧ CHv Z own_EL U.vm h0) (fun _ _ _ _ _ => True) (fun _ U o U' => ∃ v L, o = .returned v ∧ Q_rm7 Z r0 t kb cs zc h0 n0 v U'.heap L ∧ CHr Z own_EL U.vm U.heap U'.vm U'.heap ∧ ReturnedEndW U o U' L ({ frames := 2, cells := 4, slots := 52, locals := 28 } : Room).cells ({ frames := 2, cells := 4, slots := 52, locals := 28 } : Room).slots) := by
  refine MetFree.of_bodySF (plainFor_of_name pn_0) hisR ?_
  intro p e s m args below meth c s₁ Bd hml0 hP hK
  obtain ⟨rfl, hZ, hh, CH0⟩ := hP
  have hx := Bd.exec
  have hby := Bd.bytes
  have hml : c.maxLocals = 1 := hml0
  have hown : s.vm.findClass "com/example/clockwise/clockwise/Logging" = some m.cls := findClass_of_methodNamed Bd.named
  have hnm := (name_of_methodNamed Bd.named Bd.method).1
  have X0 : Stand p l e ({ frames := 2, cells := 4, slots := 52, locals := 28 } : Room) s m #[(.ref r0)] below meth c s₁ [] 0 0 := Stand.of_body Bd
  have e0 : s₁.heap = h0 := by rw [← hh, Bd.state]; rfl
  have N0 := Fr.nil n0
  refine Onw.of (Onw.go (fun own_u k => castTop (ef_7 m r0) k) ?_)
  show Onw p e below _ (s₁.setTop (mkF m 0 #[.val (.ref r0)] []))
  have hEL := own_EW hw
  have hstr := own_str hw
  have hS0 : s.Since s.vm 0 := (State.WarmedH.refl s).since 0
  have hk0 : 0 ≤ h0.size := Nat.zero_le _
  have CR0 := CHr.refl CH0
  have heq := own_wordsEq hw
  have hcd := StrChars.Road.codOf (cs := cs) rfl (fun c hc => (hp c hc).2)
  have hbd := own_up hp
  refine Onw.go (fun own_u kt => XS.aloadN X0.here hx rfl (hb hby d7_0) rfl rfl kt) ?_
  show Onw p e below _ (s₁.setTop (mkF m 1 #[.val (.ref r0)] [(.ref r0)]))
  obtain ⟨a_LL, T1, h1, k1, t_LL, kk_LL, X1, e1, Ex1, hS1, hk1, hZ1, hown1, E_LL, C_LL, V_LL, A_LL, lt1, lu1, CQ1, Lt_LL, Sf1, st1⟩ := ldcCH (s := s) (vm0 := s.vm) X0 hx hZ hown (hw _ (List.mem_of_getElem? (i := 39) rfl)) hstr e0 hS0 hk0 hEL (by decide) CH0 (vs := [Value.int (45 : Int32), Value.int (45 : Int32), Value.int (118 : Int32), Value.int (101 : Int32), Value.int (114 : Int32), Value.int (98 : Int32), Value.int (111 : Int32), Value.int (115 : Int32), Value.int (101 : Int32)]) (z := (9 : Int32)) (by refine ⟨by decide, by decide⟩) (by decide) rfl (g := (mkF m 1 #[.val (.ref r0)] [(.ref r0)])) rfl (hb hby d7_1) (n := 36) (by decide) (by decide) (by decide) (by decide)
  have CR1 := CR0.trans CQ1
  have CH1 := CQ1.1
  refine Onw.go st1 ?_
  show Onw p e below _ (T1.setTop (mkF m 3 #[.val (.ref r0)] [(.ref a_LL), (.ref r0)]))
  by_cases hqL : cs = own_VL
  · obtain ⟨cq2, kq2, q2a, q2b, q2c⟩ := isOf hZ1 e1 (E0.ext Ex1)
    obtain ⟨_, _, ⟨T2, L2, k2, n2⟩, -, X2, ⟨Lc2, hQ2, l2, y2, z2⟩, st2⟩ := X1.virtualBack hx (y := (⟨"java/lang/String", "equals", "(Ljava/lang/Object;)Z"⟩ : MethodName)) (z := (⟨"java/lang/String", "equals", "(Ljava/lang/Object;)Z"⟩ : MethodName)) hown1 (mvT hZ1 (hw _ (List.mem_of_getElem? (i := 40) rfl))) (mvT hZ1 (hw _ (List.mem_of_getElem? (i := 41) rfl))) (notFace_of_selects (args := #[]) (mvT hZ1 (hw _ (List.mem_of_getElem? (i := 43) rfl)))) (mvT hZ1 (hw _ (List.mem_of_getElem? (i := 43) rfl))) (mvT hZ1 (hw _ (List.mem_of_getElem? (i := 42) rfl))) (by decide) (StrChars.Road.eqW (W := 0) hZ1 heq (kI := 4) (hw _ (List.mem_of_getElem? (i := 2) rfl)) (E0.ext Ex1) (V0.ext Ex1) (C0.ext Ex1) (K0.ext Ex1) hcd hbd hl E_LL V_LL C_LL A_LL own_codL own_bdL (by decide) (S_C.ext Ex1) hz (by decide) (by decide)) q2a q2c (g := (mkF m 3 #[.val (.ref r0)] [(.ref a_LL), (.ref r0)])) rfl (by rw [hml]; rfl) (Steps.refl _) (argsL := [(.ref a_LL)]) (rest := []) (lenOf pd_0 rfl) rfl (by show 2 * 0 + _ ≤ _; exact Nat.le_of_eq rfl) (hb hby d7_3) (fun _ _ => ⟨rfl, e1, (by decide : 2 + 0 ≤ _), (by decide : 40 + 0 ≤ _)⟩)
    dsimp only [Pt.U, Pt.locs, Pt.cells, Pt.slots] at X2 l2 y2 z2 st2 hQ2
    subst l2 y2 z2
    obtain ⟨hv2, rfl, e2q⟩ := hQ2
    obtain ⟨rfl, -⟩ := hv2.resolve_right (fun q => q.2 hqL)
    have N2q := Fr.nil n0
    have N2 := Fr.app N0 N2q
    refine Onw.go (fun own_u kt => st2.trans kt) ?_
    show Onw p e below _ (T2.setTop (mkF m 6 #[.val (.ref r0)] [(.int (1 : Int32))]))
    refine Onw.go (fun own_u kt => XS.ifYes X2.here hx rfl (pc0 := 6) (pc' := 18) rfl (hb hby d7_6) rfl ((if0 _ _).trans (feq (by decide : ¬ ((1 : Int32) = (0 : Int32)))).2) (by decide) (by decide) kt) ?_
    show Onw p e below _ (T2.setTop (mkF m 18 #[.val (.ref r0)] []))
    refine Onw.go (fun own_u kt => XS.iconst X2.here hx rfl (hb hby d7_18) kt) ?_
    show Onw p e below _ (T2.setTop (mkF m 19 #[.val (.ref r0)] [(.int (1 : Int32))]))
    refine Onw.go (fun own_u kt => XS.goto X2.here hx rfl (pc0 := 19) (pc' := 23) rfl (hb hby d7_19) (by decide) (by decide) kt) ?_
    show Onw p e below _ (T2.setTop (mkF m 23 #[.val (.ref r0)] [(.int (1 : Int32))]))
    exact Onw.retH X2 hS1 (by rw [e2q]; exact hk1) Bd.notSynchronized (fun h => by rw [Bd.returns] at h; cases h) (fun fs hr => retN X2 hx (t := .boolean) Bd.returns (by simp) (hb hby d7_23) hr) ⟨(by show some (Value.int (nar .boolean 1)) = _; unfold own_sw; rw [if_pos hqL]; rfl), N2⟩ (by decide) (by decide) (by rw [hh, e2q]; exact CR1.trans (CHv.at X2 hZ1 hEL CH1))
  · obtain ⟨cq3, kq3, q3a, q3b, q3c⟩ := isOf hZ1 e1 (E0.ext Ex1)
    obtain ⟨_, _, ⟨T3, L3, k3, n3⟩, -, X3, ⟨Lc3, hQ3, l3, y3, z3⟩, st3⟩ := X1.virtualBack hx (y := (⟨"java/lang/String", "equals", "(Ljava/lang/Object;)Z"⟩ : MethodName)) (z := (⟨"java/lang/String", "equals", "(Ljava/lang/Object;)Z"⟩ : MethodName)) hown1 (mvT hZ1 (hw _ (List.mem_of_getElem? (i := 40) rfl))) (mvT hZ1 (hw _ (List.mem_of_getElem? (i := 41) rfl))) (notFace_of_selects (args := #[]) (mvT hZ1 (hw _ (List.mem_of_getElem? (i := 43) rfl)))) (mvT hZ1 (hw _ (List.mem_of_getElem? (i := 43) rfl))) (mvT hZ1 (hw _ (List.mem_of_getElem? (i := 42) rfl))) (by decide) (StrChars.Road.eqW (W := 0) hZ1 heq (kI := 4) (hw _ (List.mem_of_getElem? (i := 2) rfl)) (E0.ext Ex1) (V0.ext Ex1) (C0.ext Ex1) (K0.ext Ex1) hcd hbd hl E_LL V_LL C_LL A_LL own_codL own_bdL (by decide) (S_C.ext Ex1) hz (by decide) (by decide)) q3a q3c (g := (mkF m 3 #[.val (.ref r0)] [(.ref a_LL), (.ref r0)])) rfl (by rw [hml]; rfl) (Steps.refl _) (argsL := [(.ref a_LL)]) (rest := []) (lenOf pd_0 rfl) rfl (by show 2 * 0 + _ ≤ _; exact Nat.le_of_eq rfl) (hb hby d7_3) (fun _ _ => ⟨rfl, e1, (by decide : 2 + 0 ≤ _), (by decide : 40 + 0 ≤ _)⟩)
    dsimp only [Pt.U, Pt.locs, Pt.cells, Pt.slots] at X3 l3 y3 z3 st3 hQ3
    subst l3 y3 z3
    obtain ⟨hv3, rfl, e3q⟩ := hQ3
    obtain ⟨rfl, -⟩ := hv3.resolve_left (fun q => hqL q.2)
    have N3q := Fr.nil n0
    have N3 := Fr.app N0 N3q
    refine Onw.go (fun own_u kt => st3.trans kt) ?_
    show Onw p e below _ (T3.setTop (mkF m 6 #[.val (.ref r0)] [(.int (0 : Int32))]))
    refine Onw.go (fun own_u kt => XS.ifNo X3.here hx rfl (hb hby d7_6) rfl ((if0 _ _).trans (teq (rfl : (0 : Int32) = (0 : Int32))).2) kt) ?_
    show Onw p e below _ (T3.setTop (mkF m 9 #[.val (.ref r0)] []))
    refine Onw.go (fun own_u kt => XS.aloadN X3.here hx rfl (hb hby d7_9) rfl rfl kt) ?_
    show Onw p e below _ (T3.setTop (mkF m 10 #[.val (.ref r0)] [(.ref r0)]))
    obtain ⟨a_LS, T4, h4, k4, t_LS, kk_LS, X4, e4, Ex4, hS4, hk4, hZ4, hown4, E_LS, C_LS, V_LS, A_LS, lt4, lu4, CQ4, Lt_LS, Sf4, st4⟩ := ldcCH (s := s) (vm0 := T1.vm) X3 hx hZ1 hown1 (hw _ (List.mem_of_getElem? (i := 50) rfl)) hstr e3q hS1 hk1 hEL (by decide) CH1 (vs := [Value.int (45 : Int32), Value.int (118 : Int32)]) (z := (2 : Int32)) (by refine ⟨by decide, by decide⟩) (by decide) rfl (g := (mkF m 10 #[.val (.ref r0)] [(.ref r0)])) rfl (hb hby d7_10) (n := 8) (by decide) (by decide) (by decide) (by decide)
    have CR4 := CR1.trans CQ4
    have CH4 := CQ4.1
    refine Onw.go st4 ?_
    show Onw p e below _ (T4.setTop (mkF m 12 #[.val (.ref r0)] [(.ref a_LS), (.ref r0)]))
    by_cases hqS : cs = own_VS
    · obtain ⟨cq5, kq5, q5a, q5b, q5c⟩ := isOf hZ4 e4 ((E0.ext Ex1).ext Ex4)
      obtain ⟨_, _, ⟨T5, L5, k5, n5⟩, -, X5, ⟨Lc5, hQ5, l5, y5, z5⟩, st5⟩ := X4.virtualBack hx (y := (⟨"java/lang/String", "equals", "(Ljava/lang/Object;)Z"⟩ : MethodName)) (z := (⟨"java/lang/String", "equals", "(Ljava/lang/Object;)Z"⟩ : MethodName)) hown4 (mvT hZ4 (hw _ (List.mem_of_getElem? (i := 40) rfl))) (mvT hZ4 (hw _ (List.mem_of_getElem? (i := 41) rfl))) (notFace_of_selects (args := #[]) (mvT hZ4 (hw _ (List.mem_of_getElem? (i := 43) rfl)))) (mvT hZ4 (hw _ (List.mem_of_getElem? (i := 43) rfl))) (mvT hZ4 (hw _ (List.mem_of_getElem? (i := 42) rfl))) (by decide) (StrChars.Road.eqW (W := 0) hZ4 heq (kI := 4) (hw _ (List.mem_of_getElem? (i := 2) rfl)) ((E0.ext Ex1).ext Ex4) ((V0.ext Ex1).ext Ex4) ((C0.ext Ex1).ext Ex4) ((K0.ext Ex1).ext Ex4) hcd hbd hl E_LS V_LS C_LS A_LS own_codS own_bdS (by decide) ((S_C.ext Ex1).ext Ex4) hz (by decide) (by decide)) q5a q5c (g := (mkF m 12 #[.val (.ref r0)] [(.ref a_LS), (.ref r0)])) rfl (by rw [hml]; rfl) (Steps.refl _) (argsL := [(.ref a_LS)]) (rest := []) (lenOf pd_0 rfl) rfl (by show 2 * 0 + _ ≤ _; exact Nat.le_of_eq rfl) (hb hby d7_12) (fun _ _ => ⟨rfl, e4, (by decide : 4 + 0 ≤ _), (by decide : 52 + 0 ≤ _)⟩)
      dsimp only [Pt.U, Pt.locs, Pt.cells, Pt.slots] at X5 l5 y5 z5 st5 hQ5
      subst l5 y5 z5
      obtain ⟨hv5, rfl, e5q⟩ := hQ5
      obtain ⟨rfl, -⟩ := hv5.resolve_right (fun q => q.2 hqS)
      have N5q := Fr.nil n0
      have N5 := Fr.app N3 N5q
      refine Onw.go (fun own_u kt => st5.trans kt) ?_
      show Onw p e below _ (T5.setTop (mkF m 15 #[.val (.ref r0)] [(.int (1 : Int32))]))
      refine Onw.go (fun own_u kt => XS.ifNo X5.here hx rfl (hb hby d7_15) rfl ((if0 _ _).trans (feq (by decide : ¬ ((1 : Int32) = (0 : Int32)))).1) kt) ?_
      show Onw p e below _ (T5.setTop (mkF m 18 #[.val (.ref r0)] []))
      refine Onw.go (fun own_u kt => XS.iconst X5.here hx rfl (hb hby d7_18) kt) ?_
      show Onw p e below _ (T5.setTop (mkF m 19 #[.val (.ref r0)] [(.int (1 : Int32))]))
      refine Onw.go (fun own_u kt => XS.goto X5.here hx rfl (pc0 := 19) (pc' := 23) rfl (hb hby d7_19) (by decide) (by decide) kt) ?_
      show Onw p e below _ (T5.setTop (mkF m 23 #[.val (.ref r0)] [(.int (1 : Int32))]))
      exact Onw.retH X5 hS4 (by rw [e5q]; exact hk4) Bd.notSynchronized (fun h => by rw [Bd.returns] at h; cases h) (fun fs hr => retN X5 hx (t := .boolean) Bd.returns (by simp) (hb hby d7_23) hr) ⟨(by show some (Value.int (nar .boolean 1)) = _; unfold own_sw; rw [if_neg hqL, if_pos hqS]; rfl), N5⟩ (by decide) (by decide) (by rw [hh, e5q]; exact CR4.trans (CHv.at X5 hZ4 hEL CH4))
    · obtain ⟨cq6, kq6, q6a, q6b, q6c⟩ := isOf hZ4 e4 ((E0.ext Ex1).ext Ex4)
      obtain ⟨_, _, ⟨T6, L6, k6, n6⟩, -, X6, ⟨Lc6, hQ6, l6, y6, z6⟩, st6⟩ := X4.virtualBack hx (y := (⟨"java/lang/String", "equals", "(Ljava/lang/Object;)Z"⟩ : MethodName)) (z := (⟨"java/lang/String", "equals", "(Ljava/lang/Object;)Z"⟩ : MethodName)) hown4 (mvT hZ4 (hw _ (List.mem_of_getElem? (i := 40) rfl))) (mvT hZ4 (hw _ (List.mem_of_getElem? (i := 41) rfl))) (notFace_of_selects (args := #[]) (mvT hZ4 (hw _ (List.mem_of_getElem? (i := 43) rfl)))) (mvT hZ4 (hw _ (List.mem_of_getElem? (i := 43) rfl))) (mvT hZ4 (hw _ (List.mem_of_getElem? (i := 42) rfl))) (by decide) (StrChars.Road.eqW (W := 0) hZ4 heq (kI := 4) (hw _ (List.mem_of_getElem? (i := 2) rfl)) ((E0.ext Ex1).ext Ex4) ((V0.ext Ex1).ext Ex4) ((C0.ext Ex1).ext Ex4) ((K0.ext Ex1).ext Ex4) hcd hbd hl E_LS V_LS C_LS A_LS own_codS own_bdS (by decide) ((S_C.ext Ex1).ext Ex4) hz (by decide) (by decide)) q6a q6c (g := (mkF m 12 #[.val (.ref r0)] [(.ref a_LS), (.ref r0)])) rfl (by rw [hml]; rfl) (Steps.refl _) (argsL := [(.ref a_LS)]) (rest := []) (lenOf pd_0 rfl) rfl (by show 2 * 0 + _ ≤ _; exact Nat.le_of_eq rfl) (hb hby d7_12) (fun _ _ => ⟨rfl, e4, (by decide : 4 + 0 ≤ _), (by decide : 52 + 0 ≤ _)⟩)
      dsimp only [Pt.U, Pt.locs, Pt.cells, Pt.slots] at X6 l6 y6 z6 st6 hQ6
      subst l6 y6 z6
      obtain ⟨hv6, rfl, e6q⟩ := hQ6
      obtain ⟨rfl, -⟩ := hv6.resolve_left (fun q => hqS q.2)
      have N6q := Fr.nil n0
      have N6 := Fr.app N3 N6q
      refine Onw.go (fun own_u kt => st6.trans kt) ?_
      show Onw p e below _ (T6.setTop (mkF m 15 #[.val (.ref r0)] [(.int (0 : Int32))]))
      refine Onw.go (fun own_u kt => XS.ifYes X6.here hx rfl (pc0 := 15) (pc' := 22) rfl (hb hby d7_15) rfl ((if0 _ _).trans (teq (rfl : (0 : Int32) = (0 : Int32))).1) (by decide) (by decide) kt) ?_
      show Onw p e below _ (T6.setTop (mkF m 22 #[.val (.ref r0)] []))
      refine Onw.go (fun own_u kt => XS.iconst X6.here hx rfl (hb hby d7_22) kt) ?_
      show Onw p e below _ (T6.setTop (mkF m 23 #[.val (.ref r0)] [(.int (0 : Int32))]))
      exact Onw.retH X6 hS4 (by rw [e6q]; exact hk4) Bd.notSynchronized (fun h => by rw [Bd.returns] at h; cases h) (fun fs hr => retN X6 hx (t := .boolean) Bd.returns (by simp) (hb hby d7_23) hr) ⟨(by show some (Value.int (nar .boolean 0)) = _; unfold own_sw; rw [if_neg hqL, if_neg hqS]; rfl), N6⟩ (by decide) (by decide) (by rw [hh, e6q]; exact CR4.trans (CHv.at X6 hZ4 hEL CH4))
theorem pn_1 : plainName "java/lang/String" = true := by first | (simp [plainName, overriddenIn]; done) | decide +kernel
theorem ef_2 (m : MethodId) (x0 : Addr) (x1 : Addr) (x2 : Int32) (x3 : Int32) : entryFrame m #[(.ref x0), (.ref x1), (.int x2), (.int x3), .null] 6 = mkF m 0 #[.val (.ref x0), .val (.ref x1), .val (.int x2), .val (.int x3), .val .null, .unset] [] := by first | (simp [entryFrame, mkF, argsToLocals, Value.category]; done) | rfl
def Q_rm2 (Z : State) (r0 : Addr) (r1 : Addr) (p2 : Int32) (p3 : Int32) (h0 : Heap) (n0 : Nat) (v : Option Value) (h : Heap) (L : List Loc) : Prop := v = none ∧ Fr n0 L ∧ Keep h0 h [r0] ∧ Exa Z h r0 "java/lang/String" ∧ Fld Z h r0 "java/lang/String" "coder" "B" (.int (0 : Int32)) ∧ ∃ (t : Addr) (kb : ClassId), Fld Z h r0 "java/lang/String" "value" "[B" (.ref t) ∧ Arv Z h t kb .byte (0 : Int32) [] (.int (0 : Int32))
theorem d2_0 : decode jdk_42_method_149_code 0 = .ok (.aload_n 0, 1) := by decide +kernel
theorem d2_1 : decode jdk_42_method_149_code 1 = .ok (.invokespecial 1, 3) := by decide +kernel
theorem d2_4 : decode jdk_42_method_149_code 4 = .ok (.iload_n 3, 1) := by decide +kernel
theorem d2_5 : decode jdk_42_method_149_code 5 = .ok (.ifCond .ne 22, 3) := by decide +kernel
theorem d2_8 : decode jdk_42_method_149_code 8 = .ok (.aload_n 0, 1) := by decide +kernel
theorem d2_9 : decode jdk_42_method_149_code 9 = .ok (.ldc 7, 2) := by decide +kernel
theorem d2_11 : decode jdk_42_method_149_code 11 = .ok (.getfield 9, 3) := by decide +kernel
theorem d2_14 : decode jdk_42_method_149_code 14 = .ok (.putfield 9, 3) := by decide +kernel
theorem d2_17 : decode jdk_42_method_149_code 17 = .ok (.aload_n 0, 1) := by decide +kernel
theorem d2_18 : decode jdk_42_method_149_code 18 = .ok (.ldc 7, 2) := by decide +kernel
theorem d2_20 : decode jdk_42_method_149_code 20 = .ok (.getfield 15, 3) := by decide +kernel
theorem d2_23 : decode jdk_42_method_149_code 23 = .ok (.putfield 15, 3) := by decide +kernel
theorem d2_26 : decode jdk_42_method_149_code 26 = .ok (.return_, 1) := by decide +kernel
set_option maxRecDepth 65536 in
set_option maxHeartbeats 40000000 in
theorem rm2 (l : Launch) (Z : State) (a0 : Array Value) (hw : ∀ d ∈ tables_1, d.before a0 Z = true) (ws : List Jvm.Cond) (r0 : Addr) (r1 : Addr) (p2 : Int32) (p3 : Int32) (h0 : Heap) (n0 : Nat) (E0 : Exa Z h0 r0 "java/lang/String") (C0 : Fld Z h0 r0 "java/lang/String" "coder" "B" (.int (0 : Int32))) (V0 : Fld Z h0 r0 "java/lang/String" "value" "[B" .null) (g_r0 : n0 ≤ r0) (h3 : p3 = 0) :
    MetFree l (⟨"java/lang/String", "<init>", "([CIILjava/lang/Void;)V"⟩ : MethodName) (head1 (Jvm.Cond.code (⟨"java/lang/String", "<init>", "([CIILjava/lang/Void;)V"⟩ : MethodName) jdk_42_method_149_code 6 none :: ws) ({ frames := 1, cells := 4, slots := 8, locals := 16 } : Room)) (fun a U => a = #[(.ref r0), (.ref r1), (.int p2), (.int p3), .null] ∧ Z.Warmed39 U.vm ∧ U.heap = h0 ∧ CHv Z own_EL U.vm h0) (fun _ _ _ _ _ => True) (fun _ U o U' => ∃ v L, o = .returned v ∧ Q_rm2 Z r0 r1 p2 p3 h0 n0 v U'.heap L ∧ CHr Z own_EL U.vm U.heap U'.vm U'.heap ∧ ReturnedEndW U o U' L ({ frames := 1, cells := 4, slots := 8, locals := 16 } : Room).cells ({ frames := 1, cells := 4, slots := 8, locals := 16 } : Room).slots) := by
  refine MetFree.of_bodySF (plainFor_of_name pn_1) hisR ?_
  intro p e s m args below meth c s₁ Bd hml0 hP hK
  obtain ⟨rfl, hZ, hh, CH0⟩ := hP
  have hx := Bd.exec
  have hby := Bd.bytes
  have hml : c.maxLocals = 6 := hml0
  have hown : s.vm.findClass "java/lang/String" = some m.cls := findClass_of_methodNamed Bd.named
  have hnm := (name_of_methodNamed Bd.named Bd.method).1
  have X0 : Stand p l e ({ frames := 1, cells := 4, slots := 8, locals := 16 } : Room) s m #[(.ref r0), (.ref r1), (.int p2), (.int p3), .null] below meth c s₁ [] 0 0 := Stand.of_body Bd
  have e0 : s₁.heap = h0 := by rw [← hh, Bd.state]; rfl
  have N0 := Fr.nil n0
  refine Onw.of (Onw.go (fun own_u k => castTop (ef_2 m r0 r1 p2 p3) k) ?_)
  show Onw p e below _ (s₁.setTop (mkF m 0 #[.val (.ref r0), .val (.ref r1), .val (.int p2), .val (.int p3), .val .null, .unset] []))
  have hEL := own_EW hw
  have hstr := own_str hw
  have hS0 : s.Since s.vm 0 := (State.WarmedH.refl s).since 0
  have hk0 : 0 ≤ h0.size := Nat.zero_le _
  have CR0 := CHr.refl CH0
  refine Onw.go (fun own_u kt => XS.aloadN X0.here hx rfl (hb hby d2_0) rfl rfl kt) ?_
  show Onw p e below _ (s₁.setTop (mkF m 1 #[.val (.ref r0), .val (.ref r1), .val (.int p2), .val (.int p3), .val .null, .unset] [(.ref r0)]))
  obtain ⟨T1, X1, e1, st1⟩ := initO X0 hx hZ hown (hw _ (List.mem_of_getElem? (i := 19) rfl)) (hw _ (List.mem_of_getElem? (i := 20) rfl)) (hw _ (List.mem_of_getElem? (i := 21) rfl)) e0 (g := (mkF m 1 #[.val (.ref r0), .val (.ref r1), .val (.int p2), .val (.int p3), .val .null, .unset] [(.ref r0)])) rfl (by rw [hml]; rfl) rfl (hb hby d2_1) (by decide) (W := 0) (by show 2 * 0 + _ ≤ _; exact Nat.le_of_eq rfl) (by decide)
  refine Onw.go st1 ?_
  show Onw p e below _ (T1.setTop (mkF m 4 #[.val (.ref r0), .val (.ref r1), .val (.int p2), .val (.int p3), .val .null, .unset] []))
  refine Onw.go (fun own_u kt => XS.iloadN X1.here hx rfl (hb hby d2_4) rfl kt) ?_
  show Onw p e below _ (T1.setTop (mkF m 5 #[.val (.ref r0), .val (.ref r1), .val (.int p2), .val (.int p3), .val .null, .unset] [(.int p3)]))
  refine Onw.go (fun own_u kt => XS.ifNo X1.here hx rfl (hb hby d2_5) rfl ((if0 _ _).trans (teq (h3 : p3 = (0 : Int32))).2) kt) ?_
  show Onw p e below _ (T1.setTop (mkF m 8 #[.val (.ref r0), .val (.ref r1), .val (.int p2), .val (.int p3), .val .null, .unset] []))
  refine Onw.go (fun own_u kt => XS.aloadN X1.here hx rfl (hb hby d2_8) rfl rfl kt) ?_
  show Onw p e below _ (T1.setTop (mkF m 9 #[.val (.ref r0), .val (.ref r1), .val (.int p2), .val (.int p3), .val .null, .unset] [(.ref r0)]))
  obtain ⟨a_LE, T2, h2, k2, t_LE, kk_LE, X2, e2, Ex2, hS2, hk2, hZ2, hown2, E_LE, C_LE, V_LE, A_LE, lt2, lu2, CQ2, Lt_LE, Sf2, st2⟩ := ldcCH (s := s) (vm0 := s.vm) X1 hx hZ hown (hw _ (List.mem_of_getElem? (i := 51) rfl)) hstr e1 hS0 hk0 hEL (by decide) CH0 (vs := []) (z := (0 : Int32)) (by refine ⟨by decide, by decide⟩) (by decide) rfl (g := (mkF m 9 #[.val (.ref r0), .val (.ref r1), .val (.int p2), .val (.int p3), .val .null, .unset] [(.ref r0)])) rfl (hb hby d2_9) (n := 0) (by decide) (by decide) (by decide) (by decide)
  have CR2 := CR0.trans CQ2
  have CH2 := CQ2.1
  refine Onw.go st2 ?_
  show Onw p e below _ (T2.setTop (mkF m 11 #[.val (.ref r0), .val (.ref r1), .val (.int p2), .val (.int p3), .val .null, .unset] [(.ref a_LE), (.ref r0)]))
  have SF1 : Safe Z own_EL T2.vm h2 r0 := own_safe hZ2.alike (E0.ext Ex2) (V0.ext Ex2)
  have ne1 := Sf2 _ SF1
  obtain ⟨T3, X3, e3, st3⟩ := getF X2 hx hZ2 hown2 (host := "") (Or.inl (hw _ (List.mem_of_getElem? (i := 34) rfl))) Via.refl e2 V_LE (g := (mkF m 11 #[.val (.ref r0), .val (.ref r1), .val (.int p2), .val (.int p3), .val .null, .unset] [(.ref a_LE), (.ref r0)])) rfl rfl (hb hby d2_11)
  refine Onw.go st3 ?_
  show Onw p e below _ (T3.setTop (mkF m 14 #[.val (.ref r0), .val (.ref r1), .val (.int p2), .val (.int p3), .val .null, .unset] [(.ref t_LE), (.ref r0)]))
  obtain ⟨T4, h4, X4, e4, W4, st4⟩ := putF X3 hx hZ2 hown2 (host := "") (Or.inl (hw _ (List.mem_of_getElem? (i := 34) rfl))) Via.refl e3 (V0.ext Ex2) (E0.ext Ex2) (Or.inr ⟨(hw _ (List.mem_of_getElem? (i := 4) rfl)), rfl, hnm⟩) (hw _ (List.mem_of_getElem? (i := 2) rfl)) (ty := (.array .byte)) (by decide) rfl rfl (g := (mkF m 14 #[.val (.ref r0), .val (.ref r1), .val (.int p2), .val (.int p3), .val .null, .unset] [(.ref t_LE), (.ref r0)])) rfl rfl (hb hby d2_14)
  have N4 := Fr.snoc X4 N0 g_r0
  refine Onw.go st4 ?_
  show Onw p e below _ (T4.setTop (mkF m 17 #[.val (.ref r0), .val (.ref r1), .val (.int p2), .val (.int p3), .val .null, .unset] []))
  have CR4 := CR2.trans (CHr.wr W4 SF1 CH2)
  have CH4 := CHv.wr W4 SF1 CH2
  have hk4 := Nat.le_trans hk2 (Nat.le_of_eq W4.size.symm)
  have SF2 := Safe.wr W4 SF1 CH2 SF1
  have VV := (V0.ext Ex2).same W4
  have EE := (E0.ext Ex2).wr W4
  have CC := (C0.ext Ex2).other W4 (Or.inr (slot_ne (Or.inr (hw _ (List.mem_of_getElem? (i := 5) rfl))) (Or.inr (hw _ (List.mem_of_getElem? (i := 4) rfl))) (by decide) (t := .byte) (t' := (.array .byte)) (by decide) (by decide)))
  have AA := A_LE.other W4 (Ne.symm ne1.2)
  refine Onw.go (fun own_u kt => XS.aloadN X4.here hx rfl (hb hby d2_17) rfl rfl kt) ?_
  show Onw p e below _ (T4.setTop (mkF m 18 #[.val (.ref r0), .val (.ref r1), .val (.int p2), .val (.int p3), .val .null, .unset] [(.ref r0)]))
  obtain ⟨a_LF, T5, h5, k5, t_LF, kk_LF, X5, e5, Ex5, hS5, hk5, hZ5, hown5, E_LF, C_LF, V_LF, A_LF, lt5, lu5, CQ5, Lt_LF, Sf5, st5⟩ := ldcCH (s := s) (vm0 := T2.vm) X4 hx hZ2 hown2 (hw _ (List.mem_of_getElem? (i := 51) rfl)) hstr e4 hS2 hk4 hEL (by decide) CH4 (vs := []) (z := (0 : Int32)) (by refine ⟨by decide, by decide⟩) (by decide) rfl (g := (mkF m 18 #[.val (.ref r0), .val (.ref r1), .val (.int p2), .val (.int p3), .val .null, .unset] [(.ref r0)])) rfl (hb hby d2_18) (n := 0) (by decide) (by decide) (by decide) (by decide)
  have CR5 := CR4.trans CQ5
  have CH5 := CQ5.1
  refine Onw.go st5 ?_
  show Onw p e below _ (T5.setTop (mkF m 20 #[.val (.ref r0), .val (.ref r1), .val (.int p2), .val (.int p3), .val .null, .unset] [(.ref a_LF), (.ref r0)]))
  have SF3 := CQ5.safe EE.lt SF2
  obtain ⟨T6, X6, e6, st6⟩ := getF X5 hx hZ5 hown5 (host := "") (Or.inl (hw _ (List.mem_of_getElem? (i := 33) rfl))) Via.refl e5 C_LF (g := (mkF m 20 #[.val (.ref r0), .val (.ref r1), .val (.int p2), .val (.int p3), .val .null, .unset] [(.ref a_LF), (.ref r0)])) rfl rfl (hb hby d2_20)
  refine Onw.go st6 ?_
  show Onw p e below _ (T6.setTop (mkF m 23 #[.val (.ref r0), .val (.ref r1), .val (.int p2), .val (.int p3), .val .null, .unset] [(.int (0 : Int32)), (.ref r0)]))
  obtain ⟨T7, h7, X7, e7, W7, st7⟩ := putFN X6 hx hZ5 hown5 (hw _ (List.mem_of_getElem? (i := 33) rfl)) Via.refl e6 (CC.ext Ex5) (EE.ext Ex5) (Or.inr ⟨(hw _ (List.mem_of_getElem? (i := 5) rfl)), rfl, hnm⟩) (hw _ (List.mem_of_getElem? (i := 2) rfl)) (ty := .byte) (v' := (.int (0 : Int32))) (by decide) rfl rfl (g := (mkF m 23 #[.val (.ref r0), .val (.ref r1), .val (.int p2), .val (.int p3), .val .null, .unset] [(.int (0 : Int32)), (.ref r0)])) rfl rfl (hb hby d2_23)
  have N7 := Fr.snoc X7 N4 g_r0
  refine Onw.go st7 ?_
  show Onw p e below _ (T7.setTop (mkF m 26 #[.val (.ref r0), .val (.ref r1), .val (.int p2), .val (.int p3), .val .null, .unset] []))
  have CR7 := CR5.trans (CHr.wr W7 SF3 CH5)
  have CH7 := CHv.wr W7 SF3 CH5
  have hk7 := Nat.le_trans hk5 (Nat.le_of_eq W7.size.symm)
  have K3 : Keep h0 h7 [r0] := ((((Keep.refl h0 [r0]).ext Ex2).wr W4 (Or.inl (List.mem_of_getElem? (i := 0) rfl))).ext Ex5).wr W7 (Or.inl (List.mem_of_getElem? (i := 0) rfl))
  have V3 := (VV.ext Ex5).other W7 (Or.inr (slot_ne (Or.inr (hw _ (List.mem_of_getElem? (i := 4) rfl))) (Or.inr (hw _ (List.mem_of_getElem? (i := 5) rfl))) (by decide) (t := (.array .byte)) (t' := .byte) (by decide) (by decide)))
  have A3 := (AA.ext Ex5).other W7 (Ne.symm ne1.2)
  exact Onw.retH X7 hS5 (by rw [e7]; exact hk7) Bd.notSynchronized (fun _ => rfl) (fun fs hr => X7.returnOut hx Bd.returns (hb hby d2_26) hr) ⟨rfl, N7, by rw [e7]; exact K3, by rw [e7]; exact (EE.ext Ex5).wr W7, by rw [e7]; exact (CC.ext Ex5).same W7, t_LE, kk_LE, by rw [e7]; exact V3, by rw [e7]; exact A3⟩ (by decide) (by decide) (by rw [hh, e7]; exact CR7.trans (CHv.at X7 hZ5 hEL CH7))
theorem ef_1 (m : MethodId) (x0 : Addr) (x1 : Addr) : entryFrame m #[(.ref x0), (.ref x1)] 2 = mkF m 0 #[.val (.ref x0), .val (.ref x1)] [] := by first | (simp [entryFrame, mkF, argsToLocals, Value.category]; done) | rfl
def Q_rm1 (Z : State) (r0 : Addr) (r1 : Addr) (h0 : Heap) (n0 : Nat) (v : Option Value) (h : Heap) (L : List Loc) : Prop := v = none ∧ Fr n0 L ∧ Keep h0 h [r0] ∧ Exa Z h r0 "java/lang/String" ∧ Fld Z h r0 "java/lang/String" "coder" "B" (.int (0 : Int32)) ∧ ∃ (t : Addr) (kb : ClassId), Fld Z h r0 "java/lang/String" "value" "[B" (.ref t) ∧ Arv Z h t kb .byte (0 : Int32) [] (.int (0 : Int32))
theorem d1_0 : decode jdk_42_method_3_code 0 = .ok (.aload_n 0, 1) := by decide +kernel
theorem d1_1 : decode jdk_42_method_3_code 1 = .ok (.aload_n 1, 1) := by decide +kernel
theorem d1_2 : decode jdk_42_method_3_code 2 = .ok (.iconst 0, 1) := by decide +kernel
theorem d1_3 : decode jdk_42_method_3_code 3 = .ok (.aload_n 1, 1) := by decide +kernel
theorem d1_4 : decode jdk_42_method_3_code 4 = .ok (.arraylength, 1) := by decide +kernel
theorem d1_5 : decode jdk_42_method_3_code 5 = .ok (.aconst_null, 1) := by decide +kernel
theorem d1_6 : decode jdk_42_method_3_code 6 = .ok (.invokespecial 27, 3) := by decide +kernel
theorem d1_9 : decode jdk_42_method_3_code 9 = .ok (.return_, 1) := by decide +kernel
set_option maxRecDepth 65536 in
set_option maxHeartbeats 40000000 in
theorem rm1 (l : Launch) (Z : State) (a0 : Array Value) (hw : ∀ d ∈ tables_1, d.before a0 Z = true) (ws : List Jvm.Cond) (r0 : Addr) (r1 : Addr) (h0 : Heap) (n0 : Nat) (E0 : Exa Z h0 r0 "java/lang/String") (C0 : Fld Z h0 r0 "java/lang/String" "coder" "B" (.int (0 : Int32))) (V0 : Fld Z h0 r0 "java/lang/String" "value" "[B" .null) (g_r0 : n0 ≤ r0) (kc : ClassId) (A0 : Arv Z h0 r1 kc .char (0 : Int32) [] (.int (0 : Int32))) :
    MetFree l (⟨"java/lang/String", "<init>", "([C)V"⟩ : MethodName) (head1 (Jvm.Cond.code (⟨"java/lang/String", "<init>", "([C)V"⟩ : MethodName) jdk_42_method_3_code 2 none :: ws) ({ frames := 2, cells := 4, slots := 8, locals := 40 } : Room)) (fun a U => a = #[(.ref r0), (.ref r1)] ∧ Z.Warmed39 U.vm ∧ U.heap = h0 ∧ CHv Z own_EL U.vm h0) (fun _ _ _ _ _ => True) (fun _ U o U' => ∃ v L, o = .returned v ∧ Q_rm1 Z r0 r1 h0 n0 v U'.heap L ∧ CHr Z own_EL U.vm U.heap U'.vm U'.heap ∧ ReturnedEndW U o U' L ({ frames := 2, cells := 4, slots := 8, locals := 40 } : Room).cells ({ frames := 2, cells := 4, slots := 8, locals := 40 } : Room).slots) := by
  refine MetFree.of_bodySF (plainFor_of_name pn_1) hisR ?_
  intro p e s m args below meth c s₁ Bd hml0 hP hK
  obtain ⟨rfl, hZ, hh, CH0⟩ := hP
  have hx := Bd.exec
  have hby := Bd.bytes
  have hml : c.maxLocals = 2 := hml0
  have hown : s.vm.findClass "java/lang/String" = some m.cls := findClass_of_methodNamed Bd.named
  have hnm := (name_of_methodNamed Bd.named Bd.method).1
  have X0 : Stand p l e ({ frames := 2, cells := 4, slots := 8, locals := 40 } : Room) s m #[(.ref r0), (.ref r1)] below meth c s₁ [] 0 0 := Stand.of_body Bd
  have e0 : s₁.heap = h0 := by rw [← hh, Bd.state]; rfl
  have N0 := Fr.nil n0
  refine Onw.of (Onw.go (fun own_u k => castTop (ef_1 m r0 r1) k) ?_)
  show Onw p e below _ (s₁.setTop (mkF m 0 #[.val (.ref r0), .val (.ref r1)] []))
  have hEL := own_EW hw
  have hstr := own_str hw
  have hS0 : s.Since s.vm 0 := (State.WarmedH.refl s).since 0
  have hk0 : 0 ≤ h0.size := Nat.zero_le _
  have CR0 := CHr.refl CH0
  obtain ⟨cl, Ar, qa, Sa, Na, Ha, Ga⟩ := A0
  refine Onw.go (fun own_u kt => XS.aloadN X0.here hx rfl (hb hby d1_0) rfl rfl kt) ?_
  show Onw p e below _ (s₁.setTop (mkF m 1 #[.val (.ref r0), .val (.ref r1)] [(.ref r0)]))
  refine Onw.go (fun own_u kt => XS.aloadN X0.here hx rfl (hb hby d1_1) rfl rfl kt) ?_
  show Onw p e below _ (s₁.setTop (mkF m 2 #[.val (.ref r0), .val (.ref r1)] [(.ref r1), (.ref r0)]))
  refine Onw.go (fun own_u kt => XS.iconst X0.here hx rfl (hb hby d1_2) kt) ?_
  show Onw p e below _ (s₁.setTop (mkF m 3 #[.val (.ref r0), .val (.ref r1)] [(.int (0 : Int32)), (.ref r1), (.ref r0)]))
  refine Onw.go (fun own_u kt => XS.aloadN X0.here hx rfl (hb hby d1_3) rfl rfl kt) ?_
  show Onw p e below _ (s₁.setTop (mkF m 4 #[.val (.ref r0), .val (.ref r1)] [(.ref r1), (.int (0 : Int32)), (.ref r1), (.ref r0)]))
  refine Onw.go (X0.arraylength hx (by rw [e0]; exact Ar.1) (State.isArrayOf_alike hZ.alike Ar.2.1) (g := (mkF m 4 #[.val (.ref r0), .val (.ref r1)] [(.ref r1), (.int (0 : Int32)), (.ref r1), (.ref r0)])) rfl rfl (hb hby d1_4)) ?_
  rw [len_of Sa Na]
  show Onw p e below _ (s₁.setTop (mkF m 5 #[.val (.ref r0), .val (.ref r1)] [(.int (0 : Int32)), (.int (0 : Int32)), (.ref r1), (.ref r0)]))
  refine Onw.go (fun own_u kt => XS.aconstNull X0.here hx rfl (hb hby d1_5) kt) ?_
  show Onw p e below _ (s₁.setTop (mkF m 6 #[.val (.ref r0), .val (.ref r1)] [.null, (.int (0 : Int32)), (.int (0 : Int32)), (.ref r1), (.ref r0)]))
  obtain ⟨_, _, ⟨T1, L1, k1, n1⟩, -, Y1, hS1a, hg1, ⟨Lc1, hQ1, l1, y1, z1, CQ1⟩, st1⟩ := Jvm.Stand.specialBackS (s := s.setVm s.vm) X0 hx (y := (⟨"java/lang/String", "<init>", "([CIILjava/lang/Void;)V"⟩ : MethodName)) rfl hown (mvT hZ (hw _ (List.mem_of_getElem? (i := 15) rfl))) (mvT hZ (hw _ (List.mem_of_getElem? (i := 16) rfl))) (mvT hZ (hw _ (List.mem_of_getElem? (i := 18) rfl))) (by decide) (backOfSH (s := s) (vm0 := s.vm) (W := 0) (rm2 l Z a0 hw [] r0 r1 (0 : Int32) (0 : Int32)  h0 n0 E0 C0 V0 g_r0 rfl) hZ (hw _ (List.mem_of_getElem? (i := 18) rfl)) (hw _ (List.mem_of_getElem? (i := 1) rfl)) (by decide) (by decide) hEL CH0) (g := (mkF m 6 #[.val (.ref r0), .val (.ref r1)] [.null, (.int (0 : Int32)), (.int (0 : Int32)), (.ref r1), (.ref r0)])) rfl (by rw [hml]; rfl) (Steps.refl _) (a := r0) (argsL := [(.ref r1), (.int (0 : Int32)), (.int (0 : Int32)), .null]) (rest := []) (lenOf pd_2 rfl) rfl (by show 2 * 0 + _ ≤ _; exact Nat.le_of_eq rfl) (hb hby d1_6) (fun _ _ => ⟨rfl, e0, (by decide : 0 + 4 ≤ _), (by decide : 0 + 8 ≤ _)⟩)
  dsimp only [Pt.U, Pt.locs, Pt.cells, Pt.slots] at Y1 l1 y1 z1 st1 hQ1 hS1a hg1 CQ1
  subst l1 y1 z1
  obtain ⟨rfl, N1q, K1, E1x, C1x, t1x, kb1x, V1x, A1x⟩ := hQ1
  have N1 := Fr.app N0 N1q
  have hkT1 : _ ≤ s₁.heap.size := Nat.le_trans hk0 (Nat.le_of_eq (congrArg Array.size e0.symm))
  obtain ⟨X1, hS1⟩ := againW Y1 hS0 hS1a (Nat.le_trans hkT1 hg1)
  have hZ1 : Z.Warmed39 T1.vm := State.Warmed39.trans (t := s.setVm s.vm) hZ hS1a.1
  have hown1 : T1.vm.findClass "java/lang/String" = some m.cls := by rw [hS1a.1.alike.findClass]; exact hown
  have CR1 := CR0.trans CQ1
  have CH1 := CQ1.1
  have hk1 := Nat.le_refl T1.heap.size
  refine Onw.go (fun own_u kt => st1.trans kt) ?_
  show Onw p e below _ (T1.setTop (mkF m 9 #[.val (.ref r0), .val (.ref r1)] []))
  exact Onw.retH X1 hS1 hk1 Bd.notSynchronized (fun _ => rfl) (fun fs hr => X1.returnOut hx Bd.returns (hb hby d1_9) hr) ⟨rfl, N1, K1, E1x, C1x, t1x, kb1x, V1x, A1x⟩ (by decide) (by decide) (by rw [hh]; exact CR1.trans (CHv.at X1 hZ1 hEL CH1))
set_option maxRecDepth 65536 in
set_option maxHeartbeats 40000000 in
theorem law_490 {p : Program} {l : Launch} {e : Env} {s : State} {m : MethodId} {args : Array Value} {below : List Frame} {meth : Method} {c : Code} {Z : State} {a0 : Array Value} {W : Outcome → State → Prop} (hx : p.tables.exec = Jvm.exec) {vm0 : Vm} (hZ : Z.Warmed39 vm0) (hw : ∀ d ∈ tables_1, d.before a0 Z = true) (hby : c.code = code) (hml : c.maxLocals = 13) (hown : vm0.findClass "com/example/clockwise/clockwise/LoggingIsSwitchPinLaw" = some m.cls) (hEL : EW Z a0 own_EL) {h0 : Heap} {n0 : Nat} (CH0 : CHv Z own_EL vm0 h0) {k0 : Nat} (hS0 : s.Since vm0 k0) (hk0 : k0 ≤ h0.size) (s0 s1 s2 s3 s4 s5 s6 s7 s8 s9 s10 s12 : Slot) (ex : Int32) (b t : Addr) (kb : ClassId) (cs : List Int32) (zc : Int32)
    {T0 : State} {locs0 : List Loc} {cells slots : Nat} (X0 : Stand p l e room_1 (s.setVm vm0) m args below meth c T0 locs0 cells slots) (e0 : T0.heap = h0) (N0 : Fr n0 locs0) (E0 : Exa Z h0 b "java/lang/String") (C0 : Fld Z h0 b "java/lang/String" "coder" "B" (.int (0 : Int32))) (V0 : Fld Z h0 b "java/lang/String" "value" "[B" (.ref t)) (K0 : Arv Z h0 t kb .byte (Int32.ofNat cs.length) ((cs.map StrChars.lo8).map Value.int) (.int (0 : Int32))) (S_C : Sta Z h0 "java/lang/String" "COMPACT_STRINGS" "Z" (.int zc)) (hz : ¬ zc = 0) (hp : ∀ c ∈ cs, ¬ c < 0 ∧ ¬ (255 : Int32) < c) (hl : cs.length ≤ 4000) (hex : own_sw cs = ex) (hc : cells + 4 ≤ 24) (hs : slots + 52 ≤ 5312) (hK : ∀ (vm1 : Vm) (T' : State) (locs' : List Loc) (cells' slots' j : Nat) (Ls : Array Slot), Stand p l e room_1 (s.setVm vm1) m args below meth c T' locs' cells' slots' → s.Since vm1 j → j ≤ T'.heap.size → Fr n0 locs' → cells' ≤ 24 → slots' ≤ 5312 → Onw p e below W (T'.setTop (mkF m 503 Ls [(.int (1 : Int32))]))) :
    Onw p e below W (T0.setTop (mkF m 490 #[s0, s1, s2, s3, s4, s5, s6, s7, s8, s9, s10, .val (.int ex), s12] [(.ref b)])) := by
  obtain ⟨_, _, ⟨T1, L1, k1, n1⟩, -, Y1, hS1a, hg1, ⟨Lc1, hQ1, l1, y1, z1, CQ1⟩, st1⟩ := callSS (s := s.setVm vm0) X0 hx (y := (⟨"com/example/clockwise/clockwise/Logging", "isSwitch", "(Ljava/lang/String;)Z"⟩ : MethodName)) hown (mvT hZ (hw _ (List.mem_of_getElem? (i := 35) rfl))) (mvT hZ (hw _ (List.mem_of_getElem? (i := 36) rfl))) (mvT hZ (hw _ (List.mem_of_getElem? (i := 37) rfl))) (mvT hZ (hw _ (List.mem_of_getElem? (i := 38) rfl))) (by decide) (backOfSH (s := s) (vm0 := vm0) (W := 0) (rm7 l Z a0 hw [] b t kb cs zc h0 n0 E0 C0 V0 K0 S_C hz hp hl) hZ (hw _ (List.mem_of_getElem? (i := 38) rfl)) (hw _ (List.mem_of_getElem? (i := 37) rfl)) (by decide) (by decide) hEL CH0) (g := (mkF m 490 #[s0, s1, s2, s3, s4, s5, s6, s7, s8, s9, s10, .val (.int ex), s12] [(.ref b)])) rfl (by rw [hml]; rfl) (argsL := [(.ref b)]) (rest := []) (lenOf pd_4 rfl) rfl (by show 2 * 0 + _ ≤ _; exact Nat.le_of_eq rfl) (hb hby at_490) (fun _ _ => ⟨rfl, e0, hc, hs⟩)
  dsimp only [Pt.U, Pt.locs, Pt.cells, Pt.slots] at Y1 l1 y1 z1 st1 hQ1 hS1a hg1 CQ1
  subst l1 y1 z1
  obtain ⟨rfl, N1q⟩ := hQ1
  have N1 := Fr.app N0 N1q
  have hkT1 : _ ≤ T0.heap.size := Nat.le_trans hk0 (Nat.le_of_eq (congrArg Array.size e0.symm))
  obtain ⟨X1, hS1⟩ := againW Y1 hS0 hS1a (Nat.le_trans hkT1 hg1)
  have hZ1 : Z.Warmed39 T1.vm := State.Warmed39.trans (t := s.setVm vm0) hZ hS1a.1
  have hown1 : T1.vm.findClass "com/example/clockwise/clockwise/LoggingIsSwitchPinLaw" = some m.cls := by rw [hS1a.1.alike.findClass]; exact hown
  have CH1 := CQ1.1
  have hk1 := Nat.le_refl T1.heap.size
  refine Onw.go (fun own_u kt => st1.trans kt) ?_
  show Onw p e below _ (T1.setTop (mkF m 493 #[s0, s1, s2, s3, s4, s5, s6, s7, s8, s9, s10, .val (.int ex), s12] [(.int (own_sw cs))]))
  refine Onw.go (fun own_u kt => XS.iload X1.here hx rfl (hb hby at_493) rfl kt) ?_
  show Onw p e below _ (T1.setTop (mkF m 495 #[s0, s1, s2, s3, s4, s5, s6, s7, s8, s9, s10, .val (.int ex), s12] [(.int ex), (.int (own_sw cs))]))
  refine Onw.go (fun own_u kt => XS.icmpNo X1.here hx rfl (hb hby at_495) rfl (teq (hex : (own_sw cs) = ex)).2 kt) ?_
  show Onw p e below _ (T1.setTop (mkF m 498 #[s0, s1, s2, s3, s4, s5, s6, s7, s8, s9, s10, .val (.int ex), s12] []))
  refine Onw.go (fun own_u kt => XS.iconst X1.here hx rfl (hb hby at_498) kt) ?_
  show Onw p e below _ (T1.setTop (mkF m 499 #[s0, s1, s2, s3, s4, s5, s6, s7, s8, s9, s10, .val (.int ex), s12] [(.int (1 : Int32))]))
  refine Onw.go (fun own_u kt => XS.goto X1.here hx rfl (pc0 := 499) (pc' := 503) rfl (hb hby at_499) (by decide) (by decide) kt) ?_
  show Onw p e below _ (T1.setTop (mkF m 503 #[s0, s1, s2, s3, s4, s5, s6, s7, s8, s9, s10, .val (.int ex), s12] [(.int (1 : Int32))]))
  exact hK _ _ _ _ _ _ _ X1 hS1 hk1 N1 hc hs
set_option maxRecDepth 65536 in
set_option maxHeartbeats 40000000 in
theorem law_481 {p : Program} {l : Launch} {e : Env} {s : State} {m : MethodId} {args : Array Value} {below : List Frame} {meth : Method} {c : Code} {Z : State} {a0 : Array Value} {W : Outcome → State → Prop} (hx : p.tables.exec = Jvm.exec) {vm0 : Vm} (hZ : Z.Warmed39 vm0) (hw : ∀ d ∈ tables_1, d.before a0 Z = true) (hby : c.code = code) (hml : c.maxLocals = 13) (hown : vm0.findClass "com/example/clockwise/clockwise/LoggingIsSwitchPinLaw" = some m.cls) (hEL : EW Z a0 own_EL) {h0 : Heap} {n0 : Nat} (CH0 : CHv Z own_EL vm0 h0) {k0 : Nat} (hS0 : s.Since vm0 k0) (hk0 : k0 ≤ h0.size) (s0 s1 s2 s3 s4 s5 s6 s7 s8 s9 s12 : Slot) (ex : Int32) (arr : Addr) (kc : ClassId) (cs : List Int32) (zc : Int32)
    {T0 : State} {locs0 : List Loc} (X0 : Stand p l e room_1 (s.setVm vm0) m args below meth c T0 locs0 5 62) (e0 : T0.heap = h0) (N0 : Fr n0 locs0) (Z0 : n0 ≤ h0.size) (A0 : Arv Z h0 arr kc .char (Int32.ofNat cs.length) (cs.map Value.int) (.int (0 : Int32))) (S_C : Sta Z h0 "java/lang/String" "COMPACT_STRINGS" "Z" (.int zc)) (hz : ¬ zc = 0) (hp : ∀ c ∈ cs, ¬ c < 0 ∧ ¬ (255 : Int32) < c) (hl : 0 < cs.length ∧ cs.length ≤ 10) (hex : own_sw cs = ex) (hK : ∀ (vm1 : Vm) (T' : State) (locs' : List Loc) (cells' slots' j : Nat) (Ls : Array Slot), Stand p l e room_1 (s.setVm vm1) m args below meth c T' locs' cells' slots' → s.Since vm1 j → j ≤ T'.heap.size → Fr n0 locs' → cells' ≤ 24 → slots' ≤ 5312 → Onw p e below W (T'.setTop (mkF m 503 Ls [(.int (1 : Int32))]))) :
    Onw p e below W (T0.setTop (mkF m 481 #[s0, s1, s2, s3, s4, s5, s6, s7, s8, s9, .val (.ref arr), .val (.int ex), s12] [])) := by
  obtain ⟨T1, h1, X1, e1, E1, A1, D1, -, st1⟩ := newO X0 hx hZ hown (hw _ (List.mem_of_getElem? (i := 11) rfl)) (hw _ (List.mem_of_getElem? (i := 2) rfl)) (hw _ (List.mem_of_getElem? (i := 1) rfl)) e0 (g := (mkF m 481 #[s0, s1, s2, s3, s4, s5, s6, s7, s8, s9, .val (.ref arr), .val (.int ex), s12] [])) rfl (hb hby at_481) (by decide) (by decide)
  obtain ⟨b, gg1⟩ : ∃ own_z, own_z = h0.size := ⟨_, rfl⟩
  rw [← gg1] at A1 D1 st1
  have F_value_b : Fld Z h1 b "java/lang/String" "value" "[B" .null := D1 (Or.inr (hw _ (List.mem_of_getElem? (i := 4) rfl))) (ty := (.array .byte)) (by decide)
  have F_coder_b : Fld Z h1 b "java/lang/String" "coder" "B" (.int (0 : Int32)) := D1 (Or.inr (hw _ (List.mem_of_getElem? (i := 5) rfl))) (ty := .byte) (by decide)
  refine Onw.go st1 ?_
  show Onw p e below _ (T1.setTop (mkF m 484 #[s0, s1, s2, s3, s4, s5, s6, s7, s8, s9, .val (.ref arr), .val (.int ex), s12] [(.ref b)]))
  have g_b : n0 ≤ b := Nat.le_trans Z0 (Nat.le_of_eq gg1.symm)
  have Sfb : Safe Z own_EL vm0 h1 b := own_safe hZ.alike A1 F_value_b
  have CH1 := CHv.ext E1 CH0
  have hk1 := Nat.le_trans hk0 E1.1
  have hws := own_words hw
  refine Onw.go (fun own_u kt => XS.dup X1.here hx rfl (hb hby at_484) rfl rfl kt) ?_
  show Onw p e below _ (T1.setTop (mkF m 485 #[s0, s1, s2, s3, s4, s5, s6, s7, s8, s9, .val (.ref arr), .val (.int ex), s12] [(.ref b), (.ref b)]))
  refine Onw.go (fun own_u kt => XS.aload X1.here hx rfl (hb hby at_485) rfl rfl kt) ?_
  show Onw p e below _ (T1.setTop (mkF m 487 #[s0, s1, s2, s3, s4, s5, s6, s7, s8, s9, .val (.ref arr), .val (.int ex), s12] [(.ref arr), (.ref b), (.ref b)]))
  obtain ⟨_, _, ⟨T2, L2, k2, n2⟩, -, X2, ⟨Lc2, hQ2, l2, y2, z2⟩, st2⟩ := X1.specialBack hx (y := (⟨"java/lang/String", "<init>", "([C)V"⟩ : MethodName)) rfl hown (mvT hZ (hw _ (List.mem_of_getElem? (i := 12) rfl))) (mvT hZ (hw _ (List.mem_of_getElem? (i := 13) rfl))) (mvT hZ (hw _ (List.mem_of_getElem? (i := 14) rfl))) (by decide) (StrChars.Road.backV (W := 1) hZ hws (kI := 4) (hw _ (List.mem_of_getElem? (i := 2) rfl)) (cs := cs) (bs := cs.map (fun c => c.toInt8.toInt32)) (n := cs.length) (n0 := n0) g_b (Nat.le_trans Z0 E1.1) A1 F_value_b F_coder_b (A0.ext E1) (S_C.ext E1) hz rfl rfl hl.1 (by omega) hp rfl (by decide) (by decide)) (g := (mkF m 487 #[s0, s1, s2, s3, s4, s5, s6, s7, s8, s9, .val (.ref arr), .val (.int ex), s12] [(.ref arr), (.ref b), (.ref b)])) rfl (by rw [hml]; rfl) (Steps.refl _) (a := b) (argsL := [(.ref arr)]) (rest := [(.ref b)]) (lenOf pd_1 rfl) rfl (by show 2 * 0 + _ ≤ _; exact Nat.le_of_eq rfl) (hb hby at_487) (fun _ _ => ⟨rfl, e1, (by decide : 6 + 1 ≤ _), (by show 66 + cs.length ≤ 5312; omega)⟩)
  dsimp only [Pt.U, Pt.locs, Pt.cells, Pt.slots] at X2 l2 y2 z2 st2 hQ2
  subst l2 y2 z2
  obtain ⟨rfl, N2q, K2, E2x, C2x, t2x, kb2x, g2x, sz2x, ne2x, V2x, A2x⟩ := hQ2
  have N2 := Fr.app N0 N2q
  refine Onw.go (fun own_u kt => st2.trans kt) ?_
  show Onw p e below _ (T2.setTop (mkF m 490 #[s0, s1, s2, s3, s4, s5, s6, s7, s8, s9, .val (.ref arr), .val (.int ex), s12] [(.ref b)]))
  have CHm := CHv.keep K2 (fun x hx => by cases List.mem_singleton.mp hx; exact Sfb) CH1
  have hkm := Nat.le_trans hk1 K2.1
  have A2m : Arv Z T2.heap t2x kb2x .byte (Int32.ofNat cs.length) ((cs.map StrChars.lo8).map Value.int) (.int (0 : Int32)) := A2x
  exact law_490 hx hZ hw hby hml hown hEL CHm hS0 hkm s0 s1 s2 s3 s4 s5 s6 s7 s8 s9 (.val (.ref arr)) s12 ex b t2x kb2x cs zc X2 rfl N2 E2x C2x V2x A2m (own_stak (S_C.ext E1) K2 A1) hz hp (by omega) hex (by decide) (by show 66 + cs.length + 52 ≤ 5312; omega) hK
set_option maxRecDepth 65536 in
set_option maxHeartbeats 40000000 in
theorem law_481e {p : Program} {l : Launch} {e : Env} {s : State} {m : MethodId} {args : Array Value} {below : List Frame} {meth : Method} {c : Code} {Z : State} {a0 : Array Value} {W : Outcome → State → Prop} (hx : p.tables.exec = Jvm.exec) {vm0 : Vm} (hZ : Z.Warmed39 vm0) (hw : ∀ d ∈ tables_1, d.before a0 Z = true) (hby : c.code = code) (hml : c.maxLocals = 13) (hown : vm0.findClass "com/example/clockwise/clockwise/LoggingIsSwitchPinLaw" = some m.cls) (hEL : EW Z a0 own_EL) {h0 : Heap} {n0 : Nat} (CH0 : CHv Z own_EL vm0 h0) {k0 : Nat} (hS0 : s.Since vm0 k0) (hk0 : k0 ≤ h0.size) (s0 s1 s2 s3 s4 s5 s6 s7 s8 s9 s12 : Slot) (ex : Int32) (arr : Addr) (kc : ClassId) (zc : Int32)
    {T0 : State} {locs0 : List Loc} (X0 : Stand p l e room_1 (s.setVm vm0) m args below meth c T0 locs0 5 62) (e0 : T0.heap = h0) (N0 : Fr n0 locs0) (Z0 : n0 ≤ h0.size) (A0 : Arv Z h0 arr kc .char (0 : Int32) [] (.int (0 : Int32))) (S_C : Sta Z h0 "java/lang/String" "COMPACT_STRINGS" "Z" (.int zc)) (hz : ¬ zc = 0) (hex : own_sw [] = ex) (hK : ∀ (vm1 : Vm) (T' : State) (locs' : List Loc) (cells' slots' j : Nat) (Ls : Array Slot), Stand p l e room_1 (s.setVm vm1) m args below meth c T' locs' cells' slots' → s.Since vm1 j → j ≤ T'.heap.size → Fr n0 locs' → cells' ≤ 24 → slots' ≤ 5312 → Onw p e below W (T'.setTop (mkF m 503 Ls [(.int (1 : Int32))]))) :
    Onw p e below W (T0.setTop (mkF m 481 #[s0, s1, s2, s3, s4, s5, s6, s7, s8, s9, .val (.ref arr), .val (.int ex), s12] [])) := by
  obtain ⟨T1, h1, X1, e1, E1, A1, D1, -, st1⟩ := newO X0 hx hZ hown (hw _ (List.mem_of_getElem? (i := 11) rfl)) (hw _ (List.mem_of_getElem? (i := 2) rfl)) (hw _ (List.mem_of_getElem? (i := 1) rfl)) e0 (g := (mkF m 481 #[s0, s1, s2, s3, s4, s5, s6, s7, s8, s9, .val (.ref arr), .val (.int ex), s12] [])) rfl (hb hby at_481) (by decide) (by decide)
  obtain ⟨b, gg1⟩ : ∃ own_z, own_z = h0.size := ⟨_, rfl⟩
  rw [← gg1] at A1 D1 st1
  have F_value_b : Fld Z h1 b "java/lang/String" "value" "[B" .null := D1 (Or.inr (hw _ (List.mem_of_getElem? (i := 4) rfl))) (ty := (.array .byte)) (by decide)
  have F_coder_b : Fld Z h1 b "java/lang/String" "coder" "B" (.int (0 : Int32)) := D1 (Or.inr (hw _ (List.mem_of_getElem? (i := 5) rfl))) (ty := .byte) (by decide)
  refine Onw.go st1 ?_
  show Onw p e below _ (T1.setTop (mkF m 484 #[s0, s1, s2, s3, s4, s5, s6, s7, s8, s9, .val (.ref arr), .val (.int ex), s12] [(.ref b)]))
  have g_b : n0 ≤ b := Nat.le_trans Z0 (Nat.le_of_eq gg1.symm)
  have CH1 := CHv.ext E1 CH0
  have hk1 := Nat.le_trans hk0 E1.1
  refine Onw.go (fun own_u kt => XS.dup X1.here hx rfl (hb hby at_484) rfl rfl kt) ?_
  show Onw p e below _ (T1.setTop (mkF m 485 #[s0, s1, s2, s3, s4, s5, s6, s7, s8, s9, .val (.ref arr), .val (.int ex), s12] [(.ref b), (.ref b)]))
  refine Onw.go (fun own_u kt => XS.aload X1.here hx rfl (hb hby at_485) rfl rfl kt) ?_
  show Onw p e below _ (T1.setTop (mkF m 487 #[s0, s1, s2, s3, s4, s5, s6, s7, s8, s9, .val (.ref arr), .val (.int ex), s12] [(.ref arr), (.ref b), (.ref b)]))
  obtain ⟨_, _, ⟨T2, L2, k2, n2⟩, -, Y2, hS2a, hg2, ⟨Lc2, hQ2, l2, y2, z2, CQ2⟩, st2⟩ := Jvm.Stand.specialBackS (s := s.setVm vm0) X1 hx (y := (⟨"java/lang/String", "<init>", "([C)V"⟩ : MethodName)) rfl hown (mvT hZ (hw _ (List.mem_of_getElem? (i := 12) rfl))) (mvT hZ (hw _ (List.mem_of_getElem? (i := 13) rfl))) (mvT hZ (hw _ (List.mem_of_getElem? (i := 14) rfl))) (by decide) (backOfSH (s := s) (vm0 := vm0) (W := 1) (rm1 l Z a0 hw [] b arr  h1 n0 A1 F_coder_b F_value_b g_b _ (A0.ext E1)) hZ (hw _ (List.mem_of_getElem? (i := 14) rfl)) (hw _ (List.mem_of_getElem? (i := 1) rfl)) (by decide) (by decide) hEL CH1) (g := (mkF m 487 #[s0, s1, s2, s3, s4, s5, s6, s7, s8, s9, .val (.ref arr), .val (.int ex), s12] [(.ref arr), (.ref b), (.ref b)])) rfl (by rw [hml]; rfl) (Steps.refl _) (a := b) (argsL := [(.ref arr)]) (rest := [(.ref b)]) (lenOf pd_1 rfl) rfl (by show 2 * 0 + _ ≤ _; exact Nat.le_of_eq rfl) (hb hby at_487) (fun _ _ => ⟨rfl, e1, (by decide : 6 + 4 ≤ _), (by decide : 66 + 8 ≤ _)⟩)
  dsimp only [Pt.U, Pt.locs, Pt.cells, Pt.slots] at Y2 l2 y2 z2 st2 hQ2 hS2a hg2 CQ2
  subst l2 y2 z2
  obtain ⟨rfl, N2q, K2, E2x, C2x, t2x, kb2x, V2x, A2x⟩ := hQ2
  have N2 := Fr.app N0 N2q
  have hkT2 : _ ≤ T1.heap.size := Nat.le_trans hk1 (Nat.le_of_eq (congrArg Array.size e1.symm))
  obtain ⟨X2, hS2⟩ := againW Y2 hS0 hS2a (Nat.le_trans hkT2 hg2)
  have hZ2 : Z.Warmed39 T2.vm := State.Warmed39.trans (t := s.setVm vm0) hZ hS2a.1
  have hown2 : T2.vm.findClass "com/example/clockwise/clockwise/LoggingIsSwitchPinLaw" = some m.cls := by rw [hS2a.1.alike.findClass]; exact hown
  have CH2 := CQ2.1
  have hk2 := Nat.le_refl T2.heap.size
  refine Onw.go (fun own_u kt => st2.trans kt) ?_
  show Onw p e below _ (T2.setTop (mkF m 490 #[s0, s1, s2, s3, s4, s5, s6, s7, s8, s9, .val (.ref arr), .val (.int ex), s12] [(.ref b)]))
  exact law_490 hx hZ2 hw hby hml hown2 hEL CH2 hS2 hk2 s0 s1 s2 s3 s4 s5 s6 s7 s8 s9 (.val (.ref arr)) s12 ex b t2x kb2x [] zc X2 rfl N2 E2x C2x V2x A2x (own_stak (S_C.ext E1) K2 A1) hz (fun c hc => absurd hc List.not_mem_nil) (by decide) hex (by decide) (by decide) hK
set_option maxRecDepth 65536 in
set_option maxHeartbeats 40000000 in
theorem law_19 {p : Program} {l : Launch} {e : Env} {s : State} {m : MethodId} {args : Array Value} {below : List Frame} {meth : Method} {c : Code} {Z : State} {a0 : Array Value} {W : Outcome → State → Prop} (hx : p.tables.exec = Jvm.exec) {vm0 : Vm} (hZ : Z.Warmed39 vm0) (hw : ∀ d ∈ tables_1, d.before a0 Z = true) (hby : c.code = code) (hml : c.maxLocals = 13) (hown : vm0.findClass "com/example/clockwise/clockwise/LoggingIsSwitchPinLaw" = some m.cls) (hEL : EW Z a0 own_EL) {h0 : Heap} {n0 : Nat} (CH0 : CHv Z own_EL vm0 h0) {k0 : Nat} (hS0 : s.Since vm0 k0) (hk0 : k0 ≤ h0.size) (p0 p1 p2 p3 kd mu zc : Int32) (fm : Value)
    {T0 : State} {locs0 : List Loc} (X0 : Stand p l e room_1 (s.setVm vm0) m args below meth c T0 locs0 0 0) (e0 : T0.heap = h0) (N0 : Fr n0 locs0) (Z0 : n0 ≤ h0.size) (S_C : Sta Z h0 "java/lang/String" "COMPACT_STRINGS" "Z" (.int zc)) (hz : ¬ zc = 0) (S_F : Sta Z h0 "jdk/internal/util/Preconditions" "SIOOBE_FORMATTER" "Ljava/util/function/BiFunction;" fm) (rf : fm.isRef = true) (hkd : ¬ kd < 0 ∧ ¬ (7 : Int32) < kd) (hK : ∀ (vm1 : Vm) (T' : State) (locs' : List Loc) (cells' slots' j : Nat) (Ls : Array Slot), Stand p l e room_1 (s.setVm vm1) m args below meth c T' locs' cells' slots' → s.Since vm1 j → j ≤ T'.heap.size → Fr n0 locs' → cells' ≤ 24 → slots' ≤ 5312 → Onw p e below W (T'.setTop (mkF m 503 Ls [(.int (1 : Int32))]))) :
    Onw p e below W (T0.setTop (mkF m 19 #[.val (.int p0), .val (.int p1), .val (.int p2), .val (.int p3), .val (.int kd), .unset, .unset, .unset, .unset, .unset, .unset, .unset, .unset] [(.int mu)])) := by
  have hstr := own_str hw
  have hch := own_wordsChN hw
  refine Onw.go (fun own_u kt => XS.istore X0.here hx rfl (hb hby at_19) rfl (l' := #[.val (.int p0), .val (.int p1), .val (.int p2), .val (.int p3), .val (.int kd), .val (.int mu), .unset, .unset, .unset, .unset, .unset, .unset, .unset]) rfl kt) ?_
  show Onw p e below _ (T0.setTop (mkF m 21 #[.val (.int p0), .val (.int p1), .val (.int p2), .val (.int p3), .val (.int kd), .val (.int mu), .unset, .unset, .unset, .unset, .unset, .unset, .unset] []))
  refine Onw.go (fun own_u kt => XS.iloadN X0.here hx rfl (hb hby at_21) rfl kt) ?_
  show Onw p e below _ (T0.setTop (mkF m 22 #[.val (.int p0), .val (.int p1), .val (.int p2), .val (.int p3), .val (.int kd), .val (.int mu), .unset, .unset, .unset, .unset, .unset, .unset, .unset] [(.int p2)]))
  refine Onw.go (fun own_u kt => XS.sipush X0.here hx rfl (hb hby at_22) kt) ?_
  show Onw p e below _ (T0.setTop (mkF m 25 #[.val (.int p0), .val (.int p1), .val (.int p2), .val (.int p3), .val (.int kd), .val (.int mu), .unset, .unset, .unset, .unset, .unset, .unset, .unset] [(.int (255 : Int32)), (.int p2)]))
  refine Onw.go (fun own_u kt => XS.iand X0.here hx rfl (hb hby at_25) rfl kt) ?_
  show Onw p e below _ (T0.setTop (mkF m 26 #[.val (.int p0), .val (.int p1), .val (.int p2), .val (.int p3), .val (.int kd), .val (.int mu), .unset, .unset, .unset, .unset, .unset, .unset, .unset] [(.int (p2 &&& (255 : Int32)))]))
  refine Onw.go (fun own_u kt => XS.i2c X0.here hx rfl (hb hby at_26) rfl kt) ?_
  show Onw p e below _ (T0.setTop (mkF m 27 #[.val (.int p0), .val (.int p1), .val (.int p2), .val (.int p3), .val (.int kd), .val (.int mu), .unset, .unset, .unset, .unset, .unset, .unset, .unset] [(.int ((p2 &&& (255 : Int32)).toUInt32.toUInt16.toUInt32.toInt32))]))
  obtain ⟨cx, hc⟩ : ∃ own_z, own_z = ((p2 &&& (255 : Int32)).toUInt32.toUInt16.toUInt32.toInt32) := ⟨_, rfl⟩
  rw [← hc]
  show Onw p e below _ (T0.setTop (mkF m 27 #[.val (.int p0), .val (.int p1), .val (.int p2), .val (.int p3), .val (.int kd), .val (.int mu), .unset, .unset, .unset, .unset, .unset, .unset, .unset] [(.int cx)]))
  obtain ⟨hc1, hc2⟩ := own_ch _ _ hc
  refine Onw.go (fun own_u kt => XS.istore X0.here hx rfl (hb hby at_27) rfl (l' := #[.val (.int p0), .val (.int p1), .val (.int p2), .val (.int p3), .val (.int kd), .val (.int mu), .val (.int cx), .unset, .unset, .unset, .unset, .unset, .unset]) rfl kt) ?_
  show Onw p e below _ (T0.setTop (mkF m 29 #[.val (.int p0), .val (.int p1), .val (.int p2), .val (.int p3), .val (.int kd), .val (.int mu), .val (.int cx), .unset, .unset, .unset, .unset, .unset, .unset] []))
  refine Onw.go (fun own_u kt => XS.iloadN X0.here hx rfl (hb hby at_29) rfl kt) ?_
  show Onw p e below _ (T0.setTop (mkF m 30 #[.val (.int p0), .val (.int p1), .val (.int p2), .val (.int p3), .val (.int kd), .val (.int mu), .val (.int cx), .unset, .unset, .unset, .unset, .unset, .unset] [(.int p3)]))
  refine Onw.go (fun own_u kt => XS.sipush X0.here hx rfl (hb hby at_30) kt) ?_
  show Onw p e below _ (T0.setTop (mkF m 33 #[.val (.int p0), .val (.int p1), .val (.int p2), .val (.int p3), .val (.int kd), .val (.int mu), .val (.int cx), .unset, .unset, .unset, .unset, .unset, .unset] [(.int (255 : Int32)), (.int p3)]))
  refine Onw.go (fun own_u kt => XS.iand X0.here hx rfl (hb hby at_33) rfl kt) ?_
  show Onw p e below _ (T0.setTop (mkF m 34 #[.val (.int p0), .val (.int p1), .val (.int p2), .val (.int p3), .val (.int kd), .val (.int mu), .val (.int cx), .unset, .unset, .unset, .unset, .unset, .unset] [(.int (p3 &&& (255 : Int32)))]))
  refine Onw.go (fun own_u kt => XS.i2c X0.here hx rfl (hb hby at_34) rfl kt) ?_
  show Onw p e below _ (T0.setTop (mkF m 35 #[.val (.int p0), .val (.int p1), .val (.int p2), .val (.int p3), .val (.int kd), .val (.int mu), .val (.int cx), .unset, .unset, .unset, .unset, .unset, .unset] [(.int ((p3 &&& (255 : Int32)).toUInt32.toUInt16.toUInt32.toInt32))]))
  obtain ⟨dx, hd⟩ : ∃ own_z, own_z = ((p3 &&& (255 : Int32)).toUInt32.toUInt16.toUInt32.toInt32) := ⟨_, rfl⟩
  rw [← hd]
  show Onw p e below _ (T0.setTop (mkF m 35 #[.val (.int p0), .val (.int p1), .val (.int p2), .val (.int p3), .val (.int kd), .val (.int mu), .val (.int cx), .unset, .unset, .unset, .unset, .unset, .unset] [(.int dx)]))
  obtain ⟨hd1, hd2⟩ := own_ch _ _ hd
  refine Onw.go (fun own_u kt => XS.istore X0.here hx rfl (hb hby at_35) rfl (l' := #[.val (.int p0), .val (.int p1), .val (.int p2), .val (.int p3), .val (.int kd), .val (.int mu), .val (.int cx), .val (.int dx), .unset, .unset, .unset, .unset, .unset]) rfl kt) ?_
  show Onw p e below _ (T0.setTop (mkF m 37 #[.val (.int p0), .val (.int p1), .val (.int p2), .val (.int p3), .val (.int kd), .val (.int mu), .val (.int cx), .val (.int dx), .unset, .unset, .unset, .unset, .unset] []))
  obtain ⟨a_LS, T1, h1, k1, t_LS, kk_LS, X1, e1, Ex1, hS1, hk1, hZ1, hown1, E_LS, C_LS, V_LS, A_LS, lt1, lu1, CQ1, Lt_LS, Sf1, st1⟩ := ldcCH (s := s) (vm0 := vm0) X0 hx hZ hown (hw _ (List.mem_of_getElem? (i := 0) rfl)) hstr e0 hS0 hk0 hEL (by decide) CH0 (vs := [Value.int (45 : Int32), Value.int (118 : Int32)]) (z := (2 : Int32)) (by refine ⟨by decide, by decide⟩) (by decide) rfl (g := (mkF m 37 #[.val (.int p0), .val (.int p1), .val (.int p2), .val (.int p3), .val (.int kd), .val (.int mu), .val (.int cx), .val (.int dx), .unset, .unset, .unset, .unset, .unset] [])) rfl (hb hby at_37) (n := 8) (by decide) (by decide) (by decide) (by decide)
  have CH1 := CQ1.1
  refine Onw.go st1 ?_
  show Onw p e below _ (T1.setTop (mkF m 39 #[.val (.int p0), .val (.int p1), .val (.int p2), .val (.int p3), .val (.int kd), .val (.int mu), .val (.int cx), .val (.int dx), .unset, .unset, .unset, .unset, .unset] [(.ref a_LS)]))
  refine Onw.go (fun own_u kt => XS.astore X1.here hx rfl (hb hby at_39) rfl rfl (l' := #[.val (.int p0), .val (.int p1), .val (.int p2), .val (.int p3), .val (.int kd), .val (.int mu), .val (.int cx), .val (.int dx), .val (.ref a_LS), .unset, .unset, .unset, .unset]) rfl kt) ?_
  show Onw p e below _ (T1.setTop (mkF m 41 #[.val (.int p0), .val (.int p1), .val (.int p2), .val (.int p3), .val (.int kd), .val (.int mu), .val (.int cx), .val (.int dx), .val (.ref a_LS), .unset, .unset, .unset, .unset] []))
  obtain ⟨a_LL, T2, h2, k2, t_LL, kk_LL, X2, e2, Ex2, hS2, hk2, hZ2, hown2, E_LL, C_LL, V_LL, A_LL, lt2, lu2, CQ2, Lt_LL, Sf2, st2⟩ := ldcCH (s := s) (vm0 := T1.vm) X1 hx hZ1 hown1 (hw _ (List.mem_of_getElem? (i := 8) rfl)) hstr e1 hS1 hk1 hEL (by decide) CH1 (vs := [Value.int (45 : Int32), Value.int (45 : Int32), Value.int (118 : Int32), Value.int (101 : Int32), Value.int (114 : Int32), Value.int (98 : Int32), Value.int (111 : Int32), Value.int (115 : Int32), Value.int (101 : Int32)]) (z := (9 : Int32)) (by refine ⟨by decide, by decide⟩) (by decide) rfl (g := (mkF m 41 #[.val (.int p0), .val (.int p1), .val (.int p2), .val (.int p3), .val (.int kd), .val (.int mu), .val (.int cx), .val (.int dx), .val (.ref a_LS), .unset, .unset, .unset, .unset] [])) rfl (hb hby at_41) (n := 36) (by decide) (by decide) (by decide) (by decide)
  have CH2 := CQ2.1
  refine Onw.go st2 ?_
  show Onw p e below _ (T2.setTop (mkF m 43 #[.val (.int p0), .val (.int p1), .val (.int p2), .val (.int p3), .val (.int kd), .val (.int mu), .val (.int cx), .val (.int dx), .val (.ref a_LS), .unset, .unset, .unset, .unset] [(.ref a_LL)]))
  refine Onw.go (fun own_u kt => XS.astore X2.here hx rfl (hb hby at_43) rfl rfl (l' := #[.val (.int p0), .val (.int p1), .val (.int p2), .val (.int p3), .val (.int kd), .val (.int mu), .val (.int cx), .val (.int dx), .val (.ref a_LS), .val (.ref a_LL), .unset, .unset, .unset]) rfl kt) ?_
  show Onw p e below _ (T2.setTop (mkF m 45 #[.val (.int p0), .val (.int p1), .val (.int p2), .val (.int p3), .val (.int kd), .val (.int mu), .val (.int cx), .val (.int dx), .val (.ref a_LS), .val (.ref a_LL), .unset, .unset, .unset] []))
  refine Onw.go (fun own_u kt => XS.iload X2.here hx rfl (hb hby at_45) rfl kt) ?_
  show Onw p e below _ (T2.setTop (mkF m 47 #[.val (.int p0), .val (.int p1), .val (.int p2), .val (.int p3), .val (.int kd), .val (.int mu), .val (.int cx), .val (.int dx), .val (.ref a_LS), .val (.ref a_LL), .unset, .unset, .unset] [(.int kd)]))
  have ES : Ext h0 h2 := ⟨Nat.le_trans Ex1.1 Ex2.1, fun a c q => Ex2.2 _ _ (Ex1.2 _ _ q)⟩
  have Z2 := Nat.le_trans Z0 ES.1
  by_cases hk_0 : kd = (0 : Int32)
  · refine Onw.go (fun own_u kt => XS.ifNo X2.here hx rfl (hb hby at_47) rfl ((if0 _ _).trans (teq (hk_0 : kd = (0 : Int32))).2) kt) ?_
    show Onw p e below _ (T2.setTop (mkF m 50 #[.val (.int p0), .val (.int p1), .val (.int p2), .val (.int p3), .val (.int kd), .val (.int mu), .val (.int cx), .val (.int dx), .val (.ref a_LS), .val (.ref a_LL), .unset, .unset, .unset] []))
    refine Onw.go (fun own_u kt => XS.iloadN X2.here hx rfl (hb hby at_50) rfl kt) ?_
    show Onw p e below _ (T2.setTop (mkF m 51 #[.val (.int p0), .val (.int p1), .val (.int p2), .val (.int p3), .val (.int kd), .val (.int mu), .val (.int cx), .val (.int dx), .val (.ref a_LS), .val (.ref a_LL), .unset, .unset, .unset] [(.int p1)]))
    refine Onw.go (X2.ldcInt hx hown2 (mvT hZ2 (hw _ (List.mem_of_getElem? (i := 9) rfl))) (g := (mkF m 51 #[.val (.int p0), .val (.int p1), .val (.int p2), .val (.int p3), .val (.int kd), .val (.int mu), .val (.int cx), .val (.int dx), .val (.ref a_LS), .val (.ref a_LL), .unset, .unset, .unset] [(.int p1)])) rfl (hb hby at_51)) ?_
    show Onw p e below _ (T2.setTop (mkF m 53 #[.val (.int p0), .val (.int p1), .val (.int p2), .val (.int p3), .val (.int kd), .val (.int mu), .val (.int cx), .val (.int dx), .val (.ref a_LS), .val (.ref a_LL), .unset, .unset, .unset] [(.int (2147483647 : Int32)), (.int p1)]))
    refine Onw.go (fun own_u kt => XS.iand X2.here hx rfl (hb hby at_53) rfl kt) ?_
    show Onw p e below _ (T2.setTop (mkF m 54 #[.val (.int p0), .val (.int p1), .val (.int p2), .val (.int p3), .val (.int kd), .val (.int mu), .val (.int cx), .val (.int dx), .val (.ref a_LS), .val (.ref a_LL), .unset, .unset, .unset] [(.int (p1 &&& (2147483647 : Int32)))]))
    refine Onw.go (fun own_u kt => XS.iconst X2.here hx rfl (hb hby at_54) kt) ?_
    show Onw p e below _ (T2.setTop (mkF m 55 #[.val (.int p0), .val (.int p1), .val (.int p2), .val (.int p3), .val (.int kd), .val (.int mu), .val (.int cx), .val (.int dx), .val (.ref a_LS), .val (.ref a_LL), .unset, .unset, .unset] [(.int (2 : Int32)), (.int (p1 &&& (2147483647 : Int32)))]))
    refine Onw.go (fun own_u kt => iremM X2 hx rfl (hb hby at_55) rfl (by decide) kt) ?_
    show Onw p e below _ (T2.setTop (mkF m 56 #[.val (.int p0), .val (.int p1), .val (.int p2), .val (.int p3), .val (.int kd), .val (.int mu), .val (.int cx), .val (.int dx), .val (.ref a_LS), .val (.ref a_LL), .unset, .unset, .unset] [(.int ((p1 &&& (2147483647 : Int32)) % (2 : Int32)))]))
    obtain ⟨pp, hp0⟩ : ∃ own_z, own_z = ((p1 &&& (2147483647 : Int32)) % (2 : Int32)) := ⟨_, rfl⟩
    rw [← hp0]
    show Onw p e below _ (T2.setTop (mkF m 56 #[.val (.int p0), .val (.int p1), .val (.int p2), .val (.int p3), .val (.int kd), .val (.int mu), .val (.int cx), .val (.int dx), .val (.ref a_LS), .val (.ref a_LL), .unset, .unset, .unset] [(.int pp)]))
    obtain ⟨hp1, hp2, hp3⟩ := own_ib _ 2 (by decide) _ _ ⟨rfl, by decide⟩ hp0
    refine Onw.go (fun own_u kt => XS.istore X2.here hx rfl (hb hby at_56) rfl (l' := #[.val (.int p0), .val (.int p1), .val (.int p2), .val (.int p3), .val (.int kd), .val (.int mu), .val (.int cx), .val (.int dx), .val (.ref a_LS), .val (.ref a_LL), .unset, .unset, .val (.int pp)]) rfl kt) ?_
    show Onw p e below _ (T2.setTop (mkF m 58 #[.val (.int p0), .val (.int p1), .val (.int p2), .val (.int p3), .val (.int kd), .val (.int mu), .val (.int cx), .val (.int dx), .val (.ref a_LS), .val (.ref a_LL), .unset, .unset, .val (.int pp)] []))
    refine Onw.go (fun own_u kt => XS.iconst X2.here hx rfl (hb hby at_58) kt) ?_
    show Onw p e below _ (T2.setTop (mkF m 59 #[.val (.int p0), .val (.int p1), .val (.int p2), .val (.int p3), .val (.int kd), .val (.int mu), .val (.int cx), .val (.int dx), .val (.ref a_LS), .val (.ref a_LL), .unset, .unset, .val (.int pp)] [(.int (2 : Int32))]))
    obtain ⟨T3, h3, k3, X3, e3, E3, A3, st3⟩ := newP X2 hx hZ2 (hw _ (List.mem_of_getElem? (i := 10) rfl)) e2 (g := (mkF m 59 #[.val (.int p0), .val (.int p1), .val (.int p2), .val (.int p3), .val (.int kd), .val (.int mu), .val (.int cx), .val (.int dx), .val (.ref a_LS), .val (.ref a_LL), .unset, .unset, .val (.int pp)] [(.int (2 : Int32))])) rfl (hb hby at_59) rfl (by decide) (cap := 10) (by decide) (by decide) (by decide) (by decide)
    obtain ⟨arr, gg3⟩ : ∃ own_z, own_z = h2.size := ⟨_, rfl⟩
    rw [← gg3] at A3 st3
    have V_arr : Arv Z h3 arr k3 .char (2 : Int32) [(.int (0 : Int32)), (.int (0 : Int32))] (.int (0 : Int32)) := (Arv.new A3 (by decide)).pad (pad_rep [] (.int (0 : Int32)) 2)
    refine Onw.go st3 ?_
    show Onw p e below _ (T3.setTop (mkF m 61 #[.val (.int p0), .val (.int p1), .val (.int p2), .val (.int p3), .val (.int kd), .val (.int mu), .val (.int cx), .val (.int dx), .val (.ref a_LS), .val (.ref a_LL), .unset, .unset, .val (.int pp)] [(.ref arr)]))
    have g_arr : n0 ≤ arr := Nat.le_trans Z2 (Nat.le_of_eq gg3.symm)
    have szA : h2.size ≤ arr := Nat.le_of_eq gg3.symm
    have KA3 : Keep h2 h3 [] := (Keep.refl h2 []).ext E3
    refine Onw.go (fun own_u kt => XS.dup X3.here hx rfl (hb hby at_61) rfl rfl kt) ?_
    show Onw p e below _ (T3.setTop (mkF m 62 #[.val (.int p0), .val (.int p1), .val (.int p2), .val (.int p3), .val (.int kd), .val (.int mu), .val (.int cx), .val (.int dx), .val (.ref a_LS), .val (.ref a_LL), .unset, .unset, .val (.int pp)] [(.ref arr), (.ref arr)]))
    refine Onw.go (fun own_u kt => XS.iconst X3.here hx rfl (hb hby at_62) kt) ?_
    show Onw p e below _ (T3.setTop (mkF m 63 #[.val (.int p0), .val (.int p1), .val (.int p2), .val (.int p3), .val (.int kd), .val (.int mu), .val (.int cx), .val (.int dx), .val (.ref a_LS), .val (.ref a_LL), .unset, .unset, .val (.int pp)] [(.int (0 : Int32)), (.ref arr), (.ref arr)]))
    refine Onw.go (fun own_u kt => XS.bipush X3.here hx rfl (hb hby at_63) kt) ?_
    show Onw p e below _ (T3.setTop (mkF m 65 #[.val (.int p0), .val (.int p1), .val (.int p2), .val (.int p3), .val (.int kd), .val (.int mu), .val (.int cx), .val (.int dx), .val (.ref a_LS), .val (.ref a_LL), .unset, .unset, .val (.int pp)] [(.int (45 : Int32)), (.int (0 : Int32)), (.ref arr), (.ref arr)]))
    obtain ⟨cl4, Ar4, qa4, Sa4, Na4, Ha4, Ga4⟩ := V_arr
    have hin4 : ¬ ((0 : Int32) < 0 ∨ cl4.slots.size ≤ ((0 : Int32)).toNatClampNeg) := inb_of Sa4 ⟨by decide, by decide⟩
    obtain ⟨T4, h4, X4, e4, W4, st4⟩ := stC X3 hx hZ2 e3 Ar4 (j := (0 : Int32)) hin4 (g := (mkF m 65 #[.val (.int p0), .val (.int p1), .val (.int p2), .val (.int p3), .val (.int kd), .val (.int mu), .val (.int cx), .val (.int dx), .val (.ref a_LS), .val (.ref a_LL), .unset, .unset, .val (.int pp)] [(.int (45 : Int32)), (.int (0 : Int32)), (.ref arr), (.ref arr)])) rfl rfl (hb hby at_65)
    have V4 := Arv.set Ar4 qa4 Sa4 Na4 Ha4 Ga4 (fits_nar_char _) W4 0 rfl (Nat.le_of_ble_eq_true rfl)
    have N4 := Fr.snoc X4 N0 g_arr
    refine Onw.go st4 ?_
    show Onw p e below _ (T4.setTop (mkF m 66 #[.val (.int p0), .val (.int p1), .val (.int p2), .val (.int p3), .val (.int kd), .val (.int mu), .val (.int cx), .val (.int dx), .val (.ref a_LS), .val (.ref a_LL), .unset, .unset, .val (.int pp)] [(.ref arr)]))
    have KA4 := KA3.wr W4 (Or.inr szA)
    refine Onw.go (fun own_u kt => XS.dup X4.here hx rfl (hb hby at_66) rfl rfl kt) ?_
    show Onw p e below _ (T4.setTop (mkF m 67 #[.val (.int p0), .val (.int p1), .val (.int p2), .val (.int p3), .val (.int kd), .val (.int mu), .val (.int cx), .val (.int dx), .val (.ref a_LS), .val (.ref a_LL), .unset, .unset, .val (.int pp)] [(.ref arr), (.ref arr)]))
    refine Onw.go (fun own_u kt => XS.iconst X4.here hx rfl (hb hby at_67) kt) ?_
    show Onw p e below _ (T4.setTop (mkF m 68 #[.val (.int p0), .val (.int p1), .val (.int p2), .val (.int p3), .val (.int kd), .val (.int mu), .val (.int cx), .val (.int dx), .val (.ref a_LS), .val (.ref a_LL), .unset, .unset, .val (.int pp)] [(.int (1 : Int32)), (.ref arr), (.ref arr)]))
    refine Onw.go (fun own_u kt => XS.bipush X4.here hx rfl (hb hby at_68) kt) ?_
    show Onw p e below _ (T4.setTop (mkF m 70 #[.val (.int p0), .val (.int p1), .val (.int p2), .val (.int p3), .val (.int kd), .val (.int mu), .val (.int cx), .val (.int dx), .val (.ref a_LS), .val (.ref a_LL), .unset, .unset, .val (.int pp)] [(.int (118 : Int32)), (.int (1 : Int32)), (.ref arr), (.ref arr)]))
    obtain ⟨cl5, Ar5, qa5, Sa5, Na5, Ha5, Ga5⟩ := V4
    have hin5 : ¬ ((1 : Int32) < 0 ∨ cl5.slots.size ≤ ((1 : Int32)).toNatClampNeg) := inb_of Sa5 ⟨by decide, by decide⟩
    obtain ⟨T5, h5, X5, e5, W5, st5⟩ := stC X4 hx hZ2 e4 Ar5 (j := (1 : Int32)) hin5 (g := (mkF m 70 #[.val (.int p0), .val (.int p1), .val (.int p2), .val (.int p3), .val (.int kd), .val (.int mu), .val (.int cx), .val (.int dx), .val (.ref a_LS), .val (.ref a_LL), .unset, .unset, .val (.int pp)] [(.int (118 : Int32)), (.int (1 : Int32)), (.ref arr), (.ref arr)])) rfl rfl (hb hby at_70)
    have V5 := Arv.set Ar5 qa5 Sa5 Na5 Ha5 Ga5 (fits_nar_char _) W5 1 rfl (Nat.le_of_ble_eq_true rfl)
    have N5 := Fr.snoc X5 N4 g_arr
    refine Onw.go st5 ?_
    show Onw p e below _ (T5.setTop (mkF m 71 #[.val (.int p0), .val (.int p1), .val (.int p2), .val (.int p3), .val (.int kd), .val (.int mu), .val (.int cx), .val (.int dx), .val (.ref a_LS), .val (.ref a_LL), .unset, .unset, .val (.int pp)] [(.ref arr)]))
    have KA5 := KA4.wr W5 (Or.inr szA)
    refine Onw.go (fun own_u kt => XS.astore X5.here hx rfl (hb hby at_71) rfl rfl (l' := #[.val (.int p0), .val (.int p1), .val (.int p2), .val (.int p3), .val (.int kd), .val (.int mu), .val (.int cx), .val (.int dx), .val (.ref a_LS), .val (.ref a_LL), .val (.ref arr), .unset, .val (.int pp)]) rfl kt) ?_
    show Onw p e below _ (T5.setTop (mkF m 73 #[.val (.int p0), .val (.int p1), .val (.int p2), .val (.int p3), .val (.int kd), .val (.int mu), .val (.int cx), .val (.int dx), .val (.ref a_LS), .val (.ref a_LL), .val (.ref arr), .unset, .val (.int pp)] []))
    refine Onw.go (fun own_u kt => XS.iload X5.here hx rfl (hb hby at_73) rfl kt) ?_
    show Onw p e below _ (T5.setTop (mkF m 75 #[.val (.int p0), .val (.int p1), .val (.int p2), .val (.int p3), .val (.int kd), .val (.int mu), .val (.int cx), .val (.int dx), .val (.ref a_LS), .val (.ref a_LL), .val (.ref arr), .unset, .val (.int pp)] [(.int mu)]))
    have VA : Arv Z h5 arr k3 .char (2 : Int32) ([(45 : Int32), (118 : Int32)].map Value.int) (.int (0 : Int32)) := V5
    by_cases hm : mu = (0 : Int32)
    · refine Onw.go (fun own_u kt => XS.ifYes X5.here hx rfl (pc0 := 75) (pc' := 85) rfl (hb hby at_75) rfl ((if0 _ _).trans (teq (hm : mu = (0 : Int32))).1) (by decide) (by decide) kt) ?_
      show Onw p e below _ (T5.setTop (mkF m 85 #[.val (.int p0), .val (.int p1), .val (.int p2), .val (.int p3), .val (.int kd), .val (.int mu), .val (.int cx), .val (.int dx), .val (.ref a_LS), .val (.ref a_LL), .val (.ref arr), .unset, .val (.int pp)] []))
      refine Onw.go (fun own_u kt => XS.iload X5.here hx rfl (hb hby at_85) rfl kt) ?_
      show Onw p e below _ (T5.setTop (mkF m 87 #[.val (.int p0), .val (.int p1), .val (.int p2), .val (.int p3), .val (.int kd), .val (.int mu), .val (.int cx), .val (.int dx), .val (.ref a_LS), .val (.ref a_LL), .val (.ref arr), .unset, .val (.int pp)] [(.int mu)]))
      refine Onw.go (fun own_u kt => XS.ifYes X5.here hx rfl (pc0 := 87) (pc' := 102) rfl (hb hby at_87) rfl ((if0 _ _).trans (teq (hm : mu = (0 : Int32))).1) (by decide) (by decide) kt) ?_
      show Onw p e below _ (T5.setTop (mkF m 102 #[.val (.int p0), .val (.int p1), .val (.int p2), .val (.int p3), .val (.int kd), .val (.int mu), .val (.int cx), .val (.int dx), .val (.ref a_LS), .val (.ref a_LL), .val (.ref arr), .unset, .val (.int pp)] []))
      refine Onw.go (fun own_u kt => XS.iconst X5.here hx rfl (hb hby at_102) kt) ?_
      show Onw p e below _ (T5.setTop (mkF m 103 #[.val (.int p0), .val (.int p1), .val (.int p2), .val (.int p3), .val (.int kd), .val (.int mu), .val (.int cx), .val (.int dx), .val (.ref a_LS), .val (.ref a_LL), .val (.ref arr), .unset, .val (.int pp)] [(.int (1 : Int32))]))
      refine Onw.go (fun own_u kt => XS.goto X5.here hx rfl (pc0 := 103) (pc' := 107) rfl (hb hby at_103) (by decide) (by decide) kt) ?_
      show Onw p e below _ (T5.setTop (mkF m 107 #[.val (.int p0), .val (.int p1), .val (.int p2), .val (.int p3), .val (.int kd), .val (.int mu), .val (.int cx), .val (.int dx), .val (.ref a_LS), .val (.ref a_LL), .val (.ref arr), .unset, .val (.int pp)] [(.int (1 : Int32))]))
      refine Onw.go (fun own_u kt => XS.istore X5.here hx rfl (hb hby at_107) rfl (l' := #[.val (.int p0), .val (.int p1), .val (.int p2), .val (.int p3), .val (.int kd), .val (.int mu), .val (.int cx), .val (.int dx), .val (.ref a_LS), .val (.ref a_LL), .val (.ref arr), .val (.int (1 : Int32)), .val (.int pp)]) rfl kt) ?_
      show Onw p e below _ (T5.setTop (mkF m 109 #[.val (.int p0), .val (.int p1), .val (.int p2), .val (.int p3), .val (.int kd), .val (.int mu), .val (.int cx), .val (.int dx), .val (.ref a_LS), .val (.ref a_LL), .val (.ref arr), .val (.int (1 : Int32)), .val (.int pp)] []))
      refine Onw.go (fun own_u kt => XS.goto X5.here hx rfl (pc0 := 109) (pc' := 481) rfl (hb hby at_109) (by decide) (by decide) kt) ?_
      show Onw p e below _ (T5.setTop (mkF m 481 #[.val (.int p0), .val (.int p1), .val (.int p2), .val (.int p3), .val (.int kd), .val (.int mu), .val (.int cx), .val (.int dx), .val (.ref a_LS), .val (.ref a_LL), .val (.ref arr), .val (.int (1 : Int32)), .val (.int pp)] []))
      have EE := own_ke KA5
      have VF : Arv Z h5 arr k3 .char (Int32.ofNat ([(45 : Int32), (118 : Int32)]).length) (([(45 : Int32), (118 : Int32)]).map Value.int) (.int (0 : Int32)) := VA
      exact law_481 hx hZ2 hw hby hml hown2 hEL (CHv.ext EE CH2) hS2 (Nat.le_trans hk2 EE.1) (.val (.int p0)) (.val (.int p1)) (.val (.int p2)) (.val (.int p3)) (.val (.int kd)) (.val (.int mu)) (.val (.int cx)) (.val (.int dx)) (.val (.ref a_LS)) (.val (.ref a_LL)) (.val (.int pp)) (1 : Int32) arr k3 ([(45 : Int32), (118 : Int32)]) zc X5 e5 N5 (Nat.le_trans Z2 EE.1) VF ((S_C.ext ES).ext EE) hz (by decide) (by decide) (by decide) hK
    · refine Onw.go (fun own_u kt => XS.ifNo X5.here hx rfl (hb hby at_75) rfl ((if0 _ _).trans (feq (hm : ¬ (mu = (0 : Int32)))).1) kt) ?_
      show Onw p e below _ (T5.setTop (mkF m 78 #[.val (.int p0), .val (.int p1), .val (.int p2), .val (.int p3), .val (.int kd), .val (.int mu), .val (.int cx), .val (.int dx), .val (.ref a_LS), .val (.ref a_LL), .val (.ref arr), .unset, .val (.int pp)] []))
      refine Onw.go (fun own_u kt => XS.aload X5.here hx rfl (hb hby at_78) rfl rfl kt) ?_
      show Onw p e below _ (T5.setTop (mkF m 80 #[.val (.int p0), .val (.int p1), .val (.int p2), .val (.int p3), .val (.int kd), .val (.int mu), .val (.int cx), .val (.int dx), .val (.ref a_LS), .val (.ref a_LL), .val (.ref arr), .unset, .val (.int pp)] [(.ref arr)]))
      refine Onw.go (fun own_u kt => XS.iload X5.here hx rfl (hb hby at_80) rfl kt) ?_
      show Onw p e below _ (T5.setTop (mkF m 82 #[.val (.int p0), .val (.int p1), .val (.int p2), .val (.int p3), .val (.int kd), .val (.int mu), .val (.int cx), .val (.int dx), .val (.ref a_LS), .val (.ref a_LL), .val (.ref arr), .unset, .val (.int pp)] [(.int pp), (.ref arr)]))
      refine Onw.go (fun own_u kt => XS.iload X5.here hx rfl (hb hby at_82) rfl kt) ?_
      show Onw p e below _ (T5.setTop (mkF m 84 #[.val (.int p0), .val (.int p1), .val (.int p2), .val (.int p3), .val (.int kd), .val (.int mu), .val (.int cx), .val (.int dx), .val (.ref a_LS), .val (.ref a_LL), .val (.ref arr), .unset, .val (.int pp)] [(.int cx), (.int pp), (.ref arr)]))
      obtain ⟨cl6, Ar6, qa6, Sa6, Na6, Ha6, Ga6⟩ := VA
      have hin6 : ¬ (pp < 0 ∨ cl6.slots.size ≤ pp.toNatClampNeg) := fun q => q.elim hp1 (fun r => absurd hp2 (Nat.not_lt.mpr (by rw [Sa6] at r; exact r)))
      obtain ⟨T6, h6, X6, e6, W6, st6⟩ := stC X5 hx hZ2 e5 Ar6 (j := pp) hin6 (g := (mkF m 84 #[.val (.int p0), .val (.int p1), .val (.int p2), .val (.int p3), .val (.int kd), .val (.int mu), .val (.int cx), .val (.int dx), .val (.ref a_LS), .val (.ref a_LL), .val (.ref arr), .unset, .val (.int pp)] [(.int cx), (.int pp), (.ref arr)])) rfl rfl (hb hby at_84)
      rw [hc2] at W6
      have VB := Arv.set Ar6 qa6 Sa6 Na6 Ha6 Ga6 (by rw [← hc2]; exact fits_nar_char _) W6 pp.toNatClampNeg rfl hp2
      rw [← List.map_set] at VB
      have N6 := Fr.snoc X6 N5 g_arr
      have KA6 := KA5.wr W6 (Or.inr szA)
      refine Onw.go st6 ?_
      show Onw p e below _ (T6.setTop (mkF m 85 #[.val (.int p0), .val (.int p1), .val (.int p2), .val (.int p3), .val (.int kd), .val (.int mu), .val (.int cx), .val (.int dx), .val (.ref a_LS), .val (.ref a_LL), .val (.ref arr), .unset, .val (.int pp)] []))
      refine Onw.go (fun own_u kt => XS.iload X6.here hx rfl (hb hby at_85) rfl kt) ?_
      show Onw p e below _ (T6.setTop (mkF m 87 #[.val (.int p0), .val (.int p1), .val (.int p2), .val (.int p3), .val (.int kd), .val (.int mu), .val (.int cx), .val (.int dx), .val (.ref a_LS), .val (.ref a_LL), .val (.ref arr), .unset, .val (.int pp)] [(.int mu)]))
      refine Onw.go (fun own_u kt => XS.ifNo X6.here hx rfl (hb hby at_87) rfl ((if0 _ _).trans (feq (hm : ¬ (mu = (0 : Int32)))).1) kt) ?_
      show Onw p e below _ (T6.setTop (mkF m 90 #[.val (.int p0), .val (.int p1), .val (.int p2), .val (.int p3), .val (.int kd), .val (.int mu), .val (.int cx), .val (.int dx), .val (.ref a_LS), .val (.ref a_LL), .val (.ref arr), .unset, .val (.int pp)] []))
      refine Onw.go (fun own_u kt => XS.iload X6.here hx rfl (hb hby at_90) rfl kt) ?_
      show Onw p e below _ (T6.setTop (mkF m 92 #[.val (.int p0), .val (.int p1), .val (.int p2), .val (.int p3), .val (.int kd), .val (.int mu), .val (.int cx), .val (.int dx), .val (.ref a_LS), .val (.ref a_LL), .val (.ref arr), .unset, .val (.int pp)] [(.int cx)]))
      refine Onw.go (fun own_u kt => XS.aload X6.here hx rfl (hb hby at_92) rfl rfl kt) ?_
      show Onw p e below _ (T6.setTop (mkF m 94 #[.val (.int p0), .val (.int p1), .val (.int p2), .val (.int p3), .val (.int kd), .val (.int mu), .val (.int cx), .val (.int dx), .val (.ref a_LS), .val (.ref a_LL), .val (.ref arr), .unset, .val (.int pp)] [(.ref a_LS), (.int cx)]))
      refine Onw.go (fun own_u kt => XS.iload X6.here hx rfl (hb hby at_94) rfl kt) ?_
      show Onw p e below _ (T6.setTop (mkF m 96 #[.val (.int p0), .val (.int p1), .val (.int p2), .val (.int p3), .val (.int kd), .val (.int mu), .val (.int cx), .val (.int dx), .val (.ref a_LS), .val (.ref a_LL), .val (.ref arr), .unset, .val (.int pp)] [(.int pp), (.ref a_LS), (.int cx)]))
      have EE := own_ke KA6
      obtain ⟨cq7, kq7, q7a, q7b, q7c⟩ := isOf hZ2 e6 ((E_LS.ext Ex2).ext EE)
      obtain ⟨_, _, ⟨T7, L7, k7, n7⟩, -, X7, ⟨Lc7, hQ7, l7, y7, z7⟩, st7⟩ := X6.virtualBack hx (y := (⟨"java/lang/String", "charAt", "(I)C"⟩ : MethodName)) (z := (⟨"java/lang/String", "charAt", "(I)C"⟩ : MethodName)) hown2 (mvT hZ2 (hw _ (List.mem_of_getElem? (i := 52) rfl))) (mvT hZ2 (hw _ (List.mem_of_getElem? (i := 53) rfl))) (notFace_of_selects (args := #[]) (mvT hZ2 (hw _ (List.mem_of_getElem? (i := 55) rfl)))) (mvT hZ2 (hw _ (List.mem_of_getElem? (i := 55) rfl))) (mvT hZ2 (hw _ (List.mem_of_getElem? (i := 54) rfl))) (by decide) (StrChars.Road.chN (W := 1) hZ2 hch (kI := 4) (hw _ (List.mem_of_getElem? (i := 2) rfl)) ((E_LS.ext Ex2).ext EE) ((V_LS.ext Ex2).ext EE) ((C_LS.ext Ex2).ext EE) ((A_LS.ext Ex2).ext EE) own_codS own_bdS ((S_C.ext ES).ext EE) hz ((S_F.ext ES).ext EE) rf (by decide) (i := pp.toNatClampNeg) hp2 (j := pp) hp3 (by decide) (by decide)) q7a q7c (g := (mkF m 96 #[.val (.int p0), .val (.int p1), .val (.int p2), .val (.int p3), .val (.int kd), .val (.int mu), .val (.int cx), .val (.int dx), .val (.ref a_LS), .val (.ref a_LL), .val (.ref arr), .unset, .val (.int pp)] [(.int pp), (.ref a_LS), (.int cx)])) rfl (by rw [hml]; rfl) (Steps.refl _) (argsL := [(.int pp)]) (rest := [(.int cx)]) (lenOf pd_3 rfl) rfl (by show 2 * 0 + _ ≤ _; exact Nat.le_of_eq rfl) (hb hby at_96) (fun _ _ => ⟨rfl, e6, (by decide : 5 + 0 ≤ _), (by decide : 62 + 0 ≤ _)⟩)
      dsimp only [Pt.U, Pt.locs, Pt.cells, Pt.slots] at X7 l7 y7 z7 st7 hQ7
      subst l7 y7 z7
      obtain ⟨rfl, rfl, e7q⟩ := hQ7
      have N7q := Fr.nil n0
      have N7 := Fr.app N6 N7q
      refine Onw.go (fun own_u kt => st7.trans kt) ?_
      show Onw p e below _ (T7.setTop (mkF m 99 #[.val (.int p0), .val (.int p1), .val (.int p2), .val (.int p3), .val (.int kd), .val (.int mu), .val (.int cx), .val (.int dx), .val (.ref a_LS), .val (.ref a_LL), .val (.ref arr), .unset, .val (.int pp)] [(.int (own_VS.getD pp.toNatClampNeg 0)), (.int cx)]))
      by_cases hcc : cx = (own_VS.getD pp.toNatClampNeg 0)
      · refine Onw.go (fun own_u kt => XS.icmpNo X7.here hx rfl (hb hby at_99) rfl (teq (hcc : cx = (own_VS.getD pp.toNatClampNeg 0))).2 kt) ?_
        show Onw p e below _ (T7.setTop (mkF m 102 #[.val (.int p0), .val (.int p1), .val (.int p2), .val (.int p3), .val (.int kd), .val (.int mu), .val (.int cx), .val (.int dx), .val (.ref a_LS), .val (.ref a_LL), .val (.ref arr), .unset, .val (.int pp)] []))
        refine Onw.go (fun own_u kt => XS.iconst X7.here hx rfl (hb hby at_102) kt) ?_
        show Onw p e below _ (T7.setTop (mkF m 103 #[.val (.int p0), .val (.int p1), .val (.int p2), .val (.int p3), .val (.int kd), .val (.int mu), .val (.int cx), .val (.int dx), .val (.ref a_LS), .val (.ref a_LL), .val (.ref arr), .unset, .val (.int pp)] [(.int (1 : Int32))]))
        refine Onw.go (fun own_u kt => XS.goto X7.here hx rfl (pc0 := 103) (pc' := 107) rfl (hb hby at_103) (by decide) (by decide) kt) ?_
        show Onw p e below _ (T7.setTop (mkF m 107 #[.val (.int p0), .val (.int p1), .val (.int p2), .val (.int p3), .val (.int kd), .val (.int mu), .val (.int cx), .val (.int dx), .val (.ref a_LS), .val (.ref a_LL), .val (.ref arr), .unset, .val (.int pp)] [(.int (1 : Int32))]))
        refine Onw.go (fun own_u kt => XS.istore X7.here hx rfl (hb hby at_107) rfl (l' := #[.val (.int p0), .val (.int p1), .val (.int p2), .val (.int p3), .val (.int kd), .val (.int mu), .val (.int cx), .val (.int dx), .val (.ref a_LS), .val (.ref a_LL), .val (.ref arr), .val (.int (1 : Int32)), .val (.int pp)]) rfl kt) ?_
        show Onw p e below _ (T7.setTop (mkF m 109 #[.val (.int p0), .val (.int p1), .val (.int p2), .val (.int p3), .val (.int kd), .val (.int mu), .val (.int cx), .val (.int dx), .val (.ref a_LS), .val (.ref a_LL), .val (.ref arr), .val (.int (1 : Int32)), .val (.int pp)] []))
        refine Onw.go (fun own_u kt => XS.goto X7.here hx rfl (pc0 := 109) (pc' := 481) rfl (hb hby at_109) (by decide) (by decide) kt) ?_
        show Onw p e below _ (T7.setTop (mkF m 481 #[.val (.int p0), .val (.int p1), .val (.int p2), .val (.int p3), .val (.int kd), .val (.int mu), .val (.int cx), .val (.int dx), .val (.ref a_LS), .val (.ref a_LL), .val (.ref arr), .val (.int (1 : Int32)), .val (.int pp)] []))
        have EE := own_ke KA6
        have VF : Arv Z h6 arr k3 .char (Int32.ofNat (([(45 : Int32), (118 : Int32)] : List Int32).set pp.toNatClampNeg cx).length) ((([(45 : Int32), (118 : Int32)] : List Int32).set pp.toNatClampNeg cx).map Value.int) (.int (0 : Int32)) := (own_setlen [(45 : Int32), (118 : Int32)] _ _).symm ▸ VB
        exact law_481 hx hZ2 hw hby hml hown2 hEL (CHv.ext EE CH2) hS2 (Nat.le_trans hk2 EE.1) (.val (.int p0)) (.val (.int p1)) (.val (.int p2)) (.val (.int p3)) (.val (.int kd)) (.val (.int mu)) (.val (.int cx)) (.val (.int dx)) (.val (.ref a_LS)) (.val (.ref a_LL)) (.val (.int pp)) (1 : Int32) arr k3 (([(45 : Int32), (118 : Int32)] : List Int32).set pp.toNatClampNeg cx) zc X7 e7q N7 (Nat.le_trans Z2 EE.1) VF ((S_C.ext ES).ext EE) hz (own_set (by decide) hc1) (by rw [own_setlen]; decide) ((own_swS hp2).trans (if_pos hcc)) hK
      · refine Onw.go (fun own_u kt => XS.icmpYes X7.here hx rfl (pc0 := 99) (pc' := 106) rfl (hb hby at_99) rfl (feq (hcc : ¬ (cx = (own_VS.getD pp.toNatClampNeg 0)))).2 (by decide) (by decide) kt) ?_
        show Onw p e below _ (T7.setTop (mkF m 106 #[.val (.int p0), .val (.int p1), .val (.int p2), .val (.int p3), .val (.int kd), .val (.int mu), .val (.int cx), .val (.int dx), .val (.ref a_LS), .val (.ref a_LL), .val (.ref arr), .unset, .val (.int pp)] []))
        refine Onw.go (fun own_u kt => XS.iconst X7.here hx rfl (hb hby at_106) kt) ?_
        show Onw p e below _ (T7.setTop (mkF m 107 #[.val (.int p0), .val (.int p1), .val (.int p2), .val (.int p3), .val (.int kd), .val (.int mu), .val (.int cx), .val (.int dx), .val (.ref a_LS), .val (.ref a_LL), .val (.ref arr), .unset, .val (.int pp)] [(.int (0 : Int32))]))
        refine Onw.go (fun own_u kt => XS.istore X7.here hx rfl (hb hby at_107) rfl (l' := #[.val (.int p0), .val (.int p1), .val (.int p2), .val (.int p3), .val (.int kd), .val (.int mu), .val (.int cx), .val (.int dx), .val (.ref a_LS), .val (.ref a_LL), .val (.ref arr), .val (.int (0 : Int32)), .val (.int pp)]) rfl kt) ?_
        show Onw p e below _ (T7.setTop (mkF m 109 #[.val (.int p0), .val (.int p1), .val (.int p2), .val (.int p3), .val (.int kd), .val (.int mu), .val (.int cx), .val (.int dx), .val (.ref a_LS), .val (.ref a_LL), .val (.ref arr), .val (.int (0 : Int32)), .val (.int pp)] []))
        refine Onw.go (fun own_u kt => XS.goto X7.here hx rfl (pc0 := 109) (pc' := 481) rfl (hb hby at_109) (by decide) (by decide) kt) ?_
        show Onw p e below _ (T7.setTop (mkF m 481 #[.val (.int p0), .val (.int p1), .val (.int p2), .val (.int p3), .val (.int kd), .val (.int mu), .val (.int cx), .val (.int dx), .val (.ref a_LS), .val (.ref a_LL), .val (.ref arr), .val (.int (0 : Int32)), .val (.int pp)] []))
        have EE := own_ke KA6
        have VF : Arv Z h6 arr k3 .char (Int32.ofNat (([(45 : Int32), (118 : Int32)] : List Int32).set pp.toNatClampNeg cx).length) ((([(45 : Int32), (118 : Int32)] : List Int32).set pp.toNatClampNeg cx).map Value.int) (.int (0 : Int32)) := (own_setlen [(45 : Int32), (118 : Int32)] _ _).symm ▸ VB
        exact law_481 hx hZ2 hw hby hml hown2 hEL (CHv.ext EE CH2) hS2 (Nat.le_trans hk2 EE.1) (.val (.int p0)) (.val (.int p1)) (.val (.int p2)) (.val (.int p3)) (.val (.int kd)) (.val (.int mu)) (.val (.int cx)) (.val (.int dx)) (.val (.ref a_LS)) (.val (.ref a_LL)) (.val (.int pp)) (0 : Int32) arr k3 (([(45 : Int32), (118 : Int32)] : List Int32).set pp.toNatClampNeg cx) zc X7 e7q N7 (Nat.le_trans Z2 EE.1) VF ((S_C.ext ES).ext EE) hz (own_set (by decide) hc1) (by rw [own_setlen]; decide) ((own_swS hp2).trans (if_neg hcc)) hK
  · refine Onw.go (fun own_u kt => XS.ifYes X2.here hx rfl (pc0 := 47) (pc' := 112) rfl (hb hby at_47) rfl ((if0 _ _).trans (feq (hk_0 : ¬ (kd = (0 : Int32)))).2) (by decide) (by decide) kt) ?_
    show Onw p e below _ (T2.setTop (mkF m 112 #[.val (.int p0), .val (.int p1), .val (.int p2), .val (.int p3), .val (.int kd), .val (.int mu), .val (.int cx), .val (.int dx), .val (.ref a_LS), .val (.ref a_LL), .unset, .unset, .unset] []))
    refine Onw.go (fun own_u kt => XS.iload X2.here hx rfl (hb hby at_112) rfl kt) ?_
    show Onw p e below _ (T2.setTop (mkF m 114 #[.val (.int p0), .val (.int p1), .val (.int p2), .val (.int p3), .val (.int kd), .val (.int mu), .val (.int cx), .val (.int dx), .val (.ref a_LS), .val (.ref a_LL), .unset, .unset, .unset] [(.int kd)]))
    refine Onw.go (fun own_u kt => XS.iconst X2.here hx rfl (hb hby at_114) kt) ?_
    show Onw p e below _ (T2.setTop (mkF m 115 #[.val (.int p0), .val (.int p1), .val (.int p2), .val (.int p3), .val (.int kd), .val (.int mu), .val (.int cx), .val (.int dx), .val (.ref a_LS), .val (.ref a_LL), .unset, .unset, .unset] [(.int (1 : Int32)), (.int kd)]))
    by_cases hk_1 : kd = (1 : Int32)
    · refine Onw.go (fun own_u kt => XS.icmpNo X2.here hx rfl (hb hby at_115) rfl (teq (hk_1 : kd = (1 : Int32))).2 kt) ?_
      show Onw p e below _ (T2.setTop (mkF m 118 #[.val (.int p0), .val (.int p1), .val (.int p2), .val (.int p3), .val (.int kd), .val (.int mu), .val (.int cx), .val (.int dx), .val (.ref a_LS), .val (.ref a_LL), .unset, .unset, .unset] []))
      refine Onw.go (fun own_u kt => XS.iloadN X2.here hx rfl (hb hby at_118) rfl kt) ?_
      show Onw p e below _ (T2.setTop (mkF m 119 #[.val (.int p0), .val (.int p1), .val (.int p2), .val (.int p3), .val (.int kd), .val (.int mu), .val (.int cx), .val (.int dx), .val (.ref a_LS), .val (.ref a_LL), .unset, .unset, .unset] [(.int p1)]))
      refine Onw.go (X2.ldcInt hx hown2 (mvT hZ2 (hw _ (List.mem_of_getElem? (i := 9) rfl))) (g := (mkF m 119 #[.val (.int p0), .val (.int p1), .val (.int p2), .val (.int p3), .val (.int kd), .val (.int mu), .val (.int cx), .val (.int dx), .val (.ref a_LS), .val (.ref a_LL), .unset, .unset, .unset] [(.int p1)])) rfl (hb hby at_119)) ?_
      show Onw p e below _ (T2.setTop (mkF m 121 #[.val (.int p0), .val (.int p1), .val (.int p2), .val (.int p3), .val (.int kd), .val (.int mu), .val (.int cx), .val (.int dx), .val (.ref a_LS), .val (.ref a_LL), .unset, .unset, .unset] [(.int (2147483647 : Int32)), (.int p1)]))
      refine Onw.go (fun own_u kt => XS.iand X2.here hx rfl (hb hby at_121) rfl kt) ?_
      show Onw p e below _ (T2.setTop (mkF m 122 #[.val (.int p0), .val (.int p1), .val (.int p2), .val (.int p3), .val (.int kd), .val (.int mu), .val (.int cx), .val (.int dx), .val (.ref a_LS), .val (.ref a_LL), .unset, .unset, .unset] [(.int (p1 &&& (2147483647 : Int32)))]))
      refine Onw.go (fun own_u kt => XS.bipush X2.here hx rfl (hb hby at_122) kt) ?_
      show Onw p e below _ (T2.setTop (mkF m 124 #[.val (.int p0), .val (.int p1), .val (.int p2), .val (.int p3), .val (.int kd), .val (.int mu), .val (.int cx), .val (.int dx), .val (.ref a_LS), .val (.ref a_LL), .unset, .unset, .unset] [(.int (9 : Int32)), (.int (p1 &&& (2147483647 : Int32)))]))
      refine Onw.go (fun own_u kt => iremM X2 hx rfl (hb hby at_124) rfl (by decide) kt) ?_
      show Onw p e below _ (T2.setTop (mkF m 125 #[.val (.int p0), .val (.int p1), .val (.int p2), .val (.int p3), .val (.int kd), .val (.int mu), .val (.int cx), .val (.int dx), .val (.ref a_LS), .val (.ref a_LL), .unset, .unset, .unset] [(.int ((p1 &&& (2147483647 : Int32)) % (9 : Int32)))]))
      obtain ⟨pp, hp0⟩ : ∃ own_z, own_z = ((p1 &&& (2147483647 : Int32)) % (9 : Int32)) := ⟨_, rfl⟩
      rw [← hp0]
      show Onw p e below _ (T2.setTop (mkF m 125 #[.val (.int p0), .val (.int p1), .val (.int p2), .val (.int p3), .val (.int kd), .val (.int mu), .val (.int cx), .val (.int dx), .val (.ref a_LS), .val (.ref a_LL), .unset, .unset, .unset] [(.int pp)]))
      obtain ⟨hp1, hp2, hp3⟩ := own_ib _ 9 (by decide) _ _ ⟨rfl, by decide⟩ hp0
      refine Onw.go (fun own_u kt => XS.istore X2.here hx rfl (hb hby at_125) rfl (l' := #[.val (.int p0), .val (.int p1), .val (.int p2), .val (.int p3), .val (.int kd), .val (.int mu), .val (.int cx), .val (.int dx), .val (.ref a_LS), .val (.ref a_LL), .unset, .unset, .val (.int pp)]) rfl kt) ?_
      show Onw p e below _ (T2.setTop (mkF m 127 #[.val (.int p0), .val (.int p1), .val (.int p2), .val (.int p3), .val (.int kd), .val (.int mu), .val (.int cx), .val (.int dx), .val (.ref a_LS), .val (.ref a_LL), .unset, .unset, .val (.int pp)] []))
      refine Onw.go (fun own_u kt => XS.bipush X2.here hx rfl (hb hby at_127) kt) ?_
      show Onw p e below _ (T2.setTop (mkF m 129 #[.val (.int p0), .val (.int p1), .val (.int p2), .val (.int p3), .val (.int kd), .val (.int mu), .val (.int cx), .val (.int dx), .val (.ref a_LS), .val (.ref a_LL), .unset, .unset, .val (.int pp)] [(.int (9 : Int32))]))
      obtain ⟨T8, h8, k8, X8, e8, E8, A8, st8⟩ := newP X2 hx hZ2 (hw _ (List.mem_of_getElem? (i := 10) rfl)) e2 (g := (mkF m 129 #[.val (.int p0), .val (.int p1), .val (.int p2), .val (.int p3), .val (.int kd), .val (.int mu), .val (.int cx), .val (.int dx), .val (.ref a_LS), .val (.ref a_LL), .unset, .unset, .val (.int pp)] [(.int (9 : Int32))])) rfl (hb hby at_129) rfl (by decide) (cap := 10) (by decide) (by decide) (by decide) (by decide)
      obtain ⟨arr, gg8⟩ : ∃ own_z, own_z = h2.size := ⟨_, rfl⟩
      rw [← gg8] at A8 st8
      have V_arr : Arv Z h8 arr k8 .char (9 : Int32) [(.int (0 : Int32)), (.int (0 : Int32)), (.int (0 : Int32)), (.int (0 : Int32)), (.int (0 : Int32)), (.int (0 : Int32)), (.int (0 : Int32)), (.int (0 : Int32)), (.int (0 : Int32))] (.int (0 : Int32)) := (Arv.new A8 (by decide)).pad (pad_rep [] (.int (0 : Int32)) 9)
      refine Onw.go st8 ?_
      show Onw p e below _ (T8.setTop (mkF m 131 #[.val (.int p0), .val (.int p1), .val (.int p2), .val (.int p3), .val (.int kd), .val (.int mu), .val (.int cx), .val (.int dx), .val (.ref a_LS), .val (.ref a_LL), .unset, .unset, .val (.int pp)] [(.ref arr)]))
      have g_arr : n0 ≤ arr := Nat.le_trans Z2 (Nat.le_of_eq gg8.symm)
      have szA : h2.size ≤ arr := Nat.le_of_eq gg8.symm
      have KA8 : Keep h2 h8 [] := (Keep.refl h2 []).ext E8
      refine Onw.go (fun own_u kt => XS.dup X8.here hx rfl (hb hby at_131) rfl rfl kt) ?_
      show Onw p e below _ (T8.setTop (mkF m 132 #[.val (.int p0), .val (.int p1), .val (.int p2), .val (.int p3), .val (.int kd), .val (.int mu), .val (.int cx), .val (.int dx), .val (.ref a_LS), .val (.ref a_LL), .unset, .unset, .val (.int pp)] [(.ref arr), (.ref arr)]))
      refine Onw.go (fun own_u kt => XS.iconst X8.here hx rfl (hb hby at_132) kt) ?_
      show Onw p e below _ (T8.setTop (mkF m 133 #[.val (.int p0), .val (.int p1), .val (.int p2), .val (.int p3), .val (.int kd), .val (.int mu), .val (.int cx), .val (.int dx), .val (.ref a_LS), .val (.ref a_LL), .unset, .unset, .val (.int pp)] [(.int (0 : Int32)), (.ref arr), (.ref arr)]))
      refine Onw.go (fun own_u kt => XS.bipush X8.here hx rfl (hb hby at_133) kt) ?_
      show Onw p e below _ (T8.setTop (mkF m 135 #[.val (.int p0), .val (.int p1), .val (.int p2), .val (.int p3), .val (.int kd), .val (.int mu), .val (.int cx), .val (.int dx), .val (.ref a_LS), .val (.ref a_LL), .unset, .unset, .val (.int pp)] [(.int (45 : Int32)), (.int (0 : Int32)), (.ref arr), (.ref arr)]))
      obtain ⟨cl9, Ar9, qa9, Sa9, Na9, Ha9, Ga9⟩ := V_arr
      have hin9 : ¬ ((0 : Int32) < 0 ∨ cl9.slots.size ≤ ((0 : Int32)).toNatClampNeg) := inb_of Sa9 ⟨by decide, by decide⟩
      obtain ⟨T9, h9, X9, e9, W9, st9⟩ := stC X8 hx hZ2 e8 Ar9 (j := (0 : Int32)) hin9 (g := (mkF m 135 #[.val (.int p0), .val (.int p1), .val (.int p2), .val (.int p3), .val (.int kd), .val (.int mu), .val (.int cx), .val (.int dx), .val (.ref a_LS), .val (.ref a_LL), .unset, .unset, .val (.int pp)] [(.int (45 : Int32)), (.int (0 : Int32)), (.ref arr), (.ref arr)])) rfl rfl (hb hby at_135)
      have V9 := Arv.set Ar9 qa9 Sa9 Na9 Ha9 Ga9 (fits_nar_char _) W9 0 rfl (Nat.le_of_ble_eq_true rfl)
      have N9 := Fr.snoc X9 N0 g_arr
      refine Onw.go st9 ?_
      show Onw p e below _ (T9.setTop (mkF m 136 #[.val (.int p0), .val (.int p1), .val (.int p2), .val (.int p3), .val (.int kd), .val (.int mu), .val (.int cx), .val (.int dx), .val (.ref a_LS), .val (.ref a_LL), .unset, .unset, .val (.int pp)] [(.ref arr)]))
      have KA9 := KA8.wr W9 (Or.inr szA)
      refine Onw.go (fun own_u kt => XS.dup X9.here hx rfl (hb hby at_136) rfl rfl kt) ?_
      show Onw p e below _ (T9.setTop (mkF m 137 #[.val (.int p0), .val (.int p1), .val (.int p2), .val (.int p3), .val (.int kd), .val (.int mu), .val (.int cx), .val (.int dx), .val (.ref a_LS), .val (.ref a_LL), .unset, .unset, .val (.int pp)] [(.ref arr), (.ref arr)]))
      refine Onw.go (fun own_u kt => XS.iconst X9.here hx rfl (hb hby at_137) kt) ?_
      show Onw p e below _ (T9.setTop (mkF m 138 #[.val (.int p0), .val (.int p1), .val (.int p2), .val (.int p3), .val (.int kd), .val (.int mu), .val (.int cx), .val (.int dx), .val (.ref a_LS), .val (.ref a_LL), .unset, .unset, .val (.int pp)] [(.int (1 : Int32)), (.ref arr), (.ref arr)]))
      refine Onw.go (fun own_u kt => XS.bipush X9.here hx rfl (hb hby at_138) kt) ?_
      show Onw p e below _ (T9.setTop (mkF m 140 #[.val (.int p0), .val (.int p1), .val (.int p2), .val (.int p3), .val (.int kd), .val (.int mu), .val (.int cx), .val (.int dx), .val (.ref a_LS), .val (.ref a_LL), .unset, .unset, .val (.int pp)] [(.int (45 : Int32)), (.int (1 : Int32)), (.ref arr), (.ref arr)]))
      obtain ⟨cl10, Ar10, qa10, Sa10, Na10, Ha10, Ga10⟩ := V9
      have hin10 : ¬ ((1 : Int32) < 0 ∨ cl10.slots.size ≤ ((1 : Int32)).toNatClampNeg) := inb_of Sa10 ⟨by decide, by decide⟩
      obtain ⟨T10, h10, X10, e10, W10, st10⟩ := stC X9 hx hZ2 e9 Ar10 (j := (1 : Int32)) hin10 (g := (mkF m 140 #[.val (.int p0), .val (.int p1), .val (.int p2), .val (.int p3), .val (.int kd), .val (.int mu), .val (.int cx), .val (.int dx), .val (.ref a_LS), .val (.ref a_LL), .unset, .unset, .val (.int pp)] [(.int (45 : Int32)), (.int (1 : Int32)), (.ref arr), (.ref arr)])) rfl rfl (hb hby at_140)
      have V10 := Arv.set Ar10 qa10 Sa10 Na10 Ha10 Ga10 (fits_nar_char _) W10 1 rfl (Nat.le_of_ble_eq_true rfl)
      have N10 := Fr.snoc X10 N9 g_arr
      refine Onw.go st10 ?_
      show Onw p e below _ (T10.setTop (mkF m 141 #[.val (.int p0), .val (.int p1), .val (.int p2), .val (.int p3), .val (.int kd), .val (.int mu), .val (.int cx), .val (.int dx), .val (.ref a_LS), .val (.ref a_LL), .unset, .unset, .val (.int pp)] [(.ref arr)]))
      have KA10 := KA9.wr W10 (Or.inr szA)
      refine Onw.go (fun own_u kt => XS.dup X10.here hx rfl (hb hby at_141) rfl rfl kt) ?_
      show Onw p e below _ (T10.setTop (mkF m 142 #[.val (.int p0), .val (.int p1), .val (.int p2), .val (.int p3), .val (.int kd), .val (.int mu), .val (.int cx), .val (.int dx), .val (.ref a_LS), .val (.ref a_LL), .unset, .unset, .val (.int pp)] [(.ref arr), (.ref arr)]))
      refine Onw.go (fun own_u kt => XS.iconst X10.here hx rfl (hb hby at_142) kt) ?_
      show Onw p e below _ (T10.setTop (mkF m 143 #[.val (.int p0), .val (.int p1), .val (.int p2), .val (.int p3), .val (.int kd), .val (.int mu), .val (.int cx), .val (.int dx), .val (.ref a_LS), .val (.ref a_LL), .unset, .unset, .val (.int pp)] [(.int (2 : Int32)), (.ref arr), (.ref arr)]))
      refine Onw.go (fun own_u kt => XS.bipush X10.here hx rfl (hb hby at_143) kt) ?_
      show Onw p e below _ (T10.setTop (mkF m 145 #[.val (.int p0), .val (.int p1), .val (.int p2), .val (.int p3), .val (.int kd), .val (.int mu), .val (.int cx), .val (.int dx), .val (.ref a_LS), .val (.ref a_LL), .unset, .unset, .val (.int pp)] [(.int (118 : Int32)), (.int (2 : Int32)), (.ref arr), (.ref arr)]))
      obtain ⟨cl11, Ar11, qa11, Sa11, Na11, Ha11, Ga11⟩ := V10
      have hin11 : ¬ ((2 : Int32) < 0 ∨ cl11.slots.size ≤ ((2 : Int32)).toNatClampNeg) := inb_of Sa11 ⟨by decide, by decide⟩
      obtain ⟨T11, h11, X11, e11, W11, st11⟩ := stC X10 hx hZ2 e10 Ar11 (j := (2 : Int32)) hin11 (g := (mkF m 145 #[.val (.int p0), .val (.int p1), .val (.int p2), .val (.int p3), .val (.int kd), .val (.int mu), .val (.int cx), .val (.int dx), .val (.ref a_LS), .val (.ref a_LL), .unset, .unset, .val (.int pp)] [(.int (118 : Int32)), (.int (2 : Int32)), (.ref arr), (.ref arr)])) rfl rfl (hb hby at_145)
      have V11 := Arv.set Ar11 qa11 Sa11 Na11 Ha11 Ga11 (fits_nar_char _) W11 2 rfl (Nat.le_of_ble_eq_true rfl)
      have N11 := Fr.snoc X11 N10 g_arr
      refine Onw.go st11 ?_
      show Onw p e below _ (T11.setTop (mkF m 146 #[.val (.int p0), .val (.int p1), .val (.int p2), .val (.int p3), .val (.int kd), .val (.int mu), .val (.int cx), .val (.int dx), .val (.ref a_LS), .val (.ref a_LL), .unset, .unset, .val (.int pp)] [(.ref arr)]))
      have KA11 := KA10.wr W11 (Or.inr szA)
      refine Onw.go (fun own_u kt => XS.dup X11.here hx rfl (hb hby at_146) rfl rfl kt) ?_
      show Onw p e below _ (T11.setTop (mkF m 147 #[.val (.int p0), .val (.int p1), .val (.int p2), .val (.int p3), .val (.int kd), .val (.int mu), .val (.int cx), .val (.int dx), .val (.ref a_LS), .val (.ref a_LL), .unset, .unset, .val (.int pp)] [(.ref arr), (.ref arr)]))
      refine Onw.go (fun own_u kt => XS.iconst X11.here hx rfl (hb hby at_147) kt) ?_
      show Onw p e below _ (T11.setTop (mkF m 148 #[.val (.int p0), .val (.int p1), .val (.int p2), .val (.int p3), .val (.int kd), .val (.int mu), .val (.int cx), .val (.int dx), .val (.ref a_LS), .val (.ref a_LL), .unset, .unset, .val (.int pp)] [(.int (3 : Int32)), (.ref arr), (.ref arr)]))
      refine Onw.go (fun own_u kt => XS.bipush X11.here hx rfl (hb hby at_148) kt) ?_
      show Onw p e below _ (T11.setTop (mkF m 150 #[.val (.int p0), .val (.int p1), .val (.int p2), .val (.int p3), .val (.int kd), .val (.int mu), .val (.int cx), .val (.int dx), .val (.ref a_LS), .val (.ref a_LL), .unset, .unset, .val (.int pp)] [(.int (101 : Int32)), (.int (3 : Int32)), (.ref arr), (.ref arr)]))
      obtain ⟨cl12, Ar12, qa12, Sa12, Na12, Ha12, Ga12⟩ := V11
      have hin12 : ¬ ((3 : Int32) < 0 ∨ cl12.slots.size ≤ ((3 : Int32)).toNatClampNeg) := inb_of Sa12 ⟨by decide, by decide⟩
      obtain ⟨T12, h12, X12, e12, W12, st12⟩ := stC X11 hx hZ2 e11 Ar12 (j := (3 : Int32)) hin12 (g := (mkF m 150 #[.val (.int p0), .val (.int p1), .val (.int p2), .val (.int p3), .val (.int kd), .val (.int mu), .val (.int cx), .val (.int dx), .val (.ref a_LS), .val (.ref a_LL), .unset, .unset, .val (.int pp)] [(.int (101 : Int32)), (.int (3 : Int32)), (.ref arr), (.ref arr)])) rfl rfl (hb hby at_150)
      have V12 := Arv.set Ar12 qa12 Sa12 Na12 Ha12 Ga12 (fits_nar_char _) W12 3 rfl (Nat.le_of_ble_eq_true rfl)
      have N12 := Fr.snoc X12 N11 g_arr
      refine Onw.go st12 ?_
      show Onw p e below _ (T12.setTop (mkF m 151 #[.val (.int p0), .val (.int p1), .val (.int p2), .val (.int p3), .val (.int kd), .val (.int mu), .val (.int cx), .val (.int dx), .val (.ref a_LS), .val (.ref a_LL), .unset, .unset, .val (.int pp)] [(.ref arr)]))
      have KA12 := KA11.wr W12 (Or.inr szA)
      refine Onw.go (fun own_u kt => XS.dup X12.here hx rfl (hb hby at_151) rfl rfl kt) ?_
      show Onw p e below _ (T12.setTop (mkF m 152 #[.val (.int p0), .val (.int p1), .val (.int p2), .val (.int p3), .val (.int kd), .val (.int mu), .val (.int cx), .val (.int dx), .val (.ref a_LS), .val (.ref a_LL), .unset, .unset, .val (.int pp)] [(.ref arr), (.ref arr)]))
      refine Onw.go (fun own_u kt => XS.iconst X12.here hx rfl (hb hby at_152) kt) ?_
      show Onw p e below _ (T12.setTop (mkF m 153 #[.val (.int p0), .val (.int p1), .val (.int p2), .val (.int p3), .val (.int kd), .val (.int mu), .val (.int cx), .val (.int dx), .val (.ref a_LS), .val (.ref a_LL), .unset, .unset, .val (.int pp)] [(.int (4 : Int32)), (.ref arr), (.ref arr)]))
      refine Onw.go (fun own_u kt => XS.bipush X12.here hx rfl (hb hby at_153) kt) ?_
      show Onw p e below _ (T12.setTop (mkF m 155 #[.val (.int p0), .val (.int p1), .val (.int p2), .val (.int p3), .val (.int kd), .val (.int mu), .val (.int cx), .val (.int dx), .val (.ref a_LS), .val (.ref a_LL), .unset, .unset, .val (.int pp)] [(.int (114 : Int32)), (.int (4 : Int32)), (.ref arr), (.ref arr)]))
      obtain ⟨cl13, Ar13, qa13, Sa13, Na13, Ha13, Ga13⟩ := V12
      have hin13 : ¬ ((4 : Int32) < 0 ∨ cl13.slots.size ≤ ((4 : Int32)).toNatClampNeg) := inb_of Sa13 ⟨by decide, by decide⟩
      obtain ⟨T13, h13, X13, e13, W13, st13⟩ := stC X12 hx hZ2 e12 Ar13 (j := (4 : Int32)) hin13 (g := (mkF m 155 #[.val (.int p0), .val (.int p1), .val (.int p2), .val (.int p3), .val (.int kd), .val (.int mu), .val (.int cx), .val (.int dx), .val (.ref a_LS), .val (.ref a_LL), .unset, .unset, .val (.int pp)] [(.int (114 : Int32)), (.int (4 : Int32)), (.ref arr), (.ref arr)])) rfl rfl (hb hby at_155)
      have V13 := Arv.set Ar13 qa13 Sa13 Na13 Ha13 Ga13 (fits_nar_char _) W13 4 rfl (Nat.le_of_ble_eq_true rfl)
      have N13 := Fr.snoc X13 N12 g_arr
      refine Onw.go st13 ?_
      show Onw p e below _ (T13.setTop (mkF m 156 #[.val (.int p0), .val (.int p1), .val (.int p2), .val (.int p3), .val (.int kd), .val (.int mu), .val (.int cx), .val (.int dx), .val (.ref a_LS), .val (.ref a_LL), .unset, .unset, .val (.int pp)] [(.ref arr)]))
      have KA13 := KA12.wr W13 (Or.inr szA)
      refine Onw.go (fun own_u kt => XS.dup X13.here hx rfl (hb hby at_156) rfl rfl kt) ?_
      show Onw p e below _ (T13.setTop (mkF m 157 #[.val (.int p0), .val (.int p1), .val (.int p2), .val (.int p3), .val (.int kd), .val (.int mu), .val (.int cx), .val (.int dx), .val (.ref a_LS), .val (.ref a_LL), .unset, .unset, .val (.int pp)] [(.ref arr), (.ref arr)]))
      refine Onw.go (fun own_u kt => XS.iconst X13.here hx rfl (hb hby at_157) kt) ?_
      show Onw p e below _ (T13.setTop (mkF m 158 #[.val (.int p0), .val (.int p1), .val (.int p2), .val (.int p3), .val (.int kd), .val (.int mu), .val (.int cx), .val (.int dx), .val (.ref a_LS), .val (.ref a_LL), .unset, .unset, .val (.int pp)] [(.int (5 : Int32)), (.ref arr), (.ref arr)]))
      refine Onw.go (fun own_u kt => XS.bipush X13.here hx rfl (hb hby at_158) kt) ?_
      show Onw p e below _ (T13.setTop (mkF m 160 #[.val (.int p0), .val (.int p1), .val (.int p2), .val (.int p3), .val (.int kd), .val (.int mu), .val (.int cx), .val (.int dx), .val (.ref a_LS), .val (.ref a_LL), .unset, .unset, .val (.int pp)] [(.int (98 : Int32)), (.int (5 : Int32)), (.ref arr), (.ref arr)]))
      obtain ⟨cl14, Ar14, qa14, Sa14, Na14, Ha14, Ga14⟩ := V13
      have hin14 : ¬ ((5 : Int32) < 0 ∨ cl14.slots.size ≤ ((5 : Int32)).toNatClampNeg) := inb_of Sa14 ⟨by decide, by decide⟩
      obtain ⟨T14, h14, X14, e14, W14, st14⟩ := stC X13 hx hZ2 e13 Ar14 (j := (5 : Int32)) hin14 (g := (mkF m 160 #[.val (.int p0), .val (.int p1), .val (.int p2), .val (.int p3), .val (.int kd), .val (.int mu), .val (.int cx), .val (.int dx), .val (.ref a_LS), .val (.ref a_LL), .unset, .unset, .val (.int pp)] [(.int (98 : Int32)), (.int (5 : Int32)), (.ref arr), (.ref arr)])) rfl rfl (hb hby at_160)
      have V14 := Arv.set Ar14 qa14 Sa14 Na14 Ha14 Ga14 (fits_nar_char _) W14 5 rfl (Nat.le_of_ble_eq_true rfl)
      have N14 := Fr.snoc X14 N13 g_arr
      refine Onw.go st14 ?_
      show Onw p e below _ (T14.setTop (mkF m 161 #[.val (.int p0), .val (.int p1), .val (.int p2), .val (.int p3), .val (.int kd), .val (.int mu), .val (.int cx), .val (.int dx), .val (.ref a_LS), .val (.ref a_LL), .unset, .unset, .val (.int pp)] [(.ref arr)]))
      have KA14 := KA13.wr W14 (Or.inr szA)
      refine Onw.go (fun own_u kt => XS.dup X14.here hx rfl (hb hby at_161) rfl rfl kt) ?_
      show Onw p e below _ (T14.setTop (mkF m 162 #[.val (.int p0), .val (.int p1), .val (.int p2), .val (.int p3), .val (.int kd), .val (.int mu), .val (.int cx), .val (.int dx), .val (.ref a_LS), .val (.ref a_LL), .unset, .unset, .val (.int pp)] [(.ref arr), (.ref arr)]))
      refine Onw.go (fun own_u kt => XS.bipush X14.here hx rfl (hb hby at_162) kt) ?_
      show Onw p e below _ (T14.setTop (mkF m 164 #[.val (.int p0), .val (.int p1), .val (.int p2), .val (.int p3), .val (.int kd), .val (.int mu), .val (.int cx), .val (.int dx), .val (.ref a_LS), .val (.ref a_LL), .unset, .unset, .val (.int pp)] [(.int (6 : Int32)), (.ref arr), (.ref arr)]))
      refine Onw.go (fun own_u kt => XS.bipush X14.here hx rfl (hb hby at_164) kt) ?_
      show Onw p e below _ (T14.setTop (mkF m 166 #[.val (.int p0), .val (.int p1), .val (.int p2), .val (.int p3), .val (.int kd), .val (.int mu), .val (.int cx), .val (.int dx), .val (.ref a_LS), .val (.ref a_LL), .unset, .unset, .val (.int pp)] [(.int (111 : Int32)), (.int (6 : Int32)), (.ref arr), (.ref arr)]))
      obtain ⟨cl15, Ar15, qa15, Sa15, Na15, Ha15, Ga15⟩ := V14
      have hin15 : ¬ ((6 : Int32) < 0 ∨ cl15.slots.size ≤ ((6 : Int32)).toNatClampNeg) := inb_of Sa15 ⟨by decide, by decide⟩
      obtain ⟨T15, h15, X15, e15, W15, st15⟩ := stC X14 hx hZ2 e14 Ar15 (j := (6 : Int32)) hin15 (g := (mkF m 166 #[.val (.int p0), .val (.int p1), .val (.int p2), .val (.int p3), .val (.int kd), .val (.int mu), .val (.int cx), .val (.int dx), .val (.ref a_LS), .val (.ref a_LL), .unset, .unset, .val (.int pp)] [(.int (111 : Int32)), (.int (6 : Int32)), (.ref arr), (.ref arr)])) rfl rfl (hb hby at_166)
      have V15 := Arv.set Ar15 qa15 Sa15 Na15 Ha15 Ga15 (fits_nar_char _) W15 6 rfl (Nat.le_of_ble_eq_true rfl)
      have N15 := Fr.snoc X15 N14 g_arr
      refine Onw.go st15 ?_
      show Onw p e below _ (T15.setTop (mkF m 167 #[.val (.int p0), .val (.int p1), .val (.int p2), .val (.int p3), .val (.int kd), .val (.int mu), .val (.int cx), .val (.int dx), .val (.ref a_LS), .val (.ref a_LL), .unset, .unset, .val (.int pp)] [(.ref arr)]))
      have KA15 := KA14.wr W15 (Or.inr szA)
      refine Onw.go (fun own_u kt => XS.dup X15.here hx rfl (hb hby at_167) rfl rfl kt) ?_
      show Onw p e below _ (T15.setTop (mkF m 168 #[.val (.int p0), .val (.int p1), .val (.int p2), .val (.int p3), .val (.int kd), .val (.int mu), .val (.int cx), .val (.int dx), .val (.ref a_LS), .val (.ref a_LL), .unset, .unset, .val (.int pp)] [(.ref arr), (.ref arr)]))
      refine Onw.go (fun own_u kt => XS.bipush X15.here hx rfl (hb hby at_168) kt) ?_
      show Onw p e below _ (T15.setTop (mkF m 170 #[.val (.int p0), .val (.int p1), .val (.int p2), .val (.int p3), .val (.int kd), .val (.int mu), .val (.int cx), .val (.int dx), .val (.ref a_LS), .val (.ref a_LL), .unset, .unset, .val (.int pp)] [(.int (7 : Int32)), (.ref arr), (.ref arr)]))
      refine Onw.go (fun own_u kt => XS.bipush X15.here hx rfl (hb hby at_170) kt) ?_
      show Onw p e below _ (T15.setTop (mkF m 172 #[.val (.int p0), .val (.int p1), .val (.int p2), .val (.int p3), .val (.int kd), .val (.int mu), .val (.int cx), .val (.int dx), .val (.ref a_LS), .val (.ref a_LL), .unset, .unset, .val (.int pp)] [(.int (115 : Int32)), (.int (7 : Int32)), (.ref arr), (.ref arr)]))
      obtain ⟨cl16, Ar16, qa16, Sa16, Na16, Ha16, Ga16⟩ := V15
      have hin16 : ¬ ((7 : Int32) < 0 ∨ cl16.slots.size ≤ ((7 : Int32)).toNatClampNeg) := inb_of Sa16 ⟨by decide, by decide⟩
      obtain ⟨T16, h16, X16, e16, W16, st16⟩ := stC X15 hx hZ2 e15 Ar16 (j := (7 : Int32)) hin16 (g := (mkF m 172 #[.val (.int p0), .val (.int p1), .val (.int p2), .val (.int p3), .val (.int kd), .val (.int mu), .val (.int cx), .val (.int dx), .val (.ref a_LS), .val (.ref a_LL), .unset, .unset, .val (.int pp)] [(.int (115 : Int32)), (.int (7 : Int32)), (.ref arr), (.ref arr)])) rfl rfl (hb hby at_172)
      have V16 := Arv.set Ar16 qa16 Sa16 Na16 Ha16 Ga16 (fits_nar_char _) W16 7 rfl (Nat.le_of_ble_eq_true rfl)
      have N16 := Fr.snoc X16 N15 g_arr
      refine Onw.go st16 ?_
      show Onw p e below _ (T16.setTop (mkF m 173 #[.val (.int p0), .val (.int p1), .val (.int p2), .val (.int p3), .val (.int kd), .val (.int mu), .val (.int cx), .val (.int dx), .val (.ref a_LS), .val (.ref a_LL), .unset, .unset, .val (.int pp)] [(.ref arr)]))
      have KA16 := KA15.wr W16 (Or.inr szA)
      refine Onw.go (fun own_u kt => XS.dup X16.here hx rfl (hb hby at_173) rfl rfl kt) ?_
      show Onw p e below _ (T16.setTop (mkF m 174 #[.val (.int p0), .val (.int p1), .val (.int p2), .val (.int p3), .val (.int kd), .val (.int mu), .val (.int cx), .val (.int dx), .val (.ref a_LS), .val (.ref a_LL), .unset, .unset, .val (.int pp)] [(.ref arr), (.ref arr)]))
      refine Onw.go (fun own_u kt => XS.bipush X16.here hx rfl (hb hby at_174) kt) ?_
      show Onw p e below _ (T16.setTop (mkF m 176 #[.val (.int p0), .val (.int p1), .val (.int p2), .val (.int p3), .val (.int kd), .val (.int mu), .val (.int cx), .val (.int dx), .val (.ref a_LS), .val (.ref a_LL), .unset, .unset, .val (.int pp)] [(.int (8 : Int32)), (.ref arr), (.ref arr)]))
      refine Onw.go (fun own_u kt => XS.bipush X16.here hx rfl (hb hby at_176) kt) ?_
      show Onw p e below _ (T16.setTop (mkF m 178 #[.val (.int p0), .val (.int p1), .val (.int p2), .val (.int p3), .val (.int kd), .val (.int mu), .val (.int cx), .val (.int dx), .val (.ref a_LS), .val (.ref a_LL), .unset, .unset, .val (.int pp)] [(.int (101 : Int32)), (.int (8 : Int32)), (.ref arr), (.ref arr)]))
      obtain ⟨cl17, Ar17, qa17, Sa17, Na17, Ha17, Ga17⟩ := V16
      have hin17 : ¬ ((8 : Int32) < 0 ∨ cl17.slots.size ≤ ((8 : Int32)).toNatClampNeg) := inb_of Sa17 ⟨by decide, by decide⟩
      obtain ⟨T17, h17, X17, e17, W17, st17⟩ := stC X16 hx hZ2 e16 Ar17 (j := (8 : Int32)) hin17 (g := (mkF m 178 #[.val (.int p0), .val (.int p1), .val (.int p2), .val (.int p3), .val (.int kd), .val (.int mu), .val (.int cx), .val (.int dx), .val (.ref a_LS), .val (.ref a_LL), .unset, .unset, .val (.int pp)] [(.int (101 : Int32)), (.int (8 : Int32)), (.ref arr), (.ref arr)])) rfl rfl (hb hby at_178)
      have V17 := Arv.set Ar17 qa17 Sa17 Na17 Ha17 Ga17 (fits_nar_char _) W17 8 rfl (Nat.le_of_ble_eq_true rfl)
      have N17 := Fr.snoc X17 N16 g_arr
      refine Onw.go st17 ?_
      show Onw p e below _ (T17.setTop (mkF m 179 #[.val (.int p0), .val (.int p1), .val (.int p2), .val (.int p3), .val (.int kd), .val (.int mu), .val (.int cx), .val (.int dx), .val (.ref a_LS), .val (.ref a_LL), .unset, .unset, .val (.int pp)] [(.ref arr)]))
      have KA17 := KA16.wr W17 (Or.inr szA)
      refine Onw.go (fun own_u kt => XS.astore X17.here hx rfl (hb hby at_179) rfl rfl (l' := #[.val (.int p0), .val (.int p1), .val (.int p2), .val (.int p3), .val (.int kd), .val (.int mu), .val (.int cx), .val (.int dx), .val (.ref a_LS), .val (.ref a_LL), .val (.ref arr), .unset, .val (.int pp)]) rfl kt) ?_
      show Onw p e below _ (T17.setTop (mkF m 181 #[.val (.int p0), .val (.int p1), .val (.int p2), .val (.int p3), .val (.int kd), .val (.int mu), .val (.int cx), .val (.int dx), .val (.ref a_LS), .val (.ref a_LL), .val (.ref arr), .unset, .val (.int pp)] []))
      refine Onw.go (fun own_u kt => XS.iload X17.here hx rfl (hb hby at_181) rfl kt) ?_
      show Onw p e below _ (T17.setTop (mkF m 183 #[.val (.int p0), .val (.int p1), .val (.int p2), .val (.int p3), .val (.int kd), .val (.int mu), .val (.int cx), .val (.int dx), .val (.ref a_LS), .val (.ref a_LL), .val (.ref arr), .unset, .val (.int pp)] [(.int mu)]))
      have VA : Arv Z h17 arr k8 .char (9 : Int32) ([(45 : Int32), (45 : Int32), (118 : Int32), (101 : Int32), (114 : Int32), (98 : Int32), (111 : Int32), (115 : Int32), (101 : Int32)].map Value.int) (.int (0 : Int32)) := V17
      by_cases hm : mu = (0 : Int32)
      · refine Onw.go (fun own_u kt => XS.ifYes X17.here hx rfl (pc0 := 183) (pc' := 193) rfl (hb hby at_183) rfl ((if0 _ _).trans (teq (hm : mu = (0 : Int32))).1) (by decide) (by decide) kt) ?_
        show Onw p e below _ (T17.setTop (mkF m 193 #[.val (.int p0), .val (.int p1), .val (.int p2), .val (.int p3), .val (.int kd), .val (.int mu), .val (.int cx), .val (.int dx), .val (.ref a_LS), .val (.ref a_LL), .val (.ref arr), .unset, .val (.int pp)] []))
        refine Onw.go (fun own_u kt => XS.iload X17.here hx rfl (hb hby at_193) rfl kt) ?_
        show Onw p e below _ (T17.setTop (mkF m 195 #[.val (.int p0), .val (.int p1), .val (.int p2), .val (.int p3), .val (.int kd), .val (.int mu), .val (.int cx), .val (.int dx), .val (.ref a_LS), .val (.ref a_LL), .val (.ref arr), .unset, .val (.int pp)] [(.int mu)]))
        refine Onw.go (fun own_u kt => XS.ifYes X17.here hx rfl (pc0 := 195) (pc' := 210) rfl (hb hby at_195) rfl ((if0 _ _).trans (teq (hm : mu = (0 : Int32))).1) (by decide) (by decide) kt) ?_
        show Onw p e below _ (T17.setTop (mkF m 210 #[.val (.int p0), .val (.int p1), .val (.int p2), .val (.int p3), .val (.int kd), .val (.int mu), .val (.int cx), .val (.int dx), .val (.ref a_LS), .val (.ref a_LL), .val (.ref arr), .unset, .val (.int pp)] []))
        refine Onw.go (fun own_u kt => XS.iconst X17.here hx rfl (hb hby at_210) kt) ?_
        show Onw p e below _ (T17.setTop (mkF m 211 #[.val (.int p0), .val (.int p1), .val (.int p2), .val (.int p3), .val (.int kd), .val (.int mu), .val (.int cx), .val (.int dx), .val (.ref a_LS), .val (.ref a_LL), .val (.ref arr), .unset, .val (.int pp)] [(.int (1 : Int32))]))
        refine Onw.go (fun own_u kt => XS.goto X17.here hx rfl (pc0 := 211) (pc' := 215) rfl (hb hby at_211) (by decide) (by decide) kt) ?_
        show Onw p e below _ (T17.setTop (mkF m 215 #[.val (.int p0), .val (.int p1), .val (.int p2), .val (.int p3), .val (.int kd), .val (.int mu), .val (.int cx), .val (.int dx), .val (.ref a_LS), .val (.ref a_LL), .val (.ref arr), .unset, .val (.int pp)] [(.int (1 : Int32))]))
        refine Onw.go (fun own_u kt => XS.istore X17.here hx rfl (hb hby at_215) rfl (l' := #[.val (.int p0), .val (.int p1), .val (.int p2), .val (.int p3), .val (.int kd), .val (.int mu), .val (.int cx), .val (.int dx), .val (.ref a_LS), .val (.ref a_LL), .val (.ref arr), .val (.int (1 : Int32)), .val (.int pp)]) rfl kt) ?_
        show Onw p e below _ (T17.setTop (mkF m 217 #[.val (.int p0), .val (.int p1), .val (.int p2), .val (.int p3), .val (.int kd), .val (.int mu), .val (.int cx), .val (.int dx), .val (.ref a_LS), .val (.ref a_LL), .val (.ref arr), .val (.int (1 : Int32)), .val (.int pp)] []))
        refine Onw.go (fun own_u kt => XS.goto X17.here hx rfl (pc0 := 217) (pc' := 481) rfl (hb hby at_217) (by decide) (by decide) kt) ?_
        show Onw p e below _ (T17.setTop (mkF m 481 #[.val (.int p0), .val (.int p1), .val (.int p2), .val (.int p3), .val (.int kd), .val (.int mu), .val (.int cx), .val (.int dx), .val (.ref a_LS), .val (.ref a_LL), .val (.ref arr), .val (.int (1 : Int32)), .val (.int pp)] []))
        have EE := own_ke KA17
        have VF : Arv Z h17 arr k8 .char (Int32.ofNat ([(45 : Int32), (45 : Int32), (118 : Int32), (101 : Int32), (114 : Int32), (98 : Int32), (111 : Int32), (115 : Int32), (101 : Int32)]).length) (([(45 : Int32), (45 : Int32), (118 : Int32), (101 : Int32), (114 : Int32), (98 : Int32), (111 : Int32), (115 : Int32), (101 : Int32)]).map Value.int) (.int (0 : Int32)) := VA
        exact law_481 hx hZ2 hw hby hml hown2 hEL (CHv.ext EE CH2) hS2 (Nat.le_trans hk2 EE.1) (.val (.int p0)) (.val (.int p1)) (.val (.int p2)) (.val (.int p3)) (.val (.int kd)) (.val (.int mu)) (.val (.int cx)) (.val (.int dx)) (.val (.ref a_LS)) (.val (.ref a_LL)) (.val (.int pp)) (1 : Int32) arr k8 ([(45 : Int32), (45 : Int32), (118 : Int32), (101 : Int32), (114 : Int32), (98 : Int32), (111 : Int32), (115 : Int32), (101 : Int32)]) zc X17 e17 N17 (Nat.le_trans Z2 EE.1) VF ((S_C.ext ES).ext EE) hz (by decide) (by decide) (by decide) hK
      · refine Onw.go (fun own_u kt => XS.ifNo X17.here hx rfl (hb hby at_183) rfl ((if0 _ _).trans (feq (hm : ¬ (mu = (0 : Int32)))).1) kt) ?_
        show Onw p e below _ (T17.setTop (mkF m 186 #[.val (.int p0), .val (.int p1), .val (.int p2), .val (.int p3), .val (.int kd), .val (.int mu), .val (.int cx), .val (.int dx), .val (.ref a_LS), .val (.ref a_LL), .val (.ref arr), .unset, .val (.int pp)] []))
        refine Onw.go (fun own_u kt => XS.aload X17.here hx rfl (hb hby at_186) rfl rfl kt) ?_
        show Onw p e below _ (T17.setTop (mkF m 188 #[.val (.int p0), .val (.int p1), .val (.int p2), .val (.int p3), .val (.int kd), .val (.int mu), .val (.int cx), .val (.int dx), .val (.ref a_LS), .val (.ref a_LL), .val (.ref arr), .unset, .val (.int pp)] [(.ref arr)]))
        refine Onw.go (fun own_u kt => XS.iload X17.here hx rfl (hb hby at_188) rfl kt) ?_
        show Onw p e below _ (T17.setTop (mkF m 190 #[.val (.int p0), .val (.int p1), .val (.int p2), .val (.int p3), .val (.int kd), .val (.int mu), .val (.int cx), .val (.int dx), .val (.ref a_LS), .val (.ref a_LL), .val (.ref arr), .unset, .val (.int pp)] [(.int pp), (.ref arr)]))
        refine Onw.go (fun own_u kt => XS.iload X17.here hx rfl (hb hby at_190) rfl kt) ?_
        show Onw p e below _ (T17.setTop (mkF m 192 #[.val (.int p0), .val (.int p1), .val (.int p2), .val (.int p3), .val (.int kd), .val (.int mu), .val (.int cx), .val (.int dx), .val (.ref a_LS), .val (.ref a_LL), .val (.ref arr), .unset, .val (.int pp)] [(.int cx), (.int pp), (.ref arr)]))
        obtain ⟨cl18, Ar18, qa18, Sa18, Na18, Ha18, Ga18⟩ := VA
        have hin18 : ¬ (pp < 0 ∨ cl18.slots.size ≤ pp.toNatClampNeg) := fun q => q.elim hp1 (fun r => absurd hp2 (Nat.not_lt.mpr (by rw [Sa18] at r; exact r)))
        obtain ⟨T18, h18, X18, e18, W18, st18⟩ := stC X17 hx hZ2 e17 Ar18 (j := pp) hin18 (g := (mkF m 192 #[.val (.int p0), .val (.int p1), .val (.int p2), .val (.int p3), .val (.int kd), .val (.int mu), .val (.int cx), .val (.int dx), .val (.ref a_LS), .val (.ref a_LL), .val (.ref arr), .unset, .val (.int pp)] [(.int cx), (.int pp), (.ref arr)])) rfl rfl (hb hby at_192)
        rw [hc2] at W18
        have VB := Arv.set Ar18 qa18 Sa18 Na18 Ha18 Ga18 (by rw [← hc2]; exact fits_nar_char _) W18 pp.toNatClampNeg rfl hp2
        rw [← List.map_set] at VB
        have N18 := Fr.snoc X18 N17 g_arr
        have KA18 := KA17.wr W18 (Or.inr szA)
        refine Onw.go st18 ?_
        show Onw p e below _ (T18.setTop (mkF m 193 #[.val (.int p0), .val (.int p1), .val (.int p2), .val (.int p3), .val (.int kd), .val (.int mu), .val (.int cx), .val (.int dx), .val (.ref a_LS), .val (.ref a_LL), .val (.ref arr), .unset, .val (.int pp)] []))
        refine Onw.go (fun own_u kt => XS.iload X18.here hx rfl (hb hby at_193) rfl kt) ?_
        show Onw p e below _ (T18.setTop (mkF m 195 #[.val (.int p0), .val (.int p1), .val (.int p2), .val (.int p3), .val (.int kd), .val (.int mu), .val (.int cx), .val (.int dx), .val (.ref a_LS), .val (.ref a_LL), .val (.ref arr), .unset, .val (.int pp)] [(.int mu)]))
        refine Onw.go (fun own_u kt => XS.ifNo X18.here hx rfl (hb hby at_195) rfl ((if0 _ _).trans (feq (hm : ¬ (mu = (0 : Int32)))).1) kt) ?_
        show Onw p e below _ (T18.setTop (mkF m 198 #[.val (.int p0), .val (.int p1), .val (.int p2), .val (.int p3), .val (.int kd), .val (.int mu), .val (.int cx), .val (.int dx), .val (.ref a_LS), .val (.ref a_LL), .val (.ref arr), .unset, .val (.int pp)] []))
        refine Onw.go (fun own_u kt => XS.iload X18.here hx rfl (hb hby at_198) rfl kt) ?_
        show Onw p e below _ (T18.setTop (mkF m 200 #[.val (.int p0), .val (.int p1), .val (.int p2), .val (.int p3), .val (.int kd), .val (.int mu), .val (.int cx), .val (.int dx), .val (.ref a_LS), .val (.ref a_LL), .val (.ref arr), .unset, .val (.int pp)] [(.int cx)]))
        refine Onw.go (fun own_u kt => XS.aload X18.here hx rfl (hb hby at_200) rfl rfl kt) ?_
        show Onw p e below _ (T18.setTop (mkF m 202 #[.val (.int p0), .val (.int p1), .val (.int p2), .val (.int p3), .val (.int kd), .val (.int mu), .val (.int cx), .val (.int dx), .val (.ref a_LS), .val (.ref a_LL), .val (.ref arr), .unset, .val (.int pp)] [(.ref a_LL), (.int cx)]))
        refine Onw.go (fun own_u kt => XS.iload X18.here hx rfl (hb hby at_202) rfl kt) ?_
        show Onw p e below _ (T18.setTop (mkF m 204 #[.val (.int p0), .val (.int p1), .val (.int p2), .val (.int p3), .val (.int kd), .val (.int mu), .val (.int cx), .val (.int dx), .val (.ref a_LS), .val (.ref a_LL), .val (.ref arr), .unset, .val (.int pp)] [(.int pp), (.ref a_LL), (.int cx)]))
        have EE := own_ke KA18
        obtain ⟨cq19, kq19, q19a, q19b, q19c⟩ := isOf hZ2 e18 (E_LL.ext EE)
        obtain ⟨_, _, ⟨T19, L19, k19, n19⟩, -, X19, ⟨Lc19, hQ19, l19, y19, z19⟩, st19⟩ := X18.virtualBack hx (y := (⟨"java/lang/String", "charAt", "(I)C"⟩ : MethodName)) (z := (⟨"java/lang/String", "charAt", "(I)C"⟩ : MethodName)) hown2 (mvT hZ2 (hw _ (List.mem_of_getElem? (i := 52) rfl))) (mvT hZ2 (hw _ (List.mem_of_getElem? (i := 53) rfl))) (notFace_of_selects (args := #[]) (mvT hZ2 (hw _ (List.mem_of_getElem? (i := 55) rfl)))) (mvT hZ2 (hw _ (List.mem_of_getElem? (i := 55) rfl))) (mvT hZ2 (hw _ (List.mem_of_getElem? (i := 54) rfl))) (by decide) (StrChars.Road.chN (W := 1) hZ2 hch (kI := 4) (hw _ (List.mem_of_getElem? (i := 2) rfl)) (E_LL.ext EE) (V_LL.ext EE) (C_LL.ext EE) (A_LL.ext EE) own_codL own_bdL ((S_C.ext ES).ext EE) hz ((S_F.ext ES).ext EE) rf (by decide) (i := pp.toNatClampNeg) hp2 (j := pp) hp3 (by decide) (by decide)) q19a q19c (g := (mkF m 204 #[.val (.int p0), .val (.int p1), .val (.int p2), .val (.int p3), .val (.int kd), .val (.int mu), .val (.int cx), .val (.int dx), .val (.ref a_LS), .val (.ref a_LL), .val (.ref arr), .unset, .val (.int pp)] [(.int pp), (.ref a_LL), (.int cx)])) rfl (by rw [hml]; rfl) (Steps.refl _) (argsL := [(.int pp)]) (rest := [(.int cx)]) (lenOf pd_3 rfl) rfl (by show 2 * 0 + _ ≤ _; exact Nat.le_of_eq rfl) (hb hby at_204) (fun _ _ => ⟨rfl, e18, (by decide : 5 + 0 ≤ _), (by decide : 62 + 0 ≤ _)⟩)
        dsimp only [Pt.U, Pt.locs, Pt.cells, Pt.slots] at X19 l19 y19 z19 st19 hQ19
        subst l19 y19 z19
        obtain ⟨rfl, rfl, e19q⟩ := hQ19
        have N19q := Fr.nil n0
        have N19 := Fr.app N18 N19q
        refine Onw.go (fun own_u kt => st19.trans kt) ?_
        show Onw p e below _ (T19.setTop (mkF m 207 #[.val (.int p0), .val (.int p1), .val (.int p2), .val (.int p3), .val (.int kd), .val (.int mu), .val (.int cx), .val (.int dx), .val (.ref a_LS), .val (.ref a_LL), .val (.ref arr), .unset, .val (.int pp)] [(.int (own_VL.getD pp.toNatClampNeg 0)), (.int cx)]))
        by_cases hcc : cx = (own_VL.getD pp.toNatClampNeg 0)
        · refine Onw.go (fun own_u kt => XS.icmpNo X19.here hx rfl (hb hby at_207) rfl (teq (hcc : cx = (own_VL.getD pp.toNatClampNeg 0))).2 kt) ?_
          show Onw p e below _ (T19.setTop (mkF m 210 #[.val (.int p0), .val (.int p1), .val (.int p2), .val (.int p3), .val (.int kd), .val (.int mu), .val (.int cx), .val (.int dx), .val (.ref a_LS), .val (.ref a_LL), .val (.ref arr), .unset, .val (.int pp)] []))
          refine Onw.go (fun own_u kt => XS.iconst X19.here hx rfl (hb hby at_210) kt) ?_
          show Onw p e below _ (T19.setTop (mkF m 211 #[.val (.int p0), .val (.int p1), .val (.int p2), .val (.int p3), .val (.int kd), .val (.int mu), .val (.int cx), .val (.int dx), .val (.ref a_LS), .val (.ref a_LL), .val (.ref arr), .unset, .val (.int pp)] [(.int (1 : Int32))]))
          refine Onw.go (fun own_u kt => XS.goto X19.here hx rfl (pc0 := 211) (pc' := 215) rfl (hb hby at_211) (by decide) (by decide) kt) ?_
          show Onw p e below _ (T19.setTop (mkF m 215 #[.val (.int p0), .val (.int p1), .val (.int p2), .val (.int p3), .val (.int kd), .val (.int mu), .val (.int cx), .val (.int dx), .val (.ref a_LS), .val (.ref a_LL), .val (.ref arr), .unset, .val (.int pp)] [(.int (1 : Int32))]))
          refine Onw.go (fun own_u kt => XS.istore X19.here hx rfl (hb hby at_215) rfl (l' := #[.val (.int p0), .val (.int p1), .val (.int p2), .val (.int p3), .val (.int kd), .val (.int mu), .val (.int cx), .val (.int dx), .val (.ref a_LS), .val (.ref a_LL), .val (.ref arr), .val (.int (1 : Int32)), .val (.int pp)]) rfl kt) ?_
          show Onw p e below _ (T19.setTop (mkF m 217 #[.val (.int p0), .val (.int p1), .val (.int p2), .val (.int p3), .val (.int kd), .val (.int mu), .val (.int cx), .val (.int dx), .val (.ref a_LS), .val (.ref a_LL), .val (.ref arr), .val (.int (1 : Int32)), .val (.int pp)] []))
          refine Onw.go (fun own_u kt => XS.goto X19.here hx rfl (pc0 := 217) (pc' := 481) rfl (hb hby at_217) (by decide) (by decide) kt) ?_
          show Onw p e below _ (T19.setTop (mkF m 481 #[.val (.int p0), .val (.int p1), .val (.int p2), .val (.int p3), .val (.int kd), .val (.int mu), .val (.int cx), .val (.int dx), .val (.ref a_LS), .val (.ref a_LL), .val (.ref arr), .val (.int (1 : Int32)), .val (.int pp)] []))
          have EE := own_ke KA18
          have VF : Arv Z h18 arr k8 .char (Int32.ofNat (([(45 : Int32), (45 : Int32), (118 : Int32), (101 : Int32), (114 : Int32), (98 : Int32), (111 : Int32), (115 : Int32), (101 : Int32)] : List Int32).set pp.toNatClampNeg cx).length) ((([(45 : Int32), (45 : Int32), (118 : Int32), (101 : Int32), (114 : Int32), (98 : Int32), (111 : Int32), (115 : Int32), (101 : Int32)] : List Int32).set pp.toNatClampNeg cx).map Value.int) (.int (0 : Int32)) := (own_setlen [(45 : Int32), (45 : Int32), (118 : Int32), (101 : Int32), (114 : Int32), (98 : Int32), (111 : Int32), (115 : Int32), (101 : Int32)] _ _).symm ▸ VB
          exact law_481 hx hZ2 hw hby hml hown2 hEL (CHv.ext EE CH2) hS2 (Nat.le_trans hk2 EE.1) (.val (.int p0)) (.val (.int p1)) (.val (.int p2)) (.val (.int p3)) (.val (.int kd)) (.val (.int mu)) (.val (.int cx)) (.val (.int dx)) (.val (.ref a_LS)) (.val (.ref a_LL)) (.val (.int pp)) (1 : Int32) arr k8 (([(45 : Int32), (45 : Int32), (118 : Int32), (101 : Int32), (114 : Int32), (98 : Int32), (111 : Int32), (115 : Int32), (101 : Int32)] : List Int32).set pp.toNatClampNeg cx) zc X19 e19q N19 (Nat.le_trans Z2 EE.1) VF ((S_C.ext ES).ext EE) hz (own_set (by decide) hc1) (by rw [own_setlen]; decide) ((own_swL hp2).trans (if_pos hcc)) hK
        · refine Onw.go (fun own_u kt => XS.icmpYes X19.here hx rfl (pc0 := 207) (pc' := 214) rfl (hb hby at_207) rfl (feq (hcc : ¬ (cx = (own_VL.getD pp.toNatClampNeg 0)))).2 (by decide) (by decide) kt) ?_
          show Onw p e below _ (T19.setTop (mkF m 214 #[.val (.int p0), .val (.int p1), .val (.int p2), .val (.int p3), .val (.int kd), .val (.int mu), .val (.int cx), .val (.int dx), .val (.ref a_LS), .val (.ref a_LL), .val (.ref arr), .unset, .val (.int pp)] []))
          refine Onw.go (fun own_u kt => XS.iconst X19.here hx rfl (hb hby at_214) kt) ?_
          show Onw p e below _ (T19.setTop (mkF m 215 #[.val (.int p0), .val (.int p1), .val (.int p2), .val (.int p3), .val (.int kd), .val (.int mu), .val (.int cx), .val (.int dx), .val (.ref a_LS), .val (.ref a_LL), .val (.ref arr), .unset, .val (.int pp)] [(.int (0 : Int32))]))
          refine Onw.go (fun own_u kt => XS.istore X19.here hx rfl (hb hby at_215) rfl (l' := #[.val (.int p0), .val (.int p1), .val (.int p2), .val (.int p3), .val (.int kd), .val (.int mu), .val (.int cx), .val (.int dx), .val (.ref a_LS), .val (.ref a_LL), .val (.ref arr), .val (.int (0 : Int32)), .val (.int pp)]) rfl kt) ?_
          show Onw p e below _ (T19.setTop (mkF m 217 #[.val (.int p0), .val (.int p1), .val (.int p2), .val (.int p3), .val (.int kd), .val (.int mu), .val (.int cx), .val (.int dx), .val (.ref a_LS), .val (.ref a_LL), .val (.ref arr), .val (.int (0 : Int32)), .val (.int pp)] []))
          refine Onw.go (fun own_u kt => XS.goto X19.here hx rfl (pc0 := 217) (pc' := 481) rfl (hb hby at_217) (by decide) (by decide) kt) ?_
          show Onw p e below _ (T19.setTop (mkF m 481 #[.val (.int p0), .val (.int p1), .val (.int p2), .val (.int p3), .val (.int kd), .val (.int mu), .val (.int cx), .val (.int dx), .val (.ref a_LS), .val (.ref a_LL), .val (.ref arr), .val (.int (0 : Int32)), .val (.int pp)] []))
          have EE := own_ke KA18
          have VF : Arv Z h18 arr k8 .char (Int32.ofNat (([(45 : Int32), (45 : Int32), (118 : Int32), (101 : Int32), (114 : Int32), (98 : Int32), (111 : Int32), (115 : Int32), (101 : Int32)] : List Int32).set pp.toNatClampNeg cx).length) ((([(45 : Int32), (45 : Int32), (118 : Int32), (101 : Int32), (114 : Int32), (98 : Int32), (111 : Int32), (115 : Int32), (101 : Int32)] : List Int32).set pp.toNatClampNeg cx).map Value.int) (.int (0 : Int32)) := (own_setlen [(45 : Int32), (45 : Int32), (118 : Int32), (101 : Int32), (114 : Int32), (98 : Int32), (111 : Int32), (115 : Int32), (101 : Int32)] _ _).symm ▸ VB
          exact law_481 hx hZ2 hw hby hml hown2 hEL (CHv.ext EE CH2) hS2 (Nat.le_trans hk2 EE.1) (.val (.int p0)) (.val (.int p1)) (.val (.int p2)) (.val (.int p3)) (.val (.int kd)) (.val (.int mu)) (.val (.int cx)) (.val (.int dx)) (.val (.ref a_LS)) (.val (.ref a_LL)) (.val (.int pp)) (0 : Int32) arr k8 (([(45 : Int32), (45 : Int32), (118 : Int32), (101 : Int32), (114 : Int32), (98 : Int32), (111 : Int32), (115 : Int32), (101 : Int32)] : List Int32).set pp.toNatClampNeg cx) zc X19 e19q N19 (Nat.le_trans Z2 EE.1) VF ((S_C.ext ES).ext EE) hz (own_set (by decide) hc1) (by rw [own_setlen]; decide) ((own_swL hp2).trans (if_neg hcc)) hK
    · refine Onw.go (fun own_u kt => XS.icmpYes X2.here hx rfl (pc0 := 115) (pc' := 220) rfl (hb hby at_115) rfl (feq (hk_1 : ¬ (kd = (1 : Int32)))).2 (by decide) (by decide) kt) ?_
      show Onw p e below _ (T2.setTop (mkF m 220 #[.val (.int p0), .val (.int p1), .val (.int p2), .val (.int p3), .val (.int kd), .val (.int mu), .val (.int cx), .val (.int dx), .val (.ref a_LS), .val (.ref a_LL), .unset, .unset, .unset] []))
      refine Onw.go (fun own_u kt => XS.iload X2.here hx rfl (hb hby at_220) rfl kt) ?_
      show Onw p e below _ (T2.setTop (mkF m 222 #[.val (.int p0), .val (.int p1), .val (.int p2), .val (.int p3), .val (.int kd), .val (.int mu), .val (.int cx), .val (.int dx), .val (.ref a_LS), .val (.ref a_LL), .unset, .unset, .unset] [(.int kd)]))
      refine Onw.go (fun own_u kt => XS.iconst X2.here hx rfl (hb hby at_222) kt) ?_
      show Onw p e below _ (T2.setTop (mkF m 223 #[.val (.int p0), .val (.int p1), .val (.int p2), .val (.int p3), .val (.int kd), .val (.int mu), .val (.int cx), .val (.int dx), .val (.ref a_LS), .val (.ref a_LL), .unset, .unset, .unset] [(.int (2 : Int32)), (.int kd)]))
      by_cases hk_2 : kd = (2 : Int32)
      · refine Onw.go (fun own_u kt => XS.icmpNo X2.here hx rfl (hb hby at_223) rfl (teq (hk_2 : kd = (2 : Int32))).2 kt) ?_
        show Onw p e below _ (T2.setTop (mkF m 226 #[.val (.int p0), .val (.int p1), .val (.int p2), .val (.int p3), .val (.int kd), .val (.int mu), .val (.int cx), .val (.int dx), .val (.ref a_LS), .val (.ref a_LL), .unset, .unset, .unset] []))
        refine Onw.go (fun own_u kt => XS.iconst X2.here hx rfl (hb hby at_226) kt) ?_
        show Onw p e below _ (T2.setTop (mkF m 227 #[.val (.int p0), .val (.int p1), .val (.int p2), .val (.int p3), .val (.int kd), .val (.int mu), .val (.int cx), .val (.int dx), .val (.ref a_LS), .val (.ref a_LL), .unset, .unset, .unset] [(.int (1 : Int32))]))
        obtain ⟨T20, h20, k20, X20, e20, E20, A20, st20⟩ := newP X2 hx hZ2 (hw _ (List.mem_of_getElem? (i := 10) rfl)) e2 (g := (mkF m 227 #[.val (.int p0), .val (.int p1), .val (.int p2), .val (.int p3), .val (.int kd), .val (.int mu), .val (.int cx), .val (.int dx), .val (.ref a_LS), .val (.ref a_LL), .unset, .unset, .unset] [(.int (1 : Int32))])) rfl (hb hby at_227) rfl (by decide) (cap := 10) (by decide) (by decide) (by decide) (by decide)
        obtain ⟨arr, gg20⟩ : ∃ own_z, own_z = h2.size := ⟨_, rfl⟩
        rw [← gg20] at A20 st20
        have V_arr : Arv Z h20 arr k20 .char (1 : Int32) [(.int (0 : Int32))] (.int (0 : Int32)) := (Arv.new A20 (by decide)).pad (pad_rep [] (.int (0 : Int32)) 1)
        refine Onw.go st20 ?_
        show Onw p e below _ (T20.setTop (mkF m 229 #[.val (.int p0), .val (.int p1), .val (.int p2), .val (.int p3), .val (.int kd), .val (.int mu), .val (.int cx), .val (.int dx), .val (.ref a_LS), .val (.ref a_LL), .unset, .unset, .unset] [(.ref arr)]))
        have g_arr : n0 ≤ arr := Nat.le_trans Z2 (Nat.le_of_eq gg20.symm)
        have szA : h2.size ≤ arr := Nat.le_of_eq gg20.symm
        have KA20 : Keep h2 h20 [] := (Keep.refl h2 []).ext E20
        refine Onw.go (fun own_u kt => XS.dup X20.here hx rfl (hb hby at_229) rfl rfl kt) ?_
        show Onw p e below _ (T20.setTop (mkF m 230 #[.val (.int p0), .val (.int p1), .val (.int p2), .val (.int p3), .val (.int kd), .val (.int mu), .val (.int cx), .val (.int dx), .val (.ref a_LS), .val (.ref a_LL), .unset, .unset, .unset] [(.ref arr), (.ref arr)]))
        refine Onw.go (fun own_u kt => XS.iconst X20.here hx rfl (hb hby at_230) kt) ?_
        show Onw p e below _ (T20.setTop (mkF m 231 #[.val (.int p0), .val (.int p1), .val (.int p2), .val (.int p3), .val (.int kd), .val (.int mu), .val (.int cx), .val (.int dx), .val (.ref a_LS), .val (.ref a_LL), .unset, .unset, .unset] [(.int (0 : Int32)), (.ref arr), (.ref arr)]))
        refine Onw.go (fun own_u kt => XS.iload X20.here hx rfl (hb hby at_231) rfl kt) ?_
        show Onw p e below _ (T20.setTop (mkF m 233 #[.val (.int p0), .val (.int p1), .val (.int p2), .val (.int p3), .val (.int kd), .val (.int mu), .val (.int cx), .val (.int dx), .val (.ref a_LS), .val (.ref a_LL), .unset, .unset, .unset] [(.int cx), (.int (0 : Int32)), (.ref arr), (.ref arr)]))
        obtain ⟨cl21, Ar21, qa21, Sa21, Na21, Ha21, Ga21⟩ := V_arr
        have hin21 : ¬ ((0 : Int32) < 0 ∨ cl21.slots.size ≤ ((0 : Int32)).toNatClampNeg) := inb_of Sa21 ⟨by decide, by decide⟩
        obtain ⟨T21, h21, X21, e21, W21, st21⟩ := stC X20 hx hZ2 e20 Ar21 (j := (0 : Int32)) hin21 (g := (mkF m 233 #[.val (.int p0), .val (.int p1), .val (.int p2), .val (.int p3), .val (.int kd), .val (.int mu), .val (.int cx), .val (.int dx), .val (.ref a_LS), .val (.ref a_LL), .unset, .unset, .unset] [(.int cx), (.int (0 : Int32)), (.ref arr), (.ref arr)])) rfl rfl (hb hby at_233)
        have V21 := Arv.set Ar21 qa21 Sa21 Na21 Ha21 Ga21 (fits_nar_char _) W21 0 rfl (Nat.le_of_ble_eq_true rfl)
        have N21 := Fr.snoc X21 N0 g_arr
        refine Onw.go st21 ?_
        show Onw p e below _ (T21.setTop (mkF m 234 #[.val (.int p0), .val (.int p1), .val (.int p2), .val (.int p3), .val (.int kd), .val (.int mu), .val (.int cx), .val (.int dx), .val (.ref a_LS), .val (.ref a_LL), .unset, .unset, .unset] [(.ref arr)]))
        have KA21 := KA20.wr W21 (Or.inr szA)
        refine Onw.go (fun own_u kt => XS.astore X21.here hx rfl (hb hby at_234) rfl rfl (l' := #[.val (.int p0), .val (.int p1), .val (.int p2), .val (.int p3), .val (.int kd), .val (.int mu), .val (.int cx), .val (.int dx), .val (.ref a_LS), .val (.ref a_LL), .val (.ref arr), .unset, .unset]) rfl kt) ?_
        show Onw p e below _ (T21.setTop (mkF m 236 #[.val (.int p0), .val (.int p1), .val (.int p2), .val (.int p3), .val (.int kd), .val (.int mu), .val (.int cx), .val (.int dx), .val (.ref a_LS), .val (.ref a_LL), .val (.ref arr), .unset, .unset] []))
        refine Onw.go (fun own_u kt => XS.iconst X21.here hx rfl (hb hby at_236) kt) ?_
        show Onw p e below _ (T21.setTop (mkF m 237 #[.val (.int p0), .val (.int p1), .val (.int p2), .val (.int p3), .val (.int kd), .val (.int mu), .val (.int cx), .val (.int dx), .val (.ref a_LS), .val (.ref a_LL), .val (.ref arr), .unset, .unset] [(.int (0 : Int32))]))
        refine Onw.go (fun own_u kt => XS.istore X21.here hx rfl (hb hby at_237) rfl (l' := #[.val (.int p0), .val (.int p1), .val (.int p2), .val (.int p3), .val (.int kd), .val (.int mu), .val (.int cx), .val (.int dx), .val (.ref a_LS), .val (.ref a_LL), .val (.ref arr), .val (.int (0 : Int32)), .unset]) rfl kt) ?_
        show Onw p e below _ (T21.setTop (mkF m 239 #[.val (.int p0), .val (.int p1), .val (.int p2), .val (.int p3), .val (.int kd), .val (.int mu), .val (.int cx), .val (.int dx), .val (.ref a_LS), .val (.ref a_LL), .val (.ref arr), .val (.int (0 : Int32)), .unset] []))
        refine Onw.go (fun own_u kt => XS.goto X21.here hx rfl (pc0 := 239) (pc' := 481) rfl (hb hby at_239) (by decide) (by decide) kt) ?_
        show Onw p e below _ (T21.setTop (mkF m 481 #[.val (.int p0), .val (.int p1), .val (.int p2), .val (.int p3), .val (.int kd), .val (.int mu), .val (.int cx), .val (.int dx), .val (.ref a_LS), .val (.ref a_LL), .val (.ref arr), .val (.int (0 : Int32)), .unset] []))
        rw [hc2] at V21
        have VA : Arv Z h21 arr k20 .char (1 : Int32) ([cx].map Value.int) (.int (0 : Int32)) := V21
        have EE := own_ke KA21
        have VF : Arv Z h21 arr k20 .char (Int32.ofNat ([cx]).length) (([cx]).map Value.int) (.int (0 : Int32)) := VA
        exact law_481 hx hZ2 hw hby hml hown2 hEL (CHv.ext EE CH2) hS2 (Nat.le_trans hk2 EE.1) (.val (.int p0)) (.val (.int p1)) (.val (.int p2)) (.val (.int p3)) (.val (.int kd)) (.val (.int mu)) (.val (.int cx)) (.val (.int dx)) (.val (.ref a_LS)) (.val (.ref a_LL)) (.unset) (0 : Int32) arr k20 ([cx]) zc X21 e21 N21 (Nat.le_trans Z2 EE.1) VF ((S_C.ext ES).ext EE) hz (own_one hc1) (by simp) (own_swlen (by simp) (by simp)) hK
      · refine Onw.go (fun own_u kt => XS.icmpYes X2.here hx rfl (pc0 := 223) (pc' := 242) rfl (hb hby at_223) rfl (feq (hk_2 : ¬ (kd = (2 : Int32)))).2 (by decide) (by decide) kt) ?_
        show Onw p e below _ (T2.setTop (mkF m 242 #[.val (.int p0), .val (.int p1), .val (.int p2), .val (.int p3), .val (.int kd), .val (.int mu), .val (.int cx), .val (.int dx), .val (.ref a_LS), .val (.ref a_LL), .unset, .unset, .unset] []))
        refine Onw.go (fun own_u kt => XS.iload X2.here hx rfl (hb hby at_242) rfl kt) ?_
        show Onw p e below _ (T2.setTop (mkF m 244 #[.val (.int p0), .val (.int p1), .val (.int p2), .val (.int p3), .val (.int kd), .val (.int mu), .val (.int cx), .val (.int dx), .val (.ref a_LS), .val (.ref a_LL), .unset, .unset, .unset] [(.int kd)]))
        refine Onw.go (fun own_u kt => XS.iconst X2.here hx rfl (hb hby at_244) kt) ?_
        show Onw p e below _ (T2.setTop (mkF m 245 #[.val (.int p0), .val (.int p1), .val (.int p2), .val (.int p3), .val (.int kd), .val (.int mu), .val (.int cx), .val (.int dx), .val (.ref a_LS), .val (.ref a_LL), .unset, .unset, .unset] [(.int (3 : Int32)), (.int kd)]))
        by_cases hk_3 : kd = (3 : Int32)
        · refine Onw.go (fun own_u kt => XS.icmpNo X2.here hx rfl (hb hby at_245) rfl (teq (hk_3 : kd = (3 : Int32))).2 kt) ?_
          show Onw p e below _ (T2.setTop (mkF m 248 #[.val (.int p0), .val (.int p1), .val (.int p2), .val (.int p3), .val (.int kd), .val (.int mu), .val (.int cx), .val (.int dx), .val (.ref a_LS), .val (.ref a_LL), .unset, .unset, .unset] []))
          refine Onw.go (fun own_u kt => XS.iloadN X2.here hx rfl (hb hby at_248) rfl kt) ?_
          show Onw p e below _ (T2.setTop (mkF m 249 #[.val (.int p0), .val (.int p1), .val (.int p2), .val (.int p3), .val (.int kd), .val (.int mu), .val (.int cx), .val (.int dx), .val (.ref a_LS), .val (.ref a_LL), .unset, .unset, .unset] [(.int p1)]))
          refine Onw.go (X2.ldcInt hx hown2 (mvT hZ2 (hw _ (List.mem_of_getElem? (i := 9) rfl))) (g := (mkF m 249 #[.val (.int p0), .val (.int p1), .val (.int p2), .val (.int p3), .val (.int kd), .val (.int mu), .val (.int cx), .val (.int dx), .val (.ref a_LS), .val (.ref a_LL), .unset, .unset, .unset] [(.int p1)])) rfl (hb hby at_249)) ?_
          show Onw p e below _ (T2.setTop (mkF m 251 #[.val (.int p0), .val (.int p1), .val (.int p2), .val (.int p3), .val (.int kd), .val (.int mu), .val (.int cx), .val (.int dx), .val (.ref a_LS), .val (.ref a_LL), .unset, .unset, .unset] [(.int (2147483647 : Int32)), (.int p1)]))
          refine Onw.go (fun own_u kt => XS.iand X2.here hx rfl (hb hby at_251) rfl kt) ?_
          show Onw p e below _ (T2.setTop (mkF m 252 #[.val (.int p0), .val (.int p1), .val (.int p2), .val (.int p3), .val (.int kd), .val (.int mu), .val (.int cx), .val (.int dx), .val (.ref a_LS), .val (.ref a_LL), .unset, .unset, .unset] [(.int (p1 &&& (2147483647 : Int32)))]))
          refine Onw.go (fun own_u kt => XS.bipush X2.here hx rfl (hb hby at_252) kt) ?_
          show Onw p e below _ (T2.setTop (mkF m 254 #[.val (.int p0), .val (.int p1), .val (.int p2), .val (.int p3), .val (.int kd), .val (.int mu), .val (.int cx), .val (.int dx), .val (.ref a_LS), .val (.ref a_LL), .unset, .unset, .unset] [(.int (8 : Int32)), (.int (p1 &&& (2147483647 : Int32)))]))
          refine Onw.go (fun own_u kt => iremM X2 hx rfl (hb hby at_254) rfl (by decide) kt) ?_
          show Onw p e below _ (T2.setTop (mkF m 255 #[.val (.int p0), .val (.int p1), .val (.int p2), .val (.int p3), .val (.int kd), .val (.int mu), .val (.int cx), .val (.int dx), .val (.ref a_LS), .val (.ref a_LL), .unset, .unset, .unset] [(.int ((p1 &&& (2147483647 : Int32)) % (8 : Int32)))]))
          obtain ⟨pp, hp0⟩ : ∃ own_z, own_z = ((p1 &&& (2147483647 : Int32)) % (8 : Int32)) := ⟨_, rfl⟩
          rw [← hp0]
          show Onw p e below _ (T2.setTop (mkF m 255 #[.val (.int p0), .val (.int p1), .val (.int p2), .val (.int p3), .val (.int kd), .val (.int mu), .val (.int cx), .val (.int dx), .val (.ref a_LS), .val (.ref a_LL), .unset, .unset, .unset] [(.int pp)]))
          obtain ⟨hp1, hp2, hp3⟩ := own_ib _ 8 (by decide) _ _ ⟨rfl, by decide⟩ hp0
          refine Onw.go (fun own_u kt => XS.istore X2.here hx rfl (hb hby at_255) rfl (l' := #[.val (.int p0), .val (.int p1), .val (.int p2), .val (.int p3), .val (.int kd), .val (.int mu), .val (.int cx), .val (.int dx), .val (.ref a_LS), .val (.ref a_LL), .unset, .unset, .val (.int pp)]) rfl kt) ?_
          show Onw p e below _ (T2.setTop (mkF m 257 #[.val (.int p0), .val (.int p1), .val (.int p2), .val (.int p3), .val (.int kd), .val (.int mu), .val (.int cx), .val (.int dx), .val (.ref a_LS), .val (.ref a_LL), .unset, .unset, .val (.int pp)] []))
          refine Onw.go (fun own_u kt => XS.bipush X2.here hx rfl (hb hby at_257) kt) ?_
          show Onw p e below _ (T2.setTop (mkF m 259 #[.val (.int p0), .val (.int p1), .val (.int p2), .val (.int p3), .val (.int kd), .val (.int mu), .val (.int cx), .val (.int dx), .val (.ref a_LS), .val (.ref a_LL), .unset, .unset, .val (.int pp)] [(.int (8 : Int32))]))
          obtain ⟨T22, h22, k22, X22, e22, E22, A22, st22⟩ := newP X2 hx hZ2 (hw _ (List.mem_of_getElem? (i := 10) rfl)) e2 (g := (mkF m 259 #[.val (.int p0), .val (.int p1), .val (.int p2), .val (.int p3), .val (.int kd), .val (.int mu), .val (.int cx), .val (.int dx), .val (.ref a_LS), .val (.ref a_LL), .unset, .unset, .val (.int pp)] [(.int (8 : Int32))])) rfl (hb hby at_259) rfl (by decide) (cap := 10) (by decide) (by decide) (by decide) (by decide)
          obtain ⟨arr, gg22⟩ : ∃ own_z, own_z = h2.size := ⟨_, rfl⟩
          rw [← gg22] at A22 st22
          have V_arr : Arv Z h22 arr k22 .char (8 : Int32) [(.int (0 : Int32)), (.int (0 : Int32)), (.int (0 : Int32)), (.int (0 : Int32)), (.int (0 : Int32)), (.int (0 : Int32)), (.int (0 : Int32)), (.int (0 : Int32))] (.int (0 : Int32)) := (Arv.new A22 (by decide)).pad (pad_rep [] (.int (0 : Int32)) 8)
          refine Onw.go st22 ?_
          show Onw p e below _ (T22.setTop (mkF m 261 #[.val (.int p0), .val (.int p1), .val (.int p2), .val (.int p3), .val (.int kd), .val (.int mu), .val (.int cx), .val (.int dx), .val (.ref a_LS), .val (.ref a_LL), .unset, .unset, .val (.int pp)] [(.ref arr)]))
          have g_arr : n0 ≤ arr := Nat.le_trans Z2 (Nat.le_of_eq gg22.symm)
          have szA : h2.size ≤ arr := Nat.le_of_eq gg22.symm
          have KA22 : Keep h2 h22 [] := (Keep.refl h2 []).ext E22
          refine Onw.go (fun own_u kt => XS.dup X22.here hx rfl (hb hby at_261) rfl rfl kt) ?_
          show Onw p e below _ (T22.setTop (mkF m 262 #[.val (.int p0), .val (.int p1), .val (.int p2), .val (.int p3), .val (.int kd), .val (.int mu), .val (.int cx), .val (.int dx), .val (.ref a_LS), .val (.ref a_LL), .unset, .unset, .val (.int pp)] [(.ref arr), (.ref arr)]))
          refine Onw.go (fun own_u kt => XS.iconst X22.here hx rfl (hb hby at_262) kt) ?_
          show Onw p e below _ (T22.setTop (mkF m 263 #[.val (.int p0), .val (.int p1), .val (.int p2), .val (.int p3), .val (.int kd), .val (.int mu), .val (.int cx), .val (.int dx), .val (.ref a_LS), .val (.ref a_LL), .unset, .unset, .val (.int pp)] [(.int (0 : Int32)), (.ref arr), (.ref arr)]))
          refine Onw.go (fun own_u kt => XS.bipush X22.here hx rfl (hb hby at_263) kt) ?_
          show Onw p e below _ (T22.setTop (mkF m 265 #[.val (.int p0), .val (.int p1), .val (.int p2), .val (.int p3), .val (.int kd), .val (.int mu), .val (.int cx), .val (.int dx), .val (.ref a_LS), .val (.ref a_LL), .unset, .unset, .val (.int pp)] [(.int (45 : Int32)), (.int (0 : Int32)), (.ref arr), (.ref arr)]))
          obtain ⟨cl23, Ar23, qa23, Sa23, Na23, Ha23, Ga23⟩ := V_arr
          have hin23 : ¬ ((0 : Int32) < 0 ∨ cl23.slots.size ≤ ((0 : Int32)).toNatClampNeg) := inb_of Sa23 ⟨by decide, by decide⟩
          obtain ⟨T23, h23, X23, e23, W23, st23⟩ := stC X22 hx hZ2 e22 Ar23 (j := (0 : Int32)) hin23 (g := (mkF m 265 #[.val (.int p0), .val (.int p1), .val (.int p2), .val (.int p3), .val (.int kd), .val (.int mu), .val (.int cx), .val (.int dx), .val (.ref a_LS), .val (.ref a_LL), .unset, .unset, .val (.int pp)] [(.int (45 : Int32)), (.int (0 : Int32)), (.ref arr), (.ref arr)])) rfl rfl (hb hby at_265)
          have V23 := Arv.set Ar23 qa23 Sa23 Na23 Ha23 Ga23 (fits_nar_char _) W23 0 rfl (Nat.le_of_ble_eq_true rfl)
          have N23 := Fr.snoc X23 N0 g_arr
          refine Onw.go st23 ?_
          show Onw p e below _ (T23.setTop (mkF m 266 #[.val (.int p0), .val (.int p1), .val (.int p2), .val (.int p3), .val (.int kd), .val (.int mu), .val (.int cx), .val (.int dx), .val (.ref a_LS), .val (.ref a_LL), .unset, .unset, .val (.int pp)] [(.ref arr)]))
          have KA23 := KA22.wr W23 (Or.inr szA)
          refine Onw.go (fun own_u kt => XS.dup X23.here hx rfl (hb hby at_266) rfl rfl kt) ?_
          show Onw p e below _ (T23.setTop (mkF m 267 #[.val (.int p0), .val (.int p1), .val (.int p2), .val (.int p3), .val (.int kd), .val (.int mu), .val (.int cx), .val (.int dx), .val (.ref a_LS), .val (.ref a_LL), .unset, .unset, .val (.int pp)] [(.ref arr), (.ref arr)]))
          refine Onw.go (fun own_u kt => XS.iconst X23.here hx rfl (hb hby at_267) kt) ?_
          show Onw p e below _ (T23.setTop (mkF m 268 #[.val (.int p0), .val (.int p1), .val (.int p2), .val (.int p3), .val (.int kd), .val (.int mu), .val (.int cx), .val (.int dx), .val (.ref a_LS), .val (.ref a_LL), .unset, .unset, .val (.int pp)] [(.int (1 : Int32)), (.ref arr), (.ref arr)]))
          refine Onw.go (fun own_u kt => XS.bipush X23.here hx rfl (hb hby at_268) kt) ?_
          show Onw p e below _ (T23.setTop (mkF m 270 #[.val (.int p0), .val (.int p1), .val (.int p2), .val (.int p3), .val (.int kd), .val (.int mu), .val (.int cx), .val (.int dx), .val (.ref a_LS), .val (.ref a_LL), .unset, .unset, .val (.int pp)] [(.int (45 : Int32)), (.int (1 : Int32)), (.ref arr), (.ref arr)]))
          obtain ⟨cl24, Ar24, qa24, Sa24, Na24, Ha24, Ga24⟩ := V23
          have hin24 : ¬ ((1 : Int32) < 0 ∨ cl24.slots.size ≤ ((1 : Int32)).toNatClampNeg) := inb_of Sa24 ⟨by decide, by decide⟩
          obtain ⟨T24, h24, X24, e24, W24, st24⟩ := stC X23 hx hZ2 e23 Ar24 (j := (1 : Int32)) hin24 (g := (mkF m 270 #[.val (.int p0), .val (.int p1), .val (.int p2), .val (.int p3), .val (.int kd), .val (.int mu), .val (.int cx), .val (.int dx), .val (.ref a_LS), .val (.ref a_LL), .unset, .unset, .val (.int pp)] [(.int (45 : Int32)), (.int (1 : Int32)), (.ref arr), (.ref arr)])) rfl rfl (hb hby at_270)
          have V24 := Arv.set Ar24 qa24 Sa24 Na24 Ha24 Ga24 (fits_nar_char _) W24 1 rfl (Nat.le_of_ble_eq_true rfl)
          have N24 := Fr.snoc X24 N23 g_arr
          refine Onw.go st24 ?_
          show Onw p e below _ (T24.setTop (mkF m 271 #[.val (.int p0), .val (.int p1), .val (.int p2), .val (.int p3), .val (.int kd), .val (.int mu), .val (.int cx), .val (.int dx), .val (.ref a_LS), .val (.ref a_LL), .unset, .unset, .val (.int pp)] [(.ref arr)]))
          have KA24 := KA23.wr W24 (Or.inr szA)
          refine Onw.go (fun own_u kt => XS.dup X24.here hx rfl (hb hby at_271) rfl rfl kt) ?_
          show Onw p e below _ (T24.setTop (mkF m 272 #[.val (.int p0), .val (.int p1), .val (.int p2), .val (.int p3), .val (.int kd), .val (.int mu), .val (.int cx), .val (.int dx), .val (.ref a_LS), .val (.ref a_LL), .unset, .unset, .val (.int pp)] [(.ref arr), (.ref arr)]))
          refine Onw.go (fun own_u kt => XS.iconst X24.here hx rfl (hb hby at_272) kt) ?_
          show Onw p e below _ (T24.setTop (mkF m 273 #[.val (.int p0), .val (.int p1), .val (.int p2), .val (.int p3), .val (.int kd), .val (.int mu), .val (.int cx), .val (.int dx), .val (.ref a_LS), .val (.ref a_LL), .unset, .unset, .val (.int pp)] [(.int (2 : Int32)), (.ref arr), (.ref arr)]))
          refine Onw.go (fun own_u kt => XS.bipush X24.here hx rfl (hb hby at_273) kt) ?_
          show Onw p e below _ (T24.setTop (mkF m 275 #[.val (.int p0), .val (.int p1), .val (.int p2), .val (.int p3), .val (.int kd), .val (.int mu), .val (.int cx), .val (.int dx), .val (.ref a_LS), .val (.ref a_LL), .unset, .unset, .val (.int pp)] [(.int (118 : Int32)), (.int (2 : Int32)), (.ref arr), (.ref arr)]))
          obtain ⟨cl25, Ar25, qa25, Sa25, Na25, Ha25, Ga25⟩ := V24
          have hin25 : ¬ ((2 : Int32) < 0 ∨ cl25.slots.size ≤ ((2 : Int32)).toNatClampNeg) := inb_of Sa25 ⟨by decide, by decide⟩
          obtain ⟨T25, h25, X25, e25, W25, st25⟩ := stC X24 hx hZ2 e24 Ar25 (j := (2 : Int32)) hin25 (g := (mkF m 275 #[.val (.int p0), .val (.int p1), .val (.int p2), .val (.int p3), .val (.int kd), .val (.int mu), .val (.int cx), .val (.int dx), .val (.ref a_LS), .val (.ref a_LL), .unset, .unset, .val (.int pp)] [(.int (118 : Int32)), (.int (2 : Int32)), (.ref arr), (.ref arr)])) rfl rfl (hb hby at_275)
          have V25 := Arv.set Ar25 qa25 Sa25 Na25 Ha25 Ga25 (fits_nar_char _) W25 2 rfl (Nat.le_of_ble_eq_true rfl)
          have N25 := Fr.snoc X25 N24 g_arr
          refine Onw.go st25 ?_
          show Onw p e below _ (T25.setTop (mkF m 276 #[.val (.int p0), .val (.int p1), .val (.int p2), .val (.int p3), .val (.int kd), .val (.int mu), .val (.int cx), .val (.int dx), .val (.ref a_LS), .val (.ref a_LL), .unset, .unset, .val (.int pp)] [(.ref arr)]))
          have KA25 := KA24.wr W25 (Or.inr szA)
          refine Onw.go (fun own_u kt => XS.dup X25.here hx rfl (hb hby at_276) rfl rfl kt) ?_
          show Onw p e below _ (T25.setTop (mkF m 277 #[.val (.int p0), .val (.int p1), .val (.int p2), .val (.int p3), .val (.int kd), .val (.int mu), .val (.int cx), .val (.int dx), .val (.ref a_LS), .val (.ref a_LL), .unset, .unset, .val (.int pp)] [(.ref arr), (.ref arr)]))
          refine Onw.go (fun own_u kt => XS.iconst X25.here hx rfl (hb hby at_277) kt) ?_
          show Onw p e below _ (T25.setTop (mkF m 278 #[.val (.int p0), .val (.int p1), .val (.int p2), .val (.int p3), .val (.int kd), .val (.int mu), .val (.int cx), .val (.int dx), .val (.ref a_LS), .val (.ref a_LL), .unset, .unset, .val (.int pp)] [(.int (3 : Int32)), (.ref arr), (.ref arr)]))
          refine Onw.go (fun own_u kt => XS.bipush X25.here hx rfl (hb hby at_278) kt) ?_
          show Onw p e below _ (T25.setTop (mkF m 280 #[.val (.int p0), .val (.int p1), .val (.int p2), .val (.int p3), .val (.int kd), .val (.int mu), .val (.int cx), .val (.int dx), .val (.ref a_LS), .val (.ref a_LL), .unset, .unset, .val (.int pp)] [(.int (101 : Int32)), (.int (3 : Int32)), (.ref arr), (.ref arr)]))
          obtain ⟨cl26, Ar26, qa26, Sa26, Na26, Ha26, Ga26⟩ := V25
          have hin26 : ¬ ((3 : Int32) < 0 ∨ cl26.slots.size ≤ ((3 : Int32)).toNatClampNeg) := inb_of Sa26 ⟨by decide, by decide⟩
          obtain ⟨T26, h26, X26, e26, W26, st26⟩ := stC X25 hx hZ2 e25 Ar26 (j := (3 : Int32)) hin26 (g := (mkF m 280 #[.val (.int p0), .val (.int p1), .val (.int p2), .val (.int p3), .val (.int kd), .val (.int mu), .val (.int cx), .val (.int dx), .val (.ref a_LS), .val (.ref a_LL), .unset, .unset, .val (.int pp)] [(.int (101 : Int32)), (.int (3 : Int32)), (.ref arr), (.ref arr)])) rfl rfl (hb hby at_280)
          have V26 := Arv.set Ar26 qa26 Sa26 Na26 Ha26 Ga26 (fits_nar_char _) W26 3 rfl (Nat.le_of_ble_eq_true rfl)
          have N26 := Fr.snoc X26 N25 g_arr
          refine Onw.go st26 ?_
          show Onw p e below _ (T26.setTop (mkF m 281 #[.val (.int p0), .val (.int p1), .val (.int p2), .val (.int p3), .val (.int kd), .val (.int mu), .val (.int cx), .val (.int dx), .val (.ref a_LS), .val (.ref a_LL), .unset, .unset, .val (.int pp)] [(.ref arr)]))
          have KA26 := KA25.wr W26 (Or.inr szA)
          refine Onw.go (fun own_u kt => XS.dup X26.here hx rfl (hb hby at_281) rfl rfl kt) ?_
          show Onw p e below _ (T26.setTop (mkF m 282 #[.val (.int p0), .val (.int p1), .val (.int p2), .val (.int p3), .val (.int kd), .val (.int mu), .val (.int cx), .val (.int dx), .val (.ref a_LS), .val (.ref a_LL), .unset, .unset, .val (.int pp)] [(.ref arr), (.ref arr)]))
          refine Onw.go (fun own_u kt => XS.iconst X26.here hx rfl (hb hby at_282) kt) ?_
          show Onw p e below _ (T26.setTop (mkF m 283 #[.val (.int p0), .val (.int p1), .val (.int p2), .val (.int p3), .val (.int kd), .val (.int mu), .val (.int cx), .val (.int dx), .val (.ref a_LS), .val (.ref a_LL), .unset, .unset, .val (.int pp)] [(.int (4 : Int32)), (.ref arr), (.ref arr)]))
          refine Onw.go (fun own_u kt => XS.bipush X26.here hx rfl (hb hby at_283) kt) ?_
          show Onw p e below _ (T26.setTop (mkF m 285 #[.val (.int p0), .val (.int p1), .val (.int p2), .val (.int p3), .val (.int kd), .val (.int mu), .val (.int cx), .val (.int dx), .val (.ref a_LS), .val (.ref a_LL), .unset, .unset, .val (.int pp)] [(.int (114 : Int32)), (.int (4 : Int32)), (.ref arr), (.ref arr)]))
          obtain ⟨cl27, Ar27, qa27, Sa27, Na27, Ha27, Ga27⟩ := V26
          have hin27 : ¬ ((4 : Int32) < 0 ∨ cl27.slots.size ≤ ((4 : Int32)).toNatClampNeg) := inb_of Sa27 ⟨by decide, by decide⟩
          obtain ⟨T27, h27, X27, e27, W27, st27⟩ := stC X26 hx hZ2 e26 Ar27 (j := (4 : Int32)) hin27 (g := (mkF m 285 #[.val (.int p0), .val (.int p1), .val (.int p2), .val (.int p3), .val (.int kd), .val (.int mu), .val (.int cx), .val (.int dx), .val (.ref a_LS), .val (.ref a_LL), .unset, .unset, .val (.int pp)] [(.int (114 : Int32)), (.int (4 : Int32)), (.ref arr), (.ref arr)])) rfl rfl (hb hby at_285)
          have V27 := Arv.set Ar27 qa27 Sa27 Na27 Ha27 Ga27 (fits_nar_char _) W27 4 rfl (Nat.le_of_ble_eq_true rfl)
          have N27 := Fr.snoc X27 N26 g_arr
          refine Onw.go st27 ?_
          show Onw p e below _ (T27.setTop (mkF m 286 #[.val (.int p0), .val (.int p1), .val (.int p2), .val (.int p3), .val (.int kd), .val (.int mu), .val (.int cx), .val (.int dx), .val (.ref a_LS), .val (.ref a_LL), .unset, .unset, .val (.int pp)] [(.ref arr)]))
          have KA27 := KA26.wr W27 (Or.inr szA)
          refine Onw.go (fun own_u kt => XS.dup X27.here hx rfl (hb hby at_286) rfl rfl kt) ?_
          show Onw p e below _ (T27.setTop (mkF m 287 #[.val (.int p0), .val (.int p1), .val (.int p2), .val (.int p3), .val (.int kd), .val (.int mu), .val (.int cx), .val (.int dx), .val (.ref a_LS), .val (.ref a_LL), .unset, .unset, .val (.int pp)] [(.ref arr), (.ref arr)]))
          refine Onw.go (fun own_u kt => XS.iconst X27.here hx rfl (hb hby at_287) kt) ?_
          show Onw p e below _ (T27.setTop (mkF m 288 #[.val (.int p0), .val (.int p1), .val (.int p2), .val (.int p3), .val (.int kd), .val (.int mu), .val (.int cx), .val (.int dx), .val (.ref a_LS), .val (.ref a_LL), .unset, .unset, .val (.int pp)] [(.int (5 : Int32)), (.ref arr), (.ref arr)]))
          refine Onw.go (fun own_u kt => XS.bipush X27.here hx rfl (hb hby at_288) kt) ?_
          show Onw p e below _ (T27.setTop (mkF m 290 #[.val (.int p0), .val (.int p1), .val (.int p2), .val (.int p3), .val (.int kd), .val (.int mu), .val (.int cx), .val (.int dx), .val (.ref a_LS), .val (.ref a_LL), .unset, .unset, .val (.int pp)] [(.int (98 : Int32)), (.int (5 : Int32)), (.ref arr), (.ref arr)]))
          obtain ⟨cl28, Ar28, qa28, Sa28, Na28, Ha28, Ga28⟩ := V27
          have hin28 : ¬ ((5 : Int32) < 0 ∨ cl28.slots.size ≤ ((5 : Int32)).toNatClampNeg) := inb_of Sa28 ⟨by decide, by decide⟩
          obtain ⟨T28, h28, X28, e28, W28, st28⟩ := stC X27 hx hZ2 e27 Ar28 (j := (5 : Int32)) hin28 (g := (mkF m 290 #[.val (.int p0), .val (.int p1), .val (.int p2), .val (.int p3), .val (.int kd), .val (.int mu), .val (.int cx), .val (.int dx), .val (.ref a_LS), .val (.ref a_LL), .unset, .unset, .val (.int pp)] [(.int (98 : Int32)), (.int (5 : Int32)), (.ref arr), (.ref arr)])) rfl rfl (hb hby at_290)
          have V28 := Arv.set Ar28 qa28 Sa28 Na28 Ha28 Ga28 (fits_nar_char _) W28 5 rfl (Nat.le_of_ble_eq_true rfl)
          have N28 := Fr.snoc X28 N27 g_arr
          refine Onw.go st28 ?_
          show Onw p e below _ (T28.setTop (mkF m 291 #[.val (.int p0), .val (.int p1), .val (.int p2), .val (.int p3), .val (.int kd), .val (.int mu), .val (.int cx), .val (.int dx), .val (.ref a_LS), .val (.ref a_LL), .unset, .unset, .val (.int pp)] [(.ref arr)]))
          have KA28 := KA27.wr W28 (Or.inr szA)
          refine Onw.go (fun own_u kt => XS.dup X28.here hx rfl (hb hby at_291) rfl rfl kt) ?_
          show Onw p e below _ (T28.setTop (mkF m 292 #[.val (.int p0), .val (.int p1), .val (.int p2), .val (.int p3), .val (.int kd), .val (.int mu), .val (.int cx), .val (.int dx), .val (.ref a_LS), .val (.ref a_LL), .unset, .unset, .val (.int pp)] [(.ref arr), (.ref arr)]))
          refine Onw.go (fun own_u kt => XS.bipush X28.here hx rfl (hb hby at_292) kt) ?_
          show Onw p e below _ (T28.setTop (mkF m 294 #[.val (.int p0), .val (.int p1), .val (.int p2), .val (.int p3), .val (.int kd), .val (.int mu), .val (.int cx), .val (.int dx), .val (.ref a_LS), .val (.ref a_LL), .unset, .unset, .val (.int pp)] [(.int (6 : Int32)), (.ref arr), (.ref arr)]))
          refine Onw.go (fun own_u kt => XS.bipush X28.here hx rfl (hb hby at_294) kt) ?_
          show Onw p e below _ (T28.setTop (mkF m 296 #[.val (.int p0), .val (.int p1), .val (.int p2), .val (.int p3), .val (.int kd), .val (.int mu), .val (.int cx), .val (.int dx), .val (.ref a_LS), .val (.ref a_LL), .unset, .unset, .val (.int pp)] [(.int (111 : Int32)), (.int (6 : Int32)), (.ref arr), (.ref arr)]))
          obtain ⟨cl29, Ar29, qa29, Sa29, Na29, Ha29, Ga29⟩ := V28
          have hin29 : ¬ ((6 : Int32) < 0 ∨ cl29.slots.size ≤ ((6 : Int32)).toNatClampNeg) := inb_of Sa29 ⟨by decide, by decide⟩
          obtain ⟨T29, h29, X29, e29, W29, st29⟩ := stC X28 hx hZ2 e28 Ar29 (j := (6 : Int32)) hin29 (g := (mkF m 296 #[.val (.int p0), .val (.int p1), .val (.int p2), .val (.int p3), .val (.int kd), .val (.int mu), .val (.int cx), .val (.int dx), .val (.ref a_LS), .val (.ref a_LL), .unset, .unset, .val (.int pp)] [(.int (111 : Int32)), (.int (6 : Int32)), (.ref arr), (.ref arr)])) rfl rfl (hb hby at_296)
          have V29 := Arv.set Ar29 qa29 Sa29 Na29 Ha29 Ga29 (fits_nar_char _) W29 6 rfl (Nat.le_of_ble_eq_true rfl)
          have N29 := Fr.snoc X29 N28 g_arr
          refine Onw.go st29 ?_
          show Onw p e below _ (T29.setTop (mkF m 297 #[.val (.int p0), .val (.int p1), .val (.int p2), .val (.int p3), .val (.int kd), .val (.int mu), .val (.int cx), .val (.int dx), .val (.ref a_LS), .val (.ref a_LL), .unset, .unset, .val (.int pp)] [(.ref arr)]))
          have KA29 := KA28.wr W29 (Or.inr szA)
          refine Onw.go (fun own_u kt => XS.dup X29.here hx rfl (hb hby at_297) rfl rfl kt) ?_
          show Onw p e below _ (T29.setTop (mkF m 298 #[.val (.int p0), .val (.int p1), .val (.int p2), .val (.int p3), .val (.int kd), .val (.int mu), .val (.int cx), .val (.int dx), .val (.ref a_LS), .val (.ref a_LL), .unset, .unset, .val (.int pp)] [(.ref arr), (.ref arr)]))
          refine Onw.go (fun own_u kt => XS.bipush X29.here hx rfl (hb hby at_298) kt) ?_
          show Onw p e below _ (T29.setTop (mkF m 300 #[.val (.int p0), .val (.int p1), .val (.int p2), .val (.int p3), .val (.int kd), .val (.int mu), .val (.int cx), .val (.int dx), .val (.ref a_LS), .val (.ref a_LL), .unset, .unset, .val (.int pp)] [(.int (7 : Int32)), (.ref arr), (.ref arr)]))
          refine Onw.go (fun own_u kt => XS.bipush X29.here hx rfl (hb hby at_300) kt) ?_
          show Onw p e below _ (T29.setTop (mkF m 302 #[.val (.int p0), .val (.int p1), .val (.int p2), .val (.int p3), .val (.int kd), .val (.int mu), .val (.int cx), .val (.int dx), .val (.ref a_LS), .val (.ref a_LL), .unset, .unset, .val (.int pp)] [(.int (115 : Int32)), (.int (7 : Int32)), (.ref arr), (.ref arr)]))
          obtain ⟨cl30, Ar30, qa30, Sa30, Na30, Ha30, Ga30⟩ := V29
          have hin30 : ¬ ((7 : Int32) < 0 ∨ cl30.slots.size ≤ ((7 : Int32)).toNatClampNeg) := inb_of Sa30 ⟨by decide, by decide⟩
          obtain ⟨T30, h30, X30, e30, W30, st30⟩ := stC X29 hx hZ2 e29 Ar30 (j := (7 : Int32)) hin30 (g := (mkF m 302 #[.val (.int p0), .val (.int p1), .val (.int p2), .val (.int p3), .val (.int kd), .val (.int mu), .val (.int cx), .val (.int dx), .val (.ref a_LS), .val (.ref a_LL), .unset, .unset, .val (.int pp)] [(.int (115 : Int32)), (.int (7 : Int32)), (.ref arr), (.ref arr)])) rfl rfl (hb hby at_302)
          have V30 := Arv.set Ar30 qa30 Sa30 Na30 Ha30 Ga30 (fits_nar_char _) W30 7 rfl (Nat.le_of_ble_eq_true rfl)
          have N30 := Fr.snoc X30 N29 g_arr
          refine Onw.go st30 ?_
          show Onw p e below _ (T30.setTop (mkF m 303 #[.val (.int p0), .val (.int p1), .val (.int p2), .val (.int p3), .val (.int kd), .val (.int mu), .val (.int cx), .val (.int dx), .val (.ref a_LS), .val (.ref a_LL), .unset, .unset, .val (.int pp)] [(.ref arr)]))
          have KA30 := KA29.wr W30 (Or.inr szA)
          refine Onw.go (fun own_u kt => XS.astore X30.here hx rfl (hb hby at_303) rfl rfl (l' := #[.val (.int p0), .val (.int p1), .val (.int p2), .val (.int p3), .val (.int kd), .val (.int mu), .val (.int cx), .val (.int dx), .val (.ref a_LS), .val (.ref a_LL), .val (.ref arr), .unset, .val (.int pp)]) rfl kt) ?_
          show Onw p e below _ (T30.setTop (mkF m 305 #[.val (.int p0), .val (.int p1), .val (.int p2), .val (.int p3), .val (.int kd), .val (.int mu), .val (.int cx), .val (.int dx), .val (.ref a_LS), .val (.ref a_LL), .val (.ref arr), .unset, .val (.int pp)] []))
          refine Onw.go (fun own_u kt => XS.iload X30.here hx rfl (hb hby at_305) rfl kt) ?_
          show Onw p e below _ (T30.setTop (mkF m 307 #[.val (.int p0), .val (.int p1), .val (.int p2), .val (.int p3), .val (.int kd), .val (.int mu), .val (.int cx), .val (.int dx), .val (.ref a_LS), .val (.ref a_LL), .val (.ref arr), .unset, .val (.int pp)] [(.int mu)]))
          have VA : Arv Z h30 arr k22 .char (8 : Int32) ([(45 : Int32), (45 : Int32), (118 : Int32), (101 : Int32), (114 : Int32), (98 : Int32), (111 : Int32), (115 : Int32)].map Value.int) (.int (0 : Int32)) := V30
          by_cases hm : mu = (0 : Int32)
          · refine Onw.go (fun own_u kt => XS.ifYes X30.here hx rfl (pc0 := 307) (pc' := 317) rfl (hb hby at_307) rfl ((if0 _ _).trans (teq (hm : mu = (0 : Int32))).1) (by decide) (by decide) kt) ?_
            show Onw p e below _ (T30.setTop (mkF m 317 #[.val (.int p0), .val (.int p1), .val (.int p2), .val (.int p3), .val (.int kd), .val (.int mu), .val (.int cx), .val (.int dx), .val (.ref a_LS), .val (.ref a_LL), .val (.ref arr), .unset, .val (.int pp)] []))
            refine Onw.go (fun own_u kt => XS.iconst X30.here hx rfl (hb hby at_317) kt) ?_
            show Onw p e below _ (T30.setTop (mkF m 318 #[.val (.int p0), .val (.int p1), .val (.int p2), .val (.int p3), .val (.int kd), .val (.int mu), .val (.int cx), .val (.int dx), .val (.ref a_LS), .val (.ref a_LL), .val (.ref arr), .unset, .val (.int pp)] [(.int (0 : Int32))]))
            refine Onw.go (fun own_u kt => XS.istore X30.here hx rfl (hb hby at_318) rfl (l' := #[.val (.int p0), .val (.int p1), .val (.int p2), .val (.int p3), .val (.int kd), .val (.int mu), .val (.int cx), .val (.int dx), .val (.ref a_LS), .val (.ref a_LL), .val (.ref arr), .val (.int (0 : Int32)), .val (.int pp)]) rfl kt) ?_
            show Onw p e below _ (T30.setTop (mkF m 320 #[.val (.int p0), .val (.int p1), .val (.int p2), .val (.int p3), .val (.int kd), .val (.int mu), .val (.int cx), .val (.int dx), .val (.ref a_LS), .val (.ref a_LL), .val (.ref arr), .val (.int (0 : Int32)), .val (.int pp)] []))
            refine Onw.go (fun own_u kt => XS.goto X30.here hx rfl (pc0 := 320) (pc' := 481) rfl (hb hby at_320) (by decide) (by decide) kt) ?_
            show Onw p e below _ (T30.setTop (mkF m 481 #[.val (.int p0), .val (.int p1), .val (.int p2), .val (.int p3), .val (.int kd), .val (.int mu), .val (.int cx), .val (.int dx), .val (.ref a_LS), .val (.ref a_LL), .val (.ref arr), .val (.int (0 : Int32)), .val (.int pp)] []))
            have EE := own_ke KA30
            have VF : Arv Z h30 arr k22 .char (Int32.ofNat ([(45 : Int32), (45 : Int32), (118 : Int32), (101 : Int32), (114 : Int32), (98 : Int32), (111 : Int32), (115 : Int32)]).length) (([(45 : Int32), (45 : Int32), (118 : Int32), (101 : Int32), (114 : Int32), (98 : Int32), (111 : Int32), (115 : Int32)]).map Value.int) (.int (0 : Int32)) := VA
            exact law_481 hx hZ2 hw hby hml hown2 hEL (CHv.ext EE CH2) hS2 (Nat.le_trans hk2 EE.1) (.val (.int p0)) (.val (.int p1)) (.val (.int p2)) (.val (.int p3)) (.val (.int kd)) (.val (.int mu)) (.val (.int cx)) (.val (.int dx)) (.val (.ref a_LS)) (.val (.ref a_LL)) (.val (.int pp)) (0 : Int32) arr k22 ([(45 : Int32), (45 : Int32), (118 : Int32), (101 : Int32), (114 : Int32), (98 : Int32), (111 : Int32), (115 : Int32)]) zc X30 e30 N30 (Nat.le_trans Z2 EE.1) VF ((S_C.ext ES).ext EE) hz (by decide) (by decide) (own_swlen (by decide) (by decide)) hK
          · refine Onw.go (fun own_u kt => XS.ifNo X30.here hx rfl (hb hby at_307) rfl ((if0 _ _).trans (feq (hm : ¬ (mu = (0 : Int32)))).1) kt) ?_
            show Onw p e below _ (T30.setTop (mkF m 310 #[.val (.int p0), .val (.int p1), .val (.int p2), .val (.int p3), .val (.int kd), .val (.int mu), .val (.int cx), .val (.int dx), .val (.ref a_LS), .val (.ref a_LL), .val (.ref arr), .unset, .val (.int pp)] []))
            refine Onw.go (fun own_u kt => XS.aload X30.here hx rfl (hb hby at_310) rfl rfl kt) ?_
            show Onw p e below _ (T30.setTop (mkF m 312 #[.val (.int p0), .val (.int p1), .val (.int p2), .val (.int p3), .val (.int kd), .val (.int mu), .val (.int cx), .val (.int dx), .val (.ref a_LS), .val (.ref a_LL), .val (.ref arr), .unset, .val (.int pp)] [(.ref arr)]))
            refine Onw.go (fun own_u kt => XS.iload X30.here hx rfl (hb hby at_312) rfl kt) ?_
            show Onw p e below _ (T30.setTop (mkF m 314 #[.val (.int p0), .val (.int p1), .val (.int p2), .val (.int p3), .val (.int kd), .val (.int mu), .val (.int cx), .val (.int dx), .val (.ref a_LS), .val (.ref a_LL), .val (.ref arr), .unset, .val (.int pp)] [(.int pp), (.ref arr)]))
            refine Onw.go (fun own_u kt => XS.iload X30.here hx rfl (hb hby at_314) rfl kt) ?_
            show Onw p e below _ (T30.setTop (mkF m 316 #[.val (.int p0), .val (.int p1), .val (.int p2), .val (.int p3), .val (.int kd), .val (.int mu), .val (.int cx), .val (.int dx), .val (.ref a_LS), .val (.ref a_LL), .val (.ref arr), .unset, .val (.int pp)] [(.int cx), (.int pp), (.ref arr)]))
            obtain ⟨cl31, Ar31, qa31, Sa31, Na31, Ha31, Ga31⟩ := VA
            have hin31 : ¬ (pp < 0 ∨ cl31.slots.size ≤ pp.toNatClampNeg) := fun q => q.elim hp1 (fun r => absurd hp2 (Nat.not_lt.mpr (by rw [Sa31] at r; exact r)))
            obtain ⟨T31, h31, X31, e31, W31, st31⟩ := stC X30 hx hZ2 e30 Ar31 (j := pp) hin31 (g := (mkF m 316 #[.val (.int p0), .val (.int p1), .val (.int p2), .val (.int p3), .val (.int kd), .val (.int mu), .val (.int cx), .val (.int dx), .val (.ref a_LS), .val (.ref a_LL), .val (.ref arr), .unset, .val (.int pp)] [(.int cx), (.int pp), (.ref arr)])) rfl rfl (hb hby at_316)
            rw [hc2] at W31
            have VB := Arv.set Ar31 qa31 Sa31 Na31 Ha31 Ga31 (by rw [← hc2]; exact fits_nar_char _) W31 pp.toNatClampNeg rfl hp2
            rw [← List.map_set] at VB
            have N31 := Fr.snoc X31 N30 g_arr
            have KA31 := KA30.wr W31 (Or.inr szA)
            refine Onw.go st31 ?_
            show Onw p e below _ (T31.setTop (mkF m 317 #[.val (.int p0), .val (.int p1), .val (.int p2), .val (.int p3), .val (.int kd), .val (.int mu), .val (.int cx), .val (.int dx), .val (.ref a_LS), .val (.ref a_LL), .val (.ref arr), .unset, .val (.int pp)] []))
            refine Onw.go (fun own_u kt => XS.iconst X31.here hx rfl (hb hby at_317) kt) ?_
            show Onw p e below _ (T31.setTop (mkF m 318 #[.val (.int p0), .val (.int p1), .val (.int p2), .val (.int p3), .val (.int kd), .val (.int mu), .val (.int cx), .val (.int dx), .val (.ref a_LS), .val (.ref a_LL), .val (.ref arr), .unset, .val (.int pp)] [(.int (0 : Int32))]))
            refine Onw.go (fun own_u kt => XS.istore X31.here hx rfl (hb hby at_318) rfl (l' := #[.val (.int p0), .val (.int p1), .val (.int p2), .val (.int p3), .val (.int kd), .val (.int mu), .val (.int cx), .val (.int dx), .val (.ref a_LS), .val (.ref a_LL), .val (.ref arr), .val (.int (0 : Int32)), .val (.int pp)]) rfl kt) ?_
            show Onw p e below _ (T31.setTop (mkF m 320 #[.val (.int p0), .val (.int p1), .val (.int p2), .val (.int p3), .val (.int kd), .val (.int mu), .val (.int cx), .val (.int dx), .val (.ref a_LS), .val (.ref a_LL), .val (.ref arr), .val (.int (0 : Int32)), .val (.int pp)] []))
            refine Onw.go (fun own_u kt => XS.goto X31.here hx rfl (pc0 := 320) (pc' := 481) rfl (hb hby at_320) (by decide) (by decide) kt) ?_
            show Onw p e below _ (T31.setTop (mkF m 481 #[.val (.int p0), .val (.int p1), .val (.int p2), .val (.int p3), .val (.int kd), .val (.int mu), .val (.int cx), .val (.int dx), .val (.ref a_LS), .val (.ref a_LL), .val (.ref arr), .val (.int (0 : Int32)), .val (.int pp)] []))
            have EE := own_ke KA31
            have VF : Arv Z h31 arr k22 .char (Int32.ofNat (([(45 : Int32), (45 : Int32), (118 : Int32), (101 : Int32), (114 : Int32), (98 : Int32), (111 : Int32), (115 : Int32)] : List Int32).set pp.toNatClampNeg cx).length) ((([(45 : Int32), (45 : Int32), (118 : Int32), (101 : Int32), (114 : Int32), (98 : Int32), (111 : Int32), (115 : Int32)] : List Int32).set pp.toNatClampNeg cx).map Value.int) (.int (0 : Int32)) := (own_setlen [(45 : Int32), (45 : Int32), (118 : Int32), (101 : Int32), (114 : Int32), (98 : Int32), (111 : Int32), (115 : Int32)] _ _).symm ▸ VB
            exact law_481 hx hZ2 hw hby hml hown2 hEL (CHv.ext EE CH2) hS2 (Nat.le_trans hk2 EE.1) (.val (.int p0)) (.val (.int p1)) (.val (.int p2)) (.val (.int p3)) (.val (.int kd)) (.val (.int mu)) (.val (.int cx)) (.val (.int dx)) (.val (.ref a_LS)) (.val (.ref a_LL)) (.val (.int pp)) (0 : Int32) arr k22 (([(45 : Int32), (45 : Int32), (118 : Int32), (101 : Int32), (114 : Int32), (98 : Int32), (111 : Int32), (115 : Int32)] : List Int32).set pp.toNatClampNeg cx) zc X31 e31 N31 (Nat.le_trans Z2 EE.1) VF ((S_C.ext ES).ext EE) hz (own_set (by decide) hc1) (by rw [own_setlen]; decide) (own_swlen (by rw [own_setlen]; decide) (by rw [own_setlen]; decide)) hK
        · refine Onw.go (fun own_u kt => XS.icmpYes X2.here hx rfl (pc0 := 245) (pc' := 323) rfl (hb hby at_245) rfl (feq (hk_3 : ¬ (kd = (3 : Int32)))).2 (by decide) (by decide) kt) ?_
          show Onw p e below _ (T2.setTop (mkF m 323 #[.val (.int p0), .val (.int p1), .val (.int p2), .val (.int p3), .val (.int kd), .val (.int mu), .val (.int cx), .val (.int dx), .val (.ref a_LS), .val (.ref a_LL), .unset, .unset, .unset] []))
          refine Onw.go (fun own_u kt => XS.iload X2.here hx rfl (hb hby at_323) rfl kt) ?_
          show Onw p e below _ (T2.setTop (mkF m 325 #[.val (.int p0), .val (.int p1), .val (.int p2), .val (.int p3), .val (.int kd), .val (.int mu), .val (.int cx), .val (.int dx), .val (.ref a_LS), .val (.ref a_LL), .unset, .unset, .unset] [(.int kd)]))
          refine Onw.go (fun own_u kt => XS.iconst X2.here hx rfl (hb hby at_325) kt) ?_
          show Onw p e below _ (T2.setTop (mkF m 326 #[.val (.int p0), .val (.int p1), .val (.int p2), .val (.int p3), .val (.int kd), .val (.int mu), .val (.int cx), .val (.int dx), .val (.ref a_LS), .val (.ref a_LL), .unset, .unset, .unset] [(.int (4 : Int32)), (.int kd)]))
          by_cases hk_4 : kd = (4 : Int32)
          · refine Onw.go (fun own_u kt => XS.icmpNo X2.here hx rfl (hb hby at_326) rfl (teq (hk_4 : kd = (4 : Int32))).2 kt) ?_
            show Onw p e below _ (T2.setTop (mkF m 329 #[.val (.int p0), .val (.int p1), .val (.int p2), .val (.int p3), .val (.int kd), .val (.int mu), .val (.int cx), .val (.int dx), .val (.ref a_LS), .val (.ref a_LL), .unset, .unset, .unset] []))
            refine Onw.go (fun own_u kt => XS.iconst X2.here hx rfl (hb hby at_329) kt) ?_
            show Onw p e below _ (T2.setTop (mkF m 330 #[.val (.int p0), .val (.int p1), .val (.int p2), .val (.int p3), .val (.int kd), .val (.int mu), .val (.int cx), .val (.int dx), .val (.ref a_LS), .val (.ref a_LL), .unset, .unset, .unset] [(.int (3 : Int32))]))
            obtain ⟨T32, h32, k32, X32, e32, E32, A32, st32⟩ := newP X2 hx hZ2 (hw _ (List.mem_of_getElem? (i := 10) rfl)) e2 (g := (mkF m 330 #[.val (.int p0), .val (.int p1), .val (.int p2), .val (.int p3), .val (.int kd), .val (.int mu), .val (.int cx), .val (.int dx), .val (.ref a_LS), .val (.ref a_LL), .unset, .unset, .unset] [(.int (3 : Int32))])) rfl (hb hby at_330) rfl (by decide) (cap := 10) (by decide) (by decide) (by decide) (by decide)
            obtain ⟨arr, gg32⟩ : ∃ own_z, own_z = h2.size := ⟨_, rfl⟩
            rw [← gg32] at A32 st32
            have V_arr : Arv Z h32 arr k32 .char (3 : Int32) [(.int (0 : Int32)), (.int (0 : Int32)), (.int (0 : Int32))] (.int (0 : Int32)) := (Arv.new A32 (by decide)).pad (pad_rep [] (.int (0 : Int32)) 3)
            refine Onw.go st32 ?_
            show Onw p e below _ (T32.setTop (mkF m 332 #[.val (.int p0), .val (.int p1), .val (.int p2), .val (.int p3), .val (.int kd), .val (.int mu), .val (.int cx), .val (.int dx), .val (.ref a_LS), .val (.ref a_LL), .unset, .unset, .unset] [(.ref arr)]))
            have g_arr : n0 ≤ arr := Nat.le_trans Z2 (Nat.le_of_eq gg32.symm)
            have szA : h2.size ≤ arr := Nat.le_of_eq gg32.symm
            have KA32 : Keep h2 h32 [] := (Keep.refl h2 []).ext E32
            refine Onw.go (fun own_u kt => XS.dup X32.here hx rfl (hb hby at_332) rfl rfl kt) ?_
            show Onw p e below _ (T32.setTop (mkF m 333 #[.val (.int p0), .val (.int p1), .val (.int p2), .val (.int p3), .val (.int kd), .val (.int mu), .val (.int cx), .val (.int dx), .val (.ref a_LS), .val (.ref a_LL), .unset, .unset, .unset] [(.ref arr), (.ref arr)]))
            refine Onw.go (fun own_u kt => XS.iconst X32.here hx rfl (hb hby at_333) kt) ?_
            show Onw p e below _ (T32.setTop (mkF m 334 #[.val (.int p0), .val (.int p1), .val (.int p2), .val (.int p3), .val (.int kd), .val (.int mu), .val (.int cx), .val (.int dx), .val (.ref a_LS), .val (.ref a_LL), .unset, .unset, .unset] [(.int (0 : Int32)), (.ref arr), (.ref arr)]))
            refine Onw.go (fun own_u kt => XS.bipush X32.here hx rfl (hb hby at_334) kt) ?_
            show Onw p e below _ (T32.setTop (mkF m 336 #[.val (.int p0), .val (.int p1), .val (.int p2), .val (.int p3), .val (.int kd), .val (.int mu), .val (.int cx), .val (.int dx), .val (.ref a_LS), .val (.ref a_LL), .unset, .unset, .unset] [(.int (45 : Int32)), (.int (0 : Int32)), (.ref arr), (.ref arr)]))
            obtain ⟨cl33, Ar33, qa33, Sa33, Na33, Ha33, Ga33⟩ := V_arr
            have hin33 : ¬ ((0 : Int32) < 0 ∨ cl33.slots.size ≤ ((0 : Int32)).toNatClampNeg) := inb_of Sa33 ⟨by decide, by decide⟩
            obtain ⟨T33, h33, X33, e33, W33, st33⟩ := stC X32 hx hZ2 e32 Ar33 (j := (0 : Int32)) hin33 (g := (mkF m 336 #[.val (.int p0), .val (.int p1), .val (.int p2), .val (.int p3), .val (.int kd), .val (.int mu), .val (.int cx), .val (.int dx), .val (.ref a_LS), .val (.ref a_LL), .unset, .unset, .unset] [(.int (45 : Int32)), (.int (0 : Int32)), (.ref arr), (.ref arr)])) rfl rfl (hb hby at_336)
            have V33 := Arv.set Ar33 qa33 Sa33 Na33 Ha33 Ga33 (fits_nar_char _) W33 0 rfl (Nat.le_of_ble_eq_true rfl)
            have N33 := Fr.snoc X33 N0 g_arr
            refine Onw.go st33 ?_
            show Onw p e below _ (T33.setTop (mkF m 337 #[.val (.int p0), .val (.int p1), .val (.int p2), .val (.int p3), .val (.int kd), .val (.int mu), .val (.int cx), .val (.int dx), .val (.ref a_LS), .val (.ref a_LL), .unset, .unset, .unset] [(.ref arr)]))
            have KA33 := KA32.wr W33 (Or.inr szA)
            refine Onw.go (fun own_u kt => XS.dup X33.here hx rfl (hb hby at_337) rfl rfl kt) ?_
            show Onw p e below _ (T33.setTop (mkF m 338 #[.val (.int p0), .val (.int p1), .val (.int p2), .val (.int p3), .val (.int kd), .val (.int mu), .val (.int cx), .val (.int dx), .val (.ref a_LS), .val (.ref a_LL), .unset, .unset, .unset] [(.ref arr), (.ref arr)]))
            refine Onw.go (fun own_u kt => XS.iconst X33.here hx rfl (hb hby at_338) kt) ?_
            show Onw p e below _ (T33.setTop (mkF m 339 #[.val (.int p0), .val (.int p1), .val (.int p2), .val (.int p3), .val (.int kd), .val (.int mu), .val (.int cx), .val (.int dx), .val (.ref a_LS), .val (.ref a_LL), .unset, .unset, .unset] [(.int (1 : Int32)), (.ref arr), (.ref arr)]))
            refine Onw.go (fun own_u kt => XS.bipush X33.here hx rfl (hb hby at_339) kt) ?_
            show Onw p e below _ (T33.setTop (mkF m 341 #[.val (.int p0), .val (.int p1), .val (.int p2), .val (.int p3), .val (.int kd), .val (.int mu), .val (.int cx), .val (.int dx), .val (.ref a_LS), .val (.ref a_LL), .unset, .unset, .unset] [(.int (118 : Int32)), (.int (1 : Int32)), (.ref arr), (.ref arr)]))
            obtain ⟨cl34, Ar34, qa34, Sa34, Na34, Ha34, Ga34⟩ := V33
            have hin34 : ¬ ((1 : Int32) < 0 ∨ cl34.slots.size ≤ ((1 : Int32)).toNatClampNeg) := inb_of Sa34 ⟨by decide, by decide⟩
            obtain ⟨T34, h34, X34, e34, W34, st34⟩ := stC X33 hx hZ2 e33 Ar34 (j := (1 : Int32)) hin34 (g := (mkF m 341 #[.val (.int p0), .val (.int p1), .val (.int p2), .val (.int p3), .val (.int kd), .val (.int mu), .val (.int cx), .val (.int dx), .val (.ref a_LS), .val (.ref a_LL), .unset, .unset, .unset] [(.int (118 : Int32)), (.int (1 : Int32)), (.ref arr), (.ref arr)])) rfl rfl (hb hby at_341)
            have V34 := Arv.set Ar34 qa34 Sa34 Na34 Ha34 Ga34 (fits_nar_char _) W34 1 rfl (Nat.le_of_ble_eq_true rfl)
            have N34 := Fr.snoc X34 N33 g_arr
            refine Onw.go st34 ?_
            show Onw p e below _ (T34.setTop (mkF m 342 #[.val (.int p0), .val (.int p1), .val (.int p2), .val (.int p3), .val (.int kd), .val (.int mu), .val (.int cx), .val (.int dx), .val (.ref a_LS), .val (.ref a_LL), .unset, .unset, .unset] [(.ref arr)]))
            have KA34 := KA33.wr W34 (Or.inr szA)
            refine Onw.go (fun own_u kt => XS.dup X34.here hx rfl (hb hby at_342) rfl rfl kt) ?_
            show Onw p e below _ (T34.setTop (mkF m 343 #[.val (.int p0), .val (.int p1), .val (.int p2), .val (.int p3), .val (.int kd), .val (.int mu), .val (.int cx), .val (.int dx), .val (.ref a_LS), .val (.ref a_LL), .unset, .unset, .unset] [(.ref arr), (.ref arr)]))
            refine Onw.go (fun own_u kt => XS.iconst X34.here hx rfl (hb hby at_343) kt) ?_
            show Onw p e below _ (T34.setTop (mkF m 344 #[.val (.int p0), .val (.int p1), .val (.int p2), .val (.int p3), .val (.int kd), .val (.int mu), .val (.int cx), .val (.int dx), .val (.ref a_LS), .val (.ref a_LL), .unset, .unset, .unset] [(.int (2 : Int32)), (.ref arr), (.ref arr)]))
            refine Onw.go (fun own_u kt => XS.iload X34.here hx rfl (hb hby at_344) rfl kt) ?_
            show Onw p e below _ (T34.setTop (mkF m 346 #[.val (.int p0), .val (.int p1), .val (.int p2), .val (.int p3), .val (.int kd), .val (.int mu), .val (.int cx), .val (.int dx), .val (.ref a_LS), .val (.ref a_LL), .unset, .unset, .unset] [(.int cx), (.int (2 : Int32)), (.ref arr), (.ref arr)]))
            obtain ⟨cl35, Ar35, qa35, Sa35, Na35, Ha35, Ga35⟩ := V34
            have hin35 : ¬ ((2 : Int32) < 0 ∨ cl35.slots.size ≤ ((2 : Int32)).toNatClampNeg) := inb_of Sa35 ⟨by decide, by decide⟩
            obtain ⟨T35, h35, X35, e35, W35, st35⟩ := stC X34 hx hZ2 e34 Ar35 (j := (2 : Int32)) hin35 (g := (mkF m 346 #[.val (.int p0), .val (.int p1), .val (.int p2), .val (.int p3), .val (.int kd), .val (.int mu), .val (.int cx), .val (.int dx), .val (.ref a_LS), .val (.ref a_LL), .unset, .unset, .unset] [(.int cx), (.int (2 : Int32)), (.ref arr), (.ref arr)])) rfl rfl (hb hby at_346)
            have V35 := Arv.set Ar35 qa35 Sa35 Na35 Ha35 Ga35 (fits_nar_char _) W35 2 rfl (Nat.le_of_ble_eq_true rfl)
            have N35 := Fr.snoc X35 N34 g_arr
            refine Onw.go st35 ?_
            show Onw p e below _ (T35.setTop (mkF m 347 #[.val (.int p0), .val (.int p1), .val (.int p2), .val (.int p3), .val (.int kd), .val (.int mu), .val (.int cx), .val (.int dx), .val (.ref a_LS), .val (.ref a_LL), .unset, .unset, .unset] [(.ref arr)]))
            have KA35 := KA34.wr W35 (Or.inr szA)
            refine Onw.go (fun own_u kt => XS.astore X35.here hx rfl (hb hby at_347) rfl rfl (l' := #[.val (.int p0), .val (.int p1), .val (.int p2), .val (.int p3), .val (.int kd), .val (.int mu), .val (.int cx), .val (.int dx), .val (.ref a_LS), .val (.ref a_LL), .val (.ref arr), .unset, .unset]) rfl kt) ?_
            show Onw p e below _ (T35.setTop (mkF m 349 #[.val (.int p0), .val (.int p1), .val (.int p2), .val (.int p3), .val (.int kd), .val (.int mu), .val (.int cx), .val (.int dx), .val (.ref a_LS), .val (.ref a_LL), .val (.ref arr), .unset, .unset] []))
            refine Onw.go (fun own_u kt => XS.iconst X35.here hx rfl (hb hby at_349) kt) ?_
            show Onw p e below _ (T35.setTop (mkF m 350 #[.val (.int p0), .val (.int p1), .val (.int p2), .val (.int p3), .val (.int kd), .val (.int mu), .val (.int cx), .val (.int dx), .val (.ref a_LS), .val (.ref a_LL), .val (.ref arr), .unset, .unset] [(.int (0 : Int32))]))
            refine Onw.go (fun own_u kt => XS.istore X35.here hx rfl (hb hby at_350) rfl (l' := #[.val (.int p0), .val (.int p1), .val (.int p2), .val (.int p3), .val (.int kd), .val (.int mu), .val (.int cx), .val (.int dx), .val (.ref a_LS), .val (.ref a_LL), .val (.ref arr), .val (.int (0 : Int32)), .unset]) rfl kt) ?_
            show Onw p e below _ (T35.setTop (mkF m 352 #[.val (.int p0), .val (.int p1), .val (.int p2), .val (.int p3), .val (.int kd), .val (.int mu), .val (.int cx), .val (.int dx), .val (.ref a_LS), .val (.ref a_LL), .val (.ref arr), .val (.int (0 : Int32)), .unset] []))
            refine Onw.go (fun own_u kt => XS.goto X35.here hx rfl (pc0 := 352) (pc' := 481) rfl (hb hby at_352) (by decide) (by decide) kt) ?_
            show Onw p e below _ (T35.setTop (mkF m 481 #[.val (.int p0), .val (.int p1), .val (.int p2), .val (.int p3), .val (.int kd), .val (.int mu), .val (.int cx), .val (.int dx), .val (.ref a_LS), .val (.ref a_LL), .val (.ref arr), .val (.int (0 : Int32)), .unset] []))
            rw [hc2] at V35
            have VA : Arv Z h35 arr k32 .char (3 : Int32) ([(45 : Int32), (118 : Int32), cx].map Value.int) (.int (0 : Int32)) := V35
            have EE := own_ke KA35
            have VF : Arv Z h35 arr k32 .char (Int32.ofNat ([(45 : Int32), (118 : Int32), cx]).length) (([(45 : Int32), (118 : Int32), cx]).map Value.int) (.int (0 : Int32)) := VA
            exact law_481 hx hZ2 hw hby hml hown2 hEL (CHv.ext EE CH2) hS2 (Nat.le_trans hk2 EE.1) (.val (.int p0)) (.val (.int p1)) (.val (.int p2)) (.val (.int p3)) (.val (.int kd)) (.val (.int mu)) (.val (.int cx)) (.val (.int dx)) (.val (.ref a_LS)) (.val (.ref a_LL)) (.unset) (0 : Int32) arr k32 ([(45 : Int32), (118 : Int32), cx]) zc X35 e35 N35 (Nat.le_trans Z2 EE.1) VF ((S_C.ext ES).ext EE) hz (own_last (cs := own_VS) (by decide) hc1) (by simp) (own_swlen (by simp) (by simp)) hK
          · refine Onw.go (fun own_u kt => XS.icmpYes X2.here hx rfl (pc0 := 326) (pc' := 355) rfl (hb hby at_326) rfl (feq (hk_4 : ¬ (kd = (4 : Int32)))).2 (by decide) (by decide) kt) ?_
            show Onw p e below _ (T2.setTop (mkF m 355 #[.val (.int p0), .val (.int p1), .val (.int p2), .val (.int p3), .val (.int kd), .val (.int mu), .val (.int cx), .val (.int dx), .val (.ref a_LS), .val (.ref a_LL), .unset, .unset, .unset] []))
            refine Onw.go (fun own_u kt => XS.iload X2.here hx rfl (hb hby at_355) rfl kt) ?_
            show Onw p e below _ (T2.setTop (mkF m 357 #[.val (.int p0), .val (.int p1), .val (.int p2), .val (.int p3), .val (.int kd), .val (.int mu), .val (.int cx), .val (.int dx), .val (.ref a_LS), .val (.ref a_LL), .unset, .unset, .unset] [(.int kd)]))
            refine Onw.go (fun own_u kt => XS.iconst X2.here hx rfl (hb hby at_357) kt) ?_
            show Onw p e below _ (T2.setTop (mkF m 358 #[.val (.int p0), .val (.int p1), .val (.int p2), .val (.int p3), .val (.int kd), .val (.int mu), .val (.int cx), .val (.int dx), .val (.ref a_LS), .val (.ref a_LL), .unset, .unset, .unset] [(.int (5 : Int32)), (.int kd)]))
            by_cases hk_5 : kd = (5 : Int32)
            · refine Onw.go (fun own_u kt => XS.icmpNo X2.here hx rfl (hb hby at_358) rfl (teq (hk_5 : kd = (5 : Int32))).2 kt) ?_
              show Onw p e below _ (T2.setTop (mkF m 361 #[.val (.int p0), .val (.int p1), .val (.int p2), .val (.int p3), .val (.int kd), .val (.int mu), .val (.int cx), .val (.int dx), .val (.ref a_LS), .val (.ref a_LL), .unset, .unset, .unset] []))
              refine Onw.go (fun own_u kt => XS.bipush X2.here hx rfl (hb hby at_361) kt) ?_
              show Onw p e below _ (T2.setTop (mkF m 363 #[.val (.int p0), .val (.int p1), .val (.int p2), .val (.int p3), .val (.int kd), .val (.int mu), .val (.int cx), .val (.int dx), .val (.ref a_LS), .val (.ref a_LL), .unset, .unset, .unset] [(.int (10 : Int32))]))
              obtain ⟨T36, h36, k36, X36, e36, E36, A36, st36⟩ := newP X2 hx hZ2 (hw _ (List.mem_of_getElem? (i := 10) rfl)) e2 (g := (mkF m 363 #[.val (.int p0), .val (.int p1), .val (.int p2), .val (.int p3), .val (.int kd), .val (.int mu), .val (.int cx), .val (.int dx), .val (.ref a_LS), .val (.ref a_LL), .unset, .unset, .unset] [(.int (10 : Int32))])) rfl (hb hby at_363) rfl (by decide) (cap := 10) (by decide) (by decide) (by decide) (by decide)
              obtain ⟨arr, gg36⟩ : ∃ own_z, own_z = h2.size := ⟨_, rfl⟩
              rw [← gg36] at A36 st36
              have V_arr : Arv Z h36 arr k36 .char (10 : Int32) [(.int (0 : Int32)), (.int (0 : Int32)), (.int (0 : Int32)), (.int (0 : Int32)), (.int (0 : Int32)), (.int (0 : Int32)), (.int (0 : Int32)), (.int (0 : Int32)), (.int (0 : Int32)), (.int (0 : Int32))] (.int (0 : Int32)) := (Arv.new A36 (by decide)).pad (pad_rep [] (.int (0 : Int32)) 10)
              refine Onw.go st36 ?_
              show Onw p e below _ (T36.setTop (mkF m 365 #[.val (.int p0), .val (.int p1), .val (.int p2), .val (.int p3), .val (.int kd), .val (.int mu), .val (.int cx), .val (.int dx), .val (.ref a_LS), .val (.ref a_LL), .unset, .unset, .unset] [(.ref arr)]))
              have g_arr : n0 ≤ arr := Nat.le_trans Z2 (Nat.le_of_eq gg36.symm)
              have szA : h2.size ≤ arr := Nat.le_of_eq gg36.symm
              have KA36 : Keep h2 h36 [] := (Keep.refl h2 []).ext E36
              refine Onw.go (fun own_u kt => XS.dup X36.here hx rfl (hb hby at_365) rfl rfl kt) ?_
              show Onw p e below _ (T36.setTop (mkF m 366 #[.val (.int p0), .val (.int p1), .val (.int p2), .val (.int p3), .val (.int kd), .val (.int mu), .val (.int cx), .val (.int dx), .val (.ref a_LS), .val (.ref a_LL), .unset, .unset, .unset] [(.ref arr), (.ref arr)]))
              refine Onw.go (fun own_u kt => XS.iconst X36.here hx rfl (hb hby at_366) kt) ?_
              show Onw p e below _ (T36.setTop (mkF m 367 #[.val (.int p0), .val (.int p1), .val (.int p2), .val (.int p3), .val (.int kd), .val (.int mu), .val (.int cx), .val (.int dx), .val (.ref a_LS), .val (.ref a_LL), .unset, .unset, .unset] [(.int (0 : Int32)), (.ref arr), (.ref arr)]))
              refine Onw.go (fun own_u kt => XS.bipush X36.here hx rfl (hb hby at_367) kt) ?_
              show Onw p e below _ (T36.setTop (mkF m 369 #[.val (.int p0), .val (.int p1), .val (.int p2), .val (.int p3), .val (.int kd), .val (.int mu), .val (.int cx), .val (.int dx), .val (.ref a_LS), .val (.ref a_LL), .unset, .unset, .unset] [(.int (45 : Int32)), (.int (0 : Int32)), (.ref arr), (.ref arr)]))
              obtain ⟨cl37, Ar37, qa37, Sa37, Na37, Ha37, Ga37⟩ := V_arr
              have hin37 : ¬ ((0 : Int32) < 0 ∨ cl37.slots.size ≤ ((0 : Int32)).toNatClampNeg) := inb_of Sa37 ⟨by decide, by decide⟩
              obtain ⟨T37, h37, X37, e37, W37, st37⟩ := stC X36 hx hZ2 e36 Ar37 (j := (0 : Int32)) hin37 (g := (mkF m 369 #[.val (.int p0), .val (.int p1), .val (.int p2), .val (.int p3), .val (.int kd), .val (.int mu), .val (.int cx), .val (.int dx), .val (.ref a_LS), .val (.ref a_LL), .unset, .unset, .unset] [(.int (45 : Int32)), (.int (0 : Int32)), (.ref arr), (.ref arr)])) rfl rfl (hb hby at_369)
              have V37 := Arv.set Ar37 qa37 Sa37 Na37 Ha37 Ga37 (fits_nar_char _) W37 0 rfl (Nat.le_of_ble_eq_true rfl)
              have N37 := Fr.snoc X37 N0 g_arr
              refine Onw.go st37 ?_
              show Onw p e below _ (T37.setTop (mkF m 370 #[.val (.int p0), .val (.int p1), .val (.int p2), .val (.int p3), .val (.int kd), .val (.int mu), .val (.int cx), .val (.int dx), .val (.ref a_LS), .val (.ref a_LL), .unset, .unset, .unset] [(.ref arr)]))
              have KA37 := KA36.wr W37 (Or.inr szA)
              refine Onw.go (fun own_u kt => XS.dup X37.here hx rfl (hb hby at_370) rfl rfl kt) ?_
              show Onw p e below _ (T37.setTop (mkF m 371 #[.val (.int p0), .val (.int p1), .val (.int p2), .val (.int p3), .val (.int kd), .val (.int mu), .val (.int cx), .val (.int dx), .val (.ref a_LS), .val (.ref a_LL), .unset, .unset, .unset] [(.ref arr), (.ref arr)]))
              refine Onw.go (fun own_u kt => XS.iconst X37.here hx rfl (hb hby at_371) kt) ?_
              show Onw p e below _ (T37.setTop (mkF m 372 #[.val (.int p0), .val (.int p1), .val (.int p2), .val (.int p3), .val (.int kd), .val (.int mu), .val (.int cx), .val (.int dx), .val (.ref a_LS), .val (.ref a_LL), .unset, .unset, .unset] [(.int (1 : Int32)), (.ref arr), (.ref arr)]))
              refine Onw.go (fun own_u kt => XS.bipush X37.here hx rfl (hb hby at_372) kt) ?_
              show Onw p e below _ (T37.setTop (mkF m 374 #[.val (.int p0), .val (.int p1), .val (.int p2), .val (.int p3), .val (.int kd), .val (.int mu), .val (.int cx), .val (.int dx), .val (.ref a_LS), .val (.ref a_LL), .unset, .unset, .unset] [(.int (45 : Int32)), (.int (1 : Int32)), (.ref arr), (.ref arr)]))
              obtain ⟨cl38, Ar38, qa38, Sa38, Na38, Ha38, Ga38⟩ := V37
              have hin38 : ¬ ((1 : Int32) < 0 ∨ cl38.slots.size ≤ ((1 : Int32)).toNatClampNeg) := inb_of Sa38 ⟨by decide, by decide⟩
              obtain ⟨T38, h38, X38, e38, W38, st38⟩ := stC X37 hx hZ2 e37 Ar38 (j := (1 : Int32)) hin38 (g := (mkF m 374 #[.val (.int p0), .val (.int p1), .val (.int p2), .val (.int p3), .val (.int kd), .val (.int mu), .val (.int cx), .val (.int dx), .val (.ref a_LS), .val (.ref a_LL), .unset, .unset, .unset] [(.int (45 : Int32)), (.int (1 : Int32)), (.ref arr), (.ref arr)])) rfl rfl (hb hby at_374)
              have V38 := Arv.set Ar38 qa38 Sa38 Na38 Ha38 Ga38 (fits_nar_char _) W38 1 rfl (Nat.le_of_ble_eq_true rfl)
              have N38 := Fr.snoc X38 N37 g_arr
              refine Onw.go st38 ?_
              show Onw p e below _ (T38.setTop (mkF m 375 #[.val (.int p0), .val (.int p1), .val (.int p2), .val (.int p3), .val (.int kd), .val (.int mu), .val (.int cx), .val (.int dx), .val (.ref a_LS), .val (.ref a_LL), .unset, .unset, .unset] [(.ref arr)]))
              have KA38 := KA37.wr W38 (Or.inr szA)
              refine Onw.go (fun own_u kt => XS.dup X38.here hx rfl (hb hby at_375) rfl rfl kt) ?_
              show Onw p e below _ (T38.setTop (mkF m 376 #[.val (.int p0), .val (.int p1), .val (.int p2), .val (.int p3), .val (.int kd), .val (.int mu), .val (.int cx), .val (.int dx), .val (.ref a_LS), .val (.ref a_LL), .unset, .unset, .unset] [(.ref arr), (.ref arr)]))
              refine Onw.go (fun own_u kt => XS.iconst X38.here hx rfl (hb hby at_376) kt) ?_
              show Onw p e below _ (T38.setTop (mkF m 377 #[.val (.int p0), .val (.int p1), .val (.int p2), .val (.int p3), .val (.int kd), .val (.int mu), .val (.int cx), .val (.int dx), .val (.ref a_LS), .val (.ref a_LL), .unset, .unset, .unset] [(.int (2 : Int32)), (.ref arr), (.ref arr)]))
              refine Onw.go (fun own_u kt => XS.bipush X38.here hx rfl (hb hby at_377) kt) ?_
              show Onw p e below _ (T38.setTop (mkF m 379 #[.val (.int p0), .val (.int p1), .val (.int p2), .val (.int p3), .val (.int kd), .val (.int mu), .val (.int cx), .val (.int dx), .val (.ref a_LS), .val (.ref a_LL), .unset, .unset, .unset] [(.int (118 : Int32)), (.int (2 : Int32)), (.ref arr), (.ref arr)]))
              obtain ⟨cl39, Ar39, qa39, Sa39, Na39, Ha39, Ga39⟩ := V38
              have hin39 : ¬ ((2 : Int32) < 0 ∨ cl39.slots.size ≤ ((2 : Int32)).toNatClampNeg) := inb_of Sa39 ⟨by decide, by decide⟩
              obtain ⟨T39, h39, X39, e39, W39, st39⟩ := stC X38 hx hZ2 e38 Ar39 (j := (2 : Int32)) hin39 (g := (mkF m 379 #[.val (.int p0), .val (.int p1), .val (.int p2), .val (.int p3), .val (.int kd), .val (.int mu), .val (.int cx), .val (.int dx), .val (.ref a_LS), .val (.ref a_LL), .unset, .unset, .unset] [(.int (118 : Int32)), (.int (2 : Int32)), (.ref arr), (.ref arr)])) rfl rfl (hb hby at_379)
              have V39 := Arv.set Ar39 qa39 Sa39 Na39 Ha39 Ga39 (fits_nar_char _) W39 2 rfl (Nat.le_of_ble_eq_true rfl)
              have N39 := Fr.snoc X39 N38 g_arr
              refine Onw.go st39 ?_
              show Onw p e below _ (T39.setTop (mkF m 380 #[.val (.int p0), .val (.int p1), .val (.int p2), .val (.int p3), .val (.int kd), .val (.int mu), .val (.int cx), .val (.int dx), .val (.ref a_LS), .val (.ref a_LL), .unset, .unset, .unset] [(.ref arr)]))
              have KA39 := KA38.wr W39 (Or.inr szA)
              refine Onw.go (fun own_u kt => XS.dup X39.here hx rfl (hb hby at_380) rfl rfl kt) ?_
              show Onw p e below _ (T39.setTop (mkF m 381 #[.val (.int p0), .val (.int p1), .val (.int p2), .val (.int p3), .val (.int kd), .val (.int mu), .val (.int cx), .val (.int dx), .val (.ref a_LS), .val (.ref a_LL), .unset, .unset, .unset] [(.ref arr), (.ref arr)]))
              refine Onw.go (fun own_u kt => XS.iconst X39.here hx rfl (hb hby at_381) kt) ?_
              show Onw p e below _ (T39.setTop (mkF m 382 #[.val (.int p0), .val (.int p1), .val (.int p2), .val (.int p3), .val (.int kd), .val (.int mu), .val (.int cx), .val (.int dx), .val (.ref a_LS), .val (.ref a_LL), .unset, .unset, .unset] [(.int (3 : Int32)), (.ref arr), (.ref arr)]))
              refine Onw.go (fun own_u kt => XS.bipush X39.here hx rfl (hb hby at_382) kt) ?_
              show Onw p e below _ (T39.setTop (mkF m 384 #[.val (.int p0), .val (.int p1), .val (.int p2), .val (.int p3), .val (.int kd), .val (.int mu), .val (.int cx), .val (.int dx), .val (.ref a_LS), .val (.ref a_LL), .unset, .unset, .unset] [(.int (101 : Int32)), (.int (3 : Int32)), (.ref arr), (.ref arr)]))
              obtain ⟨cl40, Ar40, qa40, Sa40, Na40, Ha40, Ga40⟩ := V39
              have hin40 : ¬ ((3 : Int32) < 0 ∨ cl40.slots.size ≤ ((3 : Int32)).toNatClampNeg) := inb_of Sa40 ⟨by decide, by decide⟩
              obtain ⟨T40, h40, X40, e40, W40, st40⟩ := stC X39 hx hZ2 e39 Ar40 (j := (3 : Int32)) hin40 (g := (mkF m 384 #[.val (.int p0), .val (.int p1), .val (.int p2), .val (.int p3), .val (.int kd), .val (.int mu), .val (.int cx), .val (.int dx), .val (.ref a_LS), .val (.ref a_LL), .unset, .unset, .unset] [(.int (101 : Int32)), (.int (3 : Int32)), (.ref arr), (.ref arr)])) rfl rfl (hb hby at_384)
              have V40 := Arv.set Ar40 qa40 Sa40 Na40 Ha40 Ga40 (fits_nar_char _) W40 3 rfl (Nat.le_of_ble_eq_true rfl)
              have N40 := Fr.snoc X40 N39 g_arr
              refine Onw.go st40 ?_
              show Onw p e below _ (T40.setTop (mkF m 385 #[.val (.int p0), .val (.int p1), .val (.int p2), .val (.int p3), .val (.int kd), .val (.int mu), .val (.int cx), .val (.int dx), .val (.ref a_LS), .val (.ref a_LL), .unset, .unset, .unset] [(.ref arr)]))
              have KA40 := KA39.wr W40 (Or.inr szA)
              refine Onw.go (fun own_u kt => XS.dup X40.here hx rfl (hb hby at_385) rfl rfl kt) ?_
              show Onw p e below _ (T40.setTop (mkF m 386 #[.val (.int p0), .val (.int p1), .val (.int p2), .val (.int p3), .val (.int kd), .val (.int mu), .val (.int cx), .val (.int dx), .val (.ref a_LS), .val (.ref a_LL), .unset, .unset, .unset] [(.ref arr), (.ref arr)]))
              refine Onw.go (fun own_u kt => XS.iconst X40.here hx rfl (hb hby at_386) kt) ?_
              show Onw p e below _ (T40.setTop (mkF m 387 #[.val (.int p0), .val (.int p1), .val (.int p2), .val (.int p3), .val (.int kd), .val (.int mu), .val (.int cx), .val (.int dx), .val (.ref a_LS), .val (.ref a_LL), .unset, .unset, .unset] [(.int (4 : Int32)), (.ref arr), (.ref arr)]))
              refine Onw.go (fun own_u kt => XS.bipush X40.here hx rfl (hb hby at_387) kt) ?_
              show Onw p e below _ (T40.setTop (mkF m 389 #[.val (.int p0), .val (.int p1), .val (.int p2), .val (.int p3), .val (.int kd), .val (.int mu), .val (.int cx), .val (.int dx), .val (.ref a_LS), .val (.ref a_LL), .unset, .unset, .unset] [(.int (114 : Int32)), (.int (4 : Int32)), (.ref arr), (.ref arr)]))
              obtain ⟨cl41, Ar41, qa41, Sa41, Na41, Ha41, Ga41⟩ := V40
              have hin41 : ¬ ((4 : Int32) < 0 ∨ cl41.slots.size ≤ ((4 : Int32)).toNatClampNeg) := inb_of Sa41 ⟨by decide, by decide⟩
              obtain ⟨T41, h41, X41, e41, W41, st41⟩ := stC X40 hx hZ2 e40 Ar41 (j := (4 : Int32)) hin41 (g := (mkF m 389 #[.val (.int p0), .val (.int p1), .val (.int p2), .val (.int p3), .val (.int kd), .val (.int mu), .val (.int cx), .val (.int dx), .val (.ref a_LS), .val (.ref a_LL), .unset, .unset, .unset] [(.int (114 : Int32)), (.int (4 : Int32)), (.ref arr), (.ref arr)])) rfl rfl (hb hby at_389)
              have V41 := Arv.set Ar41 qa41 Sa41 Na41 Ha41 Ga41 (fits_nar_char _) W41 4 rfl (Nat.le_of_ble_eq_true rfl)
              have N41 := Fr.snoc X41 N40 g_arr
              refine Onw.go st41 ?_
              show Onw p e below _ (T41.setTop (mkF m 390 #[.val (.int p0), .val (.int p1), .val (.int p2), .val (.int p3), .val (.int kd), .val (.int mu), .val (.int cx), .val (.int dx), .val (.ref a_LS), .val (.ref a_LL), .unset, .unset, .unset] [(.ref arr)]))
              have KA41 := KA40.wr W41 (Or.inr szA)
              refine Onw.go (fun own_u kt => XS.dup X41.here hx rfl (hb hby at_390) rfl rfl kt) ?_
              show Onw p e below _ (T41.setTop (mkF m 391 #[.val (.int p0), .val (.int p1), .val (.int p2), .val (.int p3), .val (.int kd), .val (.int mu), .val (.int cx), .val (.int dx), .val (.ref a_LS), .val (.ref a_LL), .unset, .unset, .unset] [(.ref arr), (.ref arr)]))
              refine Onw.go (fun own_u kt => XS.iconst X41.here hx rfl (hb hby at_391) kt) ?_
              show Onw p e below _ (T41.setTop (mkF m 392 #[.val (.int p0), .val (.int p1), .val (.int p2), .val (.int p3), .val (.int kd), .val (.int mu), .val (.int cx), .val (.int dx), .val (.ref a_LS), .val (.ref a_LL), .unset, .unset, .unset] [(.int (5 : Int32)), (.ref arr), (.ref arr)]))
              refine Onw.go (fun own_u kt => XS.bipush X41.here hx rfl (hb hby at_392) kt) ?_
              show Onw p e below _ (T41.setTop (mkF m 394 #[.val (.int p0), .val (.int p1), .val (.int p2), .val (.int p3), .val (.int kd), .val (.int mu), .val (.int cx), .val (.int dx), .val (.ref a_LS), .val (.ref a_LL), .unset, .unset, .unset] [(.int (98 : Int32)), (.int (5 : Int32)), (.ref arr), (.ref arr)]))
              obtain ⟨cl42, Ar42, qa42, Sa42, Na42, Ha42, Ga42⟩ := V41
              have hin42 : ¬ ((5 : Int32) < 0 ∨ cl42.slots.size ≤ ((5 : Int32)).toNatClampNeg) := inb_of Sa42 ⟨by decide, by decide⟩
              obtain ⟨T42, h42, X42, e42, W42, st42⟩ := stC X41 hx hZ2 e41 Ar42 (j := (5 : Int32)) hin42 (g := (mkF m 394 #[.val (.int p0), .val (.int p1), .val (.int p2), .val (.int p3), .val (.int kd), .val (.int mu), .val (.int cx), .val (.int dx), .val (.ref a_LS), .val (.ref a_LL), .unset, .unset, .unset] [(.int (98 : Int32)), (.int (5 : Int32)), (.ref arr), (.ref arr)])) rfl rfl (hb hby at_394)
              have V42 := Arv.set Ar42 qa42 Sa42 Na42 Ha42 Ga42 (fits_nar_char _) W42 5 rfl (Nat.le_of_ble_eq_true rfl)
              have N42 := Fr.snoc X42 N41 g_arr
              refine Onw.go st42 ?_
              show Onw p e below _ (T42.setTop (mkF m 395 #[.val (.int p0), .val (.int p1), .val (.int p2), .val (.int p3), .val (.int kd), .val (.int mu), .val (.int cx), .val (.int dx), .val (.ref a_LS), .val (.ref a_LL), .unset, .unset, .unset] [(.ref arr)]))
              have KA42 := KA41.wr W42 (Or.inr szA)
              refine Onw.go (fun own_u kt => XS.dup X42.here hx rfl (hb hby at_395) rfl rfl kt) ?_
              show Onw p e below _ (T42.setTop (mkF m 396 #[.val (.int p0), .val (.int p1), .val (.int p2), .val (.int p3), .val (.int kd), .val (.int mu), .val (.int cx), .val (.int dx), .val (.ref a_LS), .val (.ref a_LL), .unset, .unset, .unset] [(.ref arr), (.ref arr)]))
              refine Onw.go (fun own_u kt => XS.bipush X42.here hx rfl (hb hby at_396) kt) ?_
              show Onw p e below _ (T42.setTop (mkF m 398 #[.val (.int p0), .val (.int p1), .val (.int p2), .val (.int p3), .val (.int kd), .val (.int mu), .val (.int cx), .val (.int dx), .val (.ref a_LS), .val (.ref a_LL), .unset, .unset, .unset] [(.int (6 : Int32)), (.ref arr), (.ref arr)]))
              refine Onw.go (fun own_u kt => XS.bipush X42.here hx rfl (hb hby at_398) kt) ?_
              show Onw p e below _ (T42.setTop (mkF m 400 #[.val (.int p0), .val (.int p1), .val (.int p2), .val (.int p3), .val (.int kd), .val (.int mu), .val (.int cx), .val (.int dx), .val (.ref a_LS), .val (.ref a_LL), .unset, .unset, .unset] [(.int (111 : Int32)), (.int (6 : Int32)), (.ref arr), (.ref arr)]))
              obtain ⟨cl43, Ar43, qa43, Sa43, Na43, Ha43, Ga43⟩ := V42
              have hin43 : ¬ ((6 : Int32) < 0 ∨ cl43.slots.size ≤ ((6 : Int32)).toNatClampNeg) := inb_of Sa43 ⟨by decide, by decide⟩
              obtain ⟨T43, h43, X43, e43, W43, st43⟩ := stC X42 hx hZ2 e42 Ar43 (j := (6 : Int32)) hin43 (g := (mkF m 400 #[.val (.int p0), .val (.int p1), .val (.int p2), .val (.int p3), .val (.int kd), .val (.int mu), .val (.int cx), .val (.int dx), .val (.ref a_LS), .val (.ref a_LL), .unset, .unset, .unset] [(.int (111 : Int32)), (.int (6 : Int32)), (.ref arr), (.ref arr)])) rfl rfl (hb hby at_400)
              have V43 := Arv.set Ar43 qa43 Sa43 Na43 Ha43 Ga43 (fits_nar_char _) W43 6 rfl (Nat.le_of_ble_eq_true rfl)
              have N43 := Fr.snoc X43 N42 g_arr
              refine Onw.go st43 ?_
              show Onw p e below _ (T43.setTop (mkF m 401 #[.val (.int p0), .val (.int p1), .val (.int p2), .val (.int p3), .val (.int kd), .val (.int mu), .val (.int cx), .val (.int dx), .val (.ref a_LS), .val (.ref a_LL), .unset, .unset, .unset] [(.ref arr)]))
              have KA43 := KA42.wr W43 (Or.inr szA)
              refine Onw.go (fun own_u kt => XS.dup X43.here hx rfl (hb hby at_401) rfl rfl kt) ?_
              show Onw p e below _ (T43.setTop (mkF m 402 #[.val (.int p0), .val (.int p1), .val (.int p2), .val (.int p3), .val (.int kd), .val (.int mu), .val (.int cx), .val (.int dx), .val (.ref a_LS), .val (.ref a_LL), .unset, .unset, .unset] [(.ref arr), (.ref arr)]))
              refine Onw.go (fun own_u kt => XS.bipush X43.here hx rfl (hb hby at_402) kt) ?_
              show Onw p e below _ (T43.setTop (mkF m 404 #[.val (.int p0), .val (.int p1), .val (.int p2), .val (.int p3), .val (.int kd), .val (.int mu), .val (.int cx), .val (.int dx), .val (.ref a_LS), .val (.ref a_LL), .unset, .unset, .unset] [(.int (7 : Int32)), (.ref arr), (.ref arr)]))
              refine Onw.go (fun own_u kt => XS.bipush X43.here hx rfl (hb hby at_404) kt) ?_
              show Onw p e below _ (T43.setTop (mkF m 406 #[.val (.int p0), .val (.int p1), .val (.int p2), .val (.int p3), .val (.int kd), .val (.int mu), .val (.int cx), .val (.int dx), .val (.ref a_LS), .val (.ref a_LL), .unset, .unset, .unset] [(.int (115 : Int32)), (.int (7 : Int32)), (.ref arr), (.ref arr)]))
              obtain ⟨cl44, Ar44, qa44, Sa44, Na44, Ha44, Ga44⟩ := V43
              have hin44 : ¬ ((7 : Int32) < 0 ∨ cl44.slots.size ≤ ((7 : Int32)).toNatClampNeg) := inb_of Sa44 ⟨by decide, by decide⟩
              obtain ⟨T44, h44, X44, e44, W44, st44⟩ := stC X43 hx hZ2 e43 Ar44 (j := (7 : Int32)) hin44 (g := (mkF m 406 #[.val (.int p0), .val (.int p1), .val (.int p2), .val (.int p3), .val (.int kd), .val (.int mu), .val (.int cx), .val (.int dx), .val (.ref a_LS), .val (.ref a_LL), .unset, .unset, .unset] [(.int (115 : Int32)), (.int (7 : Int32)), (.ref arr), (.ref arr)])) rfl rfl (hb hby at_406)
              have V44 := Arv.set Ar44 qa44 Sa44 Na44 Ha44 Ga44 (fits_nar_char _) W44 7 rfl (Nat.le_of_ble_eq_true rfl)
              have N44 := Fr.snoc X44 N43 g_arr
              refine Onw.go st44 ?_
              show Onw p e below _ (T44.setTop (mkF m 407 #[.val (.int p0), .val (.int p1), .val (.int p2), .val (.int p3), .val (.int kd), .val (.int mu), .val (.int cx), .val (.int dx), .val (.ref a_LS), .val (.ref a_LL), .unset, .unset, .unset] [(.ref arr)]))
              have KA44 := KA43.wr W44 (Or.inr szA)
              refine Onw.go (fun own_u kt => XS.dup X44.here hx rfl (hb hby at_407) rfl rfl kt) ?_
              show Onw p e below _ (T44.setTop (mkF m 408 #[.val (.int p0), .val (.int p1), .val (.int p2), .val (.int p3), .val (.int kd), .val (.int mu), .val (.int cx), .val (.int dx), .val (.ref a_LS), .val (.ref a_LL), .unset, .unset, .unset] [(.ref arr), (.ref arr)]))
              refine Onw.go (fun own_u kt => XS.bipush X44.here hx rfl (hb hby at_408) kt) ?_
              show Onw p e below _ (T44.setTop (mkF m 410 #[.val (.int p0), .val (.int p1), .val (.int p2), .val (.int p3), .val (.int kd), .val (.int mu), .val (.int cx), .val (.int dx), .val (.ref a_LS), .val (.ref a_LL), .unset, .unset, .unset] [(.int (8 : Int32)), (.ref arr), (.ref arr)]))
              refine Onw.go (fun own_u kt => XS.bipush X44.here hx rfl (hb hby at_410) kt) ?_
              show Onw p e below _ (T44.setTop (mkF m 412 #[.val (.int p0), .val (.int p1), .val (.int p2), .val (.int p3), .val (.int kd), .val (.int mu), .val (.int cx), .val (.int dx), .val (.ref a_LS), .val (.ref a_LL), .unset, .unset, .unset] [(.int (101 : Int32)), (.int (8 : Int32)), (.ref arr), (.ref arr)]))
              obtain ⟨cl45, Ar45, qa45, Sa45, Na45, Ha45, Ga45⟩ := V44
              have hin45 : ¬ ((8 : Int32) < 0 ∨ cl45.slots.size ≤ ((8 : Int32)).toNatClampNeg) := inb_of Sa45 ⟨by decide, by decide⟩
              obtain ⟨T45, h45, X45, e45, W45, st45⟩ := stC X44 hx hZ2 e44 Ar45 (j := (8 : Int32)) hin45 (g := (mkF m 412 #[.val (.int p0), .val (.int p1), .val (.int p2), .val (.int p3), .val (.int kd), .val (.int mu), .val (.int cx), .val (.int dx), .val (.ref a_LS), .val (.ref a_LL), .unset, .unset, .unset] [(.int (101 : Int32)), (.int (8 : Int32)), (.ref arr), (.ref arr)])) rfl rfl (hb hby at_412)
              have V45 := Arv.set Ar45 qa45 Sa45 Na45 Ha45 Ga45 (fits_nar_char _) W45 8 rfl (Nat.le_of_ble_eq_true rfl)
              have N45 := Fr.snoc X45 N44 g_arr
              refine Onw.go st45 ?_
              show Onw p e below _ (T45.setTop (mkF m 413 #[.val (.int p0), .val (.int p1), .val (.int p2), .val (.int p3), .val (.int kd), .val (.int mu), .val (.int cx), .val (.int dx), .val (.ref a_LS), .val (.ref a_LL), .unset, .unset, .unset] [(.ref arr)]))
              have KA45 := KA44.wr W45 (Or.inr szA)
              refine Onw.go (fun own_u kt => XS.dup X45.here hx rfl (hb hby at_413) rfl rfl kt) ?_
              show Onw p e below _ (T45.setTop (mkF m 414 #[.val (.int p0), .val (.int p1), .val (.int p2), .val (.int p3), .val (.int kd), .val (.int mu), .val (.int cx), .val (.int dx), .val (.ref a_LS), .val (.ref a_LL), .unset, .unset, .unset] [(.ref arr), (.ref arr)]))
              refine Onw.go (fun own_u kt => XS.bipush X45.here hx rfl (hb hby at_414) kt) ?_
              show Onw p e below _ (T45.setTop (mkF m 416 #[.val (.int p0), .val (.int p1), .val (.int p2), .val (.int p3), .val (.int kd), .val (.int mu), .val (.int cx), .val (.int dx), .val (.ref a_LS), .val (.ref a_LL), .unset, .unset, .unset] [(.int (9 : Int32)), (.ref arr), (.ref arr)]))
              refine Onw.go (fun own_u kt => XS.iload X45.here hx rfl (hb hby at_416) rfl kt) ?_
              show Onw p e below _ (T45.setTop (mkF m 418 #[.val (.int p0), .val (.int p1), .val (.int p2), .val (.int p3), .val (.int kd), .val (.int mu), .val (.int cx), .val (.int dx), .val (.ref a_LS), .val (.ref a_LL), .unset, .unset, .unset] [(.int cx), (.int (9 : Int32)), (.ref arr), (.ref arr)]))
              obtain ⟨cl46, Ar46, qa46, Sa46, Na46, Ha46, Ga46⟩ := V45
              have hin46 : ¬ ((9 : Int32) < 0 ∨ cl46.slots.size ≤ ((9 : Int32)).toNatClampNeg) := inb_of Sa46 ⟨by decide, by decide⟩
              obtain ⟨T46, h46, X46, e46, W46, st46⟩ := stC X45 hx hZ2 e45 Ar46 (j := (9 : Int32)) hin46 (g := (mkF m 418 #[.val (.int p0), .val (.int p1), .val (.int p2), .val (.int p3), .val (.int kd), .val (.int mu), .val (.int cx), .val (.int dx), .val (.ref a_LS), .val (.ref a_LL), .unset, .unset, .unset] [(.int cx), (.int (9 : Int32)), (.ref arr), (.ref arr)])) rfl rfl (hb hby at_418)
              have V46 := Arv.set Ar46 qa46 Sa46 Na46 Ha46 Ga46 (fits_nar_char _) W46 9 rfl (Nat.le_of_ble_eq_true rfl)
              have N46 := Fr.snoc X46 N45 g_arr
              refine Onw.go st46 ?_
              show Onw p e below _ (T46.setTop (mkF m 419 #[.val (.int p0), .val (.int p1), .val (.int p2), .val (.int p3), .val (.int kd), .val (.int mu), .val (.int cx), .val (.int dx), .val (.ref a_LS), .val (.ref a_LL), .unset, .unset, .unset] [(.ref arr)]))
              have KA46 := KA45.wr W46 (Or.inr szA)
              refine Onw.go (fun own_u kt => XS.astore X46.here hx rfl (hb hby at_419) rfl rfl (l' := #[.val (.int p0), .val (.int p1), .val (.int p2), .val (.int p3), .val (.int kd), .val (.int mu), .val (.int cx), .val (.int dx), .val (.ref a_LS), .val (.ref a_LL), .val (.ref arr), .unset, .unset]) rfl kt) ?_
              show Onw p e below _ (T46.setTop (mkF m 421 #[.val (.int p0), .val (.int p1), .val (.int p2), .val (.int p3), .val (.int kd), .val (.int mu), .val (.int cx), .val (.int dx), .val (.ref a_LS), .val (.ref a_LL), .val (.ref arr), .unset, .unset] []))
              refine Onw.go (fun own_u kt => XS.iconst X46.here hx rfl (hb hby at_421) kt) ?_
              show Onw p e below _ (T46.setTop (mkF m 422 #[.val (.int p0), .val (.int p1), .val (.int p2), .val (.int p3), .val (.int kd), .val (.int mu), .val (.int cx), .val (.int dx), .val (.ref a_LS), .val (.ref a_LL), .val (.ref arr), .unset, .unset] [(.int (0 : Int32))]))
              refine Onw.go (fun own_u kt => XS.istore X46.here hx rfl (hb hby at_422) rfl (l' := #[.val (.int p0), .val (.int p1), .val (.int p2), .val (.int p3), .val (.int kd), .val (.int mu), .val (.int cx), .val (.int dx), .val (.ref a_LS), .val (.ref a_LL), .val (.ref arr), .val (.int (0 : Int32)), .unset]) rfl kt) ?_
              show Onw p e below _ (T46.setTop (mkF m 424 #[.val (.int p0), .val (.int p1), .val (.int p2), .val (.int p3), .val (.int kd), .val (.int mu), .val (.int cx), .val (.int dx), .val (.ref a_LS), .val (.ref a_LL), .val (.ref arr), .val (.int (0 : Int32)), .unset] []))
              refine Onw.go (fun own_u kt => XS.goto X46.here hx rfl (pc0 := 424) (pc' := 481) rfl (hb hby at_424) (by decide) (by decide) kt) ?_
              show Onw p e below _ (T46.setTop (mkF m 481 #[.val (.int p0), .val (.int p1), .val (.int p2), .val (.int p3), .val (.int kd), .val (.int mu), .val (.int cx), .val (.int dx), .val (.ref a_LS), .val (.ref a_LL), .val (.ref arr), .val (.int (0 : Int32)), .unset] []))
              rw [hc2] at V46
              have VA : Arv Z h46 arr k36 .char (10 : Int32) ([(45 : Int32), (45 : Int32), (118 : Int32), (101 : Int32), (114 : Int32), (98 : Int32), (111 : Int32), (115 : Int32), (101 : Int32), cx].map Value.int) (.int (0 : Int32)) := V46
              have EE := own_ke KA46
              have VF : Arv Z h46 arr k36 .char (Int32.ofNat ([(45 : Int32), (45 : Int32), (118 : Int32), (101 : Int32), (114 : Int32), (98 : Int32), (111 : Int32), (115 : Int32), (101 : Int32), cx]).length) (([(45 : Int32), (45 : Int32), (118 : Int32), (101 : Int32), (114 : Int32), (98 : Int32), (111 : Int32), (115 : Int32), (101 : Int32), cx]).map Value.int) (.int (0 : Int32)) := VA
              exact law_481 hx hZ2 hw hby hml hown2 hEL (CHv.ext EE CH2) hS2 (Nat.le_trans hk2 EE.1) (.val (.int p0)) (.val (.int p1)) (.val (.int p2)) (.val (.int p3)) (.val (.int kd)) (.val (.int mu)) (.val (.int cx)) (.val (.int dx)) (.val (.ref a_LS)) (.val (.ref a_LL)) (.unset) (0 : Int32) arr k36 ([(45 : Int32), (45 : Int32), (118 : Int32), (101 : Int32), (114 : Int32), (98 : Int32), (111 : Int32), (115 : Int32), (101 : Int32), cx]) zc X46 e46 N46 (Nat.le_trans Z2 EE.1) VF ((S_C.ext ES).ext EE) hz (own_last (cs := own_VL) (by decide) hc1) (by simp) (own_swlen (by simp) (by simp)) hK
            · refine Onw.go (fun own_u kt => XS.icmpYes X2.here hx rfl (pc0 := 358) (pc' := 427) rfl (hb hby at_358) rfl (feq (hk_5 : ¬ (kd = (5 : Int32)))).2 (by decide) (by decide) kt) ?_
              show Onw p e below _ (T2.setTop (mkF m 427 #[.val (.int p0), .val (.int p1), .val (.int p2), .val (.int p3), .val (.int kd), .val (.int mu), .val (.int cx), .val (.int dx), .val (.ref a_LS), .val (.ref a_LL), .unset, .unset, .unset] []))
              refine Onw.go (fun own_u kt => XS.iload X2.here hx rfl (hb hby at_427) rfl kt) ?_
              show Onw p e below _ (T2.setTop (mkF m 429 #[.val (.int p0), .val (.int p1), .val (.int p2), .val (.int p3), .val (.int kd), .val (.int mu), .val (.int cx), .val (.int dx), .val (.ref a_LS), .val (.ref a_LL), .unset, .unset, .unset] [(.int kd)]))
              refine Onw.go (fun own_u kt => XS.bipush X2.here hx rfl (hb hby at_429) kt) ?_
              show Onw p e below _ (T2.setTop (mkF m 431 #[.val (.int p0), .val (.int p1), .val (.int p2), .val (.int p3), .val (.int kd), .val (.int mu), .val (.int cx), .val (.int dx), .val (.ref a_LS), .val (.ref a_LL), .unset, .unset, .unset] [(.int (6 : Int32)), (.int kd)]))
              by_cases hk_6 : kd = (6 : Int32)
              · refine Onw.go (fun own_u kt => XS.icmpNo X2.here hx rfl (hb hby at_431) rfl (teq (hk_6 : kd = (6 : Int32))).2 kt) ?_
                show Onw p e below _ (T2.setTop (mkF m 434 #[.val (.int p0), .val (.int p1), .val (.int p2), .val (.int p3), .val (.int kd), .val (.int mu), .val (.int cx), .val (.int dx), .val (.ref a_LS), .val (.ref a_LL), .unset, .unset, .unset] []))
                refine Onw.go (fun own_u kt => XS.iconst X2.here hx rfl (hb hby at_434) kt) ?_
                show Onw p e below _ (T2.setTop (mkF m 435 #[.val (.int p0), .val (.int p1), .val (.int p2), .val (.int p3), .val (.int kd), .val (.int mu), .val (.int cx), .val (.int dx), .val (.ref a_LS), .val (.ref a_LL), .unset, .unset, .unset] [(.int (2 : Int32))]))
                obtain ⟨T47, h47, k47, X47, e47, E47, A47, st47⟩ := newP X2 hx hZ2 (hw _ (List.mem_of_getElem? (i := 10) rfl)) e2 (g := (mkF m 435 #[.val (.int p0), .val (.int p1), .val (.int p2), .val (.int p3), .val (.int kd), .val (.int mu), .val (.int cx), .val (.int dx), .val (.ref a_LS), .val (.ref a_LL), .unset, .unset, .unset] [(.int (2 : Int32))])) rfl (hb hby at_435) rfl (by decide) (cap := 10) (by decide) (by decide) (by decide) (by decide)
                obtain ⟨arr, gg47⟩ : ∃ own_z, own_z = h2.size := ⟨_, rfl⟩
                rw [← gg47] at A47 st47
                have V_arr : Arv Z h47 arr k47 .char (2 : Int32) [(.int (0 : Int32)), (.int (0 : Int32))] (.int (0 : Int32)) := (Arv.new A47 (by decide)).pad (pad_rep [] (.int (0 : Int32)) 2)
                refine Onw.go st47 ?_
                show Onw p e below _ (T47.setTop (mkF m 437 #[.val (.int p0), .val (.int p1), .val (.int p2), .val (.int p3), .val (.int kd), .val (.int mu), .val (.int cx), .val (.int dx), .val (.ref a_LS), .val (.ref a_LL), .unset, .unset, .unset] [(.ref arr)]))
                have g_arr : n0 ≤ arr := Nat.le_trans Z2 (Nat.le_of_eq gg47.symm)
                have szA : h2.size ≤ arr := Nat.le_of_eq gg47.symm
                have KA47 : Keep h2 h47 [] := (Keep.refl h2 []).ext E47
                refine Onw.go (fun own_u kt => XS.dup X47.here hx rfl (hb hby at_437) rfl rfl kt) ?_
                show Onw p e below _ (T47.setTop (mkF m 438 #[.val (.int p0), .val (.int p1), .val (.int p2), .val (.int p3), .val (.int kd), .val (.int mu), .val (.int cx), .val (.int dx), .val (.ref a_LS), .val (.ref a_LL), .unset, .unset, .unset] [(.ref arr), (.ref arr)]))
                refine Onw.go (fun own_u kt => XS.iconst X47.here hx rfl (hb hby at_438) kt) ?_
                show Onw p e below _ (T47.setTop (mkF m 439 #[.val (.int p0), .val (.int p1), .val (.int p2), .val (.int p3), .val (.int kd), .val (.int mu), .val (.int cx), .val (.int dx), .val (.ref a_LS), .val (.ref a_LL), .unset, .unset, .unset] [(.int (0 : Int32)), (.ref arr), (.ref arr)]))
                refine Onw.go (fun own_u kt => XS.iload X47.here hx rfl (hb hby at_439) rfl kt) ?_
                show Onw p e below _ (T47.setTop (mkF m 441 #[.val (.int p0), .val (.int p1), .val (.int p2), .val (.int p3), .val (.int kd), .val (.int mu), .val (.int cx), .val (.int dx), .val (.ref a_LS), .val (.ref a_LL), .unset, .unset, .unset] [(.int cx), (.int (0 : Int32)), (.ref arr), (.ref arr)]))
                obtain ⟨cl48, Ar48, qa48, Sa48, Na48, Ha48, Ga48⟩ := V_arr
                have hin48 : ¬ ((0 : Int32) < 0 ∨ cl48.slots.size ≤ ((0 : Int32)).toNatClampNeg) := inb_of Sa48 ⟨by decide, by decide⟩
                obtain ⟨T48, h48, X48, e48, W48, st48⟩ := stC X47 hx hZ2 e47 Ar48 (j := (0 : Int32)) hin48 (g := (mkF m 441 #[.val (.int p0), .val (.int p1), .val (.int p2), .val (.int p3), .val (.int kd), .val (.int mu), .val (.int cx), .val (.int dx), .val (.ref a_LS), .val (.ref a_LL), .unset, .unset, .unset] [(.int cx), (.int (0 : Int32)), (.ref arr), (.ref arr)])) rfl rfl (hb hby at_441)
                have V48 := Arv.set Ar48 qa48 Sa48 Na48 Ha48 Ga48 (fits_nar_char _) W48 0 rfl (Nat.le_of_ble_eq_true rfl)
                have N48 := Fr.snoc X48 N0 g_arr
                refine Onw.go st48 ?_
                show Onw p e below _ (T48.setTop (mkF m 442 #[.val (.int p0), .val (.int p1), .val (.int p2), .val (.int p3), .val (.int kd), .val (.int mu), .val (.int cx), .val (.int dx), .val (.ref a_LS), .val (.ref a_LL), .unset, .unset, .unset] [(.ref arr)]))
                have KA48 := KA47.wr W48 (Or.inr szA)
                refine Onw.go (fun own_u kt => XS.dup X48.here hx rfl (hb hby at_442) rfl rfl kt) ?_
                show Onw p e below _ (T48.setTop (mkF m 443 #[.val (.int p0), .val (.int p1), .val (.int p2), .val (.int p3), .val (.int kd), .val (.int mu), .val (.int cx), .val (.int dx), .val (.ref a_LS), .val (.ref a_LL), .unset, .unset, .unset] [(.ref arr), (.ref arr)]))
                refine Onw.go (fun own_u kt => XS.iconst X48.here hx rfl (hb hby at_443) kt) ?_
                show Onw p e below _ (T48.setTop (mkF m 444 #[.val (.int p0), .val (.int p1), .val (.int p2), .val (.int p3), .val (.int kd), .val (.int mu), .val (.int cx), .val (.int dx), .val (.ref a_LS), .val (.ref a_LL), .unset, .unset, .unset] [(.int (1 : Int32)), (.ref arr), (.ref arr)]))
                refine Onw.go (fun own_u kt => XS.iload X48.here hx rfl (hb hby at_444) rfl kt) ?_
                show Onw p e below _ (T48.setTop (mkF m 446 #[.val (.int p0), .val (.int p1), .val (.int p2), .val (.int p3), .val (.int kd), .val (.int mu), .val (.int cx), .val (.int dx), .val (.ref a_LS), .val (.ref a_LL), .unset, .unset, .unset] [(.int dx), (.int (1 : Int32)), (.ref arr), (.ref arr)]))
                obtain ⟨cl49, Ar49, qa49, Sa49, Na49, Ha49, Ga49⟩ := V48
                have hin49 : ¬ ((1 : Int32) < 0 ∨ cl49.slots.size ≤ ((1 : Int32)).toNatClampNeg) := inb_of Sa49 ⟨by decide, by decide⟩
                obtain ⟨T49, h49, X49, e49, W49, st49⟩ := stC X48 hx hZ2 e48 Ar49 (j := (1 : Int32)) hin49 (g := (mkF m 446 #[.val (.int p0), .val (.int p1), .val (.int p2), .val (.int p3), .val (.int kd), .val (.int mu), .val (.int cx), .val (.int dx), .val (.ref a_LS), .val (.ref a_LL), .unset, .unset, .unset] [(.int dx), (.int (1 : Int32)), (.ref arr), (.ref arr)])) rfl rfl (hb hby at_446)
                have V49 := Arv.set Ar49 qa49 Sa49 Na49 Ha49 Ga49 (fits_nar_char _) W49 1 rfl (Nat.le_of_ble_eq_true rfl)
                have N49 := Fr.snoc X49 N48 g_arr
                refine Onw.go st49 ?_
                show Onw p e below _ (T49.setTop (mkF m 447 #[.val (.int p0), .val (.int p1), .val (.int p2), .val (.int p3), .val (.int kd), .val (.int mu), .val (.int cx), .val (.int dx), .val (.ref a_LS), .val (.ref a_LL), .unset, .unset, .unset] [(.ref arr)]))
                have KA49 := KA48.wr W49 (Or.inr szA)
                refine Onw.go (fun own_u kt => XS.astore X49.here hx rfl (hb hby at_447) rfl rfl (l' := #[.val (.int p0), .val (.int p1), .val (.int p2), .val (.int p3), .val (.int kd), .val (.int mu), .val (.int cx), .val (.int dx), .val (.ref a_LS), .val (.ref a_LL), .val (.ref arr), .unset, .unset]) rfl kt) ?_
                show Onw p e below _ (T49.setTop (mkF m 449 #[.val (.int p0), .val (.int p1), .val (.int p2), .val (.int p3), .val (.int kd), .val (.int mu), .val (.int cx), .val (.int dx), .val (.ref a_LS), .val (.ref a_LL), .val (.ref arr), .unset, .unset] []))
                refine Onw.go (fun own_u kt => XS.iload X49.here hx rfl (hb hby at_449) rfl kt) ?_
                show Onw p e below _ (T49.setTop (mkF m 451 #[.val (.int p0), .val (.int p1), .val (.int p2), .val (.int p3), .val (.int kd), .val (.int mu), .val (.int cx), .val (.int dx), .val (.ref a_LS), .val (.ref a_LL), .val (.ref arr), .unset, .unset] [(.int cx)]))
                refine Onw.go (fun own_u kt => XS.bipush X49.here hx rfl (hb hby at_451) kt) ?_
                show Onw p e below _ (T49.setTop (mkF m 453 #[.val (.int p0), .val (.int p1), .val (.int p2), .val (.int p3), .val (.int kd), .val (.int mu), .val (.int cx), .val (.int dx), .val (.ref a_LS), .val (.ref a_LL), .val (.ref arr), .unset, .unset] [(.int (45 : Int32)), (.int cx)]))
                rw [hc2] at V49
                rw [hd2] at V49
                have VA : Arv Z h49 arr k47 .char (2 : Int32) ([cx, dx].map Value.int) (.int (0 : Int32)) := V49
                by_cases h45 : cx = (45 : Int32)
                · refine Onw.go (fun own_u kt => XS.icmpNo X49.here hx rfl (hb hby at_453) rfl (teq (h45 : cx = (45 : Int32))).2 kt) ?_
                  show Onw p e below _ (T49.setTop (mkF m 456 #[.val (.int p0), .val (.int p1), .val (.int p2), .val (.int p3), .val (.int kd), .val (.int mu), .val (.int cx), .val (.int dx), .val (.ref a_LS), .val (.ref a_LL), .val (.ref arr), .unset, .unset] []))
                  refine Onw.go (fun own_u kt => XS.iload X49.here hx rfl (hb hby at_456) rfl kt) ?_
                  show Onw p e below _ (T49.setTop (mkF m 458 #[.val (.int p0), .val (.int p1), .val (.int p2), .val (.int p3), .val (.int kd), .val (.int mu), .val (.int cx), .val (.int dx), .val (.ref a_LS), .val (.ref a_LL), .val (.ref arr), .unset, .unset] [(.int dx)]))
                  refine Onw.go (fun own_u kt => XS.bipush X49.here hx rfl (hb hby at_458) kt) ?_
                  show Onw p e below _ (T49.setTop (mkF m 460 #[.val (.int p0), .val (.int p1), .val (.int p2), .val (.int p3), .val (.int kd), .val (.int mu), .val (.int cx), .val (.int dx), .val (.ref a_LS), .val (.ref a_LL), .val (.ref arr), .unset, .unset] [(.int (118 : Int32)), (.int dx)]))
                  by_cases h118 : dx = (118 : Int32)
                  · refine Onw.go (fun own_u kt => XS.icmpNo X49.here hx rfl (hb hby at_460) rfl (teq (h118 : dx = (118 : Int32))).2 kt) ?_
                    show Onw p e below _ (T49.setTop (mkF m 463 #[.val (.int p0), .val (.int p1), .val (.int p2), .val (.int p3), .val (.int kd), .val (.int mu), .val (.int cx), .val (.int dx), .val (.ref a_LS), .val (.ref a_LL), .val (.ref arr), .unset, .unset] []))
                    refine Onw.go (fun own_u kt => XS.iconst X49.here hx rfl (hb hby at_463) kt) ?_
                    show Onw p e below _ (T49.setTop (mkF m 464 #[.val (.int p0), .val (.int p1), .val (.int p2), .val (.int p3), .val (.int kd), .val (.int mu), .val (.int cx), .val (.int dx), .val (.ref a_LS), .val (.ref a_LL), .val (.ref arr), .unset, .unset] [(.int (1 : Int32))]))
                    refine Onw.go (fun own_u kt => XS.goto X49.here hx rfl (pc0 := 464) (pc' := 468) rfl (hb hby at_464) (by decide) (by decide) kt) ?_
                    show Onw p e below _ (T49.setTop (mkF m 468 #[.val (.int p0), .val (.int p1), .val (.int p2), .val (.int p3), .val (.int kd), .val (.int mu), .val (.int cx), .val (.int dx), .val (.ref a_LS), .val (.ref a_LL), .val (.ref arr), .unset, .unset] [(.int (1 : Int32))]))
                    refine Onw.go (fun own_u kt => XS.istore X49.here hx rfl (hb hby at_468) rfl (l' := #[.val (.int p0), .val (.int p1), .val (.int p2), .val (.int p3), .val (.int kd), .val (.int mu), .val (.int cx), .val (.int dx), .val (.ref a_LS), .val (.ref a_LL), .val (.ref arr), .val (.int (1 : Int32)), .unset]) rfl kt) ?_
                    show Onw p e below _ (T49.setTop (mkF m 470 #[.val (.int p0), .val (.int p1), .val (.int p2), .val (.int p3), .val (.int kd), .val (.int mu), .val (.int cx), .val (.int dx), .val (.ref a_LS), .val (.ref a_LL), .val (.ref arr), .val (.int (1 : Int32)), .unset] []))
                    refine Onw.go (fun own_u kt => XS.goto X49.here hx rfl (pc0 := 470) (pc' := 481) rfl (hb hby at_470) (by decide) (by decide) kt) ?_
                    show Onw p e below _ (T49.setTop (mkF m 481 #[.val (.int p0), .val (.int p1), .val (.int p2), .val (.int p3), .val (.int kd), .val (.int mu), .val (.int cx), .val (.int dx), .val (.ref a_LS), .val (.ref a_LL), .val (.ref arr), .val (.int (1 : Int32)), .unset] []))
                    have EE := own_ke KA49
                    have VF : Arv Z h49 arr k47 .char (Int32.ofNat ([cx, dx]).length) (([cx, dx]).map Value.int) (.int (0 : Int32)) := VA
                    exact law_481 hx hZ2 hw hby hml hown2 hEL (CHv.ext EE CH2) hS2 (Nat.le_trans hk2 EE.1) (.val (.int p0)) (.val (.int p1)) (.val (.int p2)) (.val (.int p3)) (.val (.int kd)) (.val (.int mu)) (.val (.int cx)) (.val (.int dx)) (.val (.ref a_LS)) (.val (.ref a_LL)) (.unset) (1 : Int32) arr k47 ([cx, dx]) zc X49 e49 N49 (Nat.le_trans Z2 EE.1) VF ((S_C.ext ES).ext EE) hz (own_two hc1 hd1) (by simp) ((own_sw2 cx dx).trans (if_pos ⟨h45, h118⟩)) hK
                  · refine Onw.go (fun own_u kt => XS.icmpYes X49.here hx rfl (pc0 := 460) (pc' := 467) rfl (hb hby at_460) rfl (feq (h118 : ¬ (dx = (118 : Int32)))).2 (by decide) (by decide) kt) ?_
                    show Onw p e below _ (T49.setTop (mkF m 467 #[.val (.int p0), .val (.int p1), .val (.int p2), .val (.int p3), .val (.int kd), .val (.int mu), .val (.int cx), .val (.int dx), .val (.ref a_LS), .val (.ref a_LL), .val (.ref arr), .unset, .unset] []))
                    refine Onw.go (fun own_u kt => XS.iconst X49.here hx rfl (hb hby at_467) kt) ?_
                    show Onw p e below _ (T49.setTop (mkF m 468 #[.val (.int p0), .val (.int p1), .val (.int p2), .val (.int p3), .val (.int kd), .val (.int mu), .val (.int cx), .val (.int dx), .val (.ref a_LS), .val (.ref a_LL), .val (.ref arr), .unset, .unset] [(.int (0 : Int32))]))
                    refine Onw.go (fun own_u kt => XS.istore X49.here hx rfl (hb hby at_468) rfl (l' := #[.val (.int p0), .val (.int p1), .val (.int p2), .val (.int p3), .val (.int kd), .val (.int mu), .val (.int cx), .val (.int dx), .val (.ref a_LS), .val (.ref a_LL), .val (.ref arr), .val (.int (0 : Int32)), .unset]) rfl kt) ?_
                    show Onw p e below _ (T49.setTop (mkF m 470 #[.val (.int p0), .val (.int p1), .val (.int p2), .val (.int p3), .val (.int kd), .val (.int mu), .val (.int cx), .val (.int dx), .val (.ref a_LS), .val (.ref a_LL), .val (.ref arr), .val (.int (0 : Int32)), .unset] []))
                    refine Onw.go (fun own_u kt => XS.goto X49.here hx rfl (pc0 := 470) (pc' := 481) rfl (hb hby at_470) (by decide) (by decide) kt) ?_
                    show Onw p e below _ (T49.setTop (mkF m 481 #[.val (.int p0), .val (.int p1), .val (.int p2), .val (.int p3), .val (.int kd), .val (.int mu), .val (.int cx), .val (.int dx), .val (.ref a_LS), .val (.ref a_LL), .val (.ref arr), .val (.int (0 : Int32)), .unset] []))
                    have EE := own_ke KA49
                    have VF : Arv Z h49 arr k47 .char (Int32.ofNat ([cx, dx]).length) (([cx, dx]).map Value.int) (.int (0 : Int32)) := VA
                    exact law_481 hx hZ2 hw hby hml hown2 hEL (CHv.ext EE CH2) hS2 (Nat.le_trans hk2 EE.1) (.val (.int p0)) (.val (.int p1)) (.val (.int p2)) (.val (.int p3)) (.val (.int kd)) (.val (.int mu)) (.val (.int cx)) (.val (.int dx)) (.val (.ref a_LS)) (.val (.ref a_LL)) (.unset) (0 : Int32) arr k47 ([cx, dx]) zc X49 e49 N49 (Nat.le_trans Z2 EE.1) VF ((S_C.ext ES).ext EE) hz (own_two hc1 hd1) (by simp) ((own_sw2 cx dx).trans (if_neg (fun q => h118 q.2))) hK
                · refine Onw.go (fun own_u kt => XS.icmpYes X49.here hx rfl (pc0 := 453) (pc' := 467) rfl (hb hby at_453) rfl (feq (h45 : ¬ (cx = (45 : Int32)))).2 (by decide) (by decide) kt) ?_
                  show Onw p e below _ (T49.setTop (mkF m 467 #[.val (.int p0), .val (.int p1), .val (.int p2), .val (.int p3), .val (.int kd), .val (.int mu), .val (.int cx), .val (.int dx), .val (.ref a_LS), .val (.ref a_LL), .val (.ref arr), .unset, .unset] []))
                  refine Onw.go (fun own_u kt => XS.iconst X49.here hx rfl (hb hby at_467) kt) ?_
                  show Onw p e below _ (T49.setTop (mkF m 468 #[.val (.int p0), .val (.int p1), .val (.int p2), .val (.int p3), .val (.int kd), .val (.int mu), .val (.int cx), .val (.int dx), .val (.ref a_LS), .val (.ref a_LL), .val (.ref arr), .unset, .unset] [(.int (0 : Int32))]))
                  refine Onw.go (fun own_u kt => XS.istore X49.here hx rfl (hb hby at_468) rfl (l' := #[.val (.int p0), .val (.int p1), .val (.int p2), .val (.int p3), .val (.int kd), .val (.int mu), .val (.int cx), .val (.int dx), .val (.ref a_LS), .val (.ref a_LL), .val (.ref arr), .val (.int (0 : Int32)), .unset]) rfl kt) ?_
                  show Onw p e below _ (T49.setTop (mkF m 470 #[.val (.int p0), .val (.int p1), .val (.int p2), .val (.int p3), .val (.int kd), .val (.int mu), .val (.int cx), .val (.int dx), .val (.ref a_LS), .val (.ref a_LL), .val (.ref arr), .val (.int (0 : Int32)), .unset] []))
                  refine Onw.go (fun own_u kt => XS.goto X49.here hx rfl (pc0 := 470) (pc' := 481) rfl (hb hby at_470) (by decide) (by decide) kt) ?_
                  show Onw p e below _ (T49.setTop (mkF m 481 #[.val (.int p0), .val (.int p1), .val (.int p2), .val (.int p3), .val (.int kd), .val (.int mu), .val (.int cx), .val (.int dx), .val (.ref a_LS), .val (.ref a_LL), .val (.ref arr), .val (.int (0 : Int32)), .unset] []))
                  have EE := own_ke KA49
                  have VF : Arv Z h49 arr k47 .char (Int32.ofNat ([cx, dx]).length) (([cx, dx]).map Value.int) (.int (0 : Int32)) := VA
                  exact law_481 hx hZ2 hw hby hml hown2 hEL (CHv.ext EE CH2) hS2 (Nat.le_trans hk2 EE.1) (.val (.int p0)) (.val (.int p1)) (.val (.int p2)) (.val (.int p3)) (.val (.int kd)) (.val (.int mu)) (.val (.int cx)) (.val (.int dx)) (.val (.ref a_LS)) (.val (.ref a_LL)) (.unset) (0 : Int32) arr k47 ([cx, dx]) zc X49 e49 N49 (Nat.le_trans Z2 EE.1) VF ((S_C.ext ES).ext EE) hz (own_two hc1 hd1) (by simp) ((own_sw2 cx dx).trans (if_neg (fun q => h45 q.1))) hK
              · refine Onw.go (fun own_u kt => XS.icmpYes X2.here hx rfl (pc0 := 431) (pc' := 473) rfl (hb hby at_431) rfl (feq (hk_6 : ¬ (kd = (6 : Int32)))).2 (by decide) (by decide) kt) ?_
                show Onw p e below _ (T2.setTop (mkF m 473 #[.val (.int p0), .val (.int p1), .val (.int p2), .val (.int p3), .val (.int kd), .val (.int mu), .val (.int cx), .val (.int dx), .val (.ref a_LS), .val (.ref a_LL), .unset, .unset, .unset] []))
                refine Onw.go (fun own_u kt => XS.iconst X2.here hx rfl (hb hby at_473) kt) ?_
                show Onw p e below _ (T2.setTop (mkF m 474 #[.val (.int p0), .val (.int p1), .val (.int p2), .val (.int p3), .val (.int kd), .val (.int mu), .val (.int cx), .val (.int dx), .val (.ref a_LS), .val (.ref a_LL), .unset, .unset, .unset] [(.int (0 : Int32))]))
                obtain ⟨T50, h50, k50, X50, e50, E50, A50, st50⟩ := newP X2 hx hZ2 (hw _ (List.mem_of_getElem? (i := 10) rfl)) e2 (g := (mkF m 474 #[.val (.int p0), .val (.int p1), .val (.int p2), .val (.int p3), .val (.int kd), .val (.int mu), .val (.int cx), .val (.int dx), .val (.ref a_LS), .val (.ref a_LL), .unset, .unset, .unset] [(.int (0 : Int32))])) rfl (hb hby at_474) rfl (by decide) (cap := 10) (by decide) (by decide) (by decide) (by decide)
                obtain ⟨arr, gg50⟩ : ∃ own_z, own_z = h2.size := ⟨_, rfl⟩
                rw [← gg50] at A50 st50
                have VA : Arv Z h50 arr k50 .char (0 : Int32) [] (.int (0 : Int32)) := Arv.new A50 (by decide)
                refine Onw.go st50 ?_
                show Onw p e below _ (T50.setTop (mkF m 476 #[.val (.int p0), .val (.int p1), .val (.int p2), .val (.int p3), .val (.int kd), .val (.int mu), .val (.int cx), .val (.int dx), .val (.ref a_LS), .val (.ref a_LL), .unset, .unset, .unset] [(.ref arr)]))
                refine Onw.go (fun own_u kt => XS.astore X50.here hx rfl (hb hby at_476) rfl rfl (l' := #[.val (.int p0), .val (.int p1), .val (.int p2), .val (.int p3), .val (.int kd), .val (.int mu), .val (.int cx), .val (.int dx), .val (.ref a_LS), .val (.ref a_LL), .val (.ref arr), .unset, .unset]) rfl kt) ?_
                show Onw p e below _ (T50.setTop (mkF m 478 #[.val (.int p0), .val (.int p1), .val (.int p2), .val (.int p3), .val (.int kd), .val (.int mu), .val (.int cx), .val (.int dx), .val (.ref a_LS), .val (.ref a_LL), .val (.ref arr), .unset, .unset] []))
                refine Onw.go (fun own_u kt => XS.iconst X50.here hx rfl (hb hby at_478) kt) ?_
                show Onw p e below _ (T50.setTop (mkF m 479 #[.val (.int p0), .val (.int p1), .val (.int p2), .val (.int p3), .val (.int kd), .val (.int mu), .val (.int cx), .val (.int dx), .val (.ref a_LS), .val (.ref a_LL), .val (.ref arr), .unset, .unset] [(.int (0 : Int32))]))
                refine Onw.go (fun own_u kt => XS.istore X50.here hx rfl (hb hby at_479) rfl (l' := #[.val (.int p0), .val (.int p1), .val (.int p2), .val (.int p3), .val (.int kd), .val (.int mu), .val (.int cx), .val (.int dx), .val (.ref a_LS), .val (.ref a_LL), .val (.ref arr), .val (.int (0 : Int32)), .unset]) rfl kt) ?_
                show Onw p e below _ (T50.setTop (mkF m 481 #[.val (.int p0), .val (.int p1), .val (.int p2), .val (.int p3), .val (.int kd), .val (.int mu), .val (.int cx), .val (.int dx), .val (.ref a_LS), .val (.ref a_LL), .val (.ref arr), .val (.int (0 : Int32)), .unset] []))
                exact law_481e hx hZ2 hw hby hml hown2 hEL (CHv.ext E50 CH2) hS2 (Nat.le_trans hk2 E50.1) (.val (.int p0)) (.val (.int p1)) (.val (.int p2)) (.val (.int p3)) (.val (.int kd)) (.val (.int mu)) (.val (.int cx)) (.val (.int dx)) (.val (.ref a_LS)) (.val (.ref a_LL)) (.unset) (0 : Int32) arr _ zc X50 e50 N0 (Nat.le_trans Z2 E50.1) VA ((S_C.ext ES).ext E50) hz (by decide) hK
theorem pn_2 : plainName "com/example/clockwise/clockwise/LoggingIsSwitchPinLaw" = true := by first | (simp [plainName, overriddenIn]; done) | decide +kernel
theorem ef_0 (m : MethodId) (x0 : Int32) (x1 : Int32) (x2 : Int32) (x3 : Int32) : entryFrame m #[(.int x0), (.int x1), (.int x2), (.int x3)] maxLocals = mkF m 0 #[.val (.int x0), .val (.int x1), .val (.int x2), .val (.int x3), .unset, .unset, .unset, .unset, .unset, .unset, .unset, .unset, .unset] [] := by first | (simp [entryFrame, mkF, argsToLocals, Value.category, maxLocals]; done) | rfl
def Q_rm0 (Z : State) (p0 : Int32) (p1 : Int32) (p2 : Int32) (p3 : Int32) (zc : Int32) (fm : Value) (h0 : Heap) (n0 : Nat) (v : Option Value) (h : Heap) (L : List Loc) : Prop := v = some (.int (1 : Int32)) ∧ Fr n0 L
set_option maxRecDepth 65536 in
set_option maxHeartbeats 40000000 in
theorem rm0 (l : Launch) (Z : State) (a0 : Array Value) (hw : ∀ d ∈ tables_1, d.before a0 Z = true) (ws : List Jvm.Cond) (p0 : Int32) (p1 : Int32) (p2 : Int32) (p3 : Int32) (zc : Int32) (fm : Value) (h0 : Heap) (n0 : Nat) (Z0 : n0 ≤ h0.size) (S_C : Sta Z h0 "java/lang/String" "COMPACT_STRINGS" "Z" (.int zc)) (hz : ¬ zc = 0) (S_F : Sta Z h0 "jdk/internal/util/Preconditions" "SIOOBE_FORMATTER" "Ljava/util/function/BiFunction;" fm) (rf : fm.isRef = true) (hheld : ∀ q ∈ own_EL, Jvm.Lit.constHeld Z q.1 q.2) (hcw : Jvm.Lit.compactW.before a0 Z = true) :
    MetFree l x (head1 (Jvm.Cond.code x code maxLocals ret :: ws) room_1) (fun a U => a = #[(.int p0), (.int p1), (.int p2), (.int p3)] ∧ Z.Warmed39 U.vm ∧ U.heap = h0 ∧ U = Z) (fun _ _ _ _ _ => True) (fun _ U o U' => ∃ v L, o = .returned v ∧ Q_rm0 Z p0 p1 p2 p3 zc fm h0 n0 v U'.heap L ∧ ReturnedEndW U o U' L room_1.cells room_1.slots) := by
  refine MetFree.of_bodySF (plainFor_of_name pn_2) hisR ?_
  intro p e s m args below meth c s₁ Bd hml0 hP hK
  obtain ⟨rfl, hZ, hh, hUZ⟩ := hP
  have hx := Bd.exec
  have hby := Bd.bytes
  have hml : c.maxLocals = 13 := hml0
  have hown : s.vm.findClass "com/example/clockwise/clockwise/LoggingIsSwitchPinLaw" = some m.cls := findClass_of_methodNamed Bd.named
  have hnm := (name_of_methodNamed Bd.named Bd.method).1
  have X0 : Stand p l e room_1 s m #[(.int p0), (.int p1), (.int p2), (.int p3)] below meth c s₁ [] 0 0 := Stand.of_body Bd
  have e0 : s₁.heap = h0 := by rw [← hh, Bd.state]; rfl
  have N0 := Fr.nil n0
  refine Onw.of (Onw.go (fun own_u k => castTop (ef_0 m p0 p1 p2 p3) k) ?_)
  show Onw p e below _ (s₁.setTop (mkF m 0 #[.val (.int p0), .val (.int p1), .val (.int p2), .val (.int p3), .unset, .unset, .unset, .unset, .unset, .unset, .unset, .unset, .unset] []))
  have hEL := own_EW hw
  have CH0 : CHv Z own_EL s.vm h0 := by rw [← hh, hUZ]; exact CHv.start hEL hheld hcw (hw _ (List.mem_of_getElem? (i := 3) rfl)) (hw _ (List.mem_of_getElem? (i := 2) rfl))
  have hS0 : s.Since s.vm 0 := (State.WarmedH.refl s).since 0
  refine Onw.go (fun own_u kt => XS.iloadN X0.here hx rfl (hb hby at_0) rfl kt) ?_
  show Onw p e below _ (s₁.setTop (mkF m 1 #[.val (.int p0), .val (.int p1), .val (.int p2), .val (.int p3), .unset, .unset, .unset, .unset, .unset, .unset, .unset, .unset, .unset] [(.int p0)]))
  refine Onw.go (fun own_u kt => XS.bipush X0.here hx rfl (hb hby at_1) kt) ?_
  show Onw p e below _ (s₁.setTop (mkF m 3 #[.val (.int p0), .val (.int p1), .val (.int p2), .val (.int p3), .unset, .unset, .unset, .unset, .unset, .unset, .unset, .unset, .unset] [(.int (7 : Int32)), (.int p0)]))
  refine Onw.go (fun own_u kt => XS.iand X0.here hx rfl (hb hby at_3) rfl kt) ?_
  show Onw p e below _ (s₁.setTop (mkF m 4 #[.val (.int p0), .val (.int p1), .val (.int p2), .val (.int p3), .unset, .unset, .unset, .unset, .unset, .unset, .unset, .unset, .unset] [(.int (p0 &&& (7 : Int32)))]))
  obtain ⟨kd, hkd0⟩ : ∃ own_z, own_z = (p0 &&& (7 : Int32)) := ⟨_, rfl⟩
  rw [← hkd0]
  show Onw p e below _ (s₁.setTop (mkF m 4 #[.val (.int p0), .val (.int p1), .val (.int p2), .val (.int p3), .unset, .unset, .unset, .unset, .unset, .unset, .unset, .unset, .unset] [(.int kd)]))
  have hkd : ¬ kd < 0 ∧ ¬ (7 : Int32) < kd := own_kd _ _ hkd0
  refine Onw.go (fun own_u kt => XS.istore X0.here hx rfl (hb hby at_4) rfl (l' := #[.val (.int p0), .val (.int p1), .val (.int p2), .val (.int p3), .val (.int kd), .unset, .unset, .unset, .unset, .unset, .unset, .unset, .unset]) rfl kt) ?_
  show Onw p e below _ (s₁.setTop (mkF m 6 #[.val (.int p0), .val (.int p1), .val (.int p2), .val (.int p3), .val (.int kd), .unset, .unset, .unset, .unset, .unset, .unset, .unset, .unset] []))
  refine Onw.go (fun own_u kt => XS.iloadN X0.here hx rfl (hb hby at_6) rfl kt) ?_
  show Onw p e below _ (s₁.setTop (mkF m 7 #[.val (.int p0), .val (.int p1), .val (.int p2), .val (.int p3), .val (.int kd), .unset, .unset, .unset, .unset, .unset, .unset, .unset, .unset] [(.int p0)]))
  refine Onw.go (fun own_u kt => XS.iconst X0.here hx rfl (hb hby at_7) kt) ?_
  show Onw p e below _ (s₁.setTop (mkF m 8 #[.val (.int p0), .val (.int p1), .val (.int p2), .val (.int p3), .val (.int kd), .unset, .unset, .unset, .unset, .unset, .unset, .unset, .unset] [(.int (3 : Int32)), (.int p0)]))
  refine Onw.go (fun own_u kt => XS.iushr X0.here hx rfl (hb hby at_8) rfl kt) ?_
  show Onw p e below _ (s₁.setTop (mkF m 9 #[.val (.int p0), .val (.int p1), .val (.int p2), .val (.int p3), .val (.int kd), .unset, .unset, .unset, .unset, .unset, .unset, .unset, .unset] [(.int ((p0.toUInt32 >>> ((3 : Int32) &&& 31).toUInt32).toInt32))]))
  refine Onw.go (fun own_u kt => XS.iconst X0.here hx rfl (hb hby at_9) kt) ?_
  show Onw p e below _ (s₁.setTop (mkF m 10 #[.val (.int p0), .val (.int p1), .val (.int p2), .val (.int p3), .val (.int kd), .unset, .unset, .unset, .unset, .unset, .unset, .unset, .unset] [(.int (1 : Int32)), (.int ((p0.toUInt32 >>> ((3 : Int32) &&& 31).toUInt32).toInt32))]))
  refine Onw.go (fun own_u kt => XS.iand X0.here hx rfl (hb hby at_10) rfl kt) ?_
  show Onw p e below _ (s₁.setTop (mkF m 11 #[.val (.int p0), .val (.int p1), .val (.int p2), .val (.int p3), .val (.int kd), .unset, .unset, .unset, .unset, .unset, .unset, .unset, .unset] [(.int (((p0.toUInt32 >>> ((3 : Int32) &&& 31).toUInt32).toInt32) &&& (1 : Int32)))]))
  by_cases hmu : (((p0.toUInt32 >>> ((3 : Int32) &&& 31).toUInt32).toInt32) &&& (1 : Int32)) = (0 : Int32)
  · refine Onw.go (fun own_u kt => XS.ifYes X0.here hx rfl (pc0 := 11) (pc' := 18) rfl (hb hby at_11) rfl ((if0 _ _).trans (teq (hmu : (((p0.toUInt32 >>> ((3 : Int32) &&& 31).toUInt32).toInt32) &&& (1 : Int32)) = (0 : Int32))).1) (by decide) (by decide) kt) ?_
    show Onw p e below _ (s₁.setTop (mkF m 18 #[.val (.int p0), .val (.int p1), .val (.int p2), .val (.int p3), .val (.int kd), .unset, .unset, .unset, .unset, .unset, .unset, .unset, .unset] []))
    refine Onw.go (fun own_u kt => XS.iconst X0.here hx rfl (hb hby at_18) kt) ?_
    show Onw p e below _ (s₁.setTop (mkF m 19 #[.val (.int p0), .val (.int p1), .val (.int p2), .val (.int p3), .val (.int kd), .unset, .unset, .unset, .unset, .unset, .unset, .unset, .unset] [(.int (0 : Int32))]))
    refine law_19 (s := s) (vm0 := s.vm) hx hZ hw hby hml hown hEL CH0 hS0 (Nat.zero_le _) p0 p1 p2 p3 kd (0 : Int32) zc fm X0 e0 N0 Z0 S_C hz S_F rf hkd (fun vm1 T' locs' cells' slots' j Ls X' hS' hj' N' hc' hs' => ?_)
    exact Onw.retW X' hS' hj' Bd.notSynchronized (fun h => by rw [Bd.returns] at h; cases h) (fun fs hr => retN X' hx (t := .boolean) Bd.returns (by simp) (hb hby at_503) hr) ⟨rfl, N'⟩ hc' hs'
  · refine Onw.go (fun own_u kt => XS.ifNo X0.here hx rfl (hb hby at_11) rfl ((if0 _ _).trans (feq (hmu : ¬ ((((p0.toUInt32 >>> ((3 : Int32) &&& 31).toUInt32).toInt32) &&& (1 : Int32)) = (0 : Int32)))).1) kt) ?_
    show Onw p e below _ (s₁.setTop (mkF m 14 #[.val (.int p0), .val (.int p1), .val (.int p2), .val (.int p3), .val (.int kd), .unset, .unset, .unset, .unset, .unset, .unset, .unset, .unset] []))
    refine Onw.go (fun own_u kt => XS.iconst X0.here hx rfl (hb hby at_14) kt) ?_
    show Onw p e below _ (s₁.setTop (mkF m 15 #[.val (.int p0), .val (.int p1), .val (.int p2), .val (.int p3), .val (.int kd), .unset, .unset, .unset, .unset, .unset, .unset, .unset, .unset] [(.int (1 : Int32))]))
    refine Onw.go (fun own_u kt => XS.goto X0.here hx rfl (pc0 := 15) (pc' := 19) rfl (hb hby at_15) (by decide) (by decide) kt) ?_
    show Onw p e below _ (s₁.setTop (mkF m 19 #[.val (.int p0), .val (.int p1), .val (.int p2), .val (.int p3), .val (.int kd), .unset, .unset, .unset, .unset, .unset, .unset, .unset, .unset] [(.int (1 : Int32))]))
    refine law_19 (s := s) (vm0 := s.vm) hx hZ hw hby hml hown hEL CH0 hS0 (Nat.zero_le _) p0 p1 p2 p3 kd (1 : Int32) zc fm X0 e0 N0 Z0 S_C hz S_F rf hkd (fun vm1 T' locs' cells' slots' j Ls X' hS' hj' N' hc' hs' => ?_)
    exact Onw.retW X' hS' hj' Bd.notSynchronized (fun h => by rw [Bd.returns] at h; cases h) (fun fs hr => retN X' hx (t := .boolean) Bd.returns (by simp) (hb hby at_503) hr) ⟨rfl, N'⟩ hc' hs'
set_option maxRecDepth 65536 in
set_option maxHeartbeats 40000000 in
theorem comes_1 {Post : Tables → Env → Array Value → State → Outcome → State → Prop} (hpost : ∀ tb e args s v u, (limb_1_1.after args s (.returned v) u = true ∧ limb_1_2.after args s (.returned v) u = true ∧ True) → ReturnedEndW s (.returned v) u (Jvm.fieldLocs frame_1_writes args s ++ Jvm.arrayLocs frame_1_arrays args s ++ Jvm.staticLocs frame_1_statics s) 24 5312 → Post tb e args s (.returned v) u) :
    ArmFor flags0 classFile x code maxLocals ret World_1 tables_1 room_1 Calls_1 rest_1 Pre_1 Post := by
  intro l hfl _ _ p e ha hc hk s m args below hf hA hF happ hP
  obtain ⟨hcalls, hrest, hpre⟩ := hP
  obtain ⟨-, -, -, hnamed, -, -, -, hat⟩ := (Spec.applies_iff hf).mp happ
  obtain ⟨hg, hn⟩ := and_e (Cond.before_iff.mp (show (Jvm.Cond.and given_1 narrow_1).before args s = true from hpre))
  obtain ⟨g1, g2⟩ := and_e hg
  obtain ⟨g3, g4⟩ := and_e g2
  obtain ⟨g5, g6⟩ := and_e g4
  obtain ⟨g7, g8⟩ := and_e g6
  obtain ⟨w0, w1, w2, w3, rfl⟩ : ∃ w0 w1 w2 w3 : Value, args = #[w0, w1, w2, w3] := by
    have hs : args.size = 4 := by simpa [Cond.value, given_1] using g1
    obtain ⟨L⟩ := args
    match L, hs with
    | [w0, w1, w2, w3], _ => exact ⟨w0, w1, w2, w3, rfl⟩
  have hw := fun d (hd : d ∈ tables_1) => atoms_spec (ws := Jvm.Cond.code x code maxLocals ret :: tables_1) hat d (List.mem_cons_of_mem _ hd)
  have hfit : Fit s := fun {y c} hc i hi => by
    obtain ⟨ha, rfl⟩ := Array.getElem?_eq_some_iff.mp hc
    have q := List.all_eq_true.mp ((Array.all_eq_true_iff_forall_mem.mp hF) _ (Array.getElem_mem ha)) i (List.mem_range.mpr hi)
    simpa [Array.getElem?_eq_getElem hi] using q
  obtain ⟨hsets, hown0⟩ := atoms_of _ (rest_1_c_eq ▸ (show rest_1_c.before _ s = true from hrest))
  have hr0 := Cond.before_iff.mp hown0
  obtain ⟨i0, ei0⟩ := is_v g3
  obtain rfl : w0 = (.int i0) := Option.some.inj ei0
  obtain ⟨i1, ei1⟩ := is_v g5
  obtain rfl : w1 = (.int i1) := Option.some.inj ei1
  obtain ⟨i2, ei2⟩ := is_v g7
  obtain rfl : w2 = (.int i2) := Option.some.inj ei2
  obtain ⟨i3, ei3⟩ := is_v g8
  obtain rfl : w3 = (.int i3) := Option.some.inj ei3
  have n3 := not_v (Cond.before_iff.mp (hsets _ (List.mem_of_getElem? (i := 2) rfl)))
  obtain ⟨zc, ezc⟩ := is_v (Cond.before_iff.mp (hsets _ (List.mem_of_getElem? (i := 1) rfl)))
  have S_C := Sta.start ezc (Or.inl (hsets _ (List.mem_of_getElem? (i := 0) rfl)))
  have hz : ¬ (zc = (0 : Int32)) := gotF (Cond.eq_ints ezc (Term.int_eval (0))) n3
  obtain ⟨fm, efm, rf⟩ := isR_v (Cond.before_iff.mp (hsets _ (List.mem_of_getElem? (i := 8) rfl)))
  have S_F := Sta.start efm (Or.inl (hsets _ (List.mem_of_getElem? (i := 7) rfl)))
  have hd1 : ∀ q ∈ own_EL, Jvm.Lit.constHeld s q.1 q.2 := fun q hq => hcalls.1 q hq
  obtain ⟨n, o, h1, h2, h3, _, L, rfl, ⟨rfl, N⟩, hq⟩ := rm0 l s _ hw tables_1 i0 i1 i2 i3 zc fm s.heap s.heap.size (Nat.le_refl _) S_C hz S_F rf hd1 (hsets _ (List.mem_of_getElem? (i := 2) rfl)) p e ha hc hk s m _ below hf ((Spec.applies_iff_loose hf).mp happ).1 ⟨rfl, State.Warmed39.refl s, rfl, rfl⟩ trivial
  refine ⟨n, _, h1, h2, h3, hpost _ _ _ _ _ _ ⟨Cond.after_iff.mpr rfl, Cond.after_iff.mpr (eq_i res_at (Term.int_eval (1)) rfl), trivial⟩ ⟨hq.1, hq.2.1, hq.2.2.1, (hq.2.2.2.sift fun y hy => Or.inr (N y hy)).mono (by decide) (by decide)⟩⟩
theorem main_1_1 : Claimed_1_1 := comes_1 fun _ _ _ _ _ _ h hF => ⟨h.1, hF⟩
theorem main_1_2 : Claimed_1_2 := comes_1 fun _ _ _ _ _ _ h hF => ⟨h.2.1, hF⟩
end Jvm.Pilot.@@N@@
namespace Jvm.Pilot.@@N@@
open Jvm Jvm.ClassFile Sem Op Lib Jvm.Free Jvm.Stand Jvm.Pilot.@@N@@.Jvm.D
/-! MADE BY PROGRAM (witnessworld.py) out of the Statement's table words and the real class files: 20 classes; the members and pool entries that the words name. The judged class is class 1, her method 1. -/
namespace start1
open Jvm.ClassFile
def u (s : String) : CpInfo := .utf8 (stringToUtf16 s)
/-- a pool by its gaps: so many unusable entries, then the entry; so many at the end -/
def gap : Nat → List CpInfo → List CpInfo
  | 0, r => r
  | n + 1, r => .unusable :: gap n r
def poolList (es : List (Nat × CpInfo)) (last : Nat) : List CpInfo := es.foldr (fun e r => gap e.1 (e.2 :: r)) (gap last [])
def pool (es : List (Nat × CpInfo)) (last : Nat) : Array CpInfo := ⟨poolList es last⟩
def fileOf (pool : Array CpInfo) (this : Nat) (attrs : Array Attribute := #[]) (ms : Array MethodInfo := #[]) (fl : Nat := 33) (sup : Nat := 0) (ifs : Array Nat := #[]) (fds : Array FieldInfo := #[]) : ClassFile where
  minorVersion := 0
  majorVersion := 65
  constantPool := pool
  accessFlags := fl
  thisClass := this
  superClass := sup
  interfaces := ifs
  fields := fds
  methods := ms
  attributes := attrs
def plain (name : String) (sup : Option ClassId) : Class where
  name := name
  kind := .ordinary
  loader := none
  accessFlags := 33
  super := sup
  interfaces := #[]
  cf := none
  fields := #[]
  methods := #[]
  instanceTypes := #[]
  staticTypes := #[]
  resolved := #[]
  callSites := []
  init := .initialized
  statics := none
  mirror := none

def pool0 : Array CpInfo := pool [(5, u "<init>"), (0, u "()V"), (1, .class_ 10), (1, u "java/lang/Object")] 113

def k0c0 : Code := { maxStack := 0, maxLocals := 1, code := object_method_1_code, exceptionTable := #[], attributes := #[] }
def k0m0 : Method := { name := "<init>", desc := "()V", sig := { parameters := [], returnType := none }, accessFlags := 1, code := some k0c0 }
/-- java/lang/Object -/
def k0 : Class := { plain "java/lang/Object" none with
  accessFlags := 33
  interfaces := #[]
  cf := some (fileOf pool0 8 #[] #[{ accessFlags := 1, nameIndex := 5, descriptorIndex := 6, attributes := #[] }] 33 0 #[] #[])
  fields := #[]
  methods := #[k0m0]
  instanceTypes := #[]
  staticTypes := #[]
  resolved := Array.replicate 124 none
  statics := none }

def pool1 : Array CpInfo := pool [(2, .class_ 4), (1, u "java/lang/Object"), (0, u "<init>"), (0, u "()V"), (0, .string 8), (0, u "-v"), (0, .string 10), (0, u "--verbose"), (0, .integer 2147483647), (0, .methodref 13 14), (0, .class_ 15), (0, .nameAndType 16 17), (0, u "java/lang/String"), (0, u "charAt"), (0, u "(I)C"), (0, .methodref 13 19), (0, .nameAndType 5 20), (0, u "([C)V"), (0, .methodref 22 23), (0, .class_ 24), (0, .nameAndType 25 26), (0, u "com/example/clockwise/clockwise/Logging"), (0, u "isSwitch"), (0, u "(Ljava/lang/String;)Z"), (0, .class_ 28), (0, u "com/example/clockwise/clockwise/LoggingIsSwitchPinLaw"), (2, u "law"), (0, u "(IIII)Z")] 5

def k1m0 : Method := { name := "<init>", desc := "()V", sig := { parameters := [], returnType := none }, accessFlags := 1, code := none }
def k1c1 : Code := { maxStack := 4, maxLocals := 13, code := code, exceptionTable := #[], attributes := #[] }
def k1m1 : Method := { name := "law", desc := "(IIII)Z", sig := { parameters := [.int, .int, .int, .int], returnType := some .boolean }, accessFlags := 9, code := some k1c1 }
/-- com/example/clockwise/clockwise/LoggingIsSwitchPinLaw -/
def k1 : Class := { plain "com/example/clockwise/clockwise/LoggingIsSwitchPinLaw" (some 0) with
  accessFlags := 49
  interfaces := #[]
  cf := some (fileOf pool1 27 #[] #[{ accessFlags := 1, nameIndex := 5, descriptorIndex := 6, attributes := #[] }, { accessFlags := 9, nameIndex := 31, descriptorIndex := 32, attributes := #[] }] 49 2 #[] #[])
  fields := #[]
  methods := #[k1m0, k1m1]
  instanceTypes := #[]
  staticTypes := #[]
  resolved := Array.replicate 38 none
  statics := none }

def pool2 : Array CpInfo := pool [(1, .class_ 2), (0, u "java/io/Serializable"), (0, .class_ 4), (0, u "java/lang/Object")] 2

/-- java/io/Serializable -/
def k2 : Class := { plain "java/io/Serializable" (some 0) with
  accessFlags := 1537
  interfaces := #[]
  cf := some (fileOf pool2 1 #[] #[] 1537 3 #[] #[])
  fields := #[]
  methods := #[]
  instanceTypes := #[]
  staticTypes := #[]
  resolved := Array.replicate 7 none
  statics := none }

def pool3 : Array CpInfo := pool [(1, .class_ 2), (0, u "java/lang/Comparable"), (0, .class_ 4), (0, u "java/lang/Object")] 7

/-- java/lang/Comparable -/
def k3 : Class := { plain "java/lang/Comparable" (some 0) with
  accessFlags := 1537
  interfaces := #[]
  cf := some (fileOf pool3 1 #[] #[] 1537 3 #[] #[])
  fields := #[]
  methods := #[]
  instanceTypes := #[]
  staticTypes := #[]
  resolved := Array.replicate 12 none
  statics := none }

def pool4 : Array CpInfo := pool [(2, .class_ 4), (1, u "java/lang/CharSequence"), (42, .class_ 48), (0, u "java/lang/CharSequence$1CodePointIterator"), (10, .class_ 60), (0, u "java/lang/CharSequence$1CharIterator"), (5, .class_ 67), (0, u "java/lang/Object")] 63

/-- java/lang/CharSequence -/
def k4 : Class := { plain "java/lang/CharSequence" (some 0) with
  accessFlags := 1537
  interfaces := #[]
  cf := some (fileOf pool4 2 #[.nestMembers #[47, 59]] #[] 1537 66 #[] #[])
  fields := #[]
  methods := #[]
  instanceTypes := #[]
  staticTypes := #[]
  resolved := Array.replicate 131 none
  statics := none }

def pool5 : Array CpInfo := pool [(1, .class_ 2), (0, u "java/lang/constant/Constable"), (0, .class_ 4), (0, u "java/lang/Object")] 6

/-- java/lang/constant/Constable -/
def k5 : Class := { plain "java/lang/constant/Constable" (some 0) with
  accessFlags := 1537
  interfaces := #[]
  cf := some (fileOf pool5 1 #[] #[] 1537 3 #[] #[])
  fields := #[]
  methods := #[]
  instanceTypes := #[]
  staticTypes := #[]
  resolved := Array.replicate 11 none
  statics := none }

def pool6 : Array CpInfo := pool [(1, .class_ 2), (0, u "java/lang/constant/ConstantDesc"), (0, .class_ 4), (0, u "java/lang/Object")] 32

/-- java/lang/constant/ConstantDesc -/
def k6 : Class := { plain "java/lang/constant/ConstantDesc" (some 0) with
  accessFlags := 1537
  interfaces := #[]
  cf := some (fileOf pool6 1 #[] #[] 1537 3 #[] #[])
  fields := #[]
  methods := #[]
  instanceTypes := #[]
  staticTypes := #[]
  resolved := Array.replicate 37 none
  statics := none }

def pool7 : Array CpInfo := pool [(1, .methodref 2 3), (0, .class_ 4), (0, .nameAndType 5 6), (0, u "java/lang/Object"), (0, u "<init>"), (0, u "()V"), (0, .string 8), (0, u ""), (0, .fieldref 10 11), (0, .class_ 12), (0, .nameAndType 13 14), (0, u "java/lang/String"), (0, u "value"), (0, u "[B"), (0, .fieldref 10 16), (0, .nameAndType 17 18), (0, u "coder"), (0, u "B"), (2, u "hash"), (0, u "I"), (2, u "hashIsZero"), (0, u "Z"), (0, .methodref 10 28), (0, .nameAndType 5 29), (0, u "([CIILjava/lang/Void;)V"), (8, .fieldref 10 39), (0, .nameAndType 40 26), (0, u "COMPACT_STRINGS"), (1, .class_ 44), (1, u "java/lang/StringUTF16"), (0, u "compress"), (1, .methodref 42 48), (0, .nameAndType 49 50), (0, u "coderFromArrayLen"), (0, u "([BI)B"), (56, .class_ 109), (1, u "java/lang/StringLatin1"), (32, u "()Z"), (34, .methodref 42 178), (0, .nameAndType 45 179), (0, u "([CII)[B"), (183, u "([BI)C"), (27, u "(II)V"), (35, u "(I)C"), (64, .methodref 10 493), (0, .nameAndType 494 142), (0, u "isLatin1"), (0, .methodref 107 496), (0, .nameAndType 497 363), (0, u "charAt"), (3, u "checkIndex"), (39, .methodref 107 542), (0, .nameAndType 543 544), (0, u "equals"), (0, u "([B[B)Z"), (28, u "(Ljava/lang/Object;)Z"), (1, .class_ 576), (0, u "java/lang/CharSequence"), (22, u "CASE_INSENSITIVE_ORDER"), (0, u "Ljava/util/Comparator;"), (409, u "([C)V"), (42, .fieldref 1054 1055), (0, .class_ 1056), (0, .nameAndType 1057 1058), (0, u "jdk/internal/util/Preconditions"), (0, u "SIOOBE_FORMATTER"), (0, u "Ljava/util/function/BiFunction;"), (0, .methodref 1054 1060), (0, .nameAndType 501 1061), (0, u "(IILjava/util/function/BiFunction;)I"), (39, u "serialPersistentFields"), (0, u "[Ljava/io/ObjectStreamField;"), (0, .class_ 1104), (0, u "java/lang/String$CaseInsensitiveComparator"), (1, .class_ 1107), (0, u "java/io/Serializable"), (0, .class_ 1109), (0, u "java/lang/Comparable"), (0, .class_ 1111), (0, u "java/lang/constant/Constable"), (0, .class_ 1113), (0, u "java/lang/constant/ConstantDesc"), (2, u "serialVersionUID"), (0, u "J"), (3, u "REPL"), (0, u "C"), (2, u "LATIN1"), (1, u "UTF16")] 323

def k7m0 : Method := { name := "<init>", desc := "()V", sig := { parameters := [], returnType := none }, accessFlags := 1, code := none }
def k7c1 : Code := { maxStack := 5, maxLocals := 2, code := jdk_42_method_3_code, exceptionTable := #[], attributes := #[] }
def k7m1 : Method := { name := "<init>", desc := "([C)V", sig := { parameters := [(.array .char)], returnType := none }, accessFlags := 1, code := some k7c1 }
def k7c2 : Code := { maxStack := 2, maxLocals := 2, code := jdk_42_method_56_code, exceptionTable := #[], attributes := #[] }
def k7m2 : Method := { name := "charAt", desc := "(I)C", sig := { parameters := [.int], returnType := some .char }, accessFlags := 1, code := some k7c2 }
def k7c3 : Code := { maxStack := 2, maxLocals := 3, code := jdk_42_method_66_code, exceptionTable := #[], attributes := #[] }
def k7m3 : Method := { name := "equals", desc := "(Ljava/lang/Object;)Z", sig := { parameters := [(.object "java/lang/Object")], returnType := some .boolean }, accessFlags := 1, code := some k7c3 }
def k7c4 : Code := { maxStack := 4, maxLocals := 6, code := jdk_42_method_149_code, exceptionTable := #[], attributes := #[] }
def k7m4 : Method := { name := "<init>", desc := "([CIILjava/lang/Void;)V", sig := { parameters := [(.array .char), .int, .int, (.object "java/lang/Void")], returnType := none }, accessFlags := 2, code := some k7c4 }
def k7c5 : Code := { maxStack := 1, maxLocals := 1, code := jdk_42_method_154_code, exceptionTable := #[], attributes := #[] }
def k7m5 : Method := { name := "isLatin1", desc := "()Z", sig := { parameters := [], returnType := some .boolean }, accessFlags := 0, code := some k7c5 }
def k7c6 : Code := { maxStack := 3, maxLocals := 2, code := jdk_42_method_155_code, exceptionTable := #[], attributes := #[] }
def k7m6 : Method := { name := "checkIndex", desc := "(II)V", sig := { parameters := [.int, .int], returnType := none }, accessFlags := 8, code := some k7c6 }
/-- java/lang/String -/
def k7 : Class := { plain "java/lang/String" (some 0) with
  accessFlags := 49
  interfaces := #[2, 3, 4, 5, 6]
  cf := some (fileOf pool7 10 #[.nestMembers #[1103]] #[{ accessFlags := 1, nameIndex := 5, descriptorIndex := 6, attributes := #[] }, { accessFlags := 1, nameIndex := 5, descriptorIndex := 1010, attributes := #[] }, { accessFlags := 1, nameIndex := 497, descriptorIndex := 427, attributes := #[] }, { accessFlags := 1, nameIndex := 543, descriptorIndex := 573, attributes := #[] }, { accessFlags := 2, nameIndex := 5, descriptorIndex := 29, attributes := #[] }, { accessFlags := 0, nameIndex := 494, descriptorIndex := 142, attributes := #[] }, { accessFlags := 8, nameIndex := 501, descriptorIndex := 391, attributes := #[] }] 49 2 #[1106, 1108, 575, 1110, 1112] #[{ accessFlags := 18, nameIndex := 13, descriptorIndex := 14, attributes := #[] }, { accessFlags := 18, nameIndex := 17, descriptorIndex := 18, attributes := #[] }, { accessFlags := 2, nameIndex := 21, descriptorIndex := 22, attributes := #[] }, { accessFlags := 2, nameIndex := 25, descriptorIndex := 26, attributes := #[] }, { accessFlags := 26, nameIndex := 1116, descriptorIndex := 1117, attributes := #[] }, { accessFlags := 24, nameIndex := 40, descriptorIndex := 26, attributes := #[] }, { accessFlags := 26, nameIndex := 1101, descriptorIndex := 1102, attributes := #[] }, { accessFlags := 26, nameIndex := 1121, descriptorIndex := 1122, attributes := #[] }, { accessFlags := 25, nameIndex := 599, descriptorIndex := 600, attributes := #[] }, { accessFlags := 24, nameIndex := 1125, descriptorIndex := 18, attributes := #[] }, { accessFlags := 24, nameIndex := 1127, descriptorIndex := 18, attributes := #[] }])
  fields := #[{ name := "value", type := (.array .byte), accessFlags := 18, slot := 0, constantValue := 0 }, { name := "coder", type := .byte, accessFlags := 18, slot := 1, constantValue := 0 }, { name := "hash", type := .int, accessFlags := 2, slot := 2, constantValue := 0 }, { name := "hashIsZero", type := .boolean, accessFlags := 2, slot := 3, constantValue := 0 }, { name := "serialVersionUID", type := .long, accessFlags := 26, slot := 0, constantValue := 0 }, { name := "COMPACT_STRINGS", type := .boolean, accessFlags := 24, slot := 1, constantValue := 0 }, { name := "serialPersistentFields", type := (.array (.object "java/io/ObjectStreamField")), accessFlags := 26, slot := 2, constantValue := 0 }, { name := "REPL", type := .char, accessFlags := 26, slot := 3, constantValue := 0 }, { name := "CASE_INSENSITIVE_ORDER", type := (.object "java/util/Comparator"), accessFlags := 25, slot := 4, constantValue := 0 }, { name := "LATIN1", type := .byte, accessFlags := 24, slot := 5, constantValue := 0 }, { name := "UTF16", type := .byte, accessFlags := 24, slot := 6, constantValue := 0 }]
  methods := #[k7m0, k7m1, k7m2, k7m3, k7m4, k7m5, k7m6]
  instanceTypes := #[(.array .byte), .byte, .int, .boolean]
  staticTypes := #[.long, .boolean, (.array (.object "java/io/ObjectStreamField")), .char, (.object "java/util/Comparator"), .byte, .byte]
  resolved := Array.replicate 1451 none
  statics := some 0 }

def pool8 : Array CpInfo := pool [(6, .class_ 8), (1, u "java/lang/Object"), (0, u "<init>"), (0, u "()V"), (1, .class_ 14), (1, u "java/lang/StringUTF16"), (31, u "$assertionsDisabled"), (0, u "Z"), (13, u "HI_BYTE_SHIFT"), (0, u "I"), (2, u "LO_BYTE_SHIFT"), (49, .methodref 12 116), (0, .nameAndType 117 118), (0, u "compress"), (0, u "([CI[BII)I"), (3, u "([CII)[B"), (138, u "coderFromArrayLen"), (0, u "([BI)B"), (106, .class_ 371), (1, u "java/lang/StringUTF16$LinesSpliterator"), (58, u "MAX_LENGTH"), (196, .class_ 628), (0, u "java/lang/StringUTF16$CodePointsSpliterator"), (0, .class_ 630), (0, u "java/lang/StringUTF16$CharsSpliterator")] 4

def k8m0 : Method := { name := "<init>", desc := "()V", sig := { parameters := [], returnType := none }, accessFlags := 0, code := none }
def k8c1 : Code := { maxStack := 2, maxLocals := 2, code := jdk_52_method_15_code, exceptionTable := #[], attributes := #[] }
def k8m1 : Method := { name := "coderFromArrayLen", desc := "([BI)B", sig := { parameters := [(.array .byte), .int], returnType := some .byte }, accessFlags := 8, code := some k8c1 }
def k8c2 : Code := { maxStack := 5, maxLocals := 6, code := jdk_52_method_16_code, exceptionTable := #[], attributes := #[] }
def k8m2 : Method := { name := "compress", desc := "([CII)[B", sig := { parameters := [(.array .char), .int, .int], returnType := some (.array .byte) }, accessFlags := 9, code := some k8c2 }
def k8c3 : Code := { maxStack := 3, maxLocals := 7, code := jdk_52_method_21_code, exceptionTable := #[], attributes := #[] }
def k8m3 : Method := { name := "compress", desc := "([CI[BII)I", sig := { parameters := [(.array .char), .int, (.array .byte), .int, .int], returnType := some .int }, accessFlags := 9, code := some k8c3 }
/-- java/lang/StringUTF16 -/
def k8 : Class := { plain "java/lang/StringUTF16" (some 0) with
  accessFlags := 48
  interfaces := #[]
  cf := some (fileOf pool8 12 #[.nestMembers #[627, 629, 369]] #[{ accessFlags := 0, nameIndex := 9, descriptorIndex := 10, attributes := #[] }, { accessFlags := 8, nameIndex := 261, descriptorIndex := 262, attributes := #[] }, { accessFlags := 9, nameIndex := 117, descriptorIndex := 122, attributes := #[] }, { accessFlags := 9, nameIndex := 117, descriptorIndex := 118, attributes := #[] }] 48 6 #[] #[{ accessFlags := 26, nameIndex := 61, descriptorIndex := 62, attributes := #[] }, { accessFlags := 26, nameIndex := 65, descriptorIndex := 62, attributes := #[] }, { accessFlags := 24, nameIndex := 430, descriptorIndex := 62, attributes := #[] }, { accessFlags := 4120, nameIndex := 46, descriptorIndex := 47, attributes := #[] }])
  fields := #[{ name := "HI_BYTE_SHIFT", type := .int, accessFlags := 26, slot := 0, constantValue := 0 }, { name := "LO_BYTE_SHIFT", type := .int, accessFlags := 26, slot := 1, constantValue := 0 }, { name := "MAX_LENGTH", type := .int, accessFlags := 24, slot := 2, constantValue := 0 }, { name := "$assertionsDisabled", type := .boolean, accessFlags := 4120, slot := 3, constantValue := 0 }]
  methods := #[k8m0, k8m1, k8m2, k8m3]
  instanceTypes := #[]
  staticTypes := #[.int, .int, .int, .boolean]
  resolved := Array.replicate 635 none
  statics := none }

def pool9 : Array CpInfo := pool [(2, .class_ 4), (1, u "java/lang/Object"), (0, u "<init>"), (0, u "()V"), (0, .class_ 8), (0, u "com/example/clockwise/clockwise/Logging"), (0, .string 10), (0, u "--verbose"), (0, .methodref 12 13), (0, .class_ 14), (0, .nameAndType 15 16), (0, u "java/lang/String"), (0, u "equals"), (0, u "(Ljava/lang/Object;)Z"), (0, .string 18), (0, u "-v"), (12, u "verbose"), (0, u "Z"), (8, .class_ 42), (0, u "com/example/clockwise/clockwise/Logging$Route"), (9, u "VERBOSE"), (0, u "Ljava/lang/String;"), (1, u "VERBOSE_SHORT"), (0, u "LEVEL"), (2, u "isSwitch"), (0, u "(Ljava/lang/String;)Z")] 9

def k9m0 : Method := { name := "<init>", desc := "()V", sig := { parameters := [], returnType := none }, accessFlags := 2, code := none }
def k9c1 : Code := { maxStack := 2, maxLocals := 1, code := prog_26_method_2_code, exceptionTable := #[], attributes := #[] }
def k9m1 : Method := { name := "isSwitch", desc := "(Ljava/lang/String;)Z", sig := { parameters := [(.object "java/lang/String")], returnType := some .boolean }, accessFlags := 8, code := some k9c1 }
/-- com/example/clockwise/clockwise/Logging -/
def k9 : Class := { plain "com/example/clockwise/clockwise/Logging" (some 0) with
  accessFlags := 48
  interfaces := #[]
  cf := some (fileOf pool9 7 #[.nestMembers #[41]] #[{ accessFlags := 2, nameIndex := 5, descriptorIndex := 6, attributes := #[] }, { accessFlags := 8, nameIndex := 59, descriptorIndex := 60, attributes := #[] }] 48 2 #[] #[{ accessFlags := 24, nameIndex := 52, descriptorIndex := 53, attributes := #[] }, { accessFlags := 24, nameIndex := 55, descriptorIndex := 53, attributes := #[] }, { accessFlags := 26, nameIndex := 56, descriptorIndex := 53, attributes := #[] }, { accessFlags := 74, nameIndex := 31, descriptorIndex := 32, attributes := #[] }])
  fields := #[{ name := "VERBOSE", type := (.object "java/lang/String"), accessFlags := 24, slot := 0, constantValue := 0 }, { name := "VERBOSE_SHORT", type := (.object "java/lang/String"), accessFlags := 24, slot := 1, constantValue := 0 }, { name := "LEVEL", type := (.object "java/lang/String"), accessFlags := 26, slot := 2, constantValue := 0 }, { name := "verbose", type := .boolean, accessFlags := 74, slot := 3, constantValue := 0 }]
  methods := #[k9m0, k9m1]
  instanceTypes := #[]
  staticTypes := #[(.object "java/lang/String"), (.object "java/lang/String"), (.object "java/lang/String"), .boolean]
  resolved := Array.replicate 70 none
  statics := none }

def pool10 : Array CpInfo := pool [(1, .class_ 2), (0, u "java/lang/String"), (1, .class_ 6), (1, u "java/lang/Object"), (0, u "<init>"), (0, u "()V"), (0, .methodref 1 10), (0, .nameAndType 11 12), (0, u "checkIndex"), (0, u "(II)V"), (1, .class_ 16), (1, u "java/lang/StringLatin1"), (36, u "([BI)C"), (67, u "$assertionsDisabled"), (0, u "Z"), (98, .class_ 223), (1, u "java/lang/StringLatin1$LinesSpliterator"), (28, u "charAt"), (28, u "equals"), (0, u "([B[B)Z"), (107, .class_ 391), (0, u "java/lang/StringLatin1$CharsSpliterator")] 3

def k10m0 : Method := { name := "<init>", desc := "()V", sig := { parameters := [], returnType := none }, accessFlags := 0, code := none }
def k10c1 : Code := { maxStack := 2, maxLocals := 2, code := jdk_43_method_2_code, exceptionTable := #[], attributes := #[] }
def k10m1 : Method := { name := "charAt", desc := "([BI)C", sig := { parameters := [(.array .byte), .int], returnType := some .char }, accessFlags := 9, code := some k10c1 }
def k10c2 : Code := { maxStack := 3, maxLocals := 3, code := jdk_43_method_13_code, exceptionTable := #[], attributes := #[] }
def k10m2 : Method := { name := "equals", desc := "([B[B)Z", sig := { parameters := [(.array .byte), (.array .byte)], returnType := some .boolean }, accessFlags := 9, code := some k10c2 }
/-- java/lang/StringLatin1 -/
def k10 : Class := { plain "java/lang/StringLatin1" (some 0) with
  accessFlags := 48
  interfaces := #[]
  cf := some (fileOf pool10 14 #[.nestMembers #[390, 221]] #[{ accessFlags := 0, nameIndex := 7, descriptorIndex := 8, attributes := #[] }, { accessFlags := 9, nameIndex := 252, descriptorIndex := 53, attributes := #[] }, { accessFlags := 9, nameIndex := 281, descriptorIndex := 282, attributes := #[] }] 48 4 #[] #[{ accessFlags := 4120, nameIndex := 121, descriptorIndex := 122, attributes := #[] }])
  fields := #[{ name := "$assertionsDisabled", type := .boolean, accessFlags := 4120, slot := 0, constantValue := 0 }]
  methods := #[k10m0, k10m1, k10m2]
  instanceTypes := #[]
  staticTypes := #[.boolean]
  resolved := Array.replicate 395 none
  statics := none }

def pool11 : Array CpInfo := pool [(2, .class_ 4), (1, u "java/lang/Object"), (0, u "<init>"), (0, u "()V"), (17, .class_ 26), (1, u "jdk/internal/util/Preconditions"), (6, u "checkIndex"), (21, .class_ 56), (0, u "jdk/internal/util/Preconditions$4"), (57, .class_ 115), (0, u "jdk/internal/util/Preconditions$1"), (7, u "SIOOBE_FORMATTER"), (0, u "Ljava/util/function/BiFunction;"), (0, .class_ 126), (0, u "jdk/internal/util/Preconditions$2"), (3, u "AIOOBE_FORMATTER"), (0, .class_ 132), (0, u "jdk/internal/util/Preconditions$3"), (3, u "IOOBE_FORMATTER"), (41, u "(IILjava/util/function/BiFunction;)I")] 15

def k11m0 : Method := { name := "<init>", desc := "()V", sig := { parameters := [], returnType := none }, accessFlags := 1, code := none }
def k11c1 : Code := { maxStack := 3, maxLocals := 3, code := jdk_41_method_11_code, exceptionTable := #[], attributes := #[] }
def k11m1 : Method := { name := "checkIndex", desc := "(IILjava/util/function/BiFunction;)I", sig := { parameters := [.int, .int, (.object "java/util/function/BiFunction")], returnType := some .int }, accessFlags := 9, code := some k11c1 }
/-- jdk/internal/util/Preconditions -/
def k11 : Class := { plain "jdk/internal/util/Preconditions" (some 0) with
  accessFlags := 33
  interfaces := #[]
  cf := some (fileOf pool11 24 #[.nestMembers #[55, 131, 125, 114]] #[{ accessFlags := 1, nameIndex := 5, descriptorIndex := 6, attributes := #[] }, { accessFlags := 9, nameIndex := 33, descriptorIndex := 178, attributes := #[] }] 33 2 #[] #[{ accessFlags := 25, nameIndex := 123, descriptorIndex := 124, attributes := #[] }, { accessFlags := 25, nameIndex := 130, descriptorIndex := 124, attributes := #[] }, { accessFlags := 25, nameIndex := 136, descriptorIndex := 124, attributes := #[] }])
  fields := #[{ name := "SIOOBE_FORMATTER", type := (.object "java/util/function/BiFunction"), accessFlags := 25, slot := 0, constantValue := 0 }, { name := "AIOOBE_FORMATTER", type := (.object "java/util/function/BiFunction"), accessFlags := 25, slot := 1, constantValue := 0 }, { name := "IOOBE_FORMATTER", type := (.object "java/util/function/BiFunction"), accessFlags := 25, slot := 2, constantValue := 0 }]
  methods := #[k11m0, k11m1]
  instanceTypes := #[]
  staticTypes := #[(.object "java/util/function/BiFunction"), (.object "java/util/function/BiFunction"), (.object "java/util/function/BiFunction")]
  resolved := Array.replicate 194 none
  statics := some 1 }

def pool12 : Array CpInfo := pool [(9, u "<init>"), (6, .class_ 18), (1, u "java/lang/Object"), (0, u "()V"), (1, .class_ 23), (1, u "jdk/internal/util/ArraysSupport"), (0, u "LOG2_ARRAY_LONG_INDEX_SCALE"), (0, u "I"), (2, u "U"), (0, u "Ljdk/internal/misc/Unsafe;"), (8, u "BIG_ENDIAN"), (0, u "Z"), (8, u "LOG2_BYTE_BIT_SIZE"), (4, u "LOG2_ARRAY_INT_INDEX_SCALE"), (54, u "JLA"), (0, u "Ljdk/internal/access/JavaLangAccess;"), (11, u "LOG2_ARRAY_BOOLEAN_INDEX_SCALE"), (9, u "LOG2_ARRAY_BYTE_INDEX_SCALE"), (5, u "LOG2_ARRAY_CHAR_INDEX_SCALE"), (5, u "LOG2_ARRAY_SHORT_INDEX_SCALE"), (18, u "LOG2_ARRAY_FLOAT_INDEX_SCALE"), (24, u "LOG2_ARRAY_DOUBLE_INDEX_SCALE"), (89, u "T_BOOLEAN"), (2, u "T_CHAR"), (1, u "T_FLOAT"), (1, u "T_DOUBLE"), (1, u "T_BYTE"), (1, u "T_SHORT"), (1, u "T_INT"), (1, u "T_LONG"), (1, u "SOFT_MAX_ARRAY_LENGTH")] 83

def k12m0 : Method := { name := "<init>", desc := "()V", sig := { parameters := [], returnType := none }, accessFlags := 2, code := none }
/-- jdk/internal/util/ArraysSupport -/
def k12 : Class := { plain "jdk/internal/util/ArraysSupport" (some 0) with
  accessFlags := 33
  interfaces := #[]
  cf := some (fileOf pool12 21 #[] #[{ accessFlags := 2, nameIndex := 9, descriptorIndex := 19, attributes := #[] }] 33 16 #[] #[{ accessFlags := 24, nameIndex := 28, descriptorIndex := 29, attributes := #[] }, { accessFlags := 26, nameIndex := 38, descriptorIndex := 39, attributes := #[] }, { accessFlags := 25, nameIndex := 121, descriptorIndex := 25, attributes := #[] }, { accessFlags := 25, nameIndex := 131, descriptorIndex := 25, attributes := #[] }, { accessFlags := 25, nameIndex := 137, descriptorIndex := 25, attributes := #[] }, { accessFlags := 25, nameIndex := 143, descriptorIndex := 25, attributes := #[] }, { accessFlags := 25, nameIndex := 53, descriptorIndex := 25, attributes := #[] }, { accessFlags := 25, nameIndex := 24, descriptorIndex := 25, attributes := #[] }, { accessFlags := 25, nameIndex := 162, descriptorIndex := 25, attributes := #[] }, { accessFlags := 25, nameIndex := 187, descriptorIndex := 25, attributes := #[] }, { accessFlags := 26, nameIndex := 48, descriptorIndex := 25, attributes := #[] }, { accessFlags := 25, nameIndex := 277, descriptorIndex := 25, attributes := #[] }, { accessFlags := 25, nameIndex := 280, descriptorIndex := 25, attributes := #[] }, { accessFlags := 25, nameIndex := 282, descriptorIndex := 25, attributes := #[] }, { accessFlags := 25, nameIndex := 284, descriptorIndex := 25, attributes := #[] }, { accessFlags := 25, nameIndex := 286, descriptorIndex := 25, attributes := #[] }, { accessFlags := 25, nameIndex := 288, descriptorIndex := 25, attributes := #[] }, { accessFlags := 25, nameIndex := 290, descriptorIndex := 25, attributes := #[] }, { accessFlags := 25, nameIndex := 292, descriptorIndex := 25, attributes := #[] }, { accessFlags := 26, nameIndex := 108, descriptorIndex := 109, attributes := #[] }, { accessFlags := 25, nameIndex := 294, descriptorIndex := 25, attributes := #[] }])
  fields := #[{ name := "U", type := (.object "jdk/internal/misc/Unsafe"), accessFlags := 24, slot := 0, constantValue := 0 }, { name := "BIG_ENDIAN", type := .boolean, accessFlags := 26, slot := 1, constantValue := 0 }, { name := "LOG2_ARRAY_BOOLEAN_INDEX_SCALE", type := .int, accessFlags := 25, slot := 2, constantValue := 0 }, { name := "LOG2_ARRAY_BYTE_INDEX_SCALE", type := .int, accessFlags := 25, slot := 3, constantValue := 0 }, { name := "LOG2_ARRAY_CHAR_INDEX_SCALE", type := .int, accessFlags := 25, slot := 4, constantValue := 0 }, { name := "LOG2_ARRAY_SHORT_INDEX_SCALE", type := .int, accessFlags := 25, slot := 5, constantValue := 0 }, { name := "LOG2_ARRAY_INT_INDEX_SCALE", type := .int, accessFlags := 25, slot := 6, constantValue := 0 }, { name := "LOG2_ARRAY_LONG_INDEX_SCALE", type := .int, accessFlags := 25, slot := 7, constantValue := 0 }, { name := "LOG2_ARRAY_FLOAT_INDEX_SCALE", type := .int, accessFlags := 25, slot := 8, constantValue := 0 }, { name := "LOG2_ARRAY_DOUBLE_INDEX_SCALE", type := .int, accessFlags := 25, slot := 9, constantValue := 0 }, { name := "LOG2_BYTE_BIT_SIZE", type := .int, accessFlags := 26, slot := 10, constantValue := 0 }, { name := "T_BOOLEAN", type := .int, accessFlags := 25, slot := 11, constantValue := 0 }, { name := "T_CHAR", type := .int, accessFlags := 25, slot := 12, constantValue := 0 }, { name := "T_FLOAT", type := .int, accessFlags := 25, slot := 13, constantValue := 0 }, { name := "T_DOUBLE", type := .int, accessFlags := 25, slot := 14, constantValue := 0 }, { name := "T_BYTE", type := .int, accessFlags := 25, slot := 15, constantValue := 0 }, { name := "T_SHORT", type := .int, accessFlags := 25, slot := 16, constantValue := 0 }, { name := "T_INT", type := .int, accessFlags := 25, slot := 17, constantValue := 0 }, { name := "T_LONG", type := .int, accessFlags := 25, slot := 18, constantValue := 0 }, { name := "JLA", type := (.object "jdk/internal/access/JavaLangAccess"), accessFlags := 26, slot := 19, constantValue := 0 }, { name := "SOFT_MAX_ARRAY_LENGTH", type := .int, accessFlags := 25, slot := 20, constantValue := 0 }]
  methods := #[k12m0]
  instanceTypes := #[]
  staticTypes := #[(.object "jdk/internal/misc/Unsafe"), .boolean, .int, .int, .int, .int, .int, .int, .int, .int, .int, .int, .int, .int, .int, .int, .int, .int, .int, (.object "jdk/internal/access/JavaLangAccess"), .int]
  resolved := Array.replicate 378 none
  statics := none }

def pool13 : Array CpInfo := pool [(1, u "java/lang/Cloneable"), (0, .class_ 1), (0, u "java/lang/Object"), (0, .class_ 3)] 3

/-- java/lang/Cloneable -/
def k13 : Class := { plain "java/lang/Cloneable" (some 0) with
  accessFlags := 1537
  interfaces := #[]
  cf := some (fileOf pool13 2 #[] #[] 1537 4 #[] #[])
  fields := #[]
  methods := #[]
  instanceTypes := #[]
  staticTypes := #[]
  resolved := Array.replicate 8 none
  statics := none }

/-- the primitive byte -/
def k14 : Class := { plain "byte" none with kind := .primitive 'B', accessFlags := 0x411 }
/-- [B -/
def k15 : Class := { plain "[B" (some 0) with kind := .array 14 .byte, interfaces := #[13, 2], accessFlags := 1041 }

/-- the primitive char -/
def k16 : Class := { plain "char" none with kind := .primitive 'C', accessFlags := 0x411 }
/-- [C -/
def k17 : Class := { plain "[C" (some 0) with kind := .array 16 .char, interfaces := #[13, 2], accessFlags := 1041 }

/-- the primitive int -/
def k18 : Class := { plain "int" none with kind := .primitive 'I', accessFlags := 0x411 }
/-- [I -/
def k19 : Class := { plain "[I" (some 0) with kind := .array 18 .int, interfaces := #[13, 2], accessFlags := 1041 }

def heap : Heap := #[{ cls := 7, slots := #[.long 0, .int 1, .null, .int 0, .null, .int 0, .int 0], vm := .statics 7 },
  { cls := 11, slots := #[.null, .null, .null], vm := .statics 11 }]
def classes : Array Class := #[k0, k1, k2, k3, k4, k5, k6, k7, k8, k9, k10, k11, k12, k13, k14, k15, k16, k17, k18, k19]
def interned : List (Array UInt16 × Addr) := []
def slotsUsed : Nat := 10
def theMethod : MethodId := ⟨1, 1⟩
def args0 : Array Value := #[.int 5, .int 7, .int 1, .int 2]
def aboutOver (below : List Frame) : State where
  vm := { classes := classes, interned := interned.toArray }
  heap := heap
  slotsUsed := slotsUsed
  threads := #[{ frames := .invoking theMethod args0 :: below }]
def below0 : List Frame := [.native { method := ⟨0, 0⟩, args := #[] }]
def about1 : State := aboutOver below0
def p0 : Program := .bare "" "" ""
def e0 : Env := launch0.env 0 0 0
theorem w_frames : about1.frames = Frame.invoking theMethod args0 :: below0 := rfl
set_option maxRecDepth 65536 in
theorem w_args : argsFit about1.vm theMethod args0 = true := by decide +kernel
set_option maxRecDepth 65536 in
theorem w_heap : heapFits about1 = true := by decide +kernel
set_option maxRecDepth 65536 in
theorem w_runnable : about1.curStatus? = some .runnable := by decide +kernel
set_option maxRecDepth 65536 in
theorem w_alone : about1.alone = true := by decide +kernel
set_option maxRecDepth 65536 in
theorem w_named : about1.methodNamed? x = some theMethod := by decide +kernel
set_option maxRecDepth 65536 in
theorem w_hears : about1.hears theMethod below0 = true := by decide +kernel
set_option maxRecDepth 65536 in
theorem w_ripe : about1.ripe theMethod args0 below0 = true := by decide +kernel
theorem w_running : about1.status = .running := rfl
set_option maxRecDepth 65536 in
theorem w_room : about1.hasRoom e0.platform room_1 = true :=
  launch0.hasRoom_least _ room_1 (by decide +kernel) (by decide +kernel) (by decide +kernel) (by decide +kernel) (by decide +kernel) (by decide +kernel)
theorem allAtoms_all (ts : List Jvm.Cond) (a : Array Jvm.Value) (st : Jvm.State) : (allAtoms ts).before a st = ts.all (fun c => c.before a st) := by
  induction ts with
  | nil => rfl
  | cons c t ih =>
    show (Jvm.Cond.and c (allAtoms t)).before a st = _
    rw [Jvm.Cond.before_and, ih, List.all_cons]
def words1 : List Jvm.Cond := Jvm.Cond.code x code maxLocals ret :: tables_1
/-- a 'code' word, met by the world's own term for the bytes: nothing is compared byte by byte -/
theorem code_word {y : MethodName} {bytes : ByteArray} {mx : Nat} {rt : Option FieldType} {a : Array Value} {s : State} {m : MethodId} {meth : Method} {c : Code} (h1 : s.methodNamed? y = some m) (h2 : s.vm.method? m = some meth) (h3 : meth.code = some c) (h4 : c.code = bytes)
    (h5 : (c.maxLocals == mx && c.exceptionTable.isEmpty && decide (c.maxStack ≤ mostOperands) && decide (meth.sig.returnType = rt) && !meth.locks && decide (parseMethodDescriptor y.desc = some meth.sig)) = true) : (Jvm.Cond.code y bytes mx rt).before a s = true := by
  simp only [Bool.and_eq_true, beq_iff_eq, Bool.not_eq_true', decide_eq_true_eq] at h5
  obtain ⟨⟨⟨⟨⟨g1, g2⟩, g3⟩, g4⟩, g5⟩, g6⟩ := h5
  simp [Cond.before, Cond.holds, Cond.value, h1, h2, h3, h4, g1, g2, g3, g4, g5, g6]
def isCode : Jvm.Cond → Bool
  | .code _ _ _ _ => true
  | _ => false
theorem all_split {L : List Jvm.Cond} {P : Jvm.Cond → Bool} (h1 : L.all (fun c => isCode c || P c) = true) (h2 : ∀ c ∈ L.filter isCode, P c = true) : L.all P = true := by
  refine List.all_eq_true.mpr fun c hc => ?_
  have h := List.all_eq_true.mp h1 c hc
  rcases Bool.eq_false_or_eq_true (isCode c) with hi | hi
  · exact h2 c (List.mem_filter.mpr ⟨hc, hi⟩)
  · simpa [hi] using h
set_option maxRecDepth 65536 in
theorem w_c0 : (Jvm.Cond.code x code maxLocals ret).before args0 about1 = true := code_word (m := ⟨1, 1⟩) (meth := k1m1) (c := k1c1) (by decide +kernel) rfl rfl rfl (by decide +kernel)
set_option maxRecDepth 65536 in
theorem w_c1 : (Jvm.Cond.code ({ cls := "java/lang/String", name := "<init>", desc := "([C)V" } : Jvm.MethodName) jdk_42_method_3_code (2 : Nat) (Option.none : Option Jvm.ClassFile.FieldType)).before args0 about1 = true := code_word (m := ⟨7, 1⟩) (meth := k7m1) (c := k7c1) (by decide +kernel) rfl rfl rfl (by decide +kernel)
set_option maxRecDepth 65536 in
theorem w_c2 : (Jvm.Cond.code ({ cls := "java/lang/String", name := "<init>", desc := "([CIILjava/lang/Void;)V" } : Jvm.MethodName) jdk_42_method_149_code (6 : Nat) (Option.none : Option Jvm.ClassFile.FieldType)).before args0 about1 = true := code_word (m := ⟨7, 4⟩) (meth := k7m4) (c := k7c4) (by decide +kernel) rfl rfl rfl (by decide +kernel)
set_option maxRecDepth 65536 in
theorem w_c3 : (Jvm.Cond.code ({ cls := "java/lang/Object", name := "<init>", desc := "()V" } : Jvm.MethodName) object_method_1_code (1 : Nat) (Option.none : Option Jvm.ClassFile.FieldType)).before args0 about1 = true := code_word (m := ⟨0, 0⟩) (meth := k0m0) (c := k0c0) (by decide +kernel) rfl rfl rfl (by decide +kernel)
set_option maxRecDepth 65536 in
theorem w_c4 : (Jvm.Cond.code ({ cls := "java/lang/StringUTF16", name := "compress", desc := "([CII)[B" } : Jvm.MethodName) jdk_52_method_16_code (6 : Nat) (Option.some (Jvm.ClassFile.FieldType.array Jvm.ClassFile.FieldType.byte))).before args0 about1 = true := code_word (m := ⟨8, 2⟩) (meth := k8m2) (c := k8c2) (by decide +kernel) rfl rfl rfl (by decide +kernel)
set_option maxRecDepth 65536 in
theorem w_c5 : (Jvm.Cond.code ({ cls := "java/lang/StringUTF16", name := "compress", desc := "([CI[BII)I" } : Jvm.MethodName) jdk_52_method_21_code (7 : Nat) (Option.some Jvm.ClassFile.FieldType.int)).before args0 about1 = true := code_word (m := ⟨8, 3⟩) (meth := k8m3) (c := k8c3) (by decide +kernel) rfl rfl rfl (by decide +kernel)
set_option maxRecDepth 65536 in
theorem w_c6 : (Jvm.Cond.code ({ cls := "java/lang/StringUTF16", name := "coderFromArrayLen", desc := "([BI)B" } : Jvm.MethodName) jdk_52_method_15_code (2 : Nat) (Option.some Jvm.ClassFile.FieldType.byte)).before args0 about1 = true := code_word (m := ⟨8, 1⟩) (meth := k8m1) (c := k8c1) (by decide +kernel) rfl rfl rfl (by decide +kernel)
set_option maxRecDepth 65536 in
theorem w_c7 : (Jvm.Cond.code ({ cls := "com/example/clockwise/clockwise/Logging", name := "isSwitch", desc := "(Ljava/lang/String;)Z" } : Jvm.MethodName) prog_26_method_2_code (1 : Nat) (Option.some Jvm.ClassFile.FieldType.boolean)).before args0 about1 = true := code_word (m := ⟨9, 1⟩) (meth := k9m1) (c := k9c1) (by decide +kernel) rfl rfl rfl (by decide +kernel)
set_option maxRecDepth 65536 in
theorem w_c8 : (Jvm.Cond.code ({ cls := "java/lang/String", name := "equals", desc := "(Ljava/lang/Object;)Z" } : Jvm.MethodName) jdk_42_method_66_code (3 : Nat) (Option.some Jvm.ClassFile.FieldType.boolean)).before args0 about1 = true := code_word (m := ⟨7, 3⟩) (meth := k7m3) (c := k7c3) (by decide +kernel) rfl rfl rfl (by decide +kernel)
set_option maxRecDepth 65536 in
theorem w_c9 : (Jvm.Cond.code ({ cls := "java/lang/StringLatin1", name := "equals", desc := "([B[B)Z" } : Jvm.MethodName) jdk_43_method_13_code (3 : Nat) (Option.some Jvm.ClassFile.FieldType.boolean)).before args0 about1 = true := code_word (m := ⟨10, 2⟩) (meth := k10m2) (c := k10c2) (by decide +kernel) rfl rfl rfl (by decide +kernel)
set_option maxRecDepth 65536 in
theorem w_c10 : (Jvm.Cond.code ({ cls := "java/lang/String", name := "charAt", desc := "(I)C" } : Jvm.MethodName) jdk_42_method_56_code (2 : Nat) (Option.some Jvm.ClassFile.FieldType.char)).before args0 about1 = true := code_word (m := ⟨7, 2⟩) (meth := k7m2) (c := k7c2) (by decide +kernel) rfl rfl rfl (by decide +kernel)
set_option maxRecDepth 65536 in
theorem w_c11 : (Jvm.Cond.code ({ cls := "java/lang/String", name := "isLatin1", desc := "()Z" } : Jvm.MethodName) jdk_42_method_154_code (1 : Nat) (Option.some Jvm.ClassFile.FieldType.boolean)).before args0 about1 = true := code_word (m := ⟨7, 5⟩) (meth := k7m5) (c := k7c5) (by decide +kernel) rfl rfl rfl (by decide +kernel)
set_option maxRecDepth 65536 in
theorem w_c12 : (Jvm.Cond.code ({ cls := "java/lang/StringLatin1", name := "charAt", desc := "([BI)C" } : Jvm.MethodName) jdk_43_method_2_code (2 : Nat) (Option.some Jvm.ClassFile.FieldType.char)).before args0 about1 = true := code_word (m := ⟨10, 1⟩) (meth := k10m1) (c := k10c1) (by decide +kernel) rfl rfl rfl (by decide +kernel)
set_option maxRecDepth 65536 in
theorem w_c13 : (Jvm.Cond.code ({ cls := "java/lang/String", name := "checkIndex", desc := "(II)V" } : Jvm.MethodName) jdk_42_method_155_code (2 : Nat) (Option.none : Option Jvm.ClassFile.FieldType)).before args0 about1 = true := code_word (m := ⟨7, 6⟩) (meth := k7m6) (c := k7c6) (by decide +kernel) rfl rfl rfl (by decide +kernel)
set_option maxRecDepth 65536 in
theorem w_c14 : (Jvm.Cond.code ({ cls := "jdk/internal/util/Preconditions", name := "checkIndex", desc := "(IILjava/util/function/BiFunction;)I" } : Jvm.MethodName) jdk_41_method_11_code (3 : Nat) (Option.some Jvm.ClassFile.FieldType.int)).before args0 about1 = true := code_word (m := ⟨11, 1⟩) (meth := k11m1) (c := k11c1) (by decide +kernel) rfl rfl rfl (by decide +kernel)
def codes1 : List Jvm.Cond := [Jvm.Cond.code x code maxLocals ret, Jvm.Cond.code ({ cls := "java/lang/String", name := "<init>", desc := "([C)V" } : Jvm.MethodName) jdk_42_method_3_code (2 : Nat) (Option.none : Option Jvm.ClassFile.FieldType), Jvm.Cond.code ({ cls := "java/lang/String", name := "<init>", desc := "([CIILjava/lang/Void;)V" } : Jvm.MethodName) jdk_42_method_149_code (6 : Nat) (Option.none : Option Jvm.ClassFile.FieldType), Jvm.Cond.code ({ cls := "java/lang/Object", name := "<init>", desc := "()V" } : Jvm.MethodName) object_method_1_code (1 : Nat) (Option.none : Option Jvm.ClassFile.FieldType), Jvm.Cond.code ({ cls := "java/lang/StringUTF16", name := "compress", desc := "([CII)[B" } : Jvm.MethodName) jdk_52_method_16_code (6 : Nat) (Option.some (Jvm.ClassFile.FieldType.array Jvm.ClassFile.FieldType.byte)), Jvm.Cond.code ({ cls := "java/lang/StringUTF16", name := "compress", desc := "([CI[BII)I" } : Jvm.MethodName) jdk_52_method_21_code (7 : Nat) (Option.some Jvm.ClassFile.FieldType.int), Jvm.Cond.code ({ cls := "java/lang/StringUTF16", name := "coderFromArrayLen", desc := "([BI)B" } : Jvm.MethodName) jdk_52_method_15_code (2 : Nat) (Option.some Jvm.ClassFile.FieldType.byte), Jvm.Cond.code ({ cls := "com/example/clockwise/clockwise/Logging", name := "isSwitch", desc := "(Ljava/lang/String;)Z" } : Jvm.MethodName) prog_26_method_2_code (1 : Nat) (Option.some Jvm.ClassFile.FieldType.boolean), Jvm.Cond.code ({ cls := "java/lang/String", name := "equals", desc := "(Ljava/lang/Object;)Z" } : Jvm.MethodName) jdk_42_method_66_code (3 : Nat) (Option.some Jvm.ClassFile.FieldType.boolean), Jvm.Cond.code ({ cls := "java/lang/StringLatin1", name := "equals", desc := "([B[B)Z" } : Jvm.MethodName) jdk_43_method_13_code (3 : Nat) (Option.some Jvm.ClassFile.FieldType.boolean), Jvm.Cond.code ({ cls := "java/lang/String", name := "charAt", desc := "(I)C" } : Jvm.MethodName) jdk_42_method_56_code (2 : Nat) (Option.some Jvm.ClassFile.FieldType.char), Jvm.Cond.code ({ cls := "java/lang/String", name := "isLatin1", desc := "()Z" } : Jvm.MethodName) jdk_42_method_154_code (1 : Nat) (Option.some Jvm.ClassFile.FieldType.boolean), Jvm.Cond.code ({ cls := "java/lang/StringLatin1", name := "charAt", desc := "([BI)C" } : Jvm.MethodName) jdk_43_method_2_code (2 : Nat) (Option.some Jvm.ClassFile.FieldType.char), Jvm.Cond.code ({ cls := "java/lang/String", name := "checkIndex", desc := "(II)V" } : Jvm.MethodName) jdk_42_method_155_code (2 : Nat) (Option.none : Option Jvm.ClassFile.FieldType), Jvm.Cond.code ({ cls := "jdk/internal/util/Preconditions", name := "checkIndex", desc := "(IILjava/util/function/BiFunction;)I" } : Jvm.MethodName) jdk_41_method_11_code (3 : Nat) (Option.some Jvm.ClassFile.FieldType.int)]
set_option maxRecDepth 65536 in
theorem codes_eq : words1.filter isCode = codes1 := rfl
theorem w_codes : ∀ c ∈ words1.filter isCode, c.before args0 about1 = true := by
  rw [codes_eq]
  intro c hc
  simp only [codes1, List.mem_cons, List.not_mem_nil, or_false] at hc
  rcases hc with rfl | rfl | rfl | rfl | rfl | rfl | rfl | rfl | rfl | rfl | rfl | rfl | rfl | rfl | rfl
  · exact w_c0
  · exact w_c1
  · exact w_c2
  · exact w_c3
  · exact w_c4
  · exact w_c5
  · exact w_c6
  · exact w_c7
  · exact w_c8
  · exact w_c9
  · exact w_c10
  · exact w_c11
  · exact w_c12
  · exact w_c13
  · exact w_c14
set_option maxRecDepth 65536 in
theorem w_t1 : (words1.take 24).all (fun c => isCode c || c.before args0 about1) = true := by decide +kernel
set_option maxRecDepth 65536 in
theorem w_t2 : ((words1.drop 24).take 24).all (fun c => isCode c || c.before args0 about1) = true := by decide +kernel
set_option maxRecDepth 65536 in
theorem w_t3 : (((words1.drop 24).drop 24).take 24).all (fun c => isCode c || c.before args0 about1) = true := by decide +kernel
set_option maxRecDepth 65536 in
theorem w_t4 : (((words1.drop 24).drop 24).drop 24).all (fun c => isCode c || c.before args0 about1) = true := by decide +kernel
theorem w_tables : (allAtoms (Jvm.Cond.code x code maxLocals ret :: tables_1)).before args0 about1 = true := by
  rw [allAtoms_all]
  show words1.all (fun c => c.before args0 about1) = true
  refine all_split ?_ w_codes
  rw [← List.take_append_drop 24 words1, List.all_append, w_t1, ← List.take_append_drop 24 (words1.drop 24), List.all_append, w_t2, ← List.take_append_drop 24 ((words1.drop 24).drop 24), List.all_append, w_t3, w_t4]
  rfl
set_option maxRecDepth 65536 in
theorem w_rest : rest_1_c.before args0 about1 = true := by decide +kernel
set_option maxRecDepth 65536 in
theorem w_case : (Jvm.Cond.and given_1 narrow_1).before args0 about1 = true := by decide +kernel
set_option maxRecDepth 65536 in
theorem w_consts : constsHeld consts_1 about1 := Jvm.Lit.constsHeldB_iff.mp (by decide +kernel)
theorem w_applies : (headSpec (Jvm.Cond.code x code maxLocals ret :: tables_1) room_1).applies x e0.platform about1 = true :=
  (Spec.applies_iff w_frames).mpr ⟨w_running, w_runnable, w_alone, w_named, w_hears, w_ripe, w_room, w_tables⟩
theorem atStart : AtStart classFile x code maxLocals ret World_1 tables_1 room_1 Calls_1 rest_1 Pre_1 launch0 p0 e0 about1 theMethod args0 below0 :=
  ⟨lists_1, trivial, launch0.admits_env _ _ _, launch0.least_env, fairChoices_fair.cas, fairChoices_fair.clock, w_frames, w_args, w_heap, w_applies, ⟨w_consts, trivial⟩, w_rest, w_case⟩
end start1
theorem witness_1 : WitnessClaimed_1 := ⟨start1.p0, start1.e0, start1.about1, start1.theMethod, start1.args0, start1.below0, start1.atStart⟩
end Jvm.Pilot.@@N@@
