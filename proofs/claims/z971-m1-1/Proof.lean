import JvmDerived
import JvmDerived.Pilot.@@N@@Statement
import JvmDerived.Pilot.@@N@@Code
set_option linter.unusedVariables false
set_option linter.unusedSimpArgs false
namespace Jvm.RoadKit
open Sem ClassFile Op Lib Jvm.Stand Jvm.Free Jvm.LawKit
section New
variable {p : Program} {l : Launch} {e : Env} {R : Room} {s : State} {m : MethodId} {args : Array Value} {below : List Frame} {meth : Method} {c : Code} {T : State} {locs : List Loc} {cells slots : Nat}
theorem retI (X : Stand p l e R s m args below meth c T locs cells slots) (hx : p.tables.exec = Jvm.exec) {pc : Nat} {Ls : Array Slot} {z : Int32} {rest : List Value} (hret : meth.sig.returnType = some .int) (hd : decode c.code pc = .ok (.ireturn, 1)) {fs : List Frame}
    (hl : ∀ (f : JFrame) (acts : List Action), f.method = m → f.locked = none → f.entered = [] → (doReturn e (T.setTop f) acts (some (.int z))).1 = T.setFrames fs) : Steps p.tables e below (T.setTop (mkF m pc Ls (.int z :: rest))) (T.setFrames fs) := by
  have hm' : T.vm.method? m = some meth := X.method'
  have hn : narrow .int (.int z) = .int z := rfl
  show Steps p.tables e below (T.setTop { method := m, pc := pc, locals := Ls, stack := _ :: rest, locked := none }) _
  jvm_step X.here [X.here.top, hx, hd, hm', hret, hn]
  first | (intro acts; rw [hl _ acts rfl rfl rfl]) | rw [hl _ _ rfl rfl rfl]
  exact Steps.refl _
/-- the run from U on ends as W says -/
def Onw (p : Program) (e : Env) (below : List Frame) (W : Outcome → State → Prop) (U : State) : Prop :=
  ∃ s₂ o, Steps p.tables e below U s₂ ∧ s₂.status = .running ∧ Ended s₂ below o ∧ W o s₂
theorem Onw.go {W : Outcome → State → Prop} {U U' : State} (h : ∀ t, Steps p.tables e below U' t → Steps p.tables e below U t) (k : Onw p e below W U') : Onw p e below W U := by
  obtain ⟨s₂, o, h1, h2⟩ := k
  exact ⟨s₂, o, h _ h1, h2⟩
theorem Onw.of {W : Outcome → State → Prop} {U : State} (k : Onw p e below W U) : ∃ s₂ o, Steps p.tables e below U s₂ ∧ s₂.status = .running ∧ Ended s₂ below o ∧ W o s₂ := k
/-- the end of a walk -/
theorem Onw.ret (X : Stand p l e R s m args below meth c T locs cells slots) (hlk : meth.locks = false) {U : State} {v : Option Value} (hv : meth.sig.returnType = none → v = none)
    (hs : ∀ fs, (∀ (f : JFrame) (acts : List Action), f.method = m → f.locked = none → f.entered = [] → (doReturn e (T.setTop f) acts v).1 = T.setFrames fs) → Steps p.tables e below U (T.setFrames fs))
    {Q : Option Value → Heap → List Loc → Prop} (hQ : Q v T.heap locs) {k n : Nat} (hk : cells ≤ k) (hn : slots ≤ n) :
    Onw p e below (fun o s₂ => ∃ v L, o = .returned v ∧ Q v s₂.heap L ∧ FrameEnd s o s₂ L k n) U := by
  obtain ⟨fs, hr, hrun, hended, hW, hsame⟩ := X.leave (v := v) hv hlk
  exact ⟨_, _, hs fs hr, hrun, hended, v, locs, rfl, hQ, ⟨_, rfl⟩, hW, hsame.mono hk hn⟩
/-- .. where Strings may have been interned -/
theorem Onw.retW {vm₁ : Vm} (X : Stand p l e R (s.setVm vm₁) m args below meth c T locs cells slots) {j : Nat} (hS : s.Since vm₁ j) (hj : j ≤ T.heap.size) (hlk : meth.locks = false) {U : State} {v : Option Value} (hv : meth.sig.returnType = none → v = none)
    (hs : ∀ fs, (∀ (f : JFrame) (acts : List Action), f.method = m → f.locked = none → f.entered = [] → (doReturn e (T.setTop f) acts v).1 = T.setFrames fs) → Steps p.tables e below U (T.setFrames fs))
    {Q : Option Value → Heap → List Loc → Prop} (hQ : Q v T.heap locs) {k n : Nat} (hk : cells ≤ k) (hn : slots ≤ n) :
    Onw p e below (fun o s₂ => ∃ v L, o = .returned v ∧ Q v s₂.heap L ∧ ReturnedEndW s o s₂ L k n) U := by
  obtain ⟨fs, hr, hrun, hended, hE⟩ := X.leaveW hS hj (v := v) hv hlk
  exact ⟨_, _, hs fs hr, hrun, hended, v, locs, rfl, hQ, hE.1, hE.2.1, hE.2.2.1, hE.2.2.2.mono hk hn⟩
end New
end Jvm.RoadKit
namespace Jvm.Pilot.@@N@@
open Jvm Jvm.ClassFile Sem Op Lib Jvm.Free Jvm.Stand Jvm.LawKit Jvm.RoadKit Bundle Jvm.Pilot.@@N@@.Jvm.D
theorem pd_0 : parseMethodDescriptor "(I)C" = some ⟨[.int], some .char⟩ := by decide +kernel
theorem pd_1 : parseMethodDescriptor "(III)Z" = some ⟨[.int, .int, .int], some .boolean⟩ := by decide +kernel
theorem pd_2 : parseMethodDescriptor "(C)Z" = some ⟨[.char], some .boolean⟩ := by decide +kernel
theorem pd_3 : parseMethodDescriptor "([CII)Z" = some ⟨[(.array .char), .int, .int], some .boolean⟩ := by decide +kernel
def own_draw (p : Int32) : Int32 := if p &&& 7 = 0 then 32 else if p &&& 7 = 1 then 9 else if p &&& 7 = 2 then 13 else if p &&& 7 = 3 then 10 else nar .char (((p.toUInt32 >>> ((3 : Int32) &&& 31).toUInt32).toInt32).toUInt32.toUInt16.toUInt32.toInt32)
def own_cov (i s n : Int32) : Int32 := if i < s then 0 else if i < s + n then 1 else 0
def own_sp (c : Int32) : Int32 := if c = 32 then 1 else if c = 9 then 1 else if c = 13 then 1 else if c = 10 then 1 else 0
def own_run (f : Int32 → Int32) : Nat → Int32 → Int32 → Int32
  | 0, _, w => w
  | k + 1, i, w => if w = 0 then w else own_run f k (i + 1) (own_sp (f i))
def own_el (c0 c1 c2 c3 i : Int32) : Int32 := if i = 0 then c0 else if i = 1 then c1 else if i = 2 then c2 else c3
def own_ok (i c s n : Int32) : Prop := own_cov i s n = 0 ∨ ¬ (own_sp c = 0)
instance own_okDec (i c s n : Int32) : Decidable (own_ok i c s n) := by unfold own_ok; infer_instance
def own_exp (c0 c1 c2 c3 s n : Int32) : Int32 := if own_ok 0 c0 s n ∧ own_ok 1 c1 s n ∧ own_ok 2 c2 s n ∧ own_ok 3 c3 s n then 1 else 0
theorem own_sp01 (c : Int32) : own_sp c = 0 ∨ own_sp c = 1 := by
  unfold own_sp
  repeat' split
  all_goals simp
theorem own_run01 (f : Int32 → Int32) : ∀ (k : Nat) (i w : Int32), (w = 0 ∨ w = 1) → (own_run f k i w = 0 ∨ own_run f k i w = 1)
  | 0, _, _, h => h
  | k + 1, i, w, h => by
    show (if w = 0 then w else own_run f k (i + 1) (own_sp (f i))) = 0 ∨ (if w = 0 then w else own_run f k (i + 1) (own_sp (f i))) = 1
    split
    · exact h
    · exact own_run01 f k _ _ (own_sp01 _)
theorem own_bool {x : Int32} (h : x = 0 ∨ x = 1) : nar .boolean x = x := by rcases h with rfl | rfl <;> rfl
theorem own_exp1 {c0 c1 c2 c3 s n : Int32} (h0 : own_ok 0 c0 s n) (h1 : own_ok 1 c1 s n) (h2 : own_ok 2 c2 s n) (h3 : own_ok 3 c3 s n) : own_exp c0 c1 c2 c3 s n = 1 := if_pos ⟨h0, h1, h2, h3⟩
theorem own_no {i c s n : Int32} (hc : ¬ own_cov i s n = 0) (hs : own_sp c = 0) : ¬ own_ok i c s n := fun q => q.elim hc (fun r => r hs)
theorem own_exp0_0 {c0 c1 c2 c3 s n : Int32} (hc : ¬ own_cov 0 s n = 0) (hs : own_sp c0 = 0) : own_exp c0 c1 c2 c3 s n = 0 := if_neg fun q => own_no hc hs q.1
theorem own_exp0_1 {c0 c1 c2 c3 s n : Int32} (hc : ¬ own_cov 1 s n = 0) (hs : own_sp c1 = 0) : own_exp c0 c1 c2 c3 s n = 0 := if_neg fun q => own_no hc hs q.2.1
theorem own_exp0_2 {c0 c1 c2 c3 s n : Int32} (hc : ¬ own_cov 2 s n = 0) (hs : own_sp c2 = 0) : own_exp c0 c1 c2 c3 s n = 0 := if_neg fun q => own_no hc hs q.2.2.1
theorem own_exp0_3 {c0 c1 c2 c3 s n : Int32} (hc : ¬ own_cov 3 s n = 0) (hs : own_sp c3 = 0) : own_exp c0 c1 c2 c3 s n = 0 := if_neg fun q => own_no hc hs q.2.2.2
theorem own_st (x st : Int32) (h : st = (x &&& (2147483647 : Int32)) % (5 : Int32)) : 0 ≤ st.toInt ∧ st.toInt ≤ 4 := by
  have e1 : (x &&& (2147483647 : Int32)).toInt = x.toInt % (2 ^ 31 : Nat) := c_mask x 2147483647 31 (by decide) (by decide)
  have e6 := (c_irem (x &&& (2147483647 : Int32)) (5 : Int32) 5 rfl).1 (by omega)
  rw [← h] at e6
  omega
theorem own_five {st : Int32} (h : 0 ≤ st.toInt ∧ st.toInt ≤ 4) : ((5 : Int32) - st).toInt = 5 - st.toInt := by
  have e1 := c_isub (5 : Int32) st
  have e2 := rng32 ((5 : Int32) - st)
  have e3 : (5 : Int32).toInt = 5 := rfl
  omega
theorem own_nz {st : Int32} (h : 0 ≤ st.toInt ∧ st.toInt ≤ 4) : ((5 : Int32) - st) ≠ 0 := fun q => by
  have e := own_five h
  rw [q] at e
  have e3 : (0 : Int32).toInt = 0 := rfl
  omega
theorem own_ln (x st ln : Int32) (h : 0 ≤ st.toInt ∧ st.toInt ≤ 4) (hl : ln = (x &&& (2147483647 : Int32)) % ((5 : Int32) - st)) : 0 ≤ st.toInt ∧ 0 ≤ ln.toInt ∧ st.toInt + ln.toInt ≤ 4 := by
  have e1 : (x &&& (2147483647 : Int32)).toInt = x.toInt % (2 ^ 31 : Nat) := c_mask x 2147483647 31 (by decide) (by decide)
  have e2 := own_five h
  have e3 := (c_iremV (x &&& (2147483647 : Int32)) ((5 : Int32) - st)).1 (by omega) (by omega)
  rw [← hl] at e3
  omega
theorem own_turns {p1 p2 : Int32} (h : 0 ≤ p1.toInt ∧ 0 ≤ p2.toInt ∧ p1.toInt + p2.toInt ≤ 4) : p1.toInt + (p1 + p2 - p1).toNatClampNeg = (p1 + p2).toInt := by
  have e1 := c_iadd p1 p2
  have e2 := rng32 (p1 + p2)
  have e3 := c_isub (p1 + p2) p1
  have e4 := rng32 (p1 + p2 - p1)
  unfold Int32.toNatClampNeg
  omega
theorem own_els {cl : Cell} {c0 c1 c2 c3 p1 p2 : Int32} (S : cl.slots.size = (4 : Int32).toNatClampNeg) (H : Has cl [.int c0, .int c1, .int c2, .int c3] (.int (0 : Int32))) (hr : 0 ≤ p1.toInt ∧ 0 ≤ p2.toInt ∧ p1.toInt + p2.toInt ≤ 4) :
    ∀ i : Int32, 0 ≤ i.toInt → i < (p1 + p2) → ¬ (i < 0 ∨ cl.slots.size ≤ i.toNatClampNeg) ∧ cl.slots[i.toNatClampNeg]? = some (.int (own_el c0 c1 c2 c3 i)) := by
  intro i hi hl
  have e1 := c_iadd p1 p2
  have e2 := rng32 (p1 + p2)
  have e4 : (4 : Int32).toNatClampNeg = 4 := rfl
  rw [Int32.lt_iff_toInt_lt] at hl
  have hb : i.toInt = 0 ∨ i.toInt = 1 ∨ i.toInt = 2 ∨ i.toInt = 3 := by omega
  rcases hb with h | h | h | h
  · obtain rfl : i = 0 := Int32.toInt_inj.mp h
    exact ⟨by rw [S]; decide, H 0 (by rw [S]; decide)⟩
  · obtain rfl : i = 1 := Int32.toInt_inj.mp h
    exact ⟨by rw [S]; decide, H 1 (by rw [S]; decide)⟩
  · obtain rfl : i = 2 := Int32.toInt_inj.mp h
    exact ⟨by rw [S]; decide, H 2 (by rw [S]; decide)⟩
  · obtain rfl : i = 3 := Int32.toInt_inj.mp h
    exact ⟨by rw [S]; decide, H 3 (by rw [S]; decide)⟩
theorem own_same (c0 c1 c2 c3 s n : Int32) (hr : 0 ≤ s.toInt ∧ 0 ≤ n.toInt ∧ s.toInt + n.toInt ≤ 4) : own_run (own_el c0 c1 c2 c3) (s + n - s).toNatClampNeg s 1 = own_exp c0 c1 c2 c3 s n := by
  have hs : s = 0 ∨ s = 1 ∨ s = 2 ∨ s = 3 ∨ s = 4 := by
    have h : s.toInt = 0 ∨ s.toInt = 1 ∨ s.toInt = 2 ∨ s.toInt = 3 ∨ s.toInt = 4 := by omega
    simpa [← Int32.toInt_inj] using h
  have hn : n = 0 ∨ n = 1 ∨ n = 2 ∨ n = 3 ∨ n = 4 := by
    have h : n.toInt = 0 ∨ n.toInt = 1 ∨ n.toInt = 2 ∨ n.toInt = 3 ∨ n.toInt = 4 := by omega
    simpa [← Int32.toInt_inj] using h
  have h0 := own_sp01 c0
  have h1 := own_sp01 c1
  have h2 := own_sp01 c2
  have h3 := own_sp01 c3
  have e : s + n - s = n := by rw [Int32.add_comm, Int32.add_sub_cancel]
  rw [e]
  have t0 : (0 : Int32).toNatClampNeg = 0 := rfl
  have t1 : (1 : Int32).toNatClampNeg = 1 := rfl
  have t2 : (2 : Int32).toNatClampNeg = 2 := rfl
  have t3 : (3 : Int32).toNatClampNeg = 3 := rfl
  have t4 : (4 : Int32).toNatClampNeg = 4 := rfl
  rcases hs with rfl | rfl | rfl | rfl | rfl <;> rcases hn with rfl | rfl | rfl | rfl | rfl <;> first | (exact absurd hr (by decide)) | skip
  all_goals
    rcases h0 with h0 | h0 <;> rcases h1 with h1 | h1 <;> rcases h2 with h2 | h2 <;> rcases h3 with h3 | h3 <;>
      simp [own_run, own_el, own_exp, own_ok, own_cov, h0, h1, h2, h3, t0, t1, t2, t3, t4] <;> decide
theorem pn_0 : plainName "com/example/faultline/faultline/xml/ElementReaderIsWhiteSpacePinLaw" = true := by first | (simp [plainName, overriddenIn]; done) | decide +kernel
theorem ef_1 (m : MethodId) (x0 : Int32) : entryFrame m #[(.int x0)] 2 = mkF m 0 #[.val (.int x0), .unset] [] := by first | (simp [entryFrame, mkF, argsToLocals, Value.category]; done) | rfl
def Q_rm1 (Z : State) (p0 : Int32) (h0 : Heap) (n0 : Nat) (v : Option Value) (h : Heap) (L : List Loc) : Prop := v = some (.int (own_draw p0)) ∧ Fr n0 L ∧ h = h0
theorem d1_0 : decode method_5_code 0 = .ok (.iload_n 0, 1) := by decide +kernel
theorem d1_1 : decode method_5_code 1 = .ok (.bipush 7, 2) := by decide +kernel
theorem d1_3 : decode method_5_code 3 = .ok (.iand, 1) := by decide +kernel
theorem d1_4 : decode method_5_code 4 = .ok (.istore_n 1, 1) := by decide +kernel
theorem d1_5 : decode method_5_code 5 = .ok (.iload_n 1, 1) := by decide +kernel
theorem d1_6 : decode method_5_code 6 = .ok (.ifCond .ne 6, 3) := by decide +kernel
theorem d1_9 : decode method_5_code 9 = .ok (.bipush 32, 2) := by decide +kernel
theorem d1_11 : decode method_5_code 11 = .ok (.ireturn, 1) := by decide +kernel
theorem d1_12 : decode method_5_code 12 = .ok (.iload_n 1, 1) := by decide +kernel
theorem d1_13 : decode method_5_code 13 = .ok (.iconst 1, 1) := by decide +kernel
theorem d1_14 : decode method_5_code 14 = .ok (.if_icmp .ne 6, 3) := by decide +kernel
theorem d1_17 : decode method_5_code 17 = .ok (.bipush 9, 2) := by decide +kernel
theorem d1_19 : decode method_5_code 19 = .ok (.ireturn, 1) := by decide +kernel
theorem d1_20 : decode method_5_code 20 = .ok (.iload_n 1, 1) := by decide +kernel
theorem d1_21 : decode method_5_code 21 = .ok (.iconst 2, 1) := by decide +kernel
theorem d1_22 : decode method_5_code 22 = .ok (.if_icmp .ne 6, 3) := by decide +kernel
theorem d1_25 : decode method_5_code 25 = .ok (.bipush 13, 2) := by decide +kernel
theorem d1_27 : decode method_5_code 27 = .ok (.ireturn, 1) := by decide +kernel
theorem d1_28 : decode method_5_code 28 = .ok (.iload_n 1, 1) := by decide +kernel
theorem d1_29 : decode method_5_code 29 = .ok (.iconst 3, 1) := by decide +kernel
theorem d1_30 : decode method_5_code 30 = .ok (.if_icmp .ne 6, 3) := by decide +kernel
theorem d1_33 : decode method_5_code 33 = .ok (.bipush 10, 2) := by decide +kernel
theorem d1_35 : decode method_5_code 35 = .ok (.ireturn, 1) := by decide +kernel
theorem d1_36 : decode method_5_code 36 = .ok (.iload_n 0, 1) := by decide +kernel
theorem d1_37 : decode method_5_code 37 = .ok (.iconst 3, 1) := by decide +kernel
theorem d1_38 : decode method_5_code 38 = .ok (.iushr, 1) := by decide +kernel
theorem d1_39 : decode method_5_code 39 = .ok (.i2c, 1) := by decide +kernel
theorem d1_40 : decode method_5_code 40 = .ok (.ireturn, 1) := by decide +kernel
set_option maxRecDepth 65536 in
set_option maxHeartbeats 40000000 in
theorem rm1 (l : Launch) (Z : State) (a0 : Array Value) (hw : ∀ d ∈ tables_1, d.before a0 Z = true) (ws : List Jvm.Cond) (p0 : Int32) (h0 : Heap) (n0 : Nat)  :
    MetFree l (⟨"com/example/faultline/faultline/xml/ElementReaderIsWhiteSpacePinLaw", "draw", "(I)C"⟩ : MethodName) (head1 (Jvm.Cond.code (⟨"com/example/faultline/faultline/xml/ElementReaderIsWhiteSpacePinLaw", "draw", "(I)C"⟩ : MethodName) method_5_code 2 (some .char) :: ws) ({ frames := 0, cells := 0, slots := 0, locals := 0 } : Room)) (fun a U => a = #[(.int p0)] ∧ Z.Warmed39 U.vm ∧ U.heap = h0) (fun _ _ _ _ _ => True) (fun _ U o U' => ∃ v L, o = .returned v ∧ Q_rm1 Z p0 h0 n0 v U'.heap L ∧ FrameEnd U o U' L ({ frames := 0, cells := 0, slots := 0, locals := 0 } : Room).cells ({ frames := 0, cells := 0, slots := 0, locals := 0 } : Room).slots) := by
  refine MetFree.of_bodySF (plainFor_of_name pn_0) hisR ?_
  intro p e s m args below meth c s₁ Bd hml0 hP hK
  obtain ⟨rfl, hZ, hh⟩ := hP
  have hx := Bd.exec
  have hby := Bd.bytes
  have hml : c.maxLocals = 2 := hml0
  have hown : s.vm.findClass "com/example/faultline/faultline/xml/ElementReaderIsWhiteSpacePinLaw" = some m.cls := findClass_of_methodNamed Bd.named
  have hnm := (name_of_methodNamed Bd.named Bd.method).1
  have X0 : Stand p l e ({ frames := 0, cells := 0, slots := 0, locals := 0 } : Room) s m #[(.int p0)] below meth c s₁ [] 0 0 := Stand.of_body Bd
  have e0 : s₁.heap = h0 := by rw [← hh, Bd.state]; rfl
  have N0 := Fr.nil n0
  refine Onw.of (Onw.go (fun own_u k => castTop (ef_1 m p0) k) ?_)
  show Onw p e below _ (s₁.setTop (mkF m 0 #[.val (.int p0), .unset] []))
  refine Onw.go (fun own_u kt => XS.iloadN X0.here hx rfl (hb hby d1_0) rfl kt) ?_
  show Onw p e below _ (s₁.setTop (mkF m 1 #[.val (.int p0), .unset] [(.int p0)]))
  refine Onw.go (fun own_u kt => XS.bipush X0.here hx rfl (hb hby d1_1) kt) ?_
  show Onw p e below _ (s₁.setTop (mkF m 3 #[.val (.int p0), .unset] [(.int (7 : Int32)), (.int p0)]))
  refine Onw.go (fun own_u kt => XS.iand X0.here hx rfl (hb hby d1_3) rfl kt) ?_
  show Onw p e below _ (s₁.setTop (mkF m 4 #[.val (.int p0), .unset] [(.int (p0 &&& (7 : Int32)))]))
  obtain ⟨k, hk⟩ : ∃ own_z, own_z = (p0 &&& (7 : Int32)) := ⟨_, rfl⟩
  rw [← hk]
  show Onw p e below _ (s₁.setTop (mkF m 4 #[.val (.int p0), .unset] [(.int k)]))
  refine Onw.go (fun own_u kt => XS.istoreN X0.here hx rfl (hb hby d1_4) rfl (l' := #[.val (.int p0), .val (.int k)]) rfl kt) ?_
  show Onw p e below _ (s₁.setTop (mkF m 5 #[.val (.int p0), .val (.int k)] []))
  refine Onw.go (fun own_u kt => XS.iloadN X0.here hx rfl (hb hby d1_5) rfl kt) ?_
  show Onw p e below _ (s₁.setTop (mkF m 6 #[.val (.int p0), .val (.int k)] [(.int k)]))
  by_cases h0 : k = (0 : Int32)
  · refine Onw.go (fun own_u kt => XS.ifNo X0.here hx rfl (hb hby d1_6) rfl ((if0 _ _).trans (teq (h0 : k = (0 : Int32))).2) kt) ?_
    show Onw p e below _ (s₁.setTop (mkF m 9 #[.val (.int p0), .val (.int k)] []))
    refine Onw.go (fun own_u kt => XS.bipush X0.here hx rfl (hb hby d1_9) kt) ?_
    show Onw p e below _ (s₁.setTop (mkF m 11 #[.val (.int p0), .val (.int k)] [(.int (32 : Int32))]))
    exact Onw.ret X0 Bd.notSynchronized (fun h => by rw [Bd.returns] at h; cases h) (fun fs hr => retN X0 hx (t := .char) Bd.returns (by simp) (hb hby d1_11) hr) ⟨(by show some (Value.int (nar .char 32)) = some (Value.int (own_draw _)); unfold own_draw; rw [← hk, if_pos h0]; rfl), N0, e0⟩ (by decide) (by decide)
  · refine Onw.go (fun own_u kt => XS.ifYes X0.here hx rfl (pc0 := 6) (pc' := 12) rfl (hb hby d1_6) rfl ((if0 _ _).trans (feq (h0 : ¬ (k = (0 : Int32)))).2) (by decide) (by decide) kt) ?_
    show Onw p e below _ (s₁.setTop (mkF m 12 #[.val (.int p0), .val (.int k)] []))
    refine Onw.go (fun own_u kt => XS.iloadN X0.here hx rfl (hb hby d1_12) rfl kt) ?_
    show Onw p e below _ (s₁.setTop (mkF m 13 #[.val (.int p0), .val (.int k)] [(.int k)]))
    refine Onw.go (fun own_u kt => XS.iconst X0.here hx rfl (hb hby d1_13) kt) ?_
    show Onw p e below _ (s₁.setTop (mkF m 14 #[.val (.int p0), .val (.int k)] [(.int (1 : Int32)), (.int k)]))
    by_cases h1 : k = (1 : Int32)
    · refine Onw.go (fun own_u kt => XS.icmpNo X0.here hx rfl (hb hby d1_14) rfl (teq (h1 : k = (1 : Int32))).2 kt) ?_
      show Onw p e below _ (s₁.setTop (mkF m 17 #[.val (.int p0), .val (.int k)] []))
      refine Onw.go (fun own_u kt => XS.bipush X0.here hx rfl (hb hby d1_17) kt) ?_
      show Onw p e below _ (s₁.setTop (mkF m 19 #[.val (.int p0), .val (.int k)] [(.int (9 : Int32))]))
      exact Onw.ret X0 Bd.notSynchronized (fun h => by rw [Bd.returns] at h; cases h) (fun fs hr => retN X0 hx (t := .char) Bd.returns (by simp) (hb hby d1_19) hr) ⟨(by show some (Value.int (nar .char 9)) = some (Value.int (own_draw _)); unfold own_draw; rw [← hk, if_neg h0, if_pos h1]; rfl), N0, e0⟩ (by decide) (by decide)
    · refine Onw.go (fun own_u kt => XS.icmpYes X0.here hx rfl (pc0 := 14) (pc' := 20) rfl (hb hby d1_14) rfl (feq (h1 : ¬ (k = (1 : Int32)))).2 (by decide) (by decide) kt) ?_
      show Onw p e below _ (s₁.setTop (mkF m 20 #[.val (.int p0), .val (.int k)] []))
      refine Onw.go (fun own_u kt => XS.iloadN X0.here hx rfl (hb hby d1_20) rfl kt) ?_
      show Onw p e below _ (s₁.setTop (mkF m 21 #[.val (.int p0), .val (.int k)] [(.int k)]))
      refine Onw.go (fun own_u kt => XS.iconst X0.here hx rfl (hb hby d1_21) kt) ?_
      show Onw p e below _ (s₁.setTop (mkF m 22 #[.val (.int p0), .val (.int k)] [(.int (2 : Int32)), (.int k)]))
      by_cases h2 : k = (2 : Int32)
      · refine Onw.go (fun own_u kt => XS.icmpNo X0.here hx rfl (hb hby d1_22) rfl (teq (h2 : k = (2 : Int32))).2 kt) ?_
        show Onw p e below _ (s₁.setTop (mkF m 25 #[.val (.int p0), .val (.int k)] []))
        refine Onw.go (fun own_u kt => XS.bipush X0.here hx rfl (hb hby d1_25) kt) ?_
        show Onw p e below _ (s₁.setTop (mkF m 27 #[.val (.int p0), .val (.int k)] [(.int (13 : Int32))]))
        exact Onw.ret X0 Bd.notSynchronized (fun h => by rw [Bd.returns] at h; cases h) (fun fs hr => retN X0 hx (t := .char) Bd.returns (by simp) (hb hby d1_27) hr) ⟨(by show some (Value.int (nar .char 13)) = some (Value.int (own_draw _)); unfold own_draw; rw [← hk, if_neg h0, if_neg h1, if_pos h2]; rfl), N0, e0⟩ (by decide) (by decide)
      · refine Onw.go (fun own_u kt => XS.icmpYes X0.here hx rfl (pc0 := 22) (pc' := 28) rfl (hb hby d1_22) rfl (feq (h2 : ¬ (k = (2 : Int32)))).2 (by decide) (by decide) kt) ?_
        show Onw p e below _ (s₁.setTop (mkF m 28 #[.val (.int p0), .val (.int k)] []))
        refine Onw.go (fun own_u kt => XS.iloadN X0.here hx rfl (hb hby d1_28) rfl kt) ?_
        show Onw p e below _ (s₁.setTop (mkF m 29 #[.val (.int p0), .val (.int k)] [(.int k)]))
        refine Onw.go (fun own_u kt => XS.iconst X0.here hx rfl (hb hby d1_29) kt) ?_
        show Onw p e below _ (s₁.setTop (mkF m 30 #[.val (.int p0), .val (.int k)] [(.int (3 : Int32)), (.int k)]))
        by_cases h3 : k = (3 : Int32)
        · refine Onw.go (fun own_u kt => XS.icmpNo X0.here hx rfl (hb hby d1_30) rfl (teq (h3 : k = (3 : Int32))).2 kt) ?_
          show Onw p e below _ (s₁.setTop (mkF m 33 #[.val (.int p0), .val (.int k)] []))
          refine Onw.go (fun own_u kt => XS.bipush X0.here hx rfl (hb hby d1_33) kt) ?_
          show Onw p e below _ (s₁.setTop (mkF m 35 #[.val (.int p0), .val (.int k)] [(.int (10 : Int32))]))
          exact Onw.ret X0 Bd.notSynchronized (fun h => by rw [Bd.returns] at h; cases h) (fun fs hr => retN X0 hx (t := .char) Bd.returns (by simp) (hb hby d1_35) hr) ⟨(by show some (Value.int (nar .char 10)) = some (Value.int (own_draw _)); unfold own_draw; rw [← hk, if_neg h0, if_neg h1, if_neg h2, if_pos h3]; rfl), N0, e0⟩ (by decide) (by decide)
        · refine Onw.go (fun own_u kt => XS.icmpYes X0.here hx rfl (pc0 := 30) (pc' := 36) rfl (hb hby d1_30) rfl (feq (h3 : ¬ (k = (3 : Int32)))).2 (by decide) (by decide) kt) ?_
          show Onw p e below _ (s₁.setTop (mkF m 36 #[.val (.int p0), .val (.int k)] []))
          refine Onw.go (fun own_u kt => XS.iloadN X0.here hx rfl (hb hby d1_36) rfl kt) ?_
          show Onw p e below _ (s₁.setTop (mkF m 37 #[.val (.int p0), .val (.int k)] [(.int p0)]))
          refine Onw.go (fun own_u kt => XS.iconst X0.here hx rfl (hb hby d1_37) kt) ?_
          show Onw p e below _ (s₁.setTop (mkF m 38 #[.val (.int p0), .val (.int k)] [(.int (3 : Int32)), (.int p0)]))
          refine Onw.go (fun own_u kt => XS.iushr X0.here hx rfl (hb hby d1_38) rfl kt) ?_
          show Onw p e below _ (s₁.setTop (mkF m 39 #[.val (.int p0), .val (.int k)] [(.int ((p0.toUInt32 >>> ((3 : Int32) &&& 31).toUInt32).toInt32))]))
          refine Onw.go (fun own_u kt => XS.i2c X0.here hx rfl (hb hby d1_39) rfl kt) ?_
          show Onw p e below _ (s₁.setTop (mkF m 40 #[.val (.int p0), .val (.int k)] [(.int (((p0.toUInt32 >>> ((3 : Int32) &&& 31).toUInt32).toInt32).toUInt32.toUInt16.toUInt32.toInt32))]))
          exact Onw.ret X0 Bd.notSynchronized (fun h => by rw [Bd.returns] at h; cases h) (fun fs hr => retN X0 hx (t := .char) Bd.returns (by simp) (hb hby d1_40) hr) ⟨(by show some (Value.int (nar .char _)) = some (Value.int (own_draw _)); unfold own_draw; rw [← hk, if_neg h0, if_neg h1, if_neg h2, if_neg h3]), N0, e0⟩ (by decide) (by decide)
theorem ef_2 (m : MethodId) (x0 : Int32) (x1 : Int32) (x2 : Int32) : entryFrame m #[(.int x0), (.int x1), (.int x2)] 3 = mkF m 0 #[.val (.int x0), .val (.int x1), .val (.int x2)] [] := by first | (simp [entryFrame, mkF, argsToLocals, Value.category]; done) | rfl
def Q_rm2 (Z : State) (p0 : Int32) (p1 : Int32) (p2 : Int32) (h0 : Heap) (n0 : Nat) (v : Option Value) (h : Heap) (L : List Loc) : Prop := v = some (.int (own_cov p0 p1 p2)) ∧ Fr n0 L ∧ h = h0
theorem d2_0 : decode method_3_code 0 = .ok (.iload_n 0, 1) := by decide +kernel
theorem d2_1 : decode method_3_code 1 = .ok (.iload_n 1, 1) := by decide +kernel
theorem d2_2 : decode method_3_code 2 = .ok (.if_icmp .lt 14, 3) := by decide +kernel
theorem d2_5 : decode method_3_code 5 = .ok (.iload_n 0, 1) := by decide +kernel
theorem d2_6 : decode method_3_code 6 = .ok (.iload_n 1, 1) := by decide +kernel
theorem d2_7 : decode method_3_code 7 = .ok (.iload_n 2, 1) := by decide +kernel
theorem d2_8 : decode method_3_code 8 = .ok (.iadd, 1) := by decide +kernel
theorem d2_9 : decode method_3_code 9 = .ok (.if_icmp .ge 7, 3) := by decide +kernel
theorem d2_12 : decode method_3_code 12 = .ok (.iconst 1, 1) := by decide +kernel
theorem d2_13 : decode method_3_code 13 = .ok (.goto 4, 3) := by decide +kernel
theorem d2_16 : decode method_3_code 16 = .ok (.iconst 0, 1) := by decide +kernel
theorem d2_17 : decode method_3_code 17 = .ok (.ireturn, 1) := by decide +kernel
set_option maxRecDepth 65536 in
set_option maxHeartbeats 40000000 in
theorem rm2 (l : Launch) (Z : State) (a0 : Array Value) (hw : ∀ d ∈ tables_1, d.before a0 Z = true) (ws : List Jvm.Cond) (p0 : Int32) (p1 : Int32) (p2 : Int32) (h0 : Heap) (n0 : Nat)  :
    MetFree l (⟨"com/example/faultline/faultline/xml/ElementReaderIsWhiteSpacePinLaw", "covers", "(III)Z"⟩ : MethodName) (head1 (Jvm.Cond.code (⟨"com/example/faultline/faultline/xml/ElementReaderIsWhiteSpacePinLaw", "covers", "(III)Z"⟩ : MethodName) method_3_code 3 (some .boolean) :: ws) ({ frames := 0, cells := 0, slots := 0, locals := 0 } : Room)) (fun a U => a = #[(.int p0), (.int p1), (.int p2)] ∧ Z.Warmed39 U.vm ∧ U.heap = h0) (fun _ _ _ _ _ => True) (fun _ U o U' => ∃ v L, o = .returned v ∧ Q_rm2 Z p0 p1 p2 h0 n0 v U'.heap L ∧ FrameEnd U o U' L ({ frames := 0, cells := 0, slots := 0, locals := 0 } : Room).cells ({ frames := 0, cells := 0, slots := 0, locals := 0 } : Room).slots) := by
  refine MetFree.of_bodySF (plainFor_of_name pn_0) hisR ?_
  intro p e s m args below meth c s₁ Bd hml0 hP hK
  obtain ⟨rfl, hZ, hh⟩ := hP
  have hx := Bd.exec
  have hby := Bd.bytes
  have hml : c.maxLocals = 3 := hml0
  have hown : s.vm.findClass "com/example/faultline/faultline/xml/ElementReaderIsWhiteSpacePinLaw" = some m.cls := findClass_of_methodNamed Bd.named
  have hnm := (name_of_methodNamed Bd.named Bd.method).1
  have X0 : Stand p l e ({ frames := 0, cells := 0, slots := 0, locals := 0 } : Room) s m #[(.int p0), (.int p1), (.int p2)] below meth c s₁ [] 0 0 := Stand.of_body Bd
  have e0 : s₁.heap = h0 := by rw [← hh, Bd.state]; rfl
  have N0 := Fr.nil n0
  refine Onw.of (Onw.go (fun own_u k => castTop (ef_2 m p0 p1 p2) k) ?_)
  show Onw p e below _ (s₁.setTop (mkF m 0 #[.val (.int p0), .val (.int p1), .val (.int p2)] []))
  refine Onw.go (fun own_u kt => XS.iloadN X0.here hx rfl (hb hby d2_0) rfl kt) ?_
  show Onw p e below _ (s₁.setTop (mkF m 1 #[.val (.int p0), .val (.int p1), .val (.int p2)] [(.int p0)]))
  refine Onw.go (fun own_u kt => XS.iloadN X0.here hx rfl (hb hby d2_1) rfl kt) ?_
  show Onw p e below _ (s₁.setTop (mkF m 2 #[.val (.int p0), .val (.int p1), .val (.int p2)] [(.int p1), (.int p0)]))
  by_cases h1 : p0 < p1
  · refine Onw.go (fun own_u kt => XS.icmpYes X0.here hx rfl (pc0 := 2) (pc' := 16) rfl (hb hby d2_2) rfl (tlt (h1 : p0 < p1)).1 (by decide) (by decide) kt) ?_
    show Onw p e below _ (s₁.setTop (mkF m 16 #[.val (.int p0), .val (.int p1), .val (.int p2)] []))
    refine Onw.go (fun own_u kt => XS.iconst X0.here hx rfl (hb hby d2_16) kt) ?_
    show Onw p e below _ (s₁.setTop (mkF m 17 #[.val (.int p0), .val (.int p1), .val (.int p2)] [(.int (0 : Int32))]))
    exact Onw.ret X0 Bd.notSynchronized (fun h => by rw [Bd.returns] at h; cases h) (fun fs hr => retN X0 hx (t := .boolean) Bd.returns (by simp) (hb hby d2_17) hr) ⟨(by show some (Value.int (nar .boolean 0)) = _; unfold own_cov; rw [if_pos h1]; rfl), N0, e0⟩ (by decide) (by decide)
  · refine Onw.go (fun own_u kt => XS.icmpNo X0.here hx rfl (hb hby d2_2) rfl (flt (h1 : ¬ (p0 < p1))).1 kt) ?_
    show Onw p e below _ (s₁.setTop (mkF m 5 #[.val (.int p0), .val (.int p1), .val (.int p2)] []))
    refine Onw.go (fun own_u kt => XS.iloadN X0.here hx rfl (hb hby d2_5) rfl kt) ?_
    show Onw p e below _ (s₁.setTop (mkF m 6 #[.val (.int p0), .val (.int p1), .val (.int p2)] [(.int p0)]))
    refine Onw.go (fun own_u kt => XS.iloadN X0.here hx rfl (hb hby d2_6) rfl kt) ?_
    show Onw p e below _ (s₁.setTop (mkF m 7 #[.val (.int p0), .val (.int p1), .val (.int p2)] [(.int p1), (.int p0)]))
    refine Onw.go (fun own_u kt => XS.iloadN X0.here hx rfl (hb hby d2_7) rfl kt) ?_
    show Onw p e below _ (s₁.setTop (mkF m 8 #[.val (.int p0), .val (.int p1), .val (.int p2)] [(.int p2), (.int p1), (.int p0)]))
    refine Onw.go (fun own_u kt => XS.iadd X0.here hx rfl (hb hby d2_8) rfl kt) ?_
    show Onw p e below _ (s₁.setTop (mkF m 9 #[.val (.int p0), .val (.int p1), .val (.int p2)] [(.int (p1 + p2)), (.int p0)]))
    by_cases h2 : p0 < (p1 + p2)
    · refine Onw.go (fun own_u kt => XS.icmpNo X0.here hx rfl (hb hby d2_9) rfl (tlt (h2 : p0 < (p1 + p2))).2.1 kt) ?_
      show Onw p e below _ (s₁.setTop (mkF m 12 #[.val (.int p0), .val (.int p1), .val (.int p2)] []))
      refine Onw.go (fun own_u kt => XS.iconst X0.here hx rfl (hb hby d2_12) kt) ?_
      show Onw p e below _ (s₁.setTop (mkF m 13 #[.val (.int p0), .val (.int p1), .val (.int p2)] [(.int (1 : Int32))]))
      refine Onw.go (fun own_u kt => XS.goto X0.here hx rfl (pc0 := 13) (pc' := 17) rfl (hb hby d2_13) (by decide) (by decide) kt) ?_
      show Onw p e below _ (s₁.setTop (mkF m 17 #[.val (.int p0), .val (.int p1), .val (.int p2)] [(.int (1 : Int32))]))
      exact Onw.ret X0 Bd.notSynchronized (fun h => by rw [Bd.returns] at h; cases h) (fun fs hr => retN X0 hx (t := .boolean) Bd.returns (by simp) (hb hby d2_17) hr) ⟨(by show some (Value.int (nar .boolean 1)) = _; unfold own_cov; rw [if_neg h1, if_pos h2]; rfl), N0, e0⟩ (by decide) (by decide)
    · refine Onw.go (fun own_u kt => XS.icmpYes X0.here hx rfl (pc0 := 9) (pc' := 16) rfl (hb hby d2_9) rfl (flt (h2 : ¬ (p0 < (p1 + p2)))).2.1 (by decide) (by decide) kt) ?_
      show Onw p e below _ (s₁.setTop (mkF m 16 #[.val (.int p0), .val (.int p1), .val (.int p2)] []))
      refine Onw.go (fun own_u kt => XS.iconst X0.here hx rfl (hb hby d2_16) kt) ?_
      show Onw p e below _ (s₁.setTop (mkF m 17 #[.val (.int p0), .val (.int p1), .val (.int p2)] [(.int (0 : Int32))]))
      exact Onw.ret X0 Bd.notSynchronized (fun h => by rw [Bd.returns] at h; cases h) (fun fs hr => retN X0 hx (t := .boolean) Bd.returns (by simp) (hb hby d2_17) hr) ⟨(by show some (Value.int (nar .boolean 0)) = _; unfold own_cov; rw [if_neg h1, if_neg h2]; rfl), N0, e0⟩ (by decide) (by decide)
theorem ef_3 (m : MethodId) (x0 : Int32) : entryFrame m #[(.int x0)] 1 = mkF m 0 #[.val (.int x0)] [] := by first | (simp [entryFrame, mkF, argsToLocals, Value.category]; done) | rfl
def Q_rm3 (Z : State) (p0 : Int32) (h0 : Heap) (n0 : Nat) (v : Option Value) (h : Heap) (L : List Loc) : Prop := v = some (.int (own_sp p0)) ∧ Fr n0 L ∧ h = h0
theorem d3_0 : decode method_4_code 0 = .ok (.iload_n 0, 1) := by decide +kernel
theorem d3_1 : decode method_4_code 1 = .ok (.bipush 32, 2) := by decide +kernel
theorem d3_3 : decode method_4_code 3 = .ok (.if_icmp .eq 21, 3) := by decide +kernel
theorem d3_6 : decode method_4_code 6 = .ok (.iload_n 0, 1) := by decide +kernel
theorem d3_7 : decode method_4_code 7 = .ok (.bipush 9, 2) := by decide +kernel
theorem d3_9 : decode method_4_code 9 = .ok (.if_icmp .eq 15, 3) := by decide +kernel
theorem d3_12 : decode method_4_code 12 = .ok (.iload_n 0, 1) := by decide +kernel
theorem d3_13 : decode method_4_code 13 = .ok (.bipush 13, 2) := by decide +kernel
theorem d3_15 : decode method_4_code 15 = .ok (.if_icmp .eq 9, 3) := by decide +kernel
theorem d3_18 : decode method_4_code 18 = .ok (.iload_n 0, 1) := by decide +kernel
theorem d3_19 : decode method_4_code 19 = .ok (.bipush 10, 2) := by decide +kernel
theorem d3_21 : decode method_4_code 21 = .ok (.if_icmp .ne 7, 3) := by decide +kernel
theorem d3_24 : decode method_4_code 24 = .ok (.iconst 1, 1) := by decide +kernel
theorem d3_25 : decode method_4_code 25 = .ok (.goto 4, 3) := by decide +kernel
theorem d3_28 : decode method_4_code 28 = .ok (.iconst 0, 1) := by decide +kernel
theorem d3_29 : decode method_4_code 29 = .ok (.ireturn, 1) := by decide +kernel
set_option maxRecDepth 65536 in
set_option maxHeartbeats 40000000 in
theorem rm3 (l : Launch) (Z : State) (a0 : Array Value) (hw : ∀ d ∈ tables_1, d.before a0 Z = true) (ws : List Jvm.Cond) (p0 : Int32) (h0 : Heap) (n0 : Nat)  :
    MetFree l (⟨"com/example/faultline/faultline/xml/ElementReaderIsWhiteSpacePinLaw", "isSpace", "(C)Z"⟩ : MethodName) (head1 (Jvm.Cond.code (⟨"com/example/faultline/faultline/xml/ElementReaderIsWhiteSpacePinLaw", "isSpace", "(C)Z"⟩ : MethodName) method_4_code 1 (some .boolean) :: ws) ({ frames := 0, cells := 0, slots := 0, locals := 0 } : Room)) (fun a U => a = #[(.int p0)] ∧ Z.Warmed39 U.vm ∧ U.heap = h0) (fun _ _ _ _ _ => True) (fun _ U o U' => ∃ v L, o = .returned v ∧ Q_rm3 Z p0 h0 n0 v U'.heap L ∧ FrameEnd U o U' L ({ frames := 0, cells := 0, slots := 0, locals := 0 } : Room).cells ({ frames := 0, cells := 0, slots := 0, locals := 0 } : Room).slots) := by
  refine MetFree.of_bodySF (plainFor_of_name pn_0) hisR ?_
  intro p e s m args below meth c s₁ Bd hml0 hP hK
  obtain ⟨rfl, hZ, hh⟩ := hP
  have hx := Bd.exec
  have hby := Bd.bytes
  have hml : c.maxLocals = 1 := hml0
  have hown : s.vm.findClass "com/example/faultline/faultline/xml/ElementReaderIsWhiteSpacePinLaw" = some m.cls := findClass_of_methodNamed Bd.named
  have hnm := (name_of_methodNamed Bd.named Bd.method).1
  have X0 : Stand p l e ({ frames := 0, cells := 0, slots := 0, locals := 0 } : Room) s m #[(.int p0)] below meth c s₁ [] 0 0 := Stand.of_body Bd
  have e0 : s₁.heap = h0 := by rw [← hh, Bd.state]; rfl
  have N0 := Fr.nil n0
  refine Onw.of (Onw.go (fun own_u k => castTop (ef_3 m p0) k) ?_)
  show Onw p e below _ (s₁.setTop (mkF m 0 #[.val (.int p0)] []))
  refine Onw.go (fun own_u kt => XS.iloadN X0.here hx rfl (hb hby d3_0) rfl kt) ?_
  show Onw p e below _ (s₁.setTop (mkF m 1 #[.val (.int p0)] [(.int p0)]))
  refine Onw.go (fun own_u kt => XS.bipush X0.here hx rfl (hb hby d3_1) kt) ?_
  show Onw p e below _ (s₁.setTop (mkF m 3 #[.val (.int p0)] [(.int (32 : Int32)), (.int p0)]))
  by_cases h0 : p0 = (32 : Int32)
  · refine Onw.go (fun own_u kt => XS.icmpYes X0.here hx rfl (pc0 := 3) (pc' := 24) rfl (hb hby d3_3) rfl (teq (h0 : p0 = (32 : Int32))).1 (by decide) (by decide) kt) ?_
    show Onw p e below _ (s₁.setTop (mkF m 24 #[.val (.int p0)] []))
    refine Onw.go (fun own_u kt => XS.iconst X0.here hx rfl (hb hby d3_24) kt) ?_
    show Onw p e below _ (s₁.setTop (mkF m 25 #[.val (.int p0)] [(.int (1 : Int32))]))
    refine Onw.go (fun own_u kt => XS.goto X0.here hx rfl (pc0 := 25) (pc' := 29) rfl (hb hby d3_25) (by decide) (by decide) kt) ?_
    show Onw p e below _ (s₁.setTop (mkF m 29 #[.val (.int p0)] [(.int (1 : Int32))]))
    exact Onw.ret X0 Bd.notSynchronized (fun h => by rw [Bd.returns] at h; cases h) (fun fs hr => retN X0 hx (t := .boolean) Bd.returns (by simp) (hb hby d3_29) hr) ⟨(by show some (Value.int (nar .boolean 1)) = _; unfold own_sp; rw [if_pos h0]; rfl), N0, e0⟩ (by decide) (by decide)
  · refine Onw.go (fun own_u kt => XS.icmpNo X0.here hx rfl (hb hby d3_3) rfl (feq (h0 : ¬ (p0 = (32 : Int32)))).1 kt) ?_
    show Onw p e below _ (s₁.setTop (mkF m 6 #[.val (.int p0)] []))
    refine Onw.go (fun own_u kt => XS.iloadN X0.here hx rfl (hb hby d3_6) rfl kt) ?_
    show Onw p e below _ (s₁.setTop (mkF m 7 #[.val (.int p0)] [(.int p0)]))
    refine Onw.go (fun own_u kt => XS.bipush X0.here hx rfl (hb hby d3_7) kt) ?_
    show Onw p e below _ (s₁.setTop (mkF m 9 #[.val (.int p0)] [(.int (9 : Int32)), (.int p0)]))
    by_cases h1 : p0 = (9 : Int32)
    · refine Onw.go (fun own_u kt => XS.icmpYes X0.here hx rfl (pc0 := 9) (pc' := 24) rfl (hb hby d3_9) rfl (teq (h1 : p0 = (9 : Int32))).1 (by decide) (by decide) kt) ?_
      show Onw p e below _ (s₁.setTop (mkF m 24 #[.val (.int p0)] []))
      refine Onw.go (fun own_u kt => XS.iconst X0.here hx rfl (hb hby d3_24) kt) ?_
      show Onw p e below _ (s₁.setTop (mkF m 25 #[.val (.int p0)] [(.int (1 : Int32))]))
      refine Onw.go (fun own_u kt => XS.goto X0.here hx rfl (pc0 := 25) (pc' := 29) rfl (hb hby d3_25) (by decide) (by decide) kt) ?_
      show Onw p e below _ (s₁.setTop (mkF m 29 #[.val (.int p0)] [(.int (1 : Int32))]))
      exact Onw.ret X0 Bd.notSynchronized (fun h => by rw [Bd.returns] at h; cases h) (fun fs hr => retN X0 hx (t := .boolean) Bd.returns (by simp) (hb hby d3_29) hr) ⟨(by show some (Value.int (nar .boolean 1)) = _; unfold own_sp; rw [if_neg h0, if_pos h1]; rfl), N0, e0⟩ (by decide) (by decide)
    · refine Onw.go (fun own_u kt => XS.icmpNo X0.here hx rfl (hb hby d3_9) rfl (feq (h1 : ¬ (p0 = (9 : Int32)))).1 kt) ?_
      show Onw p e below _ (s₁.setTop (mkF m 12 #[.val (.int p0)] []))
      refine Onw.go (fun own_u kt => XS.iloadN X0.here hx rfl (hb hby d3_12) rfl kt) ?_
      show Onw p e below _ (s₁.setTop (mkF m 13 #[.val (.int p0)] [(.int p0)]))
      refine Onw.go (fun own_u kt => XS.bipush X0.here hx rfl (hb hby d3_13) kt) ?_
      show Onw p e below _ (s₁.setTop (mkF m 15 #[.val (.int p0)] [(.int (13 : Int32)), (.int p0)]))
      by_cases h2 : p0 = (13 : Int32)
      · refine Onw.go (fun own_u kt => XS.icmpYes X0.here hx rfl (pc0 := 15) (pc' := 24) rfl (hb hby d3_15) rfl (teq (h2 : p0 = (13 : Int32))).1 (by decide) (by decide) kt) ?_
        show Onw p e below _ (s₁.setTop (mkF m 24 #[.val (.int p0)] []))
        refine Onw.go (fun own_u kt => XS.iconst X0.here hx rfl (hb hby d3_24) kt) ?_
        show Onw p e below _ (s₁.setTop (mkF m 25 #[.val (.int p0)] [(.int (1 : Int32))]))
        refine Onw.go (fun own_u kt => XS.goto X0.here hx rfl (pc0 := 25) (pc' := 29) rfl (hb hby d3_25) (by decide) (by decide) kt) ?_
        show Onw p e below _ (s₁.setTop (mkF m 29 #[.val (.int p0)] [(.int (1 : Int32))]))
        exact Onw.ret X0 Bd.notSynchronized (fun h => by rw [Bd.returns] at h; cases h) (fun fs hr => retN X0 hx (t := .boolean) Bd.returns (by simp) (hb hby d3_29) hr) ⟨(by show some (Value.int (nar .boolean 1)) = _; unfold own_sp; rw [if_neg h0, if_neg h1, if_pos h2]; rfl), N0, e0⟩ (by decide) (by decide)
      · refine Onw.go (fun own_u kt => XS.icmpNo X0.here hx rfl (hb hby d3_15) rfl (feq (h2 : ¬ (p0 = (13 : Int32)))).1 kt) ?_
        show Onw p e below _ (s₁.setTop (mkF m 18 #[.val (.int p0)] []))
        refine Onw.go (fun own_u kt => XS.iloadN X0.here hx rfl (hb hby d3_18) rfl kt) ?_
        show Onw p e below _ (s₁.setTop (mkF m 19 #[.val (.int p0)] [(.int p0)]))
        refine Onw.go (fun own_u kt => XS.bipush X0.here hx rfl (hb hby d3_19) kt) ?_
        show Onw p e below _ (s₁.setTop (mkF m 21 #[.val (.int p0)] [(.int (10 : Int32)), (.int p0)]))
        by_cases h3 : p0 = (10 : Int32)
        · refine Onw.go (fun own_u kt => XS.icmpNo X0.here hx rfl (hb hby d3_21) rfl (teq (h3 : p0 = (10 : Int32))).2 kt) ?_
          show Onw p e below _ (s₁.setTop (mkF m 24 #[.val (.int p0)] []))
          refine Onw.go (fun own_u kt => XS.iconst X0.here hx rfl (hb hby d3_24) kt) ?_
          show Onw p e below _ (s₁.setTop (mkF m 25 #[.val (.int p0)] [(.int (1 : Int32))]))
          refine Onw.go (fun own_u kt => XS.goto X0.here hx rfl (pc0 := 25) (pc' := 29) rfl (hb hby d3_25) (by decide) (by decide) kt) ?_
          show Onw p e below _ (s₁.setTop (mkF m 29 #[.val (.int p0)] [(.int (1 : Int32))]))
          exact Onw.ret X0 Bd.notSynchronized (fun h => by rw [Bd.returns] at h; cases h) (fun fs hr => retN X0 hx (t := .boolean) Bd.returns (by simp) (hb hby d3_29) hr) ⟨(by show some (Value.int (nar .boolean 1)) = _; unfold own_sp; rw [if_neg h0, if_neg h1, if_neg h2, if_pos h3]; rfl), N0, e0⟩ (by decide) (by decide)
        · refine Onw.go (fun own_u kt => XS.icmpYes X0.here hx rfl (pc0 := 21) (pc' := 28) rfl (hb hby d3_21) rfl (feq (h3 : ¬ (p0 = (10 : Int32)))).2 (by decide) (by decide) kt) ?_
          show Onw p e below _ (s₁.setTop (mkF m 28 #[.val (.int p0)] []))
          refine Onw.go (fun own_u kt => XS.iconst X0.here hx rfl (hb hby d3_28) kt) ?_
          show Onw p e below _ (s₁.setTop (mkF m 29 #[.val (.int p0)] [(.int (0 : Int32))]))
          exact Onw.ret X0 Bd.notSynchronized (fun h => by rw [Bd.returns] at h; cases h) (fun fs hr => retN X0 hx (t := .boolean) Bd.returns (by simp) (hb hby d3_29) hr) ⟨(by show some (Value.int (nar .boolean 0)) = _; unfold own_sp; rw [if_neg h0, if_neg h1, if_neg h2, if_neg h3]; rfl), N0, e0⟩ (by decide) (by decide)
theorem own_os {a b c d e o : Slot} {v : Int32} (h : One o) : storeLocals #[a, b, c, d, e, o] 5 (.int v) = some #[a, b, c, d, e, .val (.int v)] := by
  rcases h with rfl | ⟨w, rfl, hw⟩
  · rfl
  · cases w <;> first | rfl | (simp [Value.category] at hw)
theorem d4_5 : decode prog_72_method_6_code 5 = .ok (.iload 4, 2) := by decide +kernel
theorem d4_7 : decode prog_72_method_6_code 7 = .ok (.iload_n 1, 1) := by decide +kernel
theorem d4_8 : decode prog_72_method_6_code 8 = .ok (.iload_n 2, 1) := by decide +kernel
theorem d4_9 : decode prog_72_method_6_code 9 = .ok (.iadd, 1) := by decide +kernel
theorem d4_10 : decode prog_72_method_6_code 10 = .ok (.if_icmp .ge 53, 3) := by decide +kernel
theorem d4_13 : decode prog_72_method_6_code 13 = .ok (.iload_n 3, 1) := by decide +kernel
theorem d4_14 : decode prog_72_method_6_code 14 = .ok (.ifCond .eq 49, 3) := by decide +kernel
theorem d4_17 : decode prog_72_method_6_code 17 = .ok (.aload_n 0, 1) := by decide +kernel
theorem d4_18 : decode prog_72_method_6_code 18 = .ok (.iload 4, 2) := by decide +kernel
theorem d4_20 : decode prog_72_method_6_code 20 = .ok (.caload, 1) := by decide +kernel
theorem d4_21 : decode prog_72_method_6_code 21 = .ok (.istore 5, 2) := by decide +kernel
theorem d4_23 : decode prog_72_method_6_code 23 = .ok (.iload 5, 2) := by decide +kernel
theorem d4_25 : decode prog_72_method_6_code 25 = .ok (.bipush 32, 2) := by decide +kernel
theorem d4_27 : decode prog_72_method_6_code 27 = .ok (.if_icmp .eq 24, 3) := by decide +kernel
theorem d4_30 : decode prog_72_method_6_code 30 = .ok (.iload 5, 2) := by decide +kernel
theorem d4_32 : decode prog_72_method_6_code 32 = .ok (.bipush 9, 2) := by decide +kernel
theorem d4_34 : decode prog_72_method_6_code 34 = .ok (.if_icmp .eq 17, 3) := by decide +kernel
theorem d4_37 : decode prog_72_method_6_code 37 = .ok (.iload 5, 2) := by decide +kernel
theorem d4_39 : decode prog_72_method_6_code 39 = .ok (.bipush 13, 2) := by decide +kernel
theorem d4_41 : decode prog_72_method_6_code 41 = .ok (.if_icmp .eq 10, 3) := by decide +kernel
theorem d4_44 : decode prog_72_method_6_code 44 = .ok (.iload 5, 2) := by decide +kernel
theorem d4_46 : decode prog_72_method_6_code 46 = .ok (.bipush 10, 2) := by decide +kernel
theorem d4_48 : decode prog_72_method_6_code 48 = .ok (.if_icmp .ne 7, 3) := by decide +kernel
theorem d4_51 : decode prog_72_method_6_code 51 = .ok (.iconst 1, 1) := by decide +kernel
theorem d4_52 : decode prog_72_method_6_code 52 = .ok (.goto 4, 3) := by decide +kernel
theorem d4_55 : decode prog_72_method_6_code 55 = .ok (.iconst 0, 1) := by decide +kernel
theorem d4_56 : decode prog_72_method_6_code 56 = .ok (.istore_n 3, 1) := by decide +kernel
theorem d4_57 : decode prog_72_method_6_code 57 = .ok (.iinc 4 1, 3) := by decide +kernel
theorem d4_60 : decode prog_72_method_6_code 60 = .ok (.goto (-55), 3) := by decide +kernel
set_option maxRecDepth 65536 in
set_option maxHeartbeats 40000000 in
theorem ws_turn {p : Program} {l : Launch} {e : Env} {R : Room} {s : State} {m : MethodId} {args : Array Value} {below : List Frame} {meth : Method} {c : Code} {Z : State} {a0 : Array Value} {W : Outcome → State → Prop} (hx : p.tables.exec = Jvm.exec) (hZ : Z.Warmed39 s.vm) (hw : ∀ d ∈ tables_1, d.before a0 Z = true) (hby : c.code = prog_72_method_6_code) (hml : c.maxLocals = 6) (hown : s.vm.findClass "com/example/faultline/faultline/xml/ElementReader" = some m.cls) {h0 : Heap} {n0 : Nat}  (r0 : Addr) (p1 p2 w i : Int32) (s5 : Slot) (cl : Cell) (x : Int32)
    {T0 : State} {locs0 : List Loc} {cells slots : Nat} (X0 : Stand p l e R s m args below meth c T0 locs0 cells slots) (e0 : T0.heap = h0) (N0 : Fr n0 locs0) (h5 : One s5) (hlt : i < (p1 + p2)) (hw1 : ¬ (w = (0 : Int32))) (Ar : Arr Z h0 r0 cl .char) (hin : ¬ (i < 0 ∨ cl.slots.size ≤ i.toNatClampNeg)) (hat : cl.slots[i.toNatClampNeg]? = some (.int x)) (hK : Onw p e below W (T0.setTop (mkF m 5 #[.val (.ref r0), .val (.int p1), .val (.int p2), .val (.int (own_sp x)), .val (.int (i + (1 : Int32))), .val (.int x)] []))) :
    Onw p e below W (T0.setTop (mkF m 5 #[.val (.ref r0), .val (.int p1), .val (.int p2), .val (.int w), .val (.int i), s5] [])) := by
  refine Onw.go (fun own_u kt => XS.iload X0.here hx rfl (hb hby d4_5) rfl kt) ?_
  show Onw p e below _ (T0.setTop (mkF m 7 #[.val (.ref r0), .val (.int p1), .val (.int p2), .val (.int w), .val (.int i), s5] [(.int i)]))
  refine Onw.go (fun own_u kt => XS.iloadN X0.here hx rfl (hb hby d4_7) rfl kt) ?_
  show Onw p e below _ (T0.setTop (mkF m 8 #[.val (.ref r0), .val (.int p1), .val (.int p2), .val (.int w), .val (.int i), s5] [(.int p1), (.int i)]))
  refine Onw.go (fun own_u kt => XS.iloadN X0.here hx rfl (hb hby d4_8) rfl kt) ?_
  show Onw p e below _ (T0.setTop (mkF m 9 #[.val (.ref r0), .val (.int p1), .val (.int p2), .val (.int w), .val (.int i), s5] [(.int p2), (.int p1), (.int i)]))
  refine Onw.go (fun own_u kt => XS.iadd X0.here hx rfl (hb hby d4_9) rfl kt) ?_
  show Onw p e below _ (T0.setTop (mkF m 10 #[.val (.ref r0), .val (.int p1), .val (.int p2), .val (.int w), .val (.int i), s5] [(.int (p1 + p2)), (.int i)]))
  refine Onw.go (fun own_u kt => XS.icmpNo X0.here hx rfl (hb hby d4_10) rfl (tlt (hlt : i < (p1 + p2))).2.1 kt) ?_
  show Onw p e below _ (T0.setTop (mkF m 13 #[.val (.ref r0), .val (.int p1), .val (.int p2), .val (.int w), .val (.int i), s5] []))
  refine Onw.go (fun own_u kt => XS.iloadN X0.here hx rfl (hb hby d4_13) rfl kt) ?_
  show Onw p e below _ (T0.setTop (mkF m 14 #[.val (.ref r0), .val (.int p1), .val (.int p2), .val (.int w), .val (.int i), s5] [(.int w)]))
  refine Onw.go (fun own_u kt => XS.ifNo X0.here hx rfl (hb hby d4_14) rfl ((if0 _ _).trans (feq (hw1 : ¬ (w = (0 : Int32)))).1) kt) ?_
  show Onw p e below _ (T0.setTop (mkF m 17 #[.val (.ref r0), .val (.int p1), .val (.int p2), .val (.int w), .val (.int i), s5] []))
  refine Onw.go (fun own_u kt => XS.aloadN X0.here hx rfl (hb hby d4_17) rfl rfl kt) ?_
  show Onw p e below _ (T0.setTop (mkF m 18 #[.val (.ref r0), .val (.int p1), .val (.int p2), .val (.int w), .val (.int i), s5] [(.ref r0)]))
  refine Onw.go (fun own_u kt => XS.iload X0.here hx rfl (hb hby d4_18) rfl kt) ?_
  show Onw p e below _ (T0.setTop (mkF m 20 #[.val (.ref r0), .val (.int p1), .val (.int p2), .val (.int w), .val (.int i), s5] [(.int i), (.ref r0)]))
  refine Onw.go (X0.caload hx (j := i) (v := (.int x)) (by rw [e0]; exact Ar.1) (State.isArrayOf_alike hZ.alike Ar.2.1) Ar.2.2 hin hat (g := (mkF m 20 #[.val (.ref r0), .val (.int p1), .val (.int p2), .val (.int w), .val (.int i), s5] [(.int i), (.ref r0)])) rfl rfl (hb hby d4_20)) ?_
  show Onw p e below _ (T0.setTop (mkF m 21 #[.val (.ref r0), .val (.int p1), .val (.int p2), .val (.int w), .val (.int i), s5] [(.int x)]))
  refine Onw.go (fun own_u kt => XS.istore X0.here hx rfl (hb hby d4_21) rfl (l' := #[.val (.ref r0), .val (.int p1), .val (.int p2), .val (.int w), .val (.int i), .val (.int x)]) (own_os h5) kt) ?_
  show Onw p e below _ (T0.setTop (mkF m 23 #[.val (.ref r0), .val (.int p1), .val (.int p2), .val (.int w), .val (.int i), .val (.int x)] []))
  refine Onw.go (fun own_u kt => XS.iload X0.here hx rfl (hb hby d4_23) rfl kt) ?_
  show Onw p e below _ (T0.setTop (mkF m 25 #[.val (.ref r0), .val (.int p1), .val (.int p2), .val (.int w), .val (.int i), .val (.int x)] [(.int x)]))
  refine Onw.go (fun own_u kt => XS.bipush X0.here hx rfl (hb hby d4_25) kt) ?_
  show Onw p e below _ (T0.setTop (mkF m 27 #[.val (.ref r0), .val (.int p1), .val (.int p2), .val (.int w), .val (.int i), .val (.int x)] [(.int (32 : Int32)), (.int x)]))
  by_cases h0 : x = (32 : Int32)
  · refine Onw.go (fun own_u kt => XS.icmpYes X0.here hx rfl (pc0 := 27) (pc' := 51) rfl (hb hby d4_27) rfl (teq (h0 : x = (32 : Int32))).1 (by decide) (by decide) kt) ?_
    show Onw p e below _ (T0.setTop (mkF m 51 #[.val (.ref r0), .val (.int p1), .val (.int p2), .val (.int w), .val (.int i), .val (.int x)] []))
    refine Onw.go (fun own_u kt => XS.iconst X0.here hx rfl (hb hby d4_51) kt) ?_
    show Onw p e below _ (T0.setTop (mkF m 52 #[.val (.ref r0), .val (.int p1), .val (.int p2), .val (.int w), .val (.int i), .val (.int x)] [(.int (1 : Int32))]))
    refine Onw.go (fun own_u kt => XS.goto X0.here hx rfl (pc0 := 52) (pc' := 56) rfl (hb hby d4_52) (by decide) (by decide) kt) ?_
    show Onw p e below _ (T0.setTop (mkF m 56 #[.val (.ref r0), .val (.int p1), .val (.int p2), .val (.int w), .val (.int i), .val (.int x)] [(.int (1 : Int32))]))
    refine Onw.go (fun own_u kt => XS.istoreN X0.here hx rfl (hb hby d4_56) rfl (l' := #[.val (.ref r0), .val (.int p1), .val (.int p2), .val (.int (1 : Int32)), .val (.int i), .val (.int x)]) rfl kt) ?_
    show Onw p e below _ (T0.setTop (mkF m 57 #[.val (.ref r0), .val (.int p1), .val (.int p2), .val (.int (1 : Int32)), .val (.int i), .val (.int x)] []))
    refine Onw.go (fun own_u kt => XS.iinc X0.here hx rfl (hb hby d4_57) rfl (l' := #[.val (.ref r0), .val (.int p1), .val (.int p2), .val (.int (1 : Int32)), .val (.int (i + (1 : Int32))), .val (.int x)]) rfl kt) ?_
    show Onw p e below _ (T0.setTop (mkF m 60 #[.val (.ref r0), .val (.int p1), .val (.int p2), .val (.int (1 : Int32)), .val (.int (i + (1 : Int32))), .val (.int x)] []))
    refine Onw.go (fun own_u kt => XS.goto X0.here hx rfl (pc0 := 60) (pc' := 5) rfl (hb hby d4_60) (by decide) (by decide) kt) ?_
    show Onw p e below _ (T0.setTop (mkF m 5 #[.val (.ref r0), .val (.int p1), .val (.int p2), .val (.int (1 : Int32)), .val (.int (i + (1 : Int32))), .val (.int x)] []))
    have hs : own_sp x = (1 : Int32) := by unfold own_sp; rw [if_pos h0]
    rw [hs] at hK
    exact hK
  · refine Onw.go (fun own_u kt => XS.icmpNo X0.here hx rfl (hb hby d4_27) rfl (feq (h0 : ¬ (x = (32 : Int32)))).1 kt) ?_
    show Onw p e below _ (T0.setTop (mkF m 30 #[.val (.ref r0), .val (.int p1), .val (.int p2), .val (.int w), .val (.int i), .val (.int x)] []))
    refine Onw.go (fun own_u kt => XS.iload X0.here hx rfl (hb hby d4_30) rfl kt) ?_
    show Onw p e below _ (T0.setTop (mkF m 32 #[.val (.ref r0), .val (.int p1), .val (.int p2), .val (.int w), .val (.int i), .val (.int x)] [(.int x)]))
    refine Onw.go (fun own_u kt => XS.bipush X0.here hx rfl (hb hby d4_32) kt) ?_
    show Onw p e below _ (T0.setTop (mkF m 34 #[.val (.ref r0), .val (.int p1), .val (.int p2), .val (.int w), .val (.int i), .val (.int x)] [(.int (9 : Int32)), (.int x)]))
    by_cases h1 : x = (9 : Int32)
    · refine Onw.go (fun own_u kt => XS.icmpYes X0.here hx rfl (pc0 := 34) (pc' := 51) rfl (hb hby d4_34) rfl (teq (h1 : x = (9 : Int32))).1 (by decide) (by decide) kt) ?_
      show Onw p e below _ (T0.setTop (mkF m 51 #[.val (.ref r0), .val (.int p1), .val (.int p2), .val (.int w), .val (.int i), .val (.int x)] []))
      refine Onw.go (fun own_u kt => XS.iconst X0.here hx rfl (hb hby d4_51) kt) ?_
      show Onw p e below _ (T0.setTop (mkF m 52 #[.val (.ref r0), .val (.int p1), .val (.int p2), .val (.int w), .val (.int i), .val (.int x)] [(.int (1 : Int32))]))
      refine Onw.go (fun own_u kt => XS.goto X0.here hx rfl (pc0 := 52) (pc' := 56) rfl (hb hby d4_52) (by decide) (by decide) kt) ?_
      show Onw p e below _ (T0.setTop (mkF m 56 #[.val (.ref r0), .val (.int p1), .val (.int p2), .val (.int w), .val (.int i), .val (.int x)] [(.int (1 : Int32))]))
      refine Onw.go (fun own_u kt => XS.istoreN X0.here hx rfl (hb hby d4_56) rfl (l' := #[.val (.ref r0), .val (.int p1), .val (.int p2), .val (.int (1 : Int32)), .val (.int i), .val (.int x)]) rfl kt) ?_
      show Onw p e below _ (T0.setTop (mkF m 57 #[.val (.ref r0), .val (.int p1), .val (.int p2), .val (.int (1 : Int32)), .val (.int i), .val (.int x)] []))
      refine Onw.go (fun own_u kt => XS.iinc X0.here hx rfl (hb hby d4_57) rfl (l' := #[.val (.ref r0), .val (.int p1), .val (.int p2), .val (.int (1 : Int32)), .val (.int (i + (1 : Int32))), .val (.int x)]) rfl kt) ?_
      show Onw p e below _ (T0.setTop (mkF m 60 #[.val (.ref r0), .val (.int p1), .val (.int p2), .val (.int (1 : Int32)), .val (.int (i + (1 : Int32))), .val (.int x)] []))
      refine Onw.go (fun own_u kt => XS.goto X0.here hx rfl (pc0 := 60) (pc' := 5) rfl (hb hby d4_60) (by decide) (by decide) kt) ?_
      show Onw p e below _ (T0.setTop (mkF m 5 #[.val (.ref r0), .val (.int p1), .val (.int p2), .val (.int (1 : Int32)), .val (.int (i + (1 : Int32))), .val (.int x)] []))
      have hs : own_sp x = (1 : Int32) := by unfold own_sp; rw [if_neg h0, if_pos h1]
      rw [hs] at hK
      exact hK
    · refine Onw.go (fun own_u kt => XS.icmpNo X0.here hx rfl (hb hby d4_34) rfl (feq (h1 : ¬ (x = (9 : Int32)))).1 kt) ?_
      show Onw p e below _ (T0.setTop (mkF m 37 #[.val (.ref r0), .val (.int p1), .val (.int p2), .val (.int w), .val (.int i), .val (.int x)] []))
      refine Onw.go (fun own_u kt => XS.iload X0.here hx rfl (hb hby d4_37) rfl kt) ?_
      show Onw p e below _ (T0.setTop (mkF m 39 #[.val (.ref r0), .val (.int p1), .val (.int p2), .val (.int w), .val (.int i), .val (.int x)] [(.int x)]))
      refine Onw.go (fun own_u kt => XS.bipush X0.here hx rfl (hb hby d4_39) kt) ?_
      show Onw p e below _ (T0.setTop (mkF m 41 #[.val (.ref r0), .val (.int p1), .val (.int p2), .val (.int w), .val (.int i), .val (.int x)] [(.int (13 : Int32)), (.int x)]))
      by_cases h2 : x = (13 : Int32)
      · refine Onw.go (fun own_u kt => XS.icmpYes X0.here hx rfl (pc0 := 41) (pc' := 51) rfl (hb hby d4_41) rfl (teq (h2 : x = (13 : Int32))).1 (by decide) (by decide) kt) ?_
        show Onw p e below _ (T0.setTop (mkF m 51 #[.val (.ref r0), .val (.int p1), .val (.int p2), .val (.int w), .val (.int i), .val (.int x)] []))
        refine Onw.go (fun own_u kt => XS.iconst X0.here hx rfl (hb hby d4_51) kt) ?_
        show Onw p e below _ (T0.setTop (mkF m 52 #[.val (.ref r0), .val (.int p1), .val (.int p2), .val (.int w), .val (.int i), .val (.int x)] [(.int (1 : Int32))]))
        refine Onw.go (fun own_u kt => XS.goto X0.here hx rfl (pc0 := 52) (pc' := 56) rfl (hb hby d4_52) (by decide) (by decide) kt) ?_
        show Onw p e below _ (T0.setTop (mkF m 56 #[.val (.ref r0), .val (.int p1), .val (.int p2), .val (.int w), .val (.int i), .val (.int x)] [(.int (1 : Int32))]))
        refine Onw.go (fun own_u kt => XS.istoreN X0.here hx rfl (hb hby d4_56) rfl (l' := #[.val (.ref r0), .val (.int p1), .val (.int p2), .val (.int (1 : Int32)), .val (.int i), .val (.int x)]) rfl kt) ?_
        show Onw p e below _ (T0.setTop (mkF m 57 #[.val (.ref r0), .val (.int p1), .val (.int p2), .val (.int (1 : Int32)), .val (.int i), .val (.int x)] []))
        refine Onw.go (fun own_u kt => XS.iinc X0.here hx rfl (hb hby d4_57) rfl (l' := #[.val (.ref r0), .val (.int p1), .val (.int p2), .val (.int (1 : Int32)), .val (.int (i + (1 : Int32))), .val (.int x)]) rfl kt) ?_
        show Onw p e below _ (T0.setTop (mkF m 60 #[.val (.ref r0), .val (.int p1), .val (.int p2), .val (.int (1 : Int32)), .val (.int (i + (1 : Int32))), .val (.int x)] []))
        refine Onw.go (fun own_u kt => XS.goto X0.here hx rfl (pc0 := 60) (pc' := 5) rfl (hb hby d4_60) (by decide) (by decide) kt) ?_
        show Onw p e below _ (T0.setTop (mkF m 5 #[.val (.ref r0), .val (.int p1), .val (.int p2), .val (.int (1 : Int32)), .val (.int (i + (1 : Int32))), .val (.int x)] []))
        have hs : own_sp x = (1 : Int32) := by unfold own_sp; rw [if_neg h0, if_neg h1, if_pos h2]
        rw [hs] at hK
        exact hK
      · refine Onw.go (fun own_u kt => XS.icmpNo X0.here hx rfl (hb hby d4_41) rfl (feq (h2 : ¬ (x = (13 : Int32)))).1 kt) ?_
        show Onw p e below _ (T0.setTop (mkF m 44 #[.val (.ref r0), .val (.int p1), .val (.int p2), .val (.int w), .val (.int i), .val (.int x)] []))
        refine Onw.go (fun own_u kt => XS.iload X0.here hx rfl (hb hby d4_44) rfl kt) ?_
        show Onw p e below _ (T0.setTop (mkF m 46 #[.val (.ref r0), .val (.int p1), .val (.int p2), .val (.int w), .val (.int i), .val (.int x)] [(.int x)]))
        refine Onw.go (fun own_u kt => XS.bipush X0.here hx rfl (hb hby d4_46) kt) ?_
        show Onw p e below _ (T0.setTop (mkF m 48 #[.val (.ref r0), .val (.int p1), .val (.int p2), .val (.int w), .val (.int i), .val (.int x)] [(.int (10 : Int32)), (.int x)]))
        by_cases h3 : x = (10 : Int32)
        · refine Onw.go (fun own_u kt => XS.icmpNo X0.here hx rfl (hb hby d4_48) rfl (teq (h3 : x = (10 : Int32))).2 kt) ?_
          show Onw p e below _ (T0.setTop (mkF m 51 #[.val (.ref r0), .val (.int p1), .val (.int p2), .val (.int w), .val (.int i), .val (.int x)] []))
          refine Onw.go (fun own_u kt => XS.iconst X0.here hx rfl (hb hby d4_51) kt) ?_
          show Onw p e below _ (T0.setTop (mkF m 52 #[.val (.ref r0), .val (.int p1), .val (.int p2), .val (.int w), .val (.int i), .val (.int x)] [(.int (1 : Int32))]))
          refine Onw.go (fun own_u kt => XS.goto X0.here hx rfl (pc0 := 52) (pc' := 56) rfl (hb hby d4_52) (by decide) (by decide) kt) ?_
          show Onw p e below _ (T0.setTop (mkF m 56 #[.val (.ref r0), .val (.int p1), .val (.int p2), .val (.int w), .val (.int i), .val (.int x)] [(.int (1 : Int32))]))
          refine Onw.go (fun own_u kt => XS.istoreN X0.here hx rfl (hb hby d4_56) rfl (l' := #[.val (.ref r0), .val (.int p1), .val (.int p2), .val (.int (1 : Int32)), .val (.int i), .val (.int x)]) rfl kt) ?_
          show Onw p e below _ (T0.setTop (mkF m 57 #[.val (.ref r0), .val (.int p1), .val (.int p2), .val (.int (1 : Int32)), .val (.int i), .val (.int x)] []))
          refine Onw.go (fun own_u kt => XS.iinc X0.here hx rfl (hb hby d4_57) rfl (l' := #[.val (.ref r0), .val (.int p1), .val (.int p2), .val (.int (1 : Int32)), .val (.int (i + (1 : Int32))), .val (.int x)]) rfl kt) ?_
          show Onw p e below _ (T0.setTop (mkF m 60 #[.val (.ref r0), .val (.int p1), .val (.int p2), .val (.int (1 : Int32)), .val (.int (i + (1 : Int32))), .val (.int x)] []))
          refine Onw.go (fun own_u kt => XS.goto X0.here hx rfl (pc0 := 60) (pc' := 5) rfl (hb hby d4_60) (by decide) (by decide) kt) ?_
          show Onw p e below _ (T0.setTop (mkF m 5 #[.val (.ref r0), .val (.int p1), .val (.int p2), .val (.int (1 : Int32)), .val (.int (i + (1 : Int32))), .val (.int x)] []))
          have hs : own_sp x = (1 : Int32) := by unfold own_sp; rw [if_neg h0, if_neg h1, if_neg h2, if_pos h3]
          rw [hs] at hK
          exact hK
        · refine Onw.go (fun own_u kt => XS.icmpYes X0.here hx rfl (pc0 := 48) (pc' := 55) rfl (hb hby d4_48) rfl (feq (h3 : ¬ (x = (10 : Int32)))).2 (by decide) (by decide) kt) ?_
          show Onw p e below _ (T0.setTop (mkF m 55 #[.val (.ref r0), .val (.int p1), .val (.int p2), .val (.int w), .val (.int i), .val (.int x)] []))
          refine Onw.go (fun own_u kt => XS.iconst X0.here hx rfl (hb hby d4_55) kt) ?_
          show Onw p e below _ (T0.setTop (mkF m 56 #[.val (.ref r0), .val (.int p1), .val (.int p2), .val (.int w), .val (.int i), .val (.int x)] [(.int (0 : Int32))]))
          refine Onw.go (fun own_u kt => XS.istoreN X0.here hx rfl (hb hby d4_56) rfl (l' := #[.val (.ref r0), .val (.int p1), .val (.int p2), .val (.int (0 : Int32)), .val (.int i), .val (.int x)]) rfl kt) ?_
          show Onw p e below _ (T0.setTop (mkF m 57 #[.val (.ref r0), .val (.int p1), .val (.int p2), .val (.int (0 : Int32)), .val (.int i), .val (.int x)] []))
          refine Onw.go (fun own_u kt => XS.iinc X0.here hx rfl (hb hby d4_57) rfl (l' := #[.val (.ref r0), .val (.int p1), .val (.int p2), .val (.int (0 : Int32)), .val (.int (i + (1 : Int32))), .val (.int x)]) rfl kt) ?_
          show Onw p e below _ (T0.setTop (mkF m 60 #[.val (.ref r0), .val (.int p1), .val (.int p2), .val (.int (0 : Int32)), .val (.int (i + (1 : Int32))), .val (.int x)] []))
          refine Onw.go (fun own_u kt => XS.goto X0.here hx rfl (pc0 := 60) (pc' := 5) rfl (hb hby d4_60) (by decide) (by decide) kt) ?_
          show Onw p e below _ (T0.setTop (mkF m 5 #[.val (.ref r0), .val (.int p1), .val (.int p2), .val (.int (0 : Int32)), .val (.int (i + (1 : Int32))), .val (.int x)] []))
          have hs : own_sp x = (0 : Int32) := by unfold own_sp; rw [if_neg h0, if_neg h1, if_neg h2, if_neg h3]
          rw [hs] at hK
          exact hK
set_option maxRecDepth 65536 in
set_option maxHeartbeats 40000000 in
theorem ws_end {p : Program} {l : Launch} {e : Env} {R : Room} {s : State} {m : MethodId} {args : Array Value} {below : List Frame} {meth : Method} {c : Code} {Z : State} {a0 : Array Value} {W : Outcome → State → Prop} (hx : p.tables.exec = Jvm.exec) (hZ : Z.Warmed39 s.vm) (hw : ∀ d ∈ tables_1, d.before a0 Z = true) (hby : c.code = prog_72_method_6_code) (hml : c.maxLocals = 6) (hown : s.vm.findClass "com/example/faultline/faultline/xml/ElementReader" = some m.cls) {h0 : Heap} {n0 : Nat}  (r0 : Addr) (p1 p2 w i : Int32) (s5 : Slot)
    {T0 : State} {locs0 : List Loc} {cells slots : Nat} (X0 : Stand p l e R s m args below meth c T0 locs0 cells slots) (e0 : T0.heap = h0) (N0 : Fr n0 locs0) (hor : ¬ (i < (p1 + p2)) ∨ w = (0 : Int32)) (hK : Onw p e below W (T0.setTop (mkF m 63 #[.val (.ref r0), .val (.int p1), .val (.int p2), .val (.int w), .val (.int i), s5] []))) :
    Onw p e below W (T0.setTop (mkF m 5 #[.val (.ref r0), .val (.int p1), .val (.int p2), .val (.int w), .val (.int i), s5] [])) := by
  refine Onw.go (fun own_u kt => XS.iload X0.here hx rfl (hb hby d4_5) rfl kt) ?_
  show Onw p e below _ (T0.setTop (mkF m 7 #[.val (.ref r0), .val (.int p1), .val (.int p2), .val (.int w), .val (.int i), s5] [(.int i)]))
  refine Onw.go (fun own_u kt => XS.iloadN X0.here hx rfl (hb hby d4_7) rfl kt) ?_
  show Onw p e below _ (T0.setTop (mkF m 8 #[.val (.ref r0), .val (.int p1), .val (.int p2), .val (.int w), .val (.int i), s5] [(.int p1), (.int i)]))
  refine Onw.go (fun own_u kt => XS.iloadN X0.here hx rfl (hb hby d4_8) rfl kt) ?_
  show Onw p e below _ (T0.setTop (mkF m 9 #[.val (.ref r0), .val (.int p1), .val (.int p2), .val (.int w), .val (.int i), s5] [(.int p2), (.int p1), (.int i)]))
  refine Onw.go (fun own_u kt => XS.iadd X0.here hx rfl (hb hby d4_9) rfl kt) ?_
  show Onw p e below _ (T0.setTop (mkF m 10 #[.val (.ref r0), .val (.int p1), .val (.int p2), .val (.int w), .val (.int i), s5] [(.int (p1 + p2)), (.int i)]))
  by_cases h1 : i < (p1 + p2)
  · refine Onw.go (fun own_u kt => XS.icmpNo X0.here hx rfl (hb hby d4_10) rfl (tlt (h1 : i < (p1 + p2))).2.1 kt) ?_
    show Onw p e below _ (T0.setTop (mkF m 13 #[.val (.ref r0), .val (.int p1), .val (.int p2), .val (.int w), .val (.int i), s5] []))
    refine Onw.go (fun own_u kt => XS.iloadN X0.here hx rfl (hb hby d4_13) rfl kt) ?_
    show Onw p e below _ (T0.setTop (mkF m 14 #[.val (.ref r0), .val (.int p1), .val (.int p2), .val (.int w), .val (.int i), s5] [(.int w)]))
    refine Onw.go (fun own_u kt => XS.ifYes X0.here hx rfl (pc0 := 14) (pc' := 63) rfl (hb hby d4_14) rfl ((if0 _ _).trans (teq (hor.resolve_left (fun q => q h1) : w = (0 : Int32))).1) (by decide) (by decide) kt) ?_
    show Onw p e below _ (T0.setTop (mkF m 63 #[.val (.ref r0), .val (.int p1), .val (.int p2), .val (.int w), .val (.int i), s5] []))
    exact hK
  · refine Onw.go (fun own_u kt => XS.icmpYes X0.here hx rfl (pc0 := 10) (pc' := 63) rfl (hb hby d4_10) rfl (flt (h1 : ¬ (i < (p1 + p2)))).2.1 (by decide) (by decide) kt) ?_
    show Onw p e below _ (T0.setTop (mkF m 63 #[.val (.ref r0), .val (.int p1), .val (.int p2), .val (.int w), .val (.int i), s5] []))
    exact hK
set_option maxRecDepth 65536 in
set_option maxHeartbeats 40000000 in
theorem ws_loop {p : Program} {l : Launch} {e : Env} {R : Room} {s : State} {m : MethodId} {args : Array Value} {below : List Frame} {meth : Method} {c : Code} {Z : State} {a0 : Array Value} {W : Outcome → State → Prop} (hx : p.tables.exec = Jvm.exec) (hZ : Z.Warmed39 s.vm) (hw : ∀ d ∈ tables_1, d.before a0 Z = true) (hby : c.code = prog_72_method_6_code) (hml : c.maxLocals = 6) (hown : s.vm.findClass "com/example/faultline/faultline/xml/ElementReader" = some m.cls) {h0 : Heap} {n0 : Nat} (r0 : Addr) (p1 p2 : Int32) (cl : Cell) (f : Int32 → Int32)
    {T0 : State} {locs0 : List Loc} {cells slots : Nat} (X0 : Stand p l e R s m args below meth c T0 locs0 cells slots) (e0 : T0.heap = h0) (N0 : Fr n0 locs0) (Ar : Arr Z h0 r0 cl .char)
    (hel : ∀ i : Int32, 0 ≤ i.toInt → i < (p1 + p2) → ¬ (i < 0 ∨ cl.slots.size ≤ i.toNatClampNeg) ∧ cl.slots[i.toNatClampNeg]? = some (.int (f i))) (r : Int32) (hK : ∀ (i : Int32) (s5 : Slot), Onw p e below W (T0.setTop (mkF m 63 #[.val (.ref r0), .val (.int p1), .val (.int p2), .val (.int r), .val (.int i), s5] []))) :
    ∀ (k : Nat) (w i : Int32) (s5 : Slot), One s5 → 0 ≤ i.toInt → i.toInt + k = (p1 + p2).toInt → own_run f k i w = r → Onw p e below W (T0.setTop (mkF m 5 #[.val (.ref r0), .val (.int p1), .val (.int p2), .val (.int w), .val (.int i), s5] [])) := by
  intro k
  induction k with
  | zero =>
    intro w i s5 h5 hi hk hr
    have hr' : w = r := hr
    subst hr'
    exact ws_end hx hZ hw hby hml hown r0 p1 p2 w i s5 X0 e0 N0 (Or.inl (by rw [Int32.lt_iff_toInt_lt]; omega)) (hK i s5)
  | succ k ih =>
    intro w i s5 h5 hi hk hr
    by_cases h0w : w = 0
    · have hr' : w = r := by rw [← hr]; show w = (if w = 0 then w else _); rw [if_pos h0w]
      subst hr'
      exact ws_end hx hZ hw hby hml hown r0 p1 p2 w i s5 X0 e0 N0 (Or.inr h0w) (hK i s5)
    · have hlt : i < (p1 + p2) := by rw [Int32.lt_iff_toInt_lt]; omega
      obtain ⟨hin, hat⟩ := hel i hi hlt
      have e1 := c_iadd i (1 : Int32)
      have e2 := rng32 (i + (1 : Int32))
      have e3 := rng32 (p1 + p2)
      have e4 : (1 : Int32).toInt = 1 := rfl
      refine ws_turn hx hZ hw hby hml hown r0 p1 p2 w i s5 cl (f i) X0 e0 N0 h5 hlt h0w Ar hin hat (ih _ _ _ (One.val rfl) (by omega) (by omega) ?_)
      rw [← hr]
      show _ = (if w = 0 then w else _)
      rw [if_neg h0w]
theorem pn_1 : plainName "com/example/faultline/faultline/xml/ElementReader" = true := by first | (simp [plainName, overriddenIn]; done) | decide +kernel
theorem ef_4 (m : MethodId) (x0 : Addr) (x1 : Int32) (x2 : Int32) : entryFrame m #[(.ref x0), (.int x1), (.int x2)] 6 = mkF m 0 #[.val (.ref x0), .val (.int x1), .val (.int x2), .unset, .unset, .unset] [] := by first | (simp [entryFrame, mkF, argsToLocals, Value.category]; done) | rfl
def Q_rm4 (Z : State) (r0 : Addr) (p1 : Int32) (p2 : Int32) (kc : ClassId) (c0 c1 c2 c3 : Int32) (h0 : Heap) (n0 : Nat) (v : Option Value) (h : Heap) (L : List Loc) : Prop := v = some (.int (own_run (own_el c0 c1 c2 c3) (p1 + p2 - p1).toNatClampNeg p1 1)) ∧ Fr n0 L ∧ h = h0
theorem d4_0 : decode prog_72_method_6_code 0 = .ok (.iconst 1, 1) := by decide +kernel
theorem d4_1 : decode prog_72_method_6_code 1 = .ok (.istore_n 3, 1) := by decide +kernel
theorem d4_2 : decode prog_72_method_6_code 2 = .ok (.iload_n 1, 1) := by decide +kernel
theorem d4_3 : decode prog_72_method_6_code 3 = .ok (.istore 4, 2) := by decide +kernel
theorem d4_63 : decode prog_72_method_6_code 63 = .ok (.iload_n 3, 1) := by decide +kernel
theorem d4_64 : decode prog_72_method_6_code 64 = .ok (.ireturn, 1) := by decide +kernel
set_option maxRecDepth 65536 in
set_option maxHeartbeats 40000000 in
theorem rm4 (l : Launch) (Z : State) (a0 : Array Value) (hw : ∀ d ∈ tables_1, d.before a0 Z = true) (ws : List Jvm.Cond) (r0 : Addr) (p1 : Int32) (p2 : Int32) (kc : ClassId) (c0 c1 c2 c3 : Int32) (h0 : Heap) (n0 : Nat) (V0 : Arv Z h0 r0 kc .char (4 : Int32) [.int c0, .int c1, .int c2, .int c3] (.int (0 : Int32))) (hr : 0 ≤ p1.toInt ∧ 0 ≤ p2.toInt ∧ p1.toInt + p2.toInt ≤ 4) :
    MetFree l (⟨"com/example/faultline/faultline/xml/ElementReader", "isWhiteSpace", "([CII)Z"⟩ : MethodName) (head1 (Jvm.Cond.code (⟨"com/example/faultline/faultline/xml/ElementReader", "isWhiteSpace", "([CII)Z"⟩ : MethodName) prog_72_method_6_code 6 (some .boolean) :: ws) ({ frames := 0, cells := 0, slots := 0, locals := 0 } : Room)) (fun a U => a = #[(.ref r0), (.int p1), (.int p2)] ∧ Z.Warmed39 U.vm ∧ U.heap = h0) (fun _ _ _ _ _ => True) (fun _ U o U' => ∃ v L, o = .returned v ∧ Q_rm4 Z r0 p1 p2 kc c0 c1 c2 c3 h0 n0 v U'.heap L ∧ FrameEnd U o U' L ({ frames := 0, cells := 0, slots := 0, locals := 0 } : Room).cells ({ frames := 0, cells := 0, slots := 0, locals := 0 } : Room).slots) := by
  refine MetFree.of_bodySF (plainFor_of_name pn_1) hisR ?_
  intro p e s m args below meth c s₁ Bd hml0 hP hK
  obtain ⟨rfl, hZ, hh⟩ := hP
  have hx := Bd.exec
  have hby := Bd.bytes
  have hml : c.maxLocals = 6 := hml0
  have hown : s.vm.findClass "com/example/faultline/faultline/xml/ElementReader" = some m.cls := findClass_of_methodNamed Bd.named
  have hnm := (name_of_methodNamed Bd.named Bd.method).1
  have X0 : Stand p l e ({ frames := 0, cells := 0, slots := 0, locals := 0 } : Room) s m #[(.ref r0), (.int p1), (.int p2)] below meth c s₁ [] 0 0 := Stand.of_body Bd
  have e0 : s₁.heap = h0 := by rw [← hh, Bd.state]; rfl
  have N0 := Fr.nil n0
  refine Onw.of (Onw.go (fun own_u k => castTop (ef_4 m r0 p1 p2) k) ?_)
  show Onw p e below _ (s₁.setTop (mkF m 0 #[.val (.ref r0), .val (.int p1), .val (.int p2), .unset, .unset, .unset] []))
  refine Onw.go (fun own_u kt => XS.iconst X0.here hx rfl (hb hby d4_0) kt) ?_
  show Onw p e below _ (s₁.setTop (mkF m 1 #[.val (.ref r0), .val (.int p1), .val (.int p2), .unset, .unset, .unset] [(.int (1 : Int32))]))
  refine Onw.go (fun own_u kt => XS.istoreN X0.here hx rfl (hb hby d4_1) rfl (l' := #[.val (.ref r0), .val (.int p1), .val (.int p2), .val (.int (1 : Int32)), .unset, .unset]) rfl kt) ?_
  show Onw p e below _ (s₁.setTop (mkF m 2 #[.val (.ref r0), .val (.int p1), .val (.int p2), .val (.int (1 : Int32)), .unset, .unset] []))
  refine Onw.go (fun own_u kt => XS.iloadN X0.here hx rfl (hb hby d4_2) rfl kt) ?_
  show Onw p e below _ (s₁.setTop (mkF m 3 #[.val (.ref r0), .val (.int p1), .val (.int p2), .val (.int (1 : Int32)), .unset, .unset] [(.int p1)]))
  refine Onw.go (fun own_u kt => XS.istore X0.here hx rfl (hb hby d4_3) rfl (l' := #[.val (.ref r0), .val (.int p1), .val (.int p2), .val (.int (1 : Int32)), .val (.int p1), .unset]) rfl kt) ?_
  show Onw p e below _ (s₁.setTop (mkF m 5 #[.val (.ref r0), .val (.int p1), .val (.int p2), .val (.int (1 : Int32)), .val (.int p1), .unset] []))
  obtain ⟨cl, Ar, qa, Sa, Na, Ha, Ga⟩ := V0
  have hel := own_els Sa Ha hr
  refine ws_loop hx hZ hw hby hml hown r0 p1 p2 cl (own_el c0 c1 c2 c3) X0 e0 N0 Ar hel _ (fun i s5 => ?_) ((p1 + p2 - p1).toNatClampNeg) 1 p1 .unset One.u hr.1 (own_turns hr) rfl
  show Onw p e below _ (s₁.setTop (mkF m 63 #[.val (.ref r0), .val (.int p1), .val (.int p2), .val (.int (own_run (own_el c0 c1 c2 c3) (p1 + p2 - p1).toNatClampNeg p1 1)), .val (.int i), s5] []))
  refine Onw.go (fun own_u kt => XS.iloadN X0.here hx rfl (hb hby d4_63) rfl kt) ?_
  show Onw p e below _ (s₁.setTop (mkF m 64 #[.val (.ref r0), .val (.int p1), .val (.int p2), .val (.int (own_run (own_el c0 c1 c2 c3) (p1 + p2 - p1).toNatClampNeg p1 1)), .val (.int i), s5] [(.int (own_run (own_el c0 c1 c2 c3) (p1 + p2 - p1).toNatClampNeg p1 1))]))
  exact Onw.ret X0 Bd.notSynchronized (fun h => by rw [Bd.returns] at h; cases h) (fun fs hr => retN X0 hx (t := .boolean) Bd.returns (by simp) (hb hby d4_64) hr) ⟨(by show some (Value.int (nar .boolean _)) = _; rw [own_bool (own_run01 _ _ _ _ (Or.inr rfl))]), N0, e0⟩ (by decide) (by decide)
set_option maxRecDepth 65536 in
set_option maxHeartbeats 40000000 in
theorem expects {p : Program} {l : Launch} {e : Env} {s : State} {m : MethodId} {args : Array Value} {below : List Frame} {meth : Method} {c : Code} {Z : State} {a0 : Array Value} {W : Outcome → State → Prop} (hx : p.tables.exec = Jvm.exec) (hZ : Z.Warmed39 s.vm) (hw : ∀ d ∈ tables_1, d.before a0 Z = true) (hby : c.code = code) (hml : c.maxLocals = 10) (hown : s.vm.findClass "com/example/faultline/faultline/xml/ElementReaderIsWhiteSpacePinLaw" = some m.cls) {h0 : Heap} {n0 : Nat}  (p0 p1 p2 p3 p4 p5 st ln : Int32) (b : Addr) (kc : ClassId) (c0 c1 c2 c3 : Int32)
    {T0 : State} {locs0 : List Loc} (X0 : Stand p l e room_1 s m args below meth c T0 locs0 1 4) (e0 : T0.heap = h0) (N0 : Fr n0 locs0) (V0 : Arv Z h0 b kc .char (4 : Int32) [.int c0, .int c1, .int c2, .int c3] (.int (0 : Int32))) (hK : ∀ (T' : State) (locs' : List Loc), Stand p l e room_1 s m args below meth c T' locs' 1 4 → T'.heap = h0 → Fr n0 locs' → Onw p e below W (T'.setTop (mkF m 147 #[.val (.int p0), .val (.int p1), .val (.int p2), .val (.int p3), .val (.int p4), .val (.int p5), .val (.ref b), .val (.int st), .val (.int ln), .unset] [(.int (own_exp c0 c1 c2 c3 st ln))]))) :
    Onw p e below W (T0.setTop (mkF m 58 #[.val (.int p0), .val (.int p1), .val (.int p2), .val (.int p3), .val (.int p4), .val (.int p5), .val (.ref b), .val (.int st), .val (.int ln), .unset] [])) := by
  obtain ⟨cl, Ar, qa, Sa, Na, Ha, Ga⟩ := V0
  refine Onw.go (fun own_u kt => XS.iconst X0.here hx rfl (hb hby at_58) kt) ?_
  show Onw p e below _ (T0.setTop (mkF m 59 #[.val (.int p0), .val (.int p1), .val (.int p2), .val (.int p3), .val (.int p4), .val (.int p5), .val (.ref b), .val (.int st), .val (.int ln), .unset] [(.int (0 : Int32))]))
  refine Onw.go (fun own_u kt => XS.iload X0.here hx rfl (hb hby at_59) rfl kt) ?_
  show Onw p e below _ (T0.setTop (mkF m 61 #[.val (.int p0), .val (.int p1), .val (.int p2), .val (.int p3), .val (.int p4), .val (.int p5), .val (.ref b), .val (.int st), .val (.int ln), .unset] [(.int st), (.int (0 : Int32))]))
  refine Onw.go (fun own_u kt => XS.iload X0.here hx rfl (hb hby at_61) rfl kt) ?_
  show Onw p e below _ (T0.setTop (mkF m 63 #[.val (.int p0), .val (.int p1), .val (.int p2), .val (.int p3), .val (.int p4), .val (.int p5), .val (.ref b), .val (.int st), .val (.int ln), .unset] [(.int ln), (.int st), (.int (0 : Int32))]))
  obtain ⟨_, _, ⟨T1, L1, k1, n1⟩, -, X1, ⟨Lc1, hQ1, l1, y1, z1⟩, st1⟩ := Jvm.LawKit.callS X0 hx (y := (⟨"com/example/faultline/faultline/xml/ElementReaderIsWhiteSpacePinLaw", "covers", "(III)Z"⟩ : MethodName)) hown (mvT hZ (hw _ (List.mem_of_getElem? (i := 6) rfl))) (mvT hZ (hw _ (List.mem_of_getElem? (i := 7) rfl))) (mvT hZ (hw _ (List.mem_of_getElem? (i := 3) rfl))) (mvT hZ (hw _ (List.mem_of_getElem? (i := 8) rfl))) (by decide) (backOf (W := 0) (rm2 l Z a0 hw [] (0 : Int32) st ln  h0 n0 ) hZ (hw _ (List.mem_of_getElem? (i := 8) rfl)) (hw _ (List.mem_of_getElem? (i := 3) rfl)) (by decide) (by decide)) (g := (mkF m 63 #[.val (.int p0), .val (.int p1), .val (.int p2), .val (.int p3), .val (.int p4), .val (.int p5), .val (.ref b), .val (.int st), .val (.int ln), .unset] [(.int ln), (.int st), (.int (0 : Int32))])) rfl (by rw [hml]; rfl) (argsL := [(.int (0 : Int32)), (.int st), (.int ln)]) (rest := []) (lenOf pd_1 rfl) rfl (by show 2 * 0 + _ ≤ _; exact Nat.le_of_eq rfl) (hb hby at_63) (fun _ _ => ⟨rfl, e0, (by decide : 1 + 0 ≤ _), (by decide : 4 + 0 ≤ _)⟩)
  dsimp only [Pt.U, Pt.locs, Pt.cells, Pt.slots] at X1 l1 y1 z1 st1 hQ1
  subst l1 y1 z1
  obtain ⟨rfl, N1q, e1q⟩ := hQ1
  have N1 := Fr.app N0 N1q
  refine Onw.go st1 ?_
  show Onw p e below _ (T1.setTop (mkF m 66 #[.val (.int p0), .val (.int p1), .val (.int p2), .val (.int p3), .val (.int p4), .val (.int p5), .val (.ref b), .val (.int st), .val (.int ln), .unset] [(.int (own_cov (0 : Int32) st ln))]))
  by_cases hc0 : (own_cov (0 : Int32) st ln) = (0 : Int32)
  · refine Onw.go (fun own_u kt => XS.ifYes X1.here hx rfl (pc0 := 66) (pc' := 79) rfl (hb hby at_66) rfl ((if0 _ _).trans (teq (hc0 : (own_cov (0 : Int32) st ln) = (0 : Int32))).1) (by decide) (by decide) kt) ?_
    show Onw p e below _ (T1.setTop (mkF m 79 #[.val (.int p0), .val (.int p1), .val (.int p2), .val (.int p3), .val (.int p4), .val (.int p5), .val (.ref b), .val (.int st), .val (.int ln), .unset] []))
    have ok0 : own_ok (0 : Int32) c0 st ln := Or.inl hc0
    refine Onw.go (fun own_u kt => XS.iconst X1.here hx rfl (hb hby at_79) kt) ?_
    show Onw p e below _ (T1.setTop (mkF m 80 #[.val (.int p0), .val (.int p1), .val (.int p2), .val (.int p3), .val (.int p4), .val (.int p5), .val (.ref b), .val (.int st), .val (.int ln), .unset] [(.int (1 : Int32))]))
    refine Onw.go (fun own_u kt => XS.iload X1.here hx rfl (hb hby at_80) rfl kt) ?_
    show Onw p e below _ (T1.setTop (mkF m 82 #[.val (.int p0), .val (.int p1), .val (.int p2), .val (.int p3), .val (.int p4), .val (.int p5), .val (.ref b), .val (.int st), .val (.int ln), .unset] [(.int st), (.int (1 : Int32))]))
    refine Onw.go (fun own_u kt => XS.iload X1.here hx rfl (hb hby at_82) rfl kt) ?_
    show Onw p e below _ (T1.setTop (mkF m 84 #[.val (.int p0), .val (.int p1), .val (.int p2), .val (.int p3), .val (.int p4), .val (.int p5), .val (.ref b), .val (.int st), .val (.int ln), .unset] [(.int ln), (.int st), (.int (1 : Int32))]))
    obtain ⟨_, _, ⟨T2, L2, k2, n2⟩, -, X2, ⟨Lc2, hQ2, l2, y2, z2⟩, st2⟩ := Jvm.LawKit.callS X1 hx (y := (⟨"com/example/faultline/faultline/xml/ElementReaderIsWhiteSpacePinLaw", "covers", "(III)Z"⟩ : MethodName)) hown (mvT hZ (hw _ (List.mem_of_getElem? (i := 6) rfl))) (mvT hZ (hw _ (List.mem_of_getElem? (i := 7) rfl))) (mvT hZ (hw _ (List.mem_of_getElem? (i := 3) rfl))) (mvT hZ (hw _ (List.mem_of_getElem? (i := 8) rfl))) (by decide) (backOf (W := 0) (rm2 l Z a0 hw [] (1 : Int32) st ln  h0 n0 ) hZ (hw _ (List.mem_of_getElem? (i := 8) rfl)) (hw _ (List.mem_of_getElem? (i := 3) rfl)) (by decide) (by decide)) (g := (mkF m 84 #[.val (.int p0), .val (.int p1), .val (.int p2), .val (.int p3), .val (.int p4), .val (.int p5), .val (.ref b), .val (.int st), .val (.int ln), .unset] [(.int ln), (.int st), (.int (1 : Int32))])) rfl (by rw [hml]; rfl) (argsL := [(.int (1 : Int32)), (.int st), (.int ln)]) (rest := []) (lenOf pd_1 rfl) rfl (by show 2 * 0 + _ ≤ _; exact Nat.le_of_eq rfl) (hb hby at_84) (fun _ _ => ⟨rfl, e1q, (by decide : 1 + 0 ≤ _), (by decide : 4 + 0 ≤ _)⟩)
    dsimp only [Pt.U, Pt.locs, Pt.cells, Pt.slots] at X2 l2 y2 z2 st2 hQ2
    subst l2 y2 z2
    obtain ⟨rfl, N2q, e2q⟩ := hQ2
    have N2 := Fr.app N1 N2q
    refine Onw.go st2 ?_
    show Onw p e below _ (T2.setTop (mkF m 87 #[.val (.int p0), .val (.int p1), .val (.int p2), .val (.int p3), .val (.int p4), .val (.int p5), .val (.ref b), .val (.int st), .val (.int ln), .unset] [(.int (own_cov (1 : Int32) st ln))]))
    by_cases hc1 : (own_cov (1 : Int32) st ln) = (0 : Int32)
    · refine Onw.go (fun own_u kt => XS.ifYes X2.here hx rfl (pc0 := 87) (pc' := 100) rfl (hb hby at_87) rfl ((if0 _ _).trans (teq (hc1 : (own_cov (1 : Int32) st ln) = (0 : Int32))).1) (by decide) (by decide) kt) ?_
      show Onw p e below _ (T2.setTop (mkF m 100 #[.val (.int p0), .val (.int p1), .val (.int p2), .val (.int p3), .val (.int p4), .val (.int p5), .val (.ref b), .val (.int st), .val (.int ln), .unset] []))
      have ok1 : own_ok (1 : Int32) c1 st ln := Or.inl hc1
      refine Onw.go (fun own_u kt => XS.iconst X2.here hx rfl (hb hby at_100) kt) ?_
      show Onw p e below _ (T2.setTop (mkF m 101 #[.val (.int p0), .val (.int p1), .val (.int p2), .val (.int p3), .val (.int p4), .val (.int p5), .val (.ref b), .val (.int st), .val (.int ln), .unset] [(.int (2 : Int32))]))
      refine Onw.go (fun own_u kt => XS.iload X2.here hx rfl (hb hby at_101) rfl kt) ?_
      show Onw p e below _ (T2.setTop (mkF m 103 #[.val (.int p0), .val (.int p1), .val (.int p2), .val (.int p3), .val (.int p4), .val (.int p5), .val (.ref b), .val (.int st), .val (.int ln), .unset] [(.int st), (.int (2 : Int32))]))
      refine Onw.go (fun own_u kt => XS.iload X2.here hx rfl (hb hby at_103) rfl kt) ?_
      show Onw p e below _ (T2.setTop (mkF m 105 #[.val (.int p0), .val (.int p1), .val (.int p2), .val (.int p3), .val (.int p4), .val (.int p5), .val (.ref b), .val (.int st), .val (.int ln), .unset] [(.int ln), (.int st), (.int (2 : Int32))]))
      obtain ⟨_, _, ⟨T3, L3, k3, n3⟩, -, X3, ⟨Lc3, hQ3, l3, y3, z3⟩, st3⟩ := Jvm.LawKit.callS X2 hx (y := (⟨"com/example/faultline/faultline/xml/ElementReaderIsWhiteSpacePinLaw", "covers", "(III)Z"⟩ : MethodName)) hown (mvT hZ (hw _ (List.mem_of_getElem? (i := 6) rfl))) (mvT hZ (hw _ (List.mem_of_getElem? (i := 7) rfl))) (mvT hZ (hw _ (List.mem_of_getElem? (i := 3) rfl))) (mvT hZ (hw _ (List.mem_of_getElem? (i := 8) rfl))) (by decide) (backOf (W := 0) (rm2 l Z a0 hw [] (2 : Int32) st ln  h0 n0 ) hZ (hw _ (List.mem_of_getElem? (i := 8) rfl)) (hw _ (List.mem_of_getElem? (i := 3) rfl)) (by decide) (by decide)) (g := (mkF m 105 #[.val (.int p0), .val (.int p1), .val (.int p2), .val (.int p3), .val (.int p4), .val (.int p5), .val (.ref b), .val (.int st), .val (.int ln), .unset] [(.int ln), (.int st), (.int (2 : Int32))])) rfl (by rw [hml]; rfl) (argsL := [(.int (2 : Int32)), (.int st), (.int ln)]) (rest := []) (lenOf pd_1 rfl) rfl (by show 2 * 0 + _ ≤ _; exact Nat.le_of_eq rfl) (hb hby at_105) (fun _ _ => ⟨rfl, e2q, (by decide : 1 + 0 ≤ _), (by decide : 4 + 0 ≤ _)⟩)
      dsimp only [Pt.U, Pt.locs, Pt.cells, Pt.slots] at X3 l3 y3 z3 st3 hQ3
      subst l3 y3 z3
      obtain ⟨rfl, N3q, e3q⟩ := hQ3
      have N3 := Fr.app N2 N3q
      refine Onw.go st3 ?_
      show Onw p e below _ (T3.setTop (mkF m 108 #[.val (.int p0), .val (.int p1), .val (.int p2), .val (.int p3), .val (.int p4), .val (.int p5), .val (.ref b), .val (.int st), .val (.int ln), .unset] [(.int (own_cov (2 : Int32) st ln))]))
      by_cases hc2 : (own_cov (2 : Int32) st ln) = (0 : Int32)
      · refine Onw.go (fun own_u kt => XS.ifYes X3.here hx rfl (pc0 := 108) (pc' := 121) rfl (hb hby at_108) rfl ((if0 _ _).trans (teq (hc2 : (own_cov (2 : Int32) st ln) = (0 : Int32))).1) (by decide) (by decide) kt) ?_
        show Onw p e below _ (T3.setTop (mkF m 121 #[.val (.int p0), .val (.int p1), .val (.int p2), .val (.int p3), .val (.int p4), .val (.int p5), .val (.ref b), .val (.int st), .val (.int ln), .unset] []))
        have ok2 : own_ok (2 : Int32) c2 st ln := Or.inl hc2
        refine Onw.go (fun own_u kt => XS.iconst X3.here hx rfl (hb hby at_121) kt) ?_
        show Onw p e below _ (T3.setTop (mkF m 122 #[.val (.int p0), .val (.int p1), .val (.int p2), .val (.int p3), .val (.int p4), .val (.int p5), .val (.ref b), .val (.int st), .val (.int ln), .unset] [(.int (3 : Int32))]))
        refine Onw.go (fun own_u kt => XS.iload X3.here hx rfl (hb hby at_122) rfl kt) ?_
        show Onw p e below _ (T3.setTop (mkF m 124 #[.val (.int p0), .val (.int p1), .val (.int p2), .val (.int p3), .val (.int p4), .val (.int p5), .val (.ref b), .val (.int st), .val (.int ln), .unset] [(.int st), (.int (3 : Int32))]))
        refine Onw.go (fun own_u kt => XS.iload X3.here hx rfl (hb hby at_124) rfl kt) ?_
        show Onw p e below _ (T3.setTop (mkF m 126 #[.val (.int p0), .val (.int p1), .val (.int p2), .val (.int p3), .val (.int p4), .val (.int p5), .val (.ref b), .val (.int st), .val (.int ln), .unset] [(.int ln), (.int st), (.int (3 : Int32))]))
        obtain ⟨_, _, ⟨T4, L4, k4, n4⟩, -, X4, ⟨Lc4, hQ4, l4, y4, z4⟩, st4⟩ := Jvm.LawKit.callS X3 hx (y := (⟨"com/example/faultline/faultline/xml/ElementReaderIsWhiteSpacePinLaw", "covers", "(III)Z"⟩ : MethodName)) hown (mvT hZ (hw _ (List.mem_of_getElem? (i := 6) rfl))) (mvT hZ (hw _ (List.mem_of_getElem? (i := 7) rfl))) (mvT hZ (hw _ (List.mem_of_getElem? (i := 3) rfl))) (mvT hZ (hw _ (List.mem_of_getElem? (i := 8) rfl))) (by decide) (backOf (W := 0) (rm2 l Z a0 hw [] (3 : Int32) st ln  h0 n0 ) hZ (hw _ (List.mem_of_getElem? (i := 8) rfl)) (hw _ (List.mem_of_getElem? (i := 3) rfl)) (by decide) (by decide)) (g := (mkF m 126 #[.val (.int p0), .val (.int p1), .val (.int p2), .val (.int p3), .val (.int p4), .val (.int p5), .val (.ref b), .val (.int st), .val (.int ln), .unset] [(.int ln), (.int st), (.int (3 : Int32))])) rfl (by rw [hml]; rfl) (argsL := [(.int (3 : Int32)), (.int st), (.int ln)]) (rest := []) (lenOf pd_1 rfl) rfl (by show 2 * 0 + _ ≤ _; exact Nat.le_of_eq rfl) (hb hby at_126) (fun _ _ => ⟨rfl, e3q, (by decide : 1 + 0 ≤ _), (by decide : 4 + 0 ≤ _)⟩)
        dsimp only [Pt.U, Pt.locs, Pt.cells, Pt.slots] at X4 l4 y4 z4 st4 hQ4
        subst l4 y4 z4
        obtain ⟨rfl, N4q, e4q⟩ := hQ4
        have N4 := Fr.app N3 N4q
        refine Onw.go st4 ?_
        show Onw p e below _ (T4.setTop (mkF m 129 #[.val (.int p0), .val (.int p1), .val (.int p2), .val (.int p3), .val (.int p4), .val (.int p5), .val (.ref b), .val (.int st), .val (.int ln), .unset] [(.int (own_cov (3 : Int32) st ln))]))
        by_cases hc3 : (own_cov (3 : Int32) st ln) = (0 : Int32)
        · refine Onw.go (fun own_u kt => XS.ifYes X4.here hx rfl (pc0 := 129) (pc' := 142) rfl (hb hby at_129) rfl ((if0 _ _).trans (teq (hc3 : (own_cov (3 : Int32) st ln) = (0 : Int32))).1) (by decide) (by decide) kt) ?_
          show Onw p e below _ (T4.setTop (mkF m 142 #[.val (.int p0), .val (.int p1), .val (.int p2), .val (.int p3), .val (.int p4), .val (.int p5), .val (.ref b), .val (.int st), .val (.int ln), .unset] []))
          have ok3 : own_ok (3 : Int32) c3 st ln := Or.inl hc3
          refine Onw.go (fun own_u kt => XS.iconst X4.here hx rfl (hb hby at_142) kt) ?_
          show Onw p e below _ (T4.setTop (mkF m 143 #[.val (.int p0), .val (.int p1), .val (.int p2), .val (.int p3), .val (.int p4), .val (.int p5), .val (.ref b), .val (.int st), .val (.int ln), .unset] [(.int (1 : Int32))]))
          refine Onw.go (fun own_u kt => XS.goto X4.here hx rfl (pc0 := 143) (pc' := 147) rfl (hb hby at_143) (by decide) (by decide) kt) ?_
          show Onw p e below _ (T4.setTop (mkF m 147 #[.val (.int p0), .val (.int p1), .val (.int p2), .val (.int p3), .val (.int p4), .val (.int p5), .val (.ref b), .val (.int st), .val (.int ln), .unset] [(.int (1 : Int32))]))
          have hx1 : own_exp c0 c1 c2 c3 st ln = (1 : Int32) := own_exp1 ok0 ok1 ok2 ok3
          rw [hx1] at hK
          exact hK _ _ X4 e4q N4
        · refine Onw.go (fun own_u kt => XS.ifNo X4.here hx rfl (hb hby at_129) rfl ((if0 _ _).trans (feq (hc3 : ¬ ((own_cov (3 : Int32) st ln) = (0 : Int32)))).1) kt) ?_
          show Onw p e below _ (T4.setTop (mkF m 132 #[.val (.int p0), .val (.int p1), .val (.int p2), .val (.int p3), .val (.int p4), .val (.int p5), .val (.ref b), .val (.int st), .val (.int ln), .unset] []))
          refine Onw.go (fun own_u kt => XS.aload X4.here hx rfl (hb hby at_132) rfl rfl kt) ?_
          show Onw p e below _ (T4.setTop (mkF m 134 #[.val (.int p0), .val (.int p1), .val (.int p2), .val (.int p3), .val (.int p4), .val (.int p5), .val (.ref b), .val (.int st), .val (.int ln), .unset] [(.ref b)]))
          refine Onw.go (fun own_u kt => XS.iconst X4.here hx rfl (hb hby at_134) kt) ?_
          show Onw p e below _ (T4.setTop (mkF m 135 #[.val (.int p0), .val (.int p1), .val (.int p2), .val (.int p3), .val (.int p4), .val (.int p5), .val (.ref b), .val (.int st), .val (.int ln), .unset] [(.int (3 : Int32)), (.ref b)]))
          refine Onw.go (X4.caload hx (j := (3 : Int32)) (v := (.int c3)) (by rw [e4q]; exact Ar.1) (State.isArrayOf_alike hZ.alike Ar.2.1) Ar.2.2 (inb_of Sa ⟨by decide, by decide⟩) (Ha 3 (by rw [Sa]; decide)) (g := (mkF m 135 #[.val (.int p0), .val (.int p1), .val (.int p2), .val (.int p3), .val (.int p4), .val (.int p5), .val (.ref b), .val (.int st), .val (.int ln), .unset] [(.int (3 : Int32)), (.ref b)])) rfl rfl (hb hby at_135)) ?_
          show Onw p e below _ (T4.setTop (mkF m 136 #[.val (.int p0), .val (.int p1), .val (.int p2), .val (.int p3), .val (.int p4), .val (.int p5), .val (.ref b), .val (.int st), .val (.int ln), .unset] [(.int c3)]))
          obtain ⟨_, _, ⟨T5, L5, k5, n5⟩, -, X5, ⟨Lc5, hQ5, l5, y5, z5⟩, st5⟩ := Jvm.LawKit.callS X4 hx (y := (⟨"com/example/faultline/faultline/xml/ElementReaderIsWhiteSpacePinLaw", "isSpace", "(C)Z"⟩ : MethodName)) hown (mvT hZ (hw _ (List.mem_of_getElem? (i := 9) rfl))) (mvT hZ (hw _ (List.mem_of_getElem? (i := 10) rfl))) (mvT hZ (hw _ (List.mem_of_getElem? (i := 3) rfl))) (mvT hZ (hw _ (List.mem_of_getElem? (i := 11) rfl))) (by decide) (backOf (W := 0) (rm3 l Z a0 hw [] c3  h0 n0 ) hZ (hw _ (List.mem_of_getElem? (i := 11) rfl)) (hw _ (List.mem_of_getElem? (i := 3) rfl)) (by decide) (by decide)) (g := (mkF m 136 #[.val (.int p0), .val (.int p1), .val (.int p2), .val (.int p3), .val (.int p4), .val (.int p5), .val (.ref b), .val (.int st), .val (.int ln), .unset] [(.int c3)])) rfl (by rw [hml]; rfl) (argsL := [(.int c3)]) (rest := []) (lenOf pd_2 rfl) rfl (by show 2 * 0 + _ ≤ _; exact Nat.le_of_eq rfl) (hb hby at_136) (fun _ _ => ⟨rfl, e4q, (by decide : 1 + 0 ≤ _), (by decide : 4 + 0 ≤ _)⟩)
          dsimp only [Pt.U, Pt.locs, Pt.cells, Pt.slots] at X5 l5 y5 z5 st5 hQ5
          subst l5 y5 z5
          obtain ⟨rfl, N5q, e5q⟩ := hQ5
          have N5 := Fr.app N4 N5q
          refine Onw.go st5 ?_
          show Onw p e below _ (T5.setTop (mkF m 139 #[.val (.int p0), .val (.int p1), .val (.int p2), .val (.int p3), .val (.int p4), .val (.int p5), .val (.ref b), .val (.int st), .val (.int ln), .unset] [(.int (own_sp c3))]))
          by_cases hs3 : (own_sp c3) = (0 : Int32)
          · refine Onw.go (fun own_u kt => XS.ifYes X5.here hx rfl (pc0 := 139) (pc' := 146) rfl (hb hby at_139) rfl ((if0 _ _).trans (teq (hs3 : (own_sp c3) = (0 : Int32))).1) (by decide) (by decide) kt) ?_
            show Onw p e below _ (T5.setTop (mkF m 146 #[.val (.int p0), .val (.int p1), .val (.int p2), .val (.int p3), .val (.int p4), .val (.int p5), .val (.ref b), .val (.int st), .val (.int ln), .unset] []))
            refine Onw.go (fun own_u kt => XS.iconst X5.here hx rfl (hb hby at_146) kt) ?_
            show Onw p e below _ (T5.setTop (mkF m 147 #[.val (.int p0), .val (.int p1), .val (.int p2), .val (.int p3), .val (.int p4), .val (.int p5), .val (.ref b), .val (.int st), .val (.int ln), .unset] [(.int (0 : Int32))]))
            have hx1 : own_exp c0 c1 c2 c3 st ln = (0 : Int32) := own_exp0_3 hc3 hs3
            rw [hx1] at hK
            exact hK _ _ X5 e5q N5
          · refine Onw.go (fun own_u kt => XS.ifNo X5.here hx rfl (hb hby at_139) rfl ((if0 _ _).trans (feq (hs3 : ¬ ((own_sp c3) = (0 : Int32)))).1) kt) ?_
            show Onw p e below _ (T5.setTop (mkF m 142 #[.val (.int p0), .val (.int p1), .val (.int p2), .val (.int p3), .val (.int p4), .val (.int p5), .val (.ref b), .val (.int st), .val (.int ln), .unset] []))
            have ok3 : own_ok (3 : Int32) c3 st ln := Or.inr hs3
            refine Onw.go (fun own_u kt => XS.iconst X5.here hx rfl (hb hby at_142) kt) ?_
            show Onw p e below _ (T5.setTop (mkF m 143 #[.val (.int p0), .val (.int p1), .val (.int p2), .val (.int p3), .val (.int p4), .val (.int p5), .val (.ref b), .val (.int st), .val (.int ln), .unset] [(.int (1 : Int32))]))
            refine Onw.go (fun own_u kt => XS.goto X5.here hx rfl (pc0 := 143) (pc' := 147) rfl (hb hby at_143) (by decide) (by decide) kt) ?_
            show Onw p e below _ (T5.setTop (mkF m 147 #[.val (.int p0), .val (.int p1), .val (.int p2), .val (.int p3), .val (.int p4), .val (.int p5), .val (.ref b), .val (.int st), .val (.int ln), .unset] [(.int (1 : Int32))]))
            have hx1 : own_exp c0 c1 c2 c3 st ln = (1 : Int32) := own_exp1 ok0 ok1 ok2 ok3
            rw [hx1] at hK
            exact hK _ _ X5 e5q N5
      · refine Onw.go (fun own_u kt => XS.ifNo X3.here hx rfl (hb hby at_108) rfl ((if0 _ _).trans (feq (hc2 : ¬ ((own_cov (2 : Int32) st ln) = (0 : Int32)))).1) kt) ?_
        show Onw p e below _ (T3.setTop (mkF m 111 #[.val (.int p0), .val (.int p1), .val (.int p2), .val (.int p3), .val (.int p4), .val (.int p5), .val (.ref b), .val (.int st), .val (.int ln), .unset] []))
        refine Onw.go (fun own_u kt => XS.aload X3.here hx rfl (hb hby at_111) rfl rfl kt) ?_
        show Onw p e below _ (T3.setTop (mkF m 113 #[.val (.int p0), .val (.int p1), .val (.int p2), .val (.int p3), .val (.int p4), .val (.int p5), .val (.ref b), .val (.int st), .val (.int ln), .unset] [(.ref b)]))
        refine Onw.go (fun own_u kt => XS.iconst X3.here hx rfl (hb hby at_113) kt) ?_
        show Onw p e below _ (T3.setTop (mkF m 114 #[.val (.int p0), .val (.int p1), .val (.int p2), .val (.int p3), .val (.int p4), .val (.int p5), .val (.ref b), .val (.int st), .val (.int ln), .unset] [(.int (2 : Int32)), (.ref b)]))
        refine Onw.go (X3.caload hx (j := (2 : Int32)) (v := (.int c2)) (by rw [e3q]; exact Ar.1) (State.isArrayOf_alike hZ.alike Ar.2.1) Ar.2.2 (inb_of Sa ⟨by decide, by decide⟩) (Ha 2 (by rw [Sa]; decide)) (g := (mkF m 114 #[.val (.int p0), .val (.int p1), .val (.int p2), .val (.int p3), .val (.int p4), .val (.int p5), .val (.ref b), .val (.int st), .val (.int ln), .unset] [(.int (2 : Int32)), (.ref b)])) rfl rfl (hb hby at_114)) ?_
        show Onw p e below _ (T3.setTop (mkF m 115 #[.val (.int p0), .val (.int p1), .val (.int p2), .val (.int p3), .val (.int p4), .val (.int p5), .val (.ref b), .val (.int st), .val (.int ln), .unset] [(.int c2)]))
        obtain ⟨_, _, ⟨T6, L6, k6, n6⟩, -, X6, ⟨Lc6, hQ6, l6, y6, z6⟩, st6⟩ := Jvm.LawKit.callS X3 hx (y := (⟨"com/example/faultline/faultline/xml/ElementReaderIsWhiteSpacePinLaw", "isSpace", "(C)Z"⟩ : MethodName)) hown (mvT hZ (hw _ (List.mem_of_getElem? (i := 9) rfl))) (mvT hZ (hw _ (List.mem_of_getElem? (i := 10) rfl))) (mvT hZ (hw _ (List.mem_of_getElem? (i := 3) rfl))) (mvT hZ (hw _ (List.mem_of_getElem? (i := 11) rfl))) (by decide) (backOf (W := 0) (rm3 l Z a0 hw [] c2  h0 n0 ) hZ (hw _ (List.mem_of_getElem? (i := 11) rfl)) (hw _ (List.mem_of_getElem? (i := 3) rfl)) (by decide) (by decide)) (g := (mkF m 115 #[.val (.int p0), .val (.int p1), .val (.int p2), .val (.int p3), .val (.int p4), .val (.int p5), .val (.ref b), .val (.int st), .val (.int ln), .unset] [(.int c2)])) rfl (by rw [hml]; rfl) (argsL := [(.int c2)]) (rest := []) (lenOf pd_2 rfl) rfl (by show 2 * 0 + _ ≤ _; exact Nat.le_of_eq rfl) (hb hby at_115) (fun _ _ => ⟨rfl, e3q, (by decide : 1 + 0 ≤ _), (by decide : 4 + 0 ≤ _)⟩)
        dsimp only [Pt.U, Pt.locs, Pt.cells, Pt.slots] at X6 l6 y6 z6 st6 hQ6
        subst l6 y6 z6
        obtain ⟨rfl, N6q, e6q⟩ := hQ6
        have N6 := Fr.app N3 N6q
        refine Onw.go st6 ?_
        show Onw p e below _ (T6.setTop (mkF m 118 #[.val (.int p0), .val (.int p1), .val (.int p2), .val (.int p3), .val (.int p4), .val (.int p5), .val (.ref b), .val (.int st), .val (.int ln), .unset] [(.int (own_sp c2))]))
        by_cases hs2 : (own_sp c2) = (0 : Int32)
        · refine Onw.go (fun own_u kt => XS.ifYes X6.here hx rfl (pc0 := 118) (pc' := 146) rfl (hb hby at_118) rfl ((if0 _ _).trans (teq (hs2 : (own_sp c2) = (0 : Int32))).1) (by decide) (by decide) kt) ?_
          show Onw p e below _ (T6.setTop (mkF m 146 #[.val (.int p0), .val (.int p1), .val (.int p2), .val (.int p3), .val (.int p4), .val (.int p5), .val (.ref b), .val (.int st), .val (.int ln), .unset] []))
          refine Onw.go (fun own_u kt => XS.iconst X6.here hx rfl (hb hby at_146) kt) ?_
          show Onw p e below _ (T6.setTop (mkF m 147 #[.val (.int p0), .val (.int p1), .val (.int p2), .val (.int p3), .val (.int p4), .val (.int p5), .val (.ref b), .val (.int st), .val (.int ln), .unset] [(.int (0 : Int32))]))
          have hx1 : own_exp c0 c1 c2 c3 st ln = (0 : Int32) := own_exp0_2 hc2 hs2
          rw [hx1] at hK
          exact hK _ _ X6 e6q N6
        · refine Onw.go (fun own_u kt => XS.ifNo X6.here hx rfl (hb hby at_118) rfl ((if0 _ _).trans (feq (hs2 : ¬ ((own_sp c2) = (0 : Int32)))).1) kt) ?_
          show Onw p e below _ (T6.setTop (mkF m 121 #[.val (.int p0), .val (.int p1), .val (.int p2), .val (.int p3), .val (.int p4), .val (.int p5), .val (.ref b), .val (.int st), .val (.int ln), .unset] []))
          have ok2 : own_ok (2 : Int32) c2 st ln := Or.inr hs2
          refine Onw.go (fun own_u kt => XS.iconst X6.here hx rfl (hb hby at_121) kt) ?_
          show Onw p e below _ (T6.setTop (mkF m 122 #[.val (.int p0), .val (.int p1), .val (.int p2), .val (.int p3), .val (.int p4), .val (.int p5), .val (.ref b), .val (.int st), .val (.int ln), .unset] [(.int (3 : Int32))]))
          refine Onw.go (fun own_u kt => XS.iload X6.here hx rfl (hb hby at_122) rfl kt) ?_
          show Onw p e below _ (T6.setTop (mkF m 124 #[.val (.int p0), .val (.int p1), .val (.int p2), .val (.int p3), .val (.int p4), .val (.int p5), .val (.ref b), .val (.int st), .val (.int ln), .unset] [(.int st), (.int (3 : Int32))]))
          refine Onw.go (fun own_u kt => XS.iload X6.here hx rfl (hb hby at_124) rfl kt) ?_
          show Onw p e below _ (T6.setTop (mkF m 126 #[.val (.int p0), .val (.int p1), .val (.int p2), .val (.int p3), .val (.int p4), .val (.int p5), .val (.ref b), .val (.int st), .val (.int ln), .unset] [(.int ln), (.int st), (.int (3 : Int32))]))
          obtain ⟨_, _, ⟨T7, L7, k7, n7⟩, -, X7, ⟨Lc7, hQ7, l7, y7, z7⟩, st7⟩ := Jvm.LawKit.callS X6 hx (y := (⟨"com/example/faultline/faultline/xml/ElementReaderIsWhiteSpacePinLaw", "covers", "(III)Z"⟩ : MethodName)) hown (mvT hZ (hw _ (List.mem_of_getElem? (i := 6) rfl))) (mvT hZ (hw _ (List.mem_of_getElem? (i := 7) rfl))) (mvT hZ (hw _ (List.mem_of_getElem? (i := 3) rfl))) (mvT hZ (hw _ (List.mem_of_getElem? (i := 8) rfl))) (by decide) (backOf (W := 0) (rm2 l Z a0 hw [] (3 : Int32) st ln  h0 n0 ) hZ (hw _ (List.mem_of_getElem? (i := 8) rfl)) (hw _ (List.mem_of_getElem? (i := 3) rfl)) (by decide) (by decide)) (g := (mkF m 126 #[.val (.int p0), .val (.int p1), .val (.int p2), .val (.int p3), .val (.int p4), .val (.int p5), .val (.ref b), .val (.int st), .val (.int ln), .unset] [(.int ln), (.int st), (.int (3 : Int32))])) rfl (by rw [hml]; rfl) (argsL := [(.int (3 : Int32)), (.int st), (.int ln)]) (rest := []) (lenOf pd_1 rfl) rfl (by show 2 * 0 + _ ≤ _; exact Nat.le_of_eq rfl) (hb hby at_126) (fun _ _ => ⟨rfl, e6q, (by decide : 1 + 0 ≤ _), (by decide : 4 + 0 ≤ _)⟩)
          dsimp only [Pt.U, Pt.locs, Pt.cells, Pt.slots] at X7 l7 y7 z7 st7 hQ7
          subst l7 y7 z7
          obtain ⟨rfl, N7q, e7q⟩ := hQ7
          have N7 := Fr.app N6 N7q
          refine Onw.go st7 ?_
          show Onw p e below _ (T7.setTop (mkF m 129 #[.val (.int p0), .val (.int p1), .val (.int p2), .val (.int p3), .val (.int p4), .val (.int p5), .val (.ref b), .val (.int st), .val (.int ln), .unset] [(.int (own_cov (3 : Int32) st ln))]))
          by_cases hc3 : (own_cov (3 : Int32) st ln) = (0 : Int32)
          · refine Onw.go (fun own_u kt => XS.ifYes X7.here hx rfl (pc0 := 129) (pc' := 142) rfl (hb hby at_129) rfl ((if0 _ _).trans (teq (hc3 : (own_cov (3 : Int32) st ln) = (0 : Int32))).1) (by decide) (by decide) kt) ?_
            show Onw p e below _ (T7.setTop (mkF m 142 #[.val (.int p0), .val (.int p1), .val (.int p2), .val (.int p3), .val (.int p4), .val (.int p5), .val (.ref b), .val (.int st), .val (.int ln), .unset] []))
            have ok3 : own_ok (3 : Int32) c3 st ln := Or.inl hc3
            refine Onw.go (fun own_u kt => XS.iconst X7.here hx rfl (hb hby at_142) kt) ?_
            show Onw p e below _ (T7.setTop (mkF m 143 #[.val (.int p0), .val (.int p1), .val (.int p2), .val (.int p3), .val (.int p4), .val (.int p5), .val (.ref b), .val (.int st), .val (.int ln), .unset] [(.int (1 : Int32))]))
            refine Onw.go (fun own_u kt => XS.goto X7.here hx rfl (pc0 := 143) (pc' := 147) rfl (hb hby at_143) (by decide) (by decide) kt) ?_
            show Onw p e below _ (T7.setTop (mkF m 147 #[.val (.int p0), .val (.int p1), .val (.int p2), .val (.int p3), .val (.int p4), .val (.int p5), .val (.ref b), .val (.int st), .val (.int ln), .unset] [(.int (1 : Int32))]))
            have hx1 : own_exp c0 c1 c2 c3 st ln = (1 : Int32) := own_exp1 ok0 ok1 ok2 ok3
            rw [hx1] at hK
            exact hK _ _ X7 e7q N7
          · refine Onw.go (fun own_u kt => XS.ifNo X7.here hx rfl (hb hby at_129) rfl ((if0 _ _).trans (feq (hc3 : ¬ ((own_cov (3 : Int32) st ln) = (0 : Int32)))).1) kt) ?_
            show Onw p e below _ (T7.setTop (mkF m 132 #[.val (.int p0), .val (.int p1), .val (.int p2), .val (.int p3), .val (.int p4), .val (.int p5), .val (.ref b), .val (.int st), .val (.int ln), .unset] []))
            refine Onw.go (fun own_u kt => XS.aload X7.here hx rfl (hb hby at_132) rfl rfl kt) ?_
            show Onw p e below _ (T7.setTop (mkF m 134 #[.val (.int p0), .val (.int p1), .val (.int p2), .val (.int p3), .val (.int p4), .val (.int p5), .val (.ref b), .val (.int st), .val (.int ln), .unset] [(.ref b)]))
            refine Onw.go (fun own_u kt => XS.iconst X7.here hx rfl (hb hby at_134) kt) ?_
            show Onw p e below _ (T7.setTop (mkF m 135 #[.val (.int p0), .val (.int p1), .val (.int p2), .val (.int p3), .val (.int p4), .val (.int p5), .val (.ref b), .val (.int st), .val (.int ln), .unset] [(.int (3 : Int32)), (.ref b)]))
            refine Onw.go (X7.caload hx (j := (3 : Int32)) (v := (.int c3)) (by rw [e7q]; exact Ar.1) (State.isArrayOf_alike hZ.alike Ar.2.1) Ar.2.2 (inb_of Sa ⟨by decide, by decide⟩) (Ha 3 (by rw [Sa]; decide)) (g := (mkF m 135 #[.val (.int p0), .val (.int p1), .val (.int p2), .val (.int p3), .val (.int p4), .val (.int p5), .val (.ref b), .val (.int st), .val (.int ln), .unset] [(.int (3 : Int32)), (.ref b)])) rfl rfl (hb hby at_135)) ?_
            show Onw p e below _ (T7.setTop (mkF m 136 #[.val (.int p0), .val (.int p1), .val (.int p2), .val (.int p3), .val (.int p4), .val (.int p5), .val (.ref b), .val (.int st), .val (.int ln), .unset] [(.int c3)]))
            obtain ⟨_, _, ⟨T8, L8, k8, n8⟩, -, X8, ⟨Lc8, hQ8, l8, y8, z8⟩, st8⟩ := Jvm.LawKit.callS X7 hx (y := (⟨"com/example/faultline/faultline/xml/ElementReaderIsWhiteSpacePinLaw", "isSpace", "(C)Z"⟩ : MethodName)) hown (mvT hZ (hw _ (List.mem_of_getElem? (i := 9) rfl))) (mvT hZ (hw _ (List.mem_of_getElem? (i := 10) rfl))) (mvT hZ (hw _ (List.mem_of_getElem? (i := 3) rfl))) (mvT hZ (hw _ (List.mem_of_getElem? (i := 11) rfl))) (by decide) (backOf (W := 0) (rm3 l Z a0 hw [] c3  h0 n0 ) hZ (hw _ (List.mem_of_getElem? (i := 11) rfl)) (hw _ (List.mem_of_getElem? (i := 3) rfl)) (by decide) (by decide)) (g := (mkF m 136 #[.val (.int p0), .val (.int p1), .val (.int p2), .val (.int p3), .val (.int p4), .val (.int p5), .val (.ref b), .val (.int st), .val (.int ln), .unset] [(.int c3)])) rfl (by rw [hml]; rfl) (argsL := [(.int c3)]) (rest := []) (lenOf pd_2 rfl) rfl (by show 2 * 0 + _ ≤ _; exact Nat.le_of_eq rfl) (hb hby at_136) (fun _ _ => ⟨rfl, e7q, (by decide : 1 + 0 ≤ _), (by decide : 4 + 0 ≤ _)⟩)
            dsimp only [Pt.U, Pt.locs, Pt.cells, Pt.slots] at X8 l8 y8 z8 st8 hQ8
            subst l8 y8 z8
            obtain ⟨rfl, N8q, e8q⟩ := hQ8
            have N8 := Fr.app N7 N8q
            refine Onw.go st8 ?_
            show Onw p e below _ (T8.setTop (mkF m 139 #[.val (.int p0), .val (.int p1), .val (.int p2), .val (.int p3), .val (.int p4), .val (.int p5), .val (.ref b), .val (.int st), .val (.int ln), .unset] [(.int (own_sp c3))]))
            by_cases hs3 : (own_sp c3) = (0 : Int32)
            · refine Onw.go (fun own_u kt => XS.ifYes X8.here hx rfl (pc0 := 139) (pc' := 146) rfl (hb hby at_139) rfl ((if0 _ _).trans (teq (hs3 : (own_sp c3) = (0 : Int32))).1) (by decide) (by decide) kt) ?_
              show Onw p e below _ (T8.setTop (mkF m 146 #[.val (.int p0), .val (.int p1), .val (.int p2), .val (.int p3), .val (.int p4), .val (.int p5), .val (.ref b), .val (.int st), .val (.int ln), .unset] []))
              refine Onw.go (fun own_u kt => XS.iconst X8.here hx rfl (hb hby at_146) kt) ?_
              show Onw p e below _ (T8.setTop (mkF m 147 #[.val (.int p0), .val (.int p1), .val (.int p2), .val (.int p3), .val (.int p4), .val (.int p5), .val (.ref b), .val (.int st), .val (.int ln), .unset] [(.int (0 : Int32))]))
              have hx1 : own_exp c0 c1 c2 c3 st ln = (0 : Int32) := own_exp0_3 hc3 hs3
              rw [hx1] at hK
              exact hK _ _ X8 e8q N8
            · refine Onw.go (fun own_u kt => XS.ifNo X8.here hx rfl (hb hby at_139) rfl ((if0 _ _).trans (feq (hs3 : ¬ ((own_sp c3) = (0 : Int32)))).1) kt) ?_
              show Onw p e below _ (T8.setTop (mkF m 142 #[.val (.int p0), .val (.int p1), .val (.int p2), .val (.int p3), .val (.int p4), .val (.int p5), .val (.ref b), .val (.int st), .val (.int ln), .unset] []))
              have ok3 : own_ok (3 : Int32) c3 st ln := Or.inr hs3
              refine Onw.go (fun own_u kt => XS.iconst X8.here hx rfl (hb hby at_142) kt) ?_
              show Onw p e below _ (T8.setTop (mkF m 143 #[.val (.int p0), .val (.int p1), .val (.int p2), .val (.int p3), .val (.int p4), .val (.int p5), .val (.ref b), .val (.int st), .val (.int ln), .unset] [(.int (1 : Int32))]))
              refine Onw.go (fun own_u kt => XS.goto X8.here hx rfl (pc0 := 143) (pc' := 147) rfl (hb hby at_143) (by decide) (by decide) kt) ?_
              show Onw p e below _ (T8.setTop (mkF m 147 #[.val (.int p0), .val (.int p1), .val (.int p2), .val (.int p3), .val (.int p4), .val (.int p5), .val (.ref b), .val (.int st), .val (.int ln), .unset] [(.int (1 : Int32))]))
              have hx1 : own_exp c0 c1 c2 c3 st ln = (1 : Int32) := own_exp1 ok0 ok1 ok2 ok3
              rw [hx1] at hK
              exact hK _ _ X8 e8q N8
    · refine Onw.go (fun own_u kt => XS.ifNo X2.here hx rfl (hb hby at_87) rfl ((if0 _ _).trans (feq (hc1 : ¬ ((own_cov (1 : Int32) st ln) = (0 : Int32)))).1) kt) ?_
      show Onw p e below _ (T2.setTop (mkF m 90 #[.val (.int p0), .val (.int p1), .val (.int p2), .val (.int p3), .val (.int p4), .val (.int p5), .val (.ref b), .val (.int st), .val (.int ln), .unset] []))
      refine Onw.go (fun own_u kt => XS.aload X2.here hx rfl (hb hby at_90) rfl rfl kt) ?_
      show Onw p e below _ (T2.setTop (mkF m 92 #[.val (.int p0), .val (.int p1), .val (.int p2), .val (.int p3), .val (.int p4), .val (.int p5), .val (.ref b), .val (.int st), .val (.int ln), .unset] [(.ref b)]))
      refine Onw.go (fun own_u kt => XS.iconst X2.here hx rfl (hb hby at_92) kt) ?_
      show Onw p e below _ (T2.setTop (mkF m 93 #[.val (.int p0), .val (.int p1), .val (.int p2), .val (.int p3), .val (.int p4), .val (.int p5), .val (.ref b), .val (.int st), .val (.int ln), .unset] [(.int (1 : Int32)), (.ref b)]))
      refine Onw.go (X2.caload hx (j := (1 : Int32)) (v := (.int c1)) (by rw [e2q]; exact Ar.1) (State.isArrayOf_alike hZ.alike Ar.2.1) Ar.2.2 (inb_of Sa ⟨by decide, by decide⟩) (Ha 1 (by rw [Sa]; decide)) (g := (mkF m 93 #[.val (.int p0), .val (.int p1), .val (.int p2), .val (.int p3), .val (.int p4), .val (.int p5), .val (.ref b), .val (.int st), .val (.int ln), .unset] [(.int (1 : Int32)), (.ref b)])) rfl rfl (hb hby at_93)) ?_
      show Onw p e below _ (T2.setTop (mkF m 94 #[.val (.int p0), .val (.int p1), .val (.int p2), .val (.int p3), .val (.int p4), .val (.int p5), .val (.ref b), .val (.int st), .val (.int ln), .unset] [(.int c1)]))
      obtain ⟨_, _, ⟨T9, L9, k9, n9⟩, -, X9, ⟨Lc9, hQ9, l9, y9, z9⟩, st9⟩ := Jvm.LawKit.callS X2 hx (y := (⟨"com/example/faultline/faultline/xml/ElementReaderIsWhiteSpacePinLaw", "isSpace", "(C)Z"⟩ : MethodName)) hown (mvT hZ (hw _ (List.mem_of_getElem? (i := 9) rfl))) (mvT hZ (hw _ (List.mem_of_getElem? (i := 10) rfl))) (mvT hZ (hw _ (List.mem_of_getElem? (i := 3) rfl))) (mvT hZ (hw _ (List.mem_of_getElem? (i := 11) rfl))) (by decide) (backOf (W := 0) (rm3 l Z a0 hw [] c1  h0 n0 ) hZ (hw _ (List.mem_of_getElem? (i := 11) rfl)) (hw _ (List.mem_of_getElem? (i := 3) rfl)) (by decide) (by decide)) (g := (mkF m 94 #[.val (.int p0), .val (.int p1), .val (.int p2), .val (.int p3), .val (.int p4), .val (.int p5), .val (.ref b), .val (.int st), .val (.int ln), .unset] [(.int c1)])) rfl (by rw [hml]; rfl) (argsL := [(.int c1)]) (rest := []) (lenOf pd_2 rfl) rfl (by show 2 * 0 + _ ≤ _; exact Nat.le_of_eq rfl) (hb hby at_94) (fun _ _ => ⟨rfl, e2q, (by decide : 1 + 0 ≤ _), (by decide : 4 + 0 ≤ _)⟩)
      dsimp only [Pt.U, Pt.locs, Pt.cells, Pt.slots] at X9 l9 y9 z9 st9 hQ9
      subst l9 y9 z9
      obtain ⟨rfl, N9q, e9q⟩ := hQ9
      have N9 := Fr.app N2 N9q
      refine Onw.go st9 ?_
      show Onw p e below _ (T9.setTop (mkF m 97 #[.val (.int p0), .val (.int p1), .val (.int p2), .val (.int p3), .val (.int p4), .val (.int p5), .val (.ref b), .val (.int st), .val (.int ln), .unset] [(.int (own_sp c1))]))
      by_cases hs1 : (own_sp c1) = (0 : Int32)
      · refine Onw.go (fun own_u kt => XS.ifYes X9.here hx rfl (pc0 := 97) (pc' := 146) rfl (hb hby at_97) rfl ((if0 _ _).trans (teq (hs1 : (own_sp c1) = (0 : Int32))).1) (by decide) (by decide) kt) ?_
        show Onw p e below _ (T9.setTop (mkF m 146 #[.val (.int p0), .val (.int p1), .val (.int p2), .val (.int p3), .val (.int p4), .val (.int p5), .val (.ref b), .val (.int st), .val (.int ln), .unset] []))
        refine Onw.go (fun own_u kt => XS.iconst X9.here hx rfl (hb hby at_146) kt) ?_
        show Onw p e below _ (T9.setTop (mkF m 147 #[.val (.int p0), .val (.int p1), .val (.int p2), .val (.int p3), .val (.int p4), .val (.int p5), .val (.ref b), .val (.int st), .val (.int ln), .unset] [(.int (0 : Int32))]))
        have hx1 : own_exp c0 c1 c2 c3 st ln = (0 : Int32) := own_exp0_1 hc1 hs1
        rw [hx1] at hK
        exact hK _ _ X9 e9q N9
      · refine Onw.go (fun own_u kt => XS.ifNo X9.here hx rfl (hb hby at_97) rfl ((if0 _ _).trans (feq (hs1 : ¬ ((own_sp c1) = (0 : Int32)))).1) kt) ?_
        show Onw p e below _ (T9.setTop (mkF m 100 #[.val (.int p0), .val (.int p1), .val (.int p2), .val (.int p3), .val (.int p4), .val (.int p5), .val (.ref b), .val (.int st), .val (.int ln), .unset] []))
        have ok1 : own_ok (1 : Int32) c1 st ln := Or.inr hs1
        refine Onw.go (fun own_u kt => XS.iconst X9.here hx rfl (hb hby at_100) kt) ?_
        show Onw p e below _ (T9.setTop (mkF m 101 #[.val (.int p0), .val (.int p1), .val (.int p2), .val (.int p3), .val (.int p4), .val (.int p5), .val (.ref b), .val (.int st), .val (.int ln), .unset] [(.int (2 : Int32))]))
        refine Onw.go (fun own_u kt => XS.iload X9.here hx rfl (hb hby at_101) rfl kt) ?_
        show Onw p e below _ (T9.setTop (mkF m 103 #[.val (.int p0), .val (.int p1), .val (.int p2), .val (.int p3), .val (.int p4), .val (.int p5), .val (.ref b), .val (.int st), .val (.int ln), .unset] [(.int st), (.int (2 : Int32))]))
        refine Onw.go (fun own_u kt => XS.iload X9.here hx rfl (hb hby at_103) rfl kt) ?_
        show Onw p e below _ (T9.setTop (mkF m 105 #[.val (.int p0), .val (.int p1), .val (.int p2), .val (.int p3), .val (.int p4), .val (.int p5), .val (.ref b), .val (.int st), .val (.int ln), .unset] [(.int ln), (.int st), (.int (2 : Int32))]))
        obtain ⟨_, _, ⟨T10, L10, k10, n10⟩, -, X10, ⟨Lc10, hQ10, l10, y10, z10⟩, st10⟩ := Jvm.LawKit.callS X9 hx (y := (⟨"com/example/faultline/faultline/xml/ElementReaderIsWhiteSpacePinLaw", "covers", "(III)Z"⟩ : MethodName)) hown (mvT hZ (hw _ (List.mem_of_getElem? (i := 6) rfl))) (mvT hZ (hw _ (List.mem_of_getElem? (i := 7) rfl))) (mvT hZ (hw _ (List.mem_of_getElem? (i := 3) rfl))) (mvT hZ (hw _ (List.mem_of_getElem? (i := 8) rfl))) (by decide) (backOf (W := 0) (rm2 l Z a0 hw [] (2 : Int32) st ln  h0 n0 ) hZ (hw _ (List.mem_of_getElem? (i := 8) rfl)) (hw _ (List.mem_of_getElem? (i := 3) rfl)) (by decide) (by decide)) (g := (mkF m 105 #[.val (.int p0), .val (.int p1), .val (.int p2), .val (.int p3), .val (.int p4), .val (.int p5), .val (.ref b), .val (.int st), .val (.int ln), .unset] [(.int ln), (.int st), (.int (2 : Int32))])) rfl (by rw [hml]; rfl) (argsL := [(.int (2 : Int32)), (.int st), (.int ln)]) (rest := []) (lenOf pd_1 rfl) rfl (by show 2 * 0 + _ ≤ _; exact Nat.le_of_eq rfl) (hb hby at_105) (fun _ _ => ⟨rfl, e9q, (by decide : 1 + 0 ≤ _), (by decide : 4 + 0 ≤ _)⟩)
        dsimp only [Pt.U, Pt.locs, Pt.cells, Pt.slots] at X10 l10 y10 z10 st10 hQ10
        subst l10 y10 z10
        obtain ⟨rfl, N10q, e10q⟩ := hQ10
        have N10 := Fr.app N9 N10q
        refine Onw.go st10 ?_
        show Onw p e below _ (T10.setTop (mkF m 108 #[.val (.int p0), .val (.int p1), .val (.int p2), .val (.int p3), .val (.int p4), .val (.int p5), .val (.ref b), .val (.int st), .val (.int ln), .unset] [(.int (own_cov (2 : Int32) st ln))]))
        by_cases hc2 : (own_cov (2 : Int32) st ln) = (0 : Int32)
        · refine Onw.go (fun own_u kt => XS.ifYes X10.here hx rfl (pc0 := 108) (pc' := 121) rfl (hb hby at_108) rfl ((if0 _ _).trans (teq (hc2 : (own_cov (2 : Int32) st ln) = (0 : Int32))).1) (by decide) (by decide) kt) ?_
          show Onw p e below _ (T10.setTop (mkF m 121 #[.val (.int p0), .val (.int p1), .val (.int p2), .val (.int p3), .val (.int p4), .val (.int p5), .val (.ref b), .val (.int st), .val (.int ln), .unset] []))
          have ok2 : own_ok (2 : Int32) c2 st ln := Or.inl hc2
          refine Onw.go (fun own_u kt => XS.iconst X10.here hx rfl (hb hby at_121) kt) ?_
          show Onw p e below _ (T10.setTop (mkF m 122 #[.val (.int p0), .val (.int p1), .val (.int p2), .val (.int p3), .val (.int p4), .val (.int p5), .val (.ref b), .val (.int st), .val (.int ln), .unset] [(.int (3 : Int32))]))
          refine Onw.go (fun own_u kt => XS.iload X10.here hx rfl (hb hby at_122) rfl kt) ?_
          show Onw p e below _ (T10.setTop (mkF m 124 #[.val (.int p0), .val (.int p1), .val (.int p2), .val (.int p3), .val (.int p4), .val (.int p5), .val (.ref b), .val (.int st), .val (.int ln), .unset] [(.int st), (.int (3 : Int32))]))
          refine Onw.go (fun own_u kt => XS.iload X10.here hx rfl (hb hby at_124) rfl kt) ?_
          show Onw p e below _ (T10.setTop (mkF m 126 #[.val (.int p0), .val (.int p1), .val (.int p2), .val (.int p3), .val (.int p4), .val (.int p5), .val (.ref b), .val (.int st), .val (.int ln), .unset] [(.int ln), (.int st), (.int (3 : Int32))]))
          obtain ⟨_, _, ⟨T11, L11, k11, n11⟩, -, X11, ⟨Lc11, hQ11, l11, y11, z11⟩, st11⟩ := Jvm.LawKit.callS X10 hx (y := (⟨"com/example/faultline/faultline/xml/ElementReaderIsWhiteSpacePinLaw", "covers", "(III)Z"⟩ : MethodName)) hown (mvT hZ (hw _ (List.mem_of_getElem? (i := 6) rfl))) (mvT hZ (hw _ (List.mem_of_getElem? (i := 7) rfl))) (mvT hZ (hw _ (List.mem_of_getElem? (i := 3) rfl))) (mvT hZ (hw _ (List.mem_of_getElem? (i := 8) rfl))) (by decide) (backOf (W := 0) (rm2 l Z a0 hw [] (3 : Int32) st ln  h0 n0 ) hZ (hw _ (List.mem_of_getElem? (i := 8) rfl)) (hw _ (List.mem_of_getElem? (i := 3) rfl)) (by decide) (by decide)) (g := (mkF m 126 #[.val (.int p0), .val (.int p1), .val (.int p2), .val (.int p3), .val (.int p4), .val (.int p5), .val (.ref b), .val (.int st), .val (.int ln), .unset] [(.int ln), (.int st), (.int (3 : Int32))])) rfl (by rw [hml]; rfl) (argsL := [(.int (3 : Int32)), (.int st), (.int ln)]) (rest := []) (lenOf pd_1 rfl) rfl (by show 2 * 0 + _ ≤ _; exact Nat.le_of_eq rfl) (hb hby at_126) (fun _ _ => ⟨rfl, e10q, (by decide : 1 + 0 ≤ _), (by decide : 4 + 0 ≤ _)⟩)
          dsimp only [Pt.U, Pt.locs, Pt.cells, Pt.slots] at X11 l11 y11 z11 st11 hQ11
          subst l11 y11 z11
          obtain ⟨rfl, N11q, e11q⟩ := hQ11
          have N11 := Fr.app N10 N11q
          refine Onw.go st11 ?_
          show Onw p e below _ (T11.setTop (mkF m 129 #[.val (.int p0), .val (.int p1), .val (.int p2), .val (.int p3), .val (.int p4), .val (.int p5), .val (.ref b), .val (.int st), .val (.int ln), .unset] [(.int (own_cov (3 : Int32) st ln))]))
          by_cases hc3 : (own_cov (3 : Int32) st ln) = (0 : Int32)
          · refine Onw.go (fun own_u kt => XS.ifYes X11.here hx rfl (pc0 := 129) (pc' := 142) rfl (hb hby at_129) rfl ((if0 _ _).trans (teq (hc3 : (own_cov (3 : Int32) st ln) = (0 : Int32))).1) (by decide) (by decide) kt) ?_
            show Onw p e below _ (T11.setTop (mkF m 142 #[.val (.int p0), .val (.int p1), .val (.int p2), .val (.int p3), .val (.int p4), .val (.int p5), .val (.ref b), .val (.int st), .val (.int ln), .unset] []))
            have ok3 : own_ok (3 : Int32) c3 st ln := Or.inl hc3
            refine Onw.go (fun own_u kt => XS.iconst X11.here hx rfl (hb hby at_142) kt) ?_
            show Onw p e below _ (T11.setTop (mkF m 143 #[.val (.int p0), .val (.int p1), .val (.int p2), .val (.int p3), .val (.int p4), .val (.int p5), .val (.ref b), .val (.int st), .val (.int ln), .unset] [(.int (1 : Int32))]))
            refine Onw.go (fun own_u kt => XS.goto X11.here hx rfl (pc0 := 143) (pc' := 147) rfl (hb hby at_143) (by decide) (by decide) kt) ?_
            show Onw p e below _ (T11.setTop (mkF m 147 #[.val (.int p0), .val (.int p1), .val (.int p2), .val (.int p3), .val (.int p4), .val (.int p5), .val (.ref b), .val (.int st), .val (.int ln), .unset] [(.int (1 : Int32))]))
            have hx1 : own_exp c0 c1 c2 c3 st ln = (1 : Int32) := own_exp1 ok0 ok1 ok2 ok3
            rw [hx1] at hK
            exact hK _ _ X11 e11q N11
          · refine Onw.go (fun own_u kt => XS.ifNo X11.here hx rfl (hb hby at_129) rfl ((if0 _ _).trans (feq (hc3 : ¬ ((own_cov (3 : Int32) st ln) = (0 : Int32)))).1) kt) ?_
            show Onw p e below _ (T11.setTop (mkF m 132 #[.val (.int p0), .val (.int p1), .val (.int p2), .val (.int p3), .val (.int p4), .val (.int p5), .val (.ref b), .val (.int st), .val (.int ln), .unset] []))
            refine Onw.go (fun own_u kt => XS.aload X11.here hx rfl (hb hby at_132) rfl rfl kt) ?_
            show Onw p e below _ (T11.setTop (mkF m 134 #[.val (.int p0), .val (.int p1), .val (.int p2), .val (.int p3), .val (.int p4), .val (.int p5), .val (.ref b), .val (.int st), .val (.int ln), .unset] [(.ref b)]))
            refine Onw.go (fun own_u kt => XS.iconst X11.here hx rfl (hb hby at_134) kt) ?_
            show Onw p e below _ (T11.setTop (mkF m 135 #[.val (.int p0), .val (.int p1), .val (.int p2), .val (.int p3), .val (.int p4), .val (.int p5), .val (.ref b), .val (.int st), .val (.int ln), .unset] [(.int (3 : Int32)), (.ref b)]))
            refine Onw.go (X11.caload hx (j := (3 : Int32)) (v := (.int c3)) (by rw [e11q]; exact Ar.1) (State.isArrayOf_alike hZ.alike Ar.2.1) Ar.2.2 (inb_of Sa ⟨by decide, by decide⟩) (Ha 3 (by rw [Sa]; decide)) (g := (mkF m 135 #[.val (.int p0), .val (.int p1), .val (.int p2), .val (.int p3), .val (.int p4), .val (.int p5), .val (.ref b), .val (.int st), .val (.int ln), .unset] [(.int (3 : Int32)), (.ref b)])) rfl rfl (hb hby at_135)) ?_
            show Onw p e below _ (T11.setTop (mkF m 136 #[.val (.int p0), .val (.int p1), .val (.int p2), .val (.int p3), .val (.int p4), .val (.int p5), .val (.ref b), .val (.int st), .val (.int ln), .unset] [(.int c3)]))
            obtain ⟨_, _, ⟨T12, L12, k12, n12⟩, -, X12, ⟨Lc12, hQ12, l12, y12, z12⟩, st12⟩ := Jvm.LawKit.callS X11 hx (y := (⟨"com/example/faultline/faultline/xml/ElementReaderIsWhiteSpacePinLaw", "isSpace", "(C)Z"⟩ : MethodName)) hown (mvT hZ (hw _ (List.mem_of_getElem? (i := 9) rfl))) (mvT hZ (hw _ (List.mem_of_getElem? (i := 10) rfl))) (mvT hZ (hw _ (List.mem_of_getElem? (i := 3) rfl))) (mvT hZ (hw _ (List.mem_of_getElem? (i := 11) rfl))) (by decide) (backOf (W := 0) (rm3 l Z a0 hw [] c3  h0 n0 ) hZ (hw _ (List.mem_of_getElem? (i := 11) rfl)) (hw _ (List.mem_of_getElem? (i := 3) rfl)) (by decide) (by decide)) (g := (mkF m 136 #[.val (.int p0), .val (.int p1), .val (.int p2), .val (.int p3), .val (.int p4), .val (.int p5), .val (.ref b), .val (.int st), .val (.int ln), .unset] [(.int c3)])) rfl (by rw [hml]; rfl) (argsL := [(.int c3)]) (rest := []) (lenOf pd_2 rfl) rfl (by show 2 * 0 + _ ≤ _; exact Nat.le_of_eq rfl) (hb hby at_136) (fun _ _ => ⟨rfl, e11q, (by decide : 1 + 0 ≤ _), (by decide : 4 + 0 ≤ _)⟩)
            dsimp only [Pt.U, Pt.locs, Pt.cells, Pt.slots] at X12 l12 y12 z12 st12 hQ12
            subst l12 y12 z12
            obtain ⟨rfl, N12q, e12q⟩ := hQ12
            have N12 := Fr.app N11 N12q
            refine Onw.go st12 ?_
            show Onw p e below _ (T12.setTop (mkF m 139 #[.val (.int p0), .val (.int p1), .val (.int p2), .val (.int p3), .val (.int p4), .val (.int p5), .val (.ref b), .val (.int st), .val (.int ln), .unset] [(.int (own_sp c3))]))
            by_cases hs3 : (own_sp c3) = (0 : Int32)
            · refine Onw.go (fun own_u kt => XS.ifYes X12.here hx rfl (pc0 := 139) (pc' := 146) rfl (hb hby at_139) rfl ((if0 _ _).trans (teq (hs3 : (own_sp c3) = (0 : Int32))).1) (by decide) (by decide) kt) ?_
              show Onw p e below _ (T12.setTop (mkF m 146 #[.val (.int p0), .val (.int p1), .val (.int p2), .val (.int p3), .val (.int p4), .val (.int p5), .val (.ref b), .val (.int st), .val (.int ln), .unset] []))
              refine Onw.go (fun own_u kt => XS.iconst X12.here hx rfl (hb hby at_146) kt) ?_
              show Onw p e below _ (T12.setTop (mkF m 147 #[.val (.int p0), .val (.int p1), .val (.int p2), .val (.int p3), .val (.int p4), .val (.int p5), .val (.ref b), .val (.int st), .val (.int ln), .unset] [(.int (0 : Int32))]))
              have hx1 : own_exp c0 c1 c2 c3 st ln = (0 : Int32) := own_exp0_3 hc3 hs3
              rw [hx1] at hK
              exact hK _ _ X12 e12q N12
            · refine Onw.go (fun own_u kt => XS.ifNo X12.here hx rfl (hb hby at_139) rfl ((if0 _ _).trans (feq (hs3 : ¬ ((own_sp c3) = (0 : Int32)))).1) kt) ?_
              show Onw p e below _ (T12.setTop (mkF m 142 #[.val (.int p0), .val (.int p1), .val (.int p2), .val (.int p3), .val (.int p4), .val (.int p5), .val (.ref b), .val (.int st), .val (.int ln), .unset] []))
              have ok3 : own_ok (3 : Int32) c3 st ln := Or.inr hs3
              refine Onw.go (fun own_u kt => XS.iconst X12.here hx rfl (hb hby at_142) kt) ?_
              show Onw p e below _ (T12.setTop (mkF m 143 #[.val (.int p0), .val (.int p1), .val (.int p2), .val (.int p3), .val (.int p4), .val (.int p5), .val (.ref b), .val (.int st), .val (.int ln), .unset] [(.int (1 : Int32))]))
              refine Onw.go (fun own_u kt => XS.goto X12.here hx rfl (pc0 := 143) (pc' := 147) rfl (hb hby at_143) (by decide) (by decide) kt) ?_
              show Onw p e below _ (T12.setTop (mkF m 147 #[.val (.int p0), .val (.int p1), .val (.int p2), .val (.int p3), .val (.int p4), .val (.int p5), .val (.ref b), .val (.int st), .val (.int ln), .unset] [(.int (1 : Int32))]))
              have hx1 : own_exp c0 c1 c2 c3 st ln = (1 : Int32) := own_exp1 ok0 ok1 ok2 ok3
              rw [hx1] at hK
              exact hK _ _ X12 e12q N12
        · refine Onw.go (fun own_u kt => XS.ifNo X10.here hx rfl (hb hby at_108) rfl ((if0 _ _).trans (feq (hc2 : ¬ ((own_cov (2 : Int32) st ln) = (0 : Int32)))).1) kt) ?_
          show Onw p e below _ (T10.setTop (mkF m 111 #[.val (.int p0), .val (.int p1), .val (.int p2), .val (.int p3), .val (.int p4), .val (.int p5), .val (.ref b), .val (.int st), .val (.int ln), .unset] []))
          refine Onw.go (fun own_u kt => XS.aload X10.here hx rfl (hb hby at_111) rfl rfl kt) ?_
          show Onw p e below _ (T10.setTop (mkF m 113 #[.val (.int p0), .val (.int p1), .val (.int p2), .val (.int p3), .val (.int p4), .val (.int p5), .val (.ref b), .val (.int st), .val (.int ln), .unset] [(.ref b)]))
          refine Onw.go (fun own_u kt => XS.iconst X10.here hx rfl (hb hby at_113) kt) ?_
          show Onw p e below _ (T10.setTop (mkF m 114 #[.val (.int p0), .val (.int p1), .val (.int p2), .val (.int p3), .val (.int p4), .val (.int p5), .val (.ref b), .val (.int st), .val (.int ln), .unset] [(.int (2 : Int32)), (.ref b)]))
          refine Onw.go (X10.caload hx (j := (2 : Int32)) (v := (.int c2)) (by rw [e10q]; exact Ar.1) (State.isArrayOf_alike hZ.alike Ar.2.1) Ar.2.2 (inb_of Sa ⟨by decide, by decide⟩) (Ha 2 (by rw [Sa]; decide)) (g := (mkF m 114 #[.val (.int p0), .val (.int p1), .val (.int p2), .val (.int p3), .val (.int p4), .val (.int p5), .val (.ref b), .val (.int st), .val (.int ln), .unset] [(.int (2 : Int32)), (.ref b)])) rfl rfl (hb hby at_114)) ?_
          show Onw p e below _ (T10.setTop (mkF m 115 #[.val (.int p0), .val (.int p1), .val (.int p2), .val (.int p3), .val (.int p4), .val (.int p5), .val (.ref b), .val (.int st), .val (.int ln), .unset] [(.int c2)]))
          obtain ⟨_, _, ⟨T13, L13, k13, n13⟩, -, X13, ⟨Lc13, hQ13, l13, y13, z13⟩, st13⟩ := Jvm.LawKit.callS X10 hx (y := (⟨"com/example/faultline/faultline/xml/ElementReaderIsWhiteSpacePinLaw", "isSpace", "(C)Z"⟩ : MethodName)) hown (mvT hZ (hw _ (List.mem_of_getElem? (i := 9) rfl))) (mvT hZ (hw _ (List.mem_of_getElem? (i := 10) rfl))) (mvT hZ (hw _ (List.mem_of_getElem? (i := 3) rfl))) (mvT hZ (hw _ (List.mem_of_getElem? (i := 11) rfl))) (by decide) (backOf (W := 0) (rm3 l Z a0 hw [] c2  h0 n0 ) hZ (hw _ (List.mem_of_getElem? (i := 11) rfl)) (hw _ (List.mem_of_getElem? (i := 3) rfl)) (by decide) (by decide)) (g := (mkF m 115 #[.val (.int p0), .val (.int p1), .val (.int p2), .val (.int p3), .val (.int p4), .val (.int p5), .val (.ref b), .val (.int st), .val (.int ln), .unset] [(.int c2)])) rfl (by rw [hml]; rfl) (argsL := [(.int c2)]) (rest := []) (lenOf pd_2 rfl) rfl (by show 2 * 0 + _ ≤ _; exact Nat.le_of_eq rfl) (hb hby at_115) (fun _ _ => ⟨rfl, e10q, (by decide : 1 + 0 ≤ _), (by decide : 4 + 0 ≤ _)⟩)
          dsimp only [Pt.U, Pt.locs, Pt.cells, Pt.slots] at X13 l13 y13 z13 st13 hQ13
          subst l13 y13 z13
          obtain ⟨rfl, N13q, e13q⟩ := hQ13
          have N13 := Fr.app N10 N13q
          refine Onw.go st13 ?_
          show Onw p e below _ (T13.setTop (mkF m 118 #[.val (.int p0), .val (.int p1), .val (.int p2), .val (.int p3), .val (.int p4), .val (.int p5), .val (.ref b), .val (.int st), .val (.int ln), .unset] [(.int (own_sp c2))]))
          by_cases hs2 : (own_sp c2) = (0 : Int32)
          · refine Onw.go (fun own_u kt => XS.ifYes X13.here hx rfl (pc0 := 118) (pc' := 146) rfl (hb hby at_118) rfl ((if0 _ _).trans (teq (hs2 : (own_sp c2) = (0 : Int32))).1) (by decide) (by decide) kt) ?_
            show Onw p e below _ (T13.setTop (mkF m 146 #[.val (.int p0), .val (.int p1), .val (.int p2), .val (.int p3), .val (.int p4), .val (.int p5), .val (.ref b), .val (.int st), .val (.int ln), .unset] []))
            refine Onw.go (fun own_u kt => XS.iconst X13.here hx rfl (hb hby at_146) kt) ?_
            show Onw p e below _ (T13.setTop (mkF m 147 #[.val (.int p0), .val (.int p1), .val (.int p2), .val (.int p3), .val (.int p4), .val (.int p5), .val (.ref b), .val (.int st), .val (.int ln), .unset] [(.int (0 : Int32))]))
            have hx1 : own_exp c0 c1 c2 c3 st ln = (0 : Int32) := own_exp0_2 hc2 hs2
            rw [hx1] at hK
            exact hK _ _ X13 e13q N13
          · refine Onw.go (fun own_u kt => XS.ifNo X13.here hx rfl (hb hby at_118) rfl ((if0 _ _).trans (feq (hs2 : ¬ ((own_sp c2) = (0 : Int32)))).1) kt) ?_
            show Onw p e below _ (T13.setTop (mkF m 121 #[.val (.int p0), .val (.int p1), .val (.int p2), .val (.int p3), .val (.int p4), .val (.int p5), .val (.ref b), .val (.int st), .val (.int ln), .unset] []))
            have ok2 : own_ok (2 : Int32) c2 st ln := Or.inr hs2
            refine Onw.go (fun own_u kt => XS.iconst X13.here hx rfl (hb hby at_121) kt) ?_
            show Onw p e below _ (T13.setTop (mkF m 122 #[.val (.int p0), .val (.int p1), .val (.int p2), .val (.int p3), .val (.int p4), .val (.int p5), .val (.ref b), .val (.int st), .val (.int ln), .unset] [(.int (3 : Int32))]))
            refine Onw.go (fun own_u kt => XS.iload X13.here hx rfl (hb hby at_122) rfl kt) ?_
            show Onw p e below _ (T13.setTop (mkF m 124 #[.val (.int p0), .val (.int p1), .val (.int p2), .val (.int p3), .val (.int p4), .val (.int p5), .val (.ref b), .val (.int st), .val (.int ln), .unset] [(.int st), (.int (3 : Int32))]))
            refine Onw.go (fun own_u kt => XS.iload X13.here hx rfl (hb hby at_124) rfl kt) ?_
            show Onw p e below _ (T13.setTop (mkF m 126 #[.val (.int p0), .val (.int p1), .val (.int p2), .val (.int p3), .val (.int p4), .val (.int p5), .val (.ref b), .val (.int st), .val (.int ln), .unset] [(.int ln), (.int st), (.int (3 : Int32))]))
            obtain ⟨_, _, ⟨T14, L14, k14, n14⟩, -, X14, ⟨Lc14, hQ14, l14, y14, z14⟩, st14⟩ := Jvm.LawKit.callS X13 hx (y := (⟨"com/example/faultline/faultline/xml/ElementReaderIsWhiteSpacePinLaw", "covers", "(III)Z"⟩ : MethodName)) hown (mvT hZ (hw _ (List.mem_of_getElem? (i := 6) rfl))) (mvT hZ (hw _ (List.mem_of_getElem? (i := 7) rfl))) (mvT hZ (hw _ (List.mem_of_getElem? (i := 3) rfl))) (mvT hZ (hw _ (List.mem_of_getElem? (i := 8) rfl))) (by decide) (backOf (W := 0) (rm2 l Z a0 hw [] (3 : Int32) st ln  h0 n0 ) hZ (hw _ (List.mem_of_getElem? (i := 8) rfl)) (hw _ (List.mem_of_getElem? (i := 3) rfl)) (by decide) (by decide)) (g := (mkF m 126 #[.val (.int p0), .val (.int p1), .val (.int p2), .val (.int p3), .val (.int p4), .val (.int p5), .val (.ref b), .val (.int st), .val (.int ln), .unset] [(.int ln), (.int st), (.int (3 : Int32))])) rfl (by rw [hml]; rfl) (argsL := [(.int (3 : Int32)), (.int st), (.int ln)]) (rest := []) (lenOf pd_1 rfl) rfl (by show 2 * 0 + _ ≤ _; exact Nat.le_of_eq rfl) (hb hby at_126) (fun _ _ => ⟨rfl, e13q, (by decide : 1 + 0 ≤ _), (by decide : 4 + 0 ≤ _)⟩)
            dsimp only [Pt.U, Pt.locs, Pt.cells, Pt.slots] at X14 l14 y14 z14 st14 hQ14
            subst l14 y14 z14
            obtain ⟨rfl, N14q, e14q⟩ := hQ14
            have N14 := Fr.app N13 N14q
            refine Onw.go st14 ?_
            show Onw p e below _ (T14.setTop (mkF m 129 #[.val (.int p0), .val (.int p1), .val (.int p2), .val (.int p3), .val (.int p4), .val (.int p5), .val (.ref b), .val (.int st), .val (.int ln), .unset] [(.int (own_cov (3 : Int32) st ln))]))
            by_cases hc3 : (own_cov (3 : Int32) st ln) = (0 : Int32)
            · refine Onw.go (fun own_u kt => XS.ifYes X14.here hx rfl (pc0 := 129) (pc' := 142) rfl (hb hby at_129) rfl ((if0 _ _).trans (teq (hc3 : (own_cov (3 : Int32) st ln) = (0 : Int32))).1) (by decide) (by decide) kt) ?_
              show Onw p e below _ (T14.setTop (mkF m 142 #[.val (.int p0), .val (.int p1), .val (.int p2), .val (.int p3), .val (.int p4), .val (.int p5), .val (.ref b), .val (.int st), .val (.int ln), .unset] []))
              have ok3 : own_ok (3 : Int32) c3 st ln := Or.inl hc3
              refine Onw.go (fun own_u kt => XS.iconst X14.here hx rfl (hb hby at_142) kt) ?_
              show Onw p e below _ (T14.setTop (mkF m 143 #[.val (.int p0), .val (.int p1), .val (.int p2), .val (.int p3), .val (.int p4), .val (.int p5), .val (.ref b), .val (.int st), .val (.int ln), .unset] [(.int (1 : Int32))]))
              refine Onw.go (fun own_u kt => XS.goto X14.here hx rfl (pc0 := 143) (pc' := 147) rfl (hb hby at_143) (by decide) (by decide) kt) ?_
              show Onw p e below _ (T14.setTop (mkF m 147 #[.val (.int p0), .val (.int p1), .val (.int p2), .val (.int p3), .val (.int p4), .val (.int p5), .val (.ref b), .val (.int st), .val (.int ln), .unset] [(.int (1 : Int32))]))
              have hx1 : own_exp c0 c1 c2 c3 st ln = (1 : Int32) := own_exp1 ok0 ok1 ok2 ok3
              rw [hx1] at hK
              exact hK _ _ X14 e14q N14
            · refine Onw.go (fun own_u kt => XS.ifNo X14.here hx rfl (hb hby at_129) rfl ((if0 _ _).trans (feq (hc3 : ¬ ((own_cov (3 : Int32) st ln) = (0 : Int32)))).1) kt) ?_
              show Onw p e below _ (T14.setTop (mkF m 132 #[.val (.int p0), .val (.int p1), .val (.int p2), .val (.int p3), .val (.int p4), .val (.int p5), .val (.ref b), .val (.int st), .val (.int ln), .unset] []))
              refine Onw.go (fun own_u kt => XS.aload X14.here hx rfl (hb hby at_132) rfl rfl kt) ?_
              show Onw p e below _ (T14.setTop (mkF m 134 #[.val (.int p0), .val (.int p1), .val (.int p2), .val (.int p3), .val (.int p4), .val (.int p5), .val (.ref b), .val (.int st), .val (.int ln), .unset] [(.ref b)]))
              refine Onw.go (fun own_u kt => XS.iconst X14.here hx rfl (hb hby at_134) kt) ?_
              show Onw p e below _ (T14.setTop (mkF m 135 #[.val (.int p0), .val (.int p1), .val (.int p2), .val (.int p3), .val (.int p4), .val (.int p5), .val (.ref b), .val (.int st), .val (.int ln), .unset] [(.int (3 : Int32)), (.ref b)]))
              refine Onw.go (X14.caload hx (j := (3 : Int32)) (v := (.int c3)) (by rw [e14q]; exact Ar.1) (State.isArrayOf_alike hZ.alike Ar.2.1) Ar.2.2 (inb_of Sa ⟨by decide, by decide⟩) (Ha 3 (by rw [Sa]; decide)) (g := (mkF m 135 #[.val (.int p0), .val (.int p1), .val (.int p2), .val (.int p3), .val (.int p4), .val (.int p5), .val (.ref b), .val (.int st), .val (.int ln), .unset] [(.int (3 : Int32)), (.ref b)])) rfl rfl (hb hby at_135)) ?_
              show Onw p e below _ (T14.setTop (mkF m 136 #[.val (.int p0), .val (.int p1), .val (.int p2), .val (.int p3), .val (.int p4), .val (.int p5), .val (.ref b), .val (.int st), .val (.int ln), .unset] [(.int c3)]))
              obtain ⟨_, _, ⟨T15, L15, k15, n15⟩, -, X15, ⟨Lc15, hQ15, l15, y15, z15⟩, st15⟩ := Jvm.LawKit.callS X14 hx (y := (⟨"com/example/faultline/faultline/xml/ElementReaderIsWhiteSpacePinLaw", "isSpace", "(C)Z"⟩ : MethodName)) hown (mvT hZ (hw _ (List.mem_of_getElem? (i := 9) rfl))) (mvT hZ (hw _ (List.mem_of_getElem? (i := 10) rfl))) (mvT hZ (hw _ (List.mem_of_getElem? (i := 3) rfl))) (mvT hZ (hw _ (List.mem_of_getElem? (i := 11) rfl))) (by decide) (backOf (W := 0) (rm3 l Z a0 hw [] c3  h0 n0 ) hZ (hw _ (List.mem_of_getElem? (i := 11) rfl)) (hw _ (List.mem_of_getElem? (i := 3) rfl)) (by decide) (by decide)) (g := (mkF m 136 #[.val (.int p0), .val (.int p1), .val (.int p2), .val (.int p3), .val (.int p4), .val (.int p5), .val (.ref b), .val (.int st), .val (.int ln), .unset] [(.int c3)])) rfl (by rw [hml]; rfl) (argsL := [(.int c3)]) (rest := []) (lenOf pd_2 rfl) rfl (by show 2 * 0 + _ ≤ _; exact Nat.le_of_eq rfl) (hb hby at_136) (fun _ _ => ⟨rfl, e14q, (by decide : 1 + 0 ≤ _), (by decide : 4 + 0 ≤ _)⟩)
              dsimp only [Pt.U, Pt.locs, Pt.cells, Pt.slots] at X15 l15 y15 z15 st15 hQ15
              subst l15 y15 z15
              obtain ⟨rfl, N15q, e15q⟩ := hQ15
              have N15 := Fr.app N14 N15q
              refine Onw.go st15 ?_
              show Onw p e below _ (T15.setTop (mkF m 139 #[.val (.int p0), .val (.int p1), .val (.int p2), .val (.int p3), .val (.int p4), .val (.int p5), .val (.ref b), .val (.int st), .val (.int ln), .unset] [(.int (own_sp c3))]))
              by_cases hs3 : (own_sp c3) = (0 : Int32)
              · refine Onw.go (fun own_u kt => XS.ifYes X15.here hx rfl (pc0 := 139) (pc' := 146) rfl (hb hby at_139) rfl ((if0 _ _).trans (teq (hs3 : (own_sp c3) = (0 : Int32))).1) (by decide) (by decide) kt) ?_
                show Onw p e below _ (T15.setTop (mkF m 146 #[.val (.int p0), .val (.int p1), .val (.int p2), .val (.int p3), .val (.int p4), .val (.int p5), .val (.ref b), .val (.int st), .val (.int ln), .unset] []))
                refine Onw.go (fun own_u kt => XS.iconst X15.here hx rfl (hb hby at_146) kt) ?_
                show Onw p e below _ (T15.setTop (mkF m 147 #[.val (.int p0), .val (.int p1), .val (.int p2), .val (.int p3), .val (.int p4), .val (.int p5), .val (.ref b), .val (.int st), .val (.int ln), .unset] [(.int (0 : Int32))]))
                have hx1 : own_exp c0 c1 c2 c3 st ln = (0 : Int32) := own_exp0_3 hc3 hs3
                rw [hx1] at hK
                exact hK _ _ X15 e15q N15
              · refine Onw.go (fun own_u kt => XS.ifNo X15.here hx rfl (hb hby at_139) rfl ((if0 _ _).trans (feq (hs3 : ¬ ((own_sp c3) = (0 : Int32)))).1) kt) ?_
                show Onw p e below _ (T15.setTop (mkF m 142 #[.val (.int p0), .val (.int p1), .val (.int p2), .val (.int p3), .val (.int p4), .val (.int p5), .val (.ref b), .val (.int st), .val (.int ln), .unset] []))
                have ok3 : own_ok (3 : Int32) c3 st ln := Or.inr hs3
                refine Onw.go (fun own_u kt => XS.iconst X15.here hx rfl (hb hby at_142) kt) ?_
                show Onw p e below _ (T15.setTop (mkF m 143 #[.val (.int p0), .val (.int p1), .val (.int p2), .val (.int p3), .val (.int p4), .val (.int p5), .val (.ref b), .val (.int st), .val (.int ln), .unset] [(.int (1 : Int32))]))
                refine Onw.go (fun own_u kt => XS.goto X15.here hx rfl (pc0 := 143) (pc' := 147) rfl (hb hby at_143) (by decide) (by decide) kt) ?_
                show Onw p e below _ (T15.setTop (mkF m 147 #[.val (.int p0), .val (.int p1), .val (.int p2), .val (.int p3), .val (.int p4), .val (.int p5), .val (.ref b), .val (.int st), .val (.int ln), .unset] [(.int (1 : Int32))]))
                have hx1 : own_exp c0 c1 c2 c3 st ln = (1 : Int32) := own_exp1 ok0 ok1 ok2 ok3
                rw [hx1] at hK
                exact hK _ _ X15 e15q N15
  · refine Onw.go (fun own_u kt => XS.ifNo X1.here hx rfl (hb hby at_66) rfl ((if0 _ _).trans (feq (hc0 : ¬ ((own_cov (0 : Int32) st ln) = (0 : Int32)))).1) kt) ?_
    show Onw p e below _ (T1.setTop (mkF m 69 #[.val (.int p0), .val (.int p1), .val (.int p2), .val (.int p3), .val (.int p4), .val (.int p5), .val (.ref b), .val (.int st), .val (.int ln), .unset] []))
    refine Onw.go (fun own_u kt => XS.aload X1.here hx rfl (hb hby at_69) rfl rfl kt) ?_
    show Onw p e below _ (T1.setTop (mkF m 71 #[.val (.int p0), .val (.int p1), .val (.int p2), .val (.int p3), .val (.int p4), .val (.int p5), .val (.ref b), .val (.int st), .val (.int ln), .unset] [(.ref b)]))
    refine Onw.go (fun own_u kt => XS.iconst X1.here hx rfl (hb hby at_71) kt) ?_
    show Onw p e below _ (T1.setTop (mkF m 72 #[.val (.int p0), .val (.int p1), .val (.int p2), .val (.int p3), .val (.int p4), .val (.int p5), .val (.ref b), .val (.int st), .val (.int ln), .unset] [(.int (0 : Int32)), (.ref b)]))
    refine Onw.go (X1.caload hx (j := (0 : Int32)) (v := (.int c0)) (by rw [e1q]; exact Ar.1) (State.isArrayOf_alike hZ.alike Ar.2.1) Ar.2.2 (inb_of Sa ⟨by decide, by decide⟩) (Ha 0 (by rw [Sa]; decide)) (g := (mkF m 72 #[.val (.int p0), .val (.int p1), .val (.int p2), .val (.int p3), .val (.int p4), .val (.int p5), .val (.ref b), .val (.int st), .val (.int ln), .unset] [(.int (0 : Int32)), (.ref b)])) rfl rfl (hb hby at_72)) ?_
    show Onw p e below _ (T1.setTop (mkF m 73 #[.val (.int p0), .val (.int p1), .val (.int p2), .val (.int p3), .val (.int p4), .val (.int p5), .val (.ref b), .val (.int st), .val (.int ln), .unset] [(.int c0)]))
    obtain ⟨_, _, ⟨T16, L16, k16, n16⟩, -, X16, ⟨Lc16, hQ16, l16, y16, z16⟩, st16⟩ := Jvm.LawKit.callS X1 hx (y := (⟨"com/example/faultline/faultline/xml/ElementReaderIsWhiteSpacePinLaw", "isSpace", "(C)Z"⟩ : MethodName)) hown (mvT hZ (hw _ (List.mem_of_getElem? (i := 9) rfl))) (mvT hZ (hw _ (List.mem_of_getElem? (i := 10) rfl))) (mvT hZ (hw _ (List.mem_of_getElem? (i := 3) rfl))) (mvT hZ (hw _ (List.mem_of_getElem? (i := 11) rfl))) (by decide) (backOf (W := 0) (rm3 l Z a0 hw [] c0  h0 n0 ) hZ (hw _ (List.mem_of_getElem? (i := 11) rfl)) (hw _ (List.mem_of_getElem? (i := 3) rfl)) (by decide) (by decide)) (g := (mkF m 73 #[.val (.int p0), .val (.int p1), .val (.int p2), .val (.int p3), .val (.int p4), .val (.int p5), .val (.ref b), .val (.int st), .val (.int ln), .unset] [(.int c0)])) rfl (by rw [hml]; rfl) (argsL := [(.int c0)]) (rest := []) (lenOf pd_2 rfl) rfl (by show 2 * 0 + _ ≤ _; exact Nat.le_of_eq rfl) (hb hby at_73) (fun _ _ => ⟨rfl, e1q, (by decide : 1 + 0 ≤ _), (by decide : 4 + 0 ≤ _)⟩)
    dsimp only [Pt.U, Pt.locs, Pt.cells, Pt.slots] at X16 l16 y16 z16 st16 hQ16
    subst l16 y16 z16
    obtain ⟨rfl, N16q, e16q⟩ := hQ16
    have N16 := Fr.app N1 N16q
    refine Onw.go st16 ?_
    show Onw p e below _ (T16.setTop (mkF m 76 #[.val (.int p0), .val (.int p1), .val (.int p2), .val (.int p3), .val (.int p4), .val (.int p5), .val (.ref b), .val (.int st), .val (.int ln), .unset] [(.int (own_sp c0))]))
    by_cases hs0 : (own_sp c0) = (0 : Int32)
    · refine Onw.go (fun own_u kt => XS.ifYes X16.here hx rfl (pc0 := 76) (pc' := 146) rfl (hb hby at_76) rfl ((if0 _ _).trans (teq (hs0 : (own_sp c0) = (0 : Int32))).1) (by decide) (by decide) kt) ?_
      show Onw p e below _ (T16.setTop (mkF m 146 #[.val (.int p0), .val (.int p1), .val (.int p2), .val (.int p3), .val (.int p4), .val (.int p5), .val (.ref b), .val (.int st), .val (.int ln), .unset] []))
      refine Onw.go (fun own_u kt => XS.iconst X16.here hx rfl (hb hby at_146) kt) ?_
      show Onw p e below _ (T16.setTop (mkF m 147 #[.val (.int p0), .val (.int p1), .val (.int p2), .val (.int p3), .val (.int p4), .val (.int p5), .val (.ref b), .val (.int st), .val (.int ln), .unset] [(.int (0 : Int32))]))
      have hx1 : own_exp c0 c1 c2 c3 st ln = (0 : Int32) := own_exp0_0 hc0 hs0
      rw [hx1] at hK
      exact hK _ _ X16 e16q N16
    · refine Onw.go (fun own_u kt => XS.ifNo X16.here hx rfl (hb hby at_76) rfl ((if0 _ _).trans (feq (hs0 : ¬ ((own_sp c0) = (0 : Int32)))).1) kt) ?_
      show Onw p e below _ (T16.setTop (mkF m 79 #[.val (.int p0), .val (.int p1), .val (.int p2), .val (.int p3), .val (.int p4), .val (.int p5), .val (.ref b), .val (.int st), .val (.int ln), .unset] []))
      have ok0 : own_ok (0 : Int32) c0 st ln := Or.inr hs0
      refine Onw.go (fun own_u kt => XS.iconst X16.here hx rfl (hb hby at_79) kt) ?_
      show Onw p e below _ (T16.setTop (mkF m 80 #[.val (.int p0), .val (.int p1), .val (.int p2), .val (.int p3), .val (.int p4), .val (.int p5), .val (.ref b), .val (.int st), .val (.int ln), .unset] [(.int (1 : Int32))]))
      refine Onw.go (fun own_u kt => XS.iload X16.here hx rfl (hb hby at_80) rfl kt) ?_
      show Onw p e below _ (T16.setTop (mkF m 82 #[.val (.int p0), .val (.int p1), .val (.int p2), .val (.int p3), .val (.int p4), .val (.int p5), .val (.ref b), .val (.int st), .val (.int ln), .unset] [(.int st), (.int (1 : Int32))]))
      refine Onw.go (fun own_u kt => XS.iload X16.here hx rfl (hb hby at_82) rfl kt) ?_
      show Onw p e below _ (T16.setTop (mkF m 84 #[.val (.int p0), .val (.int p1), .val (.int p2), .val (.int p3), .val (.int p4), .val (.int p5), .val (.ref b), .val (.int st), .val (.int ln), .unset] [(.int ln), (.int st), (.int (1 : Int32))]))
      obtain ⟨_, _, ⟨T17, L17, k17, n17⟩, -, X17, ⟨Lc17, hQ17, l17, y17, z17⟩, st17⟩ := Jvm.LawKit.callS X16 hx (y := (⟨"com/example/faultline/faultline/xml/ElementReaderIsWhiteSpacePinLaw", "covers", "(III)Z"⟩ : MethodName)) hown (mvT hZ (hw _ (List.mem_of_getElem? (i := 6) rfl))) (mvT hZ (hw _ (List.mem_of_getElem? (i := 7) rfl))) (mvT hZ (hw _ (List.mem_of_getElem? (i := 3) rfl))) (mvT hZ (hw _ (List.mem_of_getElem? (i := 8) rfl))) (by decide) (backOf (W := 0) (rm2 l Z a0 hw [] (1 : Int32) st ln  h0 n0 ) hZ (hw _ (List.mem_of_getElem? (i := 8) rfl)) (hw _ (List.mem_of_getElem? (i := 3) rfl)) (by decide) (by decide)) (g := (mkF m 84 #[.val (.int p0), .val (.int p1), .val (.int p2), .val (.int p3), .val (.int p4), .val (.int p5), .val (.ref b), .val (.int st), .val (.int ln), .unset] [(.int ln), (.int st), (.int (1 : Int32))])) rfl (by rw [hml]; rfl) (argsL := [(.int (1 : Int32)), (.int st), (.int ln)]) (rest := []) (lenOf pd_1 rfl) rfl (by show 2 * 0 + _ ≤ _; exact Nat.le_of_eq rfl) (hb hby at_84) (fun _ _ => ⟨rfl, e16q, (by decide : 1 + 0 ≤ _), (by decide : 4 + 0 ≤ _)⟩)
      dsimp only [Pt.U, Pt.locs, Pt.cells, Pt.slots] at X17 l17 y17 z17 st17 hQ17
      subst l17 y17 z17
      obtain ⟨rfl, N17q, e17q⟩ := hQ17
      have N17 := Fr.app N16 N17q
      refine Onw.go st17 ?_
      show Onw p e below _ (T17.setTop (mkF m 87 #[.val (.int p0), .val (.int p1), .val (.int p2), .val (.int p3), .val (.int p4), .val (.int p5), .val (.ref b), .val (.int st), .val (.int ln), .unset] [(.int (own_cov (1 : Int32) st ln))]))
      by_cases hc1 : (own_cov (1 : Int32) st ln) = (0 : Int32)
      · refine Onw.go (fun own_u kt => XS.ifYes X17.here hx rfl (pc0 := 87) (pc' := 100) rfl (hb hby at_87) rfl ((if0 _ _).trans (teq (hc1 : (own_cov (1 : Int32) st ln) = (0 : Int32))).1) (by decide) (by decide) kt) ?_
        show Onw p e below _ (T17.setTop (mkF m 100 #[.val (.int p0), .val (.int p1), .val (.int p2), .val (.int p3), .val (.int p4), .val (.int p5), .val (.ref b), .val (.int st), .val (.int ln), .unset] []))
        have ok1 : own_ok (1 : Int32) c1 st ln := Or.inl hc1
        refine Onw.go (fun own_u kt => XS.iconst X17.here hx rfl (hb hby at_100) kt) ?_
        show Onw p e below _ (T17.setTop (mkF m 101 #[.val (.int p0), .val (.int p1), .val (.int p2), .val (.int p3), .val (.int p4), .val (.int p5), .val (.ref b), .val (.int st), .val (.int ln), .unset] [(.int (2 : Int32))]))
        refine Onw.go (fun own_u kt => XS.iload X17.here hx rfl (hb hby at_101) rfl kt) ?_
        show Onw p e below _ (T17.setTop (mkF m 103 #[.val (.int p0), .val (.int p1), .val (.int p2), .val (.int p3), .val (.int p4), .val (.int p5), .val (.ref b), .val (.int st), .val (.int ln), .unset] [(.int st), (.int (2 : Int32))]))
        refine Onw.go (fun own_u kt => XS.iload X17.here hx rfl (hb hby at_103) rfl kt) ?_
        show Onw p e below _ (T17.setTop (mkF m 105 #[.val (.int p0), .val (.int p1), .val (.int p2), .val (.int p3), .val (.int p4), .val (.int p5), .val (.ref b), .val (.int st), .val (.int ln), .unset] [(.int ln), (.int st), (.int (2 : Int32))]))
        obtain ⟨_, _, ⟨T18, L18, k18, n18⟩, -, X18, ⟨Lc18, hQ18, l18, y18, z18⟩, st18⟩ := Jvm.LawKit.callS X17 hx (y := (⟨"com/example/faultline/faultline/xml/ElementReaderIsWhiteSpacePinLaw", "covers", "(III)Z"⟩ : MethodName)) hown (mvT hZ (hw _ (List.mem_of_getElem? (i := 6) rfl))) (mvT hZ (hw _ (List.mem_of_getElem? (i := 7) rfl))) (mvT hZ (hw _ (List.mem_of_getElem? (i := 3) rfl))) (mvT hZ (hw _ (List.mem_of_getElem? (i := 8) rfl))) (by decide) (backOf (W := 0) (rm2 l Z a0 hw [] (2 : Int32) st ln  h0 n0 ) hZ (hw _ (List.mem_of_getElem? (i := 8) rfl)) (hw _ (List.mem_of_getElem? (i := 3) rfl)) (by decide) (by decide)) (g := (mkF m 105 #[.val (.int p0), .val (.int p1), .val (.int p2), .val (.int p3), .val (.int p4), .val (.int p5), .val (.ref b), .val (.int st), .val (.int ln), .unset] [(.int ln), (.int st), (.int (2 : Int32))])) rfl (by rw [hml]; rfl) (argsL := [(.int (2 : Int32)), (.int st), (.int ln)]) (rest := []) (lenOf pd_1 rfl) rfl (by show 2 * 0 + _ ≤ _; exact Nat.le_of_eq rfl) (hb hby at_105) (fun _ _ => ⟨rfl, e17q, (by decide : 1 + 0 ≤ _), (by decide : 4 + 0 ≤ _)⟩)
        dsimp only [Pt.U, Pt.locs, Pt.cells, Pt.slots] at X18 l18 y18 z18 st18 hQ18
        subst l18 y18 z18
        obtain ⟨rfl, N18q, e18q⟩ := hQ18
        have N18 := Fr.app N17 N18q
        refine Onw.go st18 ?_
        show Onw p e below _ (T18.setTop (mkF m 108 #[.val (.int p0), .val (.int p1), .val (.int p2), .val (.int p3), .val (.int p4), .val (.int p5), .val (.ref b), .val (.int st), .val (.int ln), .unset] [(.int (own_cov (2 : Int32) st ln))]))
        by_cases hc2 : (own_cov (2 : Int32) st ln) = (0 : Int32)
        · refine Onw.go (fun own_u kt => XS.ifYes X18.here hx rfl (pc0 := 108) (pc' := 121) rfl (hb hby at_108) rfl ((if0 _ _).trans (teq (hc2 : (own_cov (2 : Int32) st ln) = (0 : Int32))).1) (by decide) (by decide) kt) ?_
          show Onw p e below _ (T18.setTop (mkF m 121 #[.val (.int p0), .val (.int p1), .val (.int p2), .val (.int p3), .val (.int p4), .val (.int p5), .val (.ref b), .val (.int st), .val (.int ln), .unset] []))
          have ok2 : own_ok (2 : Int32) c2 st ln := Or.inl hc2
          refine Onw.go (fun own_u kt => XS.iconst X18.here hx rfl (hb hby at_121) kt) ?_
          show Onw p e below _ (T18.setTop (mkF m 122 #[.val (.int p0), .val (.int p1), .val (.int p2), .val (.int p3), .val (.int p4), .val (.int p5), .val (.ref b), .val (.int st), .val (.int ln), .unset] [(.int (3 : Int32))]))
          refine Onw.go (fun own_u kt => XS.iload X18.here hx rfl (hb hby at_122) rfl kt) ?_
          show Onw p e below _ (T18.setTop (mkF m 124 #[.val (.int p0), .val (.int p1), .val (.int p2), .val (.int p3), .val (.int p4), .val (.int p5), .val (.ref b), .val (.int st), .val (.int ln), .unset] [(.int st), (.int (3 : Int32))]))
          refine Onw.go (fun own_u kt => XS.iload X18.here hx rfl (hb hby at_124) rfl kt) ?_
          show Onw p e below _ (T18.setTop (mkF m 126 #[.val (.int p0), .val (.int p1), .val (.int p2), .val (.int p3), .val (.int p4), .val (.int p5), .val (.ref b), .val (.int st), .val (.int ln), .unset] [(.int ln), (.int st), (.int (3 : Int32))]))
          obtain ⟨_, _, ⟨T19, L19, k19, n19⟩, -, X19, ⟨Lc19, hQ19, l19, y19, z19⟩, st19⟩ := Jvm.LawKit.callS X18 hx (y := (⟨"com/example/faultline/faultline/xml/ElementReaderIsWhiteSpacePinLaw", "covers", "(III)Z"⟩ : MethodName)) hown (mvT hZ (hw _ (List.mem_of_getElem? (i := 6) rfl))) (mvT hZ (hw _ (List.mem_of_getElem? (i := 7) rfl))) (mvT hZ (hw _ (List.mem_of_getElem? (i := 3) rfl))) (mvT hZ (hw _ (List.mem_of_getElem? (i := 8) rfl))) (by decide) (backOf (W := 0) (rm2 l Z a0 hw [] (3 : Int32) st ln  h0 n0 ) hZ (hw _ (List.mem_of_getElem? (i := 8) rfl)) (hw _ (List.mem_of_getElem? (i := 3) rfl)) (by decide) (by decide)) (g := (mkF m 126 #[.val (.int p0), .val (.int p1), .val (.int p2), .val (.int p3), .val (.int p4), .val (.int p5), .val (.ref b), .val (.int st), .val (.int ln), .unset] [(.int ln), (.int st), (.int (3 : Int32))])) rfl (by rw [hml]; rfl) (argsL := [(.int (3 : Int32)), (.int st), (.int ln)]) (rest := []) (lenOf pd_1 rfl) rfl (by show 2 * 0 + _ ≤ _; exact Nat.le_of_eq rfl) (hb hby at_126) (fun _ _ => ⟨rfl, e18q, (by decide : 1 + 0 ≤ _), (by decide : 4 + 0 ≤ _)⟩)
          dsimp only [Pt.U, Pt.locs, Pt.cells, Pt.slots] at X19 l19 y19 z19 st19 hQ19
          subst l19 y19 z19
          obtain ⟨rfl, N19q, e19q⟩ := hQ19
          have N19 := Fr.app N18 N19q
          refine Onw.go st19 ?_
          show Onw p e below _ (T19.setTop (mkF m 129 #[.val (.int p0), .val (.int p1), .val (.int p2), .val (.int p3), .val (.int p4), .val (.int p5), .val (.ref b), .val (.int st), .val (.int ln), .unset] [(.int (own_cov (3 : Int32) st ln))]))
          by_cases hc3 : (own_cov (3 : Int32) st ln) = (0 : Int32)
          · refine Onw.go (fun own_u kt => XS.ifYes X19.here hx rfl (pc0 := 129) (pc' := 142) rfl (hb hby at_129) rfl ((if0 _ _).trans (teq (hc3 : (own_cov (3 : Int32) st ln) = (0 : Int32))).1) (by decide) (by decide) kt) ?_
            show Onw p e below _ (T19.setTop (mkF m 142 #[.val (.int p0), .val (.int p1), .val (.int p2), .val (.int p3), .val (.int p4), .val (.int p5), .val (.ref b), .val (.int st), .val (.int ln), .unset] []))
            have ok3 : own_ok (3 : Int32) c3 st ln := Or.inl hc3
            refine Onw.go (fun own_u kt => XS.iconst X19.here hx rfl (hb hby at_142) kt) ?_
            show Onw p e below _ (T19.setTop (mkF m 143 #[.val (.int p0), .val (.int p1), .val (.int p2), .val (.int p3), .val (.int p4), .val (.int p5), .val (.ref b), .val (.int st), .val (.int ln), .unset] [(.int (1 : Int32))]))
            refine Onw.go (fun own_u kt => XS.goto X19.here hx rfl (pc0 := 143) (pc' := 147) rfl (hb hby at_143) (by decide) (by decide) kt) ?_
            show Onw p e below _ (T19.setTop (mkF m 147 #[.val (.int p0), .val (.int p1), .val (.int p2), .val (.int p3), .val (.int p4), .val (.int p5), .val (.ref b), .val (.int st), .val (.int ln), .unset] [(.int (1 : Int32))]))
            have hx1 : own_exp c0 c1 c2 c3 st ln = (1 : Int32) := own_exp1 ok0 ok1 ok2 ok3
            rw [hx1] at hK
            exact hK _ _ X19 e19q N19
          · refine Onw.go (fun own_u kt => XS.ifNo X19.here hx rfl (hb hby at_129) rfl ((if0 _ _).trans (feq (hc3 : ¬ ((own_cov (3 : Int32) st ln) = (0 : Int32)))).1) kt) ?_
            show Onw p e below _ (T19.setTop (mkF m 132 #[.val (.int p0), .val (.int p1), .val (.int p2), .val (.int p3), .val (.int p4), .val (.int p5), .val (.ref b), .val (.int st), .val (.int ln), .unset] []))
            refine Onw.go (fun own_u kt => XS.aload X19.here hx rfl (hb hby at_132) rfl rfl kt) ?_
            show Onw p e below _ (T19.setTop (mkF m 134 #[.val (.int p0), .val (.int p1), .val (.int p2), .val (.int p3), .val (.int p4), .val (.int p5), .val (.ref b), .val (.int st), .val (.int ln), .unset] [(.ref b)]))
            refine Onw.go (fun own_u kt => XS.iconst X19.here hx rfl (hb hby at_134) kt) ?_
            show Onw p e below _ (T19.setTop (mkF m 135 #[.val (.int p0), .val (.int p1), .val (.int p2), .val (.int p3), .val (.int p4), .val (.int p5), .val (.ref b), .val (.int st), .val (.int ln), .unset] [(.int (3 : Int32)), (.ref b)]))
            refine Onw.go (X19.caload hx (j := (3 : Int32)) (v := (.int c3)) (by rw [e19q]; exact Ar.1) (State.isArrayOf_alike hZ.alike Ar.2.1) Ar.2.2 (inb_of Sa ⟨by decide, by decide⟩) (Ha 3 (by rw [Sa]; decide)) (g := (mkF m 135 #[.val (.int p0), .val (.int p1), .val (.int p2), .val (.int p3), .val (.int p4), .val (.int p5), .val (.ref b), .val (.int st), .val (.int ln), .unset] [(.int (3 : Int32)), (.ref b)])) rfl rfl (hb hby at_135)) ?_
            show Onw p e below _ (T19.setTop (mkF m 136 #[.val (.int p0), .val (.int p1), .val (.int p2), .val (.int p3), .val (.int p4), .val (.int p5), .val (.ref b), .val (.int st), .val (.int ln), .unset] [(.int c3)]))
            obtain ⟨_, _, ⟨T20, L20, k20, n20⟩, -, X20, ⟨Lc20, hQ20, l20, y20, z20⟩, st20⟩ := Jvm.LawKit.callS X19 hx (y := (⟨"com/example/faultline/faultline/xml/ElementReaderIsWhiteSpacePinLaw", "isSpace", "(C)Z"⟩ : MethodName)) hown (mvT hZ (hw _ (List.mem_of_getElem? (i := 9) rfl))) (mvT hZ (hw _ (List.mem_of_getElem? (i := 10) rfl))) (mvT hZ (hw _ (List.mem_of_getElem? (i := 3) rfl))) (mvT hZ (hw _ (List.mem_of_getElem? (i := 11) rfl))) (by decide) (backOf (W := 0) (rm3 l Z a0 hw [] c3  h0 n0 ) hZ (hw _ (List.mem_of_getElem? (i := 11) rfl)) (hw _ (List.mem_of_getElem? (i := 3) rfl)) (by decide) (by decide)) (g := (mkF m 136 #[.val (.int p0), .val (.int p1), .val (.int p2), .val (.int p3), .val (.int p4), .val (.int p5), .val (.ref b), .val (.int st), .val (.int ln), .unset] [(.int c3)])) rfl (by rw [hml]; rfl) (argsL := [(.int c3)]) (rest := []) (lenOf pd_2 rfl) rfl (by show 2 * 0 + _ ≤ _; exact Nat.le_of_eq rfl) (hb hby at_136) (fun _ _ => ⟨rfl, e19q, (by decide : 1 + 0 ≤ _), (by decide : 4 + 0 ≤ _)⟩)
            dsimp only [Pt.U, Pt.locs, Pt.cells, Pt.slots] at X20 l20 y20 z20 st20 hQ20
            subst l20 y20 z20
            obtain ⟨rfl, N20q, e20q⟩ := hQ20
            have N20 := Fr.app N19 N20q
            refine Onw.go st20 ?_
            show Onw p e below _ (T20.setTop (mkF m 139 #[.val (.int p0), .val (.int p1), .val (.int p2), .val (.int p3), .val (.int p4), .val (.int p5), .val (.ref b), .val (.int st), .val (.int ln), .unset] [(.int (own_sp c3))]))
            by_cases hs3 : (own_sp c3) = (0 : Int32)
            · refine Onw.go (fun own_u kt => XS.ifYes X20.here hx rfl (pc0 := 139) (pc' := 146) rfl (hb hby at_139) rfl ((if0 _ _).trans (teq (hs3 : (own_sp c3) = (0 : Int32))).1) (by decide) (by decide) kt) ?_
              show Onw p e below _ (T20.setTop (mkF m 146 #[.val (.int p0), .val (.int p1), .val (.int p2), .val (.int p3), .val (.int p4), .val (.int p5), .val (.ref b), .val (.int st), .val (.int ln), .unset] []))
              refine Onw.go (fun own_u kt => XS.iconst X20.here hx rfl (hb hby at_146) kt) ?_
              show Onw p e below _ (T20.setTop (mkF m 147 #[.val (.int p0), .val (.int p1), .val (.int p2), .val (.int p3), .val (.int p4), .val (.int p5), .val (.ref b), .val (.int st), .val (.int ln), .unset] [(.int (0 : Int32))]))
              have hx1 : own_exp c0 c1 c2 c3 st ln = (0 : Int32) := own_exp0_3 hc3 hs3
              rw [hx1] at hK
              exact hK _ _ X20 e20q N20
            · refine Onw.go (fun own_u kt => XS.ifNo X20.here hx rfl (hb hby at_139) rfl ((if0 _ _).trans (feq (hs3 : ¬ ((own_sp c3) = (0 : Int32)))).1) kt) ?_
              show Onw p e below _ (T20.setTop (mkF m 142 #[.val (.int p0), .val (.int p1), .val (.int p2), .val (.int p3), .val (.int p4), .val (.int p5), .val (.ref b), .val (.int st), .val (.int ln), .unset] []))
              have ok3 : own_ok (3 : Int32) c3 st ln := Or.inr hs3
              refine Onw.go (fun own_u kt => XS.iconst X20.here hx rfl (hb hby at_142) kt) ?_
              show Onw p e below _ (T20.setTop (mkF m 143 #[.val (.int p0), .val (.int p1), .val (.int p2), .val (.int p3), .val (.int p4), .val (.int p5), .val (.ref b), .val (.int st), .val (.int ln), .unset] [(.int (1 : Int32))]))
              refine Onw.go (fun own_u kt => XS.goto X20.here hx rfl (pc0 := 143) (pc' := 147) rfl (hb hby at_143) (by decide) (by decide) kt) ?_
              show Onw p e below _ (T20.setTop (mkF m 147 #[.val (.int p0), .val (.int p1), .val (.int p2), .val (.int p3), .val (.int p4), .val (.int p5), .val (.ref b), .val (.int st), .val (.int ln), .unset] [(.int (1 : Int32))]))
              have hx1 : own_exp c0 c1 c2 c3 st ln = (1 : Int32) := own_exp1 ok0 ok1 ok2 ok3
              rw [hx1] at hK
              exact hK _ _ X20 e20q N20
        · refine Onw.go (fun own_u kt => XS.ifNo X18.here hx rfl (hb hby at_108) rfl ((if0 _ _).trans (feq (hc2 : ¬ ((own_cov (2 : Int32) st ln) = (0 : Int32)))).1) kt) ?_
          show Onw p e below _ (T18.setTop (mkF m 111 #[.val (.int p0), .val (.int p1), .val (.int p2), .val (.int p3), .val (.int p4), .val (.int p5), .val (.ref b), .val (.int st), .val (.int ln), .unset] []))
          refine Onw.go (fun own_u kt => XS.aload X18.here hx rfl (hb hby at_111) rfl rfl kt) ?_
          show Onw p e below _ (T18.setTop (mkF m 113 #[.val (.int p0), .val (.int p1), .val (.int p2), .val (.int p3), .val (.int p4), .val (.int p5), .val (.ref b), .val (.int st), .val (.int ln), .unset] [(.ref b)]))
          refine Onw.go (fun own_u kt => XS.iconst X18.here hx rfl (hb hby at_113) kt) ?_
          show Onw p e below _ (T18.setTop (mkF m 114 #[.val (.int p0), .val (.int p1), .val (.int p2), .val (.int p3), .val (.int p4), .val (.int p5), .val (.ref b), .val (.int st), .val (.int ln), .unset] [(.int (2 : Int32)), (.ref b)]))
          refine Onw.go (X18.caload hx (j := (2 : Int32)) (v := (.int c2)) (by rw [e18q]; exact Ar.1) (State.isArrayOf_alike hZ.alike Ar.2.1) Ar.2.2 (inb_of Sa ⟨by decide, by decide⟩) (Ha 2 (by rw [Sa]; decide)) (g := (mkF m 114 #[.val (.int p0), .val (.int p1), .val (.int p2), .val (.int p3), .val (.int p4), .val (.int p5), .val (.ref b), .val (.int st), .val (.int ln), .unset] [(.int (2 : Int32)), (.ref b)])) rfl rfl (hb hby at_114)) ?_
          show Onw p e below _ (T18.setTop (mkF m 115 #[.val (.int p0), .val (.int p1), .val (.int p2), .val (.int p3), .val (.int p4), .val (.int p5), .val (.ref b), .val (.int st), .val (.int ln), .unset] [(.int c2)]))
          obtain ⟨_, _, ⟨T21, L21, k21, n21⟩, -, X21, ⟨Lc21, hQ21, l21, y21, z21⟩, st21⟩ := Jvm.LawKit.callS X18 hx (y := (⟨"com/example/faultline/faultline/xml/ElementReaderIsWhiteSpacePinLaw", "isSpace", "(C)Z"⟩ : MethodName)) hown (mvT hZ (hw _ (List.mem_of_getElem? (i := 9) rfl))) (mvT hZ (hw _ (List.mem_of_getElem? (i := 10) rfl))) (mvT hZ (hw _ (List.mem_of_getElem? (i := 3) rfl))) (mvT hZ (hw _ (List.mem_of_getElem? (i := 11) rfl))) (by decide) (backOf (W := 0) (rm3 l Z a0 hw [] c2  h0 n0 ) hZ (hw _ (List.mem_of_getElem? (i := 11) rfl)) (hw _ (List.mem_of_getElem? (i := 3) rfl)) (by decide) (by decide)) (g := (mkF m 115 #[.val (.int p0), .val (.int p1), .val (.int p2), .val (.int p3), .val (.int p4), .val (.int p5), .val (.ref b), .val (.int st), .val (.int ln), .unset] [(.int c2)])) rfl (by rw [hml]; rfl) (argsL := [(.int c2)]) (rest := []) (lenOf pd_2 rfl) rfl (by show 2 * 0 + _ ≤ _; exact Nat.le_of_eq rfl) (hb hby at_115) (fun _ _ => ⟨rfl, e18q, (by decide : 1 + 0 ≤ _), (by decide : 4 + 0 ≤ _)⟩)
          dsimp only [Pt.U, Pt.locs, Pt.cells, Pt.slots] at X21 l21 y21 z21 st21 hQ21
          subst l21 y21 z21
          obtain ⟨rfl, N21q, e21q⟩ := hQ21
          have N21 := Fr.app N18 N21q
          refine Onw.go st21 ?_
          show Onw p e below _ (T21.setTop (mkF m 118 #[.val (.int p0), .val (.int p1), .val (.int p2), .val (.int p3), .val (.int p4), .val (.int p5), .val (.ref b), .val (.int st), .val (.int ln), .unset] [(.int (own_sp c2))]))
          by_cases hs2 : (own_sp c2) = (0 : Int32)
          · refine Onw.go (fun own_u kt => XS.ifYes X21.here hx rfl (pc0 := 118) (pc' := 146) rfl (hb hby at_118) rfl ((if0 _ _).trans (teq (hs2 : (own_sp c2) = (0 : Int32))).1) (by decide) (by decide) kt) ?_
            show Onw p e below _ (T21.setTop (mkF m 146 #[.val (.int p0), .val (.int p1), .val (.int p2), .val (.int p3), .val (.int p4), .val (.int p5), .val (.ref b), .val (.int st), .val (.int ln), .unset] []))
            refine Onw.go (fun own_u kt => XS.iconst X21.here hx rfl (hb hby at_146) kt) ?_
            show Onw p e below _ (T21.setTop (mkF m 147 #[.val (.int p0), .val (.int p1), .val (.int p2), .val (.int p3), .val (.int p4), .val (.int p5), .val (.ref b), .val (.int st), .val (.int ln), .unset] [(.int (0 : Int32))]))
            have hx1 : own_exp c0 c1 c2 c3 st ln = (0 : Int32) := own_exp0_2 hc2 hs2
            rw [hx1] at hK
            exact hK _ _ X21 e21q N21
          · refine Onw.go (fun own_u kt => XS.ifNo X21.here hx rfl (hb hby at_118) rfl ((if0 _ _).trans (feq (hs2 : ¬ ((own_sp c2) = (0 : Int32)))).1) kt) ?_
            show Onw p e below _ (T21.setTop (mkF m 121 #[.val (.int p0), .val (.int p1), .val (.int p2), .val (.int p3), .val (.int p4), .val (.int p5), .val (.ref b), .val (.int st), .val (.int ln), .unset] []))
            have ok2 : own_ok (2 : Int32) c2 st ln := Or.inr hs2
            refine Onw.go (fun own_u kt => XS.iconst X21.here hx rfl (hb hby at_121) kt) ?_
            show Onw p e below _ (T21.setTop (mkF m 122 #[.val (.int p0), .val (.int p1), .val (.int p2), .val (.int p3), .val (.int p4), .val (.int p5), .val (.ref b), .val (.int st), .val (.int ln), .unset] [(.int (3 : Int32))]))
            refine Onw.go (fun own_u kt => XS.iload X21.here hx rfl (hb hby at_122) rfl kt) ?_
            show Onw p e below _ (T21.setTop (mkF m 124 #[.val (.int p0), .val (.int p1), .val (.int p2), .val (.int p3), .val (.int p4), .val (.int p5), .val (.ref b), .val (.int st), .val (.int ln), .unset] [(.int st), (.int (3 : Int32))]))
            refine Onw.go (fun own_u kt => XS.iload X21.here hx rfl (hb hby at_124) rfl kt) ?_
            show Onw p e below _ (T21.setTop (mkF m 126 #[.val (.int p0), .val (.int p1), .val (.int p2), .val (.int p3), .val (.int p4), .val (.int p5), .val (.ref b), .val (.int st), .val (.int ln), .unset] [(.int ln), (.int st), (.int (3 : Int32))]))
            obtain ⟨_, _, ⟨T22, L22, k22, n22⟩, -, X22, ⟨Lc22, hQ22, l22, y22, z22⟩, st22⟩ := Jvm.LawKit.callS X21 hx (y := (⟨"com/example/faultline/faultline/xml/ElementReaderIsWhiteSpacePinLaw", "covers", "(III)Z"⟩ : MethodName)) hown (mvT hZ (hw _ (List.mem_of_getElem? (i := 6) rfl))) (mvT hZ (hw _ (List.mem_of_getElem? (i := 7) rfl))) (mvT hZ (hw _ (List.mem_of_getElem? (i := 3) rfl))) (mvT hZ (hw _ (List.mem_of_getElem? (i := 8) rfl))) (by decide) (backOf (W := 0) (rm2 l Z a0 hw [] (3 : Int32) st ln  h0 n0 ) hZ (hw _ (List.mem_of_getElem? (i := 8) rfl)) (hw _ (List.mem_of_getElem? (i := 3) rfl)) (by decide) (by decide)) (g := (mkF m 126 #[.val (.int p0), .val (.int p1), .val (.int p2), .val (.int p3), .val (.int p4), .val (.int p5), .val (.ref b), .val (.int st), .val (.int ln), .unset] [(.int ln), (.int st), (.int (3 : Int32))])) rfl (by rw [hml]; rfl) (argsL := [(.int (3 : Int32)), (.int st), (.int ln)]) (rest := []) (lenOf pd_1 rfl) rfl (by show 2 * 0 + _ ≤ _; exact Nat.le_of_eq rfl) (hb hby at_126) (fun _ _ => ⟨rfl, e21q, (by decide : 1 + 0 ≤ _), (by decide : 4 + 0 ≤ _)⟩)
            dsimp only [Pt.U, Pt.locs, Pt.cells, Pt.slots] at X22 l22 y22 z22 st22 hQ22
            subst l22 y22 z22
            obtain ⟨rfl, N22q, e22q⟩ := hQ22
            have N22 := Fr.app N21 N22q
            refine Onw.go st22 ?_
            show Onw p e below _ (T22.setTop (mkF m 129 #[.val (.int p0), .val (.int p1), .val (.int p2), .val (.int p3), .val (.int p4), .val (.int p5), .val (.ref b), .val (.int st), .val (.int ln), .unset] [(.int (own_cov (3 : Int32) st ln))]))
            by_cases hc3 : (own_cov (3 : Int32) st ln) = (0 : Int32)
            · refine Onw.go (fun own_u kt => XS.ifYes X22.here hx rfl (pc0 := 129) (pc' := 142) rfl (hb hby at_129) rfl ((if0 _ _).trans (teq (hc3 : (own_cov (3 : Int32) st ln) = (0 : Int32))).1) (by decide) (by decide) kt) ?_
              show Onw p e below _ (T22.setTop (mkF m 142 #[.val (.int p0), .val (.int p1), .val (.int p2), .val (.int p3), .val (.int p4), .val (.int p5), .val (.ref b), .val (.int st), .val (.int ln), .unset] []))
              have ok3 : own_ok (3 : Int32) c3 st ln := Or.inl hc3
              refine Onw.go (fun own_u kt => XS.iconst X22.here hx rfl (hb hby at_142) kt) ?_
              show Onw p e below _ (T22.setTop (mkF m 143 #[.val (.int p0), .val (.int p1), .val (.int p2), .val (.int p3), .val (.int p4), .val (.int p5), .val (.ref b), .val (.int st), .val (.int ln), .unset] [(.int (1 : Int32))]))
              refine Onw.go (fun own_u kt => XS.goto X22.here hx rfl (pc0 := 143) (pc' := 147) rfl (hb hby at_143) (by decide) (by decide) kt) ?_
              show Onw p e below _ (T22.setTop (mkF m 147 #[.val (.int p0), .val (.int p1), .val (.int p2), .val (.int p3), .val (.int p4), .val (.int p5), .val (.ref b), .val (.int st), .val (.int ln), .unset] [(.int (1 : Int32))]))
              have hx1 : own_exp c0 c1 c2 c3 st ln = (1 : Int32) := own_exp1 ok0 ok1 ok2 ok3
              rw [hx1] at hK
              exact hK _ _ X22 e22q N22
            · refine Onw.go (fun own_u kt => XS.ifNo X22.here hx rfl (hb hby at_129) rfl ((if0 _ _).trans (feq (hc3 : ¬ ((own_cov (3 : Int32) st ln) = (0 : Int32)))).1) kt) ?_
              show Onw p e below _ (T22.setTop (mkF m 132 #[.val (.int p0), .val (.int p1), .val (.int p2), .val (.int p3), .val (.int p4), .val (.int p5), .val (.ref b), .val (.int st), .val (.int ln), .unset] []))
              refine Onw.go (fun own_u kt => XS.aload X22.here hx rfl (hb hby at_132) rfl rfl kt) ?_
              show Onw p e below _ (T22.setTop (mkF m 134 #[.val (.int p0), .val (.int p1), .val (.int p2), .val (.int p3), .val (.int p4), .val (.int p5), .val (.ref b), .val (.int st), .val (.int ln), .unset] [(.ref b)]))
              refine Onw.go (fun own_u kt => XS.iconst X22.here hx rfl (hb hby at_134) kt) ?_
              show Onw p e below _ (T22.setTop (mkF m 135 #[.val (.int p0), .val (.int p1), .val (.int p2), .val (.int p3), .val (.int p4), .val (.int p5), .val (.ref b), .val (.int st), .val (.int ln), .unset] [(.int (3 : Int32)), (.ref b)]))
              refine Onw.go (X22.caload hx (j := (3 : Int32)) (v := (.int c3)) (by rw [e22q]; exact Ar.1) (State.isArrayOf_alike hZ.alike Ar.2.1) Ar.2.2 (inb_of Sa ⟨by decide, by decide⟩) (Ha 3 (by rw [Sa]; decide)) (g := (mkF m 135 #[.val (.int p0), .val (.int p1), .val (.int p2), .val (.int p3), .val (.int p4), .val (.int p5), .val (.ref b), .val (.int st), .val (.int ln), .unset] [(.int (3 : Int32)), (.ref b)])) rfl rfl (hb hby at_135)) ?_
              show Onw p e below _ (T22.setTop (mkF m 136 #[.val (.int p0), .val (.int p1), .val (.int p2), .val (.int p3), .val (.int p4), .val (.int p5), .val (.ref b), .val (.int st), .val (.int ln), .unset] [(.int c3)]))
              obtain ⟨_, _, ⟨T23, L23, k23, n23⟩, -, X23, ⟨Lc23, hQ23, l23, y23, z23⟩, st23⟩ := Jvm.LawKit.callS X22 hx (y := (⟨"com/example/faultline/faultline/xml/ElementReaderIsWhiteSpacePinLaw", "isSpace", "(C)Z"⟩ : MethodName)) hown (mvT hZ (hw _ (List.mem_of_getElem? (i := 9) rfl))) (mvT hZ (hw _ (List.mem_of_getElem? (i := 10) rfl))) (mvT hZ (hw _ (List.mem_of_getElem? (i := 3) rfl))) (mvT hZ (hw _ (List.mem_of_getElem? (i := 11) rfl))) (by decide) (backOf (W := 0) (rm3 l Z a0 hw [] c3  h0 n0 ) hZ (hw _ (List.mem_of_getElem? (i := 11) rfl)) (hw _ (List.mem_of_getElem? (i := 3) rfl)) (by decide) (by decide)) (g := (mkF m 136 #[.val (.int p0), .val (.int p1), .val (.int p2), .val (.int p3), .val (.int p4), .val (.int p5), .val (.ref b), .val (.int st), .val (.int ln), .unset] [(.int c3)])) rfl (by rw [hml]; rfl) (argsL := [(.int c3)]) (rest := []) (lenOf pd_2 rfl) rfl (by show 2 * 0 + _ ≤ _; exact Nat.le_of_eq rfl) (hb hby at_136) (fun _ _ => ⟨rfl, e22q, (by decide : 1 + 0 ≤ _), (by decide : 4 + 0 ≤ _)⟩)
              dsimp only [Pt.U, Pt.locs, Pt.cells, Pt.slots] at X23 l23 y23 z23 st23 hQ23
              subst l23 y23 z23
              obtain ⟨rfl, N23q, e23q⟩ := hQ23
              have N23 := Fr.app N22 N23q
              refine Onw.go st23 ?_
              show Onw p e below _ (T23.setTop (mkF m 139 #[.val (.int p0), .val (.int p1), .val (.int p2), .val (.int p3), .val (.int p4), .val (.int p5), .val (.ref b), .val (.int st), .val (.int ln), .unset] [(.int (own_sp c3))]))
              by_cases hs3 : (own_sp c3) = (0 : Int32)
              · refine Onw.go (fun own_u kt => XS.ifYes X23.here hx rfl (pc0 := 139) (pc' := 146) rfl (hb hby at_139) rfl ((if0 _ _).trans (teq (hs3 : (own_sp c3) = (0 : Int32))).1) (by decide) (by decide) kt) ?_
                show Onw p e below _ (T23.setTop (mkF m 146 #[.val (.int p0), .val (.int p1), .val (.int p2), .val (.int p3), .val (.int p4), .val (.int p5), .val (.ref b), .val (.int st), .val (.int ln), .unset] []))
                refine Onw.go (fun own_u kt => XS.iconst X23.here hx rfl (hb hby at_146) kt) ?_
                show Onw p e below _ (T23.setTop (mkF m 147 #[.val (.int p0), .val (.int p1), .val (.int p2), .val (.int p3), .val (.int p4), .val (.int p5), .val (.ref b), .val (.int st), .val (.int ln), .unset] [(.int (0 : Int32))]))
                have hx1 : own_exp c0 c1 c2 c3 st ln = (0 : Int32) := own_exp0_3 hc3 hs3
                rw [hx1] at hK
                exact hK _ _ X23 e23q N23
              · refine Onw.go (fun own_u kt => XS.ifNo X23.here hx rfl (hb hby at_139) rfl ((if0 _ _).trans (feq (hs3 : ¬ ((own_sp c3) = (0 : Int32)))).1) kt) ?_
                show Onw p e below _ (T23.setTop (mkF m 142 #[.val (.int p0), .val (.int p1), .val (.int p2), .val (.int p3), .val (.int p4), .val (.int p5), .val (.ref b), .val (.int st), .val (.int ln), .unset] []))
                have ok3 : own_ok (3 : Int32) c3 st ln := Or.inr hs3
                refine Onw.go (fun own_u kt => XS.iconst X23.here hx rfl (hb hby at_142) kt) ?_
                show Onw p e below _ (T23.setTop (mkF m 143 #[.val (.int p0), .val (.int p1), .val (.int p2), .val (.int p3), .val (.int p4), .val (.int p5), .val (.ref b), .val (.int st), .val (.int ln), .unset] [(.int (1 : Int32))]))
                refine Onw.go (fun own_u kt => XS.goto X23.here hx rfl (pc0 := 143) (pc' := 147) rfl (hb hby at_143) (by decide) (by decide) kt) ?_
                show Onw p e below _ (T23.setTop (mkF m 147 #[.val (.int p0), .val (.int p1), .val (.int p2), .val (.int p3), .val (.int p4), .val (.int p5), .val (.ref b), .val (.int st), .val (.int ln), .unset] [(.int (1 : Int32))]))
                have hx1 : own_exp c0 c1 c2 c3 st ln = (1 : Int32) := own_exp1 ok0 ok1 ok2 ok3
                rw [hx1] at hK
                exact hK _ _ X23 e23q N23
      · refine Onw.go (fun own_u kt => XS.ifNo X17.here hx rfl (hb hby at_87) rfl ((if0 _ _).trans (feq (hc1 : ¬ ((own_cov (1 : Int32) st ln) = (0 : Int32)))).1) kt) ?_
        show Onw p e below _ (T17.setTop (mkF m 90 #[.val (.int p0), .val (.int p1), .val (.int p2), .val (.int p3), .val (.int p4), .val (.int p5), .val (.ref b), .val (.int st), .val (.int ln), .unset] []))
        refine Onw.go (fun own_u kt => XS.aload X17.here hx rfl (hb hby at_90) rfl rfl kt) ?_
        show Onw p e below _ (T17.setTop (mkF m 92 #[.val (.int p0), .val (.int p1), .val (.int p2), .val (.int p3), .val (.int p4), .val (.int p5), .val (.ref b), .val (.int st), .val (.int ln), .unset] [(.ref b)]))
        refine Onw.go (fun own_u kt => XS.iconst X17.here hx rfl (hb hby at_92) kt) ?_
        show Onw p e below _ (T17.setTop (mkF m 93 #[.val (.int p0), .val (.int p1), .val (.int p2), .val (.int p3), .val (.int p4), .val (.int p5), .val (.ref b), .val (.int st), .val (.int ln), .unset] [(.int (1 : Int32)), (.ref b)]))
        refine Onw.go (X17.caload hx (j := (1 : Int32)) (v := (.int c1)) (by rw [e17q]; exact Ar.1) (State.isArrayOf_alike hZ.alike Ar.2.1) Ar.2.2 (inb_of Sa ⟨by decide, by decide⟩) (Ha 1 (by rw [Sa]; decide)) (g := (mkF m 93 #[.val (.int p0), .val (.int p1), .val (.int p2), .val (.int p3), .val (.int p4), .val (.int p5), .val (.ref b), .val (.int st), .val (.int ln), .unset] [(.int (1 : Int32)), (.ref b)])) rfl rfl (hb hby at_93)) ?_
        show Onw p e below _ (T17.setTop (mkF m 94 #[.val (.int p0), .val (.int p1), .val (.int p2), .val (.int p3), .val (.int p4), .val (.int p5), .val (.ref b), .val (.int st), .val (.int ln), .unset] [(.int c1)]))
        obtain ⟨_, _, ⟨T24, L24, k24, n24⟩, -, X24, ⟨Lc24, hQ24, l24, y24, z24⟩, st24⟩ := Jvm.LawKit.callS X17 hx (y := (⟨"com/example/faultline/faultline/xml/ElementReaderIsWhiteSpacePinLaw", "isSpace", "(C)Z"⟩ : MethodName)) hown (mvT hZ (hw _ (List.mem_of_getElem? (i := 9) rfl))) (mvT hZ (hw _ (List.mem_of_getElem? (i := 10) rfl))) (mvT hZ (hw _ (List.mem_of_getElem? (i := 3) rfl))) (mvT hZ (hw _ (List.mem_of_getElem? (i := 11) rfl))) (by decide) (backOf (W := 0) (rm3 l Z a0 hw [] c1  h0 n0 ) hZ (hw _ (List.mem_of_getElem? (i := 11) rfl)) (hw _ (List.mem_of_getElem? (i := 3) rfl)) (by decide) (by decide)) (g := (mkF m 94 #[.val (.int p0), .val (.int p1), .val (.int p2), .val (.int p3), .val (.int p4), .val (.int p5), .val (.ref b), .val (.int st), .val (.int ln), .unset] [(.int c1)])) rfl (by rw [hml]; rfl) (argsL := [(.int c1)]) (rest := []) (lenOf pd_2 rfl) rfl (by show 2 * 0 + _ ≤ _; exact Nat.le_of_eq rfl) (hb hby at_94) (fun _ _ => ⟨rfl, e17q, (by decide : 1 + 0 ≤ _), (by decide : 4 + 0 ≤ _)⟩)
        dsimp only [Pt.U, Pt.locs, Pt.cells, Pt.slots] at X24 l24 y24 z24 st24 hQ24
        subst l24 y24 z24
        obtain ⟨rfl, N24q, e24q⟩ := hQ24
        have N24 := Fr.app N17 N24q
        refine Onw.go st24 ?_
        show Onw p e below _ (T24.setTop (mkF m 97 #[.val (.int p0), .val (.int p1), .val (.int p2), .val (.int p3), .val (.int p4), .val (.int p5), .val (.ref b), .val (.int st), .val (.int ln), .unset] [(.int (own_sp c1))]))
        by_cases hs1 : (own_sp c1) = (0 : Int32)
        · refine Onw.go (fun own_u kt => XS.ifYes X24.here hx rfl (pc0 := 97) (pc' := 146) rfl (hb hby at_97) rfl ((if0 _ _).trans (teq (hs1 : (own_sp c1) = (0 : Int32))).1) (by decide) (by decide) kt) ?_
          show Onw p e below _ (T24.setTop (mkF m 146 #[.val (.int p0), .val (.int p1), .val (.int p2), .val (.int p3), .val (.int p4), .val (.int p5), .val (.ref b), .val (.int st), .val (.int ln), .unset] []))
          refine Onw.go (fun own_u kt => XS.iconst X24.here hx rfl (hb hby at_146) kt) ?_
          show Onw p e below _ (T24.setTop (mkF m 147 #[.val (.int p0), .val (.int p1), .val (.int p2), .val (.int p3), .val (.int p4), .val (.int p5), .val (.ref b), .val (.int st), .val (.int ln), .unset] [(.int (0 : Int32))]))
          have hx1 : own_exp c0 c1 c2 c3 st ln = (0 : Int32) := own_exp0_1 hc1 hs1
          rw [hx1] at hK
          exact hK _ _ X24 e24q N24
        · refine Onw.go (fun own_u kt => XS.ifNo X24.here hx rfl (hb hby at_97) rfl ((if0 _ _).trans (feq (hs1 : ¬ ((own_sp c1) = (0 : Int32)))).1) kt) ?_
          show Onw p e below _ (T24.setTop (mkF m 100 #[.val (.int p0), .val (.int p1), .val (.int p2), .val (.int p3), .val (.int p4), .val (.int p5), .val (.ref b), .val (.int st), .val (.int ln), .unset] []))
          have ok1 : own_ok (1 : Int32) c1 st ln := Or.inr hs1
          refine Onw.go (fun own_u kt => XS.iconst X24.here hx rfl (hb hby at_100) kt) ?_
          show Onw p e below _ (T24.setTop (mkF m 101 #[.val (.int p0), .val (.int p1), .val (.int p2), .val (.int p3), .val (.int p4), .val (.int p5), .val (.ref b), .val (.int st), .val (.int ln), .unset] [(.int (2 : Int32))]))
          refine Onw.go (fun own_u kt => XS.iload X24.here hx rfl (hb hby at_101) rfl kt) ?_
          show Onw p e below _ (T24.setTop (mkF m 103 #[.val (.int p0), .val (.int p1), .val (.int p2), .val (.int p3), .val (.int p4), .val (.int p5), .val (.ref b), .val (.int st), .val (.int ln), .unset] [(.int st), (.int (2 : Int32))]))
          refine Onw.go (fun own_u kt => XS.iload X24.here hx rfl (hb hby at_103) rfl kt) ?_
          show Onw p e below _ (T24.setTop (mkF m 105 #[.val (.int p0), .val (.int p1), .val (.int p2), .val (.int p3), .val (.int p4), .val (.int p5), .val (.ref b), .val (.int st), .val (.int ln), .unset] [(.int ln), (.int st), (.int (2 : Int32))]))
          obtain ⟨_, _, ⟨T25, L25, k25, n25⟩, -, X25, ⟨Lc25, hQ25, l25, y25, z25⟩, st25⟩ := Jvm.LawKit.callS X24 hx (y := (⟨"com/example/faultline/faultline/xml/ElementReaderIsWhiteSpacePinLaw", "covers", "(III)Z"⟩ : MethodName)) hown (mvT hZ (hw _ (List.mem_of_getElem? (i := 6) rfl))) (mvT hZ (hw _ (List.mem_of_getElem? (i := 7) rfl))) (mvT hZ (hw _ (List.mem_of_getElem? (i := 3) rfl))) (mvT hZ (hw _ (List.mem_of_getElem? (i := 8) rfl))) (by decide) (backOf (W := 0) (rm2 l Z a0 hw [] (2 : Int32) st ln  h0 n0 ) hZ (hw _ (List.mem_of_getElem? (i := 8) rfl)) (hw _ (List.mem_of_getElem? (i := 3) rfl)) (by decide) (by decide)) (g := (mkF m 105 #[.val (.int p0), .val (.int p1), .val (.int p2), .val (.int p3), .val (.int p4), .val (.int p5), .val (.ref b), .val (.int st), .val (.int ln), .unset] [(.int ln), (.int st), (.int (2 : Int32))])) rfl (by rw [hml]; rfl) (argsL := [(.int (2 : Int32)), (.int st), (.int ln)]) (rest := []) (lenOf pd_1 rfl) rfl (by show 2 * 0 + _ ≤ _; exact Nat.le_of_eq rfl) (hb hby at_105) (fun _ _ => ⟨rfl, e24q, (by decide : 1 + 0 ≤ _), (by decide : 4 + 0 ≤ _)⟩)
          dsimp only [Pt.U, Pt.locs, Pt.cells, Pt.slots] at X25 l25 y25 z25 st25 hQ25
          subst l25 y25 z25
          obtain ⟨rfl, N25q, e25q⟩ := hQ25
          have N25 := Fr.app N24 N25q
          refine Onw.go st25 ?_
          show Onw p e below _ (T25.setTop (mkF m 108 #[.val (.int p0), .val (.int p1), .val (.int p2), .val (.int p3), .val (.int p4), .val (.int p5), .val (.ref b), .val (.int st), .val (.int ln), .unset] [(.int (own_cov (2 : Int32) st ln))]))
          by_cases hc2 : (own_cov (2 : Int32) st ln) = (0 : Int32)
          · refine Onw.go (fun own_u kt => XS.ifYes X25.here hx rfl (pc0 := 108) (pc' := 121) rfl (hb hby at_108) rfl ((if0 _ _).trans (teq (hc2 : (own_cov (2 : Int32) st ln) = (0 : Int32))).1) (by decide) (by decide) kt) ?_
            show Onw p e below _ (T25.setTop (mkF m 121 #[.val (.int p0), .val (.int p1), .val (.int p2), .val (.int p3), .val (.int p4), .val (.int p5), .val (.ref b), .val (.int st), .val (.int ln), .unset] []))
            have ok2 : own_ok (2 : Int32) c2 st ln := Or.inl hc2
            refine Onw.go (fun own_u kt => XS.iconst X25.here hx rfl (hb hby at_121) kt) ?_
            show Onw p e below _ (T25.setTop (mkF m 122 #[.val (.int p0), .val (.int p1), .val (.int p2), .val (.int p3), .val (.int p4), .val (.int p5), .val (.ref b), .val (.int st), .val (.int ln), .unset] [(.int (3 : Int32))]))
            refine Onw.go (fun own_u kt => XS.iload X25.here hx rfl (hb hby at_122) rfl kt) ?_
            show Onw p e below _ (T25.setTop (mkF m 124 #[.val (.int p0), .val (.int p1), .val (.int p2), .val (.int p3), .val (.int p4), .val (.int p5), .val (.ref b), .val (.int st), .val (.int ln), .unset] [(.int st), (.int (3 : Int32))]))
            refine Onw.go (fun own_u kt => XS.iload X25.here hx rfl (hb hby at_124) rfl kt) ?_
            show Onw p e below _ (T25.setTop (mkF m 126 #[.val (.int p0), .val (.int p1), .val (.int p2), .val (.int p3), .val (.int p4), .val (.int p5), .val (.ref b), .val (.int st), .val (.int ln), .unset] [(.int ln), (.int st), (.int (3 : Int32))]))
            obtain ⟨_, _, ⟨T26, L26, k26, n26⟩, -, X26, ⟨Lc26, hQ26, l26, y26, z26⟩, st26⟩ := Jvm.LawKit.callS X25 hx (y := (⟨"com/example/faultline/faultline/xml/ElementReaderIsWhiteSpacePinLaw", "covers", "(III)Z"⟩ : MethodName)) hown (mvT hZ (hw _ (List.mem_of_getElem? (i := 6) rfl))) (mvT hZ (hw _ (List.mem_of_getElem? (i := 7) rfl))) (mvT hZ (hw _ (List.mem_of_getElem? (i := 3) rfl))) (mvT hZ (hw _ (List.mem_of_getElem? (i := 8) rfl))) (by decide) (backOf (W := 0) (rm2 l Z a0 hw [] (3 : Int32) st ln  h0 n0 ) hZ (hw _ (List.mem_of_getElem? (i := 8) rfl)) (hw _ (List.mem_of_getElem? (i := 3) rfl)) (by decide) (by decide)) (g := (mkF m 126 #[.val (.int p0), .val (.int p1), .val (.int p2), .val (.int p3), .val (.int p4), .val (.int p5), .val (.ref b), .val (.int st), .val (.int ln), .unset] [(.int ln), (.int st), (.int (3 : Int32))])) rfl (by rw [hml]; rfl) (argsL := [(.int (3 : Int32)), (.int st), (.int ln)]) (rest := []) (lenOf pd_1 rfl) rfl (by show 2 * 0 + _ ≤ _; exact Nat.le_of_eq rfl) (hb hby at_126) (fun _ _ => ⟨rfl, e25q, (by decide : 1 + 0 ≤ _), (by decide : 4 + 0 ≤ _)⟩)
            dsimp only [Pt.U, Pt.locs, Pt.cells, Pt.slots] at X26 l26 y26 z26 st26 hQ26
            subst l26 y26 z26
            obtain ⟨rfl, N26q, e26q⟩ := hQ26
            have N26 := Fr.app N25 N26q
            refine Onw.go st26 ?_
            show Onw p e below _ (T26.setTop (mkF m 129 #[.val (.int p0), .val (.int p1), .val (.int p2), .val (.int p3), .val (.int p4), .val (.int p5), .val (.ref b), .val (.int st), .val (.int ln), .unset] [(.int (own_cov (3 : Int32) st ln))]))
            by_cases hc3 : (own_cov (3 : Int32) st ln) = (0 : Int32)
            · refine Onw.go (fun own_u kt => XS.ifYes X26.here hx rfl (pc0 := 129) (pc' := 142) rfl (hb hby at_129) rfl ((if0 _ _).trans (teq (hc3 : (own_cov (3 : Int32) st ln) = (0 : Int32))).1) (by decide) (by decide) kt) ?_
              show Onw p e below _ (T26.setTop (mkF m 142 #[.val (.int p0), .val (.int p1), .val (.int p2), .val (.int p3), .val (.int p4), .val (.int p5), .val (.ref b), .val (.int st), .val (.int ln), .unset] []))
              have ok3 : own_ok (3 : Int32) c3 st ln := Or.inl hc3
              refine Onw.go (fun own_u kt => XS.iconst X26.here hx rfl (hb hby at_142) kt) ?_
              show Onw p e below _ (T26.setTop (mkF m 143 #[.val (.int p0), .val (.int p1), .val (.int p2), .val (.int p3), .val (.int p4), .val (.int p5), .val (.ref b), .val (.int st), .val (.int ln), .unset] [(.int (1 : Int32))]))
              refine Onw.go (fun own_u kt => XS.goto X26.here hx rfl (pc0 := 143) (pc' := 147) rfl (hb hby at_143) (by decide) (by decide) kt) ?_
              show Onw p e below _ (T26.setTop (mkF m 147 #[.val (.int p0), .val (.int p1), .val (.int p2), .val (.int p3), .val (.int p4), .val (.int p5), .val (.ref b), .val (.int st), .val (.int ln), .unset] [(.int (1 : Int32))]))
              have hx1 : own_exp c0 c1 c2 c3 st ln = (1 : Int32) := own_exp1 ok0 ok1 ok2 ok3
              rw [hx1] at hK
              exact hK _ _ X26 e26q N26
            · refine Onw.go (fun own_u kt => XS.ifNo X26.here hx rfl (hb hby at_129) rfl ((if0 _ _).trans (feq (hc3 : ¬ ((own_cov (3 : Int32) st ln) = (0 : Int32)))).1) kt) ?_
              show Onw p e below _ (T26.setTop (mkF m 132 #[.val (.int p0), .val (.int p1), .val (.int p2), .val (.int p3), .val (.int p4), .val (.int p5), .val (.ref b), .val (.int st), .val (.int ln), .unset] []))
              refine Onw.go (fun own_u kt => XS.aload X26.here hx rfl (hb hby at_132) rfl rfl kt) ?_
              show Onw p e below _ (T26.setTop (mkF m 134 #[.val (.int p0), .val (.int p1), .val (.int p2), .val (.int p3), .val (.int p4), .val (.int p5), .val (.ref b), .val (.int st), .val (.int ln), .unset] [(.ref b)]))
              refine Onw.go (fun own_u kt => XS.iconst X26.here hx rfl (hb hby at_134) kt) ?_
              show Onw p e below _ (T26.setTop (mkF m 135 #[.val (.int p0), .val (.int p1), .val (.int p2), .val (.int p3), .val (.int p4), .val (.int p5), .val (.ref b), .val (.int st), .val (.int ln), .unset] [(.int (3 : Int32)), (.ref b)]))
              refine Onw.go (X26.caload hx (j := (3 : Int32)) (v := (.int c3)) (by rw [e26q]; exact Ar.1) (State.isArrayOf_alike hZ.alike Ar.2.1) Ar.2.2 (inb_of Sa ⟨by decide, by decide⟩) (Ha 3 (by rw [Sa]; decide)) (g := (mkF m 135 #[.val (.int p0), .val (.int p1), .val (.int p2), .val (.int p3), .val (.int p4), .val (.int p5), .val (.ref b), .val (.int st), .val (.int ln), .unset] [(.int (3 : Int32)), (.ref b)])) rfl rfl (hb hby at_135)) ?_
              show Onw p e below _ (T26.setTop (mkF m 136 #[.val (.int p0), .val (.int p1), .val (.int p2), .val (.int p3), .val (.int p4), .val (.int p5), .val (.ref b), .val (.int st), .val (.int ln), .unset] [(.int c3)]))
              obtain ⟨_, _, ⟨T27, L27, k27, n27⟩, -, X27, ⟨Lc27, hQ27, l27, y27, z27⟩, st27⟩ := Jvm.LawKit.callS X26 hx (y := (⟨"com/example/faultline/faultline/xml/ElementReaderIsWhiteSpacePinLaw", "isSpace", "(C)Z"⟩ : MethodName)) hown (mvT hZ (hw _ (List.mem_of_getElem? (i := 9) rfl))) (mvT hZ (hw _ (List.mem_of_getElem? (i := 10) rfl))) (mvT hZ (hw _ (List.mem_of_getElem? (i := 3) rfl))) (mvT hZ (hw _ (List.mem_of_getElem? (i := 11) rfl))) (by decide) (backOf (W := 0) (rm3 l Z a0 hw [] c3  h0 n0 ) hZ (hw _ (List.mem_of_getElem? (i := 11) rfl)) (hw _ (List.mem_of_getElem? (i := 3) rfl)) (by decide) (by decide)) (g := (mkF m 136 #[.val (.int p0), .val (.int p1), .val (.int p2), .val (.int p3), .val (.int p4), .val (.int p5), .val (.ref b), .val (.int st), .val (.int ln), .unset] [(.int c3)])) rfl (by rw [hml]; rfl) (argsL := [(.int c3)]) (rest := []) (lenOf pd_2 rfl) rfl (by show 2 * 0 + _ ≤ _; exact Nat.le_of_eq rfl) (hb hby at_136) (fun _ _ => ⟨rfl, e26q, (by decide : 1 + 0 ≤ _), (by decide : 4 + 0 ≤ _)⟩)
              dsimp only [Pt.U, Pt.locs, Pt.cells, Pt.slots] at X27 l27 y27 z27 st27 hQ27
              subst l27 y27 z27
              obtain ⟨rfl, N27q, e27q⟩ := hQ27
              have N27 := Fr.app N26 N27q
              refine Onw.go st27 ?_
              show Onw p e below _ (T27.setTop (mkF m 139 #[.val (.int p0), .val (.int p1), .val (.int p2), .val (.int p3), .val (.int p4), .val (.int p5), .val (.ref b), .val (.int st), .val (.int ln), .unset] [(.int (own_sp c3))]))
              by_cases hs3 : (own_sp c3) = (0 : Int32)
              · refine Onw.go (fun own_u kt => XS.ifYes X27.here hx rfl (pc0 := 139) (pc' := 146) rfl (hb hby at_139) rfl ((if0 _ _).trans (teq (hs3 : (own_sp c3) = (0 : Int32))).1) (by decide) (by decide) kt) ?_
                show Onw p e below _ (T27.setTop (mkF m 146 #[.val (.int p0), .val (.int p1), .val (.int p2), .val (.int p3), .val (.int p4), .val (.int p5), .val (.ref b), .val (.int st), .val (.int ln), .unset] []))
                refine Onw.go (fun own_u kt => XS.iconst X27.here hx rfl (hb hby at_146) kt) ?_
                show Onw p e below _ (T27.setTop (mkF m 147 #[.val (.int p0), .val (.int p1), .val (.int p2), .val (.int p3), .val (.int p4), .val (.int p5), .val (.ref b), .val (.int st), .val (.int ln), .unset] [(.int (0 : Int32))]))
                have hx1 : own_exp c0 c1 c2 c3 st ln = (0 : Int32) := own_exp0_3 hc3 hs3
                rw [hx1] at hK
                exact hK _ _ X27 e27q N27
              · refine Onw.go (fun own_u kt => XS.ifNo X27.here hx rfl (hb hby at_139) rfl ((if0 _ _).trans (feq (hs3 : ¬ ((own_sp c3) = (0 : Int32)))).1) kt) ?_
                show Onw p e below _ (T27.setTop (mkF m 142 #[.val (.int p0), .val (.int p1), .val (.int p2), .val (.int p3), .val (.int p4), .val (.int p5), .val (.ref b), .val (.int st), .val (.int ln), .unset] []))
                have ok3 : own_ok (3 : Int32) c3 st ln := Or.inr hs3
                refine Onw.go (fun own_u kt => XS.iconst X27.here hx rfl (hb hby at_142) kt) ?_
                show Onw p e below _ (T27.setTop (mkF m 143 #[.val (.int p0), .val (.int p1), .val (.int p2), .val (.int p3), .val (.int p4), .val (.int p5), .val (.ref b), .val (.int st), .val (.int ln), .unset] [(.int (1 : Int32))]))
                refine Onw.go (fun own_u kt => XS.goto X27.here hx rfl (pc0 := 143) (pc' := 147) rfl (hb hby at_143) (by decide) (by decide) kt) ?_
                show Onw p e below _ (T27.setTop (mkF m 147 #[.val (.int p0), .val (.int p1), .val (.int p2), .val (.int p3), .val (.int p4), .val (.int p5), .val (.ref b), .val (.int st), .val (.int ln), .unset] [(.int (1 : Int32))]))
                have hx1 : own_exp c0 c1 c2 c3 st ln = (1 : Int32) := own_exp1 ok0 ok1 ok2 ok3
                rw [hx1] at hK
                exact hK _ _ X27 e27q N27
          · refine Onw.go (fun own_u kt => XS.ifNo X25.here hx rfl (hb hby at_108) rfl ((if0 _ _).trans (feq (hc2 : ¬ ((own_cov (2 : Int32) st ln) = (0 : Int32)))).1) kt) ?_
            show Onw p e below _ (T25.setTop (mkF m 111 #[.val (.int p0), .val (.int p1), .val (.int p2), .val (.int p3), .val (.int p4), .val (.int p5), .val (.ref b), .val (.int st), .val (.int ln), .unset] []))
            refine Onw.go (fun own_u kt => XS.aload X25.here hx rfl (hb hby at_111) rfl rfl kt) ?_
            show Onw p e below _ (T25.setTop (mkF m 113 #[.val (.int p0), .val (.int p1), .val (.int p2), .val (.int p3), .val (.int p4), .val (.int p5), .val (.ref b), .val (.int st), .val (.int ln), .unset] [(.ref b)]))
            refine Onw.go (fun own_u kt => XS.iconst X25.here hx rfl (hb hby at_113) kt) ?_
            show Onw p e below _ (T25.setTop (mkF m 114 #[.val (.int p0), .val (.int p1), .val (.int p2), .val (.int p3), .val (.int p4), .val (.int p5), .val (.ref b), .val (.int st), .val (.int ln), .unset] [(.int (2 : Int32)), (.ref b)]))
            refine Onw.go (X25.caload hx (j := (2 : Int32)) (v := (.int c2)) (by rw [e25q]; exact Ar.1) (State.isArrayOf_alike hZ.alike Ar.2.1) Ar.2.2 (inb_of Sa ⟨by decide, by decide⟩) (Ha 2 (by rw [Sa]; decide)) (g := (mkF m 114 #[.val (.int p0), .val (.int p1), .val (.int p2), .val (.int p3), .val (.int p4), .val (.int p5), .val (.ref b), .val (.int st), .val (.int ln), .unset] [(.int (2 : Int32)), (.ref b)])) rfl rfl (hb hby at_114)) ?_
            show Onw p e below _ (T25.setTop (mkF m 115 #[.val (.int p0), .val (.int p1), .val (.int p2), .val (.int p3), .val (.int p4), .val (.int p5), .val (.ref b), .val (.int st), .val (.int ln), .unset] [(.int c2)]))
            obtain ⟨_, _, ⟨T28, L28, k28, n28⟩, -, X28, ⟨Lc28, hQ28, l28, y28, z28⟩, st28⟩ := Jvm.LawKit.callS X25 hx (y := (⟨"com/example/faultline/faultline/xml/ElementReaderIsWhiteSpacePinLaw", "isSpace", "(C)Z"⟩ : MethodName)) hown (mvT hZ (hw _ (List.mem_of_getElem? (i := 9) rfl))) (mvT hZ (hw _ (List.mem_of_getElem? (i := 10) rfl))) (mvT hZ (hw _ (List.mem_of_getElem? (i := 3) rfl))) (mvT hZ (hw _ (List.mem_of_getElem? (i := 11) rfl))) (by decide) (backOf (W := 0) (rm3 l Z a0 hw [] c2  h0 n0 ) hZ (hw _ (List.mem_of_getElem? (i := 11) rfl)) (hw _ (List.mem_of_getElem? (i := 3) rfl)) (by decide) (by decide)) (g := (mkF m 115 #[.val (.int p0), .val (.int p1), .val (.int p2), .val (.int p3), .val (.int p4), .val (.int p5), .val (.ref b), .val (.int st), .val (.int ln), .unset] [(.int c2)])) rfl (by rw [hml]; rfl) (argsL := [(.int c2)]) (rest := []) (lenOf pd_2 rfl) rfl (by show 2 * 0 + _ ≤ _; exact Nat.le_of_eq rfl) (hb hby at_115) (fun _ _ => ⟨rfl, e25q, (by decide : 1 + 0 ≤ _), (by decide : 4 + 0 ≤ _)⟩)
            dsimp only [Pt.U, Pt.locs, Pt.cells, Pt.slots] at X28 l28 y28 z28 st28 hQ28
            subst l28 y28 z28
            obtain ⟨rfl, N28q, e28q⟩ := hQ28
            have N28 := Fr.app N25 N28q
            refine Onw.go st28 ?_
            show Onw p e below _ (T28.setTop (mkF m 118 #[.val (.int p0), .val (.int p1), .val (.int p2), .val (.int p3), .val (.int p4), .val (.int p5), .val (.ref b), .val (.int st), .val (.int ln), .unset] [(.int (own_sp c2))]))
            by_cases hs2 : (own_sp c2) = (0 : Int32)
            · refine Onw.go (fun own_u kt => XS.ifYes X28.here hx rfl (pc0 := 118) (pc' := 146) rfl (hb hby at_118) rfl ((if0 _ _).trans (teq (hs2 : (own_sp c2) = (0 : Int32))).1) (by decide) (by decide) kt) ?_
              show Onw p e below _ (T28.setTop (mkF m 146 #[.val (.int p0), .val (.int p1), .val (.int p2), .val (.int p3), .val (.int p4), .val (.int p5), .val (.ref b), .val (.int st), .val (.int ln), .unset] []))
              refine Onw.go (fun own_u kt => XS.iconst X28.here hx rfl (hb hby at_146) kt) ?_
              show Onw p e below _ (T28.setTop (mkF m 147 #[.val (.int p0), .val (.int p1), .val (.int p2), .val (.int p3), .val (.int p4), .val (.int p5), .val (.ref b), .val (.int st), .val (.int ln), .unset] [(.int (0 : Int32))]))
              have hx1 : own_exp c0 c1 c2 c3 st ln = (0 : Int32) := own_exp0_2 hc2 hs2
              rw [hx1] at hK
              exact hK _ _ X28 e28q N28
            · refine Onw.go (fun own_u kt => XS.ifNo X28.here hx rfl (hb hby at_118) rfl ((if0 _ _).trans (feq (hs2 : ¬ ((own_sp c2) = (0 : Int32)))).1) kt) ?_
              show Onw p e below _ (T28.setTop (mkF m 121 #[.val (.int p0), .val (.int p1), .val (.int p2), .val (.int p3), .val (.int p4), .val (.int p5), .val (.ref b), .val (.int st), .val (.int ln), .unset] []))
              have ok2 : own_ok (2 : Int32) c2 st ln := Or.inr hs2
              refine Onw.go (fun own_u kt => XS.iconst X28.here hx rfl (hb hby at_121) kt) ?_
              show Onw p e below _ (T28.setTop (mkF m 122 #[.val (.int p0), .val (.int p1), .val (.int p2), .val (.int p3), .val (.int p4), .val (.int p5), .val (.ref b), .val (.int st), .val (.int ln), .unset] [(.int (3 : Int32))]))
              refine Onw.go (fun own_u kt => XS.iload X28.here hx rfl (hb hby at_122) rfl kt) ?_
              show Onw p e below _ (T28.setTop (mkF m 124 #[.val (.int p0), .val (.int p1), .val (.int p2), .val (.int p3), .val (.int p4), .val (.int p5), .val (.ref b), .val (.int st), .val (.int ln), .unset] [(.int st), (.int (3 : Int32))]))
              refine Onw.go (fun own_u kt => XS.iload X28.here hx rfl (hb hby at_124) rfl kt) ?_
              show Onw p e below _ (T28.setTop (mkF m 126 #[.val (.int p0), .val (.int p1), .val (.int p2), .val (.int p3), .val (.int p4), .val (.int p5), .val (.ref b), .val (.int st), .val (.int ln), .unset] [(.int ln), (.int st), (.int (3 : Int32))]))
              obtain ⟨_, _, ⟨T29, L29, k29, n29⟩, -, X29, ⟨Lc29, hQ29, l29, y29, z29⟩, st29⟩ := Jvm.LawKit.callS X28 hx (y := (⟨"com/example/faultline/faultline/xml/ElementReaderIsWhiteSpacePinLaw", "covers", "(III)Z"⟩ : MethodName)) hown (mvT hZ (hw _ (List.mem_of_getElem? (i := 6) rfl))) (mvT hZ (hw _ (List.mem_of_getElem? (i := 7) rfl))) (mvT hZ (hw _ (List.mem_of_getElem? (i := 3) rfl))) (mvT hZ (hw _ (List.mem_of_getElem? (i := 8) rfl))) (by decide) (backOf (W := 0) (rm2 l Z a0 hw [] (3 : Int32) st ln  h0 n0 ) hZ (hw _ (List.mem_of_getElem? (i := 8) rfl)) (hw _ (List.mem_of_getElem? (i := 3) rfl)) (by decide) (by decide)) (g := (mkF m 126 #[.val (.int p0), .val (.int p1), .val (.int p2), .val (.int p3), .val (.int p4), .val (.int p5), .val (.ref b), .val (.int st), .val (.int ln), .unset] [(.int ln), (.int st), (.int (3 : Int32))])) rfl (by rw [hml]; rfl) (argsL := [(.int (3 : Int32)), (.int st), (.int ln)]) (rest := []) (lenOf pd_1 rfl) rfl (by show 2 * 0 + _ ≤ _; exact Nat.le_of_eq rfl) (hb hby at_126) (fun _ _ => ⟨rfl, e28q, (by decide : 1 + 0 ≤ _), (by decide : 4 + 0 ≤ _)⟩)
              dsimp only [Pt.U, Pt.locs, Pt.cells, Pt.slots] at X29 l29 y29 z29 st29 hQ29
              subst l29 y29 z29
              obtain ⟨rfl, N29q, e29q⟩ := hQ29
              have N29 := Fr.app N28 N29q
              refine Onw.go st29 ?_
              show Onw p e below _ (T29.setTop (mkF m 129 #[.val (.int p0), .val (.int p1), .val (.int p2), .val (.int p3), .val (.int p4), .val (.int p5), .val (.ref b), .val (.int st), .val (.int ln), .unset] [(.int (own_cov (3 : Int32) st ln))]))
              by_cases hc3 : (own_cov (3 : Int32) st ln) = (0 : Int32)
              · refine Onw.go (fun own_u kt => XS.ifYes X29.here hx rfl (pc0 := 129) (pc' := 142) rfl (hb hby at_129) rfl ((if0 _ _).trans (teq (hc3 : (own_cov (3 : Int32) st ln) = (0 : Int32))).1) (by decide) (by decide) kt) ?_
                show Onw p e below _ (T29.setTop (mkF m 142 #[.val (.int p0), .val (.int p1), .val (.int p2), .val (.int p3), .val (.int p4), .val (.int p5), .val (.ref b), .val (.int st), .val (.int ln), .unset] []))
                have ok3 : own_ok (3 : Int32) c3 st ln := Or.inl hc3
                refine Onw.go (fun own_u kt => XS.iconst X29.here hx rfl (hb hby at_142) kt) ?_
                show Onw p e below _ (T29.setTop (mkF m 143 #[.val (.int p0), .val (.int p1), .val (.int p2), .val (.int p3), .val (.int p4), .val (.int p5), .val (.ref b), .val (.int st), .val (.int ln), .unset] [(.int (1 : Int32))]))
                refine Onw.go (fun own_u kt => XS.goto X29.here hx rfl (pc0 := 143) (pc' := 147) rfl (hb hby at_143) (by decide) (by decide) kt) ?_
                show Onw p e below _ (T29.setTop (mkF m 147 #[.val (.int p0), .val (.int p1), .val (.int p2), .val (.int p3), .val (.int p4), .val (.int p5), .val (.ref b), .val (.int st), .val (.int ln), .unset] [(.int (1 : Int32))]))
                have hx1 : own_exp c0 c1 c2 c3 st ln = (1 : Int32) := own_exp1 ok0 ok1 ok2 ok3
                rw [hx1] at hK
                exact hK _ _ X29 e29q N29
              · refine Onw.go (fun own_u kt => XS.ifNo X29.here hx rfl (hb hby at_129) rfl ((if0 _ _).trans (feq (hc3 : ¬ ((own_cov (3 : Int32) st ln) = (0 : Int32)))).1) kt) ?_
                show Onw p e below _ (T29.setTop (mkF m 132 #[.val (.int p0), .val (.int p1), .val (.int p2), .val (.int p3), .val (.int p4), .val (.int p5), .val (.ref b), .val (.int st), .val (.int ln), .unset] []))
                refine Onw.go (fun own_u kt => XS.aload X29.here hx rfl (hb hby at_132) rfl rfl kt) ?_
                show Onw p e below _ (T29.setTop (mkF m 134 #[.val (.int p0), .val (.int p1), .val (.int p2), .val (.int p3), .val (.int p4), .val (.int p5), .val (.ref b), .val (.int st), .val (.int ln), .unset] [(.ref b)]))
                refine Onw.go (fun own_u kt => XS.iconst X29.here hx rfl (hb hby at_134) kt) ?_
                show Onw p e below _ (T29.setTop (mkF m 135 #[.val (.int p0), .val (.int p1), .val (.int p2), .val (.int p3), .val (.int p4), .val (.int p5), .val (.ref b), .val (.int st), .val (.int ln), .unset] [(.int (3 : Int32)), (.ref b)]))
                refine Onw.go (X29.caload hx (j := (3 : Int32)) (v := (.int c3)) (by rw [e29q]; exact Ar.1) (State.isArrayOf_alike hZ.alike Ar.2.1) Ar.2.2 (inb_of Sa ⟨by decide, by decide⟩) (Ha 3 (by rw [Sa]; decide)) (g := (mkF m 135 #[.val (.int p0), .val (.int p1), .val (.int p2), .val (.int p3), .val (.int p4), .val (.int p5), .val (.ref b), .val (.int st), .val (.int ln), .unset] [(.int (3 : Int32)), (.ref b)])) rfl rfl (hb hby at_135)) ?_
                show Onw p e below _ (T29.setTop (mkF m 136 #[.val (.int p0), .val (.int p1), .val (.int p2), .val (.int p3), .val (.int p4), .val (.int p5), .val (.ref b), .val (.int st), .val (.int ln), .unset] [(.int c3)]))
                obtain ⟨_, _, ⟨T30, L30, k30, n30⟩, -, X30, ⟨Lc30, hQ30, l30, y30, z30⟩, st30⟩ := Jvm.LawKit.callS X29 hx (y := (⟨"com/example/faultline/faultline/xml/ElementReaderIsWhiteSpacePinLaw", "isSpace", "(C)Z"⟩ : MethodName)) hown (mvT hZ (hw _ (List.mem_of_getElem? (i := 9) rfl))) (mvT hZ (hw _ (List.mem_of_getElem? (i := 10) rfl))) (mvT hZ (hw _ (List.mem_of_getElem? (i := 3) rfl))) (mvT hZ (hw _ (List.mem_of_getElem? (i := 11) rfl))) (by decide) (backOf (W := 0) (rm3 l Z a0 hw [] c3  h0 n0 ) hZ (hw _ (List.mem_of_getElem? (i := 11) rfl)) (hw _ (List.mem_of_getElem? (i := 3) rfl)) (by decide) (by decide)) (g := (mkF m 136 #[.val (.int p0), .val (.int p1), .val (.int p2), .val (.int p3), .val (.int p4), .val (.int p5), .val (.ref b), .val (.int st), .val (.int ln), .unset] [(.int c3)])) rfl (by rw [hml]; rfl) (argsL := [(.int c3)]) (rest := []) (lenOf pd_2 rfl) rfl (by show 2 * 0 + _ ≤ _; exact Nat.le_of_eq rfl) (hb hby at_136) (fun _ _ => ⟨rfl, e29q, (by decide : 1 + 0 ≤ _), (by decide : 4 + 0 ≤ _)⟩)
                dsimp only [Pt.U, Pt.locs, Pt.cells, Pt.slots] at X30 l30 y30 z30 st30 hQ30
                subst l30 y30 z30
                obtain ⟨rfl, N30q, e30q⟩ := hQ30
                have N30 := Fr.app N29 N30q
                refine Onw.go st30 ?_
                show Onw p e below _ (T30.setTop (mkF m 139 #[.val (.int p0), .val (.int p1), .val (.int p2), .val (.int p3), .val (.int p4), .val (.int p5), .val (.ref b), .val (.int st), .val (.int ln), .unset] [(.int (own_sp c3))]))
                by_cases hs3 : (own_sp c3) = (0 : Int32)
                · refine Onw.go (fun own_u kt => XS.ifYes X30.here hx rfl (pc0 := 139) (pc' := 146) rfl (hb hby at_139) rfl ((if0 _ _).trans (teq (hs3 : (own_sp c3) = (0 : Int32))).1) (by decide) (by decide) kt) ?_
                  show Onw p e below _ (T30.setTop (mkF m 146 #[.val (.int p0), .val (.int p1), .val (.int p2), .val (.int p3), .val (.int p4), .val (.int p5), .val (.ref b), .val (.int st), .val (.int ln), .unset] []))
                  refine Onw.go (fun own_u kt => XS.iconst X30.here hx rfl (hb hby at_146) kt) ?_
                  show Onw p e below _ (T30.setTop (mkF m 147 #[.val (.int p0), .val (.int p1), .val (.int p2), .val (.int p3), .val (.int p4), .val (.int p5), .val (.ref b), .val (.int st), .val (.int ln), .unset] [(.int (0 : Int32))]))
                  have hx1 : own_exp c0 c1 c2 c3 st ln = (0 : Int32) := own_exp0_3 hc3 hs3
                  rw [hx1] at hK
                  exact hK _ _ X30 e30q N30
                · refine Onw.go (fun own_u kt => XS.ifNo X30.here hx rfl (hb hby at_139) rfl ((if0 _ _).trans (feq (hs3 : ¬ ((own_sp c3) = (0 : Int32)))).1) kt) ?_
                  show Onw p e below _ (T30.setTop (mkF m 142 #[.val (.int p0), .val (.int p1), .val (.int p2), .val (.int p3), .val (.int p4), .val (.int p5), .val (.ref b), .val (.int st), .val (.int ln), .unset] []))
                  have ok3 : own_ok (3 : Int32) c3 st ln := Or.inr hs3
                  refine Onw.go (fun own_u kt => XS.iconst X30.here hx rfl (hb hby at_142) kt) ?_
                  show Onw p e below _ (T30.setTop (mkF m 143 #[.val (.int p0), .val (.int p1), .val (.int p2), .val (.int p3), .val (.int p4), .val (.int p5), .val (.ref b), .val (.int st), .val (.int ln), .unset] [(.int (1 : Int32))]))
                  refine Onw.go (fun own_u kt => XS.goto X30.here hx rfl (pc0 := 143) (pc' := 147) rfl (hb hby at_143) (by decide) (by decide) kt) ?_
                  show Onw p e below _ (T30.setTop (mkF m 147 #[.val (.int p0), .val (.int p1), .val (.int p2), .val (.int p3), .val (.int p4), .val (.int p5), .val (.ref b), .val (.int st), .val (.int ln), .unset] [(.int (1 : Int32))]))
                  have hx1 : own_exp c0 c1 c2 c3 st ln = (1 : Int32) := own_exp1 ok0 ok1 ok2 ok3
                  rw [hx1] at hK
                  exact hK _ _ X30 e30q N30
theorem ef_0 (m : MethodId) (x0 : Int32) (x1 : Int32) (x2 : Int32) (x3 : Int32) (x4 : Int32) (x5 : Int32) : entryFrame m #[(.int x0), (.int x1), (.int x2), (.int x3), (.int x4), (.int x5)] maxLocals = mkF m 0 #[.val (.int x0), .val (.int x1), .val (.int x2), .val (.int x3), .val (.int x4), .val (.int x5), .unset, .unset, .unset, .unset] [] := by first | (simp [entryFrame, mkF, argsToLocals, Value.category, maxLocals]; done) | rfl
def Q_rm0 (Z : State) (p0 : Int32) (p1 : Int32) (p2 : Int32) (p3 : Int32) (p4 : Int32) (p5 : Int32) (h0 : Heap) (n0 : Nat) (v : Option Value) (h : Heap) (L : List Loc) : Prop := v = some (.int (1 : Int32)) ∧ Fr n0 L
set_option maxRecDepth 65536 in
set_option maxHeartbeats 40000000 in
theorem rm0 (l : Launch) (Z : State) (a0 : Array Value) (hw : ∀ d ∈ tables_1, d.before a0 Z = true) (ws : List Jvm.Cond) (p0 : Int32) (p1 : Int32) (p2 : Int32) (p3 : Int32) (p4 : Int32) (p5 : Int32) (h0 : Heap) (n0 : Nat) (Z0 : n0 ≤ h0.size) :
    MetFree l x (head1 (Jvm.Cond.code x code maxLocals ret :: ws) room_1) (fun a U => a = #[(.int p0), (.int p1), (.int p2), (.int p3), (.int p4), (.int p5)] ∧ Z.Warmed39 U.vm ∧ U.heap = h0) (fun _ _ _ _ _ => True) (fun _ U o U' => ∃ v L, o = .returned v ∧ Q_rm0 Z p0 p1 p2 p3 p4 p5 h0 n0 v U'.heap L ∧ FrameEnd U o U' L room_1.cells room_1.slots) := by
  refine MetFree.of_bodySF (plainFor_of_name pn_0) hisR ?_
  intro p e s m args below meth c s₁ Bd hml0 hP hK
  obtain ⟨rfl, hZ, hh⟩ := hP
  have hx := Bd.exec
  have hby := Bd.bytes
  have hml : c.maxLocals = 10 := hml0
  have hown : s.vm.findClass "com/example/faultline/faultline/xml/ElementReaderIsWhiteSpacePinLaw" = some m.cls := findClass_of_methodNamed Bd.named
  have hnm := (name_of_methodNamed Bd.named Bd.method).1
  have X0 : Stand p l e room_1 s m #[(.int p0), (.int p1), (.int p2), (.int p3), (.int p4), (.int p5)] below meth c s₁ [] 0 0 := Stand.of_body Bd
  have e0 : s₁.heap = h0 := by rw [← hh, Bd.state]; rfl
  have N0 := Fr.nil n0
  refine Onw.of (Onw.go (fun own_u k => castTop (ef_0 m p0 p1 p2 p3 p4 p5) k) ?_)
  show Onw p e below _ (s₁.setTop (mkF m 0 #[.val (.int p0), .val (.int p1), .val (.int p2), .val (.int p3), .val (.int p4), .val (.int p5), .unset, .unset, .unset, .unset] []))
  refine Onw.go (fun own_u kt => XS.iconst X0.here hx rfl (hb hby at_0) kt) ?_
  show Onw p e below _ (s₁.setTop (mkF m 1 #[.val (.int p0), .val (.int p1), .val (.int p2), .val (.int p3), .val (.int p4), .val (.int p5), .unset, .unset, .unset, .unset] [(.int (4 : Int32))]))
  obtain ⟨T1, h1, k1, X1, e1, E1, A1, st1⟩ := newP X0 hx hZ (hw _ (List.mem_of_getElem? (i := 0) rfl)) e0 (g := (mkF m 1 #[.val (.int p0), .val (.int p1), .val (.int p2), .val (.int p3), .val (.int p4), .val (.int p5), .unset, .unset, .unset, .unset] [(.int (4 : Int32))])) rfl (hb hby at_1) rfl (by decide) (cap := 4) (by decide) (by decide) (by decide) (by decide)
  obtain ⟨b, gg1⟩ : ∃ own_z, own_z = h0.size := ⟨_, rfl⟩
  rw [← gg1] at A1 st1
  have V_b : Arv Z h1 b k1 .char (4 : Int32) [(.int (0 : Int32)), (.int (0 : Int32)), (.int (0 : Int32)), (.int (0 : Int32))] (.int (0 : Int32)) := (Arv.new A1 (by decide)).pad (pad_rep [] (.int (0 : Int32)) 4)
  refine Onw.go st1 ?_
  show Onw p e below _ (T1.setTop (mkF m 3 #[.val (.int p0), .val (.int p1), .val (.int p2), .val (.int p3), .val (.int p4), .val (.int p5), .unset, .unset, .unset, .unset] [(.ref b)]))
  have g_b : n0 ≤ b := gg1 ▸ Z0
  refine Onw.go (fun own_u kt => XS.astore X1.here hx rfl (hb hby at_3) rfl rfl (l' := #[.val (.int p0), .val (.int p1), .val (.int p2), .val (.int p3), .val (.int p4), .val (.int p5), .val (.ref b), .unset, .unset, .unset]) rfl kt) ?_
  show Onw p e below _ (T1.setTop (mkF m 5 #[.val (.int p0), .val (.int p1), .val (.int p2), .val (.int p3), .val (.int p4), .val (.int p5), .val (.ref b), .unset, .unset, .unset] []))
  refine Onw.go (fun own_u kt => XS.aload X1.here hx rfl (hb hby at_5) rfl rfl kt) ?_
  show Onw p e below _ (T1.setTop (mkF m 7 #[.val (.int p0), .val (.int p1), .val (.int p2), .val (.int p3), .val (.int p4), .val (.int p5), .val (.ref b), .unset, .unset, .unset] [(.ref b)]))
  refine Onw.go (fun own_u kt => XS.iconst X1.here hx rfl (hb hby at_7) kt) ?_
  show Onw p e below _ (T1.setTop (mkF m 8 #[.val (.int p0), .val (.int p1), .val (.int p2), .val (.int p3), .val (.int p4), .val (.int p5), .val (.ref b), .unset, .unset, .unset] [(.int (0 : Int32)), (.ref b)]))
  refine Onw.go (fun own_u kt => XS.iloadN X1.here hx rfl (hb hby at_8) rfl kt) ?_
  show Onw p e below _ (T1.setTop (mkF m 9 #[.val (.int p0), .val (.int p1), .val (.int p2), .val (.int p3), .val (.int p4), .val (.int p5), .val (.ref b), .unset, .unset, .unset] [(.int p0), (.int (0 : Int32)), (.ref b)]))
  obtain ⟨_, _, ⟨T2, L2, k2, n2⟩, -, X2, ⟨Lc2, hQ2, l2, y2, z2⟩, st2⟩ := Jvm.LawKit.callS X1 hx (y := (⟨"com/example/faultline/faultline/xml/ElementReaderIsWhiteSpacePinLaw", "draw", "(I)C"⟩ : MethodName)) hown (mvT hZ (hw _ (List.mem_of_getElem? (i := 1) rfl))) (mvT hZ (hw _ (List.mem_of_getElem? (i := 2) rfl))) (mvT hZ (hw _ (List.mem_of_getElem? (i := 3) rfl))) (mvT hZ (hw _ (List.mem_of_getElem? (i := 4) rfl))) (by decide) (backOf (W := 2) (rm1 l Z a0 hw [] p0  h1 n0 ) hZ (hw _ (List.mem_of_getElem? (i := 4) rfl)) (hw _ (List.mem_of_getElem? (i := 3) rfl)) (by decide) (by decide)) (g := (mkF m 9 #[.val (.int p0), .val (.int p1), .val (.int p2), .val (.int p3), .val (.int p4), .val (.int p5), .val (.ref b), .unset, .unset, .unset] [(.int p0), (.int (0 : Int32)), (.ref b)])) rfl (by rw [hml]; rfl) (argsL := [(.int p0)]) (rest := [(.int (0 : Int32)), (.ref b)]) (lenOf pd_0 rfl) rfl (by show 2 * 0 + _ ≤ _; exact Nat.le_of_eq rfl) (hb hby at_9) (fun _ _ => ⟨rfl, e1, (by decide : 1 + 0 ≤ _), (by decide : 4 + 0 ≤ _)⟩)
  dsimp only [Pt.U, Pt.locs, Pt.cells, Pt.slots] at X2 l2 y2 z2 st2 hQ2
  subst l2 y2 z2
  obtain ⟨rfl, N2q, e2q⟩ := hQ2
  have N2 := Fr.app N0 N2q
  refine Onw.go st2 ?_
  show Onw p e below _ (T2.setTop (mkF m 12 #[.val (.int p0), .val (.int p1), .val (.int p2), .val (.int p3), .val (.int p4), .val (.int p5), .val (.ref b), .unset, .unset, .unset] [(.int (own_draw p0)), (.int (0 : Int32)), (.ref b)]))
  obtain ⟨cl3, Ar3, qa3, Sa3, Na3, Ha3, Ga3⟩ := V_b
  have hin3 : ¬ ((0 : Int32) < 0 ∨ cl3.slots.size ≤ ((0 : Int32)).toNatClampNeg) := inb_of Sa3 ⟨by decide, by decide⟩
  obtain ⟨T3, h3, X3, e3, W3, st3⟩ := stC X2 hx hZ e2q Ar3 (j := (0 : Int32)) hin3 (g := (mkF m 12 #[.val (.int p0), .val (.int p1), .val (.int p2), .val (.int p3), .val (.int p4), .val (.int p5), .val (.ref b), .unset, .unset, .unset] [(.int (own_draw p0)), (.int (0 : Int32)), (.ref b)])) rfl rfl (hb hby at_12)
  have V3 := Arv.set Ar3 qa3 Sa3 Na3 Ha3 Ga3 (fits_nar_char _) W3 0 rfl (Nat.le_of_ble_eq_true rfl)
  have N3 := Fr.snoc X3 N2 g_b
  refine Onw.go st3 ?_
  show Onw p e below _ (T3.setTop (mkF m 13 #[.val (.int p0), .val (.int p1), .val (.int p2), .val (.int p3), .val (.int p4), .val (.int p5), .val (.ref b), .unset, .unset, .unset] []))
  refine Onw.go (fun own_u kt => XS.aload X3.here hx rfl (hb hby at_13) rfl rfl kt) ?_
  show Onw p e below _ (T3.setTop (mkF m 15 #[.val (.int p0), .val (.int p1), .val (.int p2), .val (.int p3), .val (.int p4), .val (.int p5), .val (.ref b), .unset, .unset, .unset] [(.ref b)]))
  refine Onw.go (fun own_u kt => XS.iconst X3.here hx rfl (hb hby at_15) kt) ?_
  show Onw p e below _ (T3.setTop (mkF m 16 #[.val (.int p0), .val (.int p1), .val (.int p2), .val (.int p3), .val (.int p4), .val (.int p5), .val (.ref b), .unset, .unset, .unset] [(.int (1 : Int32)), (.ref b)]))
  refine Onw.go (fun own_u kt => XS.iloadN X3.here hx rfl (hb hby at_16) rfl kt) ?_
  show Onw p e below _ (T3.setTop (mkF m 17 #[.val (.int p0), .val (.int p1), .val (.int p2), .val (.int p3), .val (.int p4), .val (.int p5), .val (.ref b), .unset, .unset, .unset] [(.int p1), (.int (1 : Int32)), (.ref b)]))
  obtain ⟨_, _, ⟨T4, L4, k4, n4⟩, -, X4, ⟨Lc4, hQ4, l4, y4, z4⟩, st4⟩ := Jvm.LawKit.callS X3 hx (y := (⟨"com/example/faultline/faultline/xml/ElementReaderIsWhiteSpacePinLaw", "draw", "(I)C"⟩ : MethodName)) hown (mvT hZ (hw _ (List.mem_of_getElem? (i := 1) rfl))) (mvT hZ (hw _ (List.mem_of_getElem? (i := 2) rfl))) (mvT hZ (hw _ (List.mem_of_getElem? (i := 3) rfl))) (mvT hZ (hw _ (List.mem_of_getElem? (i := 4) rfl))) (by decide) (backOf (W := 2) (rm1 l Z a0 hw [] p1  h3 n0 ) hZ (hw _ (List.mem_of_getElem? (i := 4) rfl)) (hw _ (List.mem_of_getElem? (i := 3) rfl)) (by decide) (by decide)) (g := (mkF m 17 #[.val (.int p0), .val (.int p1), .val (.int p2), .val (.int p3), .val (.int p4), .val (.int p5), .val (.ref b), .unset, .unset, .unset] [(.int p1), (.int (1 : Int32)), (.ref b)])) rfl (by rw [hml]; rfl) (argsL := [(.int p1)]) (rest := [(.int (1 : Int32)), (.ref b)]) (lenOf pd_0 rfl) rfl (by show 2 * 0 + _ ≤ _; exact Nat.le_of_eq rfl) (hb hby at_17) (fun _ _ => ⟨rfl, e3, (by decide : 1 + 0 ≤ _), (by decide : 4 + 0 ≤ _)⟩)
  dsimp only [Pt.U, Pt.locs, Pt.cells, Pt.slots] at X4 l4 y4 z4 st4 hQ4
  subst l4 y4 z4
  obtain ⟨rfl, N4q, e4q⟩ := hQ4
  have N4 := Fr.app N3 N4q
  refine Onw.go st4 ?_
  show Onw p e below _ (T4.setTop (mkF m 20 #[.val (.int p0), .val (.int p1), .val (.int p2), .val (.int p3), .val (.int p4), .val (.int p5), .val (.ref b), .unset, .unset, .unset] [(.int (own_draw p1)), (.int (1 : Int32)), (.ref b)]))
  obtain ⟨cl5, Ar5, qa5, Sa5, Na5, Ha5, Ga5⟩ := V3
  have hin5 : ¬ ((1 : Int32) < 0 ∨ cl5.slots.size ≤ ((1 : Int32)).toNatClampNeg) := inb_of Sa5 ⟨by decide, by decide⟩
  obtain ⟨T5, h5, X5, e5, W5, st5⟩ := stC X4 hx hZ e4q Ar5 (j := (1 : Int32)) hin5 (g := (mkF m 20 #[.val (.int p0), .val (.int p1), .val (.int p2), .val (.int p3), .val (.int p4), .val (.int p5), .val (.ref b), .unset, .unset, .unset] [(.int (own_draw p1)), (.int (1 : Int32)), (.ref b)])) rfl rfl (hb hby at_20)
  have V5 := Arv.set Ar5 qa5 Sa5 Na5 Ha5 Ga5 (fits_nar_char _) W5 1 rfl (Nat.le_of_ble_eq_true rfl)
  have N5 := Fr.snoc X5 N4 g_b
  refine Onw.go st5 ?_
  show Onw p e below _ (T5.setTop (mkF m 21 #[.val (.int p0), .val (.int p1), .val (.int p2), .val (.int p3), .val (.int p4), .val (.int p5), .val (.ref b), .unset, .unset, .unset] []))
  refine Onw.go (fun own_u kt => XS.aload X5.here hx rfl (hb hby at_21) rfl rfl kt) ?_
  show Onw p e below _ (T5.setTop (mkF m 23 #[.val (.int p0), .val (.int p1), .val (.int p2), .val (.int p3), .val (.int p4), .val (.int p5), .val (.ref b), .unset, .unset, .unset] [(.ref b)]))
  refine Onw.go (fun own_u kt => XS.iconst X5.here hx rfl (hb hby at_23) kt) ?_
  show Onw p e below _ (T5.setTop (mkF m 24 #[.val (.int p0), .val (.int p1), .val (.int p2), .val (.int p3), .val (.int p4), .val (.int p5), .val (.ref b), .unset, .unset, .unset] [(.int (2 : Int32)), (.ref b)]))
  refine Onw.go (fun own_u kt => XS.iloadN X5.here hx rfl (hb hby at_24) rfl kt) ?_
  show Onw p e below _ (T5.setTop (mkF m 25 #[.val (.int p0), .val (.int p1), .val (.int p2), .val (.int p3), .val (.int p4), .val (.int p5), .val (.ref b), .unset, .unset, .unset] [(.int p2), (.int (2 : Int32)), (.ref b)]))
  obtain ⟨_, _, ⟨T6, L6, k6, n6⟩, -, X6, ⟨Lc6, hQ6, l6, y6, z6⟩, st6⟩ := Jvm.LawKit.callS X5 hx (y := (⟨"com/example/faultline/faultline/xml/ElementReaderIsWhiteSpacePinLaw", "draw", "(I)C"⟩ : MethodName)) hown (mvT hZ (hw _ (List.mem_of_getElem? (i := 1) rfl))) (mvT hZ (hw _ (List.mem_of_getElem? (i := 2) rfl))) (mvT hZ (hw _ (List.mem_of_getElem? (i := 3) rfl))) (mvT hZ (hw _ (List.mem_of_getElem? (i := 4) rfl))) (by decide) (backOf (W := 2) (rm1 l Z a0 hw [] p2  h5 n0 ) hZ (hw _ (List.mem_of_getElem? (i := 4) rfl)) (hw _ (List.mem_of_getElem? (i := 3) rfl)) (by decide) (by decide)) (g := (mkF m 25 #[.val (.int p0), .val (.int p1), .val (.int p2), .val (.int p3), .val (.int p4), .val (.int p5), .val (.ref b), .unset, .unset, .unset] [(.int p2), (.int (2 : Int32)), (.ref b)])) rfl (by rw [hml]; rfl) (argsL := [(.int p2)]) (rest := [(.int (2 : Int32)), (.ref b)]) (lenOf pd_0 rfl) rfl (by show 2 * 0 + _ ≤ _; exact Nat.le_of_eq rfl) (hb hby at_25) (fun _ _ => ⟨rfl, e5, (by decide : 1 + 0 ≤ _), (by decide : 4 + 0 ≤ _)⟩)
  dsimp only [Pt.U, Pt.locs, Pt.cells, Pt.slots] at X6 l6 y6 z6 st6 hQ6
  subst l6 y6 z6
  obtain ⟨rfl, N6q, e6q⟩ := hQ6
  have N6 := Fr.app N5 N6q
  refine Onw.go st6 ?_
  show Onw p e below _ (T6.setTop (mkF m 28 #[.val (.int p0), .val (.int p1), .val (.int p2), .val (.int p3), .val (.int p4), .val (.int p5), .val (.ref b), .unset, .unset, .unset] [(.int (own_draw p2)), (.int (2 : Int32)), (.ref b)]))
  obtain ⟨cl7, Ar7, qa7, Sa7, Na7, Ha7, Ga7⟩ := V5
  have hin7 : ¬ ((2 : Int32) < 0 ∨ cl7.slots.size ≤ ((2 : Int32)).toNatClampNeg) := inb_of Sa7 ⟨by decide, by decide⟩
  obtain ⟨T7, h7, X7, e7, W7, st7⟩ := stC X6 hx hZ e6q Ar7 (j := (2 : Int32)) hin7 (g := (mkF m 28 #[.val (.int p0), .val (.int p1), .val (.int p2), .val (.int p3), .val (.int p4), .val (.int p5), .val (.ref b), .unset, .unset, .unset] [(.int (own_draw p2)), (.int (2 : Int32)), (.ref b)])) rfl rfl (hb hby at_28)
  have V7 := Arv.set Ar7 qa7 Sa7 Na7 Ha7 Ga7 (fits_nar_char _) W7 2 rfl (Nat.le_of_ble_eq_true rfl)
  have N7 := Fr.snoc X7 N6 g_b
  refine Onw.go st7 ?_
  show Onw p e below _ (T7.setTop (mkF m 29 #[.val (.int p0), .val (.int p1), .val (.int p2), .val (.int p3), .val (.int p4), .val (.int p5), .val (.ref b), .unset, .unset, .unset] []))
  refine Onw.go (fun own_u kt => XS.aload X7.here hx rfl (hb hby at_29) rfl rfl kt) ?_
  show Onw p e below _ (T7.setTop (mkF m 31 #[.val (.int p0), .val (.int p1), .val (.int p2), .val (.int p3), .val (.int p4), .val (.int p5), .val (.ref b), .unset, .unset, .unset] [(.ref b)]))
  refine Onw.go (fun own_u kt => XS.iconst X7.here hx rfl (hb hby at_31) kt) ?_
  show Onw p e below _ (T7.setTop (mkF m 32 #[.val (.int p0), .val (.int p1), .val (.int p2), .val (.int p3), .val (.int p4), .val (.int p5), .val (.ref b), .unset, .unset, .unset] [(.int (3 : Int32)), (.ref b)]))
  refine Onw.go (fun own_u kt => XS.iloadN X7.here hx rfl (hb hby at_32) rfl kt) ?_
  show Onw p e below _ (T7.setTop (mkF m 33 #[.val (.int p0), .val (.int p1), .val (.int p2), .val (.int p3), .val (.int p4), .val (.int p5), .val (.ref b), .unset, .unset, .unset] [(.int p3), (.int (3 : Int32)), (.ref b)]))
  obtain ⟨_, _, ⟨T8, L8, k8, n8⟩, -, X8, ⟨Lc8, hQ8, l8, y8, z8⟩, st8⟩ := Jvm.LawKit.callS X7 hx (y := (⟨"com/example/faultline/faultline/xml/ElementReaderIsWhiteSpacePinLaw", "draw", "(I)C"⟩ : MethodName)) hown (mvT hZ (hw _ (List.mem_of_getElem? (i := 1) rfl))) (mvT hZ (hw _ (List.mem_of_getElem? (i := 2) rfl))) (mvT hZ (hw _ (List.mem_of_getElem? (i := 3) rfl))) (mvT hZ (hw _ (List.mem_of_getElem? (i := 4) rfl))) (by decide) (backOf (W := 2) (rm1 l Z a0 hw [] p3  h7 n0 ) hZ (hw _ (List.mem_of_getElem? (i := 4) rfl)) (hw _ (List.mem_of_getElem? (i := 3) rfl)) (by decide) (by decide)) (g := (mkF m 33 #[.val (.int p0), .val (.int p1), .val (.int p2), .val (.int p3), .val (.int p4), .val (.int p5), .val (.ref b), .unset, .unset, .unset] [(.int p3), (.int (3 : Int32)), (.ref b)])) rfl (by rw [hml]; rfl) (argsL := [(.int p3)]) (rest := [(.int (3 : Int32)), (.ref b)]) (lenOf pd_0 rfl) rfl (by show 2 * 0 + _ ≤ _; exact Nat.le_of_eq rfl) (hb hby at_33) (fun _ _ => ⟨rfl, e7, (by decide : 1 + 0 ≤ _), (by decide : 4 + 0 ≤ _)⟩)
  dsimp only [Pt.U, Pt.locs, Pt.cells, Pt.slots] at X8 l8 y8 z8 st8 hQ8
  subst l8 y8 z8
  obtain ⟨rfl, N8q, e8q⟩ := hQ8
  have N8 := Fr.app N7 N8q
  refine Onw.go st8 ?_
  show Onw p e below _ (T8.setTop (mkF m 36 #[.val (.int p0), .val (.int p1), .val (.int p2), .val (.int p3), .val (.int p4), .val (.int p5), .val (.ref b), .unset, .unset, .unset] [(.int (own_draw p3)), (.int (3 : Int32)), (.ref b)]))
  obtain ⟨cl9, Ar9, qa9, Sa9, Na9, Ha9, Ga9⟩ := V7
  have hin9 : ¬ ((3 : Int32) < 0 ∨ cl9.slots.size ≤ ((3 : Int32)).toNatClampNeg) := inb_of Sa9 ⟨by decide, by decide⟩
  obtain ⟨T9, h9, X9, e9, W9, st9⟩ := stC X8 hx hZ e8q Ar9 (j := (3 : Int32)) hin9 (g := (mkF m 36 #[.val (.int p0), .val (.int p1), .val (.int p2), .val (.int p3), .val (.int p4), .val (.int p5), .val (.ref b), .unset, .unset, .unset] [(.int (own_draw p3)), (.int (3 : Int32)), (.ref b)])) rfl rfl (hb hby at_36)
  have V9 := Arv.set Ar9 qa9 Sa9 Na9 Ha9 Ga9 (fits_nar_char _) W9 3 rfl (Nat.le_of_ble_eq_true rfl)
  have N9 := Fr.snoc X9 N8 g_b
  refine Onw.go st9 ?_
  show Onw p e below _ (T9.setTop (mkF m 37 #[.val (.int p0), .val (.int p1), .val (.int p2), .val (.int p3), .val (.int p4), .val (.int p5), .val (.ref b), .unset, .unset, .unset] []))
  generalize nar .char (own_draw p0) = c0 at V9
  generalize nar .char (own_draw p1) = c1 at V9
  generalize nar .char (own_draw p2) = c2 at V9
  generalize nar .char (own_draw p3) = c3 at V9
  refine Onw.go (fun own_u kt => XS.iload X9.here hx rfl (hb hby at_37) rfl kt) ?_
  show Onw p e below _ (T9.setTop (mkF m 39 #[.val (.int p0), .val (.int p1), .val (.int p2), .val (.int p3), .val (.int p4), .val (.int p5), .val (.ref b), .unset, .unset, .unset] [(.int p4)]))
  refine Onw.go (X9.ldcInt hx hown (mvT hZ (hw _ (List.mem_of_getElem? (i := 5) rfl))) (g := (mkF m 39 #[.val (.int p0), .val (.int p1), .val (.int p2), .val (.int p3), .val (.int p4), .val (.int p5), .val (.ref b), .unset, .unset, .unset] [(.int p4)])) rfl (hb hby at_39)) ?_
  show Onw p e below _ (T9.setTop (mkF m 41 #[.val (.int p0), .val (.int p1), .val (.int p2), .val (.int p3), .val (.int p4), .val (.int p5), .val (.ref b), .unset, .unset, .unset] [(.int (2147483647 : Int32)), (.int p4)]))
  refine Onw.go (fun own_u kt => XS.iand X9.here hx rfl (hb hby at_41) rfl kt) ?_
  show Onw p e below _ (T9.setTop (mkF m 42 #[.val (.int p0), .val (.int p1), .val (.int p2), .val (.int p3), .val (.int p4), .val (.int p5), .val (.ref b), .unset, .unset, .unset] [(.int (p4 &&& (2147483647 : Int32)))]))
  refine Onw.go (fun own_u kt => XS.iconst X9.here hx rfl (hb hby at_42) kt) ?_
  show Onw p e below _ (T9.setTop (mkF m 43 #[.val (.int p0), .val (.int p1), .val (.int p2), .val (.int p3), .val (.int p4), .val (.int p5), .val (.ref b), .unset, .unset, .unset] [(.int (5 : Int32)), (.int (p4 &&& (2147483647 : Int32)))]))
  refine Onw.go (fun own_u kt => iremM X9 hx rfl (hb hby at_43) rfl (by decide) kt) ?_
  show Onw p e below _ (T9.setTop (mkF m 44 #[.val (.int p0), .val (.int p1), .val (.int p2), .val (.int p3), .val (.int p4), .val (.int p5), .val (.ref b), .unset, .unset, .unset] [(.int ((p4 &&& (2147483647 : Int32)) % (5 : Int32)))]))
  obtain ⟨st, hst⟩ : ∃ own_z, own_z = ((p4 &&& (2147483647 : Int32)) % (5 : Int32)) := ⟨_, rfl⟩
  rw [← hst]
  show Onw p e below _ (T9.setTop (mkF m 44 #[.val (.int p0), .val (.int p1), .val (.int p2), .val (.int p3), .val (.int p4), .val (.int p5), .val (.ref b), .unset, .unset, .unset] [(.int st)]))
  refine Onw.go (fun own_u kt => XS.istore X9.here hx rfl (hb hby at_44) rfl (l' := #[.val (.int p0), .val (.int p1), .val (.int p2), .val (.int p3), .val (.int p4), .val (.int p5), .val (.ref b), .val (.int st), .unset, .unset]) rfl kt) ?_
  show Onw p e below _ (T9.setTop (mkF m 46 #[.val (.int p0), .val (.int p1), .val (.int p2), .val (.int p3), .val (.int p4), .val (.int p5), .val (.ref b), .val (.int st), .unset, .unset] []))
  refine Onw.go (fun own_u kt => XS.iload X9.here hx rfl (hb hby at_46) rfl kt) ?_
  show Onw p e below _ (T9.setTop (mkF m 48 #[.val (.int p0), .val (.int p1), .val (.int p2), .val (.int p3), .val (.int p4), .val (.int p5), .val (.ref b), .val (.int st), .unset, .unset] [(.int p5)]))
  refine Onw.go (X9.ldcInt hx hown (mvT hZ (hw _ (List.mem_of_getElem? (i := 5) rfl))) (g := (mkF m 48 #[.val (.int p0), .val (.int p1), .val (.int p2), .val (.int p3), .val (.int p4), .val (.int p5), .val (.ref b), .val (.int st), .unset, .unset] [(.int p5)])) rfl (hb hby at_48)) ?_
  show Onw p e below _ (T9.setTop (mkF m 50 #[.val (.int p0), .val (.int p1), .val (.int p2), .val (.int p3), .val (.int p4), .val (.int p5), .val (.ref b), .val (.int st), .unset, .unset] [(.int (2147483647 : Int32)), (.int p5)]))
  refine Onw.go (fun own_u kt => XS.iand X9.here hx rfl (hb hby at_50) rfl kt) ?_
  show Onw p e below _ (T9.setTop (mkF m 51 #[.val (.int p0), .val (.int p1), .val (.int p2), .val (.int p3), .val (.int p4), .val (.int p5), .val (.ref b), .val (.int st), .unset, .unset] [(.int (p5 &&& (2147483647 : Int32)))]))
  refine Onw.go (fun own_u kt => XS.iconst X9.here hx rfl (hb hby at_51) kt) ?_
  show Onw p e below _ (T9.setTop (mkF m 52 #[.val (.int p0), .val (.int p1), .val (.int p2), .val (.int p3), .val (.int p4), .val (.int p5), .val (.ref b), .val (.int st), .unset, .unset] [(.int (5 : Int32)), (.int (p5 &&& (2147483647 : Int32)))]))
  refine Onw.go (fun own_u kt => XS.iload X9.here hx rfl (hb hby at_52) rfl kt) ?_
  show Onw p e below _ (T9.setTop (mkF m 54 #[.val (.int p0), .val (.int p1), .val (.int p2), .val (.int p3), .val (.int p4), .val (.int p5), .val (.ref b), .val (.int st), .unset, .unset] [(.int st), (.int (5 : Int32)), (.int (p5 &&& (2147483647 : Int32)))]))
  refine Onw.go (fun own_u kt => XS.isub X9.here hx rfl (hb hby at_54) rfl kt) ?_
  show Onw p e below _ (T9.setTop (mkF m 55 #[.val (.int p0), .val (.int p1), .val (.int p2), .val (.int p3), .val (.int p4), .val (.int p5), .val (.ref b), .val (.int st), .unset, .unset] [(.int ((5 : Int32) - st)), (.int (p5 &&& (2147483647 : Int32)))]))
  have h5 := own_st _ _ hst
  refine Onw.go (fun own_u kt => iremM X9 hx rfl (hb hby at_55) rfl (own_nz h5) kt) ?_
  show Onw p e below _ (T9.setTop (mkF m 56 #[.val (.int p0), .val (.int p1), .val (.int p2), .val (.int p3), .val (.int p4), .val (.int p5), .val (.ref b), .val (.int st), .unset, .unset] [(.int ((p5 &&& (2147483647 : Int32)) % ((5 : Int32) - st)))]))
  obtain ⟨ln, hln⟩ : ∃ own_z, own_z = ((p5 &&& (2147483647 : Int32)) % ((5 : Int32) - st)) := ⟨_, rfl⟩
  rw [← hln]
  show Onw p e below _ (T9.setTop (mkF m 56 #[.val (.int p0), .val (.int p1), .val (.int p2), .val (.int p3), .val (.int p4), .val (.int p5), .val (.ref b), .val (.int st), .unset, .unset] [(.int ln)]))
  refine Onw.go (fun own_u kt => XS.istore X9.here hx rfl (hb hby at_56) rfl (l' := #[.val (.int p0), .val (.int p1), .val (.int p2), .val (.int p3), .val (.int p4), .val (.int p5), .val (.ref b), .val (.int st), .val (.int ln), .unset]) rfl kt) ?_
  show Onw p e below _ (T9.setTop (mkF m 58 #[.val (.int p0), .val (.int p1), .val (.int p2), .val (.int p3), .val (.int p4), .val (.int p5), .val (.ref b), .val (.int st), .val (.int ln), .unset] []))
  have hr := own_ln _ _ _ h5 hln
  refine expects hx hZ hw hby hml hown p0 p1 p2 p3 p4 p5 st ln b _ c0 c1 c2 c3 X9 e9 N9 V9 (fun T' locs' X' e' N' => ?_)
  show Onw p e below _ (T'.setTop (mkF m 147 #[.val (.int p0), .val (.int p1), .val (.int p2), .val (.int p3), .val (.int p4), .val (.int p5), .val (.ref b), .val (.int st), .val (.int ln), .unset] [(.int (own_exp c0 c1 c2 c3 st ln))]))
  refine Onw.go (fun own_u kt => XS.istore X'.here hx rfl (hb hby at_147) rfl (l' := #[.val (.int p0), .val (.int p1), .val (.int p2), .val (.int p3), .val (.int p4), .val (.int p5), .val (.ref b), .val (.int st), .val (.int ln), .val (.int (own_exp c0 c1 c2 c3 st ln))]) rfl kt) ?_
  show Onw p e below _ (T'.setTop (mkF m 149 #[.val (.int p0), .val (.int p1), .val (.int p2), .val (.int p3), .val (.int p4), .val (.int p5), .val (.ref b), .val (.int st), .val (.int ln), .val (.int (own_exp c0 c1 c2 c3 st ln))] []))
  refine Onw.go (fun own_u kt => XS.aload X'.here hx rfl (hb hby at_149) rfl rfl kt) ?_
  show Onw p e below _ (T'.setTop (mkF m 151 #[.val (.int p0), .val (.int p1), .val (.int p2), .val (.int p3), .val (.int p4), .val (.int p5), .val (.ref b), .val (.int st), .val (.int ln), .val (.int (own_exp c0 c1 c2 c3 st ln))] [(.ref b)]))
  refine Onw.go (fun own_u kt => XS.iload X'.here hx rfl (hb hby at_151) rfl kt) ?_
  show Onw p e below _ (T'.setTop (mkF m 153 #[.val (.int p0), .val (.int p1), .val (.int p2), .val (.int p3), .val (.int p4), .val (.int p5), .val (.ref b), .val (.int st), .val (.int ln), .val (.int (own_exp c0 c1 c2 c3 st ln))] [(.int st), (.ref b)]))
  refine Onw.go (fun own_u kt => XS.iload X'.here hx rfl (hb hby at_153) rfl kt) ?_
  show Onw p e below _ (T'.setTop (mkF m 155 #[.val (.int p0), .val (.int p1), .val (.int p2), .val (.int p3), .val (.int p4), .val (.int p5), .val (.ref b), .val (.int st), .val (.int ln), .val (.int (own_exp c0 c1 c2 c3 st ln))] [(.int ln), (.int st), (.ref b)]))
  obtain ⟨_, _, ⟨T10, L10, k10, n10⟩, -, X10, ⟨Lc10, hQ10, l10, y10, z10⟩, st10⟩ := Jvm.LawKit.callS X' hx (y := (⟨"com/example/faultline/faultline/xml/ElementReader", "isWhiteSpace", "([CII)Z"⟩ : MethodName)) hown (mvT hZ (hw _ (List.mem_of_getElem? (i := 12) rfl))) (mvT hZ (hw _ (List.mem_of_getElem? (i := 13) rfl))) (mvT hZ (hw _ (List.mem_of_getElem? (i := 14) rfl))) (mvT hZ (hw _ (List.mem_of_getElem? (i := 15) rfl))) (by decide) (backOf (W := 0) (rm4 l Z a0 hw [] b st ln _ c0 c1 c2 c3 h9 n0 V9 hr) hZ (hw _ (List.mem_of_getElem? (i := 15) rfl)) (hw _ (List.mem_of_getElem? (i := 14) rfl)) (by decide) (by decide)) (g := (mkF m 155 #[.val (.int p0), .val (.int p1), .val (.int p2), .val (.int p3), .val (.int p4), .val (.int p5), .val (.ref b), .val (.int st), .val (.int ln), .val (.int (own_exp c0 c1 c2 c3 st ln))] [(.int ln), (.int st), (.ref b)])) rfl (by rw [hml]; rfl) (argsL := [(.ref b), (.int st), (.int ln)]) (rest := []) (lenOf pd_3 rfl) rfl (by show 2 * 0 + _ ≤ _; exact Nat.le_of_eq rfl) (hb hby at_155) (fun _ _ => ⟨rfl, e', (by decide : 1 + 0 ≤ _), (by decide : 4 + 0 ≤ _)⟩)
  dsimp only [Pt.U, Pt.locs, Pt.cells, Pt.slots] at X10 l10 y10 z10 st10 hQ10
  subst l10 y10 z10
  obtain ⟨rfl, N10q, e10q⟩ := hQ10
  have N10 := Fr.app N' N10q
  refine Onw.go st10 ?_
  show Onw p e below _ (T10.setTop (mkF m 158 #[.val (.int p0), .val (.int p1), .val (.int p2), .val (.int p3), .val (.int p4), .val (.int p5), .val (.ref b), .val (.int st), .val (.int ln), .val (.int (own_exp c0 c1 c2 c3 st ln))] [(.int (own_run (own_el c0 c1 c2 c3) (st + ln - st).toNatClampNeg st 1))]))
  rw [(own_same c0 c1 c2 c3 st ln hr : (own_run (own_el c0 c1 c2 c3) (st + ln - st).toNatClampNeg st 1) = (own_exp c0 c1 c2 c3 st ln))]
  show Onw p e below _ (T10.setTop (mkF m 158 #[.val (.int p0), .val (.int p1), .val (.int p2), .val (.int p3), .val (.int p4), .val (.int p5), .val (.ref b), .val (.int st), .val (.int ln), .val (.int (own_exp c0 c1 c2 c3 st ln))] [(.int (own_exp c0 c1 c2 c3 st ln))]))
  refine Onw.go (fun own_u kt => XS.iload X10.here hx rfl (hb hby at_158) rfl kt) ?_
  show Onw p e below _ (T10.setTop (mkF m 160 #[.val (.int p0), .val (.int p1), .val (.int p2), .val (.int p3), .val (.int p4), .val (.int p5), .val (.ref b), .val (.int st), .val (.int ln), .val (.int (own_exp c0 c1 c2 c3 st ln))] [(.int (own_exp c0 c1 c2 c3 st ln)), (.int (own_exp c0 c1 c2 c3 st ln))]))
  refine Onw.go (fun own_u kt => XS.icmpNo X10.here hx rfl (hb hby at_160) rfl (teq (rfl : (own_exp c0 c1 c2 c3 st ln) = (own_exp c0 c1 c2 c3 st ln))).2 kt) ?_
  show Onw p e below _ (T10.setTop (mkF m 163 #[.val (.int p0), .val (.int p1), .val (.int p2), .val (.int p3), .val (.int p4), .val (.int p5), .val (.ref b), .val (.int st), .val (.int ln), .val (.int (own_exp c0 c1 c2 c3 st ln))] []))
  refine Onw.go (fun own_u kt => XS.iconst X10.here hx rfl (hb hby at_163) kt) ?_
  show Onw p e below _ (T10.setTop (mkF m 164 #[.val (.int p0), .val (.int p1), .val (.int p2), .val (.int p3), .val (.int p4), .val (.int p5), .val (.ref b), .val (.int st), .val (.int ln), .val (.int (own_exp c0 c1 c2 c3 st ln))] [(.int (1 : Int32))]))
  refine Onw.go (fun own_u kt => XS.goto X10.here hx rfl (pc0 := 164) (pc' := 168) rfl (hb hby at_164) (by decide) (by decide) kt) ?_
  show Onw p e below _ (T10.setTop (mkF m 168 #[.val (.int p0), .val (.int p1), .val (.int p2), .val (.int p3), .val (.int p4), .val (.int p5), .val (.ref b), .val (.int st), .val (.int ln), .val (.int (own_exp c0 c1 c2 c3 st ln))] [(.int (1 : Int32))]))
  exact Onw.ret X10 Bd.notSynchronized (fun h => by rw [Bd.returns] at h; cases h) (fun fs hr => retN X10 hx (t := .boolean) Bd.returns (by simp) (hb hby at_168) hr) ⟨rfl, N10⟩ (by decide) (by decide)
set_option maxRecDepth 65536 in
set_option maxHeartbeats 40000000 in
theorem comes_1 {Post : Tables → Env → Array Value → State → Outcome → State → Prop} (hpost : ∀ tb e args s v u, (limb_1_1.after args s (.returned v) u = true ∧ limb_1_2.after args s (.returned v) u = true ∧ True) → FrameEnd s (.returned v) u (Jvm.fieldLocs frame_1_writes args s ++ Jvm.arrayLocs frame_1_arrays args s ++ Jvm.staticLocs frame_1_statics s) 16 128 → Post tb e args s (.returned v) u) :
    ArmFor flags0 classFile x code maxLocals ret World_1 tables_1 room_1 Calls_1 rest_1 Pre_1 Post := by
  intro l hfl _ _ p e ha hc hk s m args below hf hA hF happ hP
  obtain ⟨hcalls, hrest, hpre⟩ := hP
  obtain ⟨-, -, -, hnamed, -, -, -, hat⟩ := (Spec.applies_iff hf).mp happ
  obtain ⟨hg, hn⟩ := and_e (Cond.before_iff.mp (show (Jvm.Cond.and given_1 narrow_1).before args s = true from hpre))
  obtain ⟨g1, g2⟩ := and_e hg
  obtain ⟨g3, g4⟩ := and_e g2
  obtain ⟨g5, g6⟩ := and_e g4
  obtain ⟨g7, g8⟩ := and_e g6
  obtain ⟨g9, g10⟩ := and_e g8
  obtain ⟨g11, g12⟩ := and_e g10
  obtain ⟨w0, w1, w2, w3, w4, w5, rfl⟩ : ∃ w0 w1 w2 w3 w4 w5 : Value, args = #[w0, w1, w2, w3, w4, w5] := by
    have hs : args.size = 6 := by simpa [Cond.value, given_1] using g1
    obtain ⟨L⟩ := args
    match L, hs with
    | [w0, w1, w2, w3, w4, w5], _ => exact ⟨w0, w1, w2, w3, w4, w5, rfl⟩
  have hw := fun d (hd : d ∈ tables_1) => atoms_spec (ws := Jvm.Cond.code x code maxLocals ret :: tables_1) hat d (List.mem_cons_of_mem _ hd)
  have hfit : Fit s := fun {y c} hc i hi => by
    obtain ⟨ha, rfl⟩ := Array.getElem?_eq_some_iff.mp hc
    have q := List.all_eq_true.mp ((Array.all_eq_true_iff_forall_mem.mp hF) _ (Array.getElem_mem ha)) i (List.mem_range.mpr hi)
    simpa [Array.getElem?_eq_getElem hi] using q
  obtain ⟨i0, ei0⟩ := is_v g3
  obtain rfl : w0 = (.int i0) := Option.some.inj ei0
  obtain ⟨i1, ei1⟩ := is_v g5
  obtain rfl : w1 = (.int i1) := Option.some.inj ei1
  obtain ⟨i2, ei2⟩ := is_v g7
  obtain rfl : w2 = (.int i2) := Option.some.inj ei2
  obtain ⟨i3, ei3⟩ := is_v g9
  obtain rfl : w3 = (.int i3) := Option.some.inj ei3
  obtain ⟨i4, ei4⟩ := is_v g11
  obtain rfl : w4 = (.int i4) := Option.some.inj ei4
  obtain ⟨i5, ei5⟩ := is_v g12
  obtain rfl : w5 = (.int i5) := Option.some.inj ei5
  obtain ⟨n, o, h1, h2, h3, _, L, rfl, ⟨rfl, N⟩, hq⟩ := rm0 l s _ hw tables_1 i0 i1 i2 i3 i4 i5  s.heap s.heap.size (Nat.le_refl _) p e ha hc hk s m _ below hf ((Spec.applies_iff_loose hf).mp happ).1 ⟨rfl, State.Warmed39.refl s, rfl⟩ trivial
  refine ⟨n, _, h1, h2, h3, hpost _ _ _ _ _ _ ⟨Cond.after_iff.mpr rfl, Cond.after_iff.mpr (eq_i res_at (Term.int_eval (1)) rfl), trivial⟩ ⟨hq.1, hq.2.1, (hq.2.2.sift fun y hy => Or.inr (N y hy)).mono (by decide) (by decide)⟩⟩
theorem main_1_1 : Claimed_1_1 := comes_1 fun _ _ _ _ _ _ h hF => ⟨h.1, hF⟩
theorem main_1_2 : Claimed_1_2 := comes_1 fun _ _ _ _ _ _ h hF => ⟨h.2.1, hF⟩
end Jvm.Pilot.@@N@@
namespace Jvm.Pilot.@@N@@
open Jvm Jvm.ClassFile Sem Op Lib Jvm.Free Jvm.Stand Jvm.Pilot.@@N@@.Jvm.D
/-! MADE BY PROGRAM (witnessworld.py) out of the Statement's table words and the real class files: 11 classes; the members and pool entries that the words name. The judged class is class 1, her method 1. -/
namespace start1
open Jvm.ClassFile
def u (s : String) : CpInfo := .utf8 (stringToUtf16 s)
/-- a pool by its gaps: so many unusable entries, then the entry; so many at the end -/
def gap : Nat → List CpInfo → List CpInfo
  | 0, r => r
  | n + 1, r => .unusable :: gap n r
def poolList (es : List (Nat × CpInfo)) (last : Nat) : List CpInfo := es.foldr (fun e r => gap e.1 (e.2 :: r)) (gap last [])
def pool (es : List (Nat × CpInfo)) (last : Nat) : Array CpInfo := ⟨poolList es last⟩
def fileOf (pool : Array CpInfo) (this : Nat) (attrs : Array Attribute := #[]) (ms : Array MethodInfo := #[]) (fl : Nat := 33) (sup : Nat := 0) (ifs : Array Nat := #[]) (fds : Array FieldInfo := #[]) : ClassFile where
  minorVersion := 0
  majorVersion := 65
  constantPool := pool
  accessFlags := fl
  thisClass := this
  superClass := sup
  interfaces := ifs
  fields := fds
  methods := ms
  attributes := attrs
def plain (name : String) (sup : Option ClassId) : Class where
  name := name
  kind := .ordinary
  loader := none
  accessFlags := 33
  super := sup
  interfaces := #[]
  cf := none
  fields := #[]
  methods := #[]
  instanceTypes := #[]
  staticTypes := #[]
  resolved := #[]
  callSites := []
  init := .initialized
  statics := none
  mirror := none

def pool0 : Array CpInfo := pool [(5, u "<init>"), (0, u "()V"), (1, .class_ 10), (1, u "java/lang/Object")] 113

def k0m0 : Method := { name := "<init>", desc := "()V", sig := { parameters := [], returnType := none }, accessFlags := 1, code := none }
/-- java/lang/Object -/
def k0 : Class := { plain "java/lang/Object" none with
  accessFlags := 33
  interfaces := #[]
  cf := some (fileOf pool0 8 #[] #[{ accessFlags := 1, nameIndex := 5, descriptorIndex := 6, attributes := #[] }] 33 0 #[] #[])
  fields := #[]
  methods := #[k0m0]
  instanceTypes := #[]
  staticTypes := #[]
  resolved := Array.replicate 124 none
  statics := none }

def pool1 : Array CpInfo := pool [(2, .class_ 4), (1, u "java/lang/Object"), (0, u "<init>"), (0, u "()V"), (0, .methodref 8 9), (0, .class_ 10), (0, .nameAndType 11 12), (0, u "com/example/faultline/faultline/xml/ElementReaderIsWhiteSpacePinLaw"), (0, u "draw"), (0, u "(I)C"), (0, .integer 2147483647), (0, .methodref 8 15), (0, .nameAndType 16 17), (0, u "covers"), (0, u "(III)Z"), (0, .methodref 8 19), (0, .nameAndType 20 21), (0, u "isSpace"), (0, u "(C)Z"), (0, .interfaceMethodref 23 24), (0, .class_ 25), (0, .nameAndType 26 27), (0, u "com/example/faultline/faultline/xml/ElementReader"), (0, u "isWhiteSpace"), (0, u "([CII)Z"), (2, u "law"), (0, u "(IIIIII)Z")] 5

def k1m0 : Method := { name := "<init>", desc := "()V", sig := { parameters := [], returnType := none }, accessFlags := 1, code := none }
def k1c1 : Code := { maxStack := 3, maxLocals := 10, code := code, exceptionTable := #[], attributes := #[] }
def k1m1 : Method := { name := "law", desc := "(IIIIII)Z", sig := { parameters := [.int, .int, .int, .int, .int, .int], returnType := some .boolean }, accessFlags := 9, code := some k1c1 }
def k1c2 : Code := { maxStack := 3, maxLocals := 3, code := method_3_code, exceptionTable := #[], attributes := #[] }
def k1m2 : Method := { name := "covers", desc := "(III)Z", sig := { parameters := [.int, .int, .int], returnType := some .boolean }, accessFlags := 10, code := some k1c2 }
def k1c3 : Code := { maxStack := 2, maxLocals := 1, code := method_4_code, exceptionTable := #[], attributes := #[] }
def k1m3 : Method := { name := "isSpace", desc := "(C)Z", sig := { parameters := [.char], returnType := some .boolean }, accessFlags := 10, code := some k1c3 }
def k1c4 : Code := { maxStack := 2, maxLocals := 2, code := method_5_code, exceptionTable := #[], attributes := #[] }
def k1m4 : Method := { name := "draw", desc := "(I)C", sig := { parameters := [.int], returnType := some .char }, accessFlags := 10, code := some k1c4 }
/-- com/example/faultline/faultline/xml/ElementReaderIsWhiteSpacePinLaw -/
def k1 : Class := { plain "com/example/faultline/faultline/xml/ElementReaderIsWhiteSpacePinLaw" (some 0) with
  accessFlags := 49
  interfaces := #[]
  cf := some (fileOf pool1 8 #[] #[{ accessFlags := 1, nameIndex := 5, descriptorIndex := 6, attributes := #[] }, { accessFlags := 9, nameIndex := 30, descriptorIndex := 31, attributes := #[] }, { accessFlags := 10, nameIndex := 16, descriptorIndex := 17, attributes := #[] }, { accessFlags := 10, nameIndex := 20, descriptorIndex := 21, attributes := #[] }, { accessFlags := 10, nameIndex := 11, descriptorIndex := 12, attributes := #[] }] 49 2 #[] #[])
  fields := #[]
  methods := #[k1m0, k1m1, k1m2, k1m3, k1m4]
  instanceTypes := #[]
  staticTypes := #[]
  resolved := Array.replicate 37 none
  statics := none }

def pool2 : Array CpInfo := pool [(6, .class_ 8), (1, u "com/example/faultline/faultline/xml/ElementReader"), (1, .class_ 11), (0, u "java/lang/Object"), (16, u "isWhiteSpace"), (0, u "([CII)Z"), (8, .class_ 39), (0, u "com/example/faultline/faultline/xml/ElementReader$Then")] 19

def k2c0 : Code := { maxStack := 3, maxLocals := 6, code := prog_72_method_6_code, exceptionTable := #[], attributes := #[] }
def k2m0 : Method := { name := "isWhiteSpace", desc := "([CII)Z", sig := { parameters := [(.array .char), .int, .int], returnType := some .boolean }, accessFlags := 9, code := some k2c0 }
/-- com/example/faultline/faultline/xml/ElementReader -/
def k2 : Class := { plain "com/example/faultline/faultline/xml/ElementReader" (some 0) with
  accessFlags := 1537
  interfaces := #[]
  cf := some (fileOf pool2 6 #[.nestMembers #[38]] #[{ accessFlags := 9, nameIndex := 28, descriptorIndex := 29, attributes := #[] }] 1537 10 #[] #[])
  fields := #[]
  methods := #[k2m0]
  instanceTypes := #[]
  staticTypes := #[]
  resolved := Array.replicate 59 none
  statics := none }

def pool3 : Array CpInfo := pool [(1, u "java/lang/Cloneable"), (0, .class_ 1), (0, u "java/lang/Object"), (0, .class_ 3)] 3

/-- java/lang/Cloneable -/
def k3 : Class := { plain "java/lang/Cloneable" (some 0) with
  accessFlags := 1537
  interfaces := #[]
  cf := some (fileOf pool3 2 #[] #[] 1537 4 #[] #[])
  fields := #[]
  methods := #[]
  instanceTypes := #[]
  staticTypes := #[]
  resolved := Array.replicate 8 none
  statics := none }

def pool4 : Array CpInfo := pool [(1, u "java/io/Serializable"), (0, .class_ 1), (0, u "java/lang/Object"), (0, .class_ 3)] 3

/-- java/io/Serializable -/
def k4 : Class := { plain "java/io/Serializable" (some 0) with
  accessFlags := 1537
  interfaces := #[]
  cf := some (fileOf pool4 2 #[] #[] 1537 4 #[] #[])
  fields := #[]
  methods := #[]
  instanceTypes := #[]
  staticTypes := #[]
  resolved := Array.replicate 8 none
  statics := none }

/-- the primitive byte -/
def k5 : Class := { plain "byte" none with kind := .primitive 'B', accessFlags := 0x411 }
/-- [B -/
def k6 : Class := { plain "[B" (some 0) with kind := .array 5 .byte, interfaces := #[3, 4], accessFlags := 1041 }

/-- the primitive char -/
def k7 : Class := { plain "char" none with kind := .primitive 'C', accessFlags := 0x411 }
/-- [C -/
def k8 : Class := { plain "[C" (some 0) with kind := .array 7 .char, interfaces := #[3, 4], accessFlags := 1041 }

/-- the primitive int -/
def k9 : Class := { plain "int" none with kind := .primitive 'I', accessFlags := 0x411 }
/-- [I -/
def k10 : Class := { plain "[I" (some 0) with kind := .array 9 .int, interfaces := #[3, 4], accessFlags := 1041 }

def heap : Heap := #[]
def classes : Array Class := #[k0, k1, k2, k3, k4, k5, k6, k7, k8, k9, k10]
def interned : List (Array UInt16 × Addr) := []
def slotsUsed : Nat := 0
def theMethod : MethodId := ⟨1, 1⟩
def args0 : Array Value := #[.int 5, .int 7, .int 1, .int 2, .int 1, .int 1]
def aboutOver (below : List Frame) : State where
  vm := { classes := classes, interned := interned.toArray }
  heap := heap
  slotsUsed := slotsUsed
  threads := #[{ frames := .invoking theMethod args0 :: below }]
def below0 : List Frame := [.native { method := ⟨0, 0⟩, args := #[] }]
def about1 : State := aboutOver below0
def p0 : Program := .bare "" "" ""
def e0 : Env := launch0.env 0 0 0
theorem w_frames : about1.frames = Frame.invoking theMethod args0 :: below0 := rfl
set_option maxRecDepth 65536 in
theorem w_args : argsFit about1.vm theMethod args0 = true := by decide +kernel
set_option maxRecDepth 65536 in
theorem w_heap : heapFits about1 = true := by decide +kernel
set_option maxRecDepth 65536 in
theorem w_runnable : about1.curStatus? = some .runnable := by decide +kernel
set_option maxRecDepth 65536 in
theorem w_alone : about1.alone = true := by decide +kernel
set_option maxRecDepth 65536 in
theorem w_named : about1.methodNamed? x = some theMethod := by decide +kernel
set_option maxRecDepth 65536 in
theorem w_hears : about1.hears theMethod below0 = true := by decide +kernel
set_option maxRecDepth 65536 in
theorem w_ripe : about1.ripe theMethod args0 below0 = true := by decide +kernel
theorem w_running : about1.status = .running := rfl
set_option maxRecDepth 65536 in
theorem w_room : about1.hasRoom e0.platform room_1 = true :=
  launch0.hasRoom_least _ room_1 (by decide +kernel) (by decide +kernel) (by decide +kernel) (by decide +kernel) (by decide +kernel) (by decide +kernel)
theorem allAtoms_all (ts : List Jvm.Cond) (a : Array Jvm.Value) (st : Jvm.State) : (allAtoms ts).before a st = ts.all (fun c => c.before a st) := by
  induction ts with
  | nil => rfl
  | cons c t ih =>
    show (Jvm.Cond.and c (allAtoms t)).before a st = _
    rw [Jvm.Cond.before_and, ih, List.all_cons]
def words1 : List Jvm.Cond := Jvm.Cond.code x code maxLocals ret :: tables_1
/-- a 'code' word, met by the world's own term for the bytes: nothing is compared byte by byte -/
theorem code_word {y : MethodName} {bytes : ByteArray} {mx : Nat} {rt : Option FieldType} {a : Array Value} {s : State} {m : MethodId} {meth : Method} {c : Code} (h1 : s.methodNamed? y = some m) (h2 : s.vm.method? m = some meth) (h3 : meth.code = some c) (h4 : c.code = bytes)
    (h5 : (c.maxLocals == mx && c.exceptionTable.isEmpty && decide (c.maxStack ≤ mostOperands) && decide (meth.sig.returnType = rt) && !meth.locks && decide (parseMethodDescriptor y.desc = some meth.sig)) = true) : (Jvm.Cond.code y bytes mx rt).before a s = true := by
  simp only [Bool.and_eq_true, beq_iff_eq, Bool.not_eq_true', decide_eq_true_eq] at h5
  obtain ⟨⟨⟨⟨⟨g1, g2⟩, g3⟩, g4⟩, g5⟩, g6⟩ := h5
  simp [Cond.before, Cond.holds, Cond.value, h1, h2, h3, h4, g1, g2, g3, g4, g5, g6]
def isCode : Jvm.Cond → Bool
  | .code _ _ _ _ => true
  | _ => false
theorem all_split {L : List Jvm.Cond} {P : Jvm.Cond → Bool} (h1 : L.all (fun c => isCode c || P c) = true) (h2 : ∀ c ∈ L.filter isCode, P c = true) : L.all P = true := by
  refine List.all_eq_true.mpr fun c hc => ?_
  have h := List.all_eq_true.mp h1 c hc
  rcases Bool.eq_false_or_eq_true (isCode c) with hi | hi
  · exact h2 c (List.mem_filter.mpr ⟨hc, hi⟩)
  · simpa [hi] using h
set_option maxRecDepth 65536 in
theorem w_c0 : (Jvm.Cond.code x code maxLocals ret).before args0 about1 = true := code_word (m := ⟨1, 1⟩) (meth := k1m1) (c := k1c1) (by decide +kernel) rfl rfl rfl (by decide +kernel)
set_option maxRecDepth 65536 in
theorem w_c1 : (Jvm.Cond.code ({ cls := "com/example/faultline/faultline/xml/ElementReaderIsWhiteSpacePinLaw", name := "draw", desc := "(I)C" } : Jvm.MethodName) method_5_code (2 : Nat) (Option.some Jvm.ClassFile.FieldType.char)).before args0 about1 = true := code_word (m := ⟨1, 4⟩) (meth := k1m4) (c := k1c4) (by decide +kernel) rfl rfl rfl (by decide +kernel)
set_option maxRecDepth 65536 in
theorem w_c2 : (Jvm.Cond.code ({ cls := "com/example/faultline/faultline/xml/ElementReaderIsWhiteSpacePinLaw", name := "covers", desc := "(III)Z" } : Jvm.MethodName) method_3_code (3 : Nat) (Option.some Jvm.ClassFile.FieldType.boolean)).before args0 about1 = true := code_word (m := ⟨1, 2⟩) (meth := k1m2) (c := k1c2) (by decide +kernel) rfl rfl rfl (by decide +kernel)
set_option maxRecDepth 65536 in
theorem w_c3 : (Jvm.Cond.code ({ cls := "com/example/faultline/faultline/xml/ElementReaderIsWhiteSpacePinLaw", name := "isSpace", desc := "(C)Z" } : Jvm.MethodName) method_4_code (1 : Nat) (Option.some Jvm.ClassFile.FieldType.boolean)).before args0 about1 = true := code_word (m := ⟨1, 3⟩) (meth := k1m3) (c := k1c3) (by decide +kernel) rfl rfl rfl (by decide +kernel)
set_option maxRecDepth 65536 in
theorem w_c4 : (Jvm.Cond.code ({ cls := "com/example/faultline/faultline/xml/ElementReader", name := "isWhiteSpace", desc := "([CII)Z" } : Jvm.MethodName) prog_72_method_6_code (6 : Nat) (Option.some Jvm.ClassFile.FieldType.boolean)).before args0 about1 = true := code_word (m := ⟨2, 0⟩) (meth := k2m0) (c := k2c0) (by decide +kernel) rfl rfl rfl (by decide +kernel)
def codes1 : List Jvm.Cond := [Jvm.Cond.code x code maxLocals ret, Jvm.Cond.code ({ cls := "com/example/faultline/faultline/xml/ElementReaderIsWhiteSpacePinLaw", name := "draw", desc := "(I)C" } : Jvm.MethodName) method_5_code (2 : Nat) (Option.some Jvm.ClassFile.FieldType.char), Jvm.Cond.code ({ cls := "com/example/faultline/faultline/xml/ElementReaderIsWhiteSpacePinLaw", name := "covers", desc := "(III)Z" } : Jvm.MethodName) method_3_code (3 : Nat) (Option.some Jvm.ClassFile.FieldType.boolean), Jvm.Cond.code ({ cls := "com/example/faultline/faultline/xml/ElementReaderIsWhiteSpacePinLaw", name := "isSpace", desc := "(C)Z" } : Jvm.MethodName) method_4_code (1 : Nat) (Option.some Jvm.ClassFile.FieldType.boolean), Jvm.Cond.code ({ cls := "com/example/faultline/faultline/xml/ElementReader", name := "isWhiteSpace", desc := "([CII)Z" } : Jvm.MethodName) prog_72_method_6_code (6 : Nat) (Option.some Jvm.ClassFile.FieldType.boolean)]
set_option maxRecDepth 65536 in
theorem codes_eq : words1.filter isCode = codes1 := rfl
theorem w_codes : ∀ c ∈ words1.filter isCode, c.before args0 about1 = true := by
  rw [codes_eq]
  intro c hc
  simp only [codes1, List.mem_cons, List.not_mem_nil, or_false] at hc
  rcases hc with rfl | rfl | rfl | rfl | rfl
  · exact w_c0
  · exact w_c1
  · exact w_c2
  · exact w_c3
  · exact w_c4
set_option maxRecDepth 65536 in
theorem w_t1 : words1.all (fun c => isCode c || c.before args0 about1) = true := by decide +kernel
theorem w_tables : (allAtoms (Jvm.Cond.code x code maxLocals ret :: tables_1)).before args0 about1 = true := by
  rw [allAtoms_all]
  show words1.all (fun c => c.before args0 about1) = true
  refine all_split ?_ w_codes
  rw [w_t1]
set_option maxRecDepth 65536 in
theorem w_case : (Jvm.Cond.and given_1 narrow_1).before args0 about1 = true := by decide +kernel
theorem w_applies : (headSpec (Jvm.Cond.code x code maxLocals ret :: tables_1) room_1).applies x e0.platform about1 = true :=
  (Spec.applies_iff w_frames).mpr ⟨w_running, w_runnable, w_alone, w_named, w_hears, w_ripe, w_room, w_tables⟩
theorem atStart : AtStart classFile x code maxLocals ret World_1 tables_1 room_1 Calls_1 rest_1 Pre_1 launch0 p0 e0 about1 theMethod args0 below0 :=
  ⟨lists_1, trivial, launch0.admits_env _ _ _, launch0.least_env, fairChoices_fair.cas, fairChoices_fair.clock, w_frames, w_args, w_heap, w_applies, trivial, trivial, w_case⟩
end start1
theorem witness_1 : WitnessClaimed_1 := ⟨start1.p0, start1.e0, start1.about1, start1.theMethod, start1.args0, start1.below0, start1.atStart⟩
end Jvm.Pilot.@@N@@
