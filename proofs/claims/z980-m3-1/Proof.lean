import JvmDerived
import JvmDerived.Pilot.@@N@@Statement
import JvmDerived.Pilot.@@N@@Code
set_option linter.unusedVariables false
set_option linter.unusedSimpArgs false
namespace Jvm.RoadKit
open Sem ClassFile Op Lib Jvm.Stand Jvm.Free Jvm.LawKit
section New
variable {p : Program} {l : Launch} {e : Env} {R : Room} {s : State} {m : MethodId} {args : Array Value} {below : List Frame} {meth : Method} {c : Code} {T : State} {locs : List Loc} {cells slots : Nat}
theorem retI (X : Stand p l e R s m args below meth c T locs cells slots) (hx : p.tables.exec = Jvm.exec) {pc : Nat} {Ls : Array Slot} {z : Int32} {rest : List Value} (hret : meth.sig.returnType = some .int) (hd : decode c.code pc = .ok (.ireturn, 1)) {fs : List Frame}
    (hl : ∀ (f : JFrame) (acts : List Action), f.method = m → f.locked = none → f.entered = [] → (doReturn e (T.setTop f) acts (some (.int z))).1 = T.setFrames fs) : Steps p.tables e below (T.setTop (mkF m pc Ls (.int z :: rest))) (T.setFrames fs) := by
  have hm' : T.vm.method? m = some meth := X.method'
  have hn : narrow .int (.int z) = .int z := rfl
  show Steps p.tables e below (T.setTop { method := m, pc := pc, locals := Ls, stack := _ :: rest, locked := none }) _
  jvm_step X.here [X.here.top, hx, hd, hm', hret, hn]
  first | (intro acts; rw [hl _ acts rfl rfl rfl]) | rw [hl _ _ rfl rfl rfl]
  exact Steps.refl _
/-- the run from U on ends as W says -/
def Onw (p : Program) (e : Env) (below : List Frame) (W : Outcome → State → Prop) (U : State) : Prop :=
  ∃ s₂ o, Steps p.tables e below U s₂ ∧ s₂.status = .running ∧ Ended s₂ below o ∧ W o s₂
theorem Onw.go {W : Outcome → State → Prop} {U U' : State} (h : ∀ t, Steps p.tables e below U' t → Steps p.tables e below U t) (k : Onw p e below W U') : Onw p e below W U := by
  obtain ⟨s₂, o, h1, h2⟩ := k
  exact ⟨s₂, o, h _ h1, h2⟩
theorem Onw.of {W : Outcome → State → Prop} {U : State} (k : Onw p e below W U) : ∃ s₂ o, Steps p.tables e below U s₂ ∧ s₂.status = .running ∧ Ended s₂ below o ∧ W o s₂ := k
/-- the end of a walk -/
theorem Onw.ret (X : Stand p l e R s m args below meth c T locs cells slots) (hlk : meth.locks = false) {U : State} {v : Option Value} (hv : meth.sig.returnType = none → v = none)
    (hs : ∀ fs, (∀ (f : JFrame) (acts : List Action), f.method = m → f.locked = none → f.entered = [] → (doReturn e (T.setTop f) acts v).1 = T.setFrames fs) → Steps p.tables e below U (T.setFrames fs))
    {Q : Option Value → Heap → List Loc → Prop} (hQ : Q v T.heap locs) {k n : Nat} (hk : cells ≤ k) (hn : slots ≤ n) :
    Onw p e below (fun o s₂ => ∃ v L, o = .returned v ∧ Q v s₂.heap L ∧ FrameEnd s o s₂ L k n) U := by
  obtain ⟨fs, hr, hrun, hended, hW, hsame⟩ := X.leave (v := v) hv hlk
  exact ⟨_, _, hs fs hr, hrun, hended, v, locs, rfl, hQ, ⟨_, rfl⟩, hW, hsame.mono hk hn⟩
/-- .. where Strings may have been interned -/
theorem Onw.retW {vm₁ : Vm} (X : Stand p l e R (s.setVm vm₁) m args below meth c T locs cells slots) {j : Nat} (hS : s.Since vm₁ j) (hj : j ≤ T.heap.size) (hlk : meth.locks = false) {U : State} {v : Option Value} (hv : meth.sig.returnType = none → v = none)
    (hs : ∀ fs, (∀ (f : JFrame) (acts : List Action), f.method = m → f.locked = none → f.entered = [] → (doReturn e (T.setTop f) acts v).1 = T.setFrames fs) → Steps p.tables e below U (T.setFrames fs))
    {Q : Option Value → Heap → List Loc → Prop} (hQ : Q v T.heap locs) {k n : Nat} (hk : cells ≤ k) (hn : slots ≤ n) :
    Onw p e below (fun o s₂ => ∃ v L, o = .returned v ∧ Q v s₂.heap L ∧ ReturnedEndW s o s₂ L k n) U := by
  obtain ⟨fs, hr, hrun, hended, hE⟩ := X.leaveW hS hj (v := v) hv hlk
  exact ⟨_, _, hs fs hr, hrun, hended, v, locs, rfl, hQ, hE.1, hE.2.1, hE.2.2.1, hE.2.2.2.mono hk hn⟩
end New
end Jvm.RoadKit
namespace Jvm.Pilot.@@N@@
open Jvm Jvm.ClassFile Sem Op Lib Jvm.Free Jvm.Stand Jvm.LawKit Jvm.RoadKit Bundle Jvm.Pilot.@@N@@.Jvm.D
theorem pd_0 : parseMethodDescriptor "(I)Z" = some ⟨[.int], some .boolean⟩ := by decide +kernel
def own_al (t : Int32) : Int32 := if t &&& 2 = 0 then 0 else 1
def own_alpha (b : Int32) : Prop := (¬ b < 65 ∧ ¬ 90 < b) ∨ (¬ b < 97 ∧ ¬ 122 < b)
theorem pn_0 : plainName "com/example/shrewd_spider/shrewdspider/net/AsciiBytes" = true := by first | (simp [plainName, overriddenIn]; done) | decide +kernel
theorem ef_1 (m : MethodId) (x0 : Int32) : entryFrame m #[(.int x0)] 1 = mkF m 0 #[.val (.int x0)] [] := by first | (simp [entryFrame, mkF, argsToLocals, Value.category]; done) | rfl
def Q_rm1 (Z : State) (p0 : Int32) (wC : Addr) (cl : Cell) (t : Int32) (h0 : Heap) (n0 : Nat) (v : Option Value) (h : Heap) (L : List Loc) : Prop := v = some (.int (own_al t)) ∧ Fr n0 L ∧ h = h0
theorem d1_0 : decode prog_2_method_3_code 0 = .ok (.getstatic 7, 3) := by decide +kernel
theorem d1_3 : decode prog_2_method_3_code 3 = .ok (.iload_n 0, 1) := by decide +kernel
theorem d1_4 : decode prog_2_method_3_code 4 = .ok (.sipush 255, 3) := by decide +kernel
theorem d1_7 : decode prog_2_method_3_code 7 = .ok (.iand, 1) := by decide +kernel
theorem d1_8 : decode prog_2_method_3_code 8 = .ok (.baload, 1) := by decide +kernel
theorem d1_9 : decode prog_2_method_3_code 9 = .ok (.iconst 2, 1) := by decide +kernel
theorem d1_10 : decode prog_2_method_3_code 10 = .ok (.iand, 1) := by decide +kernel
theorem d1_11 : decode prog_2_method_3_code 11 = .ok (.ifCond .eq 7, 3) := by decide +kernel
theorem d1_14 : decode prog_2_method_3_code 14 = .ok (.iconst 1, 1) := by decide +kernel
theorem d1_15 : decode prog_2_method_3_code 15 = .ok (.goto 4, 3) := by decide +kernel
theorem d1_18 : decode prog_2_method_3_code 18 = .ok (.iconst 0, 1) := by decide +kernel
theorem d1_19 : decode prog_2_method_3_code 19 = .ok (.ireturn, 1) := by decide +kernel
set_option maxRecDepth 65536 in
set_option maxHeartbeats 40000000 in
theorem rm1 (l : Launch) (Z : State) (a0 : Array Value) (hw : ∀ d ∈ tables_1, d.before a0 Z = true) (ws : List Jvm.Cond) (p0 : Int32) (wC : Addr) (cl : Cell) (t : Int32) (h0 : Heap) (n0 : Nat) (S_C : Sta Z h0 "com/example/shrewd_spider/shrewdspider/net/AsciiBytes" "CLASSES" "[B" (.ref wC)) (Ar : Arr Z h0 wC cl .byte) (hin : ¬ ((p0 &&& (255 : Int32)) < 0 ∨ cl.slots.size ≤ (p0 &&& (255 : Int32)).toNatClampNeg)) (hat : cl.slots[(p0 &&& (255 : Int32)).toNatClampNeg]? = some (.int t)) :
    MetFree l (⟨"com/example/shrewd_spider/shrewdspider/net/AsciiBytes", "isAlpha", "(I)Z"⟩ : MethodName) (head1 (Jvm.Cond.code (⟨"com/example/shrewd_spider/shrewdspider/net/AsciiBytes", "isAlpha", "(I)Z"⟩ : MethodName) prog_2_method_3_code 1 (some .boolean) :: ws) ({ frames := 0, cells := 0, slots := 0, locals := 0 } : Room)) (fun a U => a = #[(.int p0)] ∧ Z.Warmed39 U.vm ∧ U.heap = h0) (fun _ _ _ _ _ => True) (fun _ U o U' => ∃ v L, o = .returned v ∧ Q_rm1 Z p0 wC cl t h0 n0 v U'.heap L ∧ FrameEnd U o U' L ({ frames := 0, cells := 0, slots := 0, locals := 0 } : Room).cells ({ frames := 0, cells := 0, slots := 0, locals := 0 } : Room).slots) := by
  refine MetFree.of_bodySF (plainFor_of_name pn_0) hisR ?_
  intro p e s m args below meth c s₁ Bd hml0 hP hK
  obtain ⟨rfl, hZ, hh⟩ := hP
  have hx := Bd.exec
  have hby := Bd.bytes
  have hml : c.maxLocals = 1 := hml0
  have hown : s.vm.findClass "com/example/shrewd_spider/shrewdspider/net/AsciiBytes" = some m.cls := findClass_of_methodNamed Bd.named
  have hnm := (name_of_methodNamed Bd.named Bd.method).1
  have X0 : Stand p l e ({ frames := 0, cells := 0, slots := 0, locals := 0 } : Room) s m #[(.int p0)] below meth c s₁ [] 0 0 := Stand.of_body Bd
  have e0 : s₁.heap = h0 := by rw [← hh, Bd.state]; rfl
  have N0 := Fr.nil n0
  refine Onw.of (Onw.go (fun own_u k => castTop (ef_1 m p0) k) ?_)
  show Onw p e below _ (s₁.setTop (mkF m 0 #[.val (.int p0)] []))
  obtain ⟨T1, X1, e1, st1⟩ := getS2 X0 hx hZ hown (host := "") (Or.inl (hw _ (List.mem_of_getElem? (i := 4) rfl))) Via.refl e0 S_C (g := (mkF m 0 #[.val (.int p0)] [])) rfl (hb hby d1_0)
  refine Onw.go st1 ?_
  show Onw p e below _ (T1.setTop (mkF m 3 #[.val (.int p0)] [(.ref wC)]))
  refine Onw.go (fun own_u kt => XS.iloadN X1.here hx rfl (hb hby d1_3) rfl kt) ?_
  show Onw p e below _ (T1.setTop (mkF m 4 #[.val (.int p0)] [(.int p0), (.ref wC)]))
  refine Onw.go (fun own_u kt => XS.sipush X1.here hx rfl (hb hby d1_4) kt) ?_
  show Onw p e below _ (T1.setTop (mkF m 7 #[.val (.int p0)] [(.int (255 : Int32)), (.int p0), (.ref wC)]))
  refine Onw.go (fun own_u kt => XS.iand X1.here hx rfl (hb hby d1_7) rfl kt) ?_
  show Onw p e below _ (T1.setTop (mkF m 8 #[.val (.int p0)] [(.int (p0 &&& (255 : Int32))), (.ref wC)]))
  refine Onw.go (X1.baloadBytes hx (j := (p0 &&& (255 : Int32))) (v := (.int t)) (by rw [e1]; exact Ar.1) (State.isArrayOf_alike hZ.alike Ar.2.1) Ar.2.2 hin hat (g := (mkF m 8 #[.val (.int p0)] [(.int (p0 &&& (255 : Int32))), (.ref wC)])) rfl rfl (hb hby d1_8)) ?_
  show Onw p e below _ (T1.setTop (mkF m 9 #[.val (.int p0)] [(.int t)]))
  refine Onw.go (fun own_u kt => XS.iconst X1.here hx rfl (hb hby d1_9) kt) ?_
  show Onw p e below _ (T1.setTop (mkF m 10 #[.val (.int p0)] [(.int (2 : Int32)), (.int t)]))
  refine Onw.go (fun own_u kt => XS.iand X1.here hx rfl (hb hby d1_10) rfl kt) ?_
  show Onw p e below _ (T1.setTop (mkF m 11 #[.val (.int p0)] [(.int (t &&& (2 : Int32)))]))
  by_cases hz : (t &&& (2 : Int32)) = (0 : Int32)
  · refine Onw.go (fun own_u kt => XS.ifYes X1.here hx rfl (pc0 := 11) (pc' := 18) rfl (hb hby d1_11) rfl ((if0 _ _).trans (teq (hz : (t &&& (2 : Int32)) = (0 : Int32))).1) (by decide) (by decide) kt) ?_
    show Onw p e below _ (T1.setTop (mkF m 18 #[.val (.int p0)] []))
    refine Onw.go (fun own_u kt => XS.iconst X1.here hx rfl (hb hby d1_18) kt) ?_
    show Onw p e below _ (T1.setTop (mkF m 19 #[.val (.int p0)] [(.int (0 : Int32))]))
    exact Onw.ret X1 Bd.notSynchronized (fun h => by rw [Bd.returns] at h; cases h) (fun fs hr => retN X1 hx (t := .boolean) Bd.returns (by simp) (hb hby d1_19) hr) ⟨(by show some (Value.int (nar .boolean 0)) = some (Value.int (own_al _)); unfold own_al; rw [if_pos hz]; rfl), N0, e1⟩ (by decide) (by decide)
  · refine Onw.go (fun own_u kt => XS.ifNo X1.here hx rfl (hb hby d1_11) rfl ((if0 _ _).trans (feq (hz : ¬ ((t &&& (2 : Int32)) = (0 : Int32)))).1) kt) ?_
    show Onw p e below _ (T1.setTop (mkF m 14 #[.val (.int p0)] []))
    refine Onw.go (fun own_u kt => XS.iconst X1.here hx rfl (hb hby d1_14) kt) ?_
    show Onw p e below _ (T1.setTop (mkF m 15 #[.val (.int p0)] [(.int (1 : Int32))]))
    refine Onw.go (fun own_u kt => XS.goto X1.here hx rfl (pc0 := 15) (pc' := 19) rfl (hb hby d1_15) (by decide) (by decide) kt) ?_
    show Onw p e below _ (T1.setTop (mkF m 19 #[.val (.int p0)] [(.int (1 : Int32))]))
    exact Onw.ret X1 Bd.notSynchronized (fun h => by rw [Bd.returns] at h; cases h) (fun fs hr => retN X1 hx (t := .boolean) Bd.returns (by simp) (hb hby d1_19) hr) ⟨(by show some (Value.int (nar .boolean 1)) = some (Value.int (own_al _)); unfold own_al; rw [if_neg hz]; rfl), N0, e1⟩ (by decide) (by decide)
theorem own_byte (x b : Int32) (hb : b = x.toInt8.toInt32) : -128 ≤ b.toInt ∧ b.toInt < 256 := by
  have := c_i2b x; rw [← hb] at this; omega
theorem own_low (x b : Int32) (hb : b = x &&& (255 : Int32)) : -128 ≤ b.toInt ∧ b.toInt < 256 := by
  have e := c_mask x 255 8 (by decide) (by decide); rw [← hb] at e; omega
theorem own_lt {b x y : Int32} (h : b < x) (q : x.toInt ≤ y.toInt) : b < y := by rw [Int32.lt_iff_toInt_lt] at h ⊢; omega
theorem own_gt {b x y : Int32} (h : x < b) (q : y.toInt ≤ x.toInt) : y < b := by rw [Int32.lt_iff_toInt_lt] at h ⊢; omega
theorem pn_1 : plainName "com/example/shrewd_spider/shrewdspider/net/AsciiBytesIsAlphaPinLaw" = true := by first | (simp [plainName, overriddenIn]; done) | decide +kernel
theorem ef_0 (m : MethodId) (x0 : Int32) (x1 : Int32) : entryFrame m #[(.int x0), (.int x1)] maxLocals = mkF m 0 #[.val (.int x0), .val (.int x1), .unset, .unset] [] := by first | (simp [entryFrame, mkF, argsToLocals, Value.category, maxLocals]; done) | rfl
def Q_rm0 (Z : State) (p0 : Int32) (p1 : Int32) (wC : Addr) (cl : Cell) (h0 : Heap) (n0 : Nat) (v : Option Value) (h : Heap) (L : List Loc) : Prop := v = some (.int (1 : Int32)) ∧ Fr n0 L
set_option maxRecDepth 65536 in
set_option maxHeartbeats 40000000 in
theorem rm0 (l : Launch) (Z : State) (a0 : Array Value) (hw : ∀ d ∈ tables_1, d.before a0 Z = true) (ws : List Jvm.Cond) (p0 : Int32) (p1 : Int32) (wC : Addr) (cl : Cell) (h0 : Heap) (n0 : Nat) (S_C : Sta Z h0 "com/example/shrewd_spider/shrewdspider/net/AsciiBytes" "CLASSES" "[B" (.ref wC)) (Ar : Arr Z h0 wC cl .byte) (hin : ∀ b : Int32, ¬ ((b &&& (255 : Int32)) < 0 ∨ cl.slots.size ≤ (b &&& (255 : Int32)).toNatClampNeg)) (htab : ∀ b : Int32, (-128 ≤ b.toInt ∧ b.toInt < 256) → ∃ t, cl.slots[(b &&& (255 : Int32)).toNatClampNeg]? = some (.int t) ∧ (t &&& 2 = 0 ↔ ¬ own_alpha b)) :
    MetFree l x (head1 (Jvm.Cond.code x code maxLocals ret :: ws) room_1) (fun a U => a = #[(.int p0), (.int p1)] ∧ Z.Warmed39 U.vm ∧ U.heap = h0) (fun _ _ _ _ _ => True) (fun _ U o U' => ∃ v L, o = .returned v ∧ Q_rm0 Z p0 p1 wC cl h0 n0 v U'.heap L ∧ FrameEnd U o U' L room_1.cells room_1.slots) := by
  refine MetFree.of_bodySF (plainFor_of_name pn_1) hisR ?_
  intro p e s m args below meth c s₁ Bd hml0 hP hK
  obtain ⟨rfl, hZ, hh⟩ := hP
  have hx := Bd.exec
  have hby := Bd.bytes
  have hml : c.maxLocals = 4 := hml0
  have hown : s.vm.findClass "com/example/shrewd_spider/shrewdspider/net/AsciiBytesIsAlphaPinLaw" = some m.cls := findClass_of_methodNamed Bd.named
  have hnm := (name_of_methodNamed Bd.named Bd.method).1
  have X0 : Stand p l e room_1 s m #[(.int p0), (.int p1)] below meth c s₁ [] 0 0 := Stand.of_body Bd
  have e0 : s₁.heap = h0 := by rw [← hh, Bd.state]; rfl
  have N0 := Fr.nil n0
  refine Onw.of (Onw.go (fun own_u k => castTop (ef_0 m p0 p1) k) ?_)
  show Onw p e below _ (s₁.setTop (mkF m 0 #[.val (.int p0), .val (.int p1), .unset, .unset] []))
  refine Onw.go (fun own_u kt => XS.iloadN X0.here hx rfl (hb hby at_0) rfl kt) ?_
  show Onw p e below _ (s₁.setTop (mkF m 1 #[.val (.int p0), .val (.int p1), .unset, .unset] [(.int p1)]))
  refine Onw.go (fun own_u kt => XS.iconst X0.here hx rfl (hb hby at_1) kt) ?_
  show Onw p e below _ (s₁.setTop (mkF m 2 #[.val (.int p0), .val (.int p1), .unset, .unset] [(.int (1 : Int32)), (.int p1)]))
  refine Onw.go (fun own_u kt => XS.iand X0.here hx rfl (hb hby at_2) rfl kt) ?_
  show Onw p e below _ (s₁.setTop (mkF m 3 #[.val (.int p0), .val (.int p1), .unset, .unset] [(.int (p1 &&& (1 : Int32)))]))
  by_cases hf : (p1 &&& (1 : Int32)) = (0 : Int32)
  · refine Onw.go (fun own_u kt => XS.ifYes X0.here hx rfl (pc0 := 3) (pc' := 12) rfl (hb hby at_3) rfl ((if0 _ _).trans (teq (hf : (p1 &&& (1 : Int32)) = (0 : Int32))).1) (by decide) (by decide) kt) ?_
    show Onw p e below _ (s₁.setTop (mkF m 12 #[.val (.int p0), .val (.int p1), .unset, .unset] []))
    refine Onw.go (fun own_u kt => XS.iloadN X0.here hx rfl (hb hby at_12) rfl kt) ?_
    show Onw p e below _ (s₁.setTop (mkF m 13 #[.val (.int p0), .val (.int p1), .unset, .unset] [(.int p0)]))
    refine Onw.go (fun own_u kt => XS.sipush X0.here hx rfl (hb hby at_13) kt) ?_
    show Onw p e below _ (s₁.setTop (mkF m 16 #[.val (.int p0), .val (.int p1), .unset, .unset] [(.int (255 : Int32)), (.int p0)]))
    refine Onw.go (fun own_u kt => XS.iand X0.here hx rfl (hb hby at_16) rfl kt) ?_
    show Onw p e below _ (s₁.setTop (mkF m 17 #[.val (.int p0), .val (.int p1), .unset, .unset] [(.int (p0 &&& (255 : Int32)))]))
    obtain ⟨b, hbb⟩ : ∃ own_z, own_z = (p0 &&& (255 : Int32)) := ⟨_, rfl⟩
    rw [← hbb]
    show Onw p e below _ (s₁.setTop (mkF m 17 #[.val (.int p0), .val (.int p1), .unset, .unset] [(.int b)]))
    have hr := own_low _ _ hbb
    obtain ⟨t, hat, hal⟩ := htab b hr
    refine Onw.go (fun own_u kt => XS.istoreN X0.here hx rfl (hb hby at_17) rfl (l' := #[.val (.int p0), .val (.int p1), .val (.int b), .unset]) rfl kt) ?_
    show Onw p e below _ (s₁.setTop (mkF m 18 #[.val (.int p0), .val (.int p1), .val (.int b), .unset] []))
    refine Onw.go (fun own_u kt => XS.iloadN X0.here hx rfl (hb hby at_18) rfl kt) ?_
    show Onw p e below _ (s₁.setTop (mkF m 19 #[.val (.int p0), .val (.int p1), .val (.int b), .unset] [(.int b)]))
    refine Onw.go (fun own_u kt => XS.bipush X0.here hx rfl (hb hby at_19) kt) ?_
    show Onw p e below _ (s₁.setTop (mkF m 21 #[.val (.int p0), .val (.int p1), .val (.int b), .unset] [(.int (65 : Int32)), (.int b)]))
    by_cases h1 : b < (65 : Int32)
    · refine Onw.go (fun own_u kt => XS.icmpYes X0.here hx rfl (pc0 := 21) (pc' := 30) rfl (hb hby at_21) rfl (tlt (h1 : b < (65 : Int32))).1 (by decide) (by decide) kt) ?_
      show Onw p e below _ (s₁.setTop (mkF m 30 #[.val (.int p0), .val (.int p1), .val (.int b), .unset] []))
      refine Onw.go (fun own_u kt => XS.iloadN X0.here hx rfl (hb hby at_30) rfl kt) ?_
      show Onw p e below _ (s₁.setTop (mkF m 31 #[.val (.int p0), .val (.int p1), .val (.int b), .unset] [(.int b)]))
      refine Onw.go (fun own_u kt => XS.bipush X0.here hx rfl (hb hby at_31) kt) ?_
      show Onw p e below _ (s₁.setTop (mkF m 33 #[.val (.int p0), .val (.int p1), .val (.int b), .unset] [(.int (97 : Int32)), (.int b)]))
      refine Onw.go (fun own_u kt => XS.icmpYes X0.here hx rfl (pc0 := 33) (pc' := 46) rfl (hb hby at_33) rfl (tlt (own_lt h1 (by decide) : b < (97 : Int32))).1 (by decide) (by decide) kt) ?_
      show Onw p e below _ (s₁.setTop (mkF m 46 #[.val (.int p0), .val (.int p1), .val (.int b), .unset] []))
      refine Onw.go (fun own_u kt => XS.iconst X0.here hx rfl (hb hby at_46) kt) ?_
      show Onw p e below _ (s₁.setTop (mkF m 47 #[.val (.int p0), .val (.int p1), .val (.int b), .unset] [(.int (0 : Int32))]))
      refine Onw.go (fun own_u kt => XS.istoreN X0.here hx rfl (hb hby at_47) rfl (l' := #[.val (.int p0), .val (.int p1), .val (.int b), .val (.int (0 : Int32))]) rfl kt) ?_
      show Onw p e below _ (s₁.setTop (mkF m 48 #[.val (.int p0), .val (.int p1), .val (.int b), .val (.int (0 : Int32))] []))
      refine Onw.go (fun own_u kt => XS.iloadN X0.here hx rfl (hb hby at_48) rfl kt) ?_
      show Onw p e below _ (s₁.setTop (mkF m 49 #[.val (.int p0), .val (.int p1), .val (.int b), .val (.int (0 : Int32))] [(.int b)]))
      obtain ⟨_, _, ⟨T1, L1, k1, n1⟩, -, X1, ⟨Lc1, hQ1, l1, y1, z1⟩, st1⟩ := Jvm.LawKit.callS X0 hx (y := (⟨"com/example/shrewd_spider/shrewdspider/net/AsciiBytes", "isAlpha", "(I)Z"⟩ : MethodName)) hown (mvT hZ (hw _ (List.mem_of_getElem? (i := 0) rfl))) (mvT hZ (hw _ (List.mem_of_getElem? (i := 1) rfl))) (mvT hZ (hw _ (List.mem_of_getElem? (i := 2) rfl))) (mvT hZ (hw _ (List.mem_of_getElem? (i := 3) rfl))) (by decide) (backOf (W := 0) (rm1 l Z a0 hw [] b wC cl t h0 n0 S_C Ar (hin b) hat) hZ (hw _ (List.mem_of_getElem? (i := 3) rfl)) (hw _ (List.mem_of_getElem? (i := 2) rfl)) (by decide) (by decide)) (g := (mkF m 49 #[.val (.int p0), .val (.int p1), .val (.int b), .val (.int (0 : Int32))] [(.int b)])) rfl (by rw [hml]; rfl) (argsL := [(.int b)]) (rest := []) (lenOf pd_0 rfl) rfl (by show 2 * 0 + _ ≤ _; exact Nat.le_of_eq rfl) (hb hby at_49) (fun _ _ => ⟨rfl, e0, (by decide : 0 + 0 ≤ _), (by decide : 0 + 0 ≤ _)⟩)
      dsimp only [Pt.U, Pt.locs, Pt.cells, Pt.slots] at X1 l1 y1 z1 st1 hQ1
      subst l1 y1 z1
      obtain ⟨rfl, N1q, e1q⟩ := hQ1
      have N1 := Fr.app N0 N1q
      refine Onw.go st1 ?_
      show Onw p e below _ (T1.setTop (mkF m 52 #[.val (.int p0), .val (.int p1), .val (.int b), .val (.int (0 : Int32))] [(.int (own_al t))]))
      rw [(by unfold own_al; rw [if_pos (hal.mpr (fun q => q.elim (fun r => r.1 h1) (fun r => r.1 (own_lt h1 (by decide)))))] : (own_al t) = (0 : Int32))]
      show Onw p e below _ (T1.setTop (mkF m 52 #[.val (.int p0), .val (.int p1), .val (.int b), .val (.int (0 : Int32))] [(.int (0 : Int32))]))
      refine Onw.go (fun own_u kt => XS.iloadN X1.here hx rfl (hb hby at_52) rfl kt) ?_
      show Onw p e below _ (T1.setTop (mkF m 53 #[.val (.int p0), .val (.int p1), .val (.int b), .val (.int (0 : Int32))] [(.int (0 : Int32)), (.int (0 : Int32))]))
      refine Onw.go (fun own_u kt => XS.icmpNo X1.here hx rfl (hb hby at_53) rfl (teq (rfl : (0 : Int32) = (0 : Int32))).2 kt) ?_
      show Onw p e below _ (T1.setTop (mkF m 56 #[.val (.int p0), .val (.int p1), .val (.int b), .val (.int (0 : Int32))] []))
      refine Onw.go (fun own_u kt => XS.iconst X1.here hx rfl (hb hby at_56) kt) ?_
      show Onw p e below _ (T1.setTop (mkF m 57 #[.val (.int p0), .val (.int p1), .val (.int b), .val (.int (0 : Int32))] [(.int (1 : Int32))]))
      refine Onw.go (fun own_u kt => XS.goto X1.here hx rfl (pc0 := 57) (pc' := 61) rfl (hb hby at_57) (by decide) (by decide) kt) ?_
      show Onw p e below _ (T1.setTop (mkF m 61 #[.val (.int p0), .val (.int p1), .val (.int b), .val (.int (0 : Int32))] [(.int (1 : Int32))]))
      exact Onw.ret X1 Bd.notSynchronized (fun h => by rw [Bd.returns] at h; cases h) (fun fs hr => retN X1 hx (t := .boolean) Bd.returns (by simp) (hb hby at_61) hr) ⟨rfl, N1⟩ (by decide) (by decide)
    · refine Onw.go (fun own_u kt => XS.icmpNo X0.here hx rfl (hb hby at_21) rfl (flt (h1 : ¬ (b < (65 : Int32)))).1 kt) ?_
      show Onw p e below _ (s₁.setTop (mkF m 24 #[.val (.int p0), .val (.int p1), .val (.int b), .unset] []))
      refine Onw.go (fun own_u kt => XS.iloadN X0.here hx rfl (hb hby at_24) rfl kt) ?_
      show Onw p e below _ (s₁.setTop (mkF m 25 #[.val (.int p0), .val (.int p1), .val (.int b), .unset] [(.int b)]))
      refine Onw.go (fun own_u kt => XS.bipush X0.here hx rfl (hb hby at_25) kt) ?_
      show Onw p e below _ (s₁.setTop (mkF m 27 #[.val (.int p0), .val (.int p1), .val (.int b), .unset] [(.int (90 : Int32)), (.int b)]))
      by_cases h2 : (90 : Int32) < b
      · refine Onw.go (fun own_u kt => XS.icmpNo X0.here hx rfl (hb hby at_27) rfl (tlt (h2 : (90 : Int32) < b)).2.2.2 kt) ?_
        show Onw p e below _ (s₁.setTop (mkF m 30 #[.val (.int p0), .val (.int p1), .val (.int b), .unset] []))
        refine Onw.go (fun own_u kt => XS.iloadN X0.here hx rfl (hb hby at_30) rfl kt) ?_
        show Onw p e below _ (s₁.setTop (mkF m 31 #[.val (.int p0), .val (.int p1), .val (.int b), .unset] [(.int b)]))
        refine Onw.go (fun own_u kt => XS.bipush X0.here hx rfl (hb hby at_31) kt) ?_
        show Onw p e below _ (s₁.setTop (mkF m 33 #[.val (.int p0), .val (.int p1), .val (.int b), .unset] [(.int (97 : Int32)), (.int b)]))
        by_cases h3 : b < (97 : Int32)
        · refine Onw.go (fun own_u kt => XS.icmpYes X0.here hx rfl (pc0 := 33) (pc' := 46) rfl (hb hby at_33) rfl (tlt (h3 : b < (97 : Int32))).1 (by decide) (by decide) kt) ?_
          show Onw p e below _ (s₁.setTop (mkF m 46 #[.val (.int p0), .val (.int p1), .val (.int b), .unset] []))
          refine Onw.go (fun own_u kt => XS.iconst X0.here hx rfl (hb hby at_46) kt) ?_
          show Onw p e below _ (s₁.setTop (mkF m 47 #[.val (.int p0), .val (.int p1), .val (.int b), .unset] [(.int (0 : Int32))]))
          refine Onw.go (fun own_u kt => XS.istoreN X0.here hx rfl (hb hby at_47) rfl (l' := #[.val (.int p0), .val (.int p1), .val (.int b), .val (.int (0 : Int32))]) rfl kt) ?_
          show Onw p e below _ (s₁.setTop (mkF m 48 #[.val (.int p0), .val (.int p1), .val (.int b), .val (.int (0 : Int32))] []))
          refine Onw.go (fun own_u kt => XS.iloadN X0.here hx rfl (hb hby at_48) rfl kt) ?_
          show Onw p e below _ (s₁.setTop (mkF m 49 #[.val (.int p0), .val (.int p1), .val (.int b), .val (.int (0 : Int32))] [(.int b)]))
          obtain ⟨_, _, ⟨T2, L2, k2, n2⟩, -, X2, ⟨Lc2, hQ2, l2, y2, z2⟩, st2⟩ := Jvm.LawKit.callS X0 hx (y := (⟨"com/example/shrewd_spider/shrewdspider/net/AsciiBytes", "isAlpha", "(I)Z"⟩ : MethodName)) hown (mvT hZ (hw _ (List.mem_of_getElem? (i := 0) rfl))) (mvT hZ (hw _ (List.mem_of_getElem? (i := 1) rfl))) (mvT hZ (hw _ (List.mem_of_getElem? (i := 2) rfl))) (mvT hZ (hw _ (List.mem_of_getElem? (i := 3) rfl))) (by decide) (backOf (W := 0) (rm1 l Z a0 hw [] b wC cl t h0 n0 S_C Ar (hin b) hat) hZ (hw _ (List.mem_of_getElem? (i := 3) rfl)) (hw _ (List.mem_of_getElem? (i := 2) rfl)) (by decide) (by decide)) (g := (mkF m 49 #[.val (.int p0), .val (.int p1), .val (.int b), .val (.int (0 : Int32))] [(.int b)])) rfl (by rw [hml]; rfl) (argsL := [(.int b)]) (rest := []) (lenOf pd_0 rfl) rfl (by show 2 * 0 + _ ≤ _; exact Nat.le_of_eq rfl) (hb hby at_49) (fun _ _ => ⟨rfl, e0, (by decide : 0 + 0 ≤ _), (by decide : 0 + 0 ≤ _)⟩)
          dsimp only [Pt.U, Pt.locs, Pt.cells, Pt.slots] at X2 l2 y2 z2 st2 hQ2
          subst l2 y2 z2
          obtain ⟨rfl, N2q, e2q⟩ := hQ2
          have N2 := Fr.app N0 N2q
          refine Onw.go st2 ?_
          show Onw p e below _ (T2.setTop (mkF m 52 #[.val (.int p0), .val (.int p1), .val (.int b), .val (.int (0 : Int32))] [(.int (own_al t))]))
          rw [(by unfold own_al; rw [if_pos (hal.mpr (fun q => q.elim (fun r => r.2 h2) (fun r => r.1 h3)))] : (own_al t) = (0 : Int32))]
          show Onw p e below _ (T2.setTop (mkF m 52 #[.val (.int p0), .val (.int p1), .val (.int b), .val (.int (0 : Int32))] [(.int (0 : Int32))]))
          refine Onw.go (fun own_u kt => XS.iloadN X2.here hx rfl (hb hby at_52) rfl kt) ?_
          show Onw p e below _ (T2.setTop (mkF m 53 #[.val (.int p0), .val (.int p1), .val (.int b), .val (.int (0 : Int32))] [(.int (0 : Int32)), (.int (0 : Int32))]))
          refine Onw.go (fun own_u kt => XS.icmpNo X2.here hx rfl (hb hby at_53) rfl (teq (rfl : (0 : Int32) = (0 : Int32))).2 kt) ?_
          show Onw p e below _ (T2.setTop (mkF m 56 #[.val (.int p0), .val (.int p1), .val (.int b), .val (.int (0 : Int32))] []))
          refine Onw.go (fun own_u kt => XS.iconst X2.here hx rfl (hb hby at_56) kt) ?_
          show Onw p e below _ (T2.setTop (mkF m 57 #[.val (.int p0), .val (.int p1), .val (.int b), .val (.int (0 : Int32))] [(.int (1 : Int32))]))
          refine Onw.go (fun own_u kt => XS.goto X2.here hx rfl (pc0 := 57) (pc' := 61) rfl (hb hby at_57) (by decide) (by decide) kt) ?_
          show Onw p e below _ (T2.setTop (mkF m 61 #[.val (.int p0), .val (.int p1), .val (.int b), .val (.int (0 : Int32))] [(.int (1 : Int32))]))
          exact Onw.ret X2 Bd.notSynchronized (fun h => by rw [Bd.returns] at h; cases h) (fun fs hr => retN X2 hx (t := .boolean) Bd.returns (by simp) (hb hby at_61) hr) ⟨rfl, N2⟩ (by decide) (by decide)
        · refine Onw.go (fun own_u kt => XS.icmpNo X0.here hx rfl (hb hby at_33) rfl (flt (h3 : ¬ (b < (97 : Int32)))).1 kt) ?_
          show Onw p e below _ (s₁.setTop (mkF m 36 #[.val (.int p0), .val (.int p1), .val (.int b), .unset] []))
          refine Onw.go (fun own_u kt => XS.iloadN X0.here hx rfl (hb hby at_36) rfl kt) ?_
          show Onw p e below _ (s₁.setTop (mkF m 37 #[.val (.int p0), .val (.int p1), .val (.int b), .unset] [(.int b)]))
          refine Onw.go (fun own_u kt => XS.bipush X0.here hx rfl (hb hby at_37) kt) ?_
          show Onw p e below _ (s₁.setTop (mkF m 39 #[.val (.int p0), .val (.int p1), .val (.int b), .unset] [(.int (122 : Int32)), (.int b)]))
          by_cases h4 : (122 : Int32) < b
          · refine Onw.go (fun own_u kt => XS.icmpYes X0.here hx rfl (pc0 := 39) (pc' := 46) rfl (hb hby at_39) rfl (tlt (h4 : (122 : Int32) < b)).2.2.1 (by decide) (by decide) kt) ?_
            show Onw p e below _ (s₁.setTop (mkF m 46 #[.val (.int p0), .val (.int p1), .val (.int b), .unset] []))
            refine Onw.go (fun own_u kt => XS.iconst X0.here hx rfl (hb hby at_46) kt) ?_
            show Onw p e below _ (s₁.setTop (mkF m 47 #[.val (.int p0), .val (.int p1), .val (.int b), .unset] [(.int (0 : Int32))]))
            refine Onw.go (fun own_u kt => XS.istoreN X0.here hx rfl (hb hby at_47) rfl (l' := #[.val (.int p0), .val (.int p1), .val (.int b), .val (.int (0 : Int32))]) rfl kt) ?_
            show Onw p e below _ (s₁.setTop (mkF m 48 #[.val (.int p0), .val (.int p1), .val (.int b), .val (.int (0 : Int32))] []))
            refine Onw.go (fun own_u kt => XS.iloadN X0.here hx rfl (hb hby at_48) rfl kt) ?_
            show Onw p e below _ (s₁.setTop (mkF m 49 #[.val (.int p0), .val (.int p1), .val (.int b), .val (.int (0 : Int32))] [(.int b)]))
            obtain ⟨_, _, ⟨T3, L3, k3, n3⟩, -, X3, ⟨Lc3, hQ3, l3, y3, z3⟩, st3⟩ := Jvm.LawKit.callS X0 hx (y := (⟨"com/example/shrewd_spider/shrewdspider/net/AsciiBytes", "isAlpha", "(I)Z"⟩ : MethodName)) hown (mvT hZ (hw _ (List.mem_of_getElem? (i := 0) rfl))) (mvT hZ (hw _ (List.mem_of_getElem? (i := 1) rfl))) (mvT hZ (hw _ (List.mem_of_getElem? (i := 2) rfl))) (mvT hZ (hw _ (List.mem_of_getElem? (i := 3) rfl))) (by decide) (backOf (W := 0) (rm1 l Z a0 hw [] b wC cl t h0 n0 S_C Ar (hin b) hat) hZ (hw _ (List.mem_of_getElem? (i := 3) rfl)) (hw _ (List.mem_of_getElem? (i := 2) rfl)) (by decide) (by decide)) (g := (mkF m 49 #[.val (.int p0), .val (.int p1), .val (.int b), .val (.int (0 : Int32))] [(.int b)])) rfl (by rw [hml]; rfl) (argsL := [(.int b)]) (rest := []) (lenOf pd_0 rfl) rfl (by show 2 * 0 + _ ≤ _; exact Nat.le_of_eq rfl) (hb hby at_49) (fun _ _ => ⟨rfl, e0, (by decide : 0 + 0 ≤ _), (by decide : 0 + 0 ≤ _)⟩)
            dsimp only [Pt.U, Pt.locs, Pt.cells, Pt.slots] at X3 l3 y3 z3 st3 hQ3
            subst l3 y3 z3
            obtain ⟨rfl, N3q, e3q⟩ := hQ3
            have N3 := Fr.app N0 N3q
            refine Onw.go st3 ?_
            show Onw p e below _ (T3.setTop (mkF m 52 #[.val (.int p0), .val (.int p1), .val (.int b), .val (.int (0 : Int32))] [(.int (own_al t))]))
            rw [(by unfold own_al; rw [if_pos (hal.mpr (fun q => q.elim (fun r => r.2 h2) (fun r => r.2 h4)))] : (own_al t) = (0 : Int32))]
            show Onw p e below _ (T3.setTop (mkF m 52 #[.val (.int p0), .val (.int p1), .val (.int b), .val (.int (0 : Int32))] [(.int (0 : Int32))]))
            refine Onw.go (fun own_u kt => XS.iloadN X3.here hx rfl (hb hby at_52) rfl kt) ?_
            show Onw p e below _ (T3.setTop (mkF m 53 #[.val (.int p0), .val (.int p1), .val (.int b), .val (.int (0 : Int32))] [(.int (0 : Int32)), (.int (0 : Int32))]))
            refine Onw.go (fun own_u kt => XS.icmpNo X3.here hx rfl (hb hby at_53) rfl (teq (rfl : (0 : Int32) = (0 : Int32))).2 kt) ?_
            show Onw p e below _ (T3.setTop (mkF m 56 #[.val (.int p0), .val (.int p1), .val (.int b), .val (.int (0 : Int32))] []))
            refine Onw.go (fun own_u kt => XS.iconst X3.here hx rfl (hb hby at_56) kt) ?_
            show Onw p e below _ (T3.setTop (mkF m 57 #[.val (.int p0), .val (.int p1), .val (.int b), .val (.int (0 : Int32))] [(.int (1 : Int32))]))
            refine Onw.go (fun own_u kt => XS.goto X3.here hx rfl (pc0 := 57) (pc' := 61) rfl (hb hby at_57) (by decide) (by decide) kt) ?_
            show Onw p e below _ (T3.setTop (mkF m 61 #[.val (.int p0), .val (.int p1), .val (.int b), .val (.int (0 : Int32))] [(.int (1 : Int32))]))
            exact Onw.ret X3 Bd.notSynchronized (fun h => by rw [Bd.returns] at h; cases h) (fun fs hr => retN X3 hx (t := .boolean) Bd.returns (by simp) (hb hby at_61) hr) ⟨rfl, N3⟩ (by decide) (by decide)
          · refine Onw.go (fun own_u kt => XS.icmpNo X0.here hx rfl (hb hby at_39) rfl (flt (h4 : ¬ ((122 : Int32) < b))).2.2.1 kt) ?_
            show Onw p e below _ (s₁.setTop (mkF m 42 #[.val (.int p0), .val (.int p1), .val (.int b), .unset] []))
            refine Onw.go (fun own_u kt => XS.iconst X0.here hx rfl (hb hby at_42) kt) ?_
            show Onw p e below _ (s₁.setTop (mkF m 43 #[.val (.int p0), .val (.int p1), .val (.int b), .unset] [(.int (1 : Int32))]))
            refine Onw.go (fun own_u kt => XS.goto X0.here hx rfl (pc0 := 43) (pc' := 47) rfl (hb hby at_43) (by decide) (by decide) kt) ?_
            show Onw p e below _ (s₁.setTop (mkF m 47 #[.val (.int p0), .val (.int p1), .val (.int b), .unset] [(.int (1 : Int32))]))
            refine Onw.go (fun own_u kt => XS.istoreN X0.here hx rfl (hb hby at_47) rfl (l' := #[.val (.int p0), .val (.int p1), .val (.int b), .val (.int (1 : Int32))]) rfl kt) ?_
            show Onw p e below _ (s₁.setTop (mkF m 48 #[.val (.int p0), .val (.int p1), .val (.int b), .val (.int (1 : Int32))] []))
            refine Onw.go (fun own_u kt => XS.iloadN X0.here hx rfl (hb hby at_48) rfl kt) ?_
            show Onw p e below _ (s₁.setTop (mkF m 49 #[.val (.int p0), .val (.int p1), .val (.int b), .val (.int (1 : Int32))] [(.int b)]))
            obtain ⟨_, _, ⟨T4, L4, k4, n4⟩, -, X4, ⟨Lc4, hQ4, l4, y4, z4⟩, st4⟩ := Jvm.LawKit.callS X0 hx (y := (⟨"com/example/shrewd_spider/shrewdspider/net/AsciiBytes", "isAlpha", "(I)Z"⟩ : MethodName)) hown (mvT hZ (hw _ (List.mem_of_getElem? (i := 0) rfl))) (mvT hZ (hw _ (List.mem_of_getElem? (i := 1) rfl))) (mvT hZ (hw _ (List.mem_of_getElem? (i := 2) rfl))) (mvT hZ (hw _ (List.mem_of_getElem? (i := 3) rfl))) (by decide) (backOf (W := 0) (rm1 l Z a0 hw [] b wC cl t h0 n0 S_C Ar (hin b) hat) hZ (hw _ (List.mem_of_getElem? (i := 3) rfl)) (hw _ (List.mem_of_getElem? (i := 2) rfl)) (by decide) (by decide)) (g := (mkF m 49 #[.val (.int p0), .val (.int p1), .val (.int b), .val (.int (1 : Int32))] [(.int b)])) rfl (by rw [hml]; rfl) (argsL := [(.int b)]) (rest := []) (lenOf pd_0 rfl) rfl (by show 2 * 0 + _ ≤ _; exact Nat.le_of_eq rfl) (hb hby at_49) (fun _ _ => ⟨rfl, e0, (by decide : 0 + 0 ≤ _), (by decide : 0 + 0 ≤ _)⟩)
            dsimp only [Pt.U, Pt.locs, Pt.cells, Pt.slots] at X4 l4 y4 z4 st4 hQ4
            subst l4 y4 z4
            obtain ⟨rfl, N4q, e4q⟩ := hQ4
            have N4 := Fr.app N0 N4q
            refine Onw.go st4 ?_
            show Onw p e below _ (T4.setTop (mkF m 52 #[.val (.int p0), .val (.int p1), .val (.int b), .val (.int (1 : Int32))] [(.int (own_al t))]))
            rw [(by unfold own_al; rw [if_neg (fun q => hal.mp q (Or.inr ⟨h3, h4⟩))] : (own_al t) = (1 : Int32))]
            show Onw p e below _ (T4.setTop (mkF m 52 #[.val (.int p0), .val (.int p1), .val (.int b), .val (.int (1 : Int32))] [(.int (1 : Int32))]))
            refine Onw.go (fun own_u kt => XS.iloadN X4.here hx rfl (hb hby at_52) rfl kt) ?_
            show Onw p e below _ (T4.setTop (mkF m 53 #[.val (.int p0), .val (.int p1), .val (.int b), .val (.int (1 : Int32))] [(.int (1 : Int32)), (.int (1 : Int32))]))
            refine Onw.go (fun own_u kt => XS.icmpNo X4.here hx rfl (hb hby at_53) rfl (teq (rfl : (1 : Int32) = (1 : Int32))).2 kt) ?_
            show Onw p e below _ (T4.setTop (mkF m 56 #[.val (.int p0), .val (.int p1), .val (.int b), .val (.int (1 : Int32))] []))
            refine Onw.go (fun own_u kt => XS.iconst X4.here hx rfl (hb hby at_56) kt) ?_
            show Onw p e below _ (T4.setTop (mkF m 57 #[.val (.int p0), .val (.int p1), .val (.int b), .val (.int (1 : Int32))] [(.int (1 : Int32))]))
            refine Onw.go (fun own_u kt => XS.goto X4.here hx rfl (pc0 := 57) (pc' := 61) rfl (hb hby at_57) (by decide) (by decide) kt) ?_
            show Onw p e below _ (T4.setTop (mkF m 61 #[.val (.int p0), .val (.int p1), .val (.int b), .val (.int (1 : Int32))] [(.int (1 : Int32))]))
            exact Onw.ret X4 Bd.notSynchronized (fun h => by rw [Bd.returns] at h; cases h) (fun fs hr => retN X4 hx (t := .boolean) Bd.returns (by simp) (hb hby at_61) hr) ⟨rfl, N4⟩ (by decide) (by decide)
      · refine Onw.go (fun own_u kt => XS.icmpYes X0.here hx rfl (pc0 := 27) (pc' := 42) rfl (hb hby at_27) rfl (flt (h2 : ¬ ((90 : Int32) < b))).2.2.2 (by decide) (by decide) kt) ?_
        show Onw p e below _ (s₁.setTop (mkF m 42 #[.val (.int p0), .val (.int p1), .val (.int b), .unset] []))
        refine Onw.go (fun own_u kt => XS.iconst X0.here hx rfl (hb hby at_42) kt) ?_
        show Onw p e below _ (s₁.setTop (mkF m 43 #[.val (.int p0), .val (.int p1), .val (.int b), .unset] [(.int (1 : Int32))]))
        refine Onw.go (fun own_u kt => XS.goto X0.here hx rfl (pc0 := 43) (pc' := 47) rfl (hb hby at_43) (by decide) (by decide) kt) ?_
        show Onw p e below _ (s₁.setTop (mkF m 47 #[.val (.int p0), .val (.int p1), .val (.int b), .unset] [(.int (1 : Int32))]))
        refine Onw.go (fun own_u kt => XS.istoreN X0.here hx rfl (hb hby at_47) rfl (l' := #[.val (.int p0), .val (.int p1), .val (.int b), .val (.int (1 : Int32))]) rfl kt) ?_
        show Onw p e below _ (s₁.setTop (mkF m 48 #[.val (.int p0), .val (.int p1), .val (.int b), .val (.int (1 : Int32))] []))
        refine Onw.go (fun own_u kt => XS.iloadN X0.here hx rfl (hb hby at_48) rfl kt) ?_
        show Onw p e below _ (s₁.setTop (mkF m 49 #[.val (.int p0), .val (.int p1), .val (.int b), .val (.int (1 : Int32))] [(.int b)]))
        obtain ⟨_, _, ⟨T5, L5, k5, n5⟩, -, X5, ⟨Lc5, hQ5, l5, y5, z5⟩, st5⟩ := Jvm.LawKit.callS X0 hx (y := (⟨"com/example/shrewd_spider/shrewdspider/net/AsciiBytes", "isAlpha", "(I)Z"⟩ : MethodName)) hown (mvT hZ (hw _ (List.mem_of_getElem? (i := 0) rfl))) (mvT hZ (hw _ (List.mem_of_getElem? (i := 1) rfl))) (mvT hZ (hw _ (List.mem_of_getElem? (i := 2) rfl))) (mvT hZ (hw _ (List.mem_of_getElem? (i := 3) rfl))) (by decide) (backOf (W := 0) (rm1 l Z a0 hw [] b wC cl t h0 n0 S_C Ar (hin b) hat) hZ (hw _ (List.mem_of_getElem? (i := 3) rfl)) (hw _ (List.mem_of_getElem? (i := 2) rfl)) (by decide) (by decide)) (g := (mkF m 49 #[.val (.int p0), .val (.int p1), .val (.int b), .val (.int (1 : Int32))] [(.int b)])) rfl (by rw [hml]; rfl) (argsL := [(.int b)]) (rest := []) (lenOf pd_0 rfl) rfl (by show 2 * 0 + _ ≤ _; exact Nat.le_of_eq rfl) (hb hby at_49) (fun _ _ => ⟨rfl, e0, (by decide : 0 + 0 ≤ _), (by decide : 0 + 0 ≤ _)⟩)
        dsimp only [Pt.U, Pt.locs, Pt.cells, Pt.slots] at X5 l5 y5 z5 st5 hQ5
        subst l5 y5 z5
        obtain ⟨rfl, N5q, e5q⟩ := hQ5
        have N5 := Fr.app N0 N5q
        refine Onw.go st5 ?_
        show Onw p e below _ (T5.setTop (mkF m 52 #[.val (.int p0), .val (.int p1), .val (.int b), .val (.int (1 : Int32))] [(.int (own_al t))]))
        rw [(by unfold own_al; rw [if_neg (fun q => hal.mp q (Or.inl ⟨h1, h2⟩))] : (own_al t) = (1 : Int32))]
        show Onw p e below _ (T5.setTop (mkF m 52 #[.val (.int p0), .val (.int p1), .val (.int b), .val (.int (1 : Int32))] [(.int (1 : Int32))]))
        refine Onw.go (fun own_u kt => XS.iloadN X5.here hx rfl (hb hby at_52) rfl kt) ?_
        show Onw p e below _ (T5.setTop (mkF m 53 #[.val (.int p0), .val (.int p1), .val (.int b), .val (.int (1 : Int32))] [(.int (1 : Int32)), (.int (1 : Int32))]))
        refine Onw.go (fun own_u kt => XS.icmpNo X5.here hx rfl (hb hby at_53) rfl (teq (rfl : (1 : Int32) = (1 : Int32))).2 kt) ?_
        show Onw p e below _ (T5.setTop (mkF m 56 #[.val (.int p0), .val (.int p1), .val (.int b), .val (.int (1 : Int32))] []))
        refine Onw.go (fun own_u kt => XS.iconst X5.here hx rfl (hb hby at_56) kt) ?_
        show Onw p e below _ (T5.setTop (mkF m 57 #[.val (.int p0), .val (.int p1), .val (.int b), .val (.int (1 : Int32))] [(.int (1 : Int32))]))
        refine Onw.go (fun own_u kt => XS.goto X5.here hx rfl (pc0 := 57) (pc' := 61) rfl (hb hby at_57) (by decide) (by decide) kt) ?_
        show Onw p e below _ (T5.setTop (mkF m 61 #[.val (.int p0), .val (.int p1), .val (.int b), .val (.int (1 : Int32))] [(.int (1 : Int32))]))
        exact Onw.ret X5 Bd.notSynchronized (fun h => by rw [Bd.returns] at h; cases h) (fun fs hr => retN X5 hx (t := .boolean) Bd.returns (by simp) (hb hby at_61) hr) ⟨rfl, N5⟩ (by decide) (by decide)
  · refine Onw.go (fun own_u kt => XS.ifNo X0.here hx rfl (hb hby at_3) rfl ((if0 _ _).trans (feq (hf : ¬ ((p1 &&& (1 : Int32)) = (0 : Int32)))).1) kt) ?_
    show Onw p e below _ (s₁.setTop (mkF m 6 #[.val (.int p0), .val (.int p1), .unset, .unset] []))
    refine Onw.go (fun own_u kt => XS.iloadN X0.here hx rfl (hb hby at_6) rfl kt) ?_
    show Onw p e below _ (s₁.setTop (mkF m 7 #[.val (.int p0), .val (.int p1), .unset, .unset] [(.int p0)]))
    refine Onw.go (fun own_u kt => XS.i2b X0.here hx rfl (hb hby at_7) rfl kt) ?_
    show Onw p e below _ (s₁.setTop (mkF m 8 #[.val (.int p0), .val (.int p1), .unset, .unset] [(.int (p0.toInt8.toInt32))]))
    obtain ⟨b, hbb⟩ : ∃ own_z, own_z = (p0.toInt8.toInt32) := ⟨_, rfl⟩
    rw [← hbb]
    show Onw p e below _ (s₁.setTop (mkF m 8 #[.val (.int p0), .val (.int p1), .unset, .unset] [(.int b)]))
    have hr := own_byte _ _ hbb
    obtain ⟨t, hat, hal⟩ := htab b hr
    refine Onw.go (fun own_u kt => XS.istoreN X0.here hx rfl (hb hby at_8) rfl (l' := #[.val (.int p0), .val (.int p1), .val (.int b), .unset]) rfl kt) ?_
    show Onw p e below _ (s₁.setTop (mkF m 9 #[.val (.int p0), .val (.int p1), .val (.int b), .unset] []))
    refine Onw.go (fun own_u kt => XS.goto X0.here hx rfl (pc0 := 9) (pc' := 18) rfl (hb hby at_9) (by decide) (by decide) kt) ?_
    show Onw p e below _ (s₁.setTop (mkF m 18 #[.val (.int p0), .val (.int p1), .val (.int b), .unset] []))
    refine Onw.go (fun own_u kt => XS.iloadN X0.here hx rfl (hb hby at_18) rfl kt) ?_
    show Onw p e below _ (s₁.setTop (mkF m 19 #[.val (.int p0), .val (.int p1), .val (.int b), .unset] [(.int b)]))
    refine Onw.go (fun own_u kt => XS.bipush X0.here hx rfl (hb hby at_19) kt) ?_
    show Onw p e below _ (s₁.setTop (mkF m 21 #[.val (.int p0), .val (.int p1), .val (.int b), .unset] [(.int (65 : Int32)), (.int b)]))
    by_cases h1 : b < (65 : Int32)
    · refine Onw.go (fun own_u kt => XS.icmpYes X0.here hx rfl (pc0 := 21) (pc' := 30) rfl (hb hby at_21) rfl (tlt (h1 : b < (65 : Int32))).1 (by decide) (by decide) kt) ?_
      show Onw p e below _ (s₁.setTop (mkF m 30 #[.val (.int p0), .val (.int p1), .val (.int b), .unset] []))
      refine Onw.go (fun own_u kt => XS.iloadN X0.here hx rfl (hb hby at_30) rfl kt) ?_
      show Onw p e below _ (s₁.setTop (mkF m 31 #[.val (.int p0), .val (.int p1), .val (.int b), .unset] [(.int b)]))
      refine Onw.go (fun own_u kt => XS.bipush X0.here hx rfl (hb hby at_31) kt) ?_
      show Onw p e below _ (s₁.setTop (mkF m 33 #[.val (.int p0), .val (.int p1), .val (.int b), .unset] [(.int (97 : Int32)), (.int b)]))
      refine Onw.go (fun own_u kt => XS.icmpYes X0.here hx rfl (pc0 := 33) (pc' := 46) rfl (hb hby at_33) rfl (tlt (own_lt h1 (by decide) : b < (97 : Int32))).1 (by decide) (by decide) kt) ?_
      show Onw p e below _ (s₁.setTop (mkF m 46 #[.val (.int p0), .val (.int p1), .val (.int b), .unset] []))
      refine Onw.go (fun own_u kt => XS.iconst X0.here hx rfl (hb hby at_46) kt) ?_
      show Onw p e below _ (s₁.setTop (mkF m 47 #[.val (.int p0), .val (.int p1), .val (.int b), .unset] [(.int (0 : Int32))]))
      refine Onw.go (fun own_u kt => XS.istoreN X0.here hx rfl (hb hby at_47) rfl (l' := #[.val (.int p0), .val (.int p1), .val (.int b), .val (.int (0 : Int32))]) rfl kt) ?_
      show Onw p e below _ (s₁.setTop (mkF m 48 #[.val (.int p0), .val (.int p1), .val (.int b), .val (.int (0 : Int32))] []))
      refine Onw.go (fun own_u kt => XS.iloadN X0.here hx rfl (hb hby at_48) rfl kt) ?_
      show Onw p e below _ (s₁.setTop (mkF m 49 #[.val (.int p0), .val (.int p1), .val (.int b), .val (.int (0 : Int32))] [(.int b)]))
      obtain ⟨_, _, ⟨T6, L6, k6, n6⟩, -, X6, ⟨Lc6, hQ6, l6, y6, z6⟩, st6⟩ := Jvm.LawKit.callS X0 hx (y := (⟨"com/example/shrewd_spider/shrewdspider/net/AsciiBytes", "isAlpha", "(I)Z"⟩ : MethodName)) hown (mvT hZ (hw _ (List.mem_of_getElem? (i := 0) rfl))) (mvT hZ (hw _ (List.mem_of_getElem? (i := 1) rfl))) (mvT hZ (hw _ (List.mem_of_getElem? (i := 2) rfl))) (mvT hZ (hw _ (List.mem_of_getElem? (i := 3) rfl))) (by decide) (backOf (W := 0) (rm1 l Z a0 hw [] b wC cl t h0 n0 S_C Ar (hin b) hat) hZ (hw _ (List.mem_of_getElem? (i := 3) rfl)) (hw _ (List.mem_of_getElem? (i := 2) rfl)) (by decide) (by decide)) (g := (mkF m 49 #[.val (.int p0), .val (.int p1), .val (.int b), .val (.int (0 : Int32))] [(.int b)])) rfl (by rw [hml]; rfl) (argsL := [(.int b)]) (rest := []) (lenOf pd_0 rfl) rfl (by show 2 * 0 + _ ≤ _; exact Nat.le_of_eq rfl) (hb hby at_49) (fun _ _ => ⟨rfl, e0, (by decide : 0 + 0 ≤ _), (by decide : 0 + 0 ≤ _)⟩)
      dsimp only [Pt.U, Pt.locs, Pt.cells, Pt.slots] at X6 l6 y6 z6 st6 hQ6
      subst l6 y6 z6
      obtain ⟨rfl, N6q, e6q⟩ := hQ6
      have N6 := Fr.app N0 N6q
      refine Onw.go st6 ?_
      show Onw p e below _ (T6.setTop (mkF m 52 #[.val (.int p0), .val (.int p1), .val (.int b), .val (.int (0 : Int32))] [(.int (own_al t))]))
      rw [(by unfold own_al; rw [if_pos (hal.mpr (fun q => q.elim (fun r => r.1 h1) (fun r => r.1 (own_lt h1 (by decide)))))] : (own_al t) = (0 : Int32))]
      show Onw p e below _ (T6.setTop (mkF m 52 #[.val (.int p0), .val (.int p1), .val (.int b), .val (.int (0 : Int32))] [(.int (0 : Int32))]))
      refine Onw.go (fun own_u kt => XS.iloadN X6.here hx rfl (hb hby at_52) rfl kt) ?_
      show Onw p e below _ (T6.setTop (mkF m 53 #[.val (.int p0), .val (.int p1), .val (.int b), .val (.int (0 : Int32))] [(.int (0 : Int32)), (.int (0 : Int32))]))
      refine Onw.go (fun own_u kt => XS.icmpNo X6.here hx rfl (hb hby at_53) rfl (teq (rfl : (0 : Int32) = (0 : Int32))).2 kt) ?_
      show Onw p e below _ (T6.setTop (mkF m 56 #[.val (.int p0), .val (.int p1), .val (.int b), .val (.int (0 : Int32))] []))
      refine Onw.go (fun own_u kt => XS.iconst X6.here hx rfl (hb hby at_56) kt) ?_
      show Onw p e below _ (T6.setTop (mkF m 57 #[.val (.int p0), .val (.int p1), .val (.int b), .val (.int (0 : Int32))] [(.int (1 : Int32))]))
      refine Onw.go (fun own_u kt => XS.goto X6.here hx rfl (pc0 := 57) (pc' := 61) rfl (hb hby at_57) (by decide) (by decide) kt) ?_
      show Onw p e below _ (T6.setTop (mkF m 61 #[.val (.int p0), .val (.int p1), .val (.int b), .val (.int (0 : Int32))] [(.int (1 : Int32))]))
      exact Onw.ret X6 Bd.notSynchronized (fun h => by rw [Bd.returns] at h; cases h) (fun fs hr => retN X6 hx (t := .boolean) Bd.returns (by simp) (hb hby at_61) hr) ⟨rfl, N6⟩ (by decide) (by decide)
    · refine Onw.go (fun own_u kt => XS.icmpNo X0.here hx rfl (hb hby at_21) rfl (flt (h1 : ¬ (b < (65 : Int32)))).1 kt) ?_
      show Onw p e below _ (s₁.setTop (mkF m 24 #[.val (.int p0), .val (.int p1), .val (.int b), .unset] []))
      refine Onw.go (fun own_u kt => XS.iloadN X0.here hx rfl (hb hby at_24) rfl kt) ?_
      show Onw p e below _ (s₁.setTop (mkF m 25 #[.val (.int p0), .val (.int p1), .val (.int b), .unset] [(.int b)]))
      refine Onw.go (fun own_u kt => XS.bipush X0.here hx rfl (hb hby at_25) kt) ?_
      show Onw p e below _ (s₁.setTop (mkF m 27 #[.val (.int p0), .val (.int p1), .val (.int b), .unset] [(.int (90 : Int32)), (.int b)]))
      by_cases h2 : (90 : Int32) < b
      · refine Onw.go (fun own_u kt => XS.icmpNo X0.here hx rfl (hb hby at_27) rfl (tlt (h2 : (90 : Int32) < b)).2.2.2 kt) ?_
        show Onw p e below _ (s₁.setTop (mkF m 30 #[.val (.int p0), .val (.int p1), .val (.int b), .unset] []))
        refine Onw.go (fun own_u kt => XS.iloadN X0.here hx rfl (hb hby at_30) rfl kt) ?_
        show Onw p e below _ (s₁.setTop (mkF m 31 #[.val (.int p0), .val (.int p1), .val (.int b), .unset] [(.int b)]))
        refine Onw.go (fun own_u kt => XS.bipush X0.here hx rfl (hb hby at_31) kt) ?_
        show Onw p e below _ (s₁.setTop (mkF m 33 #[.val (.int p0), .val (.int p1), .val (.int b), .unset] [(.int (97 : Int32)), (.int b)]))
        by_cases h3 : b < (97 : Int32)
        · refine Onw.go (fun own_u kt => XS.icmpYes X0.here hx rfl (pc0 := 33) (pc' := 46) rfl (hb hby at_33) rfl (tlt (h3 : b < (97 : Int32))).1 (by decide) (by decide) kt) ?_
          show Onw p e below _ (s₁.setTop (mkF m 46 #[.val (.int p0), .val (.int p1), .val (.int b), .unset] []))
          refine Onw.go (fun own_u kt => XS.iconst X0.here hx rfl (hb hby at_46) kt) ?_
          show Onw p e below _ (s₁.setTop (mkF m 47 #[.val (.int p0), .val (.int p1), .val (.int b), .unset] [(.int (0 : Int32))]))
          refine Onw.go (fun own_u kt => XS.istoreN X0.here hx rfl (hb hby at_47) rfl (l' := #[.val (.int p0), .val (.int p1), .val (.int b), .val (.int (0 : Int32))]) rfl kt) ?_
          show Onw p e below _ (s₁.setTop (mkF m 48 #[.val (.int p0), .val (.int p1), .val (.int b), .val (.int (0 : Int32))] []))
          refine Onw.go (fun own_u kt => XS.iloadN X0.here hx rfl (hb hby at_48) rfl kt) ?_
          show Onw p e below _ (s₁.setTop (mkF m 49 #[.val (.int p0), .val (.int p1), .val (.int b), .val (.int (0 : Int32))] [(.int b)]))
          obtain ⟨_, _, ⟨T7, L7, k7, n7⟩, -, X7, ⟨Lc7, hQ7, l7, y7, z7⟩, st7⟩ := Jvm.LawKit.callS X0 hx (y := (⟨"com/example/shrewd_spider/shrewdspider/net/AsciiBytes", "isAlpha", "(I)Z"⟩ : MethodName)) hown (mvT hZ (hw _ (List.mem_of_getElem? (i := 0) rfl))) (mvT hZ (hw _ (List.mem_of_getElem? (i := 1) rfl))) (mvT hZ (hw _ (List.mem_of_getElem? (i := 2) rfl))) (mvT hZ (hw _ (List.mem_of_getElem? (i := 3) rfl))) (by decide) (backOf (W := 0) (rm1 l Z a0 hw [] b wC cl t h0 n0 S_C Ar (hin b) hat) hZ (hw _ (List.mem_of_getElem? (i := 3) rfl)) (hw _ (List.mem_of_getElem? (i := 2) rfl)) (by decide) (by decide)) (g := (mkF m 49 #[.val (.int p0), .val (.int p1), .val (.int b), .val (.int (0 : Int32))] [(.int b)])) rfl (by rw [hml]; rfl) (argsL := [(.int b)]) (rest := []) (lenOf pd_0 rfl) rfl (by show 2 * 0 + _ ≤ _; exact Nat.le_of_eq rfl) (hb hby at_49) (fun _ _ => ⟨rfl, e0, (by decide : 0 + 0 ≤ _), (by decide : 0 + 0 ≤ _)⟩)
          dsimp only [Pt.U, Pt.locs, Pt.cells, Pt.slots] at X7 l7 y7 z7 st7 hQ7
          subst l7 y7 z7
          obtain ⟨rfl, N7q, e7q⟩ := hQ7
          have N7 := Fr.app N0 N7q
          refine Onw.go st7 ?_
          show Onw p e below _ (T7.setTop (mkF m 52 #[.val (.int p0), .val (.int p1), .val (.int b), .val (.int (0 : Int32))] [(.int (own_al t))]))
          rw [(by unfold own_al; rw [if_pos (hal.mpr (fun q => q.elim (fun r => r.2 h2) (fun r => r.1 h3)))] : (own_al t) = (0 : Int32))]
          show Onw p e below _ (T7.setTop (mkF m 52 #[.val (.int p0), .val (.int p1), .val (.int b), .val (.int (0 : Int32))] [(.int (0 : Int32))]))
          refine Onw.go (fun own_u kt => XS.iloadN X7.here hx rfl (hb hby at_52) rfl kt) ?_
          show Onw p e below _ (T7.setTop (mkF m 53 #[.val (.int p0), .val (.int p1), .val (.int b), .val (.int (0 : Int32))] [(.int (0 : Int32)), (.int (0 : Int32))]))
          refine Onw.go (fun own_u kt => XS.icmpNo X7.here hx rfl (hb hby at_53) rfl (teq (rfl : (0 : Int32) = (0 : Int32))).2 kt) ?_
          show Onw p e below _ (T7.setTop (mkF m 56 #[.val (.int p0), .val (.int p1), .val (.int b), .val (.int (0 : Int32))] []))
          refine Onw.go (fun own_u kt => XS.iconst X7.here hx rfl (hb hby at_56) kt) ?_
          show Onw p e below _ (T7.setTop (mkF m 57 #[.val (.int p0), .val (.int p1), .val (.int b), .val (.int (0 : Int32))] [(.int (1 : Int32))]))
          refine Onw.go (fun own_u kt => XS.goto X7.here hx rfl (pc0 := 57) (pc' := 61) rfl (hb hby at_57) (by decide) (by decide) kt) ?_
          show Onw p e below _ (T7.setTop (mkF m 61 #[.val (.int p0), .val (.int p1), .val (.int b), .val (.int (0 : Int32))] [(.int (1 : Int32))]))
          exact Onw.ret X7 Bd.notSynchronized (fun h => by rw [Bd.returns] at h; cases h) (fun fs hr => retN X7 hx (t := .boolean) Bd.returns (by simp) (hb hby at_61) hr) ⟨rfl, N7⟩ (by decide) (by decide)
        · refine Onw.go (fun own_u kt => XS.icmpNo X0.here hx rfl (hb hby at_33) rfl (flt (h3 : ¬ (b < (97 : Int32)))).1 kt) ?_
          show Onw p e below _ (s₁.setTop (mkF m 36 #[.val (.int p0), .val (.int p1), .val (.int b), .unset] []))
          refine Onw.go (fun own_u kt => XS.iloadN X0.here hx rfl (hb hby at_36) rfl kt) ?_
          show Onw p e below _ (s₁.setTop (mkF m 37 #[.val (.int p0), .val (.int p1), .val (.int b), .unset] [(.int b)]))
          refine Onw.go (fun own_u kt => XS.bipush X0.here hx rfl (hb hby at_37) kt) ?_
          show Onw p e below _ (s₁.setTop (mkF m 39 #[.val (.int p0), .val (.int p1), .val (.int b), .unset] [(.int (122 : Int32)), (.int b)]))
          by_cases h4 : (122 : Int32) < b
          · refine Onw.go (fun own_u kt => XS.icmpYes X0.here hx rfl (pc0 := 39) (pc' := 46) rfl (hb hby at_39) rfl (tlt (h4 : (122 : Int32) < b)).2.2.1 (by decide) (by decide) kt) ?_
            show Onw p e below _ (s₁.setTop (mkF m 46 #[.val (.int p0), .val (.int p1), .val (.int b), .unset] []))
            refine Onw.go (fun own_u kt => XS.iconst X0.here hx rfl (hb hby at_46) kt) ?_
            show Onw p e below _ (s₁.setTop (mkF m 47 #[.val (.int p0), .val (.int p1), .val (.int b), .unset] [(.int (0 : Int32))]))
            refine Onw.go (fun own_u kt => XS.istoreN X0.here hx rfl (hb hby at_47) rfl (l' := #[.val (.int p0), .val (.int p1), .val (.int b), .val (.int (0 : Int32))]) rfl kt) ?_
            show Onw p e below _ (s₁.setTop (mkF m 48 #[.val (.int p0), .val (.int p1), .val (.int b), .val (.int (0 : Int32))] []))
            refine Onw.go (fun own_u kt => XS.iloadN X0.here hx rfl (hb hby at_48) rfl kt) ?_
            show Onw p e below _ (s₁.setTop (mkF m 49 #[.val (.int p0), .val (.int p1), .val (.int b), .val (.int (0 : Int32))] [(.int b)]))
            obtain ⟨_, _, ⟨T8, L8, k8, n8⟩, -, X8, ⟨Lc8, hQ8, l8, y8, z8⟩, st8⟩ := Jvm.LawKit.callS X0 hx (y := (⟨"com/example/shrewd_spider/shrewdspider/net/AsciiBytes", "isAlpha", "(I)Z"⟩ : MethodName)) hown (mvT hZ (hw _ (List.mem_of_getElem? (i := 0) rfl))) (mvT hZ (hw _ (List.mem_of_getElem? (i := 1) rfl))) (mvT hZ (hw _ (List.mem_of_getElem? (i := 2) rfl))) (mvT hZ (hw _ (List.mem_of_getElem? (i := 3) rfl))) (by decide) (backOf (W := 0) (rm1 l Z a0 hw [] b wC cl t h0 n0 S_C Ar (hin b) hat) hZ (hw _ (List.mem_of_getElem? (i := 3) rfl)) (hw _ (List.mem_of_getElem? (i := 2) rfl)) (by decide) (by decide)) (g := (mkF m 49 #[.val (.int p0), .val (.int p1), .val (.int b), .val (.int (0 : Int32))] [(.int b)])) rfl (by rw [hml]; rfl) (argsL := [(.int b)]) (rest := []) (lenOf pd_0 rfl) rfl (by show 2 * 0 + _ ≤ _; exact Nat.le_of_eq rfl) (hb hby at_49) (fun _ _ => ⟨rfl, e0, (by decide : 0 + 0 ≤ _), (by decide : 0 + 0 ≤ _)⟩)
            dsimp only [Pt.U, Pt.locs, Pt.cells, Pt.slots] at X8 l8 y8 z8 st8 hQ8
            subst l8 y8 z8
            obtain ⟨rfl, N8q, e8q⟩ := hQ8
            have N8 := Fr.app N0 N8q
            refine Onw.go st8 ?_
            show Onw p e below _ (T8.setTop (mkF m 52 #[.val (.int p0), .val (.int p1), .val (.int b), .val (.int (0 : Int32))] [(.int (own_al t))]))
            rw [(by unfold own_al; rw [if_pos (hal.mpr (fun q => q.elim (fun r => r.2 h2) (fun r => r.2 h4)))] : (own_al t) = (0 : Int32))]
            show Onw p e below _ (T8.setTop (mkF m 52 #[.val (.int p0), .val (.int p1), .val (.int b), .val (.int (0 : Int32))] [(.int (0 : Int32))]))
            refine Onw.go (fun own_u kt => XS.iloadN X8.here hx rfl (hb hby at_52) rfl kt) ?_
            show Onw p e below _ (T8.setTop (mkF m 53 #[.val (.int p0), .val (.int p1), .val (.int b), .val (.int (0 : Int32))] [(.int (0 : Int32)), (.int (0 : Int32))]))
            refine Onw.go (fun own_u kt => XS.icmpNo X8.here hx rfl (hb hby at_53) rfl (teq (rfl : (0 : Int32) = (0 : Int32))).2 kt) ?_
            show Onw p e below _ (T8.setTop (mkF m 56 #[.val (.int p0), .val (.int p1), .val (.int b), .val (.int (0 : Int32))] []))
            refine Onw.go (fun own_u kt => XS.iconst X8.here hx rfl (hb hby at_56) kt) ?_
            show Onw p e below _ (T8.setTop (mkF m 57 #[.val (.int p0), .val (.int p1), .val (.int b), .val (.int (0 : Int32))] [(.int (1 : Int32))]))
            refine Onw.go (fun own_u kt => XS.goto X8.here hx rfl (pc0 := 57) (pc' := 61) rfl (hb hby at_57) (by decide) (by decide) kt) ?_
            show Onw p e below _ (T8.setTop (mkF m 61 #[.val (.int p0), .val (.int p1), .val (.int b), .val (.int (0 : Int32))] [(.int (1 : Int32))]))
            exact Onw.ret X8 Bd.notSynchronized (fun h => by rw [Bd.returns] at h; cases h) (fun fs hr => retN X8 hx (t := .boolean) Bd.returns (by simp) (hb hby at_61) hr) ⟨rfl, N8⟩ (by decide) (by decide)
          · refine Onw.go (fun own_u kt => XS.icmpNo X0.here hx rfl (hb hby at_39) rfl (flt (h4 : ¬ ((122 : Int32) < b))).2.2.1 kt) ?_
            show Onw p e below _ (s₁.setTop (mkF m 42 #[.val (.int p0), .val (.int p1), .val (.int b), .unset] []))
            refine Onw.go (fun own_u kt => XS.iconst X0.here hx rfl (hb hby at_42) kt) ?_
            show Onw p e below _ (s₁.setTop (mkF m 43 #[.val (.int p0), .val (.int p1), .val (.int b), .unset] [(.int (1 : Int32))]))
            refine Onw.go (fun own_u kt => XS.goto X0.here hx rfl (pc0 := 43) (pc' := 47) rfl (hb hby at_43) (by decide) (by decide) kt) ?_
            show Onw p e below _ (s₁.setTop (mkF m 47 #[.val (.int p0), .val (.int p1), .val (.int b), .unset] [(.int (1 : Int32))]))
            refine Onw.go (fun own_u kt => XS.istoreN X0.here hx rfl (hb hby at_47) rfl (l' := #[.val (.int p0), .val (.int p1), .val (.int b), .val (.int (1 : Int32))]) rfl kt) ?_
            show Onw p e below _ (s₁.setTop (mkF m 48 #[.val (.int p0), .val (.int p1), .val (.int b), .val (.int (1 : Int32))] []))
            refine Onw.go (fun own_u kt => XS.iloadN X0.here hx rfl (hb hby at_48) rfl kt) ?_
            show Onw p e below _ (s₁.setTop (mkF m 49 #[.val (.int p0), .val (.int p1), .val (.int b), .val (.int (1 : Int32))] [(.int b)]))
            obtain ⟨_, _, ⟨T9, L9, k9, n9⟩, -, X9, ⟨Lc9, hQ9, l9, y9, z9⟩, st9⟩ := Jvm.LawKit.callS X0 hx (y := (⟨"com/example/shrewd_spider/shrewdspider/net/AsciiBytes", "isAlpha", "(I)Z"⟩ : MethodName)) hown (mvT hZ (hw _ (List.mem_of_getElem? (i := 0) rfl))) (mvT hZ (hw _ (List.mem_of_getElem? (i := 1) rfl))) (mvT hZ (hw _ (List.mem_of_getElem? (i := 2) rfl))) (mvT hZ (hw _ (List.mem_of_getElem? (i := 3) rfl))) (by decide) (backOf (W := 0) (rm1 l Z a0 hw [] b wC cl t h0 n0 S_C Ar (hin b) hat) hZ (hw _ (List.mem_of_getElem? (i := 3) rfl)) (hw _ (List.mem_of_getElem? (i := 2) rfl)) (by decide) (by decide)) (g := (mkF m 49 #[.val (.int p0), .val (.int p1), .val (.int b), .val (.int (1 : Int32))] [(.int b)])) rfl (by rw [hml]; rfl) (argsL := [(.int b)]) (rest := []) (lenOf pd_0 rfl) rfl (by show 2 * 0 + _ ≤ _; exact Nat.le_of_eq rfl) (hb hby at_49) (fun _ _ => ⟨rfl, e0, (by decide : 0 + 0 ≤ _), (by decide : 0 + 0 ≤ _)⟩)
            dsimp only [Pt.U, Pt.locs, Pt.cells, Pt.slots] at X9 l9 y9 z9 st9 hQ9
            subst l9 y9 z9
            obtain ⟨rfl, N9q, e9q⟩ := hQ9
            have N9 := Fr.app N0 N9q
            refine Onw.go st9 ?_
            show Onw p e below _ (T9.setTop (mkF m 52 #[.val (.int p0), .val (.int p1), .val (.int b), .val (.int (1 : Int32))] [(.int (own_al t))]))
            rw [(by unfold own_al; rw [if_neg (fun q => hal.mp q (Or.inr ⟨h3, h4⟩))] : (own_al t) = (1 : Int32))]
            show Onw p e below _ (T9.setTop (mkF m 52 #[.val (.int p0), .val (.int p1), .val (.int b), .val (.int (1 : Int32))] [(.int (1 : Int32))]))
            refine Onw.go (fun own_u kt => XS.iloadN X9.here hx rfl (hb hby at_52) rfl kt) ?_
            show Onw p e below _ (T9.setTop (mkF m 53 #[.val (.int p0), .val (.int p1), .val (.int b), .val (.int (1 : Int32))] [(.int (1 : Int32)), (.int (1 : Int32))]))
            refine Onw.go (fun own_u kt => XS.icmpNo X9.here hx rfl (hb hby at_53) rfl (teq (rfl : (1 : Int32) = (1 : Int32))).2 kt) ?_
            show Onw p e below _ (T9.setTop (mkF m 56 #[.val (.int p0), .val (.int p1), .val (.int b), .val (.int (1 : Int32))] []))
            refine Onw.go (fun own_u kt => XS.iconst X9.here hx rfl (hb hby at_56) kt) ?_
            show Onw p e below _ (T9.setTop (mkF m 57 #[.val (.int p0), .val (.int p1), .val (.int b), .val (.int (1 : Int32))] [(.int (1 : Int32))]))
            refine Onw.go (fun own_u kt => XS.goto X9.here hx rfl (pc0 := 57) (pc' := 61) rfl (hb hby at_57) (by decide) (by decide) kt) ?_
            show Onw p e below _ (T9.setTop (mkF m 61 #[.val (.int p0), .val (.int p1), .val (.int b), .val (.int (1 : Int32))] [(.int (1 : Int32))]))
            exact Onw.ret X9 Bd.notSynchronized (fun h => by rw [Bd.returns] at h; cases h) (fun fs hr => retN X9 hx (t := .boolean) Bd.returns (by simp) (hb hby at_61) hr) ⟨rfl, N9⟩ (by decide) (by decide)
      · refine Onw.go (fun own_u kt => XS.icmpYes X0.here hx rfl (pc0 := 27) (pc' := 42) rfl (hb hby at_27) rfl (flt (h2 : ¬ ((90 : Int32) < b))).2.2.2 (by decide) (by decide) kt) ?_
        show Onw p e below _ (s₁.setTop (mkF m 42 #[.val (.int p0), .val (.int p1), .val (.int b), .unset] []))
        refine Onw.go (fun own_u kt => XS.iconst X0.here hx rfl (hb hby at_42) kt) ?_
        show Onw p e below _ (s₁.setTop (mkF m 43 #[.val (.int p0), .val (.int p1), .val (.int b), .unset] [(.int (1 : Int32))]))
        refine Onw.go (fun own_u kt => XS.goto X0.here hx rfl (pc0 := 43) (pc' := 47) rfl (hb hby at_43) (by decide) (by decide) kt) ?_
        show Onw p e below _ (s₁.setTop (mkF m 47 #[.val (.int p0), .val (.int p1), .val (.int b), .unset] [(.int (1 : Int32))]))
        refine Onw.go (fun own_u kt => XS.istoreN X0.here hx rfl (hb hby at_47) rfl (l' := #[.val (.int p0), .val (.int p1), .val (.int b), .val (.int (1 : Int32))]) rfl kt) ?_
        show Onw p e below _ (s₁.setTop (mkF m 48 #[.val (.int p0), .val (.int p1), .val (.int b), .val (.int (1 : Int32))] []))
        refine Onw.go (fun own_u kt => XS.iloadN X0.here hx rfl (hb hby at_48) rfl kt) ?_
        show Onw p e below _ (s₁.setTop (mkF m 49 #[.val (.int p0), .val (.int p1), .val (.int b), .val (.int (1 : Int32))] [(.int b)]))
        obtain ⟨_, _, ⟨T10, L10, k10, n10⟩, -, X10, ⟨Lc10, hQ10, l10, y10, z10⟩, st10⟩ := Jvm.LawKit.callS X0 hx (y := (⟨"com/example/shrewd_spider/shrewdspider/net/AsciiBytes", "isAlpha", "(I)Z"⟩ : MethodName)) hown (mvT hZ (hw _ (List.mem_of_getElem? (i := 0) rfl))) (mvT hZ (hw _ (List.mem_of_getElem? (i := 1) rfl))) (mvT hZ (hw _ (List.mem_of_getElem? (i := 2) rfl))) (mvT hZ (hw _ (List.mem_of_getElem? (i := 3) rfl))) (by decide) (backOf (W := 0) (rm1 l Z a0 hw [] b wC cl t h0 n0 S_C Ar (hin b) hat) hZ (hw _ (List.mem_of_getElem? (i := 3) rfl)) (hw _ (List.mem_of_getElem? (i := 2) rfl)) (by decide) (by decide)) (g := (mkF m 49 #[.val (.int p0), .val (.int p1), .val (.int b), .val (.int (1 : Int32))] [(.int b)])) rfl (by rw [hml]; rfl) (argsL := [(.int b)]) (rest := []) (lenOf pd_0 rfl) rfl (by show 2 * 0 + _ ≤ _; exact Nat.le_of_eq rfl) (hb hby at_49) (fun _ _ => ⟨rfl, e0, (by decide : 0 + 0 ≤ _), (by decide : 0 + 0 ≤ _)⟩)
        dsimp only [Pt.U, Pt.locs, Pt.cells, Pt.slots] at X10 l10 y10 z10 st10 hQ10
        subst l10 y10 z10
        obtain ⟨rfl, N10q, e10q⟩ := hQ10
        have N10 := Fr.app N0 N10q
        refine Onw.go st10 ?_
        show Onw p e below _ (T10.setTop (mkF m 52 #[.val (.int p0), .val (.int p1), .val (.int b), .val (.int (1 : Int32))] [(.int (own_al t))]))
        rw [(by unfold own_al; rw [if_neg (fun q => hal.mp q (Or.inl ⟨h1, h2⟩))] : (own_al t) = (1 : Int32))]
        show Onw p e below _ (T10.setTop (mkF m 52 #[.val (.int p0), .val (.int p1), .val (.int b), .val (.int (1 : Int32))] [(.int (1 : Int32))]))
        refine Onw.go (fun own_u kt => XS.iloadN X10.here hx rfl (hb hby at_52) rfl kt) ?_
        show Onw p e below _ (T10.setTop (mkF m 53 #[.val (.int p0), .val (.int p1), .val (.int b), .val (.int (1 : Int32))] [(.int (1 : Int32)), (.int (1 : Int32))]))
        refine Onw.go (fun own_u kt => XS.icmpNo X10.here hx rfl (hb hby at_53) rfl (teq (rfl : (1 : Int32) = (1 : Int32))).2 kt) ?_
        show Onw p e below _ (T10.setTop (mkF m 56 #[.val (.int p0), .val (.int p1), .val (.int b), .val (.int (1 : Int32))] []))
        refine Onw.go (fun own_u kt => XS.iconst X10.here hx rfl (hb hby at_56) kt) ?_
        show Onw p e below _ (T10.setTop (mkF m 57 #[.val (.int p0), .val (.int p1), .val (.int b), .val (.int (1 : Int32))] [(.int (1 : Int32))]))
        refine Onw.go (fun own_u kt => XS.goto X10.here hx rfl (pc0 := 57) (pc' := 61) rfl (hb hby at_57) (by decide) (by decide) kt) ?_
        show Onw p e below _ (T10.setTop (mkF m 61 #[.val (.int p0), .val (.int p1), .val (.int b), .val (.int (1 : Int32))] [(.int (1 : Int32))]))
        exact Onw.ret X10 Bd.notSynchronized (fun h => by rw [Bd.returns] at h; cases h) (fun fs hr => retN X10 hx (t := .boolean) Bd.returns (by simp) (hb hby at_61) hr) ⟨rfl, N10⟩ (by decide) (by decide)
theorem own_tab {s : State} {args : Array Value} {wC : Addr} {cl : Cell} (hf : Fit s) (ev : (Jvm.Term.static "com/example/shrewd_spider/shrewdspider/net/AsciiBytes" "CLASSES" "[B").eval args s none [] s = some (.ref wC)) (Ar : Arr s s.heap wC cl .byte) (u3 : ((Jvm.Cond.eq (Jvm.Term.length (Jvm.Term.static "com/example/shrewd_spider/shrewdspider/net/AsciiBytes" "CLASSES" "[B")) (Jvm.Term.int (256 : Int32)))).value args s none s [] = some true) (u5 : ((Jvm.Cond.all (Jvm.Term.static "com/example/shrewd_spider/shrewdspider/net/AsciiBytes" "CLASSES" "[B") (Jvm.Cond.or (Jvm.Cond.le (Jvm.Term.int (9 : Int32)) (Jvm.Term.index (0 : Nat))) (Jvm.Cond.eq (Jvm.Term.elem (Jvm.Term.static "com/example/shrewd_spider/shrewdspider/net/AsciiBytes" "CLASSES" "[B") (Jvm.Term.index (0 : Nat))) (Jvm.Term.int (0 : Int32)))))).value args s none s [] = some true) (u7 : ((Jvm.Cond.eq (Jvm.Term.elem (Jvm.Term.static "com/example/shrewd_spider/shrewdspider/net/AsciiBytes" "CLASSES" "[B") (Jvm.Term.int (9 : Int32))) (Jvm.Term.int (1 : Int32)))).value args s none s [] = some true) (u9 : ((Jvm.Cond.eq (Jvm.Term.elem (Jvm.Term.static "com/example/shrewd_spider/shrewdspider/net/AsciiBytes" "CLASSES" "[B") (Jvm.Term.int (10 : Int32))) (Jvm.Term.int (1 : Int32)))).value args s none s [] = some true) (u11 : ((Jvm.Cond.eq (Jvm.Term.elem (Jvm.Term.static "com/example/shrewd_spider/shrewdspider/net/AsciiBytes" "CLASSES" "[B") (Jvm.Term.int (11 : Int32))) (Jvm.Term.int (0 : Int32)))).value args s none s [] = some true) (u13 : ((Jvm.Cond.eq (Jvm.Term.elem (Jvm.Term.static "com/example/shrewd_spider/shrewdspider/net/AsciiBytes" "CLASSES" "[B") (Jvm.Term.int (12 : Int32))) (Jvm.Term.int (1 : Int32)))).value args s none s [] = some true) (u15 : ((Jvm.Cond.eq (Jvm.Term.elem (Jvm.Term.static "com/example/shrewd_spider/shrewdspider/net/AsciiBytes" "CLASSES" "[B") (Jvm.Term.int (13 : Int32))) (Jvm.Term.int (1 : Int32)))).value args s none s [] = some true) (u17 : ((Jvm.Cond.all (Jvm.Term.static "com/example/shrewd_spider/shrewdspider/net/AsciiBytes" "CLASSES" "[B") (Jvm.Cond.or (Jvm.Cond.lt (Jvm.Term.index (0 : Nat)) (Jvm.Term.int (14 : Int32))) (Jvm.Cond.or (Jvm.Cond.le (Jvm.Term.int (32 : Int32)) (Jvm.Term.index (0 : Nat))) (Jvm.Cond.eq (Jvm.Term.elem (Jvm.Term.static "com/example/shrewd_spider/shrewdspider/net/AsciiBytes" "CLASSES" "[B") (Jvm.Term.index (0 : Nat))) (Jvm.Term.int (0 : Int32))))))).value args s none s [] = some true) (u19 : ((Jvm.Cond.eq (Jvm.Term.elem (Jvm.Term.static "com/example/shrewd_spider/shrewdspider/net/AsciiBytes" "CLASSES" "[B") (Jvm.Term.int (32 : Int32))) (Jvm.Term.int (1 : Int32)))).value args s none s [] = some true) (u21 : ((Jvm.Cond.all (Jvm.Term.static "com/example/shrewd_spider/shrewdspider/net/AsciiBytes" "CLASSES" "[B") (Jvm.Cond.or (Jvm.Cond.lt (Jvm.Term.index (0 : Nat)) (Jvm.Term.int (33 : Int32))) (Jvm.Cond.or (Jvm.Cond.le (Jvm.Term.int (65 : Int32)) (Jvm.Term.index (0 : Nat))) (Jvm.Cond.eq (Jvm.Term.elem (Jvm.Term.static "com/example/shrewd_spider/shrewdspider/net/AsciiBytes" "CLASSES" "[B") (Jvm.Term.index (0 : Nat))) (Jvm.Term.int (0 : Int32))))))).value args s none s [] = some true) (u23 : ((Jvm.Cond.all (Jvm.Term.static "com/example/shrewd_spider/shrewdspider/net/AsciiBytes" "CLASSES" "[B") (Jvm.Cond.or (Jvm.Cond.lt (Jvm.Term.index (0 : Nat)) (Jvm.Term.int (65 : Int32))) (Jvm.Cond.or (Jvm.Cond.le (Jvm.Term.int (91 : Int32)) (Jvm.Term.index (0 : Nat))) (Jvm.Cond.eq (Jvm.Term.elem (Jvm.Term.static "com/example/shrewd_spider/shrewdspider/net/AsciiBytes" "CLASSES" "[B") (Jvm.Term.index (0 : Nat))) (Jvm.Term.int (2 : Int32))))))).value args s none s [] = some true) (u25 : ((Jvm.Cond.all (Jvm.Term.static "com/example/shrewd_spider/shrewdspider/net/AsciiBytes" "CLASSES" "[B") (Jvm.Cond.or (Jvm.Cond.lt (Jvm.Term.index (0 : Nat)) (Jvm.Term.int (91 : Int32))) (Jvm.Cond.or (Jvm.Cond.le (Jvm.Term.int (97 : Int32)) (Jvm.Term.index (0 : Nat))) (Jvm.Cond.eq (Jvm.Term.elem (Jvm.Term.static "com/example/shrewd_spider/shrewdspider/net/AsciiBytes" "CLASSES" "[B") (Jvm.Term.index (0 : Nat))) (Jvm.Term.int (0 : Int32))))))).value args s none s [] = some true) (u27 : ((Jvm.Cond.all (Jvm.Term.static "com/example/shrewd_spider/shrewdspider/net/AsciiBytes" "CLASSES" "[B") (Jvm.Cond.or (Jvm.Cond.lt (Jvm.Term.index (0 : Nat)) (Jvm.Term.int (97 : Int32))) (Jvm.Cond.or (Jvm.Cond.le (Jvm.Term.int (123 : Int32)) (Jvm.Term.index (0 : Nat))) (Jvm.Cond.eq (Jvm.Term.elem (Jvm.Term.static "com/example/shrewd_spider/shrewdspider/net/AsciiBytes" "CLASSES" "[B") (Jvm.Term.index (0 : Nat))) (Jvm.Term.int (2 : Int32))))))).value args s none s [] = some true) (u28 : ((Jvm.Cond.all (Jvm.Term.static "com/example/shrewd_spider/shrewdspider/net/AsciiBytes" "CLASSES" "[B") (Jvm.Cond.or (Jvm.Cond.lt (Jvm.Term.index (0 : Nat)) (Jvm.Term.int (123 : Int32))) (Jvm.Cond.eq (Jvm.Term.elem (Jvm.Term.static "com/example/shrewd_spider/shrewdspider/net/AsciiBytes" "CLASSES" "[B") (Jvm.Term.index (0 : Nat))) (Jvm.Term.int (0 : Int32)))))).value args s none s [] = some true) :
    (∀ b : Int32, ¬ ((b &&& (255 : Int32)) < 0 ∨ cl.slots.size ≤ (b &&& (255 : Int32)).toNatClampNeg)) ∧ (∀ b : Int32, (-128 ≤ b.toInt ∧ b.toInt < 256) → ∃ t, cl.slots[(b &&& (255 : Int32)).toNatClampNeg]? = some (.int t) ∧ (t &&& 2 = 0 ↔ ¬ own_alpha b)) := by
  have et : ∀ idx, (Jvm.Term.static "com/example/shrewd_spider/shrewdspider/net/AsciiBytes" "CLASSES" "[B").eval args s none idx s = some (.ref wC) := fun idx => ev
  have hA : s.arrayAt? wC = some cl := Ar.fin (Vm.Alike.refl _)
  have hlen := Cond.eq_int (Cond.before_iff.mpr u3) rfl
  have h31 := SBG.length_lt ev hA hlen
  have hsz : cl.slots.size = 256 := by
    have e : (Term.length (Jvm.Term.static "com/example/shrewd_spider/shrewdspider/net/AsciiBytes" "CLASSES" "[B")).eval args s none [] s = some (.int cl.slots.size.toInt32) := len_f ev hA h31
    have h2 : cl.slots.size.toInt32 = (256 : Int32) := by simpa using Option.some.inj (e.symm.trans hlen)
    have := congrArg Int32.toInt h2
    rw [len_toInt h31] at this
    have e4 : (256 : Int32).toInt = 256 := rfl
    omega
  have hj : ∀ b : Int32, 0 ≤ (b &&& (255 : Int32)).toInt ∧ (b &&& (255 : Int32)).toInt < 256 ∧ (b &&& (255 : Int32)).toInt = b.toInt % 256 := fun b => by
    have e := c_mask b 255 8 (by decide) (by decide); omega
  have z0 : (0 : Int32).toInt = 0 := rfl
  have hin : ∀ b : Int32, ¬ ((b &&& (255 : Int32)) < 0 ∨ cl.slots.size ≤ (b &&& (255 : Int32)).toNatClampNeg) := fun b q => by
    have := hj b
    rw [Int32.lt_iff_toInt_lt, z0, hsz] at q
    unfold Int32.toNatClampNeg at q
    omega
  refine ⟨hin, fun b hb => ?_⟩
  have hjb := hj b
  have hi := hin b
  generalize (b &&& (255 : Int32)) = j at hjb hi ⊢
  have hn : ¬ j < 0 := fun q => hi (Or.inl q)
  have hlt : j.toNatClampNeg < cl.slots.size := Nat.lt_of_not_le fun q => hi (Or.inr q)
  obtain ⟨w, hw⟩ : ∃ w, cl.slots[j.toNatClampNeg]? = some (.int w) := by
    have e := Array.getElem?_eq_getElem hlt
    have q := elem_fits hf Ar hi e
    revert q e
    generalize cl.slots[j.toNatClampNeg] = v
    intro e q
    cases v <;> simp [fits] at q
    exact ⟨_, e⟩
  refine ⟨w, hw, ?_⟩
  have ix : (Term.index 0).eval args s none [j.toNatClampNeg] s = some (.int j) := idx_at hn
  have el : (Term.elem (Jvm.Term.static "com/example/shrewd_spider/shrewdspider/net/AsciiBytes" "CLASSES" "[B") (.index 0)).eval args s none [j.toNatClampNeg] s = some (.int w) := (elem_f (et _) ix hA hn).trans hw
  have f1 := or_e2 (Cond.le_ints (Term.int_eval 9) ix) (Cond.eq_ints el (Term.int_eval 0)) (Cond.all_elim ev hA u5 j.toNatClampNeg hlt)
  have f2 : ¬ j = 9 ∨ w = 1 := (Classical.em (j = 9)).elim (fun q => Or.inr (by subst q; have e1 := (elem_f ev (Term.int_eval 9) hA (by decide)).symm.trans (Cond.eq_int (Cond.before_iff.mpr u7) rfl); rw [hw] at e1; exact Value.int.inj (Option.some.inj e1))) Or.inl
  have f3 : ¬ j = 10 ∨ w = 1 := (Classical.em (j = 10)).elim (fun q => Or.inr (by subst q; have e1 := (elem_f ev (Term.int_eval 10) hA (by decide)).symm.trans (Cond.eq_int (Cond.before_iff.mpr u9) rfl); rw [hw] at e1; exact Value.int.inj (Option.some.inj e1))) Or.inl
  have f4 : ¬ j = 11 ∨ w = 0 := (Classical.em (j = 11)).elim (fun q => Or.inr (by subst q; have e1 := (elem_f ev (Term.int_eval 11) hA (by decide)).symm.trans (Cond.eq_int (Cond.before_iff.mpr u11) rfl); rw [hw] at e1; exact Value.int.inj (Option.some.inj e1))) Or.inl
  have f5 : ¬ j = 12 ∨ w = 1 := (Classical.em (j = 12)).elim (fun q => Or.inr (by subst q; have e1 := (elem_f ev (Term.int_eval 12) hA (by decide)).symm.trans (Cond.eq_int (Cond.before_iff.mpr u13) rfl); rw [hw] at e1; exact Value.int.inj (Option.some.inj e1))) Or.inl
  have f6 : ¬ j = 13 ∨ w = 1 := (Classical.em (j = 13)).elim (fun q => Or.inr (by subst q; have e1 := (elem_f ev (Term.int_eval 13) hA (by decide)).symm.trans (Cond.eq_int (Cond.before_iff.mpr u15) rfl); rw [hw] at e1; exact Value.int.inj (Option.some.inj e1))) Or.inl
  have f7 := or3 (Cond.all_elim ev hA u17 j.toNatClampNeg hlt) (Cond.lt_ints ix (Term.int_eval 14)) (Cond.le_ints (Term.int_eval 32) ix) (Cond.eq_ints el (Term.int_eval 0))
  have f8 : ¬ j = 32 ∨ w = 1 := (Classical.em (j = 32)).elim (fun q => Or.inr (by subst q; have e1 := (elem_f ev (Term.int_eval 32) hA (by decide)).symm.trans (Cond.eq_int (Cond.before_iff.mpr u19) rfl); rw [hw] at e1; exact Value.int.inj (Option.some.inj e1))) Or.inl
  have f9 := or3 (Cond.all_elim ev hA u21 j.toNatClampNeg hlt) (Cond.lt_ints ix (Term.int_eval 33)) (Cond.le_ints (Term.int_eval 65) ix) (Cond.eq_ints el (Term.int_eval 0))
  have f10 := or3 (Cond.all_elim ev hA u23 j.toNatClampNeg hlt) (Cond.lt_ints ix (Term.int_eval 65)) (Cond.le_ints (Term.int_eval 91) ix) (Cond.eq_ints el (Term.int_eval 2))
  have f11 := or3 (Cond.all_elim ev hA u25 j.toNatClampNeg hlt) (Cond.lt_ints ix (Term.int_eval 91)) (Cond.le_ints (Term.int_eval 97) ix) (Cond.eq_ints el (Term.int_eval 0))
  have f12 := or3 (Cond.all_elim ev hA u27 j.toNatClampNeg hlt) (Cond.lt_ints ix (Term.int_eval 97)) (Cond.le_ints (Term.int_eval 123) ix) (Cond.eq_ints el (Term.int_eval 2))
  have f13 := or_e2 (Cond.lt_ints ix (Term.int_eval 123)) (Cond.eq_ints el (Term.int_eval 0)) (Cond.all_elim ev hA u28 j.toNatClampNeg hlt)
  simp only [Int32.lt_iff_toInt_lt, Int32.le_iff_toInt_le, ← Int32.toInt_inj] at f1 f2 f3 f4 f5 f6 f7 f8 f9 f10 f11 f12 f13
  have t0 : (0 : Int32).toInt = 0 := rfl
  have t1 : (1 : Int32).toInt = 1 := rfl
  have t2 : (2 : Int32).toInt = 2 := rfl
  have t9 : (9 : Int32).toInt = 9 := rfl
  have t10 : (10 : Int32).toInt = 10 := rfl
  have t11 : (11 : Int32).toInt = 11 := rfl
  have t12 : (12 : Int32).toInt = 12 := rfl
  have t13 : (13 : Int32).toInt = 13 := rfl
  have t14 : (14 : Int32).toInt = 14 := rfl
  have t32 : (32 : Int32).toInt = 32 := rfl
  have t33 : (33 : Int32).toInt = 33 := rfl
  have t65 : (65 : Int32).toInt = 65 := rfl
  have t90 : (90 : Int32).toInt = 90 := rfl
  have t91 : (91 : Int32).toInt = 91 := rfl
  have t97 : (97 : Int32).toInt = 97 := rfl
  have t122 : (122 : Int32).toInt = 122 := rfl
  have t123 : (123 : Int32).toInt = 123 := rfl
  simp only [t0, t1, t2, t9, t10, t11, t12, t13, t14, t32, t33, t65, t90, t91, t97, t122, t123] at f1 f2 f3 f4 f5 f6 f7 f8 f9 f10 f11 f12 f13
  have key : (w.toInt = 2 ∧ (65 ≤ j.toInt ∧ j.toInt ≤ 90 ∨ 97 ≤ j.toInt ∧ j.toInt ≤ 122)) ∨ ((w.toInt = 0 ∨ w.toInt = 1) ∧ ¬ (65 ≤ j.toInt ∧ j.toInt ≤ 90 ∨ 97 ≤ j.toInt ∧ j.toInt ≤ 122)) := by omega
  have al : own_alpha b ↔ (65 ≤ j.toInt ∧ j.toInt ≤ 90 ∨ 97 ≤ j.toInt ∧ j.toInt ≤ 122) := by
    unfold own_alpha
    simp only [Int32.lt_iff_toInt_lt, t65, t90, t97, t122]
    omega
  rw [al]
  rcases key with ⟨k1, k2⟩ | ⟨k1, k2⟩
  · obtain rfl : w = 2 := Int32.toInt_inj.mp k1
    exact ⟨fun q => absurd q (by decide), fun q => absurd k2 q⟩
  · rcases k1 with k1 | k1
    · obtain rfl : w = 0 := Int32.toInt_inj.mp k1
      exact ⟨fun _ => k2, fun _ => by decide⟩
    · obtain rfl : w = 1 := Int32.toInt_inj.mp k1
      exact ⟨fun _ => k2, fun _ => by decide⟩
set_option maxRecDepth 65536 in
set_option maxHeartbeats 40000000 in
theorem comes_1 {Post : Tables → Env → Array Value → State → Outcome → State → Prop} (hpost : ∀ tb e args s v u, (limb_1_1.after args s (.returned v) u = true ∧ limb_1_2.after args s (.returned v) u = true ∧ True) → FrameEnd s (.returned v) u (Jvm.fieldLocs frame_1_writes args s ++ Jvm.arrayLocs frame_1_arrays args s ++ Jvm.staticLocs frame_1_statics s) 0 0 → Post tb e args s (.returned v) u) :
    ArmFor flags0 classFile x code maxLocals ret World_1 tables_1 room_1 Calls_1 rest_1 Pre_1 Post := by
  intro l hfl _ _ p e ha hc hk s m args below hf hA hF happ hP
  obtain ⟨hcalls, hrest, hpre⟩ := hP
  obtain ⟨-, -, -, hnamed, -, -, -, hat⟩ := (Spec.applies_iff hf).mp happ
  obtain ⟨hg, hn⟩ := and_e (Cond.before_iff.mp (show (Jvm.Cond.and given_1 narrow_1).before args s = true from hpre))
  obtain ⟨g1, g2⟩ := and_e hg
  obtain ⟨g3, g4⟩ := and_e g2
  obtain ⟨w0, w1, rfl⟩ : ∃ w0 w1 : Value, args = #[w0, w1] := by
    have hs : args.size = 2 := by simpa [Cond.value, given_1] using g1
    obtain ⟨L⟩ := args
    match L, hs with
    | [w0, w1], _ => exact ⟨w0, w1, rfl⟩
  have hw := fun d (hd : d ∈ tables_1) => atoms_spec (ws := Jvm.Cond.code x code maxLocals ret :: tables_1) hat d (List.mem_cons_of_mem _ hd)
  have hfit : Fit s := fun {y c} hc i hi => by
    obtain ⟨ha, rfl⟩ := Array.getElem?_eq_some_iff.mp hc
    have q := List.all_eq_true.mp ((Array.all_eq_true_iff_forall_mem.mp hF) _ (Array.getElem_mem ha)) i (List.mem_range.mpr hi)
    simpa [Array.getElem?_eq_getElem hi] using q
  obtain ⟨i0, ei0⟩ := is_v g3
  obtain rfl : w0 = (.int i0) := Option.some.inj ei0
  obtain ⟨i1, ei1⟩ := is_v g4
  obtain rfl : w1 = (.int i1) := Option.some.inj ei1
  obtain ⟨u1, u2⟩ := and_e hn
  obtain ⟨u3, u4⟩ := and_e u2
  obtain ⟨u5, u6⟩ := and_e u4
  obtain ⟨u7, u8⟩ := and_e u6
  obtain ⟨u9, u10⟩ := and_e u8
  obtain ⟨u11, u12⟩ := and_e u10
  obtain ⟨u13, u14⟩ := and_e u12
  obtain ⟨u15, u16⟩ := and_e u14
  obtain ⟨u17, u18⟩ := and_e u16
  obtain ⟨u19, u20⟩ := and_e u18
  obtain ⟨u21, u22⟩ := and_e u20
  obtain ⟨u23, u24⟩ := and_e u22
  obtain ⟨u25, u26⟩ := and_e u24
  obtain ⟨u27, u28⟩ := and_e u26
  obtain ⟨wC, ev⟩ := arr_v u1
  have S_C := Sta.start ev (Or.inr ⟨(hw _ (List.mem_of_getElem? (i := 2) rfl)), (hw _ (List.mem_of_getElem? (i := 5) rfl))⟩)
  obtain ⟨cl, Ar⟩ := Arr.start ev u1
  obtain ⟨hin, htab⟩ := own_tab hfit ev Ar u3 u5 u7 u9 u11 u13 u15 u17 u19 u21 u23 u25 u27 u28
  obtain ⟨n, o, h1, h2, h3, _, L, rfl, ⟨rfl, N⟩, hq⟩ := rm0 l s _ hw tables_1 i0 i1 wC cl s.heap s.heap.size S_C Ar hin htab p e ha hc hk s m _ below hf ((Spec.applies_iff_loose hf).mp happ).1 ⟨rfl, State.Warmed39.refl s, rfl⟩ trivial
  refine ⟨n, _, h1, h2, h3, hpost _ _ _ _ _ _ ⟨Cond.after_iff.mpr rfl, Cond.after_iff.mpr (eq_i res_at (Term.int_eval (1)) rfl), trivial⟩ ⟨hq.1, hq.2.1, (hq.2.2.sift fun y hy => Or.inr (N y hy)).mono (by decide) (by decide)⟩⟩
theorem main_1_1 : Claimed_1_1 := comes_1 fun _ _ _ _ _ _ h hF => ⟨h.1, hF⟩
theorem main_1_2 : Claimed_1_2 := comes_1 fun _ _ _ _ _ _ h hF => ⟨h.2.1, hF⟩
end Jvm.Pilot.@@N@@
namespace Jvm.Pilot.@@N@@
open Jvm Jvm.ClassFile Sem Op Lib Jvm.Free Jvm.Stand Jvm.Pilot.@@N@@.Jvm.D
/-! MADE BY PROGRAM (witnessworld.py) out of the Statement's table words and the real class files: 9 classes; the members and pool entries that the words name. The judged class is class 1, her method 1. -/
namespace start1
open Jvm.ClassFile
def u (s : String) : CpInfo := .utf8 (stringToUtf16 s)
/-- a pool by its gaps: so many unusable entries, then the entry; so many at the end -/
def gap : Nat → List CpInfo → List CpInfo
  | 0, r => r
  | n + 1, r => .unusable :: gap n r
def poolList (es : List (Nat × CpInfo)) (last : Nat) : List CpInfo := es.foldr (fun e r => gap e.1 (e.2 :: r)) (gap last [])
def pool (es : List (Nat × CpInfo)) (last : Nat) : Array CpInfo := ⟨poolList es last⟩
def fileOf (pool : Array CpInfo) (this : Nat) (attrs : Array Attribute := #[]) (ms : Array MethodInfo := #[]) (fl : Nat := 33) (sup : Nat := 0) (ifs : Array Nat := #[]) (fds : Array FieldInfo := #[]) : ClassFile where
  minorVersion := 0
  majorVersion := 65
  constantPool := pool
  accessFlags := fl
  thisClass := this
  superClass := sup
  interfaces := ifs
  fields := fds
  methods := ms
  attributes := attrs
def plain (name : String) (sup : Option ClassId) : Class where
  name := name
  kind := .ordinary
  loader := none
  accessFlags := 33
  super := sup
  interfaces := #[]
  cf := none
  fields := #[]
  methods := #[]
  instanceTypes := #[]
  staticTypes := #[]
  resolved := #[]
  callSites := []
  init := .initialized
  statics := none
  mirror := none

def pool0 : Array CpInfo := pool [(5, u "<init>"), (0, u "()V"), (1, .class_ 10), (1, u "java/lang/Object")] 113

def k0m0 : Method := { name := "<init>", desc := "()V", sig := { parameters := [], returnType := none }, accessFlags := 1, code := none }
/-- java/lang/Object -/
def k0 : Class := { plain "java/lang/Object" none with
  accessFlags := 33
  interfaces := #[]
  cf := some (fileOf pool0 8 #[] #[{ accessFlags := 1, nameIndex := 5, descriptorIndex := 6, attributes := #[] }] 33 0 #[] #[])
  fields := #[]
  methods := #[k0m0]
  instanceTypes := #[]
  staticTypes := #[]
  resolved := Array.replicate 124 none
  statics := none }

def pool1 : Array CpInfo := pool [(2, .class_ 4), (1, u "java/lang/Object"), (0, u "<init>"), (0, u "()V"), (0, .methodref 8 9), (0, .class_ 10), (0, .nameAndType 11 12), (0, u "com/example/shrewd_spider/shrewdspider/net/AsciiBytes"), (0, u "isAlpha"), (0, u "(I)Z"), (0, .class_ 14), (0, u "com/example/shrewd_spider/shrewdspider/net/AsciiBytesIsAlphaPinLaw"), (2, u "law"), (0, u "(II)Z")] 3

def k1m0 : Method := { name := "<init>", desc := "()V", sig := { parameters := [], returnType := none }, accessFlags := 2, code := none }
def k1c1 : Code := { maxStack := 2, maxLocals := 4, code := code, exceptionTable := #[], attributes := #[] }
def k1m1 : Method := { name := "law", desc := "(II)Z", sig := { parameters := [.int, .int], returnType := some .boolean }, accessFlags := 9, code := some k1c1 }
/-- com/example/shrewd_spider/shrewdspider/net/AsciiBytesIsAlphaPinLaw -/
def k1 : Class := { plain "com/example/shrewd_spider/shrewdspider/net/AsciiBytesIsAlphaPinLaw" (some 0) with
  accessFlags := 49
  interfaces := #[]
  cf := some (fileOf pool1 13 #[] #[{ accessFlags := 2, nameIndex := 5, descriptorIndex := 6, attributes := #[] }, { accessFlags := 9, nameIndex := 17, descriptorIndex := 18, attributes := #[] }] 49 2 #[] #[])
  fields := #[]
  methods := #[k1m0, k1m1]
  instanceTypes := #[]
  staticTypes := #[]
  resolved := Array.replicate 22 none
  statics := none }

def pool2 : Array CpInfo := pool [(2, .class_ 4), (1, u "java/lang/Object"), (0, u "<init>"), (0, u "()V"), (0, .fieldref 8 9), (0, .class_ 10), (0, .nameAndType 11 12), (0, u "com/example/shrewd_spider/shrewdspider/net/AsciiBytes"), (0, u "CLASSES"), (0, u "[B"), (2, u "LOWERCASE"), (8, u "SPACE"), (0, u "I"), (2, u "ALPHA"), (4, u "(I)Z"), (1, u "isAlpha")] 8

def k2m0 : Method := { name := "<init>", desc := "()V", sig := { parameters := [], returnType := none }, accessFlags := 2, code := none }
def k2c1 : Code := { maxStack := 3, maxLocals := 1, code := prog_2_method_3_code, exceptionTable := #[], attributes := #[] }
def k2m1 : Method := { name := "isAlpha", desc := "(I)Z", sig := { parameters := [.int], returnType := some .boolean }, accessFlags := 8, code := some k2c1 }
/-- com/example/shrewd_spider/shrewdspider/net/AsciiBytes -/
def k2 : Class := { plain "com/example/shrewd_spider/shrewdspider/net/AsciiBytes" (some 0) with
  accessFlags := 48
  interfaces := #[]
  cf := some (fileOf pool2 8 #[] #[{ accessFlags := 2, nameIndex := 5, descriptorIndex := 6, attributes := #[] }, { accessFlags := 8, nameIndex := 35, descriptorIndex := 33, attributes := #[] }] 48 2 #[] #[{ accessFlags := 26, nameIndex := 24, descriptorIndex := 25, attributes := #[] }, { accessFlags := 26, nameIndex := 28, descriptorIndex := 25, attributes := #[] }, { accessFlags := 26, nameIndex := 11, descriptorIndex := 12, attributes := #[] }, { accessFlags := 26, nameIndex := 15, descriptorIndex := 12, attributes := #[] }])
  fields := #[{ name := "SPACE", type := .int, accessFlags := 26, slot := 0, constantValue := 0 }, { name := "ALPHA", type := .int, accessFlags := 26, slot := 1, constantValue := 0 }, { name := "CLASSES", type := (.array .byte), accessFlags := 26, slot := 2, constantValue := 0 }, { name := "LOWERCASE", type := (.array .byte), accessFlags := 26, slot := 3, constantValue := 0 }]
  methods := #[k2m0, k2m1]
  instanceTypes := #[]
  staticTypes := #[.int, .int, (.array .byte), (.array .byte)]
  resolved := Array.replicate 44 none
  statics := some 0 }

def pool3 : Array CpInfo := pool [(1, u "java/lang/Cloneable"), (0, .class_ 1), (0, u "java/lang/Object"), (0, .class_ 3)] 3

/-- java/lang/Cloneable -/
def k3 : Class := { plain "java/lang/Cloneable" (some 0) with
  accessFlags := 1537
  interfaces := #[]
  cf := some (fileOf pool3 2 #[] #[] 1537 4 #[] #[])
  fields := #[]
  methods := #[]
  instanceTypes := #[]
  staticTypes := #[]
  resolved := Array.replicate 8 none
  statics := none }

def pool4 : Array CpInfo := pool [(1, u "java/io/Serializable"), (0, .class_ 1), (0, u "java/lang/Object"), (0, .class_ 3)] 3

/-- java/io/Serializable -/
def k4 : Class := { plain "java/io/Serializable" (some 0) with
  accessFlags := 1537
  interfaces := #[]
  cf := some (fileOf pool4 2 #[] #[] 1537 4 #[] #[])
  fields := #[]
  methods := #[]
  instanceTypes := #[]
  staticTypes := #[]
  resolved := Array.replicate 8 none
  statics := none }

/-- the primitive byte -/
def k5 : Class := { plain "byte" none with kind := .primitive 'B', accessFlags := 0x411 }
/-- [B -/
def k6 : Class := { plain "[B" (some 0) with kind := .array 5 .byte, interfaces := #[3, 4], accessFlags := 1041 }

/-- the primitive int -/
def k7 : Class := { plain "int" none with kind := .primitive 'I', accessFlags := 0x411 }
/-- [I -/
def k8 : Class := { plain "[I" (some 0) with kind := .array 7 .int, interfaces := #[3, 4], accessFlags := 1041 }

def heap : Heap := #[{ cls := 2, slots := #[.int 0, .int 0, .ref 1, .null], vm := .statics 2 },
  { cls := 6, slots := #[.int 0, .int 0, .int 0, .int 0, .int 0, .int 0, .int 0, .int 0, .int 0, .int 1, .int 1, .int 0, .int 1, .int 1, .int 0, .int 0, .int 0, .int 0, .int 0, .int 0, .int 0, .int 0, .int 0, .int 0, .int 0, .int 0, .int 0, .int 0, .int 0, .int 0, .int 0, .int 0, .int 1, .int 0, .int 0, .int 0, .int 0, .int 0, .int 0, .int 0, .int 0, .int 0, .int 0, .int 0, .int 0, .int 0, .int 0, .int 0, .int 0, .int 0, .int 0, .int 0, .int 0, .int 0, .int 0, .int 0, .int 0, .int 0, .int 0, .int 0, .int 0, .int 0, .int 0, .int 0, .int 0, .int 2, .int 2, .int 2, .int 2, .int 2, .int 2, .int 2, .int 2, .int 2, .int 2, .int 2, .int 2, .int 2, .int 2, .int 2, .int 2, .int 2, .int 2, .int 2, .int 2, .int 2, .int 2, .int 2, .int 2, .int 2, .int 2, .int 0, .int 0, .int 0, .int 0, .int 0, .int 0, .int 2, .int 2, .int 2, .int 2, .int 2, .int 2, .int 2, .int 2, .int 2, .int 2, .int 2, .int 2, .int 2, .int 2, .int 2, .int 2, .int 2, .int 2, .int 2, .int 2, .int 2, .int 2, .int 2, .int 2, .int 2, .int 2, .int 0, .int 0, .int 0, .int 0, .int 0, .int 0, .int 0, .int 0, .int 0, .int 0, .int 0, .int 0, .int 0, .int 0, .int 0, .int 0, .int 0, .int 0, .int 0, .int 0, .int 0, .int 0, .int 0, .int 0, .int 0, .int 0, .int 0, .int 0, .int 0, .int 0, .int 0, .int 0, .int 0, .int 0, .int 0, .int 0, .int 0, .int 0, .int 0, .int 0, .int 0, .int 0, .int 0, .int 0, .int 0, .int 0, .int 0, .int 0, .int 0, .int 0, .int 0, .int 0, .int 0, .int 0, .int 0, .int 0, .int 0, .int 0, .int 0, .int 0, .int 0, .int 0, .int 0, .int 0, .int 0, .int 0, .int 0, .int 0, .int 0, .int 0, .int 0, .int 0, .int 0, .int 0, .int 0, .int 0, .int 0, .int 0, .int 0, .int 0, .int 0, .int 0, .int 0, .int 0, .int 0, .int 0, .int 0, .int 0, .int 0, .int 0, .int 0, .int 0, .int 0, .int 0, .int 0, .int 0, .int 0, .int 0, .int 0, .int 0, .int 0, .int 0, .int 0, .int 0, .int 0, .int 0, .int 0, .int 0, .int 0, .int 0, .int 0, .int 0, .int 0, .int 0, .int 0, .int 0, .int 0, .int 0, .int 0, .int 0, .int 0, .int 0, .int 0, .int 0, .int 0, .int 0, .int 0, .int 0, .int 0, .int 0, .int 0, .int 0, .int 0], vm := .none }]
def classes : Array Class := #[k0, k1, k2, k3, k4, k5, k6, k7, k8]
def interned : List (Array UInt16 × Addr) := []
def slotsUsed : Nat := 260
def theMethod : MethodId := ⟨1, 1⟩
def args0 : Array Value := #[.int 5, .int 1]
def aboutOver (below : List Frame) : State where
  vm := { classes := classes, interned := interned.toArray }
  heap := heap
  slotsUsed := slotsUsed
  threads := #[{ frames := .invoking theMethod args0 :: below }]
def below0 : List Frame := [.native { method := ⟨0, 0⟩, args := #[] }]
def about1 : State := aboutOver below0
def p0 : Program := .bare "" "" ""
def e0 : Env := launch0.env 0 0 0
theorem w_frames : about1.frames = Frame.invoking theMethod args0 :: below0 := rfl
set_option maxRecDepth 65536 in
theorem w_args : argsFit about1.vm theMethod args0 = true := by decide +kernel
set_option maxRecDepth 65536 in
theorem w_heap : heapFits about1 = true := by decide +kernel
set_option maxRecDepth 65536 in
theorem w_runnable : about1.curStatus? = some .runnable := by decide +kernel
set_option maxRecDepth 65536 in
theorem w_alone : about1.alone = true := by decide +kernel
set_option maxRecDepth 65536 in
theorem w_named : about1.methodNamed? x = some theMethod := by decide +kernel
set_option maxRecDepth 65536 in
theorem w_hears : about1.hears theMethod below0 = true := by decide +kernel
set_option maxRecDepth 65536 in
theorem w_ripe : about1.ripe theMethod args0 below0 = true := by decide +kernel
theorem w_running : about1.status = .running := rfl
set_option maxRecDepth 65536 in
theorem w_room : about1.hasRoom e0.platform room_1 = true :=
  launch0.hasRoom_least _ room_1 (by decide +kernel) (by decide +kernel) (by decide +kernel) (by decide +kernel) (by decide +kernel) (by decide +kernel)
theorem allAtoms_all (ts : List Jvm.Cond) (a : Array Jvm.Value) (st : Jvm.State) : (allAtoms ts).before a st = ts.all (fun c => c.before a st) := by
  induction ts with
  | nil => rfl
  | cons c t ih =>
    show (Jvm.Cond.and c (allAtoms t)).before a st = _
    rw [Jvm.Cond.before_and, ih, List.all_cons]
def words1 : List Jvm.Cond := Jvm.Cond.code x code maxLocals ret :: tables_1
/-- a 'code' word, met by the world's own term for the bytes: nothing is compared byte by byte -/
theorem code_word {y : MethodName} {bytes : ByteArray} {mx : Nat} {rt : Option FieldType} {a : Array Value} {s : State} {m : MethodId} {meth : Method} {c : Code} (h1 : s.methodNamed? y = some m) (h2 : s.vm.method? m = some meth) (h3 : meth.code = some c) (h4 : c.code = bytes)
    (h5 : (c.maxLocals == mx && c.exceptionTable.isEmpty && decide (c.maxStack ≤ mostOperands) && decide (meth.sig.returnType = rt) && !meth.locks && decide (parseMethodDescriptor y.desc = some meth.sig)) = true) : (Jvm.Cond.code y bytes mx rt).before a s = true := by
  simp only [Bool.and_eq_true, beq_iff_eq, Bool.not_eq_true', decide_eq_true_eq] at h5
  obtain ⟨⟨⟨⟨⟨g1, g2⟩, g3⟩, g4⟩, g5⟩, g6⟩ := h5
  simp [Cond.before, Cond.holds, Cond.value, h1, h2, h3, h4, g1, g2, g3, g4, g5, g6]
def isCode : Jvm.Cond → Bool
  | .code _ _ _ _ => true
  | _ => false
theorem all_split {L : List Jvm.Cond} {P : Jvm.Cond → Bool} (h1 : L.all (fun c => isCode c || P c) = true) (h2 : ∀ c ∈ L.filter isCode, P c = true) : L.all P = true := by
  refine List.all_eq_true.mpr fun c hc => ?_
  have h := List.all_eq_true.mp h1 c hc
  rcases Bool.eq_false_or_eq_true (isCode c) with hi | hi
  · exact h2 c (List.mem_filter.mpr ⟨hc, hi⟩)
  · simpa [hi] using h
set_option maxRecDepth 65536 in
theorem w_c0 : (Jvm.Cond.code x code maxLocals ret).before args0 about1 = true := code_word (m := ⟨1, 1⟩) (meth := k1m1) (c := k1c1) (by decide +kernel) rfl rfl rfl (by decide +kernel)
set_option maxRecDepth 65536 in
theorem w_c1 : (Jvm.Cond.code ({ cls := "com/example/shrewd_spider/shrewdspider/net/AsciiBytes", name := "isAlpha", desc := "(I)Z" } : Jvm.MethodName) prog_2_method_3_code (1 : Nat) (Option.some Jvm.ClassFile.FieldType.boolean)).before args0 about1 = true := code_word (m := ⟨2, 1⟩) (meth := k2m1) (c := k2c1) (by decide +kernel) rfl rfl rfl (by decide +kernel)
def codes1 : List Jvm.Cond := [Jvm.Cond.code x code maxLocals ret, Jvm.Cond.code ({ cls := "com/example/shrewd_spider/shrewdspider/net/AsciiBytes", name := "isAlpha", desc := "(I)Z" } : Jvm.MethodName) prog_2_method_3_code (1 : Nat) (Option.some Jvm.ClassFile.FieldType.boolean)]
set_option maxRecDepth 65536 in
theorem codes_eq : words1.filter isCode = codes1 := rfl
theorem w_codes : ∀ c ∈ words1.filter isCode, c.before args0 about1 = true := by
  rw [codes_eq]
  intro c hc
  simp only [codes1, List.mem_cons, List.not_mem_nil, or_false] at hc
  rcases hc with rfl | rfl
  · exact w_c0
  · exact w_c1
set_option maxRecDepth 65536 in
theorem w_t1 : words1.all (fun c => isCode c || c.before args0 about1) = true := by decide +kernel
theorem w_tables : (allAtoms (Jvm.Cond.code x code maxLocals ret :: tables_1)).before args0 about1 = true := by
  rw [allAtoms_all]
  show words1.all (fun c => c.before args0 about1) = true
  refine all_split ?_ w_codes
  rw [w_t1]
set_option maxRecDepth 65536 in
theorem w_case : (Jvm.Cond.and given_1 narrow_1).before args0 about1 = true := by decide +kernel
theorem w_applies : (headSpec (Jvm.Cond.code x code maxLocals ret :: tables_1) room_1).applies x e0.platform about1 = true :=
  (Spec.applies_iff w_frames).mpr ⟨w_running, w_runnable, w_alone, w_named, w_hears, w_ripe, w_room, w_tables⟩
theorem atStart : AtStart classFile x code maxLocals ret World_1 tables_1 room_1 Calls_1 rest_1 Pre_1 launch0 p0 e0 about1 theMethod args0 below0 :=
  ⟨lists_1, trivial, launch0.admits_env _ _ _, launch0.least_env, fairChoices_fair.cas, fairChoices_fair.clock, w_frames, w_args, w_heap, w_applies, trivial, trivial, w_case⟩
end start1
theorem witness_1 : WitnessClaimed_1 := ⟨start1.p0, start1.e0, start1.about1, start1.theMethod, start1.args0, start1.below0, start1.atStart⟩
end Jvm.Pilot.@@N@@
