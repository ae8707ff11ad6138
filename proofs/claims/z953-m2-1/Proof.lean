import JvmDerived
import JvmDerived.Pilot.@@N@@Statement
import JvmDerived.Pilot.@@N@@Code
set_option linter.unusedVariables false
set_option linter.unusedSimpArgs false
namespace Jvm.RoadKit
open Sem ClassFile Op Lib Jvm.Stand Jvm.Free Jvm.LawKit
section New
variable {p : Program} {l : Launch} {e : Env} {R : Room} {s : State} {m : MethodId} {args : Array Value} {below : List Frame} {meth : Method} {c : Code} {T : State} {locs : List Loc} {cells slots : Nat}
theorem retI (X : Stand p l e R s m args below meth c T locs cells slots) (hx : p.tables.exec = Jvm.exec) {pc : Nat} {Ls : Array Slot} {z : Int32} {rest : List Value} (hret : meth.sig.returnType = some .int) (hd : decode c.code pc = .ok (.ireturn, 1)) {fs : List Frame}
    (hl : ∀ (f : JFrame) (acts : List Action), f.method = m → f.locked = none → f.entered = [] → (doReturn e (T.setTop f) acts (some (.int z))).1 = T.setFrames fs) : Steps p.tables e below (T.setTop (mkF m pc Ls (.int z :: rest))) (T.setFrames fs) := by
  have hm' : T.vm.method? m = some meth := X.method'
  have hn : narrow .int (.int z) = .int z := rfl
  show Steps p.tables e below (T.setTop { method := m, pc := pc, locals := Ls, stack := _ :: rest, locked := none }) _
  jvm_step X.here [X.here.top, hx, hd, hm', hret, hn]
  first | (intro acts; rw [hl _ acts rfl rfl rfl]) | rw [hl _ _ rfl rfl rfl]
  exact Steps.refl _
/-- the run from U on ends as W says -/
def Onw (p : Program) (e : Env) (below : List Frame) (W : Outcome → State → Prop) (U : State) : Prop :=
  ∃ s₂ o, Steps p.tables e below U s₂ ∧ s₂.status = .running ∧ Ended s₂ below o ∧ W o s₂
theorem Onw.go {W : Outcome → State → Prop} {U U' : State} (h : ∀ t, Steps p.tables e below U' t → Steps p.tables e below U t) (k : Onw p e below W U') : Onw p e below W U := by
  obtain ⟨s₂, o, h1, h2⟩ := k
  exact ⟨s₂, o, h _ h1, h2⟩
theorem Onw.of {W : Outcome → State → Prop} {U : State} (k : Onw p e below W U) : ∃ s₂ o, Steps p.tables e below U s₂ ∧ s₂.status = .running ∧ Ended s₂ below o ∧ W o s₂ := k
/-- the end of a walk -/
theorem Onw.ret (X : Stand p l e R s m args below meth c T locs cells slots) (hlk : meth.locks = false) {U : State} {v : Option Value} (hv : meth.sig.returnType = none → v = none)
    (hs : ∀ fs, (∀ (f : JFrame) (acts : List Action), f.method = m → f.locked = none → f.entered = [] → (doReturn e (T.setTop f) acts v).1 = T.setFrames fs) → Steps p.tables e below U (T.setFrames fs))
    {Q : Option Value → Heap → List Loc → Prop} (hQ : Q v T.heap locs) {k n : Nat} (hk : cells ≤ k) (hn : slots ≤ n) :
    Onw p e below (fun o s₂ => ∃ v L, o = .returned v ∧ Q v s₂.heap L ∧ FrameEnd s o s₂ L k n) U := by
  obtain ⟨fs, hr, hrun, hended, hW, hsame⟩ := X.leave (v := v) hv hlk
  exact ⟨_, _, hs fs hr, hrun, hended, v, locs, rfl, hQ, ⟨_, rfl⟩, hW, hsame.mono hk hn⟩
/-- .. where Strings may have been interned -/
theorem Onw.retW {vm₁ : Vm} (X : Stand p l e R (s.setVm vm₁) m args below meth c T locs cells slots) {j : Nat} (hS : s.Since vm₁ j) (hj : j ≤ T.heap.size) (hlk : meth.locks = false) {U : State} {v : Option Value} (hv : meth.sig.returnType = none → v = none)
    (hs : ∀ fs, (∀ (f : JFrame) (acts : List Action), f.method = m → f.locked = none → f.entered = [] → (doReturn e (T.setTop f) acts v).1 = T.setFrames fs) → Steps p.tables e below U (T.setFrames fs))
    {Q : Option Value → Heap → List Loc → Prop} (hQ : Q v T.heap locs) {k n : Nat} (hk : cells ≤ k) (hn : slots ≤ n) :
    Onw p e below (fun o s₂ => ∃ v L, o = .returned v ∧ Q v s₂.heap L ∧ ReturnedEndW s o s₂ L k n) U := by
  obtain ⟨fs, hr, hrun, hended, hE⟩ := X.leaveW hS hj (v := v) hv hlk
  exact ⟨_, _, hs fs hr, hrun, hended, v, locs, rfl, hQ, hE.1, hE.2.1, hE.2.2.1, hE.2.2.2.mono hk hn⟩
end New
end Jvm.RoadKit
namespace Jvm.Pilot.@@N@@
open Jvm Jvm.ClassFile Sem Op Lib Jvm.Free Jvm.Stand Jvm.LawKit Jvm.RoadKit Bundle Jvm.Pilot.@@N@@.Jvm.D
theorem pd_0 : parseMethodDescriptor "()Z" = some ⟨[], some .boolean⟩ := by decide +kernel
theorem pd_1 : parseMethodDescriptor "()Ljava/lang/String;" = some ⟨[], some (.object "java/lang/String")⟩ := by decide +kernel
theorem pd_2 : parseMethodDescriptor "(Ljava/lang/Object;)Z" = some ⟨[(.object "java/lang/Object")], some .boolean⟩ := by decide +kernel
theorem pd_3 : parseMethodDescriptor "([B[B)Z" = some ⟨[(.array .byte), (.array .byte)], some .boolean⟩ := by decide +kernel
def own_on (a e q : Addr) : Int32 := if a = e then 1 else if a = q then 1 else 0
def own_eq (as bs : List Int32) : Int32 := if as = bs then 1 else 0
theorem own_ofNat {n : Nat} (h : n ≤ 1000) : (Int32.ofNat n).toInt = n := Int32.toInt_ofNat_small (by omega)
theorem own_clamp {n : Nat} (h : n ≤ 1000) : (Int32.ofNat n).toNatClampNeg = n := by unfold Int32.toNatClampNeg; rw [own_ofNat h]; rfl
theorem own_inj {n m : Nat} (hn : n ≤ 1000) (hm : m ≤ 1000) (h : Int32.ofNat n = Int32.ofNat m) : n = m := by
  have := congrArg Int32.toInt h
  rw [own_ofNat hn, own_ofNat hm] at this
  omega
theorem own_lt {n m : Nat} (hn : n ≤ 1000) (hm : m ≤ 1000) : Int32.ofNat n < Int32.ofNat m ↔ n < m := by
  rw [Int32.lt_iff_toInt_lt, own_ofNat hn, own_ofNat hm]
  omega
theorem own_getD (as : List Int32) (i : Nat) (h : i < as.length) (d : Value) : (as.map Value.int).getD i d = .int (as.getD i 0) := by
  simp [List.getD, h]
theorem own_at {cl : Cell} {as : List Int32} (la : as.length ≤ 1000) (S : cl.slots.size = (Int32.ofNat as.length).toNatClampNeg) (H : Has cl (as.map Value.int) (.int (0 : Int32))) (i : Nat) (hi : i < as.length) :
    ¬ (Int32.ofNat i < 0 ∨ cl.slots.size ≤ (Int32.ofNat i).toNatClampNeg) ∧ cl.slots[(Int32.ofNat i).toNatClampNeg]? = some (.int (as.getD i 0)) := by
  rw [own_clamp la] at S
  have e := own_ofNat (n := i) (by omega)
  have t0 : (0 : Int32).toInt = 0 := rfl
  rw [own_clamp (by omega)]
  refine ⟨?_, ?_⟩
  · rw [Int32.lt_iff_toInt_lt, e, t0, S]; omega
  · rw [H i (by omega), own_getD as i hi]
theorem own_ext {as bs : List Int32} (hl : as.length = bs.length) (h : ∀ j, j < as.length → as.getD j 0 = bs.getD j 0) : as = bs := by
  apply List.ext_getElem hl
  intro j h1 h2
  have := h j h1
  simpa [List.getD, h1, h2] using this
theorem own_arv_eq {Z : State} {h : Heap} {t : Addr} {k k' : ClassId} {as bs : List Int32} (la : as.length ≤ 1000) (lb : bs.length ≤ 1000) (A : Arv Z h t k .byte (Int32.ofNat as.length) (as.map Value.int) (.int (0 : Int32))) (B : Arv Z h t k' .byte (Int32.ofNat bs.length) (bs.map Value.int) (.int (0 : Int32))) : as = bs := by
  obtain ⟨c, Ac, -, Sc, -, Hc, -⟩ := A
  obtain ⟨d, Ad, -, Sd, -, Hd, -⟩ := B
  cases Ac.1.symm.trans Ad.1
  rw [own_clamp la] at Sc
  rw [own_clamp lb] at Sd
  have hl : as.length = bs.length := by omega
  refine own_ext hl fun j hj => ?_
  have e1 := Hc j (by omega)
  have e2 := Hd j (by omega)
  rw [own_getD as j hj] at e1
  rw [own_getD bs j (by omega)] at e2
  exact Value.int.inj (Option.some.inj (e1.symm.trans e2))
theorem own_val_eq {Z : State} {h : Heap} {a t t' : Addr} {C n d : String} (F : Fld Z h a C n d (.ref t)) (G : Fld Z h a C n d (.ref t')) : t = t' :=
  Classical.byContradiction fun q => Fld.ne F G (fun e => q (Value.ref.inj e)) rfl
theorem own_ib0 {s Z : State} (h : s = Z) : IB Z s.vm [] := by subst h; exact IB.start
theorem own_k3 (x k : Int32) (hk : k = x &&& (3 : Int32)) (h0 : ¬ k = 0) (h1 : ¬ k = 1) : ¬ k < 2 := fun q => by
  have e := c_mask x 3 2 (by decide) (by decide)
  rw [← hk] at e
  rw [Int32.lt_iff_toInt_lt] at q
  have t2 : (2 : Int32).toInt = 2 := rfl
  have a0 : ¬ k.toInt = 0 := fun r => h0 (Int32.toInt_inj.mp r)
  have a1 : ¬ k.toInt = 1 := fun r => h1 (Int32.toInt_inj.mp r)
  omega
theorem pn_0 : plainName "com/example/callstone/callstone/Privilege$Action" = true := by first | (simp [plainName, overriddenIn]; done) | decide +kernel
theorem ef_1 (m : MethodId) (x0 : Addr) : entryFrame m #[(.ref x0)] 1 = mkF m 0 #[.val (.ref x0)] [] := by first | (simp [entryFrame, mkF, argsToLocals, Value.category]; done) | rfl
def Q_rm1 (Z : State) (r0 : Addr) (cE cP : Addr) (h0 : Heap) (n0 : Nat) (v : Option Value) (h : Heap) (L : List Loc) : Prop := v = some (.int (own_on r0 cE cP)) ∧ Fr n0 L ∧ h = h0
theorem d1_0 : decode prog_156_method_6_code 0 = .ok (.aload_n 0, 1) := by decide +kernel
theorem d1_1 : decode prog_156_method_6_code 1 = .ok (.getstatic 10, 3) := by decide +kernel
theorem d1_4 : decode prog_156_method_6_code 4 = .ok (.if_acmp .eq 10, 3) := by decide +kernel
theorem d1_7 : decode prog_156_method_6_code 7 = .ok (.aload_n 0, 1) := by decide +kernel
theorem d1_8 : decode prog_156_method_6_code 8 = .ok (.getstatic 13, 3) := by decide +kernel
theorem d1_11 : decode prog_156_method_6_code 11 = .ok (.if_acmp .ne 7, 3) := by decide +kernel
theorem d1_14 : decode prog_156_method_6_code 14 = .ok (.iconst 1, 1) := by decide +kernel
theorem d1_15 : decode prog_156_method_6_code 15 = .ok (.goto 4, 3) := by decide +kernel
theorem d1_18 : decode prog_156_method_6_code 18 = .ok (.iconst 0, 1) := by decide +kernel
theorem d1_19 : decode prog_156_method_6_code 19 = .ok (.ireturn, 1) := by decide +kernel
set_option maxRecDepth 65536 in
set_option maxHeartbeats 40000000 in
theorem rm1 (l : Launch) (Z : State) (a0 : Array Value) (hw : ∀ d ∈ tables_1, d.before a0 Z = true) (ws : List Jvm.Cond) (r0 : Addr) (cE cP : Addr) (h0 : Heap) (n0 : Nat) (S_E : Sta Z h0 "com/example/callstone/callstone/Privilege$Action" "EXECUTE" "Lcom/example/callstone/callstone/Privilege$Action;" (.ref cE)) (S_P : Sta Z h0 "com/example/callstone/callstone/Privilege$Action" "EXECUTE_PROCEDURE" "Lcom/example/callstone/callstone/Privilege$Action;" (.ref cP)) :
    MetFree l (⟨"com/example/callstone/callstone/Privilege$Action", "isOnRoutines", "()Z"⟩ : MethodName) (head1 (Jvm.Cond.code (⟨"com/example/callstone/callstone/Privilege$Action", "isOnRoutines", "()Z"⟩ : MethodName) prog_156_method_6_code 1 (some .boolean) :: ws) ({ frames := 0, cells := 0, slots := 0, locals := 0 } : Room)) (fun a U => a = #[(.ref r0)] ∧ Z.Warmed39 U.vm ∧ U.heap = h0) (fun _ _ _ _ _ => True) (fun _ U o U' => ∃ v L, o = .returned v ∧ Q_rm1 Z r0 cE cP h0 n0 v U'.heap L ∧ FrameEnd U o U' L ({ frames := 0, cells := 0, slots := 0, locals := 0 } : Room).cells ({ frames := 0, cells := 0, slots := 0, locals := 0 } : Room).slots) := by
  refine MetFree.of_bodySF (plainFor_of_name pn_0) hisR ?_
  intro p e s m args below meth c s₁ Bd hml0 hP hK
  obtain ⟨rfl, hZ, hh⟩ := hP
  have hx := Bd.exec
  have hby := Bd.bytes
  have hml : c.maxLocals = 1 := hml0
  have hown : s.vm.findClass "com/example/callstone/callstone/Privilege$Action" = some m.cls := findClass_of_methodNamed Bd.named
  have hnm := (name_of_methodNamed Bd.named Bd.method).1
  have X0 : Stand p l e ({ frames := 0, cells := 0, slots := 0, locals := 0 } : Room) s m #[(.ref r0)] below meth c s₁ [] 0 0 := Stand.of_body Bd
  have e0 : s₁.heap = h0 := by rw [← hh, Bd.state]; rfl
  have N0 := Fr.nil n0
  refine Onw.of (Onw.go (fun own_u k => castTop (ef_1 m r0) k) ?_)
  show Onw p e below _ (s₁.setTop (mkF m 0 #[.val (.ref r0)] []))
  refine Onw.go (fun own_u kt => XS.aloadN X0.here hx rfl (hb hby d1_0) rfl rfl kt) ?_
  show Onw p e below _ (s₁.setTop (mkF m 1 #[.val (.ref r0)] [(.ref r0)]))
  obtain ⟨T1, X1, e1, st1⟩ := getS2 X0 hx hZ hown (host := "") (Or.inl (hw _ (List.mem_of_getElem? (i := 8) rfl))) Via.refl e0 S_E (g := (mkF m 1 #[.val (.ref r0)] [(.ref r0)])) rfl (hb hby d1_1)
  refine Onw.go st1 ?_
  show Onw p e below _ (T1.setTop (mkF m 4 #[.val (.ref r0)] [(.ref cE), (.ref r0)]))
  by_cases h1 : r0 = cE
  · refine Onw.go (fun own_u kt => Jvm.RoadKit.acmp (g := (mkF m 4 #[.val (.ref r0)] [(.ref cE), (.ref r0)])) X1 hx rfl rfl rfl (pc0 := 4) (pc' := 14) (same := true) rfl (hb hby d1_4) rfl (decide_eq_true (congrArg Value.ref (h1 : r0 = cE))) (by decide) (by decide) kt) ?_
    show Onw p e below _ (T1.setTop (mkF m 14 #[.val (.ref r0)] []))
    refine Onw.go (fun own_u kt => XS.iconst X1.here hx rfl (hb hby d1_14) kt) ?_
    show Onw p e below _ (T1.setTop (mkF m 15 #[.val (.ref r0)] [(.int (1 : Int32))]))
    refine Onw.go (fun own_u kt => XS.goto X1.here hx rfl (pc0 := 15) (pc' := 19) rfl (hb hby d1_15) (by decide) (by decide) kt) ?_
    show Onw p e below _ (T1.setTop (mkF m 19 #[.val (.ref r0)] [(.int (1 : Int32))]))
    exact Onw.ret X1 Bd.notSynchronized (fun h => by rw [Bd.returns] at h; cases h) (fun fs hr => retN X1 hx (t := .boolean) Bd.returns (by simp) (hb hby d1_19) hr) ⟨(by show some (Value.int (nar .boolean 1)) = _; unfold own_on; rw [if_pos h1]; rfl), N0, e1⟩ (by decide) (by decide)
  · refine Onw.go (fun own_u kt => Jvm.RoadKit.acmp (g := (mkF m 4 #[.val (.ref r0)] [(.ref cE), (.ref r0)])) X1 hx rfl rfl rfl (pc0 := 4) (pc' := 7) (same := false) rfl (hb hby d1_4) rfl (decide_eq_false fun q => (h1 : ¬ (r0 = cE)) (Value.ref.inj q)) (by decide) (by decide) kt) ?_
    show Onw p e below _ (T1.setTop (mkF m 7 #[.val (.ref r0)] []))
    refine Onw.go (fun own_u kt => XS.aloadN X1.here hx rfl (hb hby d1_7) rfl rfl kt) ?_
    show Onw p e below _ (T1.setTop (mkF m 8 #[.val (.ref r0)] [(.ref r0)]))
    obtain ⟨T2, X2, e2, st2⟩ := getS2 X1 hx hZ hown (host := "") (Or.inl (hw _ (List.mem_of_getElem? (i := 10) rfl))) Via.refl e1 S_P (g := (mkF m 8 #[.val (.ref r0)] [(.ref r0)])) rfl (hb hby d1_8)
    refine Onw.go st2 ?_
    show Onw p e below _ (T2.setTop (mkF m 11 #[.val (.ref r0)] [(.ref cP), (.ref r0)]))
    by_cases h2 : r0 = cP
    · refine Onw.go (fun own_u kt => Jvm.RoadKit.acmp (g := (mkF m 11 #[.val (.ref r0)] [(.ref cP), (.ref r0)])) X2 hx rfl rfl rfl (pc0 := 11) (pc' := 14) (same := true) rfl (hb hby d1_11) rfl (decide_eq_true (congrArg Value.ref (h2 : r0 = cP))) (by decide) (by decide) kt) ?_
      show Onw p e below _ (T2.setTop (mkF m 14 #[.val (.ref r0)] []))
      refine Onw.go (fun own_u kt => XS.iconst X2.here hx rfl (hb hby d1_14) kt) ?_
      show Onw p e below _ (T2.setTop (mkF m 15 #[.val (.ref r0)] [(.int (1 : Int32))]))
      refine Onw.go (fun own_u kt => XS.goto X2.here hx rfl (pc0 := 15) (pc' := 19) rfl (hb hby d1_15) (by decide) (by decide) kt) ?_
      show Onw p e below _ (T2.setTop (mkF m 19 #[.val (.ref r0)] [(.int (1 : Int32))]))
      exact Onw.ret X2 Bd.notSynchronized (fun h => by rw [Bd.returns] at h; cases h) (fun fs hr => retN X2 hx (t := .boolean) Bd.returns (by simp) (hb hby d1_19) hr) ⟨(by show some (Value.int (nar .boolean 1)) = _; unfold own_on; rw [if_neg h1, if_pos h2]; rfl), N0, e2⟩ (by decide) (by decide)
    · refine Onw.go (fun own_u kt => Jvm.RoadKit.acmp (g := (mkF m 11 #[.val (.ref r0)] [(.ref cP), (.ref r0)])) X2 hx rfl rfl rfl (pc0 := 11) (pc' := 18) (same := false) rfl (hb hby d1_11) rfl (decide_eq_false fun q => (h2 : ¬ (r0 = cP)) (Value.ref.inj q)) (by decide) (by decide) kt) ?_
      show Onw p e below _ (T2.setTop (mkF m 18 #[.val (.ref r0)] []))
      refine Onw.go (fun own_u kt => XS.iconst X2.here hx rfl (hb hby d1_18) kt) ?_
      show Onw p e below _ (T2.setTop (mkF m 19 #[.val (.ref r0)] [(.int (0 : Int32))]))
      exact Onw.ret X2 Bd.notSynchronized (fun h => by rw [Bd.returns] at h; cases h) (fun fs hr => retN X2 hx (t := .boolean) Bd.returns (by simp) (hb hby d1_19) hr) ⟨(by show some (Value.int (nar .boolean 0)) = _; unfold own_on; rw [if_neg h1, if_neg h2]; rfl), N0, e2⟩ (by decide) (by decide)
theorem ef_2 (m : MethodId) (x0 : Addr) : entryFrame m #[(.ref x0)] 1 = mkF m 0 #[.val (.ref x0)] [] := by first | (simp [entryFrame, mkF, argsToLocals, Value.category]; done) | rfl
def Q_rm2 (Z : State) (r0 : Addr) (t : Addr) (h0 : Heap) (n0 : Nat) (v : Option Value) (h : Heap) (L : List Loc) : Prop := v = some (.ref t) ∧ Fr n0 L ∧ h = h0
theorem d2_0 : decode prog_156_method_5_code 0 = .ok (.aload_n 0, 1) := by decide +kernel
theorem d2_1 : decode prog_156_method_5_code 1 = .ok (.getfield 39, 3) := by decide +kernel
theorem d2_4 : decode prog_156_method_5_code 4 = .ok (.areturn, 1) := by decide +kernel
set_option maxRecDepth 65536 in
set_option maxHeartbeats 40000000 in
theorem rm2 (l : Launch) (Z : State) (a0 : Array Value) (hw : ∀ d ∈ tables_1, d.before a0 Z = true) (ws : List Jvm.Cond) (r0 : Addr) (t : Addr) (h0 : Heap) (n0 : Nat) (F0 : Fld Z h0 r0 "com/example/callstone/callstone/Privilege$Action" "objectType" "Ljava/lang/String;" (.ref t)) :
    MetFree l (⟨"com/example/callstone/callstone/Privilege$Action", "objectType", "()Ljava/lang/String;"⟩ : MethodName) (head1 (Jvm.Cond.code (⟨"com/example/callstone/callstone/Privilege$Action", "objectType", "()Ljava/lang/String;"⟩ : MethodName) prog_156_method_5_code 1 (some (.object "java/lang/String")) :: ws) ({ frames := 0, cells := 0, slots := 0, locals := 0 } : Room)) (fun a U => a = #[(.ref r0)] ∧ Z.Warmed39 U.vm ∧ U.heap = h0) (fun _ _ _ _ _ => True) (fun _ U o U' => ∃ v L, o = .returned v ∧ Q_rm2 Z r0 t h0 n0 v U'.heap L ∧ FrameEnd U o U' L ({ frames := 0, cells := 0, slots := 0, locals := 0 } : Room).cells ({ frames := 0, cells := 0, slots := 0, locals := 0 } : Room).slots) := by
  refine MetFree.of_bodySF (plainFor_of_name pn_0) hisR ?_
  intro p e s m args below meth c s₁ Bd hml0 hP hK
  obtain ⟨rfl, hZ, hh⟩ := hP
  have hx := Bd.exec
  have hby := Bd.bytes
  have hml : c.maxLocals = 1 := hml0
  have hown : s.vm.findClass "com/example/callstone/callstone/Privilege$Action" = some m.cls := findClass_of_methodNamed Bd.named
  have hnm := (name_of_methodNamed Bd.named Bd.method).1
  have X0 : Stand p l e ({ frames := 0, cells := 0, slots := 0, locals := 0 } : Room) s m #[(.ref r0)] below meth c s₁ [] 0 0 := Stand.of_body Bd
  have e0 : s₁.heap = h0 := by rw [← hh, Bd.state]; rfl
  have N0 := Fr.nil n0
  refine Onw.of (Onw.go (fun own_u k => castTop (ef_2 m r0) k) ?_)
  show Onw p e below _ (s₁.setTop (mkF m 0 #[.val (.ref r0)] []))
  refine Onw.go (fun own_u kt => XS.aloadN X0.here hx rfl (hb hby d2_0) rfl rfl kt) ?_
  show Onw p e below _ (s₁.setTop (mkF m 1 #[.val (.ref r0)] [(.ref r0)]))
  obtain ⟨T1, X1, e1, st1⟩ := getF X0 hx hZ hown (host := "") (Or.inl (hw _ (List.mem_of_getElem? (i := 17) rfl))) Via.refl e0 F0 (g := (mkF m 1 #[.val (.ref r0)] [(.ref r0)])) rfl rfl (hb hby d2_1)
  refine Onw.go st1 ?_
  show Onw p e below _ (T1.setTop (mkF m 4 #[.val (.ref r0)] [(.ref t)]))
  exact Onw.ret X1 Bd.notSynchronized (fun h => by rw [Bd.returns] at h; cases h) (fun fs hr => X1.areturnOut hx rfl Bd.returns rfl (hb hby d2_4) hr) ⟨rfl, N0, e1⟩ (by decide) (by decide)
theorem d4_9 : decode jdk_43_method_13_code 9 = .ok (.iload_n 2, 1) := by decide +kernel
theorem d4_10 : decode jdk_43_method_13_code 10 = .ok (.aload_n 0, 1) := by decide +kernel
theorem d4_11 : decode jdk_43_method_13_code 11 = .ok (.arraylength, 1) := by decide +kernel
theorem d4_12 : decode jdk_43_method_13_code 12 = .ok (.if_icmp .ge 20, 3) := by decide +kernel
theorem d4_15 : decode jdk_43_method_13_code 15 = .ok (.aload_n 0, 1) := by decide +kernel
theorem d4_16 : decode jdk_43_method_13_code 16 = .ok (.iload_n 2, 1) := by decide +kernel
theorem d4_17 : decode jdk_43_method_13_code 17 = .ok (.baload, 1) := by decide +kernel
theorem d4_18 : decode jdk_43_method_13_code 18 = .ok (.aload_n 1, 1) := by decide +kernel
theorem d4_19 : decode jdk_43_method_13_code 19 = .ok (.iload_n 2, 1) := by decide +kernel
theorem d4_20 : decode jdk_43_method_13_code 20 = .ok (.baload, 1) := by decide +kernel
theorem d4_21 : decode jdk_43_method_13_code 21 = .ok (.if_icmp .eq 5, 3) := by decide +kernel
theorem d4_24 : decode jdk_43_method_13_code 24 = .ok (.iconst 0, 1) := by decide +kernel
theorem d4_26 : decode jdk_43_method_13_code 26 = .ok (.iinc 2 1, 3) := by decide +kernel
theorem d4_29 : decode jdk_43_method_13_code 29 = .ok (.goto (-20), 3) := by decide +kernel
set_option maxRecDepth 65536 in
set_option maxHeartbeats 40000000 in
theorem eq_turn {p : Program} {l : Launch} {e : Env} {R : Room} {s : State} {m : MethodId} {args : Array Value} {below : List Frame} {meth : Method} {c : Code} {Z : State} {a0 : Array Value} {W : Outcome → State → Prop} (hx : p.tables.exec = Jvm.exec) (hZ : Z.Warmed39 s.vm) (hw : ∀ d ∈ tables_1, d.before a0 Z = true) (hby : c.code = jdk_43_method_13_code) (hml : c.maxLocals = 3) (hown : s.vm.findClass "java/lang/StringLatin1" = some m.cls) {h0 : Heap} {n0 : Nat}  (r0 r1 : Addr) (c0 c1 : Cell) (as bs : List Int32) (i : Nat) (x : Int32)
    {T0 : State} {locs0 : List Loc} {cells slots : Nat} (X0 : Stand p l e R s m args below meth c T0 locs0 cells slots) (e0 : T0.heap = h0) (N0 : Fr n0 locs0) (A0 : Arr Z h0 r0 c0 .byte) (S0 : c0.slots.size = (Int32.ofNat as.length).toNatClampNeg) (M0 : ¬ Int32.ofNat as.length < 0) (la : as.length ≤ 1000) (A1 : Arr Z h0 r1 c1 .byte) (hi : i < as.length) (hin0 : ¬ (Int32.ofNat i < 0 ∨ c0.slots.size ≤ (Int32.ofNat i).toNatClampNeg)) (hat0 : c0.slots[(Int32.ofNat i).toNatClampNeg]? = some (.int (as.getD i 0))) (hin1 : ¬ (Int32.ofNat i < 0 ∨ c1.slots.size ≤ (Int32.ofNat i).toNatClampNeg)) (hat1 : c1.slots[(Int32.ofNat i).toNatClampNeg]? = some (.int (bs.getD i 0))) (hK : as.getD i 0 = bs.getD i 0 → Onw p e below W (T0.setTop (mkF m 9 #[.val (.ref r0), .val (.ref r1), .val (.int (Int32.ofNat (i + 1)))] []))) (hN : ¬ as.getD i 0 = bs.getD i 0 → Onw p e below W (T0.setTop (mkF m 25 #[.val (.ref r0), .val (.ref r1), .val (.int (Int32.ofNat i))] [(.int (0 : Int32))]))) :
    Onw p e below W (T0.setTop (mkF m 9 #[.val (.ref r0), .val (.ref r1), .val (.int (Int32.ofNat i))] [])) := by
  refine Onw.go (fun own_u kt => XS.iloadN X0.here hx rfl (hb hby d4_9) rfl kt) ?_
  show Onw p e below _ (T0.setTop (mkF m 10 #[.val (.ref r0), .val (.ref r1), .val (.int (Int32.ofNat i))] [(.int (Int32.ofNat i))]))
  refine Onw.go (fun own_u kt => XS.aloadN X0.here hx rfl (hb hby d4_10) rfl rfl kt) ?_
  show Onw p e below _ (T0.setTop (mkF m 11 #[.val (.ref r0), .val (.ref r1), .val (.int (Int32.ofNat i))] [(.ref r0), (.int (Int32.ofNat i))]))
  refine Onw.go (X0.arraylength hx (by rw [e0]; exact A0.1) (State.isArrayOf_alike hZ.alike A0.2.1) (g := (mkF m 11 #[.val (.ref r0), .val (.ref r1), .val (.int (Int32.ofNat i))] [(.ref r0), (.int (Int32.ofNat i))])) rfl rfl (hb hby d4_11)) ?_
  rw [len_of S0 M0]
  show Onw p e below _ (T0.setTop (mkF m 12 #[.val (.ref r0), .val (.ref r1), .val (.int (Int32.ofNat i))] [(.int (Int32.ofNat as.length)), (.int (Int32.ofNat i))]))
  refine Onw.go (fun own_u kt => XS.icmpNo X0.here hx rfl (hb hby d4_12) rfl (tlt ((own_lt (by omega) la).mpr hi : (Int32.ofNat i) < (Int32.ofNat as.length))).2.1 kt) ?_
  show Onw p e below _ (T0.setTop (mkF m 15 #[.val (.ref r0), .val (.ref r1), .val (.int (Int32.ofNat i))] []))
  refine Onw.go (fun own_u kt => XS.aloadN X0.here hx rfl (hb hby d4_15) rfl rfl kt) ?_
  show Onw p e below _ (T0.setTop (mkF m 16 #[.val (.ref r0), .val (.ref r1), .val (.int (Int32.ofNat i))] [(.ref r0)]))
  refine Onw.go (fun own_u kt => XS.iloadN X0.here hx rfl (hb hby d4_16) rfl kt) ?_
  show Onw p e below _ (T0.setTop (mkF m 17 #[.val (.ref r0), .val (.ref r1), .val (.int (Int32.ofNat i))] [(.int (Int32.ofNat i)), (.ref r0)]))
  refine Onw.go (X0.baloadBytes hx (j := (Int32.ofNat i)) (v := (.int (as.getD i 0))) (by rw [e0]; exact A0.1) (State.isArrayOf_alike hZ.alike A0.2.1) A0.2.2 hin0 hat0 (g := (mkF m 17 #[.val (.ref r0), .val (.ref r1), .val (.int (Int32.ofNat i))] [(.int (Int32.ofNat i)), (.ref r0)])) rfl rfl (hb hby d4_17)) ?_
  show Onw p e below _ (T0.setTop (mkF m 18 #[.val (.ref r0), .val (.ref r1), .val (.int (Int32.ofNat i))] [(.int (as.getD i 0))]))
  refine Onw.go (fun own_u kt => XS.aloadN X0.here hx rfl (hb hby d4_18) rfl rfl kt) ?_
  show Onw p e below _ (T0.setTop (mkF m 19 #[.val (.ref r0), .val (.ref r1), .val (.int (Int32.ofNat i))] [(.ref r1), (.int (as.getD i 0))]))
  refine Onw.go (fun own_u kt => XS.iloadN X0.here hx rfl (hb hby d4_19) rfl kt) ?_
  show Onw p e below _ (T0.setTop (mkF m 20 #[.val (.ref r0), .val (.ref r1), .val (.int (Int32.ofNat i))] [(.int (Int32.ofNat i)), (.ref r1), (.int (as.getD i 0))]))
  refine Onw.go (X0.baloadBytes hx (j := (Int32.ofNat i)) (v := (.int (bs.getD i 0))) (by rw [e0]; exact A1.1) (State.isArrayOf_alike hZ.alike A1.2.1) A1.2.2 hin1 hat1 (g := (mkF m 20 #[.val (.ref r0), .val (.ref r1), .val (.int (Int32.ofNat i))] [(.int (Int32.ofNat i)), (.ref r1), (.int (as.getD i 0))])) rfl rfl (hb hby d4_20)) ?_
  show Onw p e below _ (T0.setTop (mkF m 21 #[.val (.ref r0), .val (.ref r1), .val (.int (Int32.ofNat i))] [(.int (bs.getD i 0)), (.int (as.getD i 0))]))
  by_cases h1 : (as.getD i 0) = (bs.getD i 0)
  · refine Onw.go (fun own_u kt => XS.icmpYes X0.here hx rfl (pc0 := 21) (pc' := 26) rfl (hb hby d4_21) rfl (teq (h1 : (as.getD i 0) = (bs.getD i 0))).1 (by decide) (by decide) kt) ?_
    show Onw p e below _ (T0.setTop (mkF m 26 #[.val (.ref r0), .val (.ref r1), .val (.int (Int32.ofNat i))] []))
    refine Onw.go (fun own_u kt => XS.iinc X0.here hx rfl (hb hby d4_26) rfl (l' := #[.val (.ref r0), .val (.ref r1), .val (.int ((Int32.ofNat i) + (1 : Int32)))]) rfl kt) ?_
    show Onw p e below _ (T0.setTop (mkF m 29 #[.val (.ref r0), .val (.ref r1), .val (.int ((Int32.ofNat i) + (1 : Int32)))] []))
    refine Onw.go (fun own_u kt => XS.goto X0.here hx rfl (pc0 := 29) (pc' := 9) rfl (hb hby d4_29) (by decide) (by decide) kt) ?_
    show Onw p e below _ (T0.setTop (mkF m 9 #[.val (.ref r0), .val (.ref r1), .val (.int ((Int32.ofNat i) + (1 : Int32)))] []))
    have e1 := hK h1
    rw [Int32.ofNat_add] at e1
    exact e1
  · refine Onw.go (fun own_u kt => XS.icmpNo X0.here hx rfl (hb hby d4_21) rfl (feq (h1 : ¬ ((as.getD i 0) = (bs.getD i 0)))).1 kt) ?_
    show Onw p e below _ (T0.setTop (mkF m 24 #[.val (.ref r0), .val (.ref r1), .val (.int (Int32.ofNat i))] []))
    refine Onw.go (fun own_u kt => XS.iconst X0.here hx rfl (hb hby d4_24) kt) ?_
    show Onw p e below _ (T0.setTop (mkF m 25 #[.val (.ref r0), .val (.ref r1), .val (.int (Int32.ofNat i))] [(.int (0 : Int32))]))
    exact hN h1
theorem d4_32 : decode jdk_43_method_13_code 32 = .ok (.iconst 1, 1) := by decide +kernel
set_option maxRecDepth 65536 in
set_option maxHeartbeats 40000000 in
theorem eq_end {p : Program} {l : Launch} {e : Env} {R : Room} {s : State} {m : MethodId} {args : Array Value} {below : List Frame} {meth : Method} {c : Code} {Z : State} {a0 : Array Value} {W : Outcome → State → Prop} (hx : p.tables.exec = Jvm.exec) (hZ : Z.Warmed39 s.vm) (hw : ∀ d ∈ tables_1, d.before a0 Z = true) (hby : c.code = jdk_43_method_13_code) (hml : c.maxLocals = 3) (hown : s.vm.findClass "java/lang/StringLatin1" = some m.cls) {h0 : Heap} {n0 : Nat}  (r0 r1 : Addr) (c0 c1 : Cell) (as bs : List Int32) (i : Nat)
    {T0 : State} {locs0 : List Loc} {cells slots : Nat} (X0 : Stand p l e R s m args below meth c T0 locs0 cells slots) (e0 : T0.heap = h0) (N0 : Fr n0 locs0) (A0 : Arr Z h0 r0 c0 .byte) (S0 : c0.slots.size = (Int32.ofNat as.length).toNatClampNeg) (M0 : ¬ Int32.ofNat as.length < 0) (la : as.length ≤ 1000) (hi : ¬ i < as.length) (hi2 : i ≤ 1000) (hK : Onw p e below W (T0.setTop (mkF m 33 #[.val (.ref r0), .val (.ref r1), .val (.int (Int32.ofNat i))] [(.int (1 : Int32))]))) :
    Onw p e below W (T0.setTop (mkF m 9 #[.val (.ref r0), .val (.ref r1), .val (.int (Int32.ofNat i))] [])) := by
  refine Onw.go (fun own_u kt => XS.iloadN X0.here hx rfl (hb hby d4_9) rfl kt) ?_
  show Onw p e below _ (T0.setTop (mkF m 10 #[.val (.ref r0), .val (.ref r1), .val (.int (Int32.ofNat i))] [(.int (Int32.ofNat i))]))
  refine Onw.go (fun own_u kt => XS.aloadN X0.here hx rfl (hb hby d4_10) rfl rfl kt) ?_
  show Onw p e below _ (T0.setTop (mkF m 11 #[.val (.ref r0), .val (.ref r1), .val (.int (Int32.ofNat i))] [(.ref r0), (.int (Int32.ofNat i))]))
  refine Onw.go (X0.arraylength hx (by rw [e0]; exact A0.1) (State.isArrayOf_alike hZ.alike A0.2.1) (g := (mkF m 11 #[.val (.ref r0), .val (.ref r1), .val (.int (Int32.ofNat i))] [(.ref r0), (.int (Int32.ofNat i))])) rfl rfl (hb hby d4_11)) ?_
  rw [len_of S0 M0]
  show Onw p e below _ (T0.setTop (mkF m 12 #[.val (.ref r0), .val (.ref r1), .val (.int (Int32.ofNat i))] [(.int (Int32.ofNat as.length)), (.int (Int32.ofNat i))]))
  refine Onw.go (fun own_u kt => XS.icmpYes X0.here hx rfl (pc0 := 12) (pc' := 32) rfl (hb hby d4_12) rfl (flt (fun q => hi ((own_lt hi2 la).mp q) : ¬ ((Int32.ofNat i) < (Int32.ofNat as.length)))).2.1 (by decide) (by decide) kt) ?_
  show Onw p e below _ (T0.setTop (mkF m 32 #[.val (.ref r0), .val (.ref r1), .val (.int (Int32.ofNat i))] []))
  refine Onw.go (fun own_u kt => XS.iconst X0.here hx rfl (hb hby d4_32) kt) ?_
  show Onw p e below _ (T0.setTop (mkF m 33 #[.val (.ref r0), .val (.ref r1), .val (.int (Int32.ofNat i))] [(.int (1 : Int32))]))
  exact hK
set_option maxRecDepth 65536 in
set_option maxHeartbeats 40000000 in
theorem eq_loop {p : Program} {l : Launch} {e : Env} {R : Room} {s : State} {m : MethodId} {args : Array Value} {below : List Frame} {meth : Method} {c : Code} {Z : State} {a0 : Array Value} {W : Outcome → State → Prop} (hx : p.tables.exec = Jvm.exec) (hZ : Z.Warmed39 s.vm) (hw : ∀ d ∈ tables_1, d.before a0 Z = true) (hby : c.code = jdk_43_method_13_code) (hml : c.maxLocals = 3) (hown : s.vm.findClass "java/lang/StringLatin1" = some m.cls) {h0 : Heap} {n0 : Nat} (r0 r1 : Addr) (c0 c1 : Cell) (as bs : List Int32)
    {T0 : State} {locs0 : List Loc} {cells slots : Nat} (X0 : Stand p l e R s m args below meth c T0 locs0 cells slots) (e0 : T0.heap = h0) (N0 : Fr n0 locs0) (A0 : Arr Z h0 r0 c0 .byte) (S0 : c0.slots.size = (Int32.ofNat as.length).toNatClampNeg) (M0 : ¬ Int32.ofNat as.length < 0) (la : as.length ≤ 1000) (A1 : Arr Z h0 r1 c1 .byte) (S1 : c1.slots.size = (Int32.ofNat bs.length).toNatClampNeg) (H0 : Has c0 (as.map Value.int) (.int (0 : Int32))) (H1 : Has c1 (bs.map Value.int) (.int (0 : Int32))) (hl : as.length = bs.length)
    (hK : ∀ (i : Int32), as = bs → Onw p e below W (T0.setTop (mkF m 33 #[.val (.ref r0), .val (.ref r1), .val (.int i)] [(.int (1 : Int32))]))) (hN : ∀ (i : Int32), ¬ as = bs → Onw p e below W (T0.setTop (mkF m 25 #[.val (.ref r0), .val (.ref r1), .val (.int i)] [(.int (0 : Int32))]))) :
    ∀ (k i : Nat), i + k = as.length → (∀ j, j < i → as.getD j 0 = bs.getD j 0) → Onw p e below W (T0.setTop (mkF m 9 #[.val (.ref r0), .val (.ref r1), .val (.int (Int32.ofNat i))] [])) := by
  intro k
  induction k with
  | zero =>
    intro i hk hs
    exact eq_end hx hZ hw hby hml hown r0 r1 c0 c1 as bs i X0 e0 N0 A0 S0 M0 la (by omega) (by omega) (hK _ (own_ext hl fun j hj => hs j (by omega)))
  | succ k ih =>
    intro i hk hs
    obtain ⟨q0, q1⟩ := own_at la S0 H0 i (by omega)
    obtain ⟨q2, q3⟩ := own_at (by omega) S1 H1 i (by omega)
    refine eq_turn hx hZ hw hby hml hown r0 r1 c0 c1 as bs i 0 X0 e0 N0 A0 S0 M0 la A1 (by omega) q0 q1 q2 q3 (fun h => ih (i + 1) (by omega) (fun j hj => ?_)) (fun h => hN _ (fun q => h (by rw [q])))
    by_cases hji : j = i
    · rw [hji]; exact h
    · exact hs j (by omega)
theorem pn_1 : plainName "java/lang/StringLatin1" = true := by first | (simp [plainName, overriddenIn]; done) | decide +kernel
theorem ef_4 (m : MethodId) (x0 : Addr) (x1 : Addr) : entryFrame m #[(.ref x0), (.ref x1)] 3 = mkF m 0 #[.val (.ref x0), .val (.ref x1), .unset] [] := by first | (simp [entryFrame, mkF, argsToLocals, Value.category]; done) | rfl
def Q_rm4 (Z : State) (r0 : Addr) (r1 : Addr) (k0 k1 : ClassId) (as bs : List Int32) (h0 : Heap) (n0 : Nat) (v : Option Value) (h : Heap) (L : List Loc) : Prop := v = some (.int (own_eq as bs)) ∧ Fr n0 L ∧ h = h0
theorem d4_0 : decode jdk_43_method_13_code 0 = .ok (.aload_n 0, 1) := by decide +kernel
theorem d4_1 : decode jdk_43_method_13_code 1 = .ok (.arraylength, 1) := by decide +kernel
theorem d4_2 : decode jdk_43_method_13_code 2 = .ok (.aload_n 1, 1) := by decide +kernel
theorem d4_3 : decode jdk_43_method_13_code 3 = .ok (.arraylength, 1) := by decide +kernel
theorem d4_4 : decode jdk_43_method_13_code 4 = .ok (.if_icmp .ne 30, 3) := by decide +kernel
theorem d4_7 : decode jdk_43_method_13_code 7 = .ok (.iconst 0, 1) := by decide +kernel
theorem d4_8 : decode jdk_43_method_13_code 8 = .ok (.istore_n 2, 1) := by decide +kernel
theorem d4_25 : decode jdk_43_method_13_code 25 = .ok (.ireturn, 1) := by decide +kernel
theorem d4_33 : decode jdk_43_method_13_code 33 = .ok (.ireturn, 1) := by decide +kernel
theorem d4_34 : decode jdk_43_method_13_code 34 = .ok (.iconst 0, 1) := by decide +kernel
theorem d4_35 : decode jdk_43_method_13_code 35 = .ok (.ireturn, 1) := by decide +kernel
set_option maxRecDepth 65536 in
set_option maxHeartbeats 40000000 in
theorem rm4 (l : Launch) (Z : State) (a0 : Array Value) (hw : ∀ d ∈ tables_1, d.before a0 Z = true) (ws : List Jvm.Cond) (r0 : Addr) (r1 : Addr) (k0 k1 : ClassId) (as bs : List Int32) (h0 : Heap) (n0 : Nat) (V0 : Arv Z h0 r0 k0 .byte (Int32.ofNat as.length) (as.map Value.int) (.int (0 : Int32))) (V1 : Arv Z h0 r1 k1 .byte (Int32.ofNat bs.length) (bs.map Value.int) (.int (0 : Int32))) (la : as.length ≤ 1000) (lb : bs.length ≤ 1000) :
    MetFree l (⟨"java/lang/StringLatin1", "equals", "([B[B)Z"⟩ : MethodName) (head1 (Jvm.Cond.code (⟨"java/lang/StringLatin1", "equals", "([B[B)Z"⟩ : MethodName) jdk_43_method_13_code 3 (some .boolean) :: ws) ({ frames := 0, cells := 0, slots := 0, locals := 0 } : Room)) (fun a U => a = #[(.ref r0), (.ref r1)] ∧ Z.Warmed39 U.vm ∧ U.heap = h0) (fun _ _ _ _ _ => True) (fun _ U o U' => ∃ v L, o = .returned v ∧ Q_rm4 Z r0 r1 k0 k1 as bs h0 n0 v U'.heap L ∧ FrameEnd U o U' L ({ frames := 0, cells := 0, slots := 0, locals := 0 } : Room).cells ({ frames := 0, cells := 0, slots := 0, locals := 0 } : Room).slots) := by
  refine MetFree.of_bodySF (plainFor_of_name pn_1) hisR ?_
  intro p e s m args below meth c s₁ Bd hml0 hP hK
  obtain ⟨rfl, hZ, hh⟩ := hP
  have hx := Bd.exec
  have hby := Bd.bytes
  have hml : c.maxLocals = 3 := hml0
  have hown : s.vm.findClass "java/lang/StringLatin1" = some m.cls := findClass_of_methodNamed Bd.named
  have hnm := (name_of_methodNamed Bd.named Bd.method).1
  have X0 : Stand p l e ({ frames := 0, cells := 0, slots := 0, locals := 0 } : Room) s m #[(.ref r0), (.ref r1)] below meth c s₁ [] 0 0 := Stand.of_body Bd
  have e0 : s₁.heap = h0 := by rw [← hh, Bd.state]; rfl
  have N0 := Fr.nil n0
  refine Onw.of (Onw.go (fun own_u k => castTop (ef_4 m r0 r1) k) ?_)
  show Onw p e below _ (s₁.setTop (mkF m 0 #[.val (.ref r0), .val (.ref r1), .unset] []))
  obtain ⟨c0, A0, qa0, S0, M0, H0, G0⟩ := V0
  obtain ⟨c1, A1, qa1, S1, M1, H1, G1⟩ := V1
  refine Onw.go (fun own_u kt => XS.aloadN X0.here hx rfl (hb hby d4_0) rfl rfl kt) ?_
  show Onw p e below _ (s₁.setTop (mkF m 1 #[.val (.ref r0), .val (.ref r1), .unset] [(.ref r0)]))
  refine Onw.go (X0.arraylength hx (by rw [e0]; exact A0.1) (State.isArrayOf_alike hZ.alike A0.2.1) (g := (mkF m 1 #[.val (.ref r0), .val (.ref r1), .unset] [(.ref r0)])) rfl rfl (hb hby d4_1)) ?_
  rw [len_of S0 M0]
  show Onw p e below _ (s₁.setTop (mkF m 2 #[.val (.ref r0), .val (.ref r1), .unset] [(.int (Int32.ofNat as.length))]))
  refine Onw.go (fun own_u kt => XS.aloadN X0.here hx rfl (hb hby d4_2) rfl rfl kt) ?_
  show Onw p e below _ (s₁.setTop (mkF m 3 #[.val (.ref r0), .val (.ref r1), .unset] [(.ref r1), (.int (Int32.ofNat as.length))]))
  refine Onw.go (X0.arraylength hx (by rw [e0]; exact A1.1) (State.isArrayOf_alike hZ.alike A1.2.1) (g := (mkF m 3 #[.val (.ref r0), .val (.ref r1), .unset] [(.ref r1), (.int (Int32.ofNat as.length))])) rfl rfl (hb hby d4_3)) ?_
  rw [len_of S1 M1]
  show Onw p e below _ (s₁.setTop (mkF m 4 #[.val (.ref r0), .val (.ref r1), .unset] [(.int (Int32.ofNat bs.length)), (.int (Int32.ofNat as.length))]))
  by_cases h1 : (Int32.ofNat as.length) = (Int32.ofNat bs.length)
  · refine Onw.go (fun own_u kt => XS.icmpNo X0.here hx rfl (hb hby d4_4) rfl (teq (h1 : (Int32.ofNat as.length) = (Int32.ofNat bs.length))).2 kt) ?_
    show Onw p e below _ (s₁.setTop (mkF m 7 #[.val (.ref r0), .val (.ref r1), .unset] []))
    have hl := own_inj la lb h1
    refine Onw.go (fun own_u kt => XS.iconst X0.here hx rfl (hb hby d4_7) kt) ?_
    show Onw p e below _ (s₁.setTop (mkF m 8 #[.val (.ref r0), .val (.ref r1), .unset] [(.int (0 : Int32))]))
    refine Onw.go (fun own_u kt => XS.istoreN X0.here hx rfl (hb hby d4_8) rfl (l' := #[.val (.ref r0), .val (.ref r1), .val (.int (0 : Int32))]) rfl kt) ?_
    show Onw p e below _ (s₁.setTop (mkF m 9 #[.val (.ref r0), .val (.ref r1), .val (.int (0 : Int32))] []))
    have z0 : (0 : Int32) = Int32.ofNat 0 := rfl
    rw [z0]
    refine eq_loop hx hZ hw hby hml hown r0 r1 c0 c1 as bs X0 e0 N0 A0 S0 M0 la A1 S1 H0 H1 hl (fun i q => ?_) (fun i q => ?_) as.length 0 (by omega) (fun j hj => absurd hj (Nat.not_lt_zero _))
    · show Onw p e below _ (s₁.setTop (mkF m 33 #[.val (.ref r0), .val (.ref r1), .val (.int i)] [(.int (1 : Int32))]))
      exact Onw.ret X0 Bd.notSynchronized (fun h => by rw [Bd.returns] at h; cases h) (fun fs hr => retN X0 hx (t := .boolean) Bd.returns (by simp) (hb hby d4_33) hr) ⟨(by show some (Value.int (nar .boolean 1)) = _; unfold own_eq; rw [if_pos q]; rfl), N0, e0⟩ (by decide) (by decide)
    · show Onw p e below _ (s₁.setTop (mkF m 25 #[.val (.ref r0), .val (.ref r1), .val (.int i)] [(.int (0 : Int32))]))
      exact Onw.ret X0 Bd.notSynchronized (fun h => by rw [Bd.returns] at h; cases h) (fun fs hr => retN X0 hx (t := .boolean) Bd.returns (by simp) (hb hby d4_25) hr) ⟨(by show some (Value.int (nar .boolean 0)) = _; unfold own_eq; rw [if_neg q]; rfl), N0, e0⟩ (by decide) (by decide)
  · refine Onw.go (fun own_u kt => XS.icmpYes X0.here hx rfl (pc0 := 4) (pc' := 34) rfl (hb hby d4_4) rfl (feq (h1 : ¬ ((Int32.ofNat as.length) = (Int32.ofNat bs.length)))).2 (by decide) (by decide) kt) ?_
    show Onw p e below _ (s₁.setTop (mkF m 34 #[.val (.ref r0), .val (.ref r1), .unset] []))
    refine Onw.go (fun own_u kt => XS.iconst X0.here hx rfl (hb hby d4_34) kt) ?_
    show Onw p e below _ (s₁.setTop (mkF m 35 #[.val (.ref r0), .val (.ref r1), .unset] [(.int (0 : Int32))]))
    exact Onw.ret X0 Bd.notSynchronized (fun h => by rw [Bd.returns] at h; cases h) (fun fs hr => retN X0 hx (t := .boolean) Bd.returns (by simp) (hb hby d4_35) hr) ⟨(by show some (Value.int (nar .boolean 0)) = _; unfold own_eq; rw [if_neg (fun q => h1 (by rw [q]))]; rfl), N0, e0⟩ (by decide) (by decide)
theorem pn_2 : plainName "java/lang/String" = true := by first | (simp [plainName, overriddenIn]; done) | decide +kernel
theorem ef_3 (m : MethodId) (x0 : Addr) (x1 : Addr) : entryFrame m #[(.ref x0), (.ref x1)] 3 = mkF m 0 #[.val (.ref x0), .val (.ref x1), .unset] [] := by first | (simp [entryFrame, mkF, argsToLocals, Value.category]; done) | rfl
def Q_rm3 (Z : State) (r0 : Addr) (r1 : Addr) (zc : Int32) (t0 t1 : Addr) (k0 k1 : ClassId) (as bs : List Int32) (h0 : Heap) (n0 : Nat) (v : Option Value) (h : Heap) (L : List Loc) : Prop := v = some (.int (own_eq as bs)) ∧ Fr n0 L ∧ h = h0
theorem d3_0 : decode jdk_42_method_66_code 0 = .ok (.aload_n 0, 1) := by decide +kernel
theorem d3_1 : decode jdk_42_method_66_code 1 = .ok (.aload_n 1, 1) := by decide +kernel
theorem d3_2 : decode jdk_42_method_66_code 2 = .ok (.if_acmp .ne 5, 3) := by decide +kernel
theorem d3_5 : decode jdk_42_method_66_code 5 = .ok (.iconst 1, 1) := by decide +kernel
theorem d3_6 : decode jdk_42_method_66_code 6 = .ok (.ireturn, 1) := by decide +kernel
theorem d3_7 : decode jdk_42_method_66_code 7 = .ok (.aload_n 1, 1) := by decide +kernel
theorem d3_8 : decode jdk_42_method_66_code 8 = .ok (.instanceof 10, 3) := by decide +kernel
theorem d3_11 : decode jdk_42_method_66_code 11 = .ok (.ifCond .eq 43, 3) := by decide +kernel
theorem d3_14 : decode jdk_42_method_66_code 14 = .ok (.aload_n 1, 1) := by decide +kernel
theorem d3_15 : decode jdk_42_method_66_code 15 = .ok (.checkcast 10, 3) := by decide +kernel
theorem d3_18 : decode jdk_42_method_66_code 18 = .ok (.astore_n 2, 1) := by decide +kernel
theorem d3_19 : decode jdk_42_method_66_code 19 = .ok (.getstatic 38, 3) := by decide +kernel
theorem d3_22 : decode jdk_42_method_66_code 22 = .ok (.ifCond .eq 14, 3) := by decide +kernel
theorem d3_25 : decode jdk_42_method_66_code 25 = .ok (.aload_n 0, 1) := by decide +kernel
theorem d3_26 : decode jdk_42_method_66_code 26 = .ok (.getfield 15, 3) := by decide +kernel
theorem d3_29 : decode jdk_42_method_66_code 29 = .ok (.aload_n 2, 1) := by decide +kernel
theorem d3_30 : decode jdk_42_method_66_code 30 = .ok (.getfield 15, 3) := by decide +kernel
theorem d3_33 : decode jdk_42_method_66_code 33 = .ok (.if_icmp .ne 21, 3) := by decide +kernel
theorem d3_36 : decode jdk_42_method_66_code 36 = .ok (.aload_n 0, 1) := by decide +kernel
theorem d3_37 : decode jdk_42_method_66_code 37 = .ok (.getfield 9, 3) := by decide +kernel
theorem d3_40 : decode jdk_42_method_66_code 40 = .ok (.aload_n 2, 1) := by decide +kernel
theorem d3_41 : decode jdk_42_method_66_code 41 = .ok (.getfield 9, 3) := by decide +kernel
theorem d3_44 : decode jdk_42_method_66_code 44 = .ok (.invokestatic 541, 3) := by decide +kernel
theorem d3_47 : decode jdk_42_method_66_code 47 = .ok (.ifCond .eq 7, 3) := by decide +kernel
theorem d3_50 : decode jdk_42_method_66_code 50 = .ok (.iconst 1, 1) := by decide +kernel
theorem d3_51 : decode jdk_42_method_66_code 51 = .ok (.goto 4, 3) := by decide +kernel
theorem d3_54 : decode jdk_42_method_66_code 54 = .ok (.iconst 0, 1) := by decide +kernel
theorem d3_55 : decode jdk_42_method_66_code 55 = .ok (.ireturn, 1) := by decide +kernel
set_option maxRecDepth 65536 in
set_option maxHeartbeats 40000000 in
theorem rm3 (l : Launch) (Z : State) (a0 : Array Value) (hw : ∀ d ∈ tables_1, d.before a0 Z = true) (ws : List Jvm.Cond) (r0 : Addr) (r1 : Addr) (zc : Int32) (t0 t1 : Addr) (k0 k1 : ClassId) (as bs : List Int32) (h0 : Heap) (n0 : Nat) (S_C : Sta Z h0 "java/lang/String" "COMPACT_STRINGS" "Z" (.int zc)) (hz : ¬ zc = 0) (E_r0 : Exa Z h0 r0 "java/lang/String") (C_r0 : Fld Z h0 r0 "java/lang/String" "coder" "B" (.int (0 : Int32))) (V_r0 : Fld Z h0 r0 "java/lang/String" "value" "[B" (.ref t0)) (A_r0 : Arv Z h0 t0 k0 .byte (Int32.ofNat as.length) (as.map Value.int) (.int (0 : Int32))) (E_r1 : Exa Z h0 r1 "java/lang/String") (C_r1 : Fld Z h0 r1 "java/lang/String" "coder" "B" (.int (0 : Int32))) (V_r1 : Fld Z h0 r1 "java/lang/String" "value" "[B" (.ref t1)) (A_r1 : Arv Z h0 t1 k1 .byte (Int32.ofNat bs.length) (bs.map Value.int) (.int (0 : Int32))) (la : as.length ≤ 1000) (lb : bs.length ≤ 1000) :
    MetFree l (⟨"java/lang/String", "equals", "(Ljava/lang/Object;)Z"⟩ : MethodName) (head1 (Jvm.Cond.code (⟨"java/lang/String", "equals", "(Ljava/lang/Object;)Z"⟩ : MethodName) jdk_42_method_66_code 3 (some .boolean) :: ws) ({ frames := 1, cells := 0, slots := 0, locals := 16 } : Room)) (fun a U => a = #[(.ref r0), (.ref r1)] ∧ Z.Warmed39 U.vm ∧ U.heap = h0) (fun _ _ _ _ _ => True) (fun _ U o U' => ∃ v L, o = .returned v ∧ Q_rm3 Z r0 r1 zc t0 t1 k0 k1 as bs h0 n0 v U'.heap L ∧ FrameEnd U o U' L ({ frames := 1, cells := 0, slots := 0, locals := 16 } : Room).cells ({ frames := 1, cells := 0, slots := 0, locals := 16 } : Room).slots) := by
  refine MetFree.of_bodySF (plainFor_of_name pn_2) hisR ?_
  intro p e s m args below meth c s₁ Bd hml0 hP hK
  obtain ⟨rfl, hZ, hh⟩ := hP
  have hx := Bd.exec
  have hby := Bd.bytes
  have hml : c.maxLocals = 3 := hml0
  have hown : s.vm.findClass "java/lang/String" = some m.cls := findClass_of_methodNamed Bd.named
  have hnm := (name_of_methodNamed Bd.named Bd.method).1
  have X0 : Stand p l e ({ frames := 1, cells := 0, slots := 0, locals := 16 } : Room) s m #[(.ref r0), (.ref r1)] below meth c s₁ [] 0 0 := Stand.of_body Bd
  have e0 : s₁.heap = h0 := by rw [← hh, Bd.state]; rfl
  have N0 := Fr.nil n0
  refine Onw.of (Onw.go (fun own_u k => castTop (ef_3 m r0 r1) k) ?_)
  show Onw p e below _ (s₁.setTop (mkF m 0 #[.val (.ref r0), .val (.ref r1), .unset] []))
  refine Onw.go (fun own_u kt => XS.aloadN X0.here hx rfl (hb hby d3_0) rfl rfl kt) ?_
  show Onw p e below _ (s₁.setTop (mkF m 1 #[.val (.ref r0), .val (.ref r1), .unset] [(.ref r0)]))
  refine Onw.go (fun own_u kt => XS.aloadN X0.here hx rfl (hb hby d3_1) rfl rfl kt) ?_
  show Onw p e below _ (s₁.setTop (mkF m 2 #[.val (.ref r0), .val (.ref r1), .unset] [(.ref r1), (.ref r0)]))
  by_cases h1 : r0 = r1
  · refine Onw.go (fun own_u kt => Jvm.RoadKit.acmp (g := (mkF m 2 #[.val (.ref r0), .val (.ref r1), .unset] [(.ref r1), (.ref r0)])) X0 hx rfl rfl rfl (pc0 := 2) (pc' := 5) (same := true) rfl (hb hby d3_2) rfl (decide_eq_true (congrArg Value.ref (h1 : r0 = r1))) (by decide) (by decide) kt) ?_
    show Onw p e below _ (s₁.setTop (mkF m 5 #[.val (.ref r0), .val (.ref r1), .unset] []))
    refine Onw.go (fun own_u kt => XS.iconst X0.here hx rfl (hb hby d3_5) kt) ?_
    show Onw p e below _ (s₁.setTop (mkF m 6 #[.val (.ref r0), .val (.ref r1), .unset] [(.int (1 : Int32))]))
    have he : as = bs := by
      subst h1
      obtain rfl := own_val_eq V_r0 V_r1
      exact own_arv_eq la lb A_r0 A_r1
    exact Onw.ret X0 Bd.notSynchronized (fun h => by rw [Bd.returns] at h; cases h) (fun fs hr => retN X0 hx (t := .boolean) Bd.returns (by simp) (hb hby d3_6) hr) ⟨(by show some (Value.int (nar .boolean 1)) = _; unfold own_eq; rw [if_pos he]; rfl), N0, e0⟩ (by decide) (by decide)
  · refine Onw.go (fun own_u kt => Jvm.RoadKit.acmp (g := (mkF m 2 #[.val (.ref r0), .val (.ref r1), .unset] [(.ref r1), (.ref r0)])) X0 hx rfl rfl rfl (pc0 := 2) (pc' := 7) (same := false) rfl (hb hby d3_2) rfl (decide_eq_false fun q => (h1 : ¬ (r0 = r1)) (Value.ref.inj q)) (by decide) (by decide) kt) ?_
    show Onw p e below _ (s₁.setTop (mkF m 7 #[.val (.ref r0), .val (.ref r1), .unset] []))
    refine Onw.go (fun own_u kt => XS.aloadN X0.here hx rfl (hb hby d3_7) rfl rfl kt) ?_
    show Onw p e below _ (s₁.setTop (mkF m 8 #[.val (.ref r0), .val (.ref r1), .unset] [(.ref r1)]))
    obtain ⟨T1, X1, e1, st1⟩ := instY X0 hx hZ hown (hw _ (List.mem_of_getElem? (i := 32) rfl)) e0 (Ins.self E_r1) (g := (mkF m 8 #[.val (.ref r0), .val (.ref r1), .unset] [(.ref r1)])) rfl rfl (hb hby d3_8)
    refine Onw.go st1 ?_
    show Onw p e below _ (T1.setTop (mkF m 11 #[.val (.ref r0), .val (.ref r1), .unset] [(.int (1 : Int32))]))
    refine Onw.go (fun own_u kt => XS.ifNo X1.here hx rfl (hb hby d3_11) rfl ((if0 _ _).trans (feq (by decide : ¬ ((1 : Int32) = (0 : Int32)))).1) kt) ?_
    show Onw p e below _ (T1.setTop (mkF m 14 #[.val (.ref r0), .val (.ref r1), .unset] []))
    refine Onw.go (fun own_u kt => XS.aloadN X1.here hx rfl (hb hby d3_14) rfl rfl kt) ?_
    show Onw p e below _ (T1.setTop (mkF m 15 #[.val (.ref r0), .val (.ref r1), .unset] [(.ref r1)]))
    obtain ⟨T2, X2, e2, st2⟩ := castY X1 hx hZ hown (hw _ (List.mem_of_getElem? (i := 32) rfl)) e1 (Ins.self E_r1) (g := (mkF m 15 #[.val (.ref r0), .val (.ref r1), .unset] [(.ref r1)])) rfl rfl (hb hby d3_15)
    refine Onw.go st2 ?_
    show Onw p e below _ (T2.setTop (mkF m 18 #[.val (.ref r0), .val (.ref r1), .unset] [(.ref r1)]))
    refine Onw.go (fun own_u kt => XS.astoreN X2.here hx rfl (hb hby d3_18) rfl rfl (l' := #[.val (.ref r0), .val (.ref r1), .val (.ref r1)]) rfl kt) ?_
    show Onw p e below _ (T2.setTop (mkF m 19 #[.val (.ref r0), .val (.ref r1), .val (.ref r1)] []))
    obtain ⟨T3, X3, e3, st3⟩ := getS2 X2 hx hZ hown (host := "") (Or.inl (hw _ (List.mem_of_getElem? (i := 34) rfl))) Via.refl e2 S_C (g := (mkF m 19 #[.val (.ref r0), .val (.ref r1), .val (.ref r1)] [])) rfl (hb hby d3_19)
    refine Onw.go st3 ?_
    show Onw p e below _ (T3.setTop (mkF m 22 #[.val (.ref r0), .val (.ref r1), .val (.ref r1)] [(.int zc)]))
    refine Onw.go (fun own_u kt => XS.ifNo X3.here hx rfl (hb hby d3_22) rfl ((if0 _ _).trans (feq (hz : ¬ (zc = (0 : Int32)))).1) kt) ?_
    show Onw p e below _ (T3.setTop (mkF m 25 #[.val (.ref r0), .val (.ref r1), .val (.ref r1)] []))
    refine Onw.go (fun own_u kt => XS.aloadN X3.here hx rfl (hb hby d3_25) rfl rfl kt) ?_
    show Onw p e below _ (T3.setTop (mkF m 26 #[.val (.ref r0), .val (.ref r1), .val (.ref r1)] [(.ref r0)]))
    obtain ⟨T4, X4, e4, st4⟩ := getF X3 hx hZ hown (host := "") (Or.inl (hw _ (List.mem_of_getElem? (i := 35) rfl))) Via.refl e3 C_r0 (g := (mkF m 26 #[.val (.ref r0), .val (.ref r1), .val (.ref r1)] [(.ref r0)])) rfl rfl (hb hby d3_26)
    refine Onw.go st4 ?_
    show Onw p e below _ (T4.setTop (mkF m 29 #[.val (.ref r0), .val (.ref r1), .val (.ref r1)] [(.int (0 : Int32))]))
    refine Onw.go (fun own_u kt => XS.aloadN X4.here hx rfl (hb hby d3_29) rfl rfl kt) ?_
    show Onw p e below _ (T4.setTop (mkF m 30 #[.val (.ref r0), .val (.ref r1), .val (.ref r1)] [(.ref r1), (.int (0 : Int32))]))
    obtain ⟨T5, X5, e5, st5⟩ := getF X4 hx hZ hown (host := "") (Or.inl (hw _ (List.mem_of_getElem? (i := 35) rfl))) Via.refl e4 C_r1 (g := (mkF m 30 #[.val (.ref r0), .val (.ref r1), .val (.ref r1)] [(.ref r1), (.int (0 : Int32))])) rfl rfl (hb hby d3_30)
    refine Onw.go st5 ?_
    show Onw p e below _ (T5.setTop (mkF m 33 #[.val (.ref r0), .val (.ref r1), .val (.ref r1)] [(.int (0 : Int32)), (.int (0 : Int32))]))
    refine Onw.go (fun own_u kt => XS.icmpNo X5.here hx rfl (hb hby d3_33) rfl (teq (rfl : (0 : Int32) = (0 : Int32))).2 kt) ?_
    show Onw p e below _ (T5.setTop (mkF m 36 #[.val (.ref r0), .val (.ref r1), .val (.ref r1)] []))
    refine Onw.go (fun own_u kt => XS.aloadN X5.here hx rfl (hb hby d3_36) rfl rfl kt) ?_
    show Onw p e below _ (T5.setTop (mkF m 37 #[.val (.ref r0), .val (.ref r1), .val (.ref r1)] [(.ref r0)]))
    obtain ⟨T6, X6, e6, st6⟩ := getF X5 hx hZ hown (host := "") (Or.inl (hw _ (List.mem_of_getElem? (i := 36) rfl))) Via.refl e5 V_r0 (g := (mkF m 37 #[.val (.ref r0), .val (.ref r1), .val (.ref r1)] [(.ref r0)])) rfl rfl (hb hby d3_37)
    refine Onw.go st6 ?_
    show Onw p e below _ (T6.setTop (mkF m 40 #[.val (.ref r0), .val (.ref r1), .val (.ref r1)] [(.ref t0)]))
    refine Onw.go (fun own_u kt => XS.aloadN X6.here hx rfl (hb hby d3_40) rfl rfl kt) ?_
    show Onw p e below _ (T6.setTop (mkF m 41 #[.val (.ref r0), .val (.ref r1), .val (.ref r1)] [(.ref r1), (.ref t0)]))
    obtain ⟨T7, X7, e7, st7⟩ := getF X6 hx hZ hown (host := "") (Or.inl (hw _ (List.mem_of_getElem? (i := 36) rfl))) Via.refl e6 V_r1 (g := (mkF m 41 #[.val (.ref r0), .val (.ref r1), .val (.ref r1)] [(.ref r1), (.ref t0)])) rfl rfl (hb hby d3_41)
    refine Onw.go st7 ?_
    show Onw p e below _ (T7.setTop (mkF m 44 #[.val (.ref r0), .val (.ref r1), .val (.ref r1)] [(.ref t1), (.ref t0)]))
    obtain ⟨_, _, ⟨T8, L8, k8, n8⟩, -, X8, ⟨Lc8, hQ8, l8, y8, z8⟩, st8⟩ := Jvm.LawKit.callS X7 hx (y := (⟨"java/lang/StringLatin1", "equals", "([B[B)Z"⟩ : MethodName)) hown (mvT hZ (hw _ (List.mem_of_getElem? (i := 37) rfl))) (mvT hZ (hw _ (List.mem_of_getElem? (i := 38) rfl))) (mvT hZ (hw _ (List.mem_of_getElem? (i := 39) rfl))) (mvT hZ (hw _ (List.mem_of_getElem? (i := 40) rfl))) (by decide) (backOf (W := 0) (rm4 l Z a0 hw [] t0 t1 k0 k1 as bs h0 n0 A_r0 A_r1 la lb) hZ (hw _ (List.mem_of_getElem? (i := 40) rfl)) (hw _ (List.mem_of_getElem? (i := 39) rfl)) (by decide) (by decide)) (g := (mkF m 44 #[.val (.ref r0), .val (.ref r1), .val (.ref r1)] [(.ref t1), (.ref t0)])) rfl (by rw [hml]; rfl) (argsL := [(.ref t0), (.ref t1)]) (rest := []) (lenOf pd_3 rfl) rfl (by show 2 * 0 + _ ≤ _; exact Nat.le_of_eq rfl) (hb hby d3_44) (fun _ _ => ⟨rfl, e7, (by decide : 0 + 0 ≤ _), (by decide : 0 + 0 ≤ _)⟩)
    dsimp only [Pt.U, Pt.locs, Pt.cells, Pt.slots] at X8 l8 y8 z8 st8 hQ8
    subst l8 y8 z8
    obtain ⟨rfl, N8q, e8q⟩ := hQ8
    have N8 := Fr.app N0 N8q
    refine Onw.go st8 ?_
    show Onw p e below _ (T8.setTop (mkF m 47 #[.val (.ref r0), .val (.ref r1), .val (.ref r1)] [(.int (own_eq as bs))]))
    by_cases he : as = bs
    · rw [(by unfold own_eq; rw [if_pos he] : (own_eq as bs) = (1 : Int32))]
      show Onw p e below _ (T8.setTop (mkF m 47 #[.val (.ref r0), .val (.ref r1), .val (.ref r1)] [(.int (1 : Int32))]))
      refine Onw.go (fun own_u kt => XS.ifNo X8.here hx rfl (hb hby d3_47) rfl ((if0 _ _).trans (feq (by decide : ¬ ((1 : Int32) = (0 : Int32)))).1) kt) ?_
      show Onw p e below _ (T8.setTop (mkF m 50 #[.val (.ref r0), .val (.ref r1), .val (.ref r1)] []))
      refine Onw.go (fun own_u kt => XS.iconst X8.here hx rfl (hb hby d3_50) kt) ?_
      show Onw p e below _ (T8.setTop (mkF m 51 #[.val (.ref r0), .val (.ref r1), .val (.ref r1)] [(.int (1 : Int32))]))
      refine Onw.go (fun own_u kt => XS.goto X8.here hx rfl (pc0 := 51) (pc' := 55) rfl (hb hby d3_51) (by decide) (by decide) kt) ?_
      show Onw p e below _ (T8.setTop (mkF m 55 #[.val (.ref r0), .val (.ref r1), .val (.ref r1)] [(.int (1 : Int32))]))
      exact Onw.ret X8 Bd.notSynchronized (fun h => by rw [Bd.returns] at h; cases h) (fun fs hr => retN X8 hx (t := .boolean) Bd.returns (by simp) (hb hby d3_55) hr) ⟨(by show some (Value.int (nar .boolean 1)) = _; unfold own_eq; rw [if_pos he]; rfl), N8, e8q⟩ (by decide) (by decide)
    · rw [(by unfold own_eq; rw [if_neg he] : (own_eq as bs) = (0 : Int32))]
      show Onw p e below _ (T8.setTop (mkF m 47 #[.val (.ref r0), .val (.ref r1), .val (.ref r1)] [(.int (0 : Int32))]))
      refine Onw.go (fun own_u kt => XS.ifYes X8.here hx rfl (pc0 := 47) (pc' := 54) rfl (hb hby d3_47) rfl ((if0 _ _).trans (teq (rfl : (0 : Int32) = (0 : Int32))).1) (by decide) (by decide) kt) ?_
      show Onw p e below _ (T8.setTop (mkF m 54 #[.val (.ref r0), .val (.ref r1), .val (.ref r1)] []))
      refine Onw.go (fun own_u kt => XS.iconst X8.here hx rfl (hb hby d3_54) kt) ?_
      show Onw p e below _ (T8.setTop (mkF m 55 #[.val (.ref r0), .val (.ref r1), .val (.ref r1)] [(.int (0 : Int32))]))
      exact Onw.ret X8 Bd.notSynchronized (fun h => by rw [Bd.returns] at h; cases h) (fun fs hr => retN X8 hx (t := .boolean) Bd.returns (by simp) (hb hby d3_55) hr) ⟨(by show some (Value.int (nar .boolean 0)) = _; unfold own_eq; rw [if_neg he]; rfl), N8, e8q⟩ (by decide) (by decide)
theorem pn_3 : plainName "com/example/callstone/callstone/ActionIsOnRoutinesPinLaw" = true := by first | (simp [plainName, overriddenIn]; done) | decide +kernel
theorem ef_0 (m : MethodId) (x0 : Int32) : entryFrame m #[(.int x0)] maxLocals = mkF m 0 #[.val (.int x0), .unset, .unset, .unset, .unset, .unset, .unset] [] := by first | (simp [entryFrame, mkF, argsToLocals, Value.category, maxLocals]; done) | rfl
def Q_rm0 (Z : State) (p0 : Int32) (zc : Int32) (cU sU tU : Addr) (kU : ClassId) (cT sT tT : Addr) (kT : ClassId) (cE sE tE : Addr) (kE : ClassId) (cP sP tP : Addr) (kP : ClassId) (h0 : Heap) (n0 : Nat) (v : Option Value) (h : Heap) (L : List Loc) : Prop := v = some (.int (1 : Int32)) ∧ Fr n0 L
set_option maxRecDepth 65536 in
set_option maxHeartbeats 40000000 in
theorem rm0 (l : Launch) (Z : State) (a0 : Array Value) (hw : ∀ d ∈ tables_1, d.before a0 Z = true) (ws : List Jvm.Cond) (p0 : Int32) (zc : Int32) (cU sU tU : Addr) (kU : ClassId) (cT sT tT : Addr) (kT : ClassId) (cE sE tE : Addr) (kE : ClassId) (cP sP tP : Addr) (kP : ClassId) (h0 : Heap) (n0 : Nat) (S_C : Sta Z h0 "java/lang/String" "COMPACT_STRINGS" "Z" (.int zc)) (hz : ¬ zc = 0) (S_U : Sta Z h0 "com/example/callstone/callstone/Privilege$Action" "USAGE" "Lcom/example/callstone/callstone/Privilege$Action;" (.ref cU)) (E_U : Exa Z h0 cU "com/example/callstone/callstone/Privilege$Action") (F_U : Fld Z h0 cU "com/example/callstone/callstone/Privilege$Action" "objectType" "Ljava/lang/String;" (.ref sU)) (ES_U : Exa Z h0 sU "java/lang/String") (FC_U : Fld Z h0 sU "java/lang/String" "coder" "B" (.int (0 : Int32))) (FV_U : Fld Z h0 sU "java/lang/String" "value" "[B" (.ref tU)) (V_U : Arv Z h0 tU kU .byte (3 : Int32) [Value.int (74 : Int32), Value.int (65 : Int32), Value.int (82 : Int32)] (.int (0 : Int32))) (S_T : Sta Z h0 "com/example/callstone/callstone/Privilege$Action" "USAGE_TYPE" "Lcom/example/callstone/callstone/Privilege$Action;" (.ref cT)) (E_T : Exa Z h0 cT "com/example/callstone/callstone/Privilege$Action") (F_T : Fld Z h0 cT "com/example/callstone/callstone/Privilege$Action" "objectType" "Ljava/lang/String;" (.ref sT)) (ES_T : Exa Z h0 sT "java/lang/String") (FC_T : Fld Z h0 sT "java/lang/String" "coder" "B" (.int (0 : Int32))) (FV_T : Fld Z h0 sT "java/lang/String" "value" "[B" (.ref tT)) (V_T : Arv Z h0 tT kT .byte (4 : Int32) [Value.int (84 : Int32), Value.int (89 : Int32), Value.int (80 : Int32), Value.int (69 : Int32)] (.int (0 : Int32))) (S_E : Sta Z h0 "com/example/callstone/callstone/Privilege$Action" "EXECUTE" "Lcom/example/callstone/callstone/Privilege$Action;" (.ref cE)) (E_E : Exa Z h0 cE "com/example/callstone/callstone/Privilege$Action") (F_E : Fld Z h0 cE "com/example/callstone/callstone/Privilege$Action" "objectType" "Ljava/lang/String;" (.ref sE)) (ES_E : Exa Z h0 sE "java/lang/String") (FC_E : Fld Z h0 sE "java/lang/String" "coder" "B" (.int (0 : Int32))) (FV_E : Fld Z h0 sE "java/lang/String" "value" "[B" (.ref tE)) (V_E : Arv Z h0 tE kE .byte (8 : Int32) [Value.int (70 : Int32), Value.int (85 : Int32), Value.int (78 : Int32), Value.int (67 : Int32), Value.int (84 : Int32), Value.int (73 : Int32), Value.int (79 : Int32), Value.int (78 : Int32)] (.int (0 : Int32))) (S_P : Sta Z h0 "com/example/callstone/callstone/Privilege$Action" "EXECUTE_PROCEDURE" "Lcom/example/callstone/callstone/Privilege$Action;" (.ref cP)) (E_P : Exa Z h0 cP "com/example/callstone/callstone/Privilege$Action") (F_P : Fld Z h0 cP "com/example/callstone/callstone/Privilege$Action" "objectType" "Ljava/lang/String;" (.ref sP)) (ES_P : Exa Z h0 sP "java/lang/String") (FC_P : Fld Z h0 sP "java/lang/String" "coder" "B" (.int (0 : Int32))) (FV_P : Fld Z h0 sP "java/lang/String" "value" "[B" (.ref tP)) (V_P : Arv Z h0 tP kP .byte (9 : Int32) [Value.int (80 : Int32), Value.int (82 : Int32), Value.int (79 : Int32), Value.int (67 : Int32), Value.int (69 : Int32), Value.int (68 : Int32), Value.int (85 : Int32), Value.int (82 : Int32), Value.int (69 : Int32)] (.int (0 : Int32))) (n_UE : ¬ (cU = cE)) (n_UP : ¬ (cU = cP)) (n_TE : ¬ (cT = cE)) (n_TP : ¬ (cT = cP)) (n_PE : ¬ (cP = cE)) (hn0 : n0 = h0.size) (hheld1 : Jvm.Lit.constHeld Z "com/example/callstone/callstone/ActionIsOnRoutinesPinLaw" 30) (hheld2 : Jvm.Lit.constHeld Z "com/example/callstone/callstone/ActionIsOnRoutinesPinLaw" 38) (hcw : Jvm.Lit.compactW.before a0 Z = true) :
    MetFree l x (head1 (Jvm.Cond.code x code maxLocals ret :: ws) room_1) (fun a U => a = #[(.int p0)] ∧ Z.Warmed39 U.vm ∧ U.heap = h0 ∧ U = Z) (fun _ _ _ _ _ => True) (fun _ U o U' => ∃ v L, o = .returned v ∧ Q_rm0 Z p0 zc cU sU tU kU cT sT tT kT cE sE tE kE cP sP tP kP h0 n0 v U'.heap L ∧ ReturnedEndW U o U' L room_1.cells room_1.slots) := by
  refine MetFree.of_bodySF (plainFor_of_name pn_3) hisR ?_
  intro p e s m args below meth c s₁ Bd hml0 hP hK
  obtain ⟨rfl, hZ, hh, hUZ⟩ := hP
  have hx := Bd.exec
  have hby := Bd.bytes
  have hml : c.maxLocals = 7 := hml0
  have hown : s.vm.findClass "com/example/callstone/callstone/ActionIsOnRoutinesPinLaw" = some m.cls := findClass_of_methodNamed Bd.named
  have hnm := (name_of_methodNamed Bd.named Bd.method).1
  have X0 : Stand p l e room_1 s m #[(.int p0)] below meth c s₁ [] 0 0 := Stand.of_body Bd
  have e0 : s₁.heap = h0 := by rw [← hh, Bd.state]; rfl
  have N0 := Fr.nil n0
  refine Onw.of (Onw.go (fun own_u k => castTop (ef_0 m p0) k) ?_)
  show Onw p e below _ (s₁.setTop (mkF m 0 #[.val (.int p0), .unset, .unset, .unset, .unset, .unset, .unset] []))
  have hstr : ∀ d ∈ Bundle.stringAtoms, d.before a0 Z = true := fun d hd => hw d ((by decide +kernel : ∀ d ∈ Bundle.stringAtoms, d ∈ tables_1) d hd)
  have hkeep : ∀ (b : Addr) (cl : Cell), Z.heap[b]? = some cl → s.heap[b]? = some cl := fun b cl q => by rw [hUZ]; exact q
  have hnn : s.heap.size = n0 := by rw [hh, hn0]
  refine Onw.go (fun own_u kt => XS.iloadN X0.here hx rfl (hb hby at_0) rfl kt) ?_
  show Onw p e below _ (s₁.setTop (mkF m 1 #[.val (.int p0), .unset, .unset, .unset, .unset, .unset, .unset] [(.int p0)]))
  refine Onw.go (fun own_u kt => XS.iconst X0.here hx rfl (hb hby at_1) kt) ?_
  show Onw p e below _ (s₁.setTop (mkF m 2 #[.val (.int p0), .unset, .unset, .unset, .unset, .unset, .unset] [(.int (3 : Int32)), (.int p0)]))
  refine Onw.go (fun own_u kt => XS.iand X0.here hx rfl (hb hby at_2) rfl kt) ?_
  show Onw p e below _ (s₁.setTop (mkF m 3 #[.val (.int p0), .unset, .unset, .unset, .unset, .unset, .unset] [(.int (p0 &&& (3 : Int32)))]))
  obtain ⟨k, hk⟩ : ∃ own_z, own_z = (p0 &&& (3 : Int32)) := ⟨_, rfl⟩
  rw [← hk]
  show Onw p e below _ (s₁.setTop (mkF m 3 #[.val (.int p0), .unset, .unset, .unset, .unset, .unset, .unset] [(.int k)]))
  refine Onw.go (fun own_u kt => XS.istoreN X0.here hx rfl (hb hby at_3) rfl (l' := #[.val (.int p0), .val (.int k), .unset, .unset, .unset, .unset, .unset]) rfl kt) ?_
  show Onw p e below _ (s₁.setTop (mkF m 4 #[.val (.int p0), .val (.int k), .unset, .unset, .unset, .unset, .unset] []))
  refine Onw.go (fun own_u kt => XS.iloadN X0.here hx rfl (hb hby at_4) rfl kt) ?_
  show Onw p e below _ (s₁.setTop (mkF m 5 #[.val (.int p0), .val (.int k), .unset, .unset, .unset, .unset, .unset] [(.int k)]))
  by_cases hk0 : k = (0 : Int32)
  · refine Onw.go (fun own_u kt => XS.ifNo X0.here hx rfl (hb hby at_5) rfl ((if0 _ _).trans (teq (hk0 : k = (0 : Int32))).2) kt) ?_
    show Onw p e below _ (s₁.setTop (mkF m 8 #[.val (.int p0), .val (.int k), .unset, .unset, .unset, .unset, .unset] []))
    have hlt : k < 2 := by rw [hk0]; decide
    obtain ⟨T1, X1, e1, st1⟩ := getS2 X0 hx hZ hown (host := "") (Or.inl (hw _ (List.mem_of_getElem? (i := 0) rfl))) Via.refl e0 S_U (g := (mkF m 8 #[.val (.int p0), .val (.int k), .unset, .unset, .unset, .unset, .unset] [])) rfl (hb hby at_8)
    refine Onw.go st1 ?_
    show Onw p e below _ (T1.setTop (mkF m 11 #[.val (.int p0), .val (.int k), .unset, .unset, .unset, .unset, .unset] [(.ref cU)]))
    refine Onw.go (fun own_u kt => XS.astoreN X1.here hx rfl (hb hby at_11) rfl rfl (l' := #[.val (.int p0), .val (.int k), .val (.ref cU), .unset, .unset, .unset, .unset]) rfl kt) ?_
    show Onw p e below _ (T1.setTop (mkF m 12 #[.val (.int p0), .val (.int k), .val (.ref cU), .unset, .unset, .unset, .unset] []))
    refine Onw.go (fun own_u kt => XS.goto X1.here hx rfl (pc0 := 12) (pc' := 43) rfl (hb hby at_12) (by decide) (by decide) kt) ?_
    show Onw p e below _ (T1.setTop (mkF m 43 #[.val (.int p0), .val (.int k), .val (.ref cU), .unset, .unset, .unset, .unset] []))
    refine Onw.go (fun own_u kt => XS.aloadN X1.here hx rfl (hb hby at_43) rfl rfl kt) ?_
    show Onw p e below _ (T1.setTop (mkF m 44 #[.val (.int p0), .val (.int k), .val (.ref cU), .unset, .unset, .unset, .unset] [(.ref cU)]))
    obtain ⟨cq2, kq2, q2a, q2b, q2c⟩ := isOf hZ e1 E_U
    obtain ⟨_, _, ⟨T2, L2, k2, n2⟩, -, X2, ⟨Lc2, hQ2, l2, y2, z2⟩, st2⟩ := X1.virtualBack hx (y := (⟨"com/example/callstone/callstone/Privilege$Action", "isOnRoutines", "()Z"⟩ : MethodName)) (z := (⟨"com/example/callstone/callstone/Privilege$Action", "isOnRoutines", "()Z"⟩ : MethodName)) hown (mvT hZ (hw _ (List.mem_of_getElem? (i := 3) rfl))) (mvT hZ (hw _ (List.mem_of_getElem? (i := 4) rfl))) (notFace_of_selects (args := #[]) (mvT hZ (hw _ (List.mem_of_getElem? (i := 6) rfl)))) (mvT hZ (hw _ (List.mem_of_getElem? (i := 6) rfl))) (mvT hZ (hw _ (List.mem_of_getElem? (i := 5) rfl))) (by decide) (backOf (W := 0) (rm1 l Z a0 hw [] cU cE cP h0 n0 S_E S_P) hZ (hw _ (List.mem_of_getElem? (i := 7) rfl)) (hw _ (List.mem_of_getElem? (i := 1) rfl)) (by decide) (by decide)) q2a q2c (g := (mkF m 44 #[.val (.int p0), .val (.int k), .val (.ref cU), .unset, .unset, .unset, .unset] [(.ref cU)])) rfl (by rw [hml]; rfl) (Steps.refl _) (argsL := []) (rest := []) (lenOf pd_0 rfl) rfl (by show 2 * 0 + _ ≤ _; exact Nat.le_of_eq rfl) (hb hby at_44) (fun _ _ => ⟨rfl, e1, (by decide : 0 + 0 ≤ _), (by decide : 0 + 0 ≤ _)⟩)
    dsimp only [Pt.U, Pt.locs, Pt.cells, Pt.slots] at X2 l2 y2 z2 st2 hQ2
    subst l2 y2 z2
    obtain ⟨rfl, N2q, e2q⟩ := hQ2
    have N2 := Fr.app N0 N2q
    refine Onw.go (fun own_u kt => st2.trans kt) ?_
    show Onw p e below _ (T2.setTop (mkF m 47 #[.val (.int p0), .val (.int k), .val (.ref cU), .unset, .unset, .unset, .unset] [(.int (own_on cU cE cP))]))
    rw [(by unfold own_on; rw [if_neg n_UE, if_neg n_UP] : (own_on cU cE cP) = (0 : Int32))]
    show Onw p e below _ (T2.setTop (mkF m 47 #[.val (.int p0), .val (.int k), .val (.ref cU), .unset, .unset, .unset, .unset] [(.int (0 : Int32))]))
    refine Onw.go (fun own_u kt => XS.istoreN X2.here hx rfl (hb hby at_47) rfl (l' := #[.val (.int p0), .val (.int k), .val (.ref cU), .val (.int (0 : Int32)), .unset, .unset, .unset]) rfl kt) ?_
    show Onw p e below _ (T2.setTop (mkF m 48 #[.val (.int p0), .val (.int k), .val (.ref cU), .val (.int (0 : Int32)), .unset, .unset, .unset] []))
    refine Onw.go (fun own_u kt => XS.iloadN X2.here hx rfl (hb hby at_48) rfl kt) ?_
    show Onw p e below _ (T2.setTop (mkF m 49 #[.val (.int p0), .val (.int k), .val (.ref cU), .val (.int (0 : Int32)), .unset, .unset, .unset] [(.int k)]))
    refine Onw.go (fun own_u kt => XS.iconst X2.here hx rfl (hb hby at_49) kt) ?_
    show Onw p e below _ (T2.setTop (mkF m 50 #[.val (.int p0), .val (.int k), .val (.ref cU), .val (.int (0 : Int32)), .unset, .unset, .unset] [(.int (2 : Int32)), (.int k)]))
    refine Onw.go (fun own_u kt => XS.icmpYes X2.here hx rfl (pc0 := 50) (pc' := 57) rfl (hb hby at_50) rfl (tlt (hlt : k < (2 : Int32))).1 (by decide) (by decide) kt) ?_
    show Onw p e below _ (T2.setTop (mkF m 57 #[.val (.int p0), .val (.int k), .val (.ref cU), .val (.int (0 : Int32)), .unset, .unset, .unset] []))
    refine Onw.go (fun own_u kt => XS.iconst X2.here hx rfl (hb hby at_57) kt) ?_
    show Onw p e below _ (T2.setTop (mkF m 58 #[.val (.int p0), .val (.int k), .val (.ref cU), .val (.int (0 : Int32)), .unset, .unset, .unset] [(.int (0 : Int32))]))
    refine Onw.go (fun own_u kt => XS.istore X2.here hx rfl (hb hby at_58) rfl (l' := #[.val (.int p0), .val (.int k), .val (.ref cU), .val (.int (0 : Int32)), .val (.int (0 : Int32)), .unset, .unset]) rfl kt) ?_
    show Onw p e below _ (T2.setTop (mkF m 60 #[.val (.int p0), .val (.int k), .val (.ref cU), .val (.int (0 : Int32)), .val (.int (0 : Int32)), .unset, .unset] []))
    refine Onw.go (fun own_u kt => XS.aloadN X2.here hx rfl (hb hby at_60) rfl rfl kt) ?_
    show Onw p e below _ (T2.setTop (mkF m 61 #[.val (.int p0), .val (.int k), .val (.ref cU), .val (.int (0 : Int32)), .val (.int (0 : Int32)), .unset, .unset] [(.ref cU)]))
    obtain ⟨cq3, kq3, q3a, q3b, q3c⟩ := isOf hZ e2q E_U
    obtain ⟨_, _, ⟨T3, L3, k3, n3⟩, -, X3, ⟨Lc3, hQ3, l3, y3, z3⟩, st3⟩ := X2.virtualBack hx (y := (⟨"com/example/callstone/callstone/Privilege$Action", "objectType", "()Ljava/lang/String;"⟩ : MethodName)) (z := (⟨"com/example/callstone/callstone/Privilege$Action", "objectType", "()Ljava/lang/String;"⟩ : MethodName)) hown (mvT hZ (hw _ (List.mem_of_getElem? (i := 12) rfl))) (mvT hZ (hw _ (List.mem_of_getElem? (i := 13) rfl))) (notFace_of_selects (args := #[]) (mvT hZ (hw _ (List.mem_of_getElem? (i := 15) rfl)))) (mvT hZ (hw _ (List.mem_of_getElem? (i := 15) rfl))) (mvT hZ (hw _ (List.mem_of_getElem? (i := 14) rfl))) (by decide) (backOf (W := 0) (rm2 l Z a0 hw [] cU sU h0 n0 F_U) hZ (hw _ (List.mem_of_getElem? (i := 16) rfl)) (hw _ (List.mem_of_getElem? (i := 1) rfl)) (by decide) (by decide)) q3a q3c (g := (mkF m 61 #[.val (.int p0), .val (.int k), .val (.ref cU), .val (.int (0 : Int32)), .val (.int (0 : Int32)), .unset, .unset] [(.ref cU)])) rfl (by rw [hml]; rfl) (Steps.refl _) (argsL := []) (rest := []) (lenOf pd_1 rfl) rfl (by show 2 * 0 + _ ≤ _; exact Nat.le_of_eq rfl) (hb hby at_61) (fun _ _ => ⟨rfl, e2q, (by decide : 0 + 0 ≤ _), (by decide : 0 + 0 ≤ _)⟩)
    dsimp only [Pt.U, Pt.locs, Pt.cells, Pt.slots] at X3 l3 y3 z3 st3 hQ3
    subst l3 y3 z3
    obtain ⟨rfl, N3q, e3q⟩ := hQ3
    have N3 := Fr.app N2 N3q
    refine Onw.go (fun own_u kt => st3.trans kt) ?_
    show Onw p e below _ (T3.setTop (mkF m 64 #[.val (.int p0), .val (.int k), .val (.ref cU), .val (.int (0 : Int32)), .val (.int (0 : Int32)), .unset, .unset] [(.ref sU)]))
    refine Onw.go (fun own_u kt => XS.astore X3.here hx rfl (hb hby at_64) rfl rfl (l' := #[.val (.int p0), .val (.int k), .val (.ref cU), .val (.int (0 : Int32)), .val (.int (0 : Int32)), .val (.ref sU), .unset]) rfl kt) ?_
    show Onw p e below _ (T3.setTop (mkF m 66 #[.val (.int p0), .val (.int k), .val (.ref cU), .val (.int (0 : Int32)), .val (.int (0 : Int32)), .val (.ref sU), .unset] []))
    refine Onw.go (fun own_u kt => XS.aload X3.here hx rfl (hb hby at_66) rfl rfl kt) ?_
    show Onw p e below _ (T3.setTop (mkF m 68 #[.val (.int p0), .val (.int k), .val (.ref cU), .val (.int (0 : Int32)), .val (.int (0 : Int32)), .val (.ref sU), .unset] [(.ref sU)]))
    have hS0 : s.Since s.vm 0 := (State.WarmedH.refl s).since 0
    have IB0 : IB Z s.vm [] := own_ib0 hUZ
    obtain ⟨a_LF, T4, h4, k4, t_LF, kk_LF, X4, e4, Ex4, hS4, hk4, hZ4, hown4, E_LF, C_LF, V_LF, A_LF, lt4, lu4, IB4, Lt_LF, st4⟩ := ldcSVL (s := s) (vm0 := s.vm) X3 hx hZ hown (hw _ (List.mem_of_getElem? (i := 19) rfl)) hstr e3q hS0 (Nat.zero_le _) (by rw [hnn]; exact N3) hkeep IB0 (by simp) hheld1 hcw (vs := [Value.int (70 : Int32), Value.int (85 : Int32), Value.int (78 : Int32), Value.int (67 : Int32), Value.int (84 : Int32), Value.int (73 : Int32), Value.int (79 : Int32), Value.int (78 : Int32)]) (z := (8 : Int32)) (by refine ⟨by decide, by decide⟩) (by decide) rfl (g := (mkF m 68 #[.val (.int p0), .val (.int k), .val (.ref cU), .val (.int (0 : Int32)), .val (.int (0 : Int32)), .val (.ref sU), .unset] [(.ref sU)])) rfl (hb hby at_68) (n := 32) (by decide) (by decide) (by decide) (by decide)
    refine Onw.go st4 ?_
    show Onw p e below _ (T4.setTop (mkF m 70 #[.val (.int p0), .val (.int k), .val (.ref cU), .val (.int (0 : Int32)), .val (.int (0 : Int32)), .val (.ref sU), .unset] [(.ref a_LF), (.ref sU)]))
    obtain ⟨cq5, kq5, q5a, q5b, q5c⟩ := isOf hZ4 e4 (ES_U.ext Ex4)
    obtain ⟨_, _, ⟨T5, L5, k5, n5⟩, -, X5, ⟨Lc5, hQ5, l5, y5, z5⟩, st5⟩ := X4.virtualBack hx (y := (⟨"java/lang/String", "equals", "(Ljava/lang/Object;)Z"⟩ : MethodName)) (z := (⟨"java/lang/String", "equals", "(Ljava/lang/Object;)Z"⟩ : MethodName)) hown4 (mvT hZ4 (hw _ (List.mem_of_getElem? (i := 27) rfl))) (mvT hZ4 (hw _ (List.mem_of_getElem? (i := 28) rfl))) (notFace_of_selects (args := #[]) (mvT hZ4 (hw _ (List.mem_of_getElem? (i := 30) rfl)))) (mvT hZ4 (hw _ (List.mem_of_getElem? (i := 30) rfl))) (mvT hZ4 (hw _ (List.mem_of_getElem? (i := 29) rfl))) (by decide) (backOf (W := 0) (rm3 l Z a0 hw [] sU a_LF zc tU t_LF kU kk_LF [(74 : Int32), (65 : Int32), (82 : Int32)] [(70 : Int32), (85 : Int32), (78 : Int32), (67 : Int32), (84 : Int32), (73 : Int32), (79 : Int32), (78 : Int32)] h4 n0 (S_C.ext Ex4) hz (ES_U.ext Ex4) (FC_U.ext Ex4) (FV_U.ext Ex4) (V_U.ext Ex4) E_LF C_LF V_LF A_LF (by decide) (by decide)) hZ4 (hw _ (List.mem_of_getElem? (i := 31) rfl)) (hw _ (List.mem_of_getElem? (i := 20) rfl)) (by decide) (by decide)) q5a q5c (g := (mkF m 70 #[.val (.int p0), .val (.int k), .val (.ref cU), .val (.int (0 : Int32)), .val (.int (0 : Int32)), .val (.ref sU), .unset] [(.ref a_LF), (.ref sU)])) rfl (by rw [hml]; rfl) (Steps.refl _) (argsL := [(.ref a_LF)]) (rest := []) (lenOf pd_2 rfl) rfl (by show 2 * 0 + _ ≤ _; exact Nat.le_of_eq rfl) (hb hby at_70) (fun _ _ => ⟨rfl, e4, (by decide : 2 + 0 ≤ _), (by decide : 36 + 0 ≤ _)⟩)
    dsimp only [Pt.U, Pt.locs, Pt.cells, Pt.slots] at X5 l5 y5 z5 st5 hQ5
    subst l5 y5 z5
    obtain ⟨rfl, N5q, e5q⟩ := hQ5
    have N5 := Fr.app N3 N5q
    refine Onw.go (fun own_u kt => st5.trans kt) ?_
    show Onw p e below _ (T5.setTop (mkF m 73 #[.val (.int p0), .val (.int k), .val (.ref cU), .val (.int (0 : Int32)), .val (.int (0 : Int32)), .val (.ref sU), .unset] [(.int (own_eq [(74 : Int32), (65 : Int32), (82 : Int32)] [(70 : Int32), (85 : Int32), (78 : Int32), (67 : Int32), (84 : Int32), (73 : Int32), (79 : Int32), (78 : Int32)]))]))
    rw [(by decide : (own_eq [(74 : Int32), (65 : Int32), (82 : Int32)] [(70 : Int32), (85 : Int32), (78 : Int32), (67 : Int32), (84 : Int32), (73 : Int32), (79 : Int32), (78 : Int32)]) = (0 : Int32))]
    show Onw p e below _ (T5.setTop (mkF m 73 #[.val (.int p0), .val (.int k), .val (.ref cU), .val (.int (0 : Int32)), .val (.int (0 : Int32)), .val (.ref sU), .unset] [(.int (0 : Int32))]))
    refine Onw.go (fun own_u kt => XS.ifNo X5.here hx rfl (hb hby at_73) rfl ((if0 _ _).trans (teq (rfl : (0 : Int32) = (0 : Int32))).2) kt) ?_
    show Onw p e below _ (T5.setTop (mkF m 76 #[.val (.int p0), .val (.int k), .val (.ref cU), .val (.int (0 : Int32)), .val (.int (0 : Int32)), .val (.ref sU), .unset] []))
    refine Onw.go (fun own_u kt => XS.aload X5.here hx rfl (hb hby at_76) rfl rfl kt) ?_
    show Onw p e below _ (T5.setTop (mkF m 78 #[.val (.int p0), .val (.int k), .val (.ref cU), .val (.int (0 : Int32)), .val (.int (0 : Int32)), .val (.ref sU), .unset] [(.ref sU)]))
    obtain ⟨a_LP, T6, h6, k6, t_LP, kk_LP, X6, e6, Ex6, hS6, hk6, hZ6, hown6, E_LP, C_LP, V_LP, A_LP, lt6, lu6, IB6, Lt_LP, st6⟩ := ldcSVL (s := s) (vm0 := T4.vm) X5 hx hZ4 hown4 (hw _ (List.mem_of_getElem? (i := 41) rfl)) hstr e5q hS4 hk4 (by rw [hnn]; exact N5) hkeep IB4 (by simp) hheld2 hcw (vs := [Value.int (80 : Int32), Value.int (82 : Int32), Value.int (79 : Int32), Value.int (67 : Int32), Value.int (69 : Int32), Value.int (68 : Int32), Value.int (85 : Int32), Value.int (82 : Int32), Value.int (69 : Int32)]) (z := (9 : Int32)) (by refine ⟨by decide, by decide⟩) (by decide) rfl (g := (mkF m 78 #[.val (.int p0), .val (.int k), .val (.ref cU), .val (.int (0 : Int32)), .val (.int (0 : Int32)), .val (.ref sU), .unset] [(.ref sU)])) rfl (hb hby at_78) (n := 36) (by decide) (by decide) (by decide) (by decide)
    refine Onw.go st6 ?_
    show Onw p e below _ (T6.setTop (mkF m 80 #[.val (.int p0), .val (.int k), .val (.ref cU), .val (.int (0 : Int32)), .val (.int (0 : Int32)), .val (.ref sU), .unset] [(.ref a_LP), (.ref sU)]))
    obtain ⟨cq7, kq7, q7a, q7b, q7c⟩ := isOf hZ6 e6 ((ES_U.ext Ex4).ext Ex6)
    obtain ⟨_, _, ⟨T7, L7, k7, n7⟩, -, X7, ⟨Lc7, hQ7, l7, y7, z7⟩, st7⟩ := X6.virtualBack hx (y := (⟨"java/lang/String", "equals", "(Ljava/lang/Object;)Z"⟩ : MethodName)) (z := (⟨"java/lang/String", "equals", "(Ljava/lang/Object;)Z"⟩ : MethodName)) hown6 (mvT hZ6 (hw _ (List.mem_of_getElem? (i := 27) rfl))) (mvT hZ6 (hw _ (List.mem_of_getElem? (i := 28) rfl))) (notFace_of_selects (args := #[]) (mvT hZ6 (hw _ (List.mem_of_getElem? (i := 30) rfl)))) (mvT hZ6 (hw _ (List.mem_of_getElem? (i := 30) rfl))) (mvT hZ6 (hw _ (List.mem_of_getElem? (i := 29) rfl))) (by decide) (backOf (W := 0) (rm3 l Z a0 hw [] sU a_LP zc tU t_LP kU kk_LP [(74 : Int32), (65 : Int32), (82 : Int32)] [(80 : Int32), (82 : Int32), (79 : Int32), (67 : Int32), (69 : Int32), (68 : Int32), (85 : Int32), (82 : Int32), (69 : Int32)] h6 n0 ((S_C.ext Ex4).ext Ex6) hz ((ES_U.ext Ex4).ext Ex6) ((FC_U.ext Ex4).ext Ex6) ((FV_U.ext Ex4).ext Ex6) ((V_U.ext Ex4).ext Ex6) E_LP C_LP V_LP A_LP (by decide) (by decide)) hZ6 (hw _ (List.mem_of_getElem? (i := 31) rfl)) (hw _ (List.mem_of_getElem? (i := 20) rfl)) (by decide) (by decide)) q7a q7c (g := (mkF m 80 #[.val (.int p0), .val (.int k), .val (.ref cU), .val (.int (0 : Int32)), .val (.int (0 : Int32)), .val (.ref sU), .unset] [(.ref a_LP), (.ref sU)])) rfl (by rw [hml]; rfl) (Steps.refl _) (argsL := [(.ref a_LP)]) (rest := []) (lenOf pd_2 rfl) rfl (by show 2 * 0 + _ ≤ _; exact Nat.le_of_eq rfl) (hb hby at_80) (fun _ _ => ⟨rfl, e6, (by decide : 4 + 0 ≤ _), (by decide : 76 + 0 ≤ _)⟩)
    dsimp only [Pt.U, Pt.locs, Pt.cells, Pt.slots] at X7 l7 y7 z7 st7 hQ7
    subst l7 y7 z7
    obtain ⟨rfl, N7q, e7q⟩ := hQ7
    have N7 := Fr.app N5 N7q
    refine Onw.go (fun own_u kt => st7.trans kt) ?_
    show Onw p e below _ (T7.setTop (mkF m 83 #[.val (.int p0), .val (.int k), .val (.ref cU), .val (.int (0 : Int32)), .val (.int (0 : Int32)), .val (.ref sU), .unset] [(.int (own_eq [(74 : Int32), (65 : Int32), (82 : Int32)] [(80 : Int32), (82 : Int32), (79 : Int32), (67 : Int32), (69 : Int32), (68 : Int32), (85 : Int32), (82 : Int32), (69 : Int32)]))]))
    rw [(by decide : (own_eq [(74 : Int32), (65 : Int32), (82 : Int32)] [(80 : Int32), (82 : Int32), (79 : Int32), (67 : Int32), (69 : Int32), (68 : Int32), (85 : Int32), (82 : Int32), (69 : Int32)]) = (0 : Int32))]
    show Onw p e below _ (T7.setTop (mkF m 83 #[.val (.int p0), .val (.int k), .val (.ref cU), .val (.int (0 : Int32)), .val (.int (0 : Int32)), .val (.ref sU), .unset] [(.int (0 : Int32))]))
    refine Onw.go (fun own_u kt => XS.ifYes X7.here hx rfl (pc0 := 83) (pc' := 90) rfl (hb hby at_83) rfl ((if0 _ _).trans (teq (rfl : (0 : Int32) = (0 : Int32))).1) (by decide) (by decide) kt) ?_
    show Onw p e below _ (T7.setTop (mkF m 90 #[.val (.int p0), .val (.int k), .val (.ref cU), .val (.int (0 : Int32)), .val (.int (0 : Int32)), .val (.ref sU), .unset] []))
    refine Onw.go (fun own_u kt => XS.iconst X7.here hx rfl (hb hby at_90) kt) ?_
    show Onw p e below _ (T7.setTop (mkF m 91 #[.val (.int p0), .val (.int k), .val (.ref cU), .val (.int (0 : Int32)), .val (.int (0 : Int32)), .val (.ref sU), .unset] [(.int (0 : Int32))]))
    refine Onw.go (fun own_u kt => XS.istore X7.here hx rfl (hb hby at_91) rfl (l' := #[.val (.int p0), .val (.int k), .val (.ref cU), .val (.int (0 : Int32)), .val (.int (0 : Int32)), .val (.ref sU), .val (.int (0 : Int32))]) rfl kt) ?_
    show Onw p e below _ (T7.setTop (mkF m 93 #[.val (.int p0), .val (.int k), .val (.ref cU), .val (.int (0 : Int32)), .val (.int (0 : Int32)), .val (.ref sU), .val (.int (0 : Int32))] []))
    refine Onw.go (fun own_u kt => XS.iloadN X7.here hx rfl (hb hby at_93) rfl kt) ?_
    show Onw p e below _ (T7.setTop (mkF m 94 #[.val (.int p0), .val (.int k), .val (.ref cU), .val (.int (0 : Int32)), .val (.int (0 : Int32)), .val (.ref sU), .val (.int (0 : Int32))] [(.int (0 : Int32))]))
    refine Onw.go (fun own_u kt => XS.iload X7.here hx rfl (hb hby at_94) rfl kt) ?_
    show Onw p e below _ (T7.setTop (mkF m 96 #[.val (.int p0), .val (.int k), .val (.ref cU), .val (.int (0 : Int32)), .val (.int (0 : Int32)), .val (.ref sU), .val (.int (0 : Int32))] [(.int (0 : Int32)), (.int (0 : Int32))]))
    refine Onw.go (fun own_u kt => XS.icmpNo X7.here hx rfl (hb hby at_96) rfl (teq (rfl : (0 : Int32) = (0 : Int32))).2 kt) ?_
    show Onw p e below _ (T7.setTop (mkF m 99 #[.val (.int p0), .val (.int k), .val (.ref cU), .val (.int (0 : Int32)), .val (.int (0 : Int32)), .val (.ref sU), .val (.int (0 : Int32))] []))
    refine Onw.go (fun own_u kt => XS.iloadN X7.here hx rfl (hb hby at_99) rfl kt) ?_
    show Onw p e below _ (T7.setTop (mkF m 100 #[.val (.int p0), .val (.int k), .val (.ref cU), .val (.int (0 : Int32)), .val (.int (0 : Int32)), .val (.ref sU), .val (.int (0 : Int32))] [(.int (0 : Int32))]))
    refine Onw.go (fun own_u kt => XS.iload X7.here hx rfl (hb hby at_100) rfl kt) ?_
    show Onw p e below _ (T7.setTop (mkF m 102 #[.val (.int p0), .val (.int k), .val (.ref cU), .val (.int (0 : Int32)), .val (.int (0 : Int32)), .val (.ref sU), .val (.int (0 : Int32))] [(.int (0 : Int32)), (.int (0 : Int32))]))
    refine Onw.go (fun own_u kt => XS.icmpNo X7.here hx rfl (hb hby at_102) rfl (teq (rfl : (0 : Int32) = (0 : Int32))).2 kt) ?_
    show Onw p e below _ (T7.setTop (mkF m 105 #[.val (.int p0), .val (.int k), .val (.ref cU), .val (.int (0 : Int32)), .val (.int (0 : Int32)), .val (.ref sU), .val (.int (0 : Int32))] []))
    refine Onw.go (fun own_u kt => XS.iconst X7.here hx rfl (hb hby at_105) kt) ?_
    show Onw p e below _ (T7.setTop (mkF m 106 #[.val (.int p0), .val (.int k), .val (.ref cU), .val (.int (0 : Int32)), .val (.int (0 : Int32)), .val (.ref sU), .val (.int (0 : Int32))] [(.int (1 : Int32))]))
    refine Onw.go (fun own_u kt => XS.goto X7.here hx rfl (pc0 := 106) (pc' := 110) rfl (hb hby at_106) (by decide) (by decide) kt) ?_
    show Onw p e below _ (T7.setTop (mkF m 110 #[.val (.int p0), .val (.int k), .val (.ref cU), .val (.int (0 : Int32)), .val (.int (0 : Int32)), .val (.ref sU), .val (.int (0 : Int32))] [(.int (1 : Int32))]))
    exact Onw.retW X7 hS6 (by rw [e7q]; exact hk6) Bd.notSynchronized (fun h => by rw [Bd.returns] at h; cases h) (fun fs hr => retN X7 hx (t := .boolean) Bd.returns (by simp) (hb hby at_110) hr) ⟨rfl, N7⟩ (by decide) (by decide)
  · refine Onw.go (fun own_u kt => XS.ifYes X0.here hx rfl (pc0 := 5) (pc' := 15) rfl (hb hby at_5) rfl ((if0 _ _).trans (feq (hk0 : ¬ (k = (0 : Int32)))).2) (by decide) (by decide) kt) ?_
    show Onw p e below _ (s₁.setTop (mkF m 15 #[.val (.int p0), .val (.int k), .unset, .unset, .unset, .unset, .unset] []))
    refine Onw.go (fun own_u kt => XS.iloadN X0.here hx rfl (hb hby at_15) rfl kt) ?_
    show Onw p e below _ (s₁.setTop (mkF m 16 #[.val (.int p0), .val (.int k), .unset, .unset, .unset, .unset, .unset] [(.int k)]))
    refine Onw.go (fun own_u kt => XS.iconst X0.here hx rfl (hb hby at_16) kt) ?_
    show Onw p e below _ (s₁.setTop (mkF m 17 #[.val (.int p0), .val (.int k), .unset, .unset, .unset, .unset, .unset] [(.int (1 : Int32)), (.int k)]))
    by_cases hk1 : k = (1 : Int32)
    · refine Onw.go (fun own_u kt => XS.icmpNo X0.here hx rfl (hb hby at_17) rfl (teq (hk1 : k = (1 : Int32))).2 kt) ?_
      show Onw p e below _ (s₁.setTop (mkF m 20 #[.val (.int p0), .val (.int k), .unset, .unset, .unset, .unset, .unset] []))
      have hlt : k < 2 := by rw [hk1]; decide
      obtain ⟨T8, X8, e8, st8⟩ := getS2 X0 hx hZ hown (host := "") (Or.inl (hw _ (List.mem_of_getElem? (i := 44) rfl))) Via.refl e0 S_T (g := (mkF m 20 #[.val (.int p0), .val (.int k), .unset, .unset, .unset, .unset, .unset] [])) rfl (hb hby at_20)
      refine Onw.go st8 ?_
      show Onw p e below _ (T8.setTop (mkF m 23 #[.val (.int p0), .val (.int k), .unset, .unset, .unset, .unset, .unset] [(.ref cT)]))
      refine Onw.go (fun own_u kt => XS.astoreN X8.here hx rfl (hb hby at_23) rfl rfl (l' := #[.val (.int p0), .val (.int k), .val (.ref cT), .unset, .unset, .unset, .unset]) rfl kt) ?_
      show Onw p e below _ (T8.setTop (mkF m 24 #[.val (.int p0), .val (.int k), .val (.ref cT), .unset, .unset, .unset, .unset] []))
      refine Onw.go (fun own_u kt => XS.goto X8.here hx rfl (pc0 := 24) (pc' := 43) rfl (hb hby at_24) (by decide) (by decide) kt) ?_
      show Onw p e below _ (T8.setTop (mkF m 43 #[.val (.int p0), .val (.int k), .val (.ref cT), .unset, .unset, .unset, .unset] []))
      refine Onw.go (fun own_u kt => XS.aloadN X8.here hx rfl (hb hby at_43) rfl rfl kt) ?_
      show Onw p e below _ (T8.setTop (mkF m 44 #[.val (.int p0), .val (.int k), .val (.ref cT), .unset, .unset, .unset, .unset] [(.ref cT)]))
      obtain ⟨cq9, kq9, q9a, q9b, q9c⟩ := isOf hZ e8 E_T
      obtain ⟨_, _, ⟨T9, L9, k9, n9⟩, -, X9, ⟨Lc9, hQ9, l9, y9, z9⟩, st9⟩ := X8.virtualBack hx (y := (⟨"com/example/callstone/callstone/Privilege$Action", "isOnRoutines", "()Z"⟩ : MethodName)) (z := (⟨"com/example/callstone/callstone/Privilege$Action", "isOnRoutines", "()Z"⟩ : MethodName)) hown (mvT hZ (hw _ (List.mem_of_getElem? (i := 3) rfl))) (mvT hZ (hw _ (List.mem_of_getElem? (i := 4) rfl))) (notFace_of_selects (args := #[]) (mvT hZ (hw _ (List.mem_of_getElem? (i := 6) rfl)))) (mvT hZ (hw _ (List.mem_of_getElem? (i := 6) rfl))) (mvT hZ (hw _ (List.mem_of_getElem? (i := 5) rfl))) (by decide) (backOf (W := 0) (rm1 l Z a0 hw [] cT cE cP h0 n0 S_E S_P) hZ (hw _ (List.mem_of_getElem? (i := 7) rfl)) (hw _ (List.mem_of_getElem? (i := 1) rfl)) (by decide) (by decide)) q9a q9c (g := (mkF m 44 #[.val (.int p0), .val (.int k), .val (.ref cT), .unset, .unset, .unset, .unset] [(.ref cT)])) rfl (by rw [hml]; rfl) (Steps.refl _) (argsL := []) (rest := []) (lenOf pd_0 rfl) rfl (by show 2 * 0 + _ ≤ _; exact Nat.le_of_eq rfl) (hb hby at_44) (fun _ _ => ⟨rfl, e8, (by decide : 0 + 0 ≤ _), (by decide : 0 + 0 ≤ _)⟩)
      dsimp only [Pt.U, Pt.locs, Pt.cells, Pt.slots] at X9 l9 y9 z9 st9 hQ9
      subst l9 y9 z9
      obtain ⟨rfl, N9q, e9q⟩ := hQ9
      have N9 := Fr.app N0 N9q
      refine Onw.go (fun own_u kt => st9.trans kt) ?_
      show Onw p e below _ (T9.setTop (mkF m 47 #[.val (.int p0), .val (.int k), .val (.ref cT), .unset, .unset, .unset, .unset] [(.int (own_on cT cE cP))]))
      rw [(by unfold own_on; rw [if_neg n_TE, if_neg n_TP] : (own_on cT cE cP) = (0 : Int32))]
      show Onw p e below _ (T9.setTop (mkF m 47 #[.val (.int p0), .val (.int k), .val (.ref cT), .unset, .unset, .unset, .unset] [(.int (0 : Int32))]))
      refine Onw.go (fun own_u kt => XS.istoreN X9.here hx rfl (hb hby at_47) rfl (l' := #[.val (.int p0), .val (.int k), .val (.ref cT), .val (.int (0 : Int32)), .unset, .unset, .unset]) rfl kt) ?_
      show Onw p e below _ (T9.setTop (mkF m 48 #[.val (.int p0), .val (.int k), .val (.ref cT), .val (.int (0 : Int32)), .unset, .unset, .unset] []))
      refine Onw.go (fun own_u kt => XS.iloadN X9.here hx rfl (hb hby at_48) rfl kt) ?_
      show Onw p e below _ (T9.setTop (mkF m 49 #[.val (.int p0), .val (.int k), .val (.ref cT), .val (.int (0 : Int32)), .unset, .unset, .unset] [(.int k)]))
      refine Onw.go (fun own_u kt => XS.iconst X9.here hx rfl (hb hby at_49) kt) ?_
      show Onw p e below _ (T9.setTop (mkF m 50 #[.val (.int p0), .val (.int k), .val (.ref cT), .val (.int (0 : Int32)), .unset, .unset, .unset] [(.int (2 : Int32)), (.int k)]))
      refine Onw.go (fun own_u kt => XS.icmpYes X9.here hx rfl (pc0 := 50) (pc' := 57) rfl (hb hby at_50) rfl (tlt (hlt : k < (2 : Int32))).1 (by decide) (by decide) kt) ?_
      show Onw p e below _ (T9.setTop (mkF m 57 #[.val (.int p0), .val (.int k), .val (.ref cT), .val (.int (0 : Int32)), .unset, .unset, .unset] []))
      refine Onw.go (fun own_u kt => XS.iconst X9.here hx rfl (hb hby at_57) kt) ?_
      show Onw p e below _ (T9.setTop (mkF m 58 #[.val (.int p0), .val (.int k), .val (.ref cT), .val (.int (0 : Int32)), .unset, .unset, .unset] [(.int (0 : Int32))]))
      refine Onw.go (fun own_u kt => XS.istore X9.here hx rfl (hb hby at_58) rfl (l' := #[.val (.int p0), .val (.int k), .val (.ref cT), .val (.int (0 : Int32)), .val (.int (0 : Int32)), .unset, .unset]) rfl kt) ?_
      show Onw p e below _ (T9.setTop (mkF m 60 #[.val (.int p0), .val (.int k), .val (.ref cT), .val (.int (0 : Int32)), .val (.int (0 : Int32)), .unset, .unset] []))
      refine Onw.go (fun own_u kt => XS.aloadN X9.here hx rfl (hb hby at_60) rfl rfl kt) ?_
      show Onw p e below _ (T9.setTop (mkF m 61 #[.val (.int p0), .val (.int k), .val (.ref cT), .val (.int (0 : Int32)), .val (.int (0 : Int32)), .unset, .unset] [(.ref cT)]))
      obtain ⟨cq10, kq10, q10a, q10b, q10c⟩ := isOf hZ e9q E_T
      obtain ⟨_, _, ⟨T10, L10, k10, n10⟩, -, X10, ⟨Lc10, hQ10, l10, y10, z10⟩, st10⟩ := X9.virtualBack hx (y := (⟨"com/example/callstone/callstone/Privilege$Action", "objectType", "()Ljava/lang/String;"⟩ : MethodName)) (z := (⟨"com/example/callstone/callstone/Privilege$Action", "objectType", "()Ljava/lang/String;"⟩ : MethodName)) hown (mvT hZ (hw _ (List.mem_of_getElem? (i := 12) rfl))) (mvT hZ (hw _ (List.mem_of_getElem? (i := 13) rfl))) (notFace_of_selects (args := #[]) (mvT hZ (hw _ (List.mem_of_getElem? (i := 15) rfl)))) (mvT hZ (hw _ (List.mem_of_getElem? (i := 15) rfl))) (mvT hZ (hw _ (List.mem_of_getElem? (i := 14) rfl))) (by decide) (backOf (W := 0) (rm2 l Z a0 hw [] cT sT h0 n0 F_T) hZ (hw _ (List.mem_of_getElem? (i := 16) rfl)) (hw _ (List.mem_of_getElem? (i := 1) rfl)) (by decide) (by decide)) q10a q10c (g := (mkF m 61 #[.val (.int p0), .val (.int k), .val (.ref cT), .val (.int (0 : Int32)), .val (.int (0 : Int32)), .unset, .unset] [(.ref cT)])) rfl (by rw [hml]; rfl) (Steps.refl _) (argsL := []) (rest := []) (lenOf pd_1 rfl) rfl (by show 2 * 0 + _ ≤ _; exact Nat.le_of_eq rfl) (hb hby at_61) (fun _ _ => ⟨rfl, e9q, (by decide : 0 + 0 ≤ _), (by decide : 0 + 0 ≤ _)⟩)
      dsimp only [Pt.U, Pt.locs, Pt.cells, Pt.slots] at X10 l10 y10 z10 st10 hQ10
      subst l10 y10 z10
      obtain ⟨rfl, N10q, e10q⟩ := hQ10
      have N10 := Fr.app N9 N10q
      refine Onw.go (fun own_u kt => st10.trans kt) ?_
      show Onw p e below _ (T10.setTop (mkF m 64 #[.val (.int p0), .val (.int k), .val (.ref cT), .val (.int (0 : Int32)), .val (.int (0 : Int32)), .unset, .unset] [(.ref sT)]))
      refine Onw.go (fun own_u kt => XS.astore X10.here hx rfl (hb hby at_64) rfl rfl (l' := #[.val (.int p0), .val (.int k), .val (.ref cT), .val (.int (0 : Int32)), .val (.int (0 : Int32)), .val (.ref sT), .unset]) rfl kt) ?_
      show Onw p e below _ (T10.setTop (mkF m 66 #[.val (.int p0), .val (.int k), .val (.ref cT), .val (.int (0 : Int32)), .val (.int (0 : Int32)), .val (.ref sT), .unset] []))
      refine Onw.go (fun own_u kt => XS.aload X10.here hx rfl (hb hby at_66) rfl rfl kt) ?_
      show Onw p e below _ (T10.setTop (mkF m 68 #[.val (.int p0), .val (.int k), .val (.ref cT), .val (.int (0 : Int32)), .val (.int (0 : Int32)), .val (.ref sT), .unset] [(.ref sT)]))
      have hS0 : s.Since s.vm 0 := (State.WarmedH.refl s).since 0
      have IB0 : IB Z s.vm [] := own_ib0 hUZ
      obtain ⟨a_LF, T11, h11, k11, t_LF, kk_LF, X11, e11, Ex11, hS11, hk11, hZ11, hown11, E_LF, C_LF, V_LF, A_LF, lt11, lu11, IB11, Lt_LF, st11⟩ := ldcSVL (s := s) (vm0 := s.vm) X10 hx hZ hown (hw _ (List.mem_of_getElem? (i := 19) rfl)) hstr e10q hS0 (Nat.zero_le _) (by rw [hnn]; exact N10) hkeep IB0 (by simp) hheld1 hcw (vs := [Value.int (70 : Int32), Value.int (85 : Int32), Value.int (78 : Int32), Value.int (67 : Int32), Value.int (84 : Int32), Value.int (73 : Int32), Value.int (79 : Int32), Value.int (78 : Int32)]) (z := (8 : Int32)) (by refine ⟨by decide, by decide⟩) (by decide) rfl (g := (mkF m 68 #[.val (.int p0), .val (.int k), .val (.ref cT), .val (.int (0 : Int32)), .val (.int (0 : Int32)), .val (.ref sT), .unset] [(.ref sT)])) rfl (hb hby at_68) (n := 32) (by decide) (by decide) (by decide) (by decide)
      refine Onw.go st11 ?_
      show Onw p e below _ (T11.setTop (mkF m 70 #[.val (.int p0), .val (.int k), .val (.ref cT), .val (.int (0 : Int32)), .val (.int (0 : Int32)), .val (.ref sT), .unset] [(.ref a_LF), (.ref sT)]))
      obtain ⟨cq12, kq12, q12a, q12b, q12c⟩ := isOf hZ11 e11 (ES_T.ext Ex11)
      obtain ⟨_, _, ⟨T12, L12, k12, n12⟩, -, X12, ⟨Lc12, hQ12, l12, y12, z12⟩, st12⟩ := X11.virtualBack hx (y := (⟨"java/lang/String", "equals", "(Ljava/lang/Object;)Z"⟩ : MethodName)) (z := (⟨"java/lang/String", "equals", "(Ljava/lang/Object;)Z"⟩ : MethodName)) hown11 (mvT hZ11 (hw _ (List.mem_of_getElem? (i := 27) rfl))) (mvT hZ11 (hw _ (List.mem_of_getElem? (i := 28) rfl))) (notFace_of_selects (args := #[]) (mvT hZ11 (hw _ (List.mem_of_getElem? (i := 30) rfl)))) (mvT hZ11 (hw _ (List.mem_of_getElem? (i := 30) rfl))) (mvT hZ11 (hw _ (List.mem_of_getElem? (i := 29) rfl))) (by decide) (backOf (W := 0) (rm3 l Z a0 hw [] sT a_LF zc tT t_LF kT kk_LF [(84 : Int32), (89 : Int32), (80 : Int32), (69 : Int32)] [(70 : Int32), (85 : Int32), (78 : Int32), (67 : Int32), (84 : Int32), (73 : Int32), (79 : Int32), (78 : Int32)] h11 n0 (S_C.ext Ex11) hz (ES_T.ext Ex11) (FC_T.ext Ex11) (FV_T.ext Ex11) (V_T.ext Ex11) E_LF C_LF V_LF A_LF (by decide) (by decide)) hZ11 (hw _ (List.mem_of_getElem? (i := 31) rfl)) (hw _ (List.mem_of_getElem? (i := 20) rfl)) (by decide) (by decide)) q12a q12c (g := (mkF m 70 #[.val (.int p0), .val (.int k), .val (.ref cT), .val (.int (0 : Int32)), .val (.int (0 : Int32)), .val (.ref sT), .unset] [(.ref a_LF), (.ref sT)])) rfl (by rw [hml]; rfl) (Steps.refl _) (argsL := [(.ref a_LF)]) (rest := []) (lenOf pd_2 rfl) rfl (by show 2 * 0 + _ ≤ _; exact Nat.le_of_eq rfl) (hb hby at_70) (fun _ _ => ⟨rfl, e11, (by decide : 2 + 0 ≤ _), (by decide : 36 + 0 ≤ _)⟩)
      dsimp only [Pt.U, Pt.locs, Pt.cells, Pt.slots] at X12 l12 y12 z12 st12 hQ12
      subst l12 y12 z12
      obtain ⟨rfl, N12q, e12q⟩ := hQ12
      have N12 := Fr.app N10 N12q
      refine Onw.go (fun own_u kt => st12.trans kt) ?_
      show Onw p e below _ (T12.setTop (mkF m 73 #[.val (.int p0), .val (.int k), .val (.ref cT), .val (.int (0 : Int32)), .val (.int (0 : Int32)), .val (.ref sT), .unset] [(.int (own_eq [(84 : Int32), (89 : Int32), (80 : Int32), (69 : Int32)] [(70 : Int32), (85 : Int32), (78 : Int32), (67 : Int32), (84 : Int32), (73 : Int32), (79 : Int32), (78 : Int32)]))]))
      rw [(by decide : (own_eq [(84 : Int32), (89 : Int32), (80 : Int32), (69 : Int32)] [(70 : Int32), (85 : Int32), (78 : Int32), (67 : Int32), (84 : Int32), (73 : Int32), (79 : Int32), (78 : Int32)]) = (0 : Int32))]
      show Onw p e below _ (T12.setTop (mkF m 73 #[.val (.int p0), .val (.int k), .val (.ref cT), .val (.int (0 : Int32)), .val (.int (0 : Int32)), .val (.ref sT), .unset] [(.int (0 : Int32))]))
      refine Onw.go (fun own_u kt => XS.ifNo X12.here hx rfl (hb hby at_73) rfl ((if0 _ _).trans (teq (rfl : (0 : Int32) = (0 : Int32))).2) kt) ?_
      show Onw p e below _ (T12.setTop (mkF m 76 #[.val (.int p0), .val (.int k), .val (.ref cT), .val (.int (0 : Int32)), .val (.int (0 : Int32)), .val (.ref sT), .unset] []))
      refine Onw.go (fun own_u kt => XS.aload X12.here hx rfl (hb hby at_76) rfl rfl kt) ?_
      show Onw p e below _ (T12.setTop (mkF m 78 #[.val (.int p0), .val (.int k), .val (.ref cT), .val (.int (0 : Int32)), .val (.int (0 : Int32)), .val (.ref sT), .unset] [(.ref sT)]))
      obtain ⟨a_LP, T13, h13, k13, t_LP, kk_LP, X13, e13, Ex13, hS13, hk13, hZ13, hown13, E_LP, C_LP, V_LP, A_LP, lt13, lu13, IB13, Lt_LP, st13⟩ := ldcSVL (s := s) (vm0 := T11.vm) X12 hx hZ11 hown11 (hw _ (List.mem_of_getElem? (i := 41) rfl)) hstr e12q hS11 hk11 (by rw [hnn]; exact N12) hkeep IB11 (by simp) hheld2 hcw (vs := [Value.int (80 : Int32), Value.int (82 : Int32), Value.int (79 : Int32), Value.int (67 : Int32), Value.int (69 : Int32), Value.int (68 : Int32), Value.int (85 : Int32), Value.int (82 : Int32), Value.int (69 : Int32)]) (z := (9 : Int32)) (by refine ⟨by decide, by decide⟩) (by decide) rfl (g := (mkF m 78 #[.val (.int p0), .val (.int k), .val (.ref cT), .val (.int (0 : Int32)), .val (.int (0 : Int32)), .val (.ref sT), .unset] [(.ref sT)])) rfl (hb hby at_78) (n := 36) (by decide) (by decide) (by decide) (by decide)
      refine Onw.go st13 ?_
      show Onw p e below _ (T13.setTop (mkF m 80 #[.val (.int p0), .val (.int k), .val (.ref cT), .val (.int (0 : Int32)), .val (.int (0 : Int32)), .val (.ref sT), .unset] [(.ref a_LP), (.ref sT)]))
      obtain ⟨cq14, kq14, q14a, q14b, q14c⟩ := isOf hZ13 e13 ((ES_T.ext Ex11).ext Ex13)
      obtain ⟨_, _, ⟨T14, L14, k14, n14⟩, -, X14, ⟨Lc14, hQ14, l14, y14, z14⟩, st14⟩ := X13.virtualBack hx (y := (⟨"java/lang/String", "equals", "(Ljava/lang/Object;)Z"⟩ : MethodName)) (z := (⟨"java/lang/String", "equals", "(Ljava/lang/Object;)Z"⟩ : MethodName)) hown13 (mvT hZ13 (hw _ (List.mem_of_getElem? (i := 27) rfl))) (mvT hZ13 (hw _ (List.mem_of_getElem? (i := 28) rfl))) (notFace_of_selects (args := #[]) (mvT hZ13 (hw _ (List.mem_of_getElem? (i := 30) rfl)))) (mvT hZ13 (hw _ (List.mem_of_getElem? (i := 30) rfl))) (mvT hZ13 (hw _ (List.mem_of_getElem? (i := 29) rfl))) (by decide) (backOf (W := 0) (rm3 l Z a0 hw [] sT a_LP zc tT t_LP kT kk_LP [(84 : Int32), (89 : Int32), (80 : Int32), (69 : Int32)] [(80 : Int32), (82 : Int32), (79 : Int32), (67 : Int32), (69 : Int32), (68 : Int32), (85 : Int32), (82 : Int32), (69 : Int32)] h13 n0 ((S_C.ext Ex11).ext Ex13) hz ((ES_T.ext Ex11).ext Ex13) ((FC_T.ext Ex11).ext Ex13) ((FV_T.ext Ex11).ext Ex13) ((V_T.ext Ex11).ext Ex13) E_LP C_LP V_LP A_LP (by decide) (by decide)) hZ13 (hw _ (List.mem_of_getElem? (i := 31) rfl)) (hw _ (List.mem_of_getElem? (i := 20) rfl)) (by decide) (by decide)) q14a q14c (g := (mkF m 80 #[.val (.int p0), .val (.int k), .val (.ref cT), .val (.int (0 : Int32)), .val (.int (0 : Int32)), .val (.ref sT), .unset] [(.ref a_LP), (.ref sT)])) rfl (by rw [hml]; rfl) (Steps.refl _) (argsL := [(.ref a_LP)]) (rest := []) (lenOf pd_2 rfl) rfl (by show 2 * 0 + _ ≤ _; exact Nat.le_of_eq rfl) (hb hby at_80) (fun _ _ => ⟨rfl, e13, (by decide : 4 + 0 ≤ _), (by decide : 76 + 0 ≤ _)⟩)
      dsimp only [Pt.U, Pt.locs, Pt.cells, Pt.slots] at X14 l14 y14 z14 st14 hQ14
      subst l14 y14 z14
      obtain ⟨rfl, N14q, e14q⟩ := hQ14
      have N14 := Fr.app N12 N14q
      refine Onw.go (fun own_u kt => st14.trans kt) ?_
      show Onw p e below _ (T14.setTop (mkF m 83 #[.val (.int p0), .val (.int k), .val (.ref cT), .val (.int (0 : Int32)), .val (.int (0 : Int32)), .val (.ref sT), .unset] [(.int (own_eq [(84 : Int32), (89 : Int32), (80 : Int32), (69 : Int32)] [(80 : Int32), (82 : Int32), (79 : Int32), (67 : Int32), (69 : Int32), (68 : Int32), (85 : Int32), (82 : Int32), (69 : Int32)]))]))
      rw [(by decide : (own_eq [(84 : Int32), (89 : Int32), (80 : Int32), (69 : Int32)] [(80 : Int32), (82 : Int32), (79 : Int32), (67 : Int32), (69 : Int32), (68 : Int32), (85 : Int32), (82 : Int32), (69 : Int32)]) = (0 : Int32))]
      show Onw p e below _ (T14.setTop (mkF m 83 #[.val (.int p0), .val (.int k), .val (.ref cT), .val (.int (0 : Int32)), .val (.int (0 : Int32)), .val (.ref sT), .unset] [(.int (0 : Int32))]))
      refine Onw.go (fun own_u kt => XS.ifYes X14.here hx rfl (pc0 := 83) (pc' := 90) rfl (hb hby at_83) rfl ((if0 _ _).trans (teq (rfl : (0 : Int32) = (0 : Int32))).1) (by decide) (by decide) kt) ?_
      show Onw p e below _ (T14.setTop (mkF m 90 #[.val (.int p0), .val (.int k), .val (.ref cT), .val (.int (0 : Int32)), .val (.int (0 : Int32)), .val (.ref sT), .unset] []))
      refine Onw.go (fun own_u kt => XS.iconst X14.here hx rfl (hb hby at_90) kt) ?_
      show Onw p e below _ (T14.setTop (mkF m 91 #[.val (.int p0), .val (.int k), .val (.ref cT), .val (.int (0 : Int32)), .val (.int (0 : Int32)), .val (.ref sT), .unset] [(.int (0 : Int32))]))
      refine Onw.go (fun own_u kt => XS.istore X14.here hx rfl (hb hby at_91) rfl (l' := #[.val (.int p0), .val (.int k), .val (.ref cT), .val (.int (0 : Int32)), .val (.int (0 : Int32)), .val (.ref sT), .val (.int (0 : Int32))]) rfl kt) ?_
      show Onw p e below _ (T14.setTop (mkF m 93 #[.val (.int p0), .val (.int k), .val (.ref cT), .val (.int (0 : Int32)), .val (.int (0 : Int32)), .val (.ref sT), .val (.int (0 : Int32))] []))
      refine Onw.go (fun own_u kt => XS.iloadN X14.here hx rfl (hb hby at_93) rfl kt) ?_
      show Onw p e below _ (T14.setTop (mkF m 94 #[.val (.int p0), .val (.int k), .val (.ref cT), .val (.int (0 : Int32)), .val (.int (0 : Int32)), .val (.ref sT), .val (.int (0 : Int32))] [(.int (0 : Int32))]))
      refine Onw.go (fun own_u kt => XS.iload X14.here hx rfl (hb hby at_94) rfl kt) ?_
      show Onw p e below _ (T14.setTop (mkF m 96 #[.val (.int p0), .val (.int k), .val (.ref cT), .val (.int (0 : Int32)), .val (.int (0 : Int32)), .val (.ref sT), .val (.int (0 : Int32))] [(.int (0 : Int32)), (.int (0 : Int32))]))
      refine Onw.go (fun own_u kt => XS.icmpNo X14.here hx rfl (hb hby at_96) rfl (teq (rfl : (0 : Int32) = (0 : Int32))).2 kt) ?_
      show Onw p e below _ (T14.setTop (mkF m 99 #[.val (.int p0), .val (.int k), .val (.ref cT), .val (.int (0 : Int32)), .val (.int (0 : Int32)), .val (.ref sT), .val (.int (0 : Int32))] []))
      refine Onw.go (fun own_u kt => XS.iloadN X14.here hx rfl (hb hby at_99) rfl kt) ?_
      show Onw p e below _ (T14.setTop (mkF m 100 #[.val (.int p0), .val (.int k), .val (.ref cT), .val (.int (0 : Int32)), .val (.int (0 : Int32)), .val (.ref sT), .val (.int (0 : Int32))] [(.int (0 : Int32))]))
      refine Onw.go (fun own_u kt => XS.iload X14.here hx rfl (hb hby at_100) rfl kt) ?_
      show Onw p e below _ (T14.setTop (mkF m 102 #[.val (.int p0), .val (.int k), .val (.ref cT), .val (.int (0 : Int32)), .val (.int (0 : Int32)), .val (.ref sT), .val (.int (0 : Int32))] [(.int (0 : Int32)), (.int (0 : Int32))]))
      refine Onw.go (fun own_u kt => XS.icmpNo X14.here hx rfl (hb hby at_102) rfl (teq (rfl : (0 : Int32) = (0 : Int32))).2 kt) ?_
      show Onw p e below _ (T14.setTop (mkF m 105 #[.val (.int p0), .val (.int k), .val (.ref cT), .val (.int (0 : Int32)), .val (.int (0 : Int32)), .val (.ref sT), .val (.int (0 : Int32))] []))
      refine Onw.go (fun own_u kt => XS.iconst X14.here hx rfl (hb hby at_105) kt) ?_
      show Onw p e below _ (T14.setTop (mkF m 106 #[.val (.int p0), .val (.int k), .val (.ref cT), .val (.int (0 : Int32)), .val (.int (0 : Int32)), .val (.ref sT), .val (.int (0 : Int32))] [(.int (1 : Int32))]))
      refine Onw.go (fun own_u kt => XS.goto X14.here hx rfl (pc0 := 106) (pc' := 110) rfl (hb hby at_106) (by decide) (by decide) kt) ?_
      show Onw p e below _ (T14.setTop (mkF m 110 #[.val (.int p0), .val (.int k), .val (.ref cT), .val (.int (0 : Int32)), .val (.int (0 : Int32)), .val (.ref sT), .val (.int (0 : Int32))] [(.int (1 : Int32))]))
      exact Onw.retW X14 hS13 (by rw [e14q]; exact hk13) Bd.notSynchronized (fun h => by rw [Bd.returns] at h; cases h) (fun fs hr => retN X14 hx (t := .boolean) Bd.returns (by simp) (hb hby at_110) hr) ⟨rfl, N14⟩ (by decide) (by decide)
    · refine Onw.go (fun own_u kt => XS.icmpYes X0.here hx rfl (pc0 := 17) (pc' := 27) rfl (hb hby at_17) rfl (feq (hk1 : ¬ (k = (1 : Int32)))).2 (by decide) (by decide) kt) ?_
      show Onw p e below _ (s₁.setTop (mkF m 27 #[.val (.int p0), .val (.int k), .unset, .unset, .unset, .unset, .unset] []))
      refine Onw.go (fun own_u kt => XS.iloadN X0.here hx rfl (hb hby at_27) rfl kt) ?_
      show Onw p e below _ (s₁.setTop (mkF m 28 #[.val (.int p0), .val (.int k), .unset, .unset, .unset, .unset, .unset] [(.int k)]))
      refine Onw.go (fun own_u kt => XS.iconst X0.here hx rfl (hb hby at_28) kt) ?_
      show Onw p e below _ (s₁.setTop (mkF m 29 #[.val (.int p0), .val (.int k), .unset, .unset, .unset, .unset, .unset] [(.int (2 : Int32)), (.int k)]))
      by_cases hk2 : k = (2 : Int32)
      · refine Onw.go (fun own_u kt => XS.icmpNo X0.here hx rfl (hb hby at_29) rfl (teq (hk2 : k = (2 : Int32))).2 kt) ?_
        show Onw p e below _ (s₁.setTop (mkF m 32 #[.val (.int p0), .val (.int k), .unset, .unset, .unset, .unset, .unset] []))
        have hge : ¬ k < 2 := by rw [hk2]; decide
        obtain ⟨T15, X15, e15, st15⟩ := getS2 X0 hx hZ hown (host := "") (Or.inl (hw _ (List.mem_of_getElem? (i := 43) rfl))) Via.refl e0 S_E (g := (mkF m 32 #[.val (.int p0), .val (.int k), .unset, .unset, .unset, .unset, .unset] [])) rfl (hb hby at_32)
        refine Onw.go st15 ?_
        show Onw p e below _ (T15.setTop (mkF m 35 #[.val (.int p0), .val (.int k), .unset, .unset, .unset, .unset, .unset] [(.ref cE)]))
        refine Onw.go (fun own_u kt => XS.astoreN X15.here hx rfl (hb hby at_35) rfl rfl (l' := #[.val (.int p0), .val (.int k), .val (.ref cE), .unset, .unset, .unset, .unset]) rfl kt) ?_
        show Onw p e below _ (T15.setTop (mkF m 36 #[.val (.int p0), .val (.int k), .val (.ref cE), .unset, .unset, .unset, .unset] []))
        refine Onw.go (fun own_u kt => XS.goto X15.here hx rfl (pc0 := 36) (pc' := 43) rfl (hb hby at_36) (by decide) (by decide) kt) ?_
        show Onw p e below _ (T15.setTop (mkF m 43 #[.val (.int p0), .val (.int k), .val (.ref cE), .unset, .unset, .unset, .unset] []))
        refine Onw.go (fun own_u kt => XS.aloadN X15.here hx rfl (hb hby at_43) rfl rfl kt) ?_
        show Onw p e below _ (T15.setTop (mkF m 44 #[.val (.int p0), .val (.int k), .val (.ref cE), .unset, .unset, .unset, .unset] [(.ref cE)]))
        obtain ⟨cq16, kq16, q16a, q16b, q16c⟩ := isOf hZ e15 E_E
        obtain ⟨_, _, ⟨T16, L16, k16, n16⟩, -, X16, ⟨Lc16, hQ16, l16, y16, z16⟩, st16⟩ := X15.virtualBack hx (y := (⟨"com/example/callstone/callstone/Privilege$Action", "isOnRoutines", "()Z"⟩ : MethodName)) (z := (⟨"com/example/callstone/callstone/Privilege$Action", "isOnRoutines", "()Z"⟩ : MethodName)) hown (mvT hZ (hw _ (List.mem_of_getElem? (i := 3) rfl))) (mvT hZ (hw _ (List.mem_of_getElem? (i := 4) rfl))) (notFace_of_selects (args := #[]) (mvT hZ (hw _ (List.mem_of_getElem? (i := 6) rfl)))) (mvT hZ (hw _ (List.mem_of_getElem? (i := 6) rfl))) (mvT hZ (hw _ (List.mem_of_getElem? (i := 5) rfl))) (by decide) (backOf (W := 0) (rm1 l Z a0 hw [] cE cE cP h0 n0 S_E S_P) hZ (hw _ (List.mem_of_getElem? (i := 7) rfl)) (hw _ (List.mem_of_getElem? (i := 1) rfl)) (by decide) (by decide)) q16a q16c (g := (mkF m 44 #[.val (.int p0), .val (.int k), .val (.ref cE), .unset, .unset, .unset, .unset] [(.ref cE)])) rfl (by rw [hml]; rfl) (Steps.refl _) (argsL := []) (rest := []) (lenOf pd_0 rfl) rfl (by show 2 * 0 + _ ≤ _; exact Nat.le_of_eq rfl) (hb hby at_44) (fun _ _ => ⟨rfl, e15, (by decide : 0 + 0 ≤ _), (by decide : 0 + 0 ≤ _)⟩)
        dsimp only [Pt.U, Pt.locs, Pt.cells, Pt.slots] at X16 l16 y16 z16 st16 hQ16
        subst l16 y16 z16
        obtain ⟨rfl, N16q, e16q⟩ := hQ16
        have N16 := Fr.app N0 N16q
        refine Onw.go (fun own_u kt => st16.trans kt) ?_
        show Onw p e below _ (T16.setTop (mkF m 47 #[.val (.int p0), .val (.int k), .val (.ref cE), .unset, .unset, .unset, .unset] [(.int (own_on cE cE cP))]))
        rw [(by unfold own_on; rw [if_pos rfl] : (own_on cE cE cP) = (1 : Int32))]
        show Onw p e below _ (T16.setTop (mkF m 47 #[.val (.int p0), .val (.int k), .val (.ref cE), .unset, .unset, .unset, .unset] [(.int (1 : Int32))]))
        refine Onw.go (fun own_u kt => XS.istoreN X16.here hx rfl (hb hby at_47) rfl (l' := #[.val (.int p0), .val (.int k), .val (.ref cE), .val (.int (1 : Int32)), .unset, .unset, .unset]) rfl kt) ?_
        show Onw p e below _ (T16.setTop (mkF m 48 #[.val (.int p0), .val (.int k), .val (.ref cE), .val (.int (1 : Int32)), .unset, .unset, .unset] []))
        refine Onw.go (fun own_u kt => XS.iloadN X16.here hx rfl (hb hby at_48) rfl kt) ?_
        show Onw p e below _ (T16.setTop (mkF m 49 #[.val (.int p0), .val (.int k), .val (.ref cE), .val (.int (1 : Int32)), .unset, .unset, .unset] [(.int k)]))
        refine Onw.go (fun own_u kt => XS.iconst X16.here hx rfl (hb hby at_49) kt) ?_
        show Onw p e below _ (T16.setTop (mkF m 50 #[.val (.int p0), .val (.int k), .val (.ref cE), .val (.int (1 : Int32)), .unset, .unset, .unset] [(.int (2 : Int32)), (.int k)]))
        refine Onw.go (fun own_u kt => XS.icmpNo X16.here hx rfl (hb hby at_50) rfl (flt (hge : ¬ (k < (2 : Int32)))).1 kt) ?_
        show Onw p e below _ (T16.setTop (mkF m 53 #[.val (.int p0), .val (.int k), .val (.ref cE), .val (.int (1 : Int32)), .unset, .unset, .unset] []))
        refine Onw.go (fun own_u kt => XS.iconst X16.here hx rfl (hb hby at_53) kt) ?_
        show Onw p e below _ (T16.setTop (mkF m 54 #[.val (.int p0), .val (.int k), .val (.ref cE), .val (.int (1 : Int32)), .unset, .unset, .unset] [(.int (1 : Int32))]))
        refine Onw.go (fun own_u kt => XS.goto X16.here hx rfl (pc0 := 54) (pc' := 58) rfl (hb hby at_54) (by decide) (by decide) kt) ?_
        show Onw p e below _ (T16.setTop (mkF m 58 #[.val (.int p0), .val (.int k), .val (.ref cE), .val (.int (1 : Int32)), .unset, .unset, .unset] [(.int (1 : Int32))]))
        refine Onw.go (fun own_u kt => XS.istore X16.here hx rfl (hb hby at_58) rfl (l' := #[.val (.int p0), .val (.int k), .val (.ref cE), .val (.int (1 : Int32)), .val (.int (1 : Int32)), .unset, .unset]) rfl kt) ?_
        show Onw p e below _ (T16.setTop (mkF m 60 #[.val (.int p0), .val (.int k), .val (.ref cE), .val (.int (1 : Int32)), .val (.int (1 : Int32)), .unset, .unset] []))
        refine Onw.go (fun own_u kt => XS.aloadN X16.here hx rfl (hb hby at_60) rfl rfl kt) ?_
        show Onw p e below _ (T16.setTop (mkF m 61 #[.val (.int p0), .val (.int k), .val (.ref cE), .val (.int (1 : Int32)), .val (.int (1 : Int32)), .unset, .unset] [(.ref cE)]))
        obtain ⟨cq17, kq17, q17a, q17b, q17c⟩ := isOf hZ e16q E_E
        obtain ⟨_, _, ⟨T17, L17, k17, n17⟩, -, X17, ⟨Lc17, hQ17, l17, y17, z17⟩, st17⟩ := X16.virtualBack hx (y := (⟨"com/example/callstone/callstone/Privilege$Action", "objectType", "()Ljava/lang/String;"⟩ : MethodName)) (z := (⟨"com/example/callstone/callstone/Privilege$Action", "objectType", "()Ljava/lang/String;"⟩ : MethodName)) hown (mvT hZ (hw _ (List.mem_of_getElem? (i := 12) rfl))) (mvT hZ (hw _ (List.mem_of_getElem? (i := 13) rfl))) (notFace_of_selects (args := #[]) (mvT hZ (hw _ (List.mem_of_getElem? (i := 15) rfl)))) (mvT hZ (hw _ (List.mem_of_getElem? (i := 15) rfl))) (mvT hZ (hw _ (List.mem_of_getElem? (i := 14) rfl))) (by decide) (backOf (W := 0) (rm2 l Z a0 hw [] cE sE h0 n0 F_E) hZ (hw _ (List.mem_of_getElem? (i := 16) rfl)) (hw _ (List.mem_of_getElem? (i := 1) rfl)) (by decide) (by decide)) q17a q17c (g := (mkF m 61 #[.val (.int p0), .val (.int k), .val (.ref cE), .val (.int (1 : Int32)), .val (.int (1 : Int32)), .unset, .unset] [(.ref cE)])) rfl (by rw [hml]; rfl) (Steps.refl _) (argsL := []) (rest := []) (lenOf pd_1 rfl) rfl (by show 2 * 0 + _ ≤ _; exact Nat.le_of_eq rfl) (hb hby at_61) (fun _ _ => ⟨rfl, e16q, (by decide : 0 + 0 ≤ _), (by decide : 0 + 0 ≤ _)⟩)
        dsimp only [Pt.U, Pt.locs, Pt.cells, Pt.slots] at X17 l17 y17 z17 st17 hQ17
        subst l17 y17 z17
        obtain ⟨rfl, N17q, e17q⟩ := hQ17
        have N17 := Fr.app N16 N17q
        refine Onw.go (fun own_u kt => st17.trans kt) ?_
        show Onw p e below _ (T17.setTop (mkF m 64 #[.val (.int p0), .val (.int k), .val (.ref cE), .val (.int (1 : Int32)), .val (.int (1 : Int32)), .unset, .unset] [(.ref sE)]))
        refine Onw.go (fun own_u kt => XS.astore X17.here hx rfl (hb hby at_64) rfl rfl (l' := #[.val (.int p0), .val (.int k), .val (.ref cE), .val (.int (1 : Int32)), .val (.int (1 : Int32)), .val (.ref sE), .unset]) rfl kt) ?_
        show Onw p e below _ (T17.setTop (mkF m 66 #[.val (.int p0), .val (.int k), .val (.ref cE), .val (.int (1 : Int32)), .val (.int (1 : Int32)), .val (.ref sE), .unset] []))
        refine Onw.go (fun own_u kt => XS.aload X17.here hx rfl (hb hby at_66) rfl rfl kt) ?_
        show Onw p e below _ (T17.setTop (mkF m 68 #[.val (.int p0), .val (.int k), .val (.ref cE), .val (.int (1 : Int32)), .val (.int (1 : Int32)), .val (.ref sE), .unset] [(.ref sE)]))
        have hS0 : s.Since s.vm 0 := (State.WarmedH.refl s).since 0
        have IB0 : IB Z s.vm [] := own_ib0 hUZ
        obtain ⟨a_LF, T18, h18, k18, t_LF, kk_LF, X18, e18, Ex18, hS18, hk18, hZ18, hown18, E_LF, C_LF, V_LF, A_LF, lt18, lu18, IB18, Lt_LF, st18⟩ := ldcSVL (s := s) (vm0 := s.vm) X17 hx hZ hown (hw _ (List.mem_of_getElem? (i := 19) rfl)) hstr e17q hS0 (Nat.zero_le _) (by rw [hnn]; exact N17) hkeep IB0 (by simp) hheld1 hcw (vs := [Value.int (70 : Int32), Value.int (85 : Int32), Value.int (78 : Int32), Value.int (67 : Int32), Value.int (84 : Int32), Value.int (73 : Int32), Value.int (79 : Int32), Value.int (78 : Int32)]) (z := (8 : Int32)) (by refine ⟨by decide, by decide⟩) (by decide) rfl (g := (mkF m 68 #[.val (.int p0), .val (.int k), .val (.ref cE), .val (.int (1 : Int32)), .val (.int (1 : Int32)), .val (.ref sE), .unset] [(.ref sE)])) rfl (hb hby at_68) (n := 32) (by decide) (by decide) (by decide) (by decide)
        refine Onw.go st18 ?_
        show Onw p e below _ (T18.setTop (mkF m 70 #[.val (.int p0), .val (.int k), .val (.ref cE), .val (.int (1 : Int32)), .val (.int (1 : Int32)), .val (.ref sE), .unset] [(.ref a_LF), (.ref sE)]))
        obtain ⟨cq19, kq19, q19a, q19b, q19c⟩ := isOf hZ18 e18 (ES_E.ext Ex18)
        obtain ⟨_, _, ⟨T19, L19, k19, n19⟩, -, X19, ⟨Lc19, hQ19, l19, y19, z19⟩, st19⟩ := X18.virtualBack hx (y := (⟨"java/lang/String", "equals", "(Ljava/lang/Object;)Z"⟩ : MethodName)) (z := (⟨"java/lang/String", "equals", "(Ljava/lang/Object;)Z"⟩ : MethodName)) hown18 (mvT hZ18 (hw _ (List.mem_of_getElem? (i := 27) rfl))) (mvT hZ18 (hw _ (List.mem_of_getElem? (i := 28) rfl))) (notFace_of_selects (args := #[]) (mvT hZ18 (hw _ (List.mem_of_getElem? (i := 30) rfl)))) (mvT hZ18 (hw _ (List.mem_of_getElem? (i := 30) rfl))) (mvT hZ18 (hw _ (List.mem_of_getElem? (i := 29) rfl))) (by decide) (backOf (W := 0) (rm3 l Z a0 hw [] sE a_LF zc tE t_LF kE kk_LF [(70 : Int32), (85 : Int32), (78 : Int32), (67 : Int32), (84 : Int32), (73 : Int32), (79 : Int32), (78 : Int32)] [(70 : Int32), (85 : Int32), (78 : Int32), (67 : Int32), (84 : Int32), (73 : Int32), (79 : Int32), (78 : Int32)] h18 n0 (S_C.ext Ex18) hz (ES_E.ext Ex18) (FC_E.ext Ex18) (FV_E.ext Ex18) (V_E.ext Ex18) E_LF C_LF V_LF A_LF (by decide) (by decide)) hZ18 (hw _ (List.mem_of_getElem? (i := 31) rfl)) (hw _ (List.mem_of_getElem? (i := 20) rfl)) (by decide) (by decide)) q19a q19c (g := (mkF m 70 #[.val (.int p0), .val (.int k), .val (.ref cE), .val (.int (1 : Int32)), .val (.int (1 : Int32)), .val (.ref sE), .unset] [(.ref a_LF), (.ref sE)])) rfl (by rw [hml]; rfl) (Steps.refl _) (argsL := [(.ref a_LF)]) (rest := []) (lenOf pd_2 rfl) rfl (by show 2 * 0 + _ ≤ _; exact Nat.le_of_eq rfl) (hb hby at_70) (fun _ _ => ⟨rfl, e18, (by decide : 2 + 0 ≤ _), (by decide : 36 + 0 ≤ _)⟩)
        dsimp only [Pt.U, Pt.locs, Pt.cells, Pt.slots] at X19 l19 y19 z19 st19 hQ19
        subst l19 y19 z19
        obtain ⟨rfl, N19q, e19q⟩ := hQ19
        have N19 := Fr.app N17 N19q
        refine Onw.go (fun own_u kt => st19.trans kt) ?_
        show Onw p e below _ (T19.setTop (mkF m 73 #[.val (.int p0), .val (.int k), .val (.ref cE), .val (.int (1 : Int32)), .val (.int (1 : Int32)), .val (.ref sE), .unset] [(.int (own_eq [(70 : Int32), (85 : Int32), (78 : Int32), (67 : Int32), (84 : Int32), (73 : Int32), (79 : Int32), (78 : Int32)] [(70 : Int32), (85 : Int32), (78 : Int32), (67 : Int32), (84 : Int32), (73 : Int32), (79 : Int32), (78 : Int32)]))]))
        rw [(by decide : (own_eq [(70 : Int32), (85 : Int32), (78 : Int32), (67 : Int32), (84 : Int32), (73 : Int32), (79 : Int32), (78 : Int32)] [(70 : Int32), (85 : Int32), (78 : Int32), (67 : Int32), (84 : Int32), (73 : Int32), (79 : Int32), (78 : Int32)]) = (1 : Int32))]
        show Onw p e below _ (T19.setTop (mkF m 73 #[.val (.int p0), .val (.int k), .val (.ref cE), .val (.int (1 : Int32)), .val (.int (1 : Int32)), .val (.ref sE), .unset] [(.int (1 : Int32))]))
        refine Onw.go (fun own_u kt => XS.ifYes X19.here hx rfl (pc0 := 73) (pc' := 86) rfl (hb hby at_73) rfl ((if0 _ _).trans (feq (by decide : ¬ ((1 : Int32) = (0 : Int32)))).2) (by decide) (by decide) kt) ?_
        show Onw p e below _ (T19.setTop (mkF m 86 #[.val (.int p0), .val (.int k), .val (.ref cE), .val (.int (1 : Int32)), .val (.int (1 : Int32)), .val (.ref sE), .unset] []))
        refine Onw.go (fun own_u kt => XS.iconst X19.here hx rfl (hb hby at_86) kt) ?_
        show Onw p e below _ (T19.setTop (mkF m 87 #[.val (.int p0), .val (.int k), .val (.ref cE), .val (.int (1 : Int32)), .val (.int (1 : Int32)), .val (.ref sE), .unset] [(.int (1 : Int32))]))
        refine Onw.go (fun own_u kt => XS.goto X19.here hx rfl (pc0 := 87) (pc' := 91) rfl (hb hby at_87) (by decide) (by decide) kt) ?_
        show Onw p e below _ (T19.setTop (mkF m 91 #[.val (.int p0), .val (.int k), .val (.ref cE), .val (.int (1 : Int32)), .val (.int (1 : Int32)), .val (.ref sE), .unset] [(.int (1 : Int32))]))
        refine Onw.go (fun own_u kt => XS.istore X19.here hx rfl (hb hby at_91) rfl (l' := #[.val (.int p0), .val (.int k), .val (.ref cE), .val (.int (1 : Int32)), .val (.int (1 : Int32)), .val (.ref sE), .val (.int (1 : Int32))]) rfl kt) ?_
        show Onw p e below _ (T19.setTop (mkF m 93 #[.val (.int p0), .val (.int k), .val (.ref cE), .val (.int (1 : Int32)), .val (.int (1 : Int32)), .val (.ref sE), .val (.int (1 : Int32))] []))
        refine Onw.go (fun own_u kt => XS.iloadN X19.here hx rfl (hb hby at_93) rfl kt) ?_
        show Onw p e below _ (T19.setTop (mkF m 94 #[.val (.int p0), .val (.int k), .val (.ref cE), .val (.int (1 : Int32)), .val (.int (1 : Int32)), .val (.ref sE), .val (.int (1 : Int32))] [(.int (1 : Int32))]))
        refine Onw.go (fun own_u kt => XS.iload X19.here hx rfl (hb hby at_94) rfl kt) ?_
        show Onw p e below _ (T19.setTop (mkF m 96 #[.val (.int p0), .val (.int k), .val (.ref cE), .val (.int (1 : Int32)), .val (.int (1 : Int32)), .val (.ref sE), .val (.int (1 : Int32))] [(.int (1 : Int32)), (.int (1 : Int32))]))
        refine Onw.go (fun own_u kt => XS.icmpNo X19.here hx rfl (hb hby at_96) rfl (teq (rfl : (1 : Int32) = (1 : Int32))).2 kt) ?_
        show Onw p e below _ (T19.setTop (mkF m 99 #[.val (.int p0), .val (.int k), .val (.ref cE), .val (.int (1 : Int32)), .val (.int (1 : Int32)), .val (.ref sE), .val (.int (1 : Int32))] []))
        refine Onw.go (fun own_u kt => XS.iloadN X19.here hx rfl (hb hby at_99) rfl kt) ?_
        show Onw p e below _ (T19.setTop (mkF m 100 #[.val (.int p0), .val (.int k), .val (.ref cE), .val (.int (1 : Int32)), .val (.int (1 : Int32)), .val (.ref sE), .val (.int (1 : Int32))] [(.int (1 : Int32))]))
        refine Onw.go (fun own_u kt => XS.iload X19.here hx rfl (hb hby at_100) rfl kt) ?_
        show Onw p e below _ (T19.setTop (mkF m 102 #[.val (.int p0), .val (.int k), .val (.ref cE), .val (.int (1 : Int32)), .val (.int (1 : Int32)), .val (.ref sE), .val (.int (1 : Int32))] [(.int (1 : Int32)), (.int (1 : Int32))]))
        refine Onw.go (fun own_u kt => XS.icmpNo X19.here hx rfl (hb hby at_102) rfl (teq (rfl : (1 : Int32) = (1 : Int32))).2 kt) ?_
        show Onw p e below _ (T19.setTop (mkF m 105 #[.val (.int p0), .val (.int k), .val (.ref cE), .val (.int (1 : Int32)), .val (.int (1 : Int32)), .val (.ref sE), .val (.int (1 : Int32))] []))
        refine Onw.go (fun own_u kt => XS.iconst X19.here hx rfl (hb hby at_105) kt) ?_
        show Onw p e below _ (T19.setTop (mkF m 106 #[.val (.int p0), .val (.int k), .val (.ref cE), .val (.int (1 : Int32)), .val (.int (1 : Int32)), .val (.ref sE), .val (.int (1 : Int32))] [(.int (1 : Int32))]))
        refine Onw.go (fun own_u kt => XS.goto X19.here hx rfl (pc0 := 106) (pc' := 110) rfl (hb hby at_106) (by decide) (by decide) kt) ?_
        show Onw p e below _ (T19.setTop (mkF m 110 #[.val (.int p0), .val (.int k), .val (.ref cE), .val (.int (1 : Int32)), .val (.int (1 : Int32)), .val (.ref sE), .val (.int (1 : Int32))] [(.int (1 : Int32))]))
        exact Onw.retW X19 hS18 (by rw [e19q]; exact hk18) Bd.notSynchronized (fun h => by rw [Bd.returns] at h; cases h) (fun fs hr => retN X19 hx (t := .boolean) Bd.returns (by simp) (hb hby at_110) hr) ⟨rfl, N19⟩ (by decide) (by decide)
      · refine Onw.go (fun own_u kt => XS.icmpYes X0.here hx rfl (pc0 := 29) (pc' := 39) rfl (hb hby at_29) rfl (feq (hk2 : ¬ (k = (2 : Int32)))).2 (by decide) (by decide) kt) ?_
        show Onw p e below _ (s₁.setTop (mkF m 39 #[.val (.int p0), .val (.int k), .unset, .unset, .unset, .unset, .unset] []))
        have hge : ¬ k < 2 := own_k3 _ _ hk hk0 hk1
        obtain ⟨T20, X20, e20, st20⟩ := getS2 X0 hx hZ hown (host := "") (Or.inl (hw _ (List.mem_of_getElem? (i := 42) rfl))) Via.refl e0 S_P (g := (mkF m 39 #[.val (.int p0), .val (.int k), .unset, .unset, .unset, .unset, .unset] [])) rfl (hb hby at_39)
        refine Onw.go st20 ?_
        show Onw p e below _ (T20.setTop (mkF m 42 #[.val (.int p0), .val (.int k), .unset, .unset, .unset, .unset, .unset] [(.ref cP)]))
        refine Onw.go (fun own_u kt => XS.astoreN X20.here hx rfl (hb hby at_42) rfl rfl (l' := #[.val (.int p0), .val (.int k), .val (.ref cP), .unset, .unset, .unset, .unset]) rfl kt) ?_
        show Onw p e below _ (T20.setTop (mkF m 43 #[.val (.int p0), .val (.int k), .val (.ref cP), .unset, .unset, .unset, .unset] []))
        refine Onw.go (fun own_u kt => XS.aloadN X20.here hx rfl (hb hby at_43) rfl rfl kt) ?_
        show Onw p e below _ (T20.setTop (mkF m 44 #[.val (.int p0), .val (.int k), .val (.ref cP), .unset, .unset, .unset, .unset] [(.ref cP)]))
        obtain ⟨cq21, kq21, q21a, q21b, q21c⟩ := isOf hZ e20 E_P
        obtain ⟨_, _, ⟨T21, L21, k21, n21⟩, -, X21, ⟨Lc21, hQ21, l21, y21, z21⟩, st21⟩ := X20.virtualBack hx (y := (⟨"com/example/callstone/callstone/Privilege$Action", "isOnRoutines", "()Z"⟩ : MethodName)) (z := (⟨"com/example/callstone/callstone/Privilege$Action", "isOnRoutines", "()Z"⟩ : MethodName)) hown (mvT hZ (hw _ (List.mem_of_getElem? (i := 3) rfl))) (mvT hZ (hw _ (List.mem_of_getElem? (i := 4) rfl))) (notFace_of_selects (args := #[]) (mvT hZ (hw _ (List.mem_of_getElem? (i := 6) rfl)))) (mvT hZ (hw _ (List.mem_of_getElem? (i := 6) rfl))) (mvT hZ (hw _ (List.mem_of_getElem? (i := 5) rfl))) (by decide) (backOf (W := 0) (rm1 l Z a0 hw [] cP cE cP h0 n0 S_E S_P) hZ (hw _ (List.mem_of_getElem? (i := 7) rfl)) (hw _ (List.mem_of_getElem? (i := 1) rfl)) (by decide) (by decide)) q21a q21c (g := (mkF m 44 #[.val (.int p0), .val (.int k), .val (.ref cP), .unset, .unset, .unset, .unset] [(.ref cP)])) rfl (by rw [hml]; rfl) (Steps.refl _) (argsL := []) (rest := []) (lenOf pd_0 rfl) rfl (by show 2 * 0 + _ ≤ _; exact Nat.le_of_eq rfl) (hb hby at_44) (fun _ _ => ⟨rfl, e20, (by decide : 0 + 0 ≤ _), (by decide : 0 + 0 ≤ _)⟩)
        dsimp only [Pt.U, Pt.locs, Pt.cells, Pt.slots] at X21 l21 y21 z21 st21 hQ21
        subst l21 y21 z21
        obtain ⟨rfl, N21q, e21q⟩ := hQ21
        have N21 := Fr.app N0 N21q
        refine Onw.go (fun own_u kt => st21.trans kt) ?_
        show Onw p e below _ (T21.setTop (mkF m 47 #[.val (.int p0), .val (.int k), .val (.ref cP), .unset, .unset, .unset, .unset] [(.int (own_on cP cE cP))]))
        rw [(by unfold own_on; rw [if_neg n_PE, if_pos rfl] : (own_on cP cE cP) = (1 : Int32))]
        show Onw p e below _ (T21.setTop (mkF m 47 #[.val (.int p0), .val (.int k), .val (.ref cP), .unset, .unset, .unset, .unset] [(.int (1 : Int32))]))
        refine Onw.go (fun own_u kt => XS.istoreN X21.here hx rfl (hb hby at_47) rfl (l' := #[.val (.int p0), .val (.int k), .val (.ref cP), .val (.int (1 : Int32)), .unset, .unset, .unset]) rfl kt) ?_
        show Onw p e below _ (T21.setTop (mkF m 48 #[.val (.int p0), .val (.int k), .val (.ref cP), .val (.int (1 : Int32)), .unset, .unset, .unset] []))
        refine Onw.go (fun own_u kt => XS.iloadN X21.here hx rfl (hb hby at_48) rfl kt) ?_
        show Onw p e below _ (T21.setTop (mkF m 49 #[.val (.int p0), .val (.int k), .val (.ref cP), .val (.int (1 : Int32)), .unset, .unset, .unset] [(.int k)]))
        refine Onw.go (fun own_u kt => XS.iconst X21.here hx rfl (hb hby at_49) kt) ?_
        show Onw p e below _ (T21.setTop (mkF m 50 #[.val (.int p0), .val (.int k), .val (.ref cP), .val (.int (1 : Int32)), .unset, .unset, .unset] [(.int (2 : Int32)), (.int k)]))
        refine Onw.go (fun own_u kt => XS.icmpNo X21.here hx rfl (hb hby at_50) rfl (flt (hge : ¬ (k < (2 : Int32)))).1 kt) ?_
        show Onw p e below _ (T21.setTop (mkF m 53 #[.val (.int p0), .val (.int k), .val (.ref cP), .val (.int (1 : Int32)), .unset, .unset, .unset] []))
        refine Onw.go (fun own_u kt => XS.iconst X21.here hx rfl (hb hby at_53) kt) ?_
        show Onw p e below _ (T21.setTop (mkF m 54 #[.val (.int p0), .val (.int k), .val (.ref cP), .val (.int (1 : Int32)), .unset, .unset, .unset] [(.int (1 : Int32))]))
        refine Onw.go (fun own_u kt => XS.goto X21.here hx rfl (pc0 := 54) (pc' := 58) rfl (hb hby at_54) (by decide) (by decide) kt) ?_
        show Onw p e below _ (T21.setTop (mkF m 58 #[.val (.int p0), .val (.int k), .val (.ref cP), .val (.int (1 : Int32)), .unset, .unset, .unset] [(.int (1 : Int32))]))
        refine Onw.go (fun own_u kt => XS.istore X21.here hx rfl (hb hby at_58) rfl (l' := #[.val (.int p0), .val (.int k), .val (.ref cP), .val (.int (1 : Int32)), .val (.int (1 : Int32)), .unset, .unset]) rfl kt) ?_
        show Onw p e below _ (T21.setTop (mkF m 60 #[.val (.int p0), .val (.int k), .val (.ref cP), .val (.int (1 : Int32)), .val (.int (1 : Int32)), .unset, .unset] []))
        refine Onw.go (fun own_u kt => XS.aloadN X21.here hx rfl (hb hby at_60) rfl rfl kt) ?_
        show Onw p e below _ (T21.setTop (mkF m 61 #[.val (.int p0), .val (.int k), .val (.ref cP), .val (.int (1 : Int32)), .val (.int (1 : Int32)), .unset, .unset] [(.ref cP)]))
        obtain ⟨cq22, kq22, q22a, q22b, q22c⟩ := isOf hZ e21q E_P
        obtain ⟨_, _, ⟨T22, L22, k22, n22⟩, -, X22, ⟨Lc22, hQ22, l22, y22, z22⟩, st22⟩ := X21.virtualBack hx (y := (⟨"com/example/callstone/callstone/Privilege$Action", "objectType", "()Ljava/lang/String;"⟩ : MethodName)) (z := (⟨"com/example/callstone/callstone/Privilege$Action", "objectType", "()Ljava/lang/String;"⟩ : MethodName)) hown (mvT hZ (hw _ (List.mem_of_getElem? (i := 12) rfl))) (mvT hZ (hw _ (List.mem_of_getElem? (i := 13) rfl))) (notFace_of_selects (args := #[]) (mvT hZ (hw _ (List.mem_of_getElem? (i := 15) rfl)))) (mvT hZ (hw _ (List.mem_of_getElem? (i := 15) rfl))) (mvT hZ (hw _ (List.mem_of_getElem? (i := 14) rfl))) (by decide) (backOf (W := 0) (rm2 l Z a0 hw [] cP sP h0 n0 F_P) hZ (hw _ (List.mem_of_getElem? (i := 16) rfl)) (hw _ (List.mem_of_getElem? (i := 1) rfl)) (by decide) (by decide)) q22a q22c (g := (mkF m 61 #[.val (.int p0), .val (.int k), .val (.ref cP), .val (.int (1 : Int32)), .val (.int (1 : Int32)), .unset, .unset] [(.ref cP)])) rfl (by rw [hml]; rfl) (Steps.refl _) (argsL := []) (rest := []) (lenOf pd_1 rfl) rfl (by show 2 * 0 + _ ≤ _; exact Nat.le_of_eq rfl) (hb hby at_61) (fun _ _ => ⟨rfl, e21q, (by decide : 0 + 0 ≤ _), (by decide : 0 + 0 ≤ _)⟩)
        dsimp only [Pt.U, Pt.locs, Pt.cells, Pt.slots] at X22 l22 y22 z22 st22 hQ22
        subst l22 y22 z22
        obtain ⟨rfl, N22q, e22q⟩ := hQ22
        have N22 := Fr.app N21 N22q
        refine Onw.go (fun own_u kt => st22.trans kt) ?_
        show Onw p e below _ (T22.setTop (mkF m 64 #[.val (.int p0), .val (.int k), .val (.ref cP), .val (.int (1 : Int32)), .val (.int (1 : Int32)), .unset, .unset] [(.ref sP)]))
        refine Onw.go (fun own_u kt => XS.astore X22.here hx rfl (hb hby at_64) rfl rfl (l' := #[.val (.int p0), .val (.int k), .val (.ref cP), .val (.int (1 : Int32)), .val (.int (1 : Int32)), .val (.ref sP), .unset]) rfl kt) ?_
        show Onw p e below _ (T22.setTop (mkF m 66 #[.val (.int p0), .val (.int k), .val (.ref cP), .val (.int (1 : Int32)), .val (.int (1 : Int32)), .val (.ref sP), .unset] []))
        refine Onw.go (fun own_u kt => XS.aload X22.here hx rfl (hb hby at_66) rfl rfl kt) ?_
        show Onw p e below _ (T22.setTop (mkF m 68 #[.val (.int p0), .val (.int k), .val (.ref cP), .val (.int (1 : Int32)), .val (.int (1 : Int32)), .val (.ref sP), .unset] [(.ref sP)]))
        have hS0 : s.Since s.vm 0 := (State.WarmedH.refl s).since 0
        have IB0 : IB Z s.vm [] := own_ib0 hUZ
        obtain ⟨a_LF, T23, h23, k23, t_LF, kk_LF, X23, e23, Ex23, hS23, hk23, hZ23, hown23, E_LF, C_LF, V_LF, A_LF, lt23, lu23, IB23, Lt_LF, st23⟩ := ldcSVL (s := s) (vm0 := s.vm) X22 hx hZ hown (hw _ (List.mem_of_getElem? (i := 19) rfl)) hstr e22q hS0 (Nat.zero_le _) (by rw [hnn]; exact N22) hkeep IB0 (by simp) hheld1 hcw (vs := [Value.int (70 : Int32), Value.int (85 : Int32), Value.int (78 : Int32), Value.int (67 : Int32), Value.int (84 : Int32), Value.int (73 : Int32), Value.int (79 : Int32), Value.int (78 : Int32)]) (z := (8 : Int32)) (by refine ⟨by decide, by decide⟩) (by decide) rfl (g := (mkF m 68 #[.val (.int p0), .val (.int k), .val (.ref cP), .val (.int (1 : Int32)), .val (.int (1 : Int32)), .val (.ref sP), .unset] [(.ref sP)])) rfl (hb hby at_68) (n := 32) (by decide) (by decide) (by decide) (by decide)
        refine Onw.go st23 ?_
        show Onw p e below _ (T23.setTop (mkF m 70 #[.val (.int p0), .val (.int k), .val (.ref cP), .val (.int (1 : Int32)), .val (.int (1 : Int32)), .val (.ref sP), .unset] [(.ref a_LF), (.ref sP)]))
        obtain ⟨cq24, kq24, q24a, q24b, q24c⟩ := isOf hZ23 e23 (ES_P.ext Ex23)
        obtain ⟨_, _, ⟨T24, L24, k24, n24⟩, -, X24, ⟨Lc24, hQ24, l24, y24, z24⟩, st24⟩ := X23.virtualBack hx (y := (⟨"java/lang/String", "equals", "(Ljava/lang/Object;)Z"⟩ : MethodName)) (z := (⟨"java/lang/String", "equals", "(Ljava/lang/Object;)Z"⟩ : MethodName)) hown23 (mvT hZ23 (hw _ (List.mem_of_getElem? (i := 27) rfl))) (mvT hZ23 (hw _ (List.mem_of_getElem? (i := 28) rfl))) (notFace_of_selects (args := #[]) (mvT hZ23 (hw _ (List.mem_of_getElem? (i := 30) rfl)))) (mvT hZ23 (hw _ (List.mem_of_getElem? (i := 30) rfl))) (mvT hZ23 (hw _ (List.mem_of_getElem? (i := 29) rfl))) (by decide) (backOf (W := 0) (rm3 l Z a0 hw [] sP a_LF zc tP t_LF kP kk_LF [(80 : Int32), (82 : Int32), (79 : Int32), (67 : Int32), (69 : Int32), (68 : Int32), (85 : Int32), (82 : Int32), (69 : Int32)] [(70 : Int32), (85 : Int32), (78 : Int32), (67 : Int32), (84 : Int32), (73 : Int32), (79 : Int32), (78 : Int32)] h23 n0 (S_C.ext Ex23) hz (ES_P.ext Ex23) (FC_P.ext Ex23) (FV_P.ext Ex23) (V_P.ext Ex23) E_LF C_LF V_LF A_LF (by decide) (by decide)) hZ23 (hw _ (List.mem_of_getElem? (i := 31) rfl)) (hw _ (List.mem_of_getElem? (i := 20) rfl)) (by decide) (by decide)) q24a q24c (g := (mkF m 70 #[.val (.int p0), .val (.int k), .val (.ref cP), .val (.int (1 : Int32)), .val (.int (1 : Int32)), .val (.ref sP), .unset] [(.ref a_LF), (.ref sP)])) rfl (by rw [hml]; rfl) (Steps.refl _) (argsL := [(.ref a_LF)]) (rest := []) (lenOf pd_2 rfl) rfl (by show 2 * 0 + _ ≤ _; exact Nat.le_of_eq rfl) (hb hby at_70) (fun _ _ => ⟨rfl, e23, (by decide : 2 + 0 ≤ _), (by decide : 36 + 0 ≤ _)⟩)
        dsimp only [Pt.U, Pt.locs, Pt.cells, Pt.slots] at X24 l24 y24 z24 st24 hQ24
        subst l24 y24 z24
        obtain ⟨rfl, N24q, e24q⟩ := hQ24
        have N24 := Fr.app N22 N24q
        refine Onw.go (fun own_u kt => st24.trans kt) ?_
        show Onw p e below _ (T24.setTop (mkF m 73 #[.val (.int p0), .val (.int k), .val (.ref cP), .val (.int (1 : Int32)), .val (.int (1 : Int32)), .val (.ref sP), .unset] [(.int (own_eq [(80 : Int32), (82 : Int32), (79 : Int32), (67 : Int32), (69 : Int32), (68 : Int32), (85 : Int32), (82 : Int32), (69 : Int32)] [(70 : Int32), (85 : Int32), (78 : Int32), (67 : Int32), (84 : Int32), (73 : Int32), (79 : Int32), (78 : Int32)]))]))
        rw [(by decide : (own_eq [(80 : Int32), (82 : Int32), (79 : Int32), (67 : Int32), (69 : Int32), (68 : Int32), (85 : Int32), (82 : Int32), (69 : Int32)] [(70 : Int32), (85 : Int32), (78 : Int32), (67 : Int32), (84 : Int32), (73 : Int32), (79 : Int32), (78 : Int32)]) = (0 : Int32))]
        show Onw p e below _ (T24.setTop (mkF m 73 #[.val (.int p0), .val (.int k), .val (.ref cP), .val (.int (1 : Int32)), .val (.int (1 : Int32)), .val (.ref sP), .unset] [(.int (0 : Int32))]))
        refine Onw.go (fun own_u kt => XS.ifNo X24.here hx rfl (hb hby at_73) rfl ((if0 _ _).trans (teq (rfl : (0 : Int32) = (0 : Int32))).2) kt) ?_
        show Onw p e below _ (T24.setTop (mkF m 76 #[.val (.int p0), .val (.int k), .val (.ref cP), .val (.int (1 : Int32)), .val (.int (1 : Int32)), .val (.ref sP), .unset] []))
        refine Onw.go (fun own_u kt => XS.aload X24.here hx rfl (hb hby at_76) rfl rfl kt) ?_
        show Onw p e below _ (T24.setTop (mkF m 78 #[.val (.int p0), .val (.int k), .val (.ref cP), .val (.int (1 : Int32)), .val (.int (1 : Int32)), .val (.ref sP), .unset] [(.ref sP)]))
        obtain ⟨a_LP, T25, h25, k25, t_LP, kk_LP, X25, e25, Ex25, hS25, hk25, hZ25, hown25, E_LP, C_LP, V_LP, A_LP, lt25, lu25, IB25, Lt_LP, st25⟩ := ldcSVL (s := s) (vm0 := T23.vm) X24 hx hZ23 hown23 (hw _ (List.mem_of_getElem? (i := 41) rfl)) hstr e24q hS23 hk23 (by rw [hnn]; exact N24) hkeep IB23 (by simp) hheld2 hcw (vs := [Value.int (80 : Int32), Value.int (82 : Int32), Value.int (79 : Int32), Value.int (67 : Int32), Value.int (69 : Int32), Value.int (68 : Int32), Value.int (85 : Int32), Value.int (82 : Int32), Value.int (69 : Int32)]) (z := (9 : Int32)) (by refine ⟨by decide, by decide⟩) (by decide) rfl (g := (mkF m 78 #[.val (.int p0), .val (.int k), .val (.ref cP), .val (.int (1 : Int32)), .val (.int (1 : Int32)), .val (.ref sP), .unset] [(.ref sP)])) rfl (hb hby at_78) (n := 36) (by decide) (by decide) (by decide) (by decide)
        refine Onw.go st25 ?_
        show Onw p e below _ (T25.setTop (mkF m 80 #[.val (.int p0), .val (.int k), .val (.ref cP), .val (.int (1 : Int32)), .val (.int (1 : Int32)), .val (.ref sP), .unset] [(.ref a_LP), (.ref sP)]))
        obtain ⟨cq26, kq26, q26a, q26b, q26c⟩ := isOf hZ25 e25 ((ES_P.ext Ex23).ext Ex25)
        obtain ⟨_, _, ⟨T26, L26, k26, n26⟩, -, X26, ⟨Lc26, hQ26, l26, y26, z26⟩, st26⟩ := X25.virtualBack hx (y := (⟨"java/lang/String", "equals", "(Ljava/lang/Object;)Z"⟩ : MethodName)) (z := (⟨"java/lang/String", "equals", "(Ljava/lang/Object;)Z"⟩ : MethodName)) hown25 (mvT hZ25 (hw _ (List.mem_of_getElem? (i := 27) rfl))) (mvT hZ25 (hw _ (List.mem_of_getElem? (i := 28) rfl))) (notFace_of_selects (args := #[]) (mvT hZ25 (hw _ (List.mem_of_getElem? (i := 30) rfl)))) (mvT hZ25 (hw _ (List.mem_of_getElem? (i := 30) rfl))) (mvT hZ25 (hw _ (List.mem_of_getElem? (i := 29) rfl))) (by decide) (backOf (W := 0) (rm3 l Z a0 hw [] sP a_LP zc tP t_LP kP kk_LP [(80 : Int32), (82 : Int32), (79 : Int32), (67 : Int32), (69 : Int32), (68 : Int32), (85 : Int32), (82 : Int32), (69 : Int32)] [(80 : Int32), (82 : Int32), (79 : Int32), (67 : Int32), (69 : Int32), (68 : Int32), (85 : Int32), (82 : Int32), (69 : Int32)] h25 n0 ((S_C.ext Ex23).ext Ex25) hz ((ES_P.ext Ex23).ext Ex25) ((FC_P.ext Ex23).ext Ex25) ((FV_P.ext Ex23).ext Ex25) ((V_P.ext Ex23).ext Ex25) E_LP C_LP V_LP A_LP (by decide) (by decide)) hZ25 (hw _ (List.mem_of_getElem? (i := 31) rfl)) (hw _ (List.mem_of_getElem? (i := 20) rfl)) (by decide) (by decide)) q26a q26c (g := (mkF m 80 #[.val (.int p0), .val (.int k), .val (.ref cP), .val (.int (1 : Int32)), .val (.int (1 : Int32)), .val (.ref sP), .unset] [(.ref a_LP), (.ref sP)])) rfl (by rw [hml]; rfl) (Steps.refl _) (argsL := [(.ref a_LP)]) (rest := []) (lenOf pd_2 rfl) rfl (by show 2 * 0 + _ ≤ _; exact Nat.le_of_eq rfl) (hb hby at_80) (fun _ _ => ⟨rfl, e25, (by decide : 4 + 0 ≤ _), (by decide : 76 + 0 ≤ _)⟩)
        dsimp only [Pt.U, Pt.locs, Pt.cells, Pt.slots] at X26 l26 y26 z26 st26 hQ26
        subst l26 y26 z26
        obtain ⟨rfl, N26q, e26q⟩ := hQ26
        have N26 := Fr.app N24 N26q
        refine Onw.go (fun own_u kt => st26.trans kt) ?_
        show Onw p e below _ (T26.setTop (mkF m 83 #[.val (.int p0), .val (.int k), .val (.ref cP), .val (.int (1 : Int32)), .val (.int (1 : Int32)), .val (.ref sP), .unset] [(.int (own_eq [(80 : Int32), (82 : Int32), (79 : Int32), (67 : Int32), (69 : Int32), (68 : Int32), (85 : Int32), (82 : Int32), (69 : Int32)] [(80 : Int32), (82 : Int32), (79 : Int32), (67 : Int32), (69 : Int32), (68 : Int32), (85 : Int32), (82 : Int32), (69 : Int32)]))]))
        rw [(by decide : (own_eq [(80 : Int32), (82 : Int32), (79 : Int32), (67 : Int32), (69 : Int32), (68 : Int32), (85 : Int32), (82 : Int32), (69 : Int32)] [(80 : Int32), (82 : Int32), (79 : Int32), (67 : Int32), (69 : Int32), (68 : Int32), (85 : Int32), (82 : Int32), (69 : Int32)]) = (1 : Int32))]
        show Onw p e below _ (T26.setTop (mkF m 83 #[.val (.int p0), .val (.int k), .val (.ref cP), .val (.int (1 : Int32)), .val (.int (1 : Int32)), .val (.ref sP), .unset] [(.int (1 : Int32))]))
        refine Onw.go (fun own_u kt => XS.ifNo X26.here hx rfl (hb hby at_83) rfl ((if0 _ _).trans (feq (by decide : ¬ ((1 : Int32) = (0 : Int32)))).1) kt) ?_
        show Onw p e below _ (T26.setTop (mkF m 86 #[.val (.int p0), .val (.int k), .val (.ref cP), .val (.int (1 : Int32)), .val (.int (1 : Int32)), .val (.ref sP), .unset] []))
        refine Onw.go (fun own_u kt => XS.iconst X26.here hx rfl (hb hby at_86) kt) ?_
        show Onw p e below _ (T26.setTop (mkF m 87 #[.val (.int p0), .val (.int k), .val (.ref cP), .val (.int (1 : Int32)), .val (.int (1 : Int32)), .val (.ref sP), .unset] [(.int (1 : Int32))]))
        refine Onw.go (fun own_u kt => XS.goto X26.here hx rfl (pc0 := 87) (pc' := 91) rfl (hb hby at_87) (by decide) (by decide) kt) ?_
        show Onw p e below _ (T26.setTop (mkF m 91 #[.val (.int p0), .val (.int k), .val (.ref cP), .val (.int (1 : Int32)), .val (.int (1 : Int32)), .val (.ref sP), .unset] [(.int (1 : Int32))]))
        refine Onw.go (fun own_u kt => XS.istore X26.here hx rfl (hb hby at_91) rfl (l' := #[.val (.int p0), .val (.int k), .val (.ref cP), .val (.int (1 : Int32)), .val (.int (1 : Int32)), .val (.ref sP), .val (.int (1 : Int32))]) rfl kt) ?_
        show Onw p e below _ (T26.setTop (mkF m 93 #[.val (.int p0), .val (.int k), .val (.ref cP), .val (.int (1 : Int32)), .val (.int (1 : Int32)), .val (.ref sP), .val (.int (1 : Int32))] []))
        refine Onw.go (fun own_u kt => XS.iloadN X26.here hx rfl (hb hby at_93) rfl kt) ?_
        show Onw p e below _ (T26.setTop (mkF m 94 #[.val (.int p0), .val (.int k), .val (.ref cP), .val (.int (1 : Int32)), .val (.int (1 : Int32)), .val (.ref sP), .val (.int (1 : Int32))] [(.int (1 : Int32))]))
        refine Onw.go (fun own_u kt => XS.iload X26.here hx rfl (hb hby at_94) rfl kt) ?_
        show Onw p e below _ (T26.setTop (mkF m 96 #[.val (.int p0), .val (.int k), .val (.ref cP), .val (.int (1 : Int32)), .val (.int (1 : Int32)), .val (.ref sP), .val (.int (1 : Int32))] [(.int (1 : Int32)), (.int (1 : Int32))]))
        refine Onw.go (fun own_u kt => XS.icmpNo X26.here hx rfl (hb hby at_96) rfl (teq (rfl : (1 : Int32) = (1 : Int32))).2 kt) ?_
        show Onw p e below _ (T26.setTop (mkF m 99 #[.val (.int p0), .val (.int k), .val (.ref cP), .val (.int (1 : Int32)), .val (.int (1 : Int32)), .val (.ref sP), .val (.int (1 : Int32))] []))
        refine Onw.go (fun own_u kt => XS.iloadN X26.here hx rfl (hb hby at_99) rfl kt) ?_
        show Onw p e below _ (T26.setTop (mkF m 100 #[.val (.int p0), .val (.int k), .val (.ref cP), .val (.int (1 : Int32)), .val (.int (1 : Int32)), .val (.ref sP), .val (.int (1 : Int32))] [(.int (1 : Int32))]))
        refine Onw.go (fun own_u kt => XS.iload X26.here hx rfl (hb hby at_100) rfl kt) ?_
        show Onw p e below _ (T26.setTop (mkF m 102 #[.val (.int p0), .val (.int k), .val (.ref cP), .val (.int (1 : Int32)), .val (.int (1 : Int32)), .val (.ref sP), .val (.int (1 : Int32))] [(.int (1 : Int32)), (.int (1 : Int32))]))
        refine Onw.go (fun own_u kt => XS.icmpNo X26.here hx rfl (hb hby at_102) rfl (teq (rfl : (1 : Int32) = (1 : Int32))).2 kt) ?_
        show Onw p e below _ (T26.setTop (mkF m 105 #[.val (.int p0), .val (.int k), .val (.ref cP), .val (.int (1 : Int32)), .val (.int (1 : Int32)), .val (.ref sP), .val (.int (1 : Int32))] []))
        refine Onw.go (fun own_u kt => XS.iconst X26.here hx rfl (hb hby at_105) kt) ?_
        show Onw p e below _ (T26.setTop (mkF m 106 #[.val (.int p0), .val (.int k), .val (.ref cP), .val (.int (1 : Int32)), .val (.int (1 : Int32)), .val (.ref sP), .val (.int (1 : Int32))] [(.int (1 : Int32))]))
        refine Onw.go (fun own_u kt => XS.goto X26.here hx rfl (pc0 := 106) (pc' := 110) rfl (hb hby at_106) (by decide) (by decide) kt) ?_
        show Onw p e below _ (T26.setTop (mkF m 110 #[.val (.int p0), .val (.int k), .val (.ref cP), .val (.int (1 : Int32)), .val (.int (1 : Int32)), .val (.ref sP), .val (.int (1 : Int32))] [(.int (1 : Int32))]))
        exact Onw.retW X26 hS25 (by rw [e26q]; exact hk25) Bd.notSynchronized (fun h => by rw [Bd.returns] at h; cases h) (fun fs hr => retN X26 hx (t := .boolean) Bd.returns (by simp) (hb hby at_110) hr) ⟨rfl, N26⟩ (by decide) (by decide)
set_option maxRecDepth 65536 in
set_option maxHeartbeats 40000000 in
theorem comes_1 {Post : Tables → Env → Array Value → State → Outcome → State → Prop} (hpost : ∀ tb e args s v u, (limb_1_1.after args s (.returned v) u = true ∧ limb_1_2.after args s (.returned v) u = true ∧ True) → ReturnedEndW s (.returned v) u (Jvm.fieldLocs frame_1_writes args s ++ Jvm.arrayLocs frame_1_arrays args s ++ Jvm.staticLocs frame_1_statics s) 8 2112 → Post tb e args s (.returned v) u) :
    ArmFor flags0 classFile x code maxLocals ret World_1 tables_1 room_1 Calls_1 rest_1 Pre_1 Post := by
  intro l hfl _ _ p e ha hc hk s m args below hf hA hF happ hP
  obtain ⟨hcalls, hrest, hpre⟩ := hP
  obtain ⟨-, -, -, hnamed, -, -, -, hat⟩ := (Spec.applies_iff hf).mp happ
  obtain ⟨hg, hn⟩ := and_e (Cond.before_iff.mp (show (Jvm.Cond.and given_1 narrow_1).before args s = true from hpre))
  obtain ⟨g1, g2⟩ := and_e hg
  obtain ⟨w0, rfl⟩ : ∃ w0 : Value, args = #[w0] := by
    have hs : args.size = 1 := by simpa [Cond.value, given_1] using g1
    obtain ⟨L⟩ := args
    match L, hs with
    | [w0], _ => exact ⟨w0, rfl⟩
  have hw := fun d (hd : d ∈ tables_1) => atoms_spec (ws := Jvm.Cond.code x code maxLocals ret :: tables_1) hat d (List.mem_cons_of_mem _ hd)
  have hfit : Fit s := fun {y c} hc i hi => by
    obtain ⟨ha, rfl⟩ := Array.getElem?_eq_some_iff.mp hc
    have q := List.all_eq_true.mp ((Array.all_eq_true_iff_forall_mem.mp hF) _ (Array.getElem_mem ha)) i (List.mem_range.mpr hi)
    simpa [Array.getElem?_eq_getElem hi] using q
  obtain ⟨hsets, hown0⟩ := atoms_of _ (rest_1_c_eq ▸ (show rest_1_c.before _ s = true from hrest))
  have hr0 := Cond.before_iff.mp hown0
  obtain ⟨i0, ei0⟩ := is_v g2
  obtain rfl : w0 = (.int i0) := Option.some.inj ei0
  obtain ⟨u1, u2⟩ := and_e hn
  obtain ⟨u3, u4⟩ := and_e u2
  obtain ⟨u5, u6⟩ := and_e u4
  obtain ⟨u7, u8⟩ := and_e u6
  obtain ⟨u9, u10⟩ := and_e u8
  obtain ⟨u11, u12⟩ := and_e u10
  obtain ⟨u13, u14⟩ := and_e u12
  obtain ⟨u15, u16⟩ := and_e u14
  obtain ⟨u17, u18⟩ := and_e u16
  obtain ⟨u19, u20⟩ := and_e u18
  obtain ⟨u21, u22⟩ := and_e u20
  obtain ⟨u23, u24⟩ := and_e u22
  obtain ⟨u25, u26⟩ := and_e u24
  obtain ⟨u27, u28⟩ := and_e u26
  obtain ⟨u29, u30⟩ := and_e u28
  obtain ⟨u31, u32⟩ := and_e u30
  obtain ⟨u33, u34⟩ := and_e u32
  obtain ⟨u35, u36⟩ := and_e u34
  obtain ⟨u37, u38⟩ := and_e u36
  obtain ⟨u39, u40⟩ := and_e u38
  obtain ⟨u41, u42⟩ := and_e u40
  obtain ⟨u43, u44⟩ := and_e u42
  obtain ⟨u45, u46⟩ := and_e u44
  obtain ⟨u47, u48⟩ := and_e u46
  obtain ⟨u49, u50⟩ := and_e u48
  obtain ⟨u51, u52⟩ := and_e u50
  obtain ⟨u53, u54⟩ := and_e u52
  obtain ⟨u55, u56⟩ := and_e u54
  obtain ⟨u57, u58⟩ := and_e u56
  obtain ⟨u59, u60⟩ := and_e u58
  obtain ⟨u61, u62⟩ := and_e u60
  obtain ⟨u63, u64⟩ := and_e u62
  obtain ⟨u65, u66⟩ := and_e u64
  obtain ⟨u67, u68⟩ := and_e u66
  obtain ⟨u69, u70⟩ := and_e u68
  obtain ⟨u71, u72⟩ := and_e u70
  obtain ⟨u73, u74⟩ := and_e u72
  obtain ⟨u75, u76⟩ := and_e u74
  obtain ⟨u77, u78⟩ := and_e u76
  obtain ⟨u79, u80⟩ := and_e u78
  obtain ⟨u81, u82⟩ := and_e u80
  obtain ⟨u83, u84⟩ := and_e u82
  obtain ⟨u85, u86⟩ := and_e u84
  obtain ⟨u87, u88⟩ := and_e u86
  obtain ⟨u89, u90⟩ := and_e u88
  obtain ⟨u91, u92⟩ := and_e u90
  obtain ⟨u93, u94⟩ := and_e u92
  have n3 := not_v (Cond.before_iff.mp (hsets _ (List.mem_of_getElem? (i := 2) rfl)))
  obtain ⟨zc, ezc⟩ := is_v (Cond.before_iff.mp (hsets _ (List.mem_of_getElem? (i := 1) rfl)))
  have S_C := Sta.start ezc (Or.inl (hsets _ (List.mem_of_getElem? (i := 0) rfl)))
  have hz : ¬ (zc = (0 : Int32)) := gotF (Cond.eq_ints ezc (Term.int_eval (0))) n3
  obtain ⟨cU, ev_U⟩ := exa_v u1
  have E_U := Exa.start ev_U u1
  have S_U := Sta.start ev_U (Or.inr ⟨(hw _ (List.mem_of_getElem? (i := 1) rfl)), (hw _ (List.mem_of_getElem? (i := 2) rfl))⟩)
  have O_U := Fld.start ((fld_at ev_U).symm.trans (Cond.eq_int (Cond.before_iff.mpr u5) rfl))
  obtain ⟨sU, es_U⟩ := exa_v u13
  have F_U := Fld.start ((fld_at ev_U).symm.trans es_U)
  have ES_U := Exa.start es_U u13
  have FC_U := Fld.start ((fld_at es_U).symm.trans (Cond.eq_int (Cond.before_iff.mpr u15) rfl))
  obtain ⟨tU, et_U⟩ := arr_v u17
  have FV_U := Fld.start ((fld_at es_U).symm.trans et_U)
  obtain ⟨cl_U, Ar_U⟩ := Arr.start et_U u17
  have hA_U := Ar_U.fin (Vm.Alike.refl _)
  have hl_U := Cond.eq_int (Cond.before_iff.mpr u19) rfl
  have h31_U := SBG.length_lt et_U hA_U hl_U
  have V_U : Arv s s.heap tU cl_U.cls .byte (3 : Int32) [Value.int (74 : Int32), Value.int (65 : Int32), Value.int (82 : Int32)] (.int (0 : Int32)) := Arv.start hfit Ar_U h31_U (Value.int.inj (Option.some.inj ((len_f et_U hA_U h31_U).symm.trans hl_U))) (by decide) rfl ⟨((elem_f et_U (Term.int_eval 0) hA_U (by decide)).symm.trans (Cond.eq_int (Cond.before_iff.mpr u49) rfl)), ((elem_f et_U (Term.int_eval 1) hA_U (by decide)).symm.trans (Cond.eq_int (Cond.before_iff.mpr u51) rfl)), ((elem_f et_U (Term.int_eval 2) hA_U (by decide)).symm.trans (Cond.eq_int (Cond.before_iff.mpr u53) rfl)), trivial⟩
  obtain ⟨cT, ev_T⟩ := exa_v u37
  have E_T := Exa.start ev_T u37
  have S_T := Sta.start ev_T (Or.inr ⟨(hw _ (List.mem_of_getElem? (i := 1) rfl)), (hw _ (List.mem_of_getElem? (i := 45) rfl))⟩)
  have O_T := Fld.start ((fld_at ev_T).symm.trans (Cond.eq_int (Cond.before_iff.mpr u39) rfl))
  obtain ⟨sT, es_T⟩ := exa_v u41
  have F_T := Fld.start ((fld_at ev_T).symm.trans es_T)
  have ES_T := Exa.start es_T u41
  have FC_T := Fld.start ((fld_at es_T).symm.trans (Cond.eq_int (Cond.before_iff.mpr u43) rfl))
  obtain ⟨tT, et_T⟩ := arr_v u45
  have FV_T := Fld.start ((fld_at es_T).symm.trans et_T)
  obtain ⟨cl_T, Ar_T⟩ := Arr.start et_T u45
  have hA_T := Ar_T.fin (Vm.Alike.refl _)
  have hl_T := Cond.eq_int (Cond.before_iff.mpr u47) rfl
  have h31_T := SBG.length_lt et_T hA_T hl_T
  have V_T : Arv s s.heap tT cl_T.cls .byte (4 : Int32) [Value.int (84 : Int32), Value.int (89 : Int32), Value.int (80 : Int32), Value.int (69 : Int32)] (.int (0 : Int32)) := Arv.start hfit Ar_T h31_T (Value.int.inj (Option.some.inj ((len_f et_T hA_T h31_T).symm.trans hl_T))) (by decide) rfl ⟨((elem_f et_T (Term.int_eval 0) hA_T (by decide)).symm.trans (Cond.eq_int (Cond.before_iff.mpr u55) rfl)), ((elem_f et_T (Term.int_eval 1) hA_T (by decide)).symm.trans (Cond.eq_int (Cond.before_iff.mpr u57) rfl)), ((elem_f et_T (Term.int_eval 2) hA_T (by decide)).symm.trans (Cond.eq_int (Cond.before_iff.mpr u59) rfl)), ((elem_f et_T (Term.int_eval 3) hA_T (by decide)).symm.trans (Cond.eq_int (Cond.before_iff.mpr u61) rfl)), trivial⟩
  obtain ⟨cE, ev_E⟩ := exa_v u3
  have E_E := Exa.start ev_E u3
  have S_E := Sta.start ev_E (Or.inr ⟨(hw _ (List.mem_of_getElem? (i := 1) rfl)), (hw _ (List.mem_of_getElem? (i := 9) rfl))⟩)
  have O_E := Fld.start ((fld_at ev_E).symm.trans (Cond.eq_int (Cond.before_iff.mpr u7) rfl))
  obtain ⟨sE, es_E⟩ := exa_v u29
  have F_E := Fld.start ((fld_at ev_E).symm.trans es_E)
  have ES_E := Exa.start es_E u29
  have FC_E := Fld.start ((fld_at es_E).symm.trans (Cond.eq_int (Cond.before_iff.mpr u31) rfl))
  obtain ⟨tE, et_E⟩ := arr_v u33
  have FV_E := Fld.start ((fld_at es_E).symm.trans et_E)
  obtain ⟨cl_E, Ar_E⟩ := Arr.start et_E u33
  have hA_E := Ar_E.fin (Vm.Alike.refl _)
  have hl_E := Cond.eq_int (Cond.before_iff.mpr u35) rfl
  have h31_E := SBG.length_lt et_E hA_E hl_E
  have V_E : Arv s s.heap tE cl_E.cls .byte (8 : Int32) [Value.int (70 : Int32), Value.int (85 : Int32), Value.int (78 : Int32), Value.int (67 : Int32), Value.int (84 : Int32), Value.int (73 : Int32), Value.int (79 : Int32), Value.int (78 : Int32)] (.int (0 : Int32)) := Arv.start hfit Ar_E h31_E (Value.int.inj (Option.some.inj ((len_f et_E hA_E h31_E).symm.trans hl_E))) (by decide) rfl ⟨((elem_f et_E (Term.int_eval 0) hA_E (by decide)).symm.trans (Cond.eq_int (Cond.before_iff.mpr u81) rfl)), ((elem_f et_E (Term.int_eval 1) hA_E (by decide)).symm.trans (Cond.eq_int (Cond.before_iff.mpr u83) rfl)), ((elem_f et_E (Term.int_eval 2) hA_E (by decide)).symm.trans (Cond.eq_int (Cond.before_iff.mpr u85) rfl)), ((elem_f et_E (Term.int_eval 3) hA_E (by decide)).symm.trans (Cond.eq_int (Cond.before_iff.mpr u87) rfl)), ((elem_f et_E (Term.int_eval 4) hA_E (by decide)).symm.trans (Cond.eq_int (Cond.before_iff.mpr u89) rfl)), ((elem_f et_E (Term.int_eval 5) hA_E (by decide)).symm.trans (Cond.eq_int (Cond.before_iff.mpr u91) rfl)), ((elem_f et_E (Term.int_eval 6) hA_E (by decide)).symm.trans (Cond.eq_int (Cond.before_iff.mpr u93) rfl)), ((elem_f et_E (Term.int_eval 7) hA_E (by decide)).symm.trans (Cond.eq_int (Cond.before_iff.mpr u94) rfl)), trivial⟩
  obtain ⟨cP, ev_P⟩ := exa_v u9
  have E_P := Exa.start ev_P u9
  have S_P := Sta.start ev_P (Or.inr ⟨(hw _ (List.mem_of_getElem? (i := 1) rfl)), (hw _ (List.mem_of_getElem? (i := 11) rfl))⟩)
  have O_P := Fld.start ((fld_at ev_P).symm.trans (Cond.eq_int (Cond.before_iff.mpr u11) rfl))
  obtain ⟨sP, es_P⟩ := exa_v u21
  have F_P := Fld.start ((fld_at ev_P).symm.trans es_P)
  have ES_P := Exa.start es_P u21
  have FC_P := Fld.start ((fld_at es_P).symm.trans (Cond.eq_int (Cond.before_iff.mpr u23) rfl))
  obtain ⟨tP, et_P⟩ := arr_v u25
  have FV_P := Fld.start ((fld_at es_P).symm.trans et_P)
  obtain ⟨cl_P, Ar_P⟩ := Arr.start et_P u25
  have hA_P := Ar_P.fin (Vm.Alike.refl _)
  have hl_P := Cond.eq_int (Cond.before_iff.mpr u27) rfl
  have h31_P := SBG.length_lt et_P hA_P hl_P
  have V_P : Arv s s.heap tP cl_P.cls .byte (9 : Int32) [Value.int (80 : Int32), Value.int (82 : Int32), Value.int (79 : Int32), Value.int (67 : Int32), Value.int (69 : Int32), Value.int (68 : Int32), Value.int (85 : Int32), Value.int (82 : Int32), Value.int (69 : Int32)] (.int (0 : Int32)) := Arv.start hfit Ar_P h31_P (Value.int.inj (Option.some.inj ((len_f et_P hA_P h31_P).symm.trans hl_P))) (by decide) rfl ⟨((elem_f et_P (Term.int_eval 0) hA_P (by decide)).symm.trans (Cond.eq_int (Cond.before_iff.mpr u63) rfl)), ((elem_f et_P (Term.int_eval 1) hA_P (by decide)).symm.trans (Cond.eq_int (Cond.before_iff.mpr u65) rfl)), ((elem_f et_P (Term.int_eval 2) hA_P (by decide)).symm.trans (Cond.eq_int (Cond.before_iff.mpr u67) rfl)), ((elem_f et_P (Term.int_eval 3) hA_P (by decide)).symm.trans (Cond.eq_int (Cond.before_iff.mpr u69) rfl)), ((elem_f et_P (Term.int_eval 4) hA_P (by decide)).symm.trans (Cond.eq_int (Cond.before_iff.mpr u71) rfl)), ((elem_f et_P (Term.int_eval 5) hA_P (by decide)).symm.trans (Cond.eq_int (Cond.before_iff.mpr u73) rfl)), ((elem_f et_P (Term.int_eval 6) hA_P (by decide)).symm.trans (Cond.eq_int (Cond.before_iff.mpr u75) rfl)), ((elem_f et_P (Term.int_eval 7) hA_P (by decide)).symm.trans (Cond.eq_int (Cond.before_iff.mpr u77) rfl)), ((elem_f et_P (Term.int_eval 8) hA_P (by decide)).symm.trans (Cond.eq_int (Cond.before_iff.mpr u79) rfl)), trivial⟩
  have n_UE : ¬ (cU = cE) := Fld.ne O_U O_E (by decide)
  have n_UP : ¬ (cU = cP) := Fld.ne O_U O_P (by decide)
  have n_TE : ¬ (cT = cE) := Fld.ne O_T O_E (by decide)
  have n_TP : ¬ (cT = cP) := Fld.ne O_T O_P (by decide)
  have n_PE : ¬ (cP = cE) := Fld.ne O_P O_E (by decide)
  have hd1 : Jvm.Lit.constHeld s "com/example/callstone/callstone/ActionIsOnRoutinesPinLaw" 30 := hcalls.1 _ (List.mem_of_getElem? (i := 0) rfl)
  have hd2 : Jvm.Lit.constHeld s "com/example/callstone/callstone/ActionIsOnRoutinesPinLaw" 38 := hcalls.1 _ (List.mem_of_getElem? (i := 1) rfl)
  obtain ⟨n, o, h1, h2, h3, _, L, rfl, ⟨rfl, N⟩, hq⟩ := rm0 l s _ hw tables_1 i0 zc cU sU tU cl_U.cls cT sT tT cl_T.cls cE sE tE cl_E.cls cP sP tP cl_P.cls s.heap s.heap.size S_C hz S_U E_U F_U ES_U FC_U FV_U V_U S_T E_T F_T ES_T FC_T FV_T V_T S_E E_E F_E ES_E FC_E FV_E V_E S_P E_P F_P ES_P FC_P FV_P V_P n_UE n_UP n_TE n_TP n_PE rfl hd1 hd2 (hsets _ (List.mem_of_getElem? (i := 2) rfl)) p e ha hc hk s m _ below hf ((Spec.applies_iff_loose hf).mp happ).1 ⟨rfl, State.Warmed39.refl s, rfl, rfl⟩ trivial
  refine ⟨n, _, h1, h2, h3, hpost _ _ _ _ _ _ ⟨Cond.after_iff.mpr rfl, Cond.after_iff.mpr (eq_i res_at (Term.int_eval (1)) rfl), trivial⟩ ⟨hq.1, hq.2.1, hq.2.2.1, (hq.2.2.2.sift fun y hy => Or.inr (N y hy)).mono (by decide) (by decide)⟩⟩
theorem main_1_1 : Claimed_1_1 := comes_1 fun _ _ _ _ _ _ h hF => ⟨h.1, hF⟩
theorem main_1_2 : Claimed_1_2 := comes_1 fun _ _ _ _ _ _ h hF => ⟨h.2.1, hF⟩
end Jvm.Pilot.@@N@@
namespace Jvm.Pilot.@@N@@
open Jvm Jvm.ClassFile Sem Op Lib Jvm.Free Jvm.Stand Jvm.Pilot.@@N@@.Jvm.D
/-! MADE BY PROGRAM (witnessworld.py) out of the Statement's table words and the real class files: 18 classes; the members and pool entries that the words name. The judged class is class 1, her method 1. -/
namespace start1
open Jvm.ClassFile
def u (s : String) : CpInfo := .utf8 (stringToUtf16 s)
/-- a pool by its gaps: so many unusable entries, then the entry; so many at the end -/
def gap : Nat → List CpInfo → List CpInfo
  | 0, r => r
  | n + 1, r => .unusable :: gap n r
def poolList (es : List (Nat × CpInfo)) (last : Nat) : List CpInfo := es.foldr (fun e r => gap e.1 (e.2 :: r)) (gap last [])
def pool (es : List (Nat × CpInfo)) (last : Nat) : Array CpInfo := ⟨poolList es last⟩
def fileOf (pool : Array CpInfo) (this : Nat) (attrs : Array Attribute := #[]) (ms : Array MethodInfo := #[]) (fl : Nat := 33) (sup : Nat := 0) (ifs : Array Nat := #[]) (fds : Array FieldInfo := #[]) : ClassFile where
  minorVersion := 0
  majorVersion := 65
  constantPool := pool
  accessFlags := fl
  thisClass := this
  superClass := sup
  interfaces := ifs
  fields := fds
  methods := ms
  attributes := attrs
def plain (name : String) (sup : Option ClassId) : Class where
  name := name
  kind := .ordinary
  loader := none
  accessFlags := 33
  super := sup
  interfaces := #[]
  cf := none
  fields := #[]
  methods := #[]
  instanceTypes := #[]
  staticTypes := #[]
  resolved := #[]
  callSites := []
  init := .initialized
  statics := none
  mirror := none

def pool0 : Array CpInfo := pool [(5, u "<init>"), (0, u "()V"), (1, .class_ 10), (1, u "java/lang/Object")] 113

def k0m0 : Method := { name := "<init>", desc := "()V", sig := { parameters := [], returnType := none }, accessFlags := 1, code := none }
/-- java/lang/Object -/
def k0 : Class := { plain "java/lang/Object" none with
  accessFlags := 33
  interfaces := #[]
  cf := some (fileOf pool0 8 #[] #[{ accessFlags := 1, nameIndex := 5, descriptorIndex := 6, attributes := #[] }] 33 0 #[] #[])
  fields := #[]
  methods := #[k0m0]
  instanceTypes := #[]
  staticTypes := #[]
  resolved := Array.replicate 124 none
  statics := none }

def pool1 : Array CpInfo := pool [(2, .class_ 4), (1, u "java/lang/Object"), (0, u "<init>"), (0, u "()V"), (0, .fieldref 8 9), (0, .class_ 10), (0, .nameAndType 11 12), (0, u "com/example/callstone/callstone/Privilege$Action"), (0, u "USAGE"), (0, u "Lcom/example/callstone/callstone/Privilege$Action;"), (0, .fieldref 8 14), (0, .nameAndType 15 12), (0, u "USAGE_TYPE"), (0, .fieldref 8 17), (0, .nameAndType 18 12), (0, u "EXECUTE"), (0, .fieldref 8 20), (0, .nameAndType 21 12), (0, u "EXECUTE_PROCEDURE"), (0, .methodref 8 23), (0, .nameAndType 24 25), (0, u "isOnRoutines"), (0, u "()Z"), (0, .methodref 8 27), (0, .nameAndType 28 29), (0, u "objectType"), (0, u "()Ljava/lang/String;"), (0, .string 31), (0, u "FUNCTION"), (0, .methodref 33 34), (0, .class_ 35), (0, .nameAndType 36 37), (0, u "java/lang/String"), (0, u "equals"), (0, u "(Ljava/lang/Object;)Z"), (0, .string 39), (0, u "PROCEDURE"), (0, .class_ 41), (0, u "com/example/callstone/callstone/ActionIsOnRoutinesPinLaw"), (2, u "law"), (0, u "(I)Z")] 7

def k1m0 : Method := { name := "<init>", desc := "()V", sig := { parameters := [], returnType := none }, accessFlags := 1, code := none }
def k1c1 : Code := { maxStack := 2, maxLocals := 7, code := code, exceptionTable := #[], attributes := #[] }
def k1m1 : Method := { name := "law", desc := "(I)Z", sig := { parameters := [.int], returnType := some .boolean }, accessFlags := 9, code := some k1c1 }
/-- com/example/callstone/callstone/ActionIsOnRoutinesPinLaw -/
def k1 : Class := { plain "com/example/callstone/callstone/ActionIsOnRoutinesPinLaw" (some 0) with
  accessFlags := 49
  interfaces := #[]
  cf := some (fileOf pool1 40 #[] #[{ accessFlags := 1, nameIndex := 5, descriptorIndex := 6, attributes := #[] }, { accessFlags := 9, nameIndex := 44, descriptorIndex := 45, attributes := #[] }] 49 2 #[] #[])
  fields := #[]
  methods := #[k1m0, k1m1]
  instanceTypes := #[]
  staticTypes := #[]
  resolved := Array.replicate 53 none
  statics := none }

def pool2 : Array CpInfo := pool [(1, .class_ 2), (0, u "java/lang/constant/Constable"), (0, .class_ 4), (0, u "java/lang/Object")] 6

/-- java/lang/constant/Constable -/
def k2 : Class := { plain "java/lang/constant/Constable" (some 0) with
  accessFlags := 1537
  interfaces := #[]
  cf := some (fileOf pool2 1 #[] #[] 1537 3 #[] #[])
  fields := #[]
  methods := #[]
  instanceTypes := #[]
  staticTypes := #[]
  resolved := Array.replicate 11 none
  statics := none }

def pool3 : Array CpInfo := pool [(1, .class_ 2), (0, u "java/lang/Comparable"), (0, .class_ 4), (0, u "java/lang/Object")] 7

/-- java/lang/Comparable -/
def k3 : Class := { plain "java/lang/Comparable" (some 0) with
  accessFlags := 1537
  interfaces := #[]
  cf := some (fileOf pool3 1 #[] #[] 1537 3 #[] #[])
  fields := #[]
  methods := #[]
  instanceTypes := #[]
  staticTypes := #[]
  resolved := Array.replicate 12 none
  statics := none }

def pool4 : Array CpInfo := pool [(1, .class_ 2), (0, u "java/io/Serializable"), (0, .class_ 4), (0, u "java/lang/Object")] 2

/-- java/io/Serializable -/
def k4 : Class := { plain "java/io/Serializable" (some 0) with
  accessFlags := 1537
  interfaces := #[]
  cf := some (fileOf pool4 1 #[] #[] 1537 3 #[] #[])
  fields := #[]
  methods := #[]
  instanceTypes := #[]
  staticTypes := #[]
  resolved := Array.replicate 7 none
  statics := none }

def pool5 : Array CpInfo := pool [(2, .class_ 4), (1, u "java/lang/Enum"), (0, u "name"), (0, u "Ljava/lang/String;"), (2, u "ordinal"), (0, u "I"), (1, .class_ 14), (1, u "java/lang/Object"), (4, u "hash"), (86, .class_ 108), (1, u "java/lang/Enum$EnumDesc"), (2, .class_ 112), (0, u "java/lang/constant/Constable"), (0, .class_ 114), (0, u "java/lang/Comparable"), (0, .class_ 116), (0, u "java/io/Serializable")] 87

/-- java/lang/Enum -/
def k5 : Class := { plain "java/lang/Enum" (some 0) with
  accessFlags := 1057
  interfaces := #[2, 3, 4]
  cf := some (fileOf pool5 2 #[.nestMembers #[106]] #[] 1057 12 #[111, 113, 115] #[{ accessFlags := 18, nameIndex := 5, descriptorIndex := 6, attributes := #[] }, { accessFlags := 18, nameIndex := 9, descriptorIndex := 10, attributes := #[] }, { accessFlags := 2, nameIndex := 19, descriptorIndex := 10, attributes := #[] }])
  fields := #[{ name := "name", type := (.object "java/lang/String"), accessFlags := 18, slot := 0, constantValue := 0 }, { name := "ordinal", type := .int, accessFlags := 18, slot := 1, constantValue := 0 }, { name := "hash", type := .int, accessFlags := 2, slot := 2, constantValue := 0 }]
  methods := #[]
  instanceTypes := #[(.object "java/lang/String"), .int, .int]
  staticTypes := #[]
  resolved := Array.replicate 204 none
  statics := none }

def pool6 : Array CpInfo := pool [(1, .class_ 2), (0, u "com/example/callstone/callstone/Privilege$Action"), (2, u "USAGE"), (0, u "Lcom/example/callstone/callstone/Privilege$Action;"), (2, u "USAGE_TYPE"), (0, .fieldref 1 11), (0, .nameAndType 12 6), (0, u "EXECUTE"), (0, .fieldref 1 14), (0, .nameAndType 15 6), (0, u "EXECUTE_PROCEDURE"), (2, u "$VALUES"), (0, u "[Lcom/example/callstone/callstone/Privilege$Action;"), (6, .class_ 28), (1, u "java/lang/Enum"), (8, u "keyword"), (0, u "Ljava/lang/String;"), (0, .fieldref 1 40), (0, .nameAndType 41 38), (0, u "objectType"), (2, u "isOnRoutines"), (0, u "()Z"), (30, u "()Ljava/lang/String;"), (10, .class_ 88), (0, u "com/example/callstone/callstone/Privilege")] 16

def k6c0 : Code := { maxStack := 1, maxLocals := 1, code := prog_156_method_5_code, exceptionTable := #[], attributes := #[] }
def k6m0 : Method := { name := "objectType", desc := "()Ljava/lang/String;", sig := { parameters := [], returnType := some (.object "java/lang/String") }, accessFlags := 0, code := some k6c0 }
def k6c1 : Code := { maxStack := 2, maxLocals := 1, code := prog_156_method_6_code, exceptionTable := #[], attributes := #[] }
def k6m1 : Method := { name := "isOnRoutines", desc := "()Z", sig := { parameters := [], returnType := some .boolean }, accessFlags := 0, code := some k6c1 }
/-- com/example/callstone/callstone/Privilege$Action -/
def k6 : Class := { plain "com/example/callstone/callstone/Privilege$Action" (some 5) with
  accessFlags := 16432
  interfaces := #[]
  cf := some (fileOf pool6 1 #[.nestHost 87] #[{ accessFlags := 0, nameIndex := 41, descriptorIndex := 76, attributes := #[] }, { accessFlags := 0, nameIndex := 44, descriptorIndex := 45, attributes := #[] }] 16432 26 #[] #[{ accessFlags := 16409, nameIndex := 5, descriptorIndex := 6, attributes := #[] }, { accessFlags := 16409, nameIndex := 9, descriptorIndex := 6, attributes := #[] }, { accessFlags := 16409, nameIndex := 12, descriptorIndex := 6, attributes := #[] }, { accessFlags := 16409, nameIndex := 15, descriptorIndex := 6, attributes := #[] }, { accessFlags := 18, nameIndex := 37, descriptorIndex := 38, attributes := #[] }, { accessFlags := 18, nameIndex := 41, descriptorIndex := 38, attributes := #[] }, { accessFlags := 4122, nameIndex := 18, descriptorIndex := 19, attributes := #[] }])
  fields := #[{ name := "USAGE", type := (.object "com/example/callstone/callstone/Privilege$Action"), accessFlags := 16409, slot := 0, constantValue := 0 }, { name := "USAGE_TYPE", type := (.object "com/example/callstone/callstone/Privilege$Action"), accessFlags := 16409, slot := 1, constantValue := 0 }, { name := "EXECUTE", type := (.object "com/example/callstone/callstone/Privilege$Action"), accessFlags := 16409, slot := 2, constantValue := 0 }, { name := "EXECUTE_PROCEDURE", type := (.object "com/example/callstone/callstone/Privilege$Action"), accessFlags := 16409, slot := 3, constantValue := 0 }, { name := "keyword", type := (.object "java/lang/String"), accessFlags := 18, slot := 3, constantValue := 0 }, { name := "objectType", type := (.object "java/lang/String"), accessFlags := 18, slot := 4, constantValue := 0 }, { name := "$VALUES", type := (.array (.object "com/example/callstone/callstone/Privilege$Action")), accessFlags := 4122, slot := 4, constantValue := 0 }]
  methods := #[k6m0, k6m1]
  instanceTypes := #[(.object "java/lang/String"), .int, .int, (.object "java/lang/String"), (.object "java/lang/String")]
  staticTypes := #[(.object "com/example/callstone/callstone/Privilege$Action"), (.object "com/example/callstone/callstone/Privilege$Action"), (.object "com/example/callstone/callstone/Privilege$Action"), (.object "com/example/callstone/callstone/Privilege$Action"), (.array (.object "com/example/callstone/callstone/Privilege$Action"))]
  resolved := Array.replicate 105 none
  statics := some 0 }

def pool7 : Array CpInfo := pool [(2, .class_ 4), (1, u "java/lang/CharSequence"), (42, .class_ 48), (0, u "java/lang/CharSequence$1CodePointIterator"), (10, .class_ 60), (0, u "java/lang/CharSequence$1CharIterator"), (5, .class_ 67), (0, u "java/lang/Object")] 63

/-- java/lang/CharSequence -/
def k7 : Class := { plain "java/lang/CharSequence" (some 0) with
  accessFlags := 1537
  interfaces := #[]
  cf := some (fileOf pool7 2 #[.nestMembers #[47, 59]] #[] 1537 66 #[] #[])
  fields := #[]
  methods := #[]
  instanceTypes := #[]
  staticTypes := #[]
  resolved := Array.replicate 131 none
  statics := none }

def pool8 : Array CpInfo := pool [(1, .class_ 2), (0, u "java/lang/constant/ConstantDesc"), (0, .class_ 4), (0, u "java/lang/Object")] 32

/-- java/lang/constant/ConstantDesc -/
def k8 : Class := { plain "java/lang/constant/ConstantDesc" (some 0) with
  accessFlags := 1537
  interfaces := #[]
  cf := some (fileOf pool8 1 #[] #[] 1537 3 #[] #[])
  fields := #[]
  methods := #[]
  instanceTypes := #[]
  staticTypes := #[]
  resolved := Array.replicate 37 none
  statics := none }

def pool9 : Array CpInfo := pool [(2, .class_ 4), (1, u "java/lang/Object"), (0, u "<init>"), (0, u "()V"), (2, .fieldref 10 11), (0, .class_ 12), (0, .nameAndType 13 14), (0, u "java/lang/String"), (0, u "value"), (0, u "[B"), (0, .fieldref 10 16), (0, .nameAndType 17 18), (0, u "coder"), (0, u "B"), (2, u "hash"), (0, u "I"), (2, u "hashIsZero"), (0, u "Z"), (11, .fieldref 10 39), (0, .nameAndType 40 26), (0, u "COMPACT_STRINGS"), (66, .class_ 109), (1, u "java/lang/StringLatin1"), (431, .methodref 107 542), (0, .nameAndType 543 544), (0, u "equals"), (0, u "([B[B)Z"), (28, u "(Ljava/lang/Object;)Z"), (1, .class_ 576), (0, u "java/lang/CharSequence"), (22, u "CASE_INSENSITIVE_ORDER"), (0, u "Ljava/util/Comparator;"), (500, u "serialPersistentFields"), (0, u "[Ljava/io/ObjectStreamField;"), (0, .class_ 1104), (0, u "java/lang/String$CaseInsensitiveComparator"), (1, .class_ 1107), (0, u "java/io/Serializable"), (0, .class_ 1109), (0, u "java/lang/Comparable"), (0, .class_ 1111), (0, u "java/lang/constant/Constable"), (0, .class_ 1113), (0, u "java/lang/constant/ConstantDesc"), (2, u "serialVersionUID"), (0, u "J"), (3, u "REPL"), (0, u "C"), (2, u "LATIN1"), (1, u "UTF16")] 323

def k9m0 : Method := { name := "<init>", desc := "()V", sig := { parameters := [], returnType := none }, accessFlags := 1, code := none }
def k9c1 : Code := { maxStack := 2, maxLocals := 3, code := jdk_42_method_66_code, exceptionTable := #[], attributes := #[] }
def k9m1 : Method := { name := "equals", desc := "(Ljava/lang/Object;)Z", sig := { parameters := [(.object "java/lang/Object")], returnType := some .boolean }, accessFlags := 1, code := some k9c1 }
/-- java/lang/String -/
def k9 : Class := { plain "java/lang/String" (some 0) with
  accessFlags := 49
  interfaces := #[4, 3, 7, 2, 8]
  cf := some (fileOf pool9 10 #[.nestMembers #[1103]] #[{ accessFlags := 1, nameIndex := 5, descriptorIndex := 6, attributes := #[] }, { accessFlags := 1, nameIndex := 543, descriptorIndex := 573, attributes := #[] }] 49 2 #[1106, 1108, 575, 1110, 1112] #[{ accessFlags := 18, nameIndex := 13, descriptorIndex := 14, attributes := #[] }, { accessFlags := 18, nameIndex := 17, descriptorIndex := 18, attributes := #[] }, { accessFlags := 2, nameIndex := 21, descriptorIndex := 22, attributes := #[] }, { accessFlags := 2, nameIndex := 25, descriptorIndex := 26, attributes := #[] }, { accessFlags := 26, nameIndex := 1116, descriptorIndex := 1117, attributes := #[] }, { accessFlags := 24, nameIndex := 40, descriptorIndex := 26, attributes := #[] }, { accessFlags := 26, nameIndex := 1101, descriptorIndex := 1102, attributes := #[] }, { accessFlags := 26, nameIndex := 1121, descriptorIndex := 1122, attributes := #[] }, { accessFlags := 25, nameIndex := 599, descriptorIndex := 600, attributes := #[] }, { accessFlags := 24, nameIndex := 1125, descriptorIndex := 18, attributes := #[] }, { accessFlags := 24, nameIndex := 1127, descriptorIndex := 18, attributes := #[] }])
  fields := #[{ name := "value", type := (.array .byte), accessFlags := 18, slot := 0, constantValue := 0 }, { name := "coder", type := .byte, accessFlags := 18, slot := 1, constantValue := 0 }, { name := "hash", type := .int, accessFlags := 2, slot := 2, constantValue := 0 }, { name := "hashIsZero", type := .boolean, accessFlags := 2, slot := 3, constantValue := 0 }, { name := "serialVersionUID", type := .long, accessFlags := 26, slot := 0, constantValue := 0 }, { name := "COMPACT_STRINGS", type := .boolean, accessFlags := 24, slot := 1, constantValue := 0 }, { name := "serialPersistentFields", type := (.array (.object "java/io/ObjectStreamField")), accessFlags := 26, slot := 2, constantValue := 0 }, { name := "REPL", type := .char, accessFlags := 26, slot := 3, constantValue := 0 }, { name := "CASE_INSENSITIVE_ORDER", type := (.object "java/util/Comparator"), accessFlags := 25, slot := 4, constantValue := 0 }, { name := "LATIN1", type := .byte, accessFlags := 24, slot := 5, constantValue := 0 }, { name := "UTF16", type := .byte, accessFlags := 24, slot := 6, constantValue := 0 }]
  methods := #[k9m0, k9m1]
  instanceTypes := #[(.array .byte), .byte, .int, .boolean]
  staticTypes := #[.long, .boolean, (.array (.object "java/io/ObjectStreamField")), .char, (.object "java/util/Comparator"), .byte, .byte]
  resolved := Array.replicate 1451 none
  statics := some 1 }

def pool10 : Array CpInfo := pool [(4, .class_ 6), (1, u "java/lang/Object"), (0, u "<init>"), (0, u "()V"), (5, .class_ 16), (1, u "java/lang/StringLatin1"), (104, u "$assertionsDisabled"), (0, u "Z"), (98, .class_ 223), (1, u "java/lang/StringLatin1$LinesSpliterator"), (57, u "equals"), (0, u "([B[B)Z"), (107, .class_ 391), (0, u "java/lang/StringLatin1$CharsSpliterator")] 3

def k10m0 : Method := { name := "<init>", desc := "()V", sig := { parameters := [], returnType := none }, accessFlags := 0, code := none }
def k10c1 : Code := { maxStack := 3, maxLocals := 3, code := jdk_43_method_13_code, exceptionTable := #[], attributes := #[] }
def k10m1 : Method := { name := "equals", desc := "([B[B)Z", sig := { parameters := [(.array .byte), (.array .byte)], returnType := some .boolean }, accessFlags := 9, code := some k10c1 }
/-- java/lang/StringLatin1 -/
def k10 : Class := { plain "java/lang/StringLatin1" (some 0) with
  accessFlags := 48
  interfaces := #[]
  cf := some (fileOf pool10 14 #[.nestMembers #[390, 221]] #[{ accessFlags := 0, nameIndex := 7, descriptorIndex := 8, attributes := #[] }, { accessFlags := 9, nameIndex := 281, descriptorIndex := 282, attributes := #[] }] 48 4 #[] #[{ accessFlags := 4120, nameIndex := 121, descriptorIndex := 122, attributes := #[] }])
  fields := #[{ name := "$assertionsDisabled", type := .boolean, accessFlags := 4120, slot := 0, constantValue := 0 }]
  methods := #[k10m0, k10m1]
  instanceTypes := #[]
  staticTypes := #[.boolean]
  resolved := Array.replicate 395 none
  statics := none }

def pool11 : Array CpInfo := pool [(2, .class_ 4), (1, u "java/lang/Object"), (0, u "<init>"), (0, u "()V"), (17, .class_ 26), (1, u "jdk/internal/util/Preconditions"), (28, .class_ 56), (0, u "jdk/internal/util/Preconditions$4"), (57, .class_ 115), (0, u "jdk/internal/util/Preconditions$1"), (7, u "SIOOBE_FORMATTER"), (0, u "Ljava/util/function/BiFunction;"), (0, .class_ 126), (0, u "jdk/internal/util/Preconditions$2"), (3, u "AIOOBE_FORMATTER"), (0, .class_ 132), (0, u "jdk/internal/util/Preconditions$3"), (3, u "IOOBE_FORMATTER")] 57

def k11m0 : Method := { name := "<init>", desc := "()V", sig := { parameters := [], returnType := none }, accessFlags := 1, code := none }
/-- jdk/internal/util/Preconditions -/
def k11 : Class := { plain "jdk/internal/util/Preconditions" (some 0) with
  accessFlags := 33
  interfaces := #[]
  cf := some (fileOf pool11 24 #[.nestMembers #[55, 131, 125, 114]] #[{ accessFlags := 1, nameIndex := 5, descriptorIndex := 6, attributes := #[] }] 33 2 #[] #[{ accessFlags := 25, nameIndex := 123, descriptorIndex := 124, attributes := #[] }, { accessFlags := 25, nameIndex := 130, descriptorIndex := 124, attributes := #[] }, { accessFlags := 25, nameIndex := 136, descriptorIndex := 124, attributes := #[] }])
  fields := #[{ name := "SIOOBE_FORMATTER", type := (.object "java/util/function/BiFunction"), accessFlags := 25, slot := 0, constantValue := 0 }, { name := "AIOOBE_FORMATTER", type := (.object "java/util/function/BiFunction"), accessFlags := 25, slot := 1, constantValue := 0 }, { name := "IOOBE_FORMATTER", type := (.object "java/util/function/BiFunction"), accessFlags := 25, slot := 2, constantValue := 0 }]
  methods := #[k11m0]
  instanceTypes := #[]
  staticTypes := #[(.object "java/util/function/BiFunction"), (.object "java/util/function/BiFunction"), (.object "java/util/function/BiFunction")]
  resolved := Array.replicate 194 none
  statics := some 2 }

def pool12 : Array CpInfo := pool [(9, u "<init>"), (6, .class_ 18), (1, u "java/lang/Object"), (0, u "()V"), (1, .class_ 23), (1, u "jdk/internal/util/ArraysSupport"), (0, u "LOG2_ARRAY_LONG_INDEX_SCALE"), (0, u "I"), (2, u "U"), (0, u "Ljdk/internal/misc/Unsafe;"), (8, u "BIG_ENDIAN"), (0, u "Z"), (8, u "LOG2_BYTE_BIT_SIZE"), (4, u "LOG2_ARRAY_INT_INDEX_SCALE"), (54, u "JLA"), (0, u "Ljdk/internal/access/JavaLangAccess;"), (11, u "LOG2_ARRAY_BOOLEAN_INDEX_SCALE"), (9, u "LOG2_ARRAY_BYTE_INDEX_SCALE"), (5, u "LOG2_ARRAY_CHAR_INDEX_SCALE"), (5, u "LOG2_ARRAY_SHORT_INDEX_SCALE"), (18, u "LOG2_ARRAY_FLOAT_INDEX_SCALE"), (24, u "LOG2_ARRAY_DOUBLE_INDEX_SCALE"), (89, u "T_BOOLEAN"), (2, u "T_CHAR"), (1, u "T_FLOAT"), (1, u "T_DOUBLE"), (1, u "T_BYTE"), (1, u "T_SHORT"), (1, u "T_INT"), (1, u "T_LONG"), (1, u "SOFT_MAX_ARRAY_LENGTH")] 83

def k12m0 : Method := { name := "<init>", desc := "()V", sig := { parameters := [], returnType := none }, accessFlags := 2, code := none }
/-- jdk/internal/util/ArraysSupport -/
def k12 : Class := { plain "jdk/internal/util/ArraysSupport" (some 0) with
  accessFlags := 33
  interfaces := #[]
  cf := some (fileOf pool12 21 #[] #[{ accessFlags := 2, nameIndex := 9, descriptorIndex := 19, attributes := #[] }] 33 16 #[] #[{ accessFlags := 24, nameIndex := 28, descriptorIndex := 29, attributes := #[] }, { accessFlags := 26, nameIndex := 38, descriptorIndex := 39, attributes := #[] }, { accessFlags := 25, nameIndex := 121, descriptorIndex := 25, attributes := #[] }, { accessFlags := 25, nameIndex := 131, descriptorIndex := 25, attributes := #[] }, { accessFlags := 25, nameIndex := 137, descriptorIndex := 25, attributes := #[] }, { accessFlags := 25, nameIndex := 143, descriptorIndex := 25, attributes := #[] }, { accessFlags := 25, nameIndex := 53, descriptorIndex := 25, attributes := #[] }, { accessFlags := 25, nameIndex := 24, descriptorIndex := 25, attributes := #[] }, { accessFlags := 25, nameIndex := 162, descriptorIndex := 25, attributes := #[] }, { accessFlags := 25, nameIndex := 187, descriptorIndex := 25, attributes := #[] }, { accessFlags := 26, nameIndex := 48, descriptorIndex := 25, attributes := #[] }, { accessFlags := 25, nameIndex := 277, descriptorIndex := 25, attributes := #[] }, { accessFlags := 25, nameIndex := 280, descriptorIndex := 25, attributes := #[] }, { accessFlags := 25, nameIndex := 282, descriptorIndex := 25, attributes := #[] }, { accessFlags := 25, nameIndex := 284, descriptorIndex := 25, attributes := #[] }, { accessFlags := 25, nameIndex := 286, descriptorIndex := 25, attributes := #[] }, { accessFlags := 25, nameIndex := 288, descriptorIndex := 25, attributes := #[] }, { accessFlags := 25, nameIndex := 290, descriptorIndex := 25, attributes := #[] }, { accessFlags := 25, nameIndex := 292, descriptorIndex := 25, attributes := #[] }, { accessFlags := 26, nameIndex := 108, descriptorIndex := 109, attributes := #[] }, { accessFlags := 25, nameIndex := 294, descriptorIndex := 25, attributes := #[] }])
  fields := #[{ name := "U", type := (.object "jdk/internal/misc/Unsafe"), accessFlags := 24, slot := 0, constantValue := 0 }, { name := "BIG_ENDIAN", type := .boolean, accessFlags := 26, slot := 1, constantValue := 0 }, { name := "LOG2_ARRAY_BOOLEAN_INDEX_SCALE", type := .int, accessFlags := 25, slot := 2, constantValue := 0 }, { name := "LOG2_ARRAY_BYTE_INDEX_SCALE", type := .int, accessFlags := 25, slot := 3, constantValue := 0 }, { name := "LOG2_ARRAY_CHAR_INDEX_SCALE", type := .int, accessFlags := 25, slot := 4, constantValue := 0 }, { name := "LOG2_ARRAY_SHORT_INDEX_SCALE", type := .int, accessFlags := 25, slot := 5, constantValue := 0 }, { name := "LOG2_ARRAY_INT_INDEX_SCALE", type := .int, accessFlags := 25, slot := 6, constantValue := 0 }, { name := "LOG2_ARRAY_LONG_INDEX_SCALE", type := .int, accessFlags := 25, slot := 7, constantValue := 0 }, { name := "LOG2_ARRAY_FLOAT_INDEX_SCALE", type := .int, accessFlags := 25, slot := 8, constantValue := 0 }, { name := "LOG2_ARRAY_DOUBLE_INDEX_SCALE", type := .int, accessFlags := 25, slot := 9, constantValue := 0 }, { name := "LOG2_BYTE_BIT_SIZE", type := .int, accessFlags := 26, slot := 10, constantValue := 0 }, { name := "T_BOOLEAN", type := .int, accessFlags := 25, slot := 11, constantValue := 0 }, { name := "T_CHAR", type := .int, accessFlags := 25, slot := 12, constantValue := 0 }, { name := "T_FLOAT", type := .int, accessFlags := 25, slot := 13, constantValue := 0 }, { name := "T_DOUBLE", type := .int, accessFlags := 25, slot := 14, constantValue := 0 }, { name := "T_BYTE", type := .int, accessFlags := 25, slot := 15, constantValue := 0 }, { name := "T_SHORT", type := .int, accessFlags := 25, slot := 16, constantValue := 0 }, { name := "T_INT", type := .int, accessFlags := 25, slot := 17, constantValue := 0 }, { name := "T_LONG", type := .int, accessFlags := 25, slot := 18, constantValue := 0 }, { name := "JLA", type := (.object "jdk/internal/access/JavaLangAccess"), accessFlags := 26, slot := 19, constantValue := 0 }, { name := "SOFT_MAX_ARRAY_LENGTH", type := .int, accessFlags := 25, slot := 20, constantValue := 0 }]
  methods := #[k12m0]
  instanceTypes := #[]
  staticTypes := #[(.object "jdk/internal/misc/Unsafe"), .boolean, .int, .int, .int, .int, .int, .int, .int, .int, .int, .int, .int, .int, .int, .int, .int, .int, .int, (.object "jdk/internal/access/JavaLangAccess"), .int]
  resolved := Array.replicate 378 none
  statics := none }

def pool13 : Array CpInfo := pool [(1, u "java/lang/Cloneable"), (0, .class_ 1), (0, u "java/lang/Object"), (0, .class_ 3)] 3

/-- java/lang/Cloneable -/
def k13 : Class := { plain "java/lang/Cloneable" (some 0) with
  accessFlags := 1537
  interfaces := #[]
  cf := some (fileOf pool13 2 #[] #[] 1537 4 #[] #[])
  fields := #[]
  methods := #[]
  instanceTypes := #[]
  staticTypes := #[]
  resolved := Array.replicate 8 none
  statics := none }

/-- the primitive byte -/
def k14 : Class := { plain "byte" none with kind := .primitive 'B', accessFlags := 0x411 }
/-- [B -/
def k15 : Class := { plain "[B" (some 0) with kind := .array 14 .byte, interfaces := #[13, 4], accessFlags := 1041 }

/-- the primitive int -/
def k16 : Class := { plain "int" none with kind := .primitive 'I', accessFlags := 0x411 }
/-- [I -/
def k17 : Class := { plain "[I" (some 0) with kind := .array 16 .int, interfaces := #[13, 4], accessFlags := 1041 }

def heap : Heap := #[{ cls := 6, slots := #[.ref 11, .ref 12, .ref 13, .ref 14, .null], vm := .statics 6 },
  { cls := 9, slots := #[.long 0, .int 1, .null, .int 0, .null, .int 0, .int 0], vm := .statics 9 },
  { cls := 11, slots := #[.null, .null, .null], vm := .statics 11 },
  { cls := 15, slots := #[.int 74, .int 65, .int 82], vm := .none },
  { cls := 15, slots := #[.int 84, .int 89, .int 80, .int 69], vm := .none },
  { cls := 15, slots := #[.int 70, .int 85, .int 78, .int 67, .int 84, .int 73, .int 79, .int 78], vm := .none },
  { cls := 15, slots := #[.int 80, .int 82, .int 79, .int 67, .int 69, .int 68, .int 85, .int 82, .int 69], vm := .none },
  { cls := 9, slots := #[.ref 3, .int 0, .int 0, .int 0], vm := .none },
  { cls := 9, slots := #[.ref 4, .int 0, .int 0, .int 0], vm := .none },
  { cls := 9, slots := #[.ref 5, .int 0, .int 0, .int 0], vm := .none },
  { cls := 9, slots := #[.ref 6, .int 0, .int 0, .int 0], vm := .none },
  { cls := 6, slots := #[.null, .int 0, .int 0, .null, .ref 7], vm := .none },
  { cls := 6, slots := #[.null, .int 1, .int 0, .null, .ref 8], vm := .none },
  { cls := 6, slots := #[.null, .int 2, .int 0, .null, .ref 9], vm := .none },
  { cls := 6, slots := #[.null, .int 3, .int 0, .null, .ref 10], vm := .none }]
def classes : Array Class := #[k0, k1, k2, k3, k4, k5, k6, k7, k8, k9, k10, k11, k12, k13, k14, k15, k16, k17]
def interned : List (Array UInt16 × Addr) := []
def slotsUsed : Nat := 75
def theMethod : MethodId := ⟨1, 1⟩
def args0 : Array Value := #[.int 5]
def aboutOver (below : List Frame) : State where
  vm := { classes := classes, interned := interned.toArray }
  heap := heap
  slotsUsed := slotsUsed
  threads := #[{ frames := .invoking theMethod args0 :: below }]
def below0 : List Frame := [.native { method := ⟨0, 0⟩, args := #[] }]
def about1 : State := aboutOver below0
def p0 : Program := .bare "" "" ""
def e0 : Env := launch0.env 0 0 0
theorem w_frames : about1.frames = Frame.invoking theMethod args0 :: below0 := rfl
set_option maxRecDepth 65536 in
theorem w_args : argsFit about1.vm theMethod args0 = true := by decide +kernel
set_option maxRecDepth 65536 in
theorem w_heap : heapFits about1 = true := by decide +kernel
set_option maxRecDepth 65536 in
theorem w_runnable : about1.curStatus? = some .runnable := by decide +kernel
set_option maxRecDepth 65536 in
theorem w_alone : about1.alone = true := by decide +kernel
set_option maxRecDepth 65536 in
theorem w_named : about1.methodNamed? x = some theMethod := by decide +kernel
set_option maxRecDepth 65536 in
theorem w_hears : about1.hears theMethod below0 = true := by decide +kernel
set_option maxRecDepth 65536 in
theorem w_ripe : about1.ripe theMethod args0 below0 = true := by decide +kernel
theorem w_running : about1.status = .running := rfl
set_option maxRecDepth 65536 in
theorem w_room : about1.hasRoom e0.platform room_1 = true :=
  launch0.hasRoom_least _ room_1 (by decide +kernel) (by decide +kernel) (by decide +kernel) (by decide +kernel) (by decide +kernel) (by decide +kernel)
theorem allAtoms_all (ts : List Jvm.Cond) (a : Array Jvm.Value) (st : Jvm.State) : (allAtoms ts).before a st = ts.all (fun c => c.before a st) := by
  induction ts with
  | nil => rfl
  | cons c t ih =>
    show (Jvm.Cond.and c (allAtoms t)).before a st = _
    rw [Jvm.Cond.before_and, ih, List.all_cons]
def words1 : List Jvm.Cond := Jvm.Cond.code x code maxLocals ret :: tables_1
/-- a 'code' word, met by the world's own term for the bytes: nothing is compared byte by byte -/
theorem code_word {y : MethodName} {bytes : ByteArray} {mx : Nat} {rt : Option FieldType} {a : Array Value} {s : State} {m : MethodId} {meth : Method} {c : Code} (h1 : s.methodNamed? y = some m) (h2 : s.vm.method? m = some meth) (h3 : meth.code = some c) (h4 : c.code = bytes)
    (h5 : (c.maxLocals == mx && c.exceptionTable.isEmpty && decide (c.maxStack ≤ mostOperands) && decide (meth.sig.returnType = rt) && !meth.locks && decide (parseMethodDescriptor y.desc = some meth.sig)) = true) : (Jvm.Cond.code y bytes mx rt).before a s = true := by
  simp only [Bool.and_eq_true, beq_iff_eq, Bool.not_eq_true', decide_eq_true_eq] at h5
  obtain ⟨⟨⟨⟨⟨g1, g2⟩, g3⟩, g4⟩, g5⟩, g6⟩ := h5
  simp [Cond.before, Cond.holds, Cond.value, h1, h2, h3, h4, g1, g2, g3, g4, g5, g6]
def isCode : Jvm.Cond → Bool
  | .code _ _ _ _ => true
  | _ => false
theorem all_split {L : List Jvm.Cond} {P : Jvm.Cond → Bool} (h1 : L.all (fun c => isCode c || P c) = true) (h2 : ∀ c ∈ L.filter isCode, P c = true) : L.all P = true := by
  refine List.all_eq_true.mpr fun c hc => ?_
  have h := List.all_eq_true.mp h1 c hc
  rcases Bool.eq_false_or_eq_true (isCode c) with hi | hi
  · exact h2 c (List.mem_filter.mpr ⟨hc, hi⟩)
  · simpa [hi] using h
set_option maxRecDepth 65536 in
theorem w_c0 : (Jvm.Cond.code x code maxLocals ret).before args0 about1 = true := code_word (m := ⟨1, 1⟩) (meth := k1m1) (c := k1c1) (by decide +kernel) rfl rfl rfl (by decide +kernel)
set_option maxRecDepth 65536 in
theorem w_c1 : (Jvm.Cond.code ({ cls := "com/example/callstone/callstone/Privilege$Action", name := "isOnRoutines", desc := "()Z" } : Jvm.MethodName) prog_156_method_6_code (1 : Nat) (Option.some Jvm.ClassFile.FieldType.boolean)).before args0 about1 = true := code_word (m := ⟨6, 1⟩) (meth := k6m1) (c := k6c1) (by decide +kernel) rfl rfl rfl (by decide +kernel)
set_option maxRecDepth 65536 in
theorem w_c2 : (Jvm.Cond.code ({ cls := "com/example/callstone/callstone/Privilege$Action", name := "objectType", desc := "()Ljava/lang/String;" } : Jvm.MethodName) prog_156_method_5_code (1 : Nat) (Option.some (Jvm.ClassFile.FieldType.object "java/lang/String"))).before args0 about1 = true := code_word (m := ⟨6, 0⟩) (meth := k6m0) (c := k6c0) (by decide +kernel) rfl rfl rfl (by decide +kernel)
set_option maxRecDepth 65536 in
theorem w_c3 : (Jvm.Cond.code ({ cls := "java/lang/String", name := "equals", desc := "(Ljava/lang/Object;)Z" } : Jvm.MethodName) jdk_42_method_66_code (3 : Nat) (Option.some Jvm.ClassFile.FieldType.boolean)).before args0 about1 = true := code_word (m := ⟨9, 1⟩) (meth := k9m1) (c := k9c1) (by decide +kernel) rfl rfl rfl (by decide +kernel)
set_option maxRecDepth 65536 in
theorem w_c4 : (Jvm.Cond.code ({ cls := "java/lang/StringLatin1", name := "equals", desc := "([B[B)Z" } : Jvm.MethodName) jdk_43_method_13_code (3 : Nat) (Option.some Jvm.ClassFile.FieldType.boolean)).before args0 about1 = true := code_word (m := ⟨10, 1⟩) (meth := k10m1) (c := k10c1) (by decide +kernel) rfl rfl rfl (by decide +kernel)
def codes1 : List Jvm.Cond := [Jvm.Cond.code x code maxLocals ret, Jvm.Cond.code ({ cls := "com/example/callstone/callstone/Privilege$Action", name := "isOnRoutines", desc := "()Z" } : Jvm.MethodName) prog_156_method_6_code (1 : Nat) (Option.some Jvm.ClassFile.FieldType.boolean), Jvm.Cond.code ({ cls := "com/example/callstone/callstone/Privilege$Action", name := "objectType", desc := "()Ljava/lang/String;" } : Jvm.MethodName) prog_156_method_5_code (1 : Nat) (Option.some (Jvm.ClassFile.FieldType.object "java/lang/String")), Jvm.Cond.code ({ cls := "java/lang/String", name := "equals", desc := "(Ljava/lang/Object;)Z" } : Jvm.MethodName) jdk_42_method_66_code (3 : Nat) (Option.some Jvm.ClassFile.FieldType.boolean), Jvm.Cond.code ({ cls := "java/lang/StringLatin1", name := "equals", desc := "([B[B)Z" } : Jvm.MethodName) jdk_43_method_13_code (3 : Nat) (Option.some Jvm.ClassFile.FieldType.boolean)]
set_option maxRecDepth 65536 in
theorem codes_eq : words1.filter isCode = codes1 := rfl
theorem w_codes : ∀ c ∈ words1.filter isCode, c.before args0 about1 = true := by
  rw [codes_eq]
  intro c hc
  simp only [codes1, List.mem_cons, List.not_mem_nil, or_false] at hc
  rcases hc with rfl | rfl | rfl | rfl | rfl
  · exact w_c0
  · exact w_c1
  · exact w_c2
  · exact w_c3
  · exact w_c4
set_option maxRecDepth 65536 in
theorem w_t1 : (words1.take 24).all (fun c => isCode c || c.before args0 about1) = true := by decide +kernel
set_option maxRecDepth 65536 in
theorem w_t2 : (words1.drop 24).all (fun c => isCode c || c.before args0 about1) = true := by decide +kernel
theorem w_tables : (allAtoms (Jvm.Cond.code x code maxLocals ret :: tables_1)).before args0 about1 = true := by
  rw [allAtoms_all]
  show words1.all (fun c => c.before args0 about1) = true
  refine all_split ?_ w_codes
  rw [← List.take_append_drop 24 words1, List.all_append, w_t1, w_t2]
  rfl
set_option maxRecDepth 65536 in
theorem w_rest : rest_1_c.before args0 about1 = true := by decide +kernel
set_option maxRecDepth 65536 in
theorem w_case : (Jvm.Cond.and given_1 narrow_1).before args0 about1 = true := by decide +kernel
set_option maxRecDepth 65536 in
theorem w_consts : constsHeld consts_1 about1 := Jvm.Lit.constsHeldB_iff.mp (by decide +kernel)
theorem w_applies : (headSpec (Jvm.Cond.code x code maxLocals ret :: tables_1) room_1).applies x e0.platform about1 = true :=
  (Spec.applies_iff w_frames).mpr ⟨w_running, w_runnable, w_alone, w_named, w_hears, w_ripe, w_room, w_tables⟩
theorem atStart : AtStart classFile x code maxLocals ret World_1 tables_1 room_1 Calls_1 rest_1 Pre_1 launch0 p0 e0 about1 theMethod args0 below0 :=
  ⟨lists_1, trivial, launch0.admits_env _ _ _, launch0.least_env, fairChoices_fair.cas, fairChoices_fair.clock, w_frames, w_args, w_heap, w_applies, ⟨w_consts, trivial⟩, w_rest, w_case⟩
end start1
theorem witness_1 : WitnessClaimed_1 := ⟨start1.p0, start1.e0, start1.about1, start1.theMethod, start1.args0, start1.below0, start1.atStart⟩
end Jvm.Pilot.@@N@@
