import JvmDerived
import JvmDerived.Pilot.@@N@@Statement
import JvmDerived.Pilot.@@N@@Code
set_option linter.unusedVariables false
set_option linter.unusedSimpArgs false
namespace Jvm.RoadKit
open Sem ClassFile Op Lib Jvm.Stand Jvm.Free Jvm.LawKit
section New
variable {p : Program} {l : Launch} {e : Env} {R : Room} {s : State} {m : MethodId} {args : Array Value} {below : List Frame} {meth : Method} {c : Code} {T : State} {locs : List Loc} {cells slots : Nat}
theorem retI (X : Stand p l e R s m args below meth c T locs cells slots) (hx : p.tables.exec = Jvm.exec) {pc : Nat} {Ls : Array Slot} {z : Int32} {rest : List Value} (hret : meth.sig.returnType = some .int) (hd : decode c.code pc = .ok (.ireturn, 1)) {fs : List Frame}
    (hl : ∀ (f : JFrame) (acts : List Action), f.method = m → f.locked = none → f.entered = [] → (doReturn e (T.setTop f) acts (some (.int z))).1 = T.setFrames fs) : Steps p.tables e below (T.setTop (mkF m pc Ls (.int z :: rest))) (T.setFrames fs) := by
  have hm' : T.vm.method? m = some meth := X.method'
  have hn : narrow .int (.int z) = .int z := rfl
  show Steps p.tables e below (T.setTop { method := m, pc := pc, locals := Ls, stack := _ :: rest, locked := none }) _
  jvm_step X.here [X.here.top, hx, hd, hm', hret, hn]
  first | (intro acts; rw [hl _ acts rfl rfl rfl]) | rw [hl _ _ rfl rfl rfl]
  exact Steps.refl _
/-- the run from U on ends as W says -/
def Onw (p : Program) (e : Env) (below : List Frame) (W : Outcome → State → Prop) (U : State) : Prop :=
  ∃ s₂ o, Steps p.tables e below U s₂ ∧ s₂.status = .running ∧ Ended s₂ below o ∧ W o s₂
theorem Onw.go {W : Outcome → State → Prop} {U U' : State} (h : ∀ t, Steps p.tables e below U' t → Steps p.tables e below U t) (k : Onw p e below W U') : Onw p e below W U := by
  obtain ⟨s₂, o, h1, h2⟩ := k
  exact ⟨s₂, o, h _ h1, h2⟩
theorem Onw.of {W : Outcome → State → Prop} {U : State} (k : Onw p e below W U) : ∃ s₂ o, Steps p.tables e below U s₂ ∧ s₂.status = .running ∧ Ended s₂ below o ∧ W o s₂ := k
/-- the end of a walk -/
theorem Onw.ret (X : Stand p l e R s m args below meth c T locs cells slots) (hlk : meth.locks = false) {U : State} {v : Option Value} (hv : meth.sig.returnType = none → v = none)
    (hs : ∀ fs, (∀ (f : JFrame) (acts : List Action), f.method = m → f.locked = none → f.entered = [] → (doReturn e (T.setTop f) acts v).1 = T.setFrames fs) → Steps p.tables e below U (T.setFrames fs))
    {Q : Option Value → Heap → List Loc → Prop} (hQ : Q v T.heap locs) {k n : Nat} (hk : cells ≤ k) (hn : slots ≤ n) :
    Onw p e below (fun o s₂ => ∃ v L, o = .returned v ∧ Q v s₂.heap L ∧ FrameEnd s o s₂ L k n) U := by
  obtain ⟨fs, hr, hrun, hended, hW, hsame⟩ := X.leave (v := v) hv hlk
  exact ⟨_, _, hs fs hr, hrun, hended, v, locs, rfl, hQ, ⟨_, rfl⟩, hW, hsame.mono hk hn⟩
/-- .. where Strings may have been interned -/
theorem Onw.retW {vm₁ : Vm} (X : Stand p l e R (s.setVm vm₁) m args below meth c T locs cells slots) {j : Nat} (hS : s.Since vm₁ j) (hj : j ≤ T.heap.size) (hlk : meth.locks = false) {U : State} {v : Option Value} (hv : meth.sig.returnType = none → v = none)
    (hs : ∀ fs, (∀ (f : JFrame) (acts : List Action), f.method = m → f.locked = none → f.entered = [] → (doReturn e (T.setTop f) acts v).1 = T.setFrames fs) → Steps p.tables e below U (T.setFrames fs))
    {Q : Option Value → Heap → List Loc → Prop} (hQ : Q v T.heap locs) {k n : Nat} (hk : cells ≤ k) (hn : slots ≤ n) :
    Onw p e below (fun o s₂ => ∃ v L, o = .returned v ∧ Q v s₂.heap L ∧ ReturnedEndW s o s₂ L k n) U := by
  obtain ⟨fs, hr, hrun, hended, hE⟩ := X.leaveW hS hj (v := v) hv hlk
  exact ⟨_, _, hs fs hr, hrun, hended, v, locs, rfl, hQ, hE.1, hE.2.1, hE.2.2.1, hE.2.2.2.mono hk hn⟩
end New
end Jvm.RoadKit
namespace Jvm.Pilot.@@N@@
open Jvm Jvm.ClassFile Sem Op Lib Jvm.Free Jvm.Stand Jvm.LawKit Jvm.RoadKit Bundle Jvm.Pilot.@@N@@.Jvm.D
theorem pd_0 : parseMethodDescriptor "(I)Lcom/example/callstone/callstone/SqlType$Category;" = some ⟨[.int], some (.object "com/example/callstone/callstone/SqlType$Category")⟩ := by decide +kernel
theorem pd_1 : parseMethodDescriptor "()Z" = some ⟨[], some .boolean⟩ := by decide +kernel
def own_pick (k : Int32) (cA cB cE cN cO cD cU : Addr) : Addr := if k = 0 then cA else if k = 1 then cB else if k = 2 then cE else if k = 3 then cN else if k = 4 then cO else if k = 5 then cD else cU
def own_cast (a b u : Addr) : Int32 := if a = b then 0 else if a = u then 0 else 1
theorem own_pick_cases (k : Int32) (cA cB cE cN cO cD cU : Addr) (r : Addr) (hr : r = own_pick k cA cB cE cN cO cD cU) : r = cA ∨ r = cB ∨ r = cE ∨ r = cN ∨ r = cO ∨ r = cD ∨ r = cU := by
  unfold own_pick at hr
  repeat' split at hr
  all_goals simp [hr]
theorem pn_0 : plainName "com/example/callstone/callstone/CategoryCastsThroughTextPinLaw" = true := by first | (simp [plainName, overriddenIn]; done) | decide +kernel
theorem ef_1 (m : MethodId) (x0 : Int32) : entryFrame m #[(.int x0)] 2 = mkF m 0 #[.val (.int x0), .unset] [] := by first | (simp [entryFrame, mkF, argsToLocals, Value.category]; done) | rfl
def Q_rm1 (Z : State) (p0 : Int32) (cA cB cE cN cO cD cU : Addr) (h0 : Heap) (n0 : Nat) (v : Option Value) (h : Heap) (L : List Loc) : Prop := v = some (.ref (own_pick p0 cA cB cE cN cO cD cU)) ∧ Fr n0 L ∧ h = h0
theorem d1_0 : decode method_3_code 0 = .ok (.iload_n 0, 1) := by decide +kernel
theorem d1_1 : decode method_3_code 1 = .ok (.ifCond .ne 10, 3) := by decide +kernel
theorem d1_4 : decode method_3_code 4 = .ok (.getstatic 14, 3) := by decide +kernel
theorem d1_7 : decode method_3_code 7 = .ok (.astore_n 1, 1) := by decide +kernel
theorem d1_8 : decode method_3_code 8 = .ok (.goto 67, 3) := by decide +kernel
theorem d1_11 : decode method_3_code 11 = .ok (.iload_n 0, 1) := by decide +kernel
theorem d1_12 : decode method_3_code 12 = .ok (.iconst 1, 1) := by decide +kernel
theorem d1_13 : decode method_3_code 13 = .ok (.if_icmp .ne 10, 3) := by decide +kernel
theorem d1_16 : decode method_3_code 16 = .ok (.getstatic 36, 3) := by decide +kernel
theorem d1_19 : decode method_3_code 19 = .ok (.astore_n 1, 1) := by decide +kernel
theorem d1_20 : decode method_3_code 20 = .ok (.goto 55, 3) := by decide +kernel
theorem d1_23 : decode method_3_code 23 = .ok (.iload_n 0, 1) := by decide +kernel
theorem d1_24 : decode method_3_code 24 = .ok (.iconst 2, 1) := by decide +kernel
theorem d1_25 : decode method_3_code 25 = .ok (.if_icmp .ne 10, 3) := by decide +kernel
theorem d1_28 : decode method_3_code 28 = .ok (.getstatic 20, 3) := by decide +kernel
theorem d1_31 : decode method_3_code 31 = .ok (.astore_n 1, 1) := by decide +kernel
theorem d1_32 : decode method_3_code 32 = .ok (.goto 43, 3) := by decide +kernel
theorem d1_35 : decode method_3_code 35 = .ok (.iload_n 0, 1) := by decide +kernel
theorem d1_36 : decode method_3_code 36 = .ok (.iconst 3, 1) := by decide +kernel
theorem d1_37 : decode method_3_code 37 = .ok (.if_icmp .ne 10, 3) := by decide +kernel
theorem d1_40 : decode method_3_code 40 = .ok (.getstatic 23, 3) := by decide +kernel
theorem d1_43 : decode method_3_code 43 = .ok (.astore_n 1, 1) := by decide +kernel
theorem d1_44 : decode method_3_code 44 = .ok (.goto 31, 3) := by decide +kernel
theorem d1_47 : decode method_3_code 47 = .ok (.iload_n 0, 1) := by decide +kernel
theorem d1_48 : decode method_3_code 48 = .ok (.iconst 4, 1) := by decide +kernel
theorem d1_49 : decode method_3_code 49 = .ok (.if_icmp .ne 10, 3) := by decide +kernel
theorem d1_52 : decode method_3_code 52 = .ok (.getstatic 26, 3) := by decide +kernel
theorem d1_55 : decode method_3_code 55 = .ok (.astore_n 1, 1) := by decide +kernel
theorem d1_56 : decode method_3_code 56 = .ok (.goto 19, 3) := by decide +kernel
theorem d1_59 : decode method_3_code 59 = .ok (.iload_n 0, 1) := by decide +kernel
theorem d1_60 : decode method_3_code 60 = .ok (.iconst 5, 1) := by decide +kernel
theorem d1_61 : decode method_3_code 61 = .ok (.if_icmp .ne 10, 3) := by decide +kernel
theorem d1_64 : decode method_3_code 64 = .ok (.getstatic 29, 3) := by decide +kernel
theorem d1_67 : decode method_3_code 67 = .ok (.astore_n 1, 1) := by decide +kernel
theorem d1_68 : decode method_3_code 68 = .ok (.goto 7, 3) := by decide +kernel
theorem d1_71 : decode method_3_code 71 = .ok (.getstatic 39, 3) := by decide +kernel
theorem d1_74 : decode method_3_code 74 = .ok (.astore_n 1, 1) := by decide +kernel
theorem d1_75 : decode method_3_code 75 = .ok (.aload_n 1, 1) := by decide +kernel
theorem d1_76 : decode method_3_code 76 = .ok (.areturn, 1) := by decide +kernel
set_option maxRecDepth 65536 in
set_option maxHeartbeats 40000000 in
theorem rm1 (l : Launch) (Z : State) (a0 : Array Value) (hw : ∀ d ∈ tables_1, d.before a0 Z = true) (ws : List Jvm.Cond) (p0 : Int32) (cA cB cE cN cO cD cU : Addr) (h0 : Heap) (n0 : Nat) (S_cA : Sta Z h0 "com/example/callstone/callstone/SqlType$Category" "CHARACTER_STRING" "Lcom/example/callstone/callstone/SqlType$Category;" (.ref cA)) (S_cB : Sta Z h0 "com/example/callstone/callstone/SqlType$Category" "BINARY_STRING" "Lcom/example/callstone/callstone/SqlType$Category;" (.ref cB)) (S_cE : Sta Z h0 "com/example/callstone/callstone/SqlType$Category" "EXACT_NUMERIC" "Lcom/example/callstone/callstone/SqlType$Category;" (.ref cE)) (S_cN : Sta Z h0 "com/example/callstone/callstone/SqlType$Category" "APPROXIMATE_NUMERIC" "Lcom/example/callstone/callstone/SqlType$Category;" (.ref cN)) (S_cO : Sta Z h0 "com/example/callstone/callstone/SqlType$Category" "BOOLEAN" "Lcom/example/callstone/callstone/SqlType$Category;" (.ref cO)) (S_cD : Sta Z h0 "com/example/callstone/callstone/SqlType$Category" "DATETIME" "Lcom/example/callstone/callstone/SqlType$Category;" (.ref cD)) (S_cU : Sta Z h0 "com/example/callstone/callstone/SqlType$Category" "USER_DEFINED" "Lcom/example/callstone/callstone/SqlType$Category;" (.ref cU)) :
    MetFree l (⟨"com/example/callstone/callstone/CategoryCastsThroughTextPinLaw", "pick", "(I)Lcom/example/callstone/callstone/SqlType$Category;"⟩ : MethodName) (head1 (Jvm.Cond.code (⟨"com/example/callstone/callstone/CategoryCastsThroughTextPinLaw", "pick", "(I)Lcom/example/callstone/callstone/SqlType$Category;"⟩ : MethodName) method_3_code 2 (some (.object "com/example/callstone/callstone/SqlType$Category")) :: ws) ({ frames := 0, cells := 0, slots := 0, locals := 0 } : Room)) (fun a U => a = #[(.int p0)] ∧ Z.Warmed39 U.vm ∧ U.heap = h0) (fun _ _ _ _ _ => True) (fun _ U o U' => ∃ v L, o = .returned v ∧ Q_rm1 Z p0 cA cB cE cN cO cD cU h0 n0 v U'.heap L ∧ FrameEnd U o U' L ({ frames := 0, cells := 0, slots := 0, locals := 0 } : Room).cells ({ frames := 0, cells := 0, slots := 0, locals := 0 } : Room).slots) := by
  refine MetFree.of_bodySF (plainFor_of_name pn_0) hisR ?_
  intro p e s m args below meth c s₁ Bd hml0 hP hK
  obtain ⟨rfl, hZ, hh⟩ := hP
  have hx := Bd.exec
  have hby := Bd.bytes
  have hml : c.maxLocals = 2 := hml0
  have hown : s.vm.findClass "com/example/callstone/callstone/CategoryCastsThroughTextPinLaw" = some m.cls := findClass_of_methodNamed Bd.named
  have hnm := (name_of_methodNamed Bd.named Bd.method).1
  have X0 : Stand p l e ({ frames := 0, cells := 0, slots := 0, locals := 0 } : Room) s m #[(.int p0)] below meth c s₁ [] 0 0 := Stand.of_body Bd
  have e0 : s₁.heap = h0 := by rw [← hh, Bd.state]; rfl
  have N0 := Fr.nil n0
  refine Onw.of (Onw.go (fun own_u k => castTop (ef_1 m p0) k) ?_)
  show Onw p e below _ (s₁.setTop (mkF m 0 #[.val (.int p0), .unset] []))
  refine Onw.go (fun own_u kt => XS.iloadN X0.here hx rfl (hb hby d1_0) rfl kt) ?_
  show Onw p e below _ (s₁.setTop (mkF m 1 #[.val (.int p0), .unset] [(.int p0)]))
  by_cases h0 : p0 = (0 : Int32)
  · refine Onw.go (fun own_u kt => XS.ifNo X0.here hx rfl (hb hby d1_1) rfl ((if0 _ _).trans (teq (h0 : p0 = (0 : Int32))).2) kt) ?_
    show Onw p e below _ (s₁.setTop (mkF m 4 #[.val (.int p0), .unset] []))
    obtain ⟨T1, X1, e1, st1⟩ := getS2 X0 hx hZ hown (host := "") (Or.inl (hw _ (List.mem_of_getElem? (i := 5) rfl))) Via.refl e0 S_cA (g := (mkF m 4 #[.val (.int p0), .unset] [])) rfl (hb hby d1_4)
    refine Onw.go st1 ?_
    show Onw p e below _ (T1.setTop (mkF m 7 #[.val (.int p0), .unset] [(.ref cA)]))
    refine Onw.go (fun own_u kt => XS.astoreN X1.here hx rfl (hb hby d1_7) rfl rfl (l' := #[.val (.int p0), .val (.ref cA)]) rfl kt) ?_
    show Onw p e below _ (T1.setTop (mkF m 8 #[.val (.int p0), .val (.ref cA)] []))
    refine Onw.go (fun own_u kt => XS.goto X1.here hx rfl (pc0 := 8) (pc' := 75) rfl (hb hby d1_8) (by decide) (by decide) kt) ?_
    show Onw p e below _ (T1.setTop (mkF m 75 #[.val (.int p0), .val (.ref cA)] []))
    refine Onw.go (fun own_u kt => XS.aloadN X1.here hx rfl (hb hby d1_75) rfl rfl kt) ?_
    show Onw p e below _ (T1.setTop (mkF m 76 #[.val (.int p0), .val (.ref cA)] [(.ref cA)]))
    exact Onw.ret X1 Bd.notSynchronized (fun h => by rw [Bd.returns] at h; cases h) (fun fs hr => X1.areturnOut hx rfl Bd.returns rfl (hb hby d1_76) hr) ⟨(by show some (Value.ref cA) = some (Value.ref (own_pick _ _ _ _ _ _ _ _)); unfold own_pick; rw [if_pos h0]), N0, e1⟩ (by decide) (by decide)
  · refine Onw.go (fun own_u kt => XS.ifYes X0.here hx rfl (pc0 := 1) (pc' := 11) rfl (hb hby d1_1) rfl ((if0 _ _).trans (feq (h0 : ¬ (p0 = (0 : Int32)))).2) (by decide) (by decide) kt) ?_
    show Onw p e below _ (s₁.setTop (mkF m 11 #[.val (.int p0), .unset] []))
    refine Onw.go (fun own_u kt => XS.iloadN X0.here hx rfl (hb hby d1_11) rfl kt) ?_
    show Onw p e below _ (s₁.setTop (mkF m 12 #[.val (.int p0), .unset] [(.int p0)]))
    refine Onw.go (fun own_u kt => XS.iconst X0.here hx rfl (hb hby d1_12) kt) ?_
    show Onw p e below _ (s₁.setTop (mkF m 13 #[.val (.int p0), .unset] [(.int (1 : Int32)), (.int p0)]))
    by_cases h1 : p0 = (1 : Int32)
    · refine Onw.go (fun own_u kt => XS.icmpNo X0.here hx rfl (hb hby d1_13) rfl (teq (h1 : p0 = (1 : Int32))).2 kt) ?_
      show Onw p e below _ (s₁.setTop (mkF m 16 #[.val (.int p0), .unset] []))
      obtain ⟨T2, X2, e2, st2⟩ := getS2 X0 hx hZ hown (host := "") (Or.inl (hw _ (List.mem_of_getElem? (i := 26) rfl))) Via.refl e0 S_cB (g := (mkF m 16 #[.val (.int p0), .unset] [])) rfl (hb hby d1_16)
      refine Onw.go st2 ?_
      show Onw p e below _ (T2.setTop (mkF m 19 #[.val (.int p0), .unset] [(.ref cB)]))
      refine Onw.go (fun own_u kt => XS.astoreN X2.here hx rfl (hb hby d1_19) rfl rfl (l' := #[.val (.int p0), .val (.ref cB)]) rfl kt) ?_
      show Onw p e below _ (T2.setTop (mkF m 20 #[.val (.int p0), .val (.ref cB)] []))
      refine Onw.go (fun own_u kt => XS.goto X2.here hx rfl (pc0 := 20) (pc' := 75) rfl (hb hby d1_20) (by decide) (by decide) kt) ?_
      show Onw p e below _ (T2.setTop (mkF m 75 #[.val (.int p0), .val (.ref cB)] []))
      refine Onw.go (fun own_u kt => XS.aloadN X2.here hx rfl (hb hby d1_75) rfl rfl kt) ?_
      show Onw p e below _ (T2.setTop (mkF m 76 #[.val (.int p0), .val (.ref cB)] [(.ref cB)]))
      exact Onw.ret X2 Bd.notSynchronized (fun h => by rw [Bd.returns] at h; cases h) (fun fs hr => X2.areturnOut hx rfl Bd.returns rfl (hb hby d1_76) hr) ⟨(by show some (Value.ref cB) = some (Value.ref (own_pick _ _ _ _ _ _ _ _)); unfold own_pick; rw [if_neg h0, if_pos h1]), N0, e2⟩ (by decide) (by decide)
    · refine Onw.go (fun own_u kt => XS.icmpYes X0.here hx rfl (pc0 := 13) (pc' := 23) rfl (hb hby d1_13) rfl (feq (h1 : ¬ (p0 = (1 : Int32)))).2 (by decide) (by decide) kt) ?_
      show Onw p e below _ (s₁.setTop (mkF m 23 #[.val (.int p0), .unset] []))
      refine Onw.go (fun own_u kt => XS.iloadN X0.here hx rfl (hb hby d1_23) rfl kt) ?_
      show Onw p e below _ (s₁.setTop (mkF m 24 #[.val (.int p0), .unset] [(.int p0)]))
      refine Onw.go (fun own_u kt => XS.iconst X0.here hx rfl (hb hby d1_24) kt) ?_
      show Onw p e below _ (s₁.setTop (mkF m 25 #[.val (.int p0), .unset] [(.int (2 : Int32)), (.int p0)]))
      by_cases h2 : p0 = (2 : Int32)
      · refine Onw.go (fun own_u kt => XS.icmpNo X0.here hx rfl (hb hby d1_25) rfl (teq (h2 : p0 = (2 : Int32))).2 kt) ?_
        show Onw p e below _ (s₁.setTop (mkF m 28 #[.val (.int p0), .unset] []))
        obtain ⟨T3, X3, e3, st3⟩ := getS2 X0 hx hZ hown (host := "") (Or.inl (hw _ (List.mem_of_getElem? (i := 19) rfl))) Via.refl e0 S_cE (g := (mkF m 28 #[.val (.int p0), .unset] [])) rfl (hb hby d1_28)
        refine Onw.go st3 ?_
        show Onw p e below _ (T3.setTop (mkF m 31 #[.val (.int p0), .unset] [(.ref cE)]))
        refine Onw.go (fun own_u kt => XS.astoreN X3.here hx rfl (hb hby d1_31) rfl rfl (l' := #[.val (.int p0), .val (.ref cE)]) rfl kt) ?_
        show Onw p e below _ (T3.setTop (mkF m 32 #[.val (.int p0), .val (.ref cE)] []))
        refine Onw.go (fun own_u kt => XS.goto X3.here hx rfl (pc0 := 32) (pc' := 75) rfl (hb hby d1_32) (by decide) (by decide) kt) ?_
        show Onw p e below _ (T3.setTop (mkF m 75 #[.val (.int p0), .val (.ref cE)] []))
        refine Onw.go (fun own_u kt => XS.aloadN X3.here hx rfl (hb hby d1_75) rfl rfl kt) ?_
        show Onw p e below _ (T3.setTop (mkF m 76 #[.val (.int p0), .val (.ref cE)] [(.ref cE)]))
        exact Onw.ret X3 Bd.notSynchronized (fun h => by rw [Bd.returns] at h; cases h) (fun fs hr => X3.areturnOut hx rfl Bd.returns rfl (hb hby d1_76) hr) ⟨(by show some (Value.ref cE) = some (Value.ref (own_pick _ _ _ _ _ _ _ _)); unfold own_pick; rw [if_neg h0, if_neg h1, if_pos h2]), N0, e3⟩ (by decide) (by decide)
      · refine Onw.go (fun own_u kt => XS.icmpYes X0.here hx rfl (pc0 := 25) (pc' := 35) rfl (hb hby d1_25) rfl (feq (h2 : ¬ (p0 = (2 : Int32)))).2 (by decide) (by decide) kt) ?_
        show Onw p e below _ (s₁.setTop (mkF m 35 #[.val (.int p0), .unset] []))
        refine Onw.go (fun own_u kt => XS.iloadN X0.here hx rfl (hb hby d1_35) rfl kt) ?_
        show Onw p e below _ (s₁.setTop (mkF m 36 #[.val (.int p0), .unset] [(.int p0)]))
        refine Onw.go (fun own_u kt => XS.iconst X0.here hx rfl (hb hby d1_36) kt) ?_
        show Onw p e below _ (s₁.setTop (mkF m 37 #[.val (.int p0), .unset] [(.int (3 : Int32)), (.int p0)]))
        by_cases h3 : p0 = (3 : Int32)
        · refine Onw.go (fun own_u kt => XS.icmpNo X0.here hx rfl (hb hby d1_37) rfl (teq (h3 : p0 = (3 : Int32))).2 kt) ?_
          show Onw p e below _ (s₁.setTop (mkF m 40 #[.val (.int p0), .unset] []))
          obtain ⟨T4, X4, e4, st4⟩ := getS2 X0 hx hZ hown (host := "") (Or.inl (hw _ (List.mem_of_getElem? (i := 17) rfl))) Via.refl e0 S_cN (g := (mkF m 40 #[.val (.int p0), .unset] [])) rfl (hb hby d1_40)
          refine Onw.go st4 ?_
          show Onw p e below _ (T4.setTop (mkF m 43 #[.val (.int p0), .unset] [(.ref cN)]))
          refine Onw.go (fun own_u kt => XS.astoreN X4.here hx rfl (hb hby d1_43) rfl rfl (l' := #[.val (.int p0), .val (.ref cN)]) rfl kt) ?_
          show Onw p e below _ (T4.setTop (mkF m 44 #[.val (.int p0), .val (.ref cN)] []))
          refine Onw.go (fun own_u kt => XS.goto X4.here hx rfl (pc0 := 44) (pc' := 75) rfl (hb hby d1_44) (by decide) (by decide) kt) ?_
          show Onw p e below _ (T4.setTop (mkF m 75 #[.val (.int p0), .val (.ref cN)] []))
          refine Onw.go (fun own_u kt => XS.aloadN X4.here hx rfl (hb hby d1_75) rfl rfl kt) ?_
          show Onw p e below _ (T4.setTop (mkF m 76 #[.val (.int p0), .val (.ref cN)] [(.ref cN)]))
          exact Onw.ret X4 Bd.notSynchronized (fun h => by rw [Bd.returns] at h; cases h) (fun fs hr => X4.areturnOut hx rfl Bd.returns rfl (hb hby d1_76) hr) ⟨(by show some (Value.ref cN) = some (Value.ref (own_pick _ _ _ _ _ _ _ _)); unfold own_pick; rw [if_neg h0, if_neg h1, if_neg h2, if_pos h3]), N0, e4⟩ (by decide) (by decide)
        · refine Onw.go (fun own_u kt => XS.icmpYes X0.here hx rfl (pc0 := 37) (pc' := 47) rfl (hb hby d1_37) rfl (feq (h3 : ¬ (p0 = (3 : Int32)))).2 (by decide) (by decide) kt) ?_
          show Onw p e below _ (s₁.setTop (mkF m 47 #[.val (.int p0), .unset] []))
          refine Onw.go (fun own_u kt => XS.iloadN X0.here hx rfl (hb hby d1_47) rfl kt) ?_
          show Onw p e below _ (s₁.setTop (mkF m 48 #[.val (.int p0), .unset] [(.int p0)]))
          refine Onw.go (fun own_u kt => XS.iconst X0.here hx rfl (hb hby d1_48) kt) ?_
          show Onw p e below _ (s₁.setTop (mkF m 49 #[.val (.int p0), .unset] [(.int (4 : Int32)), (.int p0)]))
          by_cases h4 : p0 = (4 : Int32)
          · refine Onw.go (fun own_u kt => XS.icmpNo X0.here hx rfl (hb hby d1_49) rfl (teq (h4 : p0 = (4 : Int32))).2 kt) ?_
            show Onw p e below _ (s₁.setTop (mkF m 52 #[.val (.int p0), .unset] []))
            obtain ⟨T5, X5, e5, st5⟩ := getS2 X0 hx hZ hown (host := "") (Or.inl (hw _ (List.mem_of_getElem? (i := 23) rfl))) Via.refl e0 S_cO (g := (mkF m 52 #[.val (.int p0), .unset] [])) rfl (hb hby d1_52)
            refine Onw.go st5 ?_
            show Onw p e below _ (T5.setTop (mkF m 55 #[.val (.int p0), .unset] [(.ref cO)]))
            refine Onw.go (fun own_u kt => XS.astoreN X5.here hx rfl (hb hby d1_55) rfl rfl (l' := #[.val (.int p0), .val (.ref cO)]) rfl kt) ?_
            show Onw p e below _ (T5.setTop (mkF m 56 #[.val (.int p0), .val (.ref cO)] []))
            refine Onw.go (fun own_u kt => XS.goto X5.here hx rfl (pc0 := 56) (pc' := 75) rfl (hb hby d1_56) (by decide) (by decide) kt) ?_
            show Onw p e below _ (T5.setTop (mkF m 75 #[.val (.int p0), .val (.ref cO)] []))
            refine Onw.go (fun own_u kt => XS.aloadN X5.here hx rfl (hb hby d1_75) rfl rfl kt) ?_
            show Onw p e below _ (T5.setTop (mkF m 76 #[.val (.int p0), .val (.ref cO)] [(.ref cO)]))
            exact Onw.ret X5 Bd.notSynchronized (fun h => by rw [Bd.returns] at h; cases h) (fun fs hr => X5.areturnOut hx rfl Bd.returns rfl (hb hby d1_76) hr) ⟨(by show some (Value.ref cO) = some (Value.ref (own_pick _ _ _ _ _ _ _ _)); unfold own_pick; rw [if_neg h0, if_neg h1, if_neg h2, if_neg h3, if_pos h4]), N0, e5⟩ (by decide) (by decide)
          · refine Onw.go (fun own_u kt => XS.icmpYes X0.here hx rfl (pc0 := 49) (pc' := 59) rfl (hb hby d1_49) rfl (feq (h4 : ¬ (p0 = (4 : Int32)))).2 (by decide) (by decide) kt) ?_
            show Onw p e below _ (s₁.setTop (mkF m 59 #[.val (.int p0), .unset] []))
            refine Onw.go (fun own_u kt => XS.iloadN X0.here hx rfl (hb hby d1_59) rfl kt) ?_
            show Onw p e below _ (s₁.setTop (mkF m 60 #[.val (.int p0), .unset] [(.int p0)]))
            refine Onw.go (fun own_u kt => XS.iconst X0.here hx rfl (hb hby d1_60) kt) ?_
            show Onw p e below _ (s₁.setTop (mkF m 61 #[.val (.int p0), .unset] [(.int (5 : Int32)), (.int p0)]))
            by_cases h5 : p0 = (5 : Int32)
            · refine Onw.go (fun own_u kt => XS.icmpNo X0.here hx rfl (hb hby d1_61) rfl (teq (h5 : p0 = (5 : Int32))).2 kt) ?_
              show Onw p e below _ (s₁.setTop (mkF m 64 #[.val (.int p0), .unset] []))
              obtain ⟨T6, X6, e6, st6⟩ := getS2 X0 hx hZ hown (host := "") (Or.inl (hw _ (List.mem_of_getElem? (i := 21) rfl))) Via.refl e0 S_cD (g := (mkF m 64 #[.val (.int p0), .unset] [])) rfl (hb hby d1_64)
              refine Onw.go st6 ?_
              show Onw p e below _ (T6.setTop (mkF m 67 #[.val (.int p0), .unset] [(.ref cD)]))
              refine Onw.go (fun own_u kt => XS.astoreN X6.here hx rfl (hb hby d1_67) rfl rfl (l' := #[.val (.int p0), .val (.ref cD)]) rfl kt) ?_
              show Onw p e below _ (T6.setTop (mkF m 68 #[.val (.int p0), .val (.ref cD)] []))
              refine Onw.go (fun own_u kt => XS.goto X6.here hx rfl (pc0 := 68) (pc' := 75) rfl (hb hby d1_68) (by decide) (by decide) kt) ?_
              show Onw p e below _ (T6.setTop (mkF m 75 #[.val (.int p0), .val (.ref cD)] []))
              refine Onw.go (fun own_u kt => XS.aloadN X6.here hx rfl (hb hby d1_75) rfl rfl kt) ?_
              show Onw p e below _ (T6.setTop (mkF m 76 #[.val (.int p0), .val (.ref cD)] [(.ref cD)]))
              exact Onw.ret X6 Bd.notSynchronized (fun h => by rw [Bd.returns] at h; cases h) (fun fs hr => X6.areturnOut hx rfl Bd.returns rfl (hb hby d1_76) hr) ⟨(by show some (Value.ref cD) = some (Value.ref (own_pick _ _ _ _ _ _ _ _)); unfold own_pick; rw [if_neg h0, if_neg h1, if_neg h2, if_neg h3, if_neg h4, if_pos h5]), N0, e6⟩ (by decide) (by decide)
            · refine Onw.go (fun own_u kt => XS.icmpYes X0.here hx rfl (pc0 := 61) (pc' := 71) rfl (hb hby d1_61) rfl (feq (h5 : ¬ (p0 = (5 : Int32)))).2 (by decide) (by decide) kt) ?_
              show Onw p e below _ (s₁.setTop (mkF m 71 #[.val (.int p0), .unset] []))
              obtain ⟨T7, X7, e7, st7⟩ := getS2 X0 hx hZ hown (host := "") (Or.inl (hw _ (List.mem_of_getElem? (i := 25) rfl))) Via.refl e0 S_cU (g := (mkF m 71 #[.val (.int p0), .unset] [])) rfl (hb hby d1_71)
              refine Onw.go st7 ?_
              show Onw p e below _ (T7.setTop (mkF m 74 #[.val (.int p0), .unset] [(.ref cU)]))
              refine Onw.go (fun own_u kt => XS.astoreN X7.here hx rfl (hb hby d1_74) rfl rfl (l' := #[.val (.int p0), .val (.ref cU)]) rfl kt) ?_
              show Onw p e below _ (T7.setTop (mkF m 75 #[.val (.int p0), .val (.ref cU)] []))
              refine Onw.go (fun own_u kt => XS.aloadN X7.here hx rfl (hb hby d1_75) rfl rfl kt) ?_
              show Onw p e below _ (T7.setTop (mkF m 76 #[.val (.int p0), .val (.ref cU)] [(.ref cU)]))
              exact Onw.ret X7 Bd.notSynchronized (fun h => by rw [Bd.returns] at h; cases h) (fun fs hr => X7.areturnOut hx rfl Bd.returns rfl (hb hby d1_76) hr) ⟨(by show some (Value.ref cU) = some (Value.ref (own_pick _ _ _ _ _ _ _ _)); unfold own_pick; rw [if_neg h0, if_neg h1, if_neg h2, if_neg h3, if_neg h4, if_neg h5]), N0, e7⟩ (by decide) (by decide)
theorem pn_1 : plainName "com/example/callstone/callstone/SqlType$Category" = true := by first | (simp [plainName, overriddenIn]; done) | decide +kernel
theorem ef_2 (m : MethodId) (x0 : Addr) : entryFrame m #[(.ref x0)] 1 = mkF m 0 #[.val (.ref x0)] [] := by first | (simp [entryFrame, mkF, argsToLocals, Value.category]; done) | rfl
def Q_rm2 (Z : State) (rA : Addr) (cB cU : Addr) (h0 : Heap) (n0 : Nat) (v : Option Value) (h : Heap) (L : List Loc) : Prop := v = some (.int (own_cast rA cB cU)) ∧ Fr n0 L ∧ h = h0
theorem d2_0 : decode prog_204_method_6_code 0 = .ok (.aload_n 0, 1) := by decide +kernel
theorem d2_1 : decode prog_204_method_6_code 1 = .ok (.getstatic 7, 3) := by decide +kernel
theorem d2_4 : decode prog_204_method_6_code 4 = .ok (.if_acmp .eq 14, 3) := by decide +kernel
theorem d2_7 : decode prog_204_method_6_code 7 = .ok (.aload_n 0, 1) := by decide +kernel
theorem d2_8 : decode prog_204_method_6_code 8 = .ok (.getstatic 22, 3) := by decide +kernel
theorem d2_11 : decode prog_204_method_6_code 11 = .ok (.if_acmp .eq 7, 3) := by decide +kernel
theorem d2_14 : decode prog_204_method_6_code 14 = .ok (.iconst 1, 1) := by decide +kernel
theorem d2_15 : decode prog_204_method_6_code 15 = .ok (.goto 4, 3) := by decide +kernel
theorem d2_18 : decode prog_204_method_6_code 18 = .ok (.iconst 0, 1) := by decide +kernel
theorem d2_19 : decode prog_204_method_6_code 19 = .ok (.ireturn, 1) := by decide +kernel
set_option maxRecDepth 65536 in
set_option maxHeartbeats 40000000 in
theorem rm2 (l : Launch) (Z : State) (a0 : Array Value) (hw : ∀ d ∈ tables_1, d.before a0 Z = true) (ws : List Jvm.Cond) (rA : Addr) (cB cU : Addr) (h0 : Heap) (n0 : Nat) (S_cB : Sta Z h0 "com/example/callstone/callstone/SqlType$Category" "BINARY_STRING" "Lcom/example/callstone/callstone/SqlType$Category;" (.ref cB)) (S_cU : Sta Z h0 "com/example/callstone/callstone/SqlType$Category" "USER_DEFINED" "Lcom/example/callstone/callstone/SqlType$Category;" (.ref cU)) :
    MetFree l (⟨"com/example/callstone/callstone/SqlType$Category", "castsThroughText", "()Z"⟩ : MethodName) (head1 (Jvm.Cond.code (⟨"com/example/callstone/callstone/SqlType$Category", "castsThroughText", "()Z"⟩ : MethodName) prog_204_method_6_code 1 (some .boolean) :: ws) ({ frames := 0, cells := 0, slots := 0, locals := 0 } : Room)) (fun a U => a = #[(.ref rA)] ∧ Z.Warmed39 U.vm ∧ U.heap = h0) (fun _ _ _ _ _ => True) (fun _ U o U' => ∃ v L, o = .returned v ∧ Q_rm2 Z rA cB cU h0 n0 v U'.heap L ∧ FrameEnd U o U' L ({ frames := 0, cells := 0, slots := 0, locals := 0 } : Room).cells ({ frames := 0, cells := 0, slots := 0, locals := 0 } : Room).slots) := by
  refine MetFree.of_bodySF (plainFor_of_name pn_1) hisR ?_
  intro p e s m args below meth c s₁ Bd hml0 hP hK
  obtain ⟨rfl, hZ, hh⟩ := hP
  have hx := Bd.exec
  have hby := Bd.bytes
  have hml : c.maxLocals = 1 := hml0
  have hown : s.vm.findClass "com/example/callstone/callstone/SqlType$Category" = some m.cls := findClass_of_methodNamed Bd.named
  have hnm := (name_of_methodNamed Bd.named Bd.method).1
  have X0 : Stand p l e ({ frames := 0, cells := 0, slots := 0, locals := 0 } : Room) s m #[(.ref rA)] below meth c s₁ [] 0 0 := Stand.of_body Bd
  have e0 : s₁.heap = h0 := by rw [← hh, Bd.state]; rfl
  have N0 := Fr.nil n0
  refine Onw.of (Onw.go (fun own_u k => castTop (ef_2 m rA) k) ?_)
  show Onw p e below _ (s₁.setTop (mkF m 0 #[.val (.ref rA)] []))
  refine Onw.go (fun own_u kt => XS.aloadN X0.here hx rfl (hb hby d2_0) rfl rfl kt) ?_
  show Onw p e below _ (s₁.setTop (mkF m 1 #[.val (.ref rA)] [(.ref rA)]))
  obtain ⟨T1, X1, e1, st1⟩ := getS2 X0 hx hZ hown (host := "") (Or.inl (hw _ (List.mem_of_getElem? (i := 13) rfl))) Via.refl e0 S_cB (g := (mkF m 1 #[.val (.ref rA)] [(.ref rA)])) rfl (hb hby d2_1)
  refine Onw.go st1 ?_
  show Onw p e below _ (T1.setTop (mkF m 4 #[.val (.ref rA)] [(.ref cB), (.ref rA)]))
  by_cases hb1 : rA = cB
  · refine Onw.go (fun own_u kt => Jvm.RoadKit.acmp (g := (mkF m 4 #[.val (.ref rA)] [(.ref cB), (.ref rA)])) X1 hx rfl rfl rfl (pc0 := 4) (pc' := 18) (same := true) rfl (hb hby d2_4) rfl (decide_eq_true (congrArg Value.ref (hb1 : rA = cB))) (by decide) (by decide) kt) ?_
    show Onw p e below _ (T1.setTop (mkF m 18 #[.val (.ref rA)] []))
    refine Onw.go (fun own_u kt => XS.iconst X1.here hx rfl (hb hby d2_18) kt) ?_
    show Onw p e below _ (T1.setTop (mkF m 19 #[.val (.ref rA)] [(.int (0 : Int32))]))
    exact Onw.ret X1 Bd.notSynchronized (fun h => by rw [Bd.returns] at h; cases h) (fun fs hr => retN X1 hx (t := .boolean) Bd.returns (by simp) (hb hby d2_19) hr) ⟨(by show some (Value.int (nar .boolean 0)) = some (Value.int (own_cast _ _ _)); unfold own_cast; rw [if_pos hb1]; rfl), N0, e1⟩ (by decide) (by decide)
  · refine Onw.go (fun own_u kt => Jvm.RoadKit.acmp (g := (mkF m 4 #[.val (.ref rA)] [(.ref cB), (.ref rA)])) X1 hx rfl rfl rfl (pc0 := 4) (pc' := 7) (same := false) rfl (hb hby d2_4) rfl (decide_eq_false fun q => (hb1 : ¬ (rA = cB)) (Value.ref.inj q)) (by decide) (by decide) kt) ?_
    show Onw p e below _ (T1.setTop (mkF m 7 #[.val (.ref rA)] []))
    refine Onw.go (fun own_u kt => XS.aloadN X1.here hx rfl (hb hby d2_7) rfl rfl kt) ?_
    show Onw p e below _ (T1.setTop (mkF m 8 #[.val (.ref rA)] [(.ref rA)]))
    obtain ⟨T2, X2, e2, st2⟩ := getS2 X1 hx hZ hown (host := "") (Or.inl (hw _ (List.mem_of_getElem? (i := 15) rfl))) Via.refl e1 S_cU (g := (mkF m 8 #[.val (.ref rA)] [(.ref rA)])) rfl (hb hby d2_8)
    refine Onw.go st2 ?_
    show Onw p e below _ (T2.setTop (mkF m 11 #[.val (.ref rA)] [(.ref cU), (.ref rA)]))
    by_cases hb2 : rA = cU
    · refine Onw.go (fun own_u kt => Jvm.RoadKit.acmp (g := (mkF m 11 #[.val (.ref rA)] [(.ref cU), (.ref rA)])) X2 hx rfl rfl rfl (pc0 := 11) (pc' := 18) (same := true) rfl (hb hby d2_11) rfl (decide_eq_true (congrArg Value.ref (hb2 : rA = cU))) (by decide) (by decide) kt) ?_
      show Onw p e below _ (T2.setTop (mkF m 18 #[.val (.ref rA)] []))
      refine Onw.go (fun own_u kt => XS.iconst X2.here hx rfl (hb hby d2_18) kt) ?_
      show Onw p e below _ (T2.setTop (mkF m 19 #[.val (.ref rA)] [(.int (0 : Int32))]))
      exact Onw.ret X2 Bd.notSynchronized (fun h => by rw [Bd.returns] at h; cases h) (fun fs hr => retN X2 hx (t := .boolean) Bd.returns (by simp) (hb hby d2_19) hr) ⟨(by show some (Value.int (nar .boolean 0)) = some (Value.int (own_cast _ _ _)); unfold own_cast; rw [if_neg hb1, if_pos hb2]; rfl), N0, e2⟩ (by decide) (by decide)
    · refine Onw.go (fun own_u kt => Jvm.RoadKit.acmp (g := (mkF m 11 #[.val (.ref rA)] [(.ref cU), (.ref rA)])) X2 hx rfl rfl rfl (pc0 := 11) (pc' := 14) (same := false) rfl (hb hby d2_11) rfl (decide_eq_false fun q => (hb2 : ¬ (rA = cU)) (Value.ref.inj q)) (by decide) (by decide) kt) ?_
      show Onw p e below _ (T2.setTop (mkF m 14 #[.val (.ref rA)] []))
      refine Onw.go (fun own_u kt => XS.iconst X2.here hx rfl (hb hby d2_14) kt) ?_
      show Onw p e below _ (T2.setTop (mkF m 15 #[.val (.ref rA)] [(.int (1 : Int32))]))
      refine Onw.go (fun own_u kt => XS.goto X2.here hx rfl (pc0 := 15) (pc' := 19) rfl (hb hby d2_15) (by decide) (by decide) kt) ?_
      show Onw p e below _ (T2.setTop (mkF m 19 #[.val (.ref rA)] [(.int (1 : Int32))]))
      exact Onw.ret X2 Bd.notSynchronized (fun h => by rw [Bd.returns] at h; cases h) (fun fs hr => retN X2 hx (t := .boolean) Bd.returns (by simp) (hb hby d2_19) hr) ⟨(by show some (Value.int (nar .boolean 1)) = some (Value.int (own_cast _ _ _)); unfold own_cast; rw [if_neg hb1, if_neg hb2]; rfl), N0, e2⟩ (by decide) (by decide)
theorem ef_0 (m : MethodId) (x0 : Int32) : entryFrame m #[(.int x0)] maxLocals = mkF m 0 #[.val (.int x0), .unset, .unset, .unset] [] := by first | (simp [entryFrame, mkF, argsToLocals, Value.category, maxLocals]; done) | rfl
def Q_rm0 (Z : State) (p0 : Int32) (cA cB cE cN cO cD cU : Addr) (h0 : Heap) (n0 : Nat) (v : Option Value) (h : Heap) (L : List Loc) : Prop := v = some (.int (1 : Int32)) ∧ Fr n0 L
set_option maxRecDepth 65536 in
set_option maxHeartbeats 40000000 in
theorem rm0 (l : Launch) (Z : State) (a0 : Array Value) (hw : ∀ d ∈ tables_1, d.before a0 Z = true) (ws : List Jvm.Cond) (p0 : Int32) (cA cB cE cN cO cD cU : Addr) (h0 : Heap) (n0 : Nat) (S_cA : Sta Z h0 "com/example/callstone/callstone/SqlType$Category" "CHARACTER_STRING" "Lcom/example/callstone/callstone/SqlType$Category;" (.ref cA)) (S_cB : Sta Z h0 "com/example/callstone/callstone/SqlType$Category" "BINARY_STRING" "Lcom/example/callstone/callstone/SqlType$Category;" (.ref cB)) (S_cE : Sta Z h0 "com/example/callstone/callstone/SqlType$Category" "EXACT_NUMERIC" "Lcom/example/callstone/callstone/SqlType$Category;" (.ref cE)) (S_cN : Sta Z h0 "com/example/callstone/callstone/SqlType$Category" "APPROXIMATE_NUMERIC" "Lcom/example/callstone/callstone/SqlType$Category;" (.ref cN)) (S_cO : Sta Z h0 "com/example/callstone/callstone/SqlType$Category" "BOOLEAN" "Lcom/example/callstone/callstone/SqlType$Category;" (.ref cO)) (S_cD : Sta Z h0 "com/example/callstone/callstone/SqlType$Category" "DATETIME" "Lcom/example/callstone/callstone/SqlType$Category;" (.ref cD)) (S_cU : Sta Z h0 "com/example/callstone/callstone/SqlType$Category" "USER_DEFINED" "Lcom/example/callstone/callstone/SqlType$Category;" (.ref cU)) (E_cA : Exa Z h0 cA "com/example/callstone/callstone/SqlType$Category") (E_cB : Exa Z h0 cB "com/example/callstone/callstone/SqlType$Category") (E_cE : Exa Z h0 cE "com/example/callstone/callstone/SqlType$Category") (E_cN : Exa Z h0 cN "com/example/callstone/callstone/SqlType$Category") (E_cO : Exa Z h0 cO "com/example/callstone/callstone/SqlType$Category") (E_cD : Exa Z h0 cD "com/example/callstone/callstone/SqlType$Category") (E_cU : Exa Z h0 cU "com/example/callstone/callstone/SqlType$Category") (n_cA_cB : ¬ (cA = cB)) (n_cA_cE : ¬ (cA = cE)) (n_cA_cN : ¬ (cA = cN)) (n_cA_cO : ¬ (cA = cO)) (n_cA_cD : ¬ (cA = cD)) (n_cA_cU : ¬ (cA = cU)) (n_cB_cE : ¬ (cB = cE)) (n_cB_cN : ¬ (cB = cN)) (n_cB_cO : ¬ (cB = cO)) (n_cB_cD : ¬ (cB = cD)) (n_cB_cU : ¬ (cB = cU)) (n_cE_cN : ¬ (cE = cN)) (n_cE_cO : ¬ (cE = cO)) (n_cE_cD : ¬ (cE = cD)) (n_cE_cU : ¬ (cE = cU)) (n_cN_cO : ¬ (cN = cO)) (n_cN_cD : ¬ (cN = cD)) (n_cN_cU : ¬ (cN = cU)) (n_cO_cD : ¬ (cO = cD)) (n_cO_cU : ¬ (cO = cU)) (n_cD_cU : ¬ (cD = cU)) :
    MetFree l x (head1 (Jvm.Cond.code x code maxLocals ret :: ws) room_1) (fun a U => a = #[(.int p0)] ∧ Z.Warmed39 U.vm ∧ U.heap = h0) (fun _ _ _ _ _ => True) (fun _ U o U' => ∃ v L, o = .returned v ∧ Q_rm0 Z p0 cA cB cE cN cO cD cU h0 n0 v U'.heap L ∧ FrameEnd U o U' L room_1.cells room_1.slots) := by
  refine MetFree.of_bodySF (plainFor_of_name pn_0) hisR ?_
  intro p e s m args below meth c s₁ Bd hml0 hP hK
  obtain ⟨rfl, hZ, hh⟩ := hP
  have hx := Bd.exec
  have hby := Bd.bytes
  have hml : c.maxLocals = 4 := hml0
  have hown : s.vm.findClass "com/example/callstone/callstone/CategoryCastsThroughTextPinLaw" = some m.cls := findClass_of_methodNamed Bd.named
  have hnm := (name_of_methodNamed Bd.named Bd.method).1
  have X0 : Stand p l e room_1 s m #[(.int p0)] below meth c s₁ [] 0 0 := Stand.of_body Bd
  have e0 : s₁.heap = h0 := by rw [← hh, Bd.state]; rfl
  have N0 := Fr.nil n0
  refine Onw.of (Onw.go (fun own_u k => castTop (ef_0 m p0) k) ?_)
  show Onw p e below _ (s₁.setTop (mkF m 0 #[.val (.int p0), .unset, .unset, .unset] []))
  refine Onw.go (fun own_u kt => XS.iloadN X0.here hx rfl (hb hby at_0) rfl kt) ?_
  show Onw p e below _ (s₁.setTop (mkF m 1 #[.val (.int p0), .unset, .unset, .unset] [(.int p0)]))
  refine Onw.go (X0.ldcInt hx hown (mvT hZ (hw _ (List.mem_of_getElem? (i := 0) rfl))) (g := (mkF m 1 #[.val (.int p0), .unset, .unset, .unset] [(.int p0)])) rfl (hb hby at_1)) ?_
  show Onw p e below _ (s₁.setTop (mkF m 3 #[.val (.int p0), .unset, .unset, .unset] [(.int (2147483647 : Int32)), (.int p0)]))
  refine Onw.go (fun own_u kt => XS.iand X0.here hx rfl (hb hby at_3) rfl kt) ?_
  show Onw p e below _ (s₁.setTop (mkF m 4 #[.val (.int p0), .unset, .unset, .unset] [(.int (p0 &&& (2147483647 : Int32)))]))
  refine Onw.go (fun own_u kt => XS.bipush X0.here hx rfl (hb hby at_4) kt) ?_
  show Onw p e below _ (s₁.setTop (mkF m 6 #[.val (.int p0), .unset, .unset, .unset] [(.int (7 : Int32)), (.int (p0 &&& (2147483647 : Int32)))]))
  refine Onw.go (fun own_u kt => iremM X0 hx rfl (hb hby at_6) rfl (by decide) kt) ?_
  show Onw p e below _ (s₁.setTop (mkF m 7 #[.val (.int p0), .unset, .unset, .unset] [(.int ((p0 &&& (2147483647 : Int32)) % (7 : Int32)))]))
  obtain ⟨n, hn⟩ : ∃ own_z, own_z = ((p0 &&& (2147483647 : Int32)) % (7 : Int32)) := ⟨_, rfl⟩
  rw [← hn]
  show Onw p e below _ (s₁.setTop (mkF m 7 #[.val (.int p0), .unset, .unset, .unset] [(.int n)]))
  refine Onw.go (fun own_u kt => XS.istoreN X0.here hx rfl (hb hby at_7) rfl (l' := #[.val (.int p0), .val (.int n), .unset, .unset]) rfl kt) ?_
  show Onw p e below _ (s₁.setTop (mkF m 8 #[.val (.int p0), .val (.int n), .unset, .unset] []))
  refine Onw.go (fun own_u kt => XS.iloadN X0.here hx rfl (hb hby at_8) rfl kt) ?_
  show Onw p e below _ (s₁.setTop (mkF m 9 #[.val (.int p0), .val (.int n), .unset, .unset] [(.int n)]))
  obtain ⟨_, _, ⟨T1, L1, k1, n1⟩, -, X1, ⟨Lc1, hQ1, l1, y1, z1⟩, st1⟩ := Jvm.LawKit.callS X0 hx (y := (⟨"com/example/callstone/callstone/CategoryCastsThroughTextPinLaw", "pick", "(I)Lcom/example/callstone/callstone/SqlType$Category;"⟩ : MethodName)) hown (mvT hZ (hw _ (List.mem_of_getElem? (i := 1) rfl))) (mvT hZ (hw _ (List.mem_of_getElem? (i := 2) rfl))) (mvT hZ (hw _ (List.mem_of_getElem? (i := 3) rfl))) (mvT hZ (hw _ (List.mem_of_getElem? (i := 4) rfl))) (by decide) (backOf (W := 0) (rm1 l Z a0 hw [] n cA cB cE cN cO cD cU h0 n0 S_cA S_cB S_cE S_cN S_cO S_cD S_cU) hZ (hw _ (List.mem_of_getElem? (i := 4) rfl)) (hw _ (List.mem_of_getElem? (i := 3) rfl)) (by decide) (by decide)) (g := (mkF m 9 #[.val (.int p0), .val (.int n), .unset, .unset] [(.int n)])) rfl (by rw [hml]; rfl) (argsL := [(.int n)]) (rest := []) (lenOf pd_0 rfl) rfl (by show 2 * 0 + _ ≤ _; exact Nat.le_of_eq rfl) (hb hby at_9) (fun _ _ => ⟨rfl, e0, (by decide : 0 + 0 ≤ _), (by decide : 0 + 0 ≤ _)⟩)
  dsimp only [Pt.U, Pt.locs, Pt.cells, Pt.slots] at X1 l1 y1 z1 st1 hQ1
  subst l1 y1 z1
  obtain ⟨rfl, N1q, e1q⟩ := hQ1
  have N1 := Fr.app N0 N1q
  refine Onw.go st1 ?_
  show Onw p e below _ (T1.setTop (mkF m 12 #[.val (.int p0), .val (.int n), .unset, .unset] [(.ref (own_pick n cA cB cE cN cO cD cU))]))
  obtain ⟨r, hr⟩ : ∃ own_z, own_z = (own_pick n cA cB cE cN cO cD cU) := ⟨_, rfl⟩
  rw [← hr]
  show Onw p e below _ (T1.setTop (mkF m 12 #[.val (.int p0), .val (.int n), .unset, .unset] [(.ref r)]))
  refine Onw.go (fun own_u kt => XS.astoreN X1.here hx rfl (hb hby at_12) rfl rfl (l' := #[.val (.int p0), .val (.int n), .val (.ref r), .unset]) rfl kt) ?_
  show Onw p e below _ (T1.setTop (mkF m 13 #[.val (.int p0), .val (.int n), .val (.ref r), .unset] []))
  refine Onw.go (fun own_u kt => XS.aloadN X1.here hx rfl (hb hby at_13) rfl rfl kt) ?_
  show Onw p e below _ (T1.setTop (mkF m 14 #[.val (.int p0), .val (.int n), .val (.ref r), .unset] [(.ref r)]))
  rcases own_pick_cases _ _ _ _ _ _ _ _ _ hr with hx1 | hx1 | hx1 | hx1 | hx1 | hx1 | hx1
  · rw [hx1]
    show Onw p e below _ (T1.setTop (mkF m 14 #[.val (.int p0), .val (.int n), .val (.ref cA), .unset] [(.ref cA)]))
    obtain ⟨T2, X2, e2, st2⟩ := getS2 X1 hx hZ hown (host := "") (Or.inl (hw _ (List.mem_of_getElem? (i := 5) rfl))) Via.refl e1q S_cA (g := (mkF m 14 #[.val (.int p0), .val (.int n), .val (.ref cA), .unset] [(.ref cA)])) rfl (hb hby at_14)
    refine Onw.go st2 ?_
    show Onw p e below _ (T2.setTop (mkF m 17 #[.val (.int p0), .val (.int n), .val (.ref cA), .unset] [(.ref cA), (.ref cA)]))
    refine Onw.go (fun own_u kt => Jvm.RoadKit.acmp (g := (mkF m 17 #[.val (.int p0), .val (.int n), .val (.ref cA), .unset] [(.ref cA), (.ref cA)])) X2 hx rfl rfl rfl (pc0 := 17) (pc' := 48) (same := true) rfl (hb hby at_17) rfl (decide_eq_true (congrArg Value.ref (rfl : cA = cA))) (by decide) (by decide) kt) ?_
    show Onw p e below _ (T2.setTop (mkF m 48 #[.val (.int p0), .val (.int n), .val (.ref cA), .unset] []))
    refine Onw.go (fun own_u kt => XS.iconst X2.here hx rfl (hb hby at_48) kt) ?_
    show Onw p e below _ (T2.setTop (mkF m 49 #[.val (.int p0), .val (.int n), .val (.ref cA), .unset] [(.int (1 : Int32))]))
    refine Onw.go (fun own_u kt => XS.goto X2.here hx rfl (pc0 := 49) (pc' := 53) rfl (hb hby at_49) (by decide) (by decide) kt) ?_
    show Onw p e below _ (T2.setTop (mkF m 53 #[.val (.int p0), .val (.int n), .val (.ref cA), .unset] [(.int (1 : Int32))]))
    refine Onw.go (fun own_u kt => XS.istoreN X2.here hx rfl (hb hby at_53) rfl (l' := #[.val (.int p0), .val (.int n), .val (.ref cA), .val (.int (1 : Int32))]) rfl kt) ?_
    show Onw p e below _ (T2.setTop (mkF m 54 #[.val (.int p0), .val (.int n), .val (.ref cA), .val (.int (1 : Int32))] []))
    refine Onw.go (fun own_u kt => XS.aloadN X2.here hx rfl (hb hby at_54) rfl rfl kt) ?_
    show Onw p e below _ (T2.setTop (mkF m 55 #[.val (.int p0), .val (.int n), .val (.ref cA), .val (.int (1 : Int32))] [(.ref cA)]))
    obtain ⟨cq3, kq3, q3a, q3b, q3c⟩ := isOf hZ e2 E_cA
    obtain ⟨_, _, ⟨T3, L3, k3, n3⟩, -, X3, ⟨Lc3, hQ3, l3, y3, z3⟩, st3⟩ := X2.virtualBack hx (y := (⟨"com/example/callstone/callstone/SqlType$Category", "castsThroughText", "()Z"⟩ : MethodName)) (z := (⟨"com/example/callstone/callstone/SqlType$Category", "castsThroughText", "()Z"⟩ : MethodName)) hown (mvT hZ (hw _ (List.mem_of_getElem? (i := 8) rfl))) (mvT hZ (hw _ (List.mem_of_getElem? (i := 9) rfl))) (notFace_of_selects (args := #[]) (mvT hZ (hw _ (List.mem_of_getElem? (i := 11) rfl)))) (mvT hZ (hw _ (List.mem_of_getElem? (i := 11) rfl))) (mvT hZ (hw _ (List.mem_of_getElem? (i := 10) rfl))) (by decide) (backOf (W := 0) (rm2 l Z a0 hw [] cA cB cU h0 n0 S_cB S_cU) hZ (hw _ (List.mem_of_getElem? (i := 12) rfl)) (hw _ (List.mem_of_getElem? (i := 6) rfl)) (by decide) (by decide)) q3a q3c (g := (mkF m 55 #[.val (.int p0), .val (.int n), .val (.ref cA), .val (.int (1 : Int32))] [(.ref cA)])) rfl (by rw [hml]; rfl) (Steps.refl _) (argsL := []) (rest := []) (lenOf pd_1 rfl) rfl (by show 2 * 0 + _ ≤ _; exact Nat.le_of_eq rfl) (hb hby at_55) (fun _ _ => ⟨rfl, e2, (by decide : 0 + 0 ≤ _), (by decide : 0 + 0 ≤ _)⟩)
    dsimp only [Pt.U, Pt.locs, Pt.cells, Pt.slots] at X3 l3 y3 z3 st3 hQ3
    subst l3 y3 z3
    obtain ⟨rfl, N3q, e3q⟩ := hQ3
    have N3 := Fr.app N1 N3q
    refine Onw.go (fun own_u kt => st3.trans kt) ?_
    show Onw p e below _ (T3.setTop (mkF m 58 #[.val (.int p0), .val (.int n), .val (.ref cA), .val (.int (1 : Int32))] [(.int (own_cast cA cB cU))]))
    rw [(by unfold own_cast; rw [if_neg n_cA_cB, if_neg n_cA_cU] : (own_cast cA cB cU) = (1 : Int32))]
    show Onw p e below _ (T3.setTop (mkF m 58 #[.val (.int p0), .val (.int n), .val (.ref cA), .val (.int (1 : Int32))] [(.int (1 : Int32))]))
    refine Onw.go (fun own_u kt => XS.iloadN X3.here hx rfl (hb hby at_58) rfl kt) ?_
    show Onw p e below _ (T3.setTop (mkF m 59 #[.val (.int p0), .val (.int n), .val (.ref cA), .val (.int (1 : Int32))] [(.int (1 : Int32)), (.int (1 : Int32))]))
    refine Onw.go (fun own_u kt => XS.icmpNo X3.here hx rfl (hb hby at_59) rfl (teq (rfl : (1 : Int32) = (1 : Int32))).2 kt) ?_
    show Onw p e below _ (T3.setTop (mkF m 62 #[.val (.int p0), .val (.int n), .val (.ref cA), .val (.int (1 : Int32))] []))
    refine Onw.go (fun own_u kt => XS.iconst X3.here hx rfl (hb hby at_62) kt) ?_
    show Onw p e below _ (T3.setTop (mkF m 63 #[.val (.int p0), .val (.int n), .val (.ref cA), .val (.int (1 : Int32))] [(.int (1 : Int32))]))
    refine Onw.go (fun own_u kt => XS.goto X3.here hx rfl (pc0 := 63) (pc' := 67) rfl (hb hby at_63) (by decide) (by decide) kt) ?_
    show Onw p e below _ (T3.setTop (mkF m 67 #[.val (.int p0), .val (.int n), .val (.ref cA), .val (.int (1 : Int32))] [(.int (1 : Int32))]))
    exact Onw.ret X3 Bd.notSynchronized (fun h => by rw [Bd.returns] at h; cases h) (fun fs hr => retN X3 hx (t := .boolean) Bd.returns (by simp) (hb hby at_67) hr) ⟨rfl, N3⟩ (by decide) (by decide)
  · rw [hx1]
    show Onw p e below _ (T1.setTop (mkF m 14 #[.val (.int p0), .val (.int n), .val (.ref cB), .unset] [(.ref cB)]))
    obtain ⟨T4, X4, e4, st4⟩ := getS2 X1 hx hZ hown (host := "") (Or.inl (hw _ (List.mem_of_getElem? (i := 5) rfl))) Via.refl e1q S_cA (g := (mkF m 14 #[.val (.int p0), .val (.int n), .val (.ref cB), .unset] [(.ref cB)])) rfl (hb hby at_14)
    refine Onw.go st4 ?_
    show Onw p e below _ (T4.setTop (mkF m 17 #[.val (.int p0), .val (.int n), .val (.ref cB), .unset] [(.ref cA), (.ref cB)]))
    refine Onw.go (fun own_u kt => Jvm.RoadKit.acmp (g := (mkF m 17 #[.val (.int p0), .val (.int n), .val (.ref cB), .unset] [(.ref cA), (.ref cB)])) X4 hx rfl rfl rfl (pc0 := 17) (pc' := 20) (same := false) rfl (hb hby at_17) rfl (decide_eq_false fun q => ((fun q => n_cA_cB q.symm) : ¬ (cB = cA)) (Value.ref.inj q)) (by decide) (by decide) kt) ?_
    show Onw p e below _ (T4.setTop (mkF m 20 #[.val (.int p0), .val (.int n), .val (.ref cB), .unset] []))
    refine Onw.go (fun own_u kt => XS.aloadN X4.here hx rfl (hb hby at_20) rfl rfl kt) ?_
    show Onw p e below _ (T4.setTop (mkF m 21 #[.val (.int p0), .val (.int n), .val (.ref cB), .unset] [(.ref cB)]))
    obtain ⟨T5, X5, e5, st5⟩ := getS2 X4 hx hZ hown (host := "") (Or.inl (hw _ (List.mem_of_getElem? (i := 19) rfl))) Via.refl e4 S_cE (g := (mkF m 21 #[.val (.int p0), .val (.int n), .val (.ref cB), .unset] [(.ref cB)])) rfl (hb hby at_21)
    refine Onw.go st5 ?_
    show Onw p e below _ (T5.setTop (mkF m 24 #[.val (.int p0), .val (.int n), .val (.ref cB), .unset] [(.ref cE), (.ref cB)]))
    refine Onw.go (fun own_u kt => Jvm.RoadKit.acmp (g := (mkF m 24 #[.val (.int p0), .val (.int n), .val (.ref cB), .unset] [(.ref cE), (.ref cB)])) X5 hx rfl rfl rfl (pc0 := 24) (pc' := 27) (same := false) rfl (hb hby at_24) rfl (decide_eq_false fun q => (n_cB_cE : ¬ (cB = cE)) (Value.ref.inj q)) (by decide) (by decide) kt) ?_
    show Onw p e below _ (T5.setTop (mkF m 27 #[.val (.int p0), .val (.int n), .val (.ref cB), .unset] []))
    refine Onw.go (fun own_u kt => XS.aloadN X5.here hx rfl (hb hby at_27) rfl rfl kt) ?_
    show Onw p e below _ (T5.setTop (mkF m 28 #[.val (.int p0), .val (.int n), .val (.ref cB), .unset] [(.ref cB)]))
    obtain ⟨T6, X6, e6, st6⟩ := getS2 X5 hx hZ hown (host := "") (Or.inl (hw _ (List.mem_of_getElem? (i := 17) rfl))) Via.refl e5 S_cN (g := (mkF m 28 #[.val (.int p0), .val (.int n), .val (.ref cB), .unset] [(.ref cB)])) rfl (hb hby at_28)
    refine Onw.go st6 ?_
    show Onw p e below _ (T6.setTop (mkF m 31 #[.val (.int p0), .val (.int n), .val (.ref cB), .unset] [(.ref cN), (.ref cB)]))
    refine Onw.go (fun own_u kt => Jvm.RoadKit.acmp (g := (mkF m 31 #[.val (.int p0), .val (.int n), .val (.ref cB), .unset] [(.ref cN), (.ref cB)])) X6 hx rfl rfl rfl (pc0 := 31) (pc' := 34) (same := false) rfl (hb hby at_31) rfl (decide_eq_false fun q => (n_cB_cN : ¬ (cB = cN)) (Value.ref.inj q)) (by decide) (by decide) kt) ?_
    show Onw p e below _ (T6.setTop (mkF m 34 #[.val (.int p0), .val (.int n), .val (.ref cB), .unset] []))
    refine Onw.go (fun own_u kt => XS.aloadN X6.here hx rfl (hb hby at_34) rfl rfl kt) ?_
    show Onw p e below _ (T6.setTop (mkF m 35 #[.val (.int p0), .val (.int n), .val (.ref cB), .unset] [(.ref cB)]))
    obtain ⟨T7, X7, e7, st7⟩ := getS2 X6 hx hZ hown (host := "") (Or.inl (hw _ (List.mem_of_getElem? (i := 23) rfl))) Via.refl e6 S_cO (g := (mkF m 35 #[.val (.int p0), .val (.int n), .val (.ref cB), .unset] [(.ref cB)])) rfl (hb hby at_35)
    refine Onw.go st7 ?_
    show Onw p e below _ (T7.setTop (mkF m 38 #[.val (.int p0), .val (.int n), .val (.ref cB), .unset] [(.ref cO), (.ref cB)]))
    refine Onw.go (fun own_u kt => Jvm.RoadKit.acmp (g := (mkF m 38 #[.val (.int p0), .val (.int n), .val (.ref cB), .unset] [(.ref cO), (.ref cB)])) X7 hx rfl rfl rfl (pc0 := 38) (pc' := 41) (same := false) rfl (hb hby at_38) rfl (decide_eq_false fun q => (n_cB_cO : ¬ (cB = cO)) (Value.ref.inj q)) (by decide) (by decide) kt) ?_
    show Onw p e below _ (T7.setTop (mkF m 41 #[.val (.int p0), .val (.int n), .val (.ref cB), .unset] []))
    refine Onw.go (fun own_u kt => XS.aloadN X7.here hx rfl (hb hby at_41) rfl rfl kt) ?_
    show Onw p e below _ (T7.setTop (mkF m 42 #[.val (.int p0), .val (.int n), .val (.ref cB), .unset] [(.ref cB)]))
    obtain ⟨T8, X8, e8, st8⟩ := getS2 X7 hx hZ hown (host := "") (Or.inl (hw _ (List.mem_of_getElem? (i := 21) rfl))) Via.refl e7 S_cD (g := (mkF m 42 #[.val (.int p0), .val (.int n), .val (.ref cB), .unset] [(.ref cB)])) rfl (hb hby at_42)
    refine Onw.go st8 ?_
    show Onw p e below _ (T8.setTop (mkF m 45 #[.val (.int p0), .val (.int n), .val (.ref cB), .unset] [(.ref cD), (.ref cB)]))
    refine Onw.go (fun own_u kt => Jvm.RoadKit.acmp (g := (mkF m 45 #[.val (.int p0), .val (.int n), .val (.ref cB), .unset] [(.ref cD), (.ref cB)])) X8 hx rfl rfl rfl (pc0 := 45) (pc' := 52) (same := false) rfl (hb hby at_45) rfl (decide_eq_false fun q => (n_cB_cD : ¬ (cB = cD)) (Value.ref.inj q)) (by decide) (by decide) kt) ?_
    show Onw p e below _ (T8.setTop (mkF m 52 #[.val (.int p0), .val (.int n), .val (.ref cB), .unset] []))
    refine Onw.go (fun own_u kt => XS.iconst X8.here hx rfl (hb hby at_52) kt) ?_
    show Onw p e below _ (T8.setTop (mkF m 53 #[.val (.int p0), .val (.int n), .val (.ref cB), .unset] [(.int (0 : Int32))]))
    refine Onw.go (fun own_u kt => XS.istoreN X8.here hx rfl (hb hby at_53) rfl (l' := #[.val (.int p0), .val (.int n), .val (.ref cB), .val (.int (0 : Int32))]) rfl kt) ?_
    show Onw p e below _ (T8.setTop (mkF m 54 #[.val (.int p0), .val (.int n), .val (.ref cB), .val (.int (0 : Int32))] []))
    refine Onw.go (fun own_u kt => XS.aloadN X8.here hx rfl (hb hby at_54) rfl rfl kt) ?_
    show Onw p e below _ (T8.setTop (mkF m 55 #[.val (.int p0), .val (.int n), .val (.ref cB), .val (.int (0 : Int32))] [(.ref cB)]))
    obtain ⟨cq9, kq9, q9a, q9b, q9c⟩ := isOf hZ e8 E_cB
    obtain ⟨_, _, ⟨T9, L9, k9, n9⟩, -, X9, ⟨Lc9, hQ9, l9, y9, z9⟩, st9⟩ := X8.virtualBack hx (y := (⟨"com/example/callstone/callstone/SqlType$Category", "castsThroughText", "()Z"⟩ : MethodName)) (z := (⟨"com/example/callstone/callstone/SqlType$Category", "castsThroughText", "()Z"⟩ : MethodName)) hown (mvT hZ (hw _ (List.mem_of_getElem? (i := 8) rfl))) (mvT hZ (hw _ (List.mem_of_getElem? (i := 9) rfl))) (notFace_of_selects (args := #[]) (mvT hZ (hw _ (List.mem_of_getElem? (i := 11) rfl)))) (mvT hZ (hw _ (List.mem_of_getElem? (i := 11) rfl))) (mvT hZ (hw _ (List.mem_of_getElem? (i := 10) rfl))) (by decide) (backOf (W := 0) (rm2 l Z a0 hw [] cB cB cU h0 n0 S_cB S_cU) hZ (hw _ (List.mem_of_getElem? (i := 12) rfl)) (hw _ (List.mem_of_getElem? (i := 6) rfl)) (by decide) (by decide)) q9a q9c (g := (mkF m 55 #[.val (.int p0), .val (.int n), .val (.ref cB), .val (.int (0 : Int32))] [(.ref cB)])) rfl (by rw [hml]; rfl) (Steps.refl _) (argsL := []) (rest := []) (lenOf pd_1 rfl) rfl (by show 2 * 0 + _ ≤ _; exact Nat.le_of_eq rfl) (hb hby at_55) (fun _ _ => ⟨rfl, e8, (by decide : 0 + 0 ≤ _), (by decide : 0 + 0 ≤ _)⟩)
    dsimp only [Pt.U, Pt.locs, Pt.cells, Pt.slots] at X9 l9 y9 z9 st9 hQ9
    subst l9 y9 z9
    obtain ⟨rfl, N9q, e9q⟩ := hQ9
    have N9 := Fr.app N1 N9q
    refine Onw.go (fun own_u kt => st9.trans kt) ?_
    show Onw p e below _ (T9.setTop (mkF m 58 #[.val (.int p0), .val (.int n), .val (.ref cB), .val (.int (0 : Int32))] [(.int (own_cast cB cB cU))]))
    rw [(by unfold own_cast; rw [if_pos rfl] : (own_cast cB cB cU) = (0 : Int32))]
    show Onw p e below _ (T9.setTop (mkF m 58 #[.val (.int p0), .val (.int n), .val (.ref cB), .val (.int (0 : Int32))] [(.int (0 : Int32))]))
    refine Onw.go (fun own_u kt => XS.iloadN X9.here hx rfl (hb hby at_58) rfl kt) ?_
    show Onw p e below _ (T9.setTop (mkF m 59 #[.val (.int p0), .val (.int n), .val (.ref cB), .val (.int (0 : Int32))] [(.int (0 : Int32)), (.int (0 : Int32))]))
    refine Onw.go (fun own_u kt => XS.icmpNo X9.here hx rfl (hb hby at_59) rfl (teq (rfl : (0 : Int32) = (0 : Int32))).2 kt) ?_
    show Onw p e below _ (T9.setTop (mkF m 62 #[.val (.int p0), .val (.int n), .val (.ref cB), .val (.int (0 : Int32))] []))
    refine Onw.go (fun own_u kt => XS.iconst X9.here hx rfl (hb hby at_62) kt) ?_
    show Onw p e below _ (T9.setTop (mkF m 63 #[.val (.int p0), .val (.int n), .val (.ref cB), .val (.int (0 : Int32))] [(.int (1 : Int32))]))
    refine Onw.go (fun own_u kt => XS.goto X9.here hx rfl (pc0 := 63) (pc' := 67) rfl (hb hby at_63) (by decide) (by decide) kt) ?_
    show Onw p e below _ (T9.setTop (mkF m 67 #[.val (.int p0), .val (.int n), .val (.ref cB), .val (.int (0 : Int32))] [(.int (1 : Int32))]))
    exact Onw.ret X9 Bd.notSynchronized (fun h => by rw [Bd.returns] at h; cases h) (fun fs hr => retN X9 hx (t := .boolean) Bd.returns (by simp) (hb hby at_67) hr) ⟨rfl, N9⟩ (by decide) (by decide)
  · rw [hx1]
    show Onw p e below _ (T1.setTop (mkF m 14 #[.val (.int p0), .val (.int n), .val (.ref cE), .unset] [(.ref cE)]))
    obtain ⟨T10, X10, e10, st10⟩ := getS2 X1 hx hZ hown (host := "") (Or.inl (hw _ (List.mem_of_getElem? (i := 5) rfl))) Via.refl e1q S_cA (g := (mkF m 14 #[.val (.int p0), .val (.int n), .val (.ref cE), .unset] [(.ref cE)])) rfl (hb hby at_14)
    refine Onw.go st10 ?_
    show Onw p e below _ (T10.setTop (mkF m 17 #[.val (.int p0), .val (.int n), .val (.ref cE), .unset] [(.ref cA), (.ref cE)]))
    refine Onw.go (fun own_u kt => Jvm.RoadKit.acmp (g := (mkF m 17 #[.val (.int p0), .val (.int n), .val (.ref cE), .unset] [(.ref cA), (.ref cE)])) X10 hx rfl rfl rfl (pc0 := 17) (pc' := 20) (same := false) rfl (hb hby at_17) rfl (decide_eq_false fun q => ((fun q => n_cA_cE q.symm) : ¬ (cE = cA)) (Value.ref.inj q)) (by decide) (by decide) kt) ?_
    show Onw p e below _ (T10.setTop (mkF m 20 #[.val (.int p0), .val (.int n), .val (.ref cE), .unset] []))
    refine Onw.go (fun own_u kt => XS.aloadN X10.here hx rfl (hb hby at_20) rfl rfl kt) ?_
    show Onw p e below _ (T10.setTop (mkF m 21 #[.val (.int p0), .val (.int n), .val (.ref cE), .unset] [(.ref cE)]))
    obtain ⟨T11, X11, e11, st11⟩ := getS2 X10 hx hZ hown (host := "") (Or.inl (hw _ (List.mem_of_getElem? (i := 19) rfl))) Via.refl e10 S_cE (g := (mkF m 21 #[.val (.int p0), .val (.int n), .val (.ref cE), .unset] [(.ref cE)])) rfl (hb hby at_21)
    refine Onw.go st11 ?_
    show Onw p e below _ (T11.setTop (mkF m 24 #[.val (.int p0), .val (.int n), .val (.ref cE), .unset] [(.ref cE), (.ref cE)]))
    refine Onw.go (fun own_u kt => Jvm.RoadKit.acmp (g := (mkF m 24 #[.val (.int p0), .val (.int n), .val (.ref cE), .unset] [(.ref cE), (.ref cE)])) X11 hx rfl rfl rfl (pc0 := 24) (pc' := 48) (same := true) rfl (hb hby at_24) rfl (decide_eq_true (congrArg Value.ref (rfl : cE = cE))) (by decide) (by decide) kt) ?_
    show Onw p e below _ (T11.setTop (mkF m 48 #[.val (.int p0), .val (.int n), .val (.ref cE), .unset] []))
    refine Onw.go (fun own_u kt => XS.iconst X11.here hx rfl (hb hby at_48) kt) ?_
    show Onw p e below _ (T11.setTop (mkF m 49 #[.val (.int p0), .val (.int n), .val (.ref cE), .unset] [(.int (1 : Int32))]))
    refine Onw.go (fun own_u kt => XS.goto X11.here hx rfl (pc0 := 49) (pc' := 53) rfl (hb hby at_49) (by decide) (by decide) kt) ?_
    show Onw p e below _ (T11.setTop (mkF m 53 #[.val (.int p0), .val (.int n), .val (.ref cE), .unset] [(.int (1 : Int32))]))
    refine Onw.go (fun own_u kt => XS.istoreN X11.here hx rfl (hb hby at_53) rfl (l' := #[.val (.int p0), .val (.int n), .val (.ref cE), .val (.int (1 : Int32))]) rfl kt) ?_
    show Onw p e below _ (T11.setTop (mkF m 54 #[.val (.int p0), .val (.int n), .val (.ref cE), .val (.int (1 : Int32))] []))
    refine Onw.go (fun own_u kt => XS.aloadN X11.here hx rfl (hb hby at_54) rfl rfl kt) ?_
    show Onw p e below _ (T11.setTop (mkF m 55 #[.val (.int p0), .val (.int n), .val (.ref cE), .val (.int (1 : Int32))] [(.ref cE)]))
    obtain ⟨cq12, kq12, q12a, q12b, q12c⟩ := isOf hZ e11 E_cE
    obtain ⟨_, _, ⟨T12, L12, k12, n12⟩, -, X12, ⟨Lc12, hQ12, l12, y12, z12⟩, st12⟩ := X11.virtualBack hx (y := (⟨"com/example/callstone/callstone/SqlType$Category", "castsThroughText", "()Z"⟩ : MethodName)) (z := (⟨"com/example/callstone/callstone/SqlType$Category", "castsThroughText", "()Z"⟩ : MethodName)) hown (mvT hZ (hw _ (List.mem_of_getElem? (i := 8) rfl))) (mvT hZ (hw _ (List.mem_of_getElem? (i := 9) rfl))) (notFace_of_selects (args := #[]) (mvT hZ (hw _ (List.mem_of_getElem? (i := 11) rfl)))) (mvT hZ (hw _ (List.mem_of_getElem? (i := 11) rfl))) (mvT hZ (hw _ (List.mem_of_getElem? (i := 10) rfl))) (by decide) (backOf (W := 0) (rm2 l Z a0 hw [] cE cB cU h0 n0 S_cB S_cU) hZ (hw _ (List.mem_of_getElem? (i := 12) rfl)) (hw _ (List.mem_of_getElem? (i := 6) rfl)) (by decide) (by decide)) q12a q12c (g := (mkF m 55 #[.val (.int p0), .val (.int n), .val (.ref cE), .val (.int (1 : Int32))] [(.ref cE)])) rfl (by rw [hml]; rfl) (Steps.refl _) (argsL := []) (rest := []) (lenOf pd_1 rfl) rfl (by show 2 * 0 + _ ≤ _; exact Nat.le_of_eq rfl) (hb hby at_55) (fun _ _ => ⟨rfl, e11, (by decide : 0 + 0 ≤ _), (by decide : 0 + 0 ≤ _)⟩)
    dsimp only [Pt.U, Pt.locs, Pt.cells, Pt.slots] at X12 l12 y12 z12 st12 hQ12
    subst l12 y12 z12
    obtain ⟨rfl, N12q, e12q⟩ := hQ12
    have N12 := Fr.app N1 N12q
    refine Onw.go (fun own_u kt => st12.trans kt) ?_
    show Onw p e below _ (T12.setTop (mkF m 58 #[.val (.int p0), .val (.int n), .val (.ref cE), .val (.int (1 : Int32))] [(.int (own_cast cE cB cU))]))
    rw [(by unfold own_cast; rw [if_neg (fun q => n_cB_cE q.symm), if_neg n_cE_cU] : (own_cast cE cB cU) = (1 : Int32))]
    show Onw p e below _ (T12.setTop (mkF m 58 #[.val (.int p0), .val (.int n), .val (.ref cE), .val (.int (1 : Int32))] [(.int (1 : Int32))]))
    refine Onw.go (fun own_u kt => XS.iloadN X12.here hx rfl (hb hby at_58) rfl kt) ?_
    show Onw p e below _ (T12.setTop (mkF m 59 #[.val (.int p0), .val (.int n), .val (.ref cE), .val (.int (1 : Int32))] [(.int (1 : Int32)), (.int (1 : Int32))]))
    refine Onw.go (fun own_u kt => XS.icmpNo X12.here hx rfl (hb hby at_59) rfl (teq (rfl : (1 : Int32) = (1 : Int32))).2 kt) ?_
    show Onw p e below _ (T12.setTop (mkF m 62 #[.val (.int p0), .val (.int n), .val (.ref cE), .val (.int (1 : Int32))] []))
    refine Onw.go (fun own_u kt => XS.iconst X12.here hx rfl (hb hby at_62) kt) ?_
    show Onw p e below _ (T12.setTop (mkF m 63 #[.val (.int p0), .val (.int n), .val (.ref cE), .val (.int (1 : Int32))] [(.int (1 : Int32))]))
    refine Onw.go (fun own_u kt => XS.goto X12.here hx rfl (pc0 := 63) (pc' := 67) rfl (hb hby at_63) (by decide) (by decide) kt) ?_
    show Onw p e below _ (T12.setTop (mkF m 67 #[.val (.int p0), .val (.int n), .val (.ref cE), .val (.int (1 : Int32))] [(.int (1 : Int32))]))
    exact Onw.ret X12 Bd.notSynchronized (fun h => by rw [Bd.returns] at h; cases h) (fun fs hr => retN X12 hx (t := .boolean) Bd.returns (by simp) (hb hby at_67) hr) ⟨rfl, N12⟩ (by decide) (by decide)
  · rw [hx1]
    show Onw p e below _ (T1.setTop (mkF m 14 #[.val (.int p0), .val (.int n), .val (.ref cN), .unset] [(.ref cN)]))
    obtain ⟨T13, X13, e13, st13⟩ := getS2 X1 hx hZ hown (host := "") (Or.inl (hw _ (List.mem_of_getElem? (i := 5) rfl))) Via.refl e1q S_cA (g := (mkF m 14 #[.val (.int p0), .val (.int n), .val (.ref cN), .unset] [(.ref cN)])) rfl (hb hby at_14)
    refine Onw.go st13 ?_
    show Onw p e below _ (T13.setTop (mkF m 17 #[.val (.int p0), .val (.int n), .val (.ref cN), .unset] [(.ref cA), (.ref cN)]))
    refine Onw.go (fun own_u kt => Jvm.RoadKit.acmp (g := (mkF m 17 #[.val (.int p0), .val (.int n), .val (.ref cN), .unset] [(.ref cA), (.ref cN)])) X13 hx rfl rfl rfl (pc0 := 17) (pc' := 20) (same := false) rfl (hb hby at_17) rfl (decide_eq_false fun q => ((fun q => n_cA_cN q.symm) : ¬ (cN = cA)) (Value.ref.inj q)) (by decide) (by decide) kt) ?_
    show Onw p e below _ (T13.setTop (mkF m 20 #[.val (.int p0), .val (.int n), .val (.ref cN), .unset] []))
    refine Onw.go (fun own_u kt => XS.aloadN X13.here hx rfl (hb hby at_20) rfl rfl kt) ?_
    show Onw p e below _ (T13.setTop (mkF m 21 #[.val (.int p0), .val (.int n), .val (.ref cN), .unset] [(.ref cN)]))
    obtain ⟨T14, X14, e14, st14⟩ := getS2 X13 hx hZ hown (host := "") (Or.inl (hw _ (List.mem_of_getElem? (i := 19) rfl))) Via.refl e13 S_cE (g := (mkF m 21 #[.val (.int p0), .val (.int n), .val (.ref cN), .unset] [(.ref cN)])) rfl (hb hby at_21)
    refine Onw.go st14 ?_
    show Onw p e below _ (T14.setTop (mkF m 24 #[.val (.int p0), .val (.int n), .val (.ref cN), .unset] [(.ref cE), (.ref cN)]))
    refine Onw.go (fun own_u kt => Jvm.RoadKit.acmp (g := (mkF m 24 #[.val (.int p0), .val (.int n), .val (.ref cN), .unset] [(.ref cE), (.ref cN)])) X14 hx rfl rfl rfl (pc0 := 24) (pc' := 27) (same := false) rfl (hb hby at_24) rfl (decide_eq_false fun q => ((fun q => n_cE_cN q.symm) : ¬ (cN = cE)) (Value.ref.inj q)) (by decide) (by decide) kt) ?_
    show Onw p e below _ (T14.setTop (mkF m 27 #[.val (.int p0), .val (.int n), .val (.ref cN), .unset] []))
    refine Onw.go (fun own_u kt => XS.aloadN X14.here hx rfl (hb hby at_27) rfl rfl kt) ?_
    show Onw p e below _ (T14.setTop (mkF m 28 #[.val (.int p0), .val (.int n), .val (.ref cN), .unset] [(.ref cN)]))
    obtain ⟨T15, X15, e15, st15⟩ := getS2 X14 hx hZ hown (host := "") (Or.inl (hw _ (List.mem_of_getElem? (i := 17) rfl))) Via.refl e14 S_cN (g := (mkF m 28 #[.val (.int p0), .val (.int n), .val (.ref cN), .unset] [(.ref cN)])) rfl (hb hby at_28)
    refine Onw.go st15 ?_
    show Onw p e below _ (T15.setTop (mkF m 31 #[.val (.int p0), .val (.int n), .val (.ref cN), .unset] [(.ref cN), (.ref cN)]))
    refine Onw.go (fun own_u kt => Jvm.RoadKit.acmp (g := (mkF m 31 #[.val (.int p0), .val (.int n), .val (.ref cN), .unset] [(.ref cN), (.ref cN)])) X15 hx rfl rfl rfl (pc0 := 31) (pc' := 48) (same := true) rfl (hb hby at_31) rfl (decide_eq_true (congrArg Value.ref (rfl : cN = cN))) (by decide) (by decide) kt) ?_
    show Onw p e below _ (T15.setTop (mkF m 48 #[.val (.int p0), .val (.int n), .val (.ref cN), .unset] []))
    refine Onw.go (fun own_u kt => XS.iconst X15.here hx rfl (hb hby at_48) kt) ?_
    show Onw p e below _ (T15.setTop (mkF m 49 #[.val (.int p0), .val (.int n), .val (.ref cN), .unset] [(.int (1 : Int32))]))
    refine Onw.go (fun own_u kt => XS.goto X15.here hx rfl (pc0 := 49) (pc' := 53) rfl (hb hby at_49) (by decide) (by decide) kt) ?_
    show Onw p e below _ (T15.setTop (mkF m 53 #[.val (.int p0), .val (.int n), .val (.ref cN), .unset] [(.int (1 : Int32))]))
    refine Onw.go (fun own_u kt => XS.istoreN X15.here hx rfl (hb hby at_53) rfl (l' := #[.val (.int p0), .val (.int n), .val (.ref cN), .val (.int (1 : Int32))]) rfl kt) ?_
    show Onw p e below _ (T15.setTop (mkF m 54 #[.val (.int p0), .val (.int n), .val (.ref cN), .val (.int (1 : Int32))] []))
    refine Onw.go (fun own_u kt => XS.aloadN X15.here hx rfl (hb hby at_54) rfl rfl kt) ?_
    show Onw p e below _ (T15.setTop (mkF m 55 #[.val (.int p0), .val (.int n), .val (.ref cN), .val (.int (1 : Int32))] [(.ref cN)]))
    obtain ⟨cq16, kq16, q16a, q16b, q16c⟩ := isOf hZ e15 E_cN
    obtain ⟨_, _, ⟨T16, L16, k16, n16⟩, -, X16, ⟨Lc16, hQ16, l16, y16, z16⟩, st16⟩ := X15.virtualBack hx (y := (⟨"com/example/callstone/callstone/SqlType$Category", "castsThroughText", "()Z"⟩ : MethodName)) (z := (⟨"com/example/callstone/callstone/SqlType$Category", "castsThroughText", "()Z"⟩ : MethodName)) hown (mvT hZ (hw _ (List.mem_of_getElem? (i := 8) rfl))) (mvT hZ (hw _ (List.mem_of_getElem? (i := 9) rfl))) (notFace_of_selects (args := #[]) (mvT hZ (hw _ (List.mem_of_getElem? (i := 11) rfl)))) (mvT hZ (hw _ (List.mem_of_getElem? (i := 11) rfl))) (mvT hZ (hw _ (List.mem_of_getElem? (i := 10) rfl))) (by decide) (backOf (W := 0) (rm2 l Z a0 hw [] cN cB cU h0 n0 S_cB S_cU) hZ (hw _ (List.mem_of_getElem? (i := 12) rfl)) (hw _ (List.mem_of_getElem? (i := 6) rfl)) (by decide) (by decide)) q16a q16c (g := (mkF m 55 #[.val (.int p0), .val (.int n), .val (.ref cN), .val (.int (1 : Int32))] [(.ref cN)])) rfl (by rw [hml]; rfl) (Steps.refl _) (argsL := []) (rest := []) (lenOf pd_1 rfl) rfl (by show 2 * 0 + _ ≤ _; exact Nat.le_of_eq rfl) (hb hby at_55) (fun _ _ => ⟨rfl, e15, (by decide : 0 + 0 ≤ _), (by decide : 0 + 0 ≤ _)⟩)
    dsimp only [Pt.U, Pt.locs, Pt.cells, Pt.slots] at X16 l16 y16 z16 st16 hQ16
    subst l16 y16 z16
    obtain ⟨rfl, N16q, e16q⟩ := hQ16
    have N16 := Fr.app N1 N16q
    refine Onw.go (fun own_u kt => st16.trans kt) ?_
    show Onw p e below _ (T16.setTop (mkF m 58 #[.val (.int p0), .val (.int n), .val (.ref cN), .val (.int (1 : Int32))] [(.int (own_cast cN cB cU))]))
    rw [(by unfold own_cast; rw [if_neg (fun q => n_cB_cN q.symm), if_neg n_cN_cU] : (own_cast cN cB cU) = (1 : Int32))]
    show Onw p e below _ (T16.setTop (mkF m 58 #[.val (.int p0), .val (.int n), .val (.ref cN), .val (.int (1 : Int32))] [(.int (1 : Int32))]))
    refine Onw.go (fun own_u kt => XS.iloadN X16.here hx rfl (hb hby at_58) rfl kt) ?_
    show Onw p e below _ (T16.setTop (mkF m 59 #[.val (.int p0), .val (.int n), .val (.ref cN), .val (.int (1 : Int32))] [(.int (1 : Int32)), (.int (1 : Int32))]))
    refine Onw.go (fun own_u kt => XS.icmpNo X16.here hx rfl (hb hby at_59) rfl (teq (rfl : (1 : Int32) = (1 : Int32))).2 kt) ?_
    show Onw p e below _ (T16.setTop (mkF m 62 #[.val (.int p0), .val (.int n), .val (.ref cN), .val (.int (1 : Int32))] []))
    refine Onw.go (fun own_u kt => XS.iconst X16.here hx rfl (hb hby at_62) kt) ?_
    show Onw p e below _ (T16.setTop (mkF m 63 #[.val (.int p0), .val (.int n), .val (.ref cN), .val (.int (1 : Int32))] [(.int (1 : Int32))]))
    refine Onw.go (fun own_u kt => XS.goto X16.here hx rfl (pc0 := 63) (pc' := 67) rfl (hb hby at_63) (by decide) (by decide) kt) ?_
    show Onw p e below _ (T16.setTop (mkF m 67 #[.val (.int p0), .val (.int n), .val (.ref cN), .val (.int (1 : Int32))] [(.int (1 : Int32))]))
    exact Onw.ret X16 Bd.notSynchronized (fun h => by rw [Bd.returns] at h; cases h) (fun fs hr => retN X16 hx (t := .boolean) Bd.returns (by simp) (hb hby at_67) hr) ⟨rfl, N16⟩ (by decide) (by decide)
  · rw [hx1]
    show Onw p e below _ (T1.setTop (mkF m 14 #[.val (.int p0), .val (.int n), .val (.ref cO), .unset] [(.ref cO)]))
    obtain ⟨T17, X17, e17, st17⟩ := getS2 X1 hx hZ hown (host := "") (Or.inl (hw _ (List.mem_of_getElem? (i := 5) rfl))) Via.refl e1q S_cA (g := (mkF m 14 #[.val (.int p0), .val (.int n), .val (.ref cO), .unset] [(.ref cO)])) rfl (hb hby at_14)
    refine Onw.go st17 ?_
    show Onw p e below _ (T17.setTop (mkF m 17 #[.val (.int p0), .val (.int n), .val (.ref cO), .unset] [(.ref cA), (.ref cO)]))
    refine Onw.go (fun own_u kt => Jvm.RoadKit.acmp (g := (mkF m 17 #[.val (.int p0), .val (.int n), .val (.ref cO), .unset] [(.ref cA), (.ref cO)])) X17 hx rfl rfl rfl (pc0 := 17) (pc' := 20) (same := false) rfl (hb hby at_17) rfl (decide_eq_false fun q => ((fun q => n_cA_cO q.symm) : ¬ (cO = cA)) (Value.ref.inj q)) (by decide) (by decide) kt) ?_
    show Onw p e below _ (T17.setTop (mkF m 20 #[.val (.int p0), .val (.int n), .val (.ref cO), .unset] []))
    refine Onw.go (fun own_u kt => XS.aloadN X17.here hx rfl (hb hby at_20) rfl rfl kt) ?_
    show Onw p e below _ (T17.setTop (mkF m 21 #[.val (.int p0), .val (.int n), .val (.ref cO), .unset] [(.ref cO)]))
    obtain ⟨T18, X18, e18, st18⟩ := getS2 X17 hx hZ hown (host := "") (Or.inl (hw _ (List.mem_of_getElem? (i := 19) rfl))) Via.refl e17 S_cE (g := (mkF m 21 #[.val (.int p0), .val (.int n), .val (.ref cO), .unset] [(.ref cO)])) rfl (hb hby at_21)
    refine Onw.go st18 ?_
    show Onw p e below _ (T18.setTop (mkF m 24 #[.val (.int p0), .val (.int n), .val (.ref cO), .unset] [(.ref cE), (.ref cO)]))
    refine Onw.go (fun own_u kt => Jvm.RoadKit.acmp (g := (mkF m 24 #[.val (.int p0), .val (.int n), .val (.ref cO), .unset] [(.ref cE), (.ref cO)])) X18 hx rfl rfl rfl (pc0 := 24) (pc' := 27) (same := false) rfl (hb hby at_24) rfl (decide_eq_false fun q => ((fun q => n_cE_cO q.symm) : ¬ (cO = cE)) (Value.ref.inj q)) (by decide) (by decide) kt) ?_
    show Onw p e below _ (T18.setTop (mkF m 27 #[.val (.int p0), .val (.int n), .val (.ref cO), .unset] []))
    refine Onw.go (fun own_u kt => XS.aloadN X18.here hx rfl (hb hby at_27) rfl rfl kt) ?_
    show Onw p e below _ (T18.setTop (mkF m 28 #[.val (.int p0), .val (.int n), .val (.ref cO), .unset] [(.ref cO)]))
    obtain ⟨T19, X19, e19, st19⟩ := getS2 X18 hx hZ hown (host := "") (Or.inl (hw _ (List.mem_of_getElem? (i := 17) rfl))) Via.refl e18 S_cN (g := (mkF m 28 #[.val (.int p0), .val (.int n), .val (.ref cO), .unset] [(.ref cO)])) rfl (hb hby at_28)
    refine Onw.go st19 ?_
    show Onw p e below _ (T19.setTop (mkF m 31 #[.val (.int p0), .val (.int n), .val (.ref cO), .unset] [(.ref cN), (.ref cO)]))
    refine Onw.go (fun own_u kt => Jvm.RoadKit.acmp (g := (mkF m 31 #[.val (.int p0), .val (.int n), .val (.ref cO), .unset] [(.ref cN), (.ref cO)])) X19 hx rfl rfl rfl (pc0 := 31) (pc' := 34) (same := false) rfl (hb hby at_31) rfl (decide_eq_false fun q => ((fun q => n_cN_cO q.symm) : ¬ (cO = cN)) (Value.ref.inj q)) (by decide) (by decide) kt) ?_
    show Onw p e below _ (T19.setTop (mkF m 34 #[.val (.int p0), .val (.int n), .val (.ref cO), .unset] []))
    refine Onw.go (fun own_u kt => XS.aloadN X19.here hx rfl (hb hby at_34) rfl rfl kt) ?_
    show Onw p e below _ (T19.setTop (mkF m 35 #[.val (.int p0), .val (.int n), .val (.ref cO), .unset] [(.ref cO)]))
    obtain ⟨T20, X20, e20, st20⟩ := getS2 X19 hx hZ hown (host := "") (Or.inl (hw _ (List.mem_of_getElem? (i := 23) rfl))) Via.refl e19 S_cO (g := (mkF m 35 #[.val (.int p0), .val (.int n), .val (.ref cO), .unset] [(.ref cO)])) rfl (hb hby at_35)
    refine Onw.go st20 ?_
    show Onw p e below _ (T20.setTop (mkF m 38 #[.val (.int p0), .val (.int n), .val (.ref cO), .unset] [(.ref cO), (.ref cO)]))
    refine Onw.go (fun own_u kt => Jvm.RoadKit.acmp (g := (mkF m 38 #[.val (.int p0), .val (.int n), .val (.ref cO), .unset] [(.ref cO), (.ref cO)])) X20 hx rfl rfl rfl (pc0 := 38) (pc' := 48) (same := true) rfl (hb hby at_38) rfl (decide_eq_true (congrArg Value.ref (rfl : cO = cO))) (by decide) (by decide) kt) ?_
    show Onw p e below _ (T20.setTop (mkF m 48 #[.val (.int p0), .val (.int n), .val (.ref cO), .unset] []))
    refine Onw.go (fun own_u kt => XS.iconst X20.here hx rfl (hb hby at_48) kt) ?_
    show Onw p e below _ (T20.setTop (mkF m 49 #[.val (.int p0), .val (.int n), .val (.ref cO), .unset] [(.int (1 : Int32))]))
    refine Onw.go (fun own_u kt => XS.goto X20.here hx rfl (pc0 := 49) (pc' := 53) rfl (hb hby at_49) (by decide) (by decide) kt) ?_
    show Onw p e below _ (T20.setTop (mkF m 53 #[.val (.int p0), .val (.int n), .val (.ref cO), .unset] [(.int (1 : Int32))]))
    refine Onw.go (fun own_u kt => XS.istoreN X20.here hx rfl (hb hby at_53) rfl (l' := #[.val (.int p0), .val (.int n), .val (.ref cO), .val (.int (1 : Int32))]) rfl kt) ?_
    show Onw p e below _ (T20.setTop (mkF m 54 #[.val (.int p0), .val (.int n), .val (.ref cO), .val (.int (1 : Int32))] []))
    refine Onw.go (fun own_u kt => XS.aloadN X20.here hx rfl (hb hby at_54) rfl rfl kt) ?_
    show Onw p e below _ (T20.setTop (mkF m 55 #[.val (.int p0), .val (.int n), .val (.ref cO), .val (.int (1 : Int32))] [(.ref cO)]))
    obtain ⟨cq21, kq21, q21a, q21b, q21c⟩ := isOf hZ e20 E_cO
    obtain ⟨_, _, ⟨T21, L21, k21, n21⟩, -, X21, ⟨Lc21, hQ21, l21, y21, z21⟩, st21⟩ := X20.virtualBack hx (y := (⟨"com/example/callstone/callstone/SqlType$Category", "castsThroughText", "()Z"⟩ : MethodName)) (z := (⟨"com/example/callstone/callstone/SqlType$Category", "castsThroughText", "()Z"⟩ : MethodName)) hown (mvT hZ (hw _ (List.mem_of_getElem? (i := 8) rfl))) (mvT hZ (hw _ (List.mem_of_getElem? (i := 9) rfl))) (notFace_of_selects (args := #[]) (mvT hZ (hw _ (List.mem_of_getElem? (i := 11) rfl)))) (mvT hZ (hw _ (List.mem_of_getElem? (i := 11) rfl))) (mvT hZ (hw _ (List.mem_of_getElem? (i := 10) rfl))) (by decide) (backOf (W := 0) (rm2 l Z a0 hw [] cO cB cU h0 n0 S_cB S_cU) hZ (hw _ (List.mem_of_getElem? (i := 12) rfl)) (hw _ (List.mem_of_getElem? (i := 6) rfl)) (by decide) (by decide)) q21a q21c (g := (mkF m 55 #[.val (.int p0), .val (.int n), .val (.ref cO), .val (.int (1 : Int32))] [(.ref cO)])) rfl (by rw [hml]; rfl) (Steps.refl _) (argsL := []) (rest := []) (lenOf pd_1 rfl) rfl (by show 2 * 0 + _ ≤ _; exact Nat.le_of_eq rfl) (hb hby at_55) (fun _ _ => ⟨rfl, e20, (by decide : 0 + 0 ≤ _), (by decide : 0 + 0 ≤ _)⟩)
    dsimp only [Pt.U, Pt.locs, Pt.cells, Pt.slots] at X21 l21 y21 z21 st21 hQ21
    subst l21 y21 z21
    obtain ⟨rfl, N21q, e21q⟩ := hQ21
    have N21 := Fr.app N1 N21q
    refine Onw.go (fun own_u kt => st21.trans kt) ?_
    show Onw p e below _ (T21.setTop (mkF m 58 #[.val (.int p0), .val (.int n), .val (.ref cO), .val (.int (1 : Int32))] [(.int (own_cast cO cB cU))]))
    rw [(by unfold own_cast; rw [if_neg (fun q => n_cB_cO q.symm), if_neg n_cO_cU] : (own_cast cO cB cU) = (1 : Int32))]
    show Onw p e below _ (T21.setTop (mkF m 58 #[.val (.int p0), .val (.int n), .val (.ref cO), .val (.int (1 : Int32))] [(.int (1 : Int32))]))
    refine Onw.go (fun own_u kt => XS.iloadN X21.here hx rfl (hb hby at_58) rfl kt) ?_
    show Onw p e below _ (T21.setTop (mkF m 59 #[.val (.int p0), .val (.int n), .val (.ref cO), .val (.int (1 : Int32))] [(.int (1 : Int32)), (.int (1 : Int32))]))
    refine Onw.go (fun own_u kt => XS.icmpNo X21.here hx rfl (hb hby at_59) rfl (teq (rfl : (1 : Int32) = (1 : Int32))).2 kt) ?_
    show Onw p e below _ (T21.setTop (mkF m 62 #[.val (.int p0), .val (.int n), .val (.ref cO), .val (.int (1 : Int32))] []))
    refine Onw.go (fun own_u kt => XS.iconst X21.here hx rfl (hb hby at_62) kt) ?_
    show Onw p e below _ (T21.setTop (mkF m 63 #[.val (.int p0), .val (.int n), .val (.ref cO), .val (.int (1 : Int32))] [(.int (1 : Int32))]))
    refine Onw.go (fun own_u kt => XS.goto X21.here hx rfl (pc0 := 63) (pc' := 67) rfl (hb hby at_63) (by decide) (by decide) kt) ?_
    show Onw p e below _ (T21.setTop (mkF m 67 #[.val (.int p0), .val (.int n), .val (.ref cO), .val (.int (1 : Int32))] [(.int (1 : Int32))]))
    exact Onw.ret X21 Bd.notSynchronized (fun h => by rw [Bd.returns] at h; cases h) (fun fs hr => retN X21 hx (t := .boolean) Bd.returns (by simp) (hb hby at_67) hr) ⟨rfl, N21⟩ (by decide) (by decide)
  · rw [hx1]
    show Onw p e below _ (T1.setTop (mkF m 14 #[.val (.int p0), .val (.int n), .val (.ref cD), .unset] [(.ref cD)]))
    obtain ⟨T22, X22, e22, st22⟩ := getS2 X1 hx hZ hown (host := "") (Or.inl (hw _ (List.mem_of_getElem? (i := 5) rfl))) Via.refl e1q S_cA (g := (mkF m 14 #[.val (.int p0), .val (.int n), .val (.ref cD), .unset] [(.ref cD)])) rfl (hb hby at_14)
    refine Onw.go st22 ?_
    show Onw p e below _ (T22.setTop (mkF m 17 #[.val (.int p0), .val (.int n), .val (.ref cD), .unset] [(.ref cA), (.ref cD)]))
    refine Onw.go (fun own_u kt => Jvm.RoadKit.acmp (g := (mkF m 17 #[.val (.int p0), .val (.int n), .val (.ref cD), .unset] [(.ref cA), (.ref cD)])) X22 hx rfl rfl rfl (pc0 := 17) (pc' := 20) (same := false) rfl (hb hby at_17) rfl (decide_eq_false fun q => ((fun q => n_cA_cD q.symm) : ¬ (cD = cA)) (Value.ref.inj q)) (by decide) (by decide) kt) ?_
    show Onw p e below _ (T22.setTop (mkF m 20 #[.val (.int p0), .val (.int n), .val (.ref cD), .unset] []))
    refine Onw.go (fun own_u kt => XS.aloadN X22.here hx rfl (hb hby at_20) rfl rfl kt) ?_
    show Onw p e below _ (T22.setTop (mkF m 21 #[.val (.int p0), .val (.int n), .val (.ref cD), .unset] [(.ref cD)]))
    obtain ⟨T23, X23, e23, st23⟩ := getS2 X22 hx hZ hown (host := "") (Or.inl (hw _ (List.mem_of_getElem? (i := 19) rfl))) Via.refl e22 S_cE (g := (mkF m 21 #[.val (.int p0), .val (.int n), .val (.ref cD), .unset] [(.ref cD)])) rfl (hb hby at_21)
    refine Onw.go st23 ?_
    show Onw p e below _ (T23.setTop (mkF m 24 #[.val (.int p0), .val (.int n), .val (.ref cD), .unset] [(.ref cE), (.ref cD)]))
    refine Onw.go (fun own_u kt => Jvm.RoadKit.acmp (g := (mkF m 24 #[.val (.int p0), .val (.int n), .val (.ref cD), .unset] [(.ref cE), (.ref cD)])) X23 hx rfl rfl rfl (pc0 := 24) (pc' := 27) (same := false) rfl (hb hby at_24) rfl (decide_eq_false fun q => ((fun q => n_cE_cD q.symm) : ¬ (cD = cE)) (Value.ref.inj q)) (by decide) (by decide) kt) ?_
    show Onw p e below _ (T23.setTop (mkF m 27 #[.val (.int p0), .val (.int n), .val (.ref cD), .unset] []))
    refine Onw.go (fun own_u kt => XS.aloadN X23.here hx rfl (hb hby at_27) rfl rfl kt) ?_
    show Onw p e below _ (T23.setTop (mkF m 28 #[.val (.int p0), .val (.int n), .val (.ref cD), .unset] [(.ref cD)]))
    obtain ⟨T24, X24, e24, st24⟩ := getS2 X23 hx hZ hown (host := "") (Or.inl (hw _ (List.mem_of_getElem? (i := 17) rfl))) Via.refl e23 S_cN (g := (mkF m 28 #[.val (.int p0), .val (.int n), .val (.ref cD), .unset] [(.ref cD)])) rfl (hb hby at_28)
    refine Onw.go st24 ?_
    show Onw p e below _ (T24.setTop (mkF m 31 #[.val (.int p0), .val (.int n), .val (.ref cD), .unset] [(.ref cN), (.ref cD)]))
    refine Onw.go (fun own_u kt => Jvm.RoadKit.acmp (g := (mkF m 31 #[.val (.int p0), .val (.int n), .val (.ref cD), .unset] [(.ref cN), (.ref cD)])) X24 hx rfl rfl rfl (pc0 := 31) (pc' := 34) (same := false) rfl (hb hby at_31) rfl (decide_eq_false fun q => ((fun q => n_cN_cD q.symm) : ¬ (cD = cN)) (Value.ref.inj q)) (by decide) (by decide) kt) ?_
    show Onw p e below _ (T24.setTop (mkF m 34 #[.val (.int p0), .val (.int n), .val (.ref cD), .unset] []))
    refine Onw.go (fun own_u kt => XS.aloadN X24.here hx rfl (hb hby at_34) rfl rfl kt) ?_
    show Onw p e below _ (T24.setTop (mkF m 35 #[.val (.int p0), .val (.int n), .val (.ref cD), .unset] [(.ref cD)]))
    obtain ⟨T25, X25, e25, st25⟩ := getS2 X24 hx hZ hown (host := "") (Or.inl (hw _ (List.mem_of_getElem? (i := 23) rfl))) Via.refl e24 S_cO (g := (mkF m 35 #[.val (.int p0), .val (.int n), .val (.ref cD), .unset] [(.ref cD)])) rfl (hb hby at_35)
    refine Onw.go st25 ?_
    show Onw p e below _ (T25.setTop (mkF m 38 #[.val (.int p0), .val (.int n), .val (.ref cD), .unset] [(.ref cO), (.ref cD)]))
    refine Onw.go (fun own_u kt => Jvm.RoadKit.acmp (g := (mkF m 38 #[.val (.int p0), .val (.int n), .val (.ref cD), .unset] [(.ref cO), (.ref cD)])) X25 hx rfl rfl rfl (pc0 := 38) (pc' := 41) (same := false) rfl (hb hby at_38) rfl (decide_eq_false fun q => ((fun q => n_cO_cD q.symm) : ¬ (cD = cO)) (Value.ref.inj q)) (by decide) (by decide) kt) ?_
    show Onw p e below _ (T25.setTop (mkF m 41 #[.val (.int p0), .val (.int n), .val (.ref cD), .unset] []))
    refine Onw.go (fun own_u kt => XS.aloadN X25.here hx rfl (hb hby at_41) rfl rfl kt) ?_
    show Onw p e below _ (T25.setTop (mkF m 42 #[.val (.int p0), .val (.int n), .val (.ref cD), .unset] [(.ref cD)]))
    obtain ⟨T26, X26, e26, st26⟩ := getS2 X25 hx hZ hown (host := "") (Or.inl (hw _ (List.mem_of_getElem? (i := 21) rfl))) Via.refl e25 S_cD (g := (mkF m 42 #[.val (.int p0), .val (.int n), .val (.ref cD), .unset] [(.ref cD)])) rfl (hb hby at_42)
    refine Onw.go st26 ?_
    show Onw p e below _ (T26.setTop (mkF m 45 #[.val (.int p0), .val (.int n), .val (.ref cD), .unset] [(.ref cD), (.ref cD)]))
    refine Onw.go (fun own_u kt => Jvm.RoadKit.acmp (g := (mkF m 45 #[.val (.int p0), .val (.int n), .val (.ref cD), .unset] [(.ref cD), (.ref cD)])) X26 hx rfl rfl rfl (pc0 := 45) (pc' := 48) (same := true) rfl (hb hby at_45) rfl (decide_eq_true (congrArg Value.ref (rfl : cD = cD))) (by decide) (by decide) kt) ?_
    show Onw p e below _ (T26.setTop (mkF m 48 #[.val (.int p0), .val (.int n), .val (.ref cD), .unset] []))
    refine Onw.go (fun own_u kt => XS.iconst X26.here hx rfl (hb hby at_48) kt) ?_
    show Onw p e below _ (T26.setTop (mkF m 49 #[.val (.int p0), .val (.int n), .val (.ref cD), .unset] [(.int (1 : Int32))]))
    refine Onw.go (fun own_u kt => XS.goto X26.here hx rfl (pc0 := 49) (pc' := 53) rfl (hb hby at_49) (by decide) (by decide) kt) ?_
    show Onw p e below _ (T26.setTop (mkF m 53 #[.val (.int p0), .val (.int n), .val (.ref cD), .unset] [(.int (1 : Int32))]))
    refine Onw.go (fun own_u kt => XS.istoreN X26.here hx rfl (hb hby at_53) rfl (l' := #[.val (.int p0), .val (.int n), .val (.ref cD), .val (.int (1 : Int32))]) rfl kt) ?_
    show Onw p e below _ (T26.setTop (mkF m 54 #[.val (.int p0), .val (.int n), .val (.ref cD), .val (.int (1 : Int32))] []))
    refine Onw.go (fun own_u kt => XS.aloadN X26.here hx rfl (hb hby at_54) rfl rfl kt) ?_
    show Onw p e below _ (T26.setTop (mkF m 55 #[.val (.int p0), .val (.int n), .val (.ref cD), .val (.int (1 : Int32))] [(.ref cD)]))
    obtain ⟨cq27, kq27, q27a, q27b, q27c⟩ := isOf hZ e26 E_cD
    obtain ⟨_, _, ⟨T27, L27, k27, n27⟩, -, X27, ⟨Lc27, hQ27, l27, y27, z27⟩, st27⟩ := X26.virtualBack hx (y := (⟨"com/example/callstone/callstone/SqlType$Category", "castsThroughText", "()Z"⟩ : MethodName)) (z := (⟨"com/example/callstone/callstone/SqlType$Category", "castsThroughText", "()Z"⟩ : MethodName)) hown (mvT hZ (hw _ (List.mem_of_getElem? (i := 8) rfl))) (mvT hZ (hw _ (List.mem_of_getElem? (i := 9) rfl))) (notFace_of_selects (args := #[]) (mvT hZ (hw _ (List.mem_of_getElem? (i := 11) rfl)))) (mvT hZ (hw _ (List.mem_of_getElem? (i := 11) rfl))) (mvT hZ (hw _ (List.mem_of_getElem? (i := 10) rfl))) (by decide) (backOf (W := 0) (rm2 l Z a0 hw [] cD cB cU h0 n0 S_cB S_cU) hZ (hw _ (List.mem_of_getElem? (i := 12) rfl)) (hw _ (List.mem_of_getElem? (i := 6) rfl)) (by decide) (by decide)) q27a q27c (g := (mkF m 55 #[.val (.int p0), .val (.int n), .val (.ref cD), .val (.int (1 : Int32))] [(.ref cD)])) rfl (by rw [hml]; rfl) (Steps.refl _) (argsL := []) (rest := []) (lenOf pd_1 rfl) rfl (by show 2 * 0 + _ ≤ _; exact Nat.le_of_eq rfl) (hb hby at_55) (fun _ _ => ⟨rfl, e26, (by decide : 0 + 0 ≤ _), (by decide : 0 + 0 ≤ _)⟩)
    dsimp only [Pt.U, Pt.locs, Pt.cells, Pt.slots] at X27 l27 y27 z27 st27 hQ27
    subst l27 y27 z27
    obtain ⟨rfl, N27q, e27q⟩ := hQ27
    have N27 := Fr.app N1 N27q
    refine Onw.go (fun own_u kt => st27.trans kt) ?_
    show Onw p e below _ (T27.setTop (mkF m 58 #[.val (.int p0), .val (.int n), .val (.ref cD), .val (.int (1 : Int32))] [(.int (own_cast cD cB cU))]))
    rw [(by unfold own_cast; rw [if_neg (fun q => n_cB_cD q.symm), if_neg n_cD_cU] : (own_cast cD cB cU) = (1 : Int32))]
    show Onw p e below _ (T27.setTop (mkF m 58 #[.val (.int p0), .val (.int n), .val (.ref cD), .val (.int (1 : Int32))] [(.int (1 : Int32))]))
    refine Onw.go (fun own_u kt => XS.iloadN X27.here hx rfl (hb hby at_58) rfl kt) ?_
    show Onw p e below _ (T27.setTop (mkF m 59 #[.val (.int p0), .val (.int n), .val (.ref cD), .val (.int (1 : Int32))] [(.int (1 : Int32)), (.int (1 : Int32))]))
    refine Onw.go (fun own_u kt => XS.icmpNo X27.here hx rfl (hb hby at_59) rfl (teq (rfl : (1 : Int32) = (1 : Int32))).2 kt) ?_
    show Onw p e below _ (T27.setTop (mkF m 62 #[.val (.int p0), .val (.int n), .val (.ref cD), .val (.int (1 : Int32))] []))
    refine Onw.go (fun own_u kt => XS.iconst X27.here hx rfl (hb hby at_62) kt) ?_
    show Onw p e below _ (T27.setTop (mkF m 63 #[.val (.int p0), .val (.int n), .val (.ref cD), .val (.int (1 : Int32))] [(.int (1 : Int32))]))
    refine Onw.go (fun own_u kt => XS.goto X27.here hx rfl (pc0 := 63) (pc' := 67) rfl (hb hby at_63) (by decide) (by decide) kt) ?_
    show Onw p e below _ (T27.setTop (mkF m 67 #[.val (.int p0), .val (.int n), .val (.ref cD), .val (.int (1 : Int32))] [(.int (1 : Int32))]))
    exact Onw.ret X27 Bd.notSynchronized (fun h => by rw [Bd.returns] at h; cases h) (fun fs hr => retN X27 hx (t := .boolean) Bd.returns (by simp) (hb hby at_67) hr) ⟨rfl, N27⟩ (by decide) (by decide)
  · rw [hx1]
    show Onw p e below _ (T1.setTop (mkF m 14 #[.val (.int p0), .val (.int n), .val (.ref cU), .unset] [(.ref cU)]))
    obtain ⟨T28, X28, e28, st28⟩ := getS2 X1 hx hZ hown (host := "") (Or.inl (hw _ (List.mem_of_getElem? (i := 5) rfl))) Via.refl e1q S_cA (g := (mkF m 14 #[.val (.int p0), .val (.int n), .val (.ref cU), .unset] [(.ref cU)])) rfl (hb hby at_14)
    refine Onw.go st28 ?_
    show Onw p e below _ (T28.setTop (mkF m 17 #[.val (.int p0), .val (.int n), .val (.ref cU), .unset] [(.ref cA), (.ref cU)]))
    refine Onw.go (fun own_u kt => Jvm.RoadKit.acmp (g := (mkF m 17 #[.val (.int p0), .val (.int n), .val (.ref cU), .unset] [(.ref cA), (.ref cU)])) X28 hx rfl rfl rfl (pc0 := 17) (pc' := 20) (same := false) rfl (hb hby at_17) rfl (decide_eq_false fun q => ((fun q => n_cA_cU q.symm) : ¬ (cU = cA)) (Value.ref.inj q)) (by decide) (by decide) kt) ?_
    show Onw p e below _ (T28.setTop (mkF m 20 #[.val (.int p0), .val (.int n), .val (.ref cU), .unset] []))
    refine Onw.go (fun own_u kt => XS.aloadN X28.here hx rfl (hb hby at_20) rfl rfl kt) ?_
    show Onw p e below _ (T28.setTop (mkF m 21 #[.val (.int p0), .val (.int n), .val (.ref cU), .unset] [(.ref cU)]))
    obtain ⟨T29, X29, e29, st29⟩ := getS2 X28 hx hZ hown (host := "") (Or.inl (hw _ (List.mem_of_getElem? (i := 19) rfl))) Via.refl e28 S_cE (g := (mkF m 21 #[.val (.int p0), .val (.int n), .val (.ref cU), .unset] [(.ref cU)])) rfl (hb hby at_21)
    refine Onw.go st29 ?_
    show Onw p e below _ (T29.setTop (mkF m 24 #[.val (.int p0), .val (.int n), .val (.ref cU), .unset] [(.ref cE), (.ref cU)]))
    refine Onw.go (fun own_u kt => Jvm.RoadKit.acmp (g := (mkF m 24 #[.val (.int p0), .val (.int n), .val (.ref cU), .unset] [(.ref cE), (.ref cU)])) X29 hx rfl rfl rfl (pc0 := 24) (pc' := 27) (same := false) rfl (hb hby at_24) rfl (decide_eq_false fun q => ((fun q => n_cE_cU q.symm) : ¬ (cU = cE)) (Value.ref.inj q)) (by decide) (by decide) kt) ?_
    show Onw p e below _ (T29.setTop (mkF m 27 #[.val (.int p0), .val (.int n), .val (.ref cU), .unset] []))
    refine Onw.go (fun own_u kt => XS.aloadN X29.here hx rfl (hb hby at_27) rfl rfl kt) ?_
    show Onw p e below _ (T29.setTop (mkF m 28 #[.val (.int p0), .val (.int n), .val (.ref cU), .unset] [(.ref cU)]))
    obtain ⟨T30, X30, e30, st30⟩ := getS2 X29 hx hZ hown (host := "") (Or.inl (hw _ (List.mem_of_getElem? (i := 17) rfl))) Via.refl e29 S_cN (g := (mkF m 28 #[.val (.int p0), .val (.int n), .val (.ref cU), .unset] [(.ref cU)])) rfl (hb hby at_28)
    refine Onw.go st30 ?_
    show Onw p e below _ (T30.setTop (mkF m 31 #[.val (.int p0), .val (.int n), .val (.ref cU), .unset] [(.ref cN), (.ref cU)]))
    refine Onw.go (fun own_u kt => Jvm.RoadKit.acmp (g := (mkF m 31 #[.val (.int p0), .val (.int n), .val (.ref cU), .unset] [(.ref cN), (.ref cU)])) X30 hx rfl rfl rfl (pc0 := 31) (pc' := 34) (same := false) rfl (hb hby at_31) rfl (decide_eq_false fun q => ((fun q => n_cN_cU q.symm) : ¬ (cU = cN)) (Value.ref.inj q)) (by decide) (by decide) kt) ?_
    show Onw p e below _ (T30.setTop (mkF m 34 #[.val (.int p0), .val (.int n), .val (.ref cU), .unset] []))
    refine Onw.go (fun own_u kt => XS.aloadN X30.here hx rfl (hb hby at_34) rfl rfl kt) ?_
    show Onw p e below _ (T30.setTop (mkF m 35 #[.val (.int p0), .val (.int n), .val (.ref cU), .unset] [(.ref cU)]))
    obtain ⟨T31, X31, e31, st31⟩ := getS2 X30 hx hZ hown (host := "") (Or.inl (hw _ (List.mem_of_getElem? (i := 23) rfl))) Via.refl e30 S_cO (g := (mkF m 35 #[.val (.int p0), .val (.int n), .val (.ref cU), .unset] [(.ref cU)])) rfl (hb hby at_35)
    refine Onw.go st31 ?_
    show Onw p e below _ (T31.setTop (mkF m 38 #[.val (.int p0), .val (.int n), .val (.ref cU), .unset] [(.ref cO), (.ref cU)]))
    refine Onw.go (fun own_u kt => Jvm.RoadKit.acmp (g := (mkF m 38 #[.val (.int p0), .val (.int n), .val (.ref cU), .unset] [(.ref cO), (.ref cU)])) X31 hx rfl rfl rfl (pc0 := 38) (pc' := 41) (same := false) rfl (hb hby at_38) rfl (decide_eq_false fun q => ((fun q => n_cO_cU q.symm) : ¬ (cU = cO)) (Value.ref.inj q)) (by decide) (by decide) kt) ?_
    show Onw p e below _ (T31.setTop (mkF m 41 #[.val (.int p0), .val (.int n), .val (.ref cU), .unset] []))
    refine Onw.go (fun own_u kt => XS.aloadN X31.here hx rfl (hb hby at_41) rfl rfl kt) ?_
    show Onw p e below _ (T31.setTop (mkF m 42 #[.val (.int p0), .val (.int n), .val (.ref cU), .unset] [(.ref cU)]))
    obtain ⟨T32, X32, e32, st32⟩ := getS2 X31 hx hZ hown (host := "") (Or.inl (hw _ (List.mem_of_getElem? (i := 21) rfl))) Via.refl e31 S_cD (g := (mkF m 42 #[.val (.int p0), .val (.int n), .val (.ref cU), .unset] [(.ref cU)])) rfl (hb hby at_42)
    refine Onw.go st32 ?_
    show Onw p e below _ (T32.setTop (mkF m 45 #[.val (.int p0), .val (.int n), .val (.ref cU), .unset] [(.ref cD), (.ref cU)]))
    refine Onw.go (fun own_u kt => Jvm.RoadKit.acmp (g := (mkF m 45 #[.val (.int p0), .val (.int n), .val (.ref cU), .unset] [(.ref cD), (.ref cU)])) X32 hx rfl rfl rfl (pc0 := 45) (pc' := 52) (same := false) rfl (hb hby at_45) rfl (decide_eq_false fun q => ((fun q => n_cD_cU q.symm) : ¬ (cU = cD)) (Value.ref.inj q)) (by decide) (by decide) kt) ?_
    show Onw p e below _ (T32.setTop (mkF m 52 #[.val (.int p0), .val (.int n), .val (.ref cU), .unset] []))
    refine Onw.go (fun own_u kt => XS.iconst X32.here hx rfl (hb hby at_52) kt) ?_
    show Onw p e below _ (T32.setTop (mkF m 53 #[.val (.int p0), .val (.int n), .val (.ref cU), .unset] [(.int (0 : Int32))]))
    refine Onw.go (fun own_u kt => XS.istoreN X32.here hx rfl (hb hby at_53) rfl (l' := #[.val (.int p0), .val (.int n), .val (.ref cU), .val (.int (0 : Int32))]) rfl kt) ?_
    show Onw p e below _ (T32.setTop (mkF m 54 #[.val (.int p0), .val (.int n), .val (.ref cU), .val (.int (0 : Int32))] []))
    refine Onw.go (fun own_u kt => XS.aloadN X32.here hx rfl (hb hby at_54) rfl rfl kt) ?_
    show Onw p e below _ (T32.setTop (mkF m 55 #[.val (.int p0), .val (.int n), .val (.ref cU), .val (.int (0 : Int32))] [(.ref cU)]))
    obtain ⟨cq33, kq33, q33a, q33b, q33c⟩ := isOf hZ e32 E_cU
    obtain ⟨_, _, ⟨T33, L33, k33, n33⟩, -, X33, ⟨Lc33, hQ33, l33, y33, z33⟩, st33⟩ := X32.virtualBack hx (y := (⟨"com/example/callstone/callstone/SqlType$Category", "castsThroughText", "()Z"⟩ : MethodName)) (z := (⟨"com/example/callstone/callstone/SqlType$Category", "castsThroughText", "()Z"⟩ : MethodName)) hown (mvT hZ (hw _ (List.mem_of_getElem? (i := 8) rfl))) (mvT hZ (hw _ (List.mem_of_getElem? (i := 9) rfl))) (notFace_of_selects (args := #[]) (mvT hZ (hw _ (List.mem_of_getElem? (i := 11) rfl)))) (mvT hZ (hw _ (List.mem_of_getElem? (i := 11) rfl))) (mvT hZ (hw _ (List.mem_of_getElem? (i := 10) rfl))) (by decide) (backOf (W := 0) (rm2 l Z a0 hw [] cU cB cU h0 n0 S_cB S_cU) hZ (hw _ (List.mem_of_getElem? (i := 12) rfl)) (hw _ (List.mem_of_getElem? (i := 6) rfl)) (by decide) (by decide)) q33a q33c (g := (mkF m 55 #[.val (.int p0), .val (.int n), .val (.ref cU), .val (.int (0 : Int32))] [(.ref cU)])) rfl (by rw [hml]; rfl) (Steps.refl _) (argsL := []) (rest := []) (lenOf pd_1 rfl) rfl (by show 2 * 0 + _ ≤ _; exact Nat.le_of_eq rfl) (hb hby at_55) (fun _ _ => ⟨rfl, e32, (by decide : 0 + 0 ≤ _), (by decide : 0 + 0 ≤ _)⟩)
    dsimp only [Pt.U, Pt.locs, Pt.cells, Pt.slots] at X33 l33 y33 z33 st33 hQ33
    subst l33 y33 z33
    obtain ⟨rfl, N33q, e33q⟩ := hQ33
    have N33 := Fr.app N1 N33q
    refine Onw.go (fun own_u kt => st33.trans kt) ?_
    show Onw p e below _ (T33.setTop (mkF m 58 #[.val (.int p0), .val (.int n), .val (.ref cU), .val (.int (0 : Int32))] [(.int (own_cast cU cB cU))]))
    rw [(by unfold own_cast; rw [if_neg (fun q => n_cB_cU q.symm), if_pos rfl] : (own_cast cU cB cU) = (0 : Int32))]
    show Onw p e below _ (T33.setTop (mkF m 58 #[.val (.int p0), .val (.int n), .val (.ref cU), .val (.int (0 : Int32))] [(.int (0 : Int32))]))
    refine Onw.go (fun own_u kt => XS.iloadN X33.here hx rfl (hb hby at_58) rfl kt) ?_
    show Onw p e below _ (T33.setTop (mkF m 59 #[.val (.int p0), .val (.int n), .val (.ref cU), .val (.int (0 : Int32))] [(.int (0 : Int32)), (.int (0 : Int32))]))
    refine Onw.go (fun own_u kt => XS.icmpNo X33.here hx rfl (hb hby at_59) rfl (teq (rfl : (0 : Int32) = (0 : Int32))).2 kt) ?_
    show Onw p e below _ (T33.setTop (mkF m 62 #[.val (.int p0), .val (.int n), .val (.ref cU), .val (.int (0 : Int32))] []))
    refine Onw.go (fun own_u kt => XS.iconst X33.here hx rfl (hb hby at_62) kt) ?_
    show Onw p e below _ (T33.setTop (mkF m 63 #[.val (.int p0), .val (.int n), .val (.ref cU), .val (.int (0 : Int32))] [(.int (1 : Int32))]))
    refine Onw.go (fun own_u kt => XS.goto X33.here hx rfl (pc0 := 63) (pc' := 67) rfl (hb hby at_63) (by decide) (by decide) kt) ?_
    show Onw p e below _ (T33.setTop (mkF m 67 #[.val (.int p0), .val (.int n), .val (.ref cU), .val (.int (0 : Int32))] [(.int (1 : Int32))]))
    exact Onw.ret X33 Bd.notSynchronized (fun h => by rw [Bd.returns] at h; cases h) (fun fs hr => retN X33 hx (t := .boolean) Bd.returns (by simp) (hb hby at_67) hr) ⟨rfl, N33⟩ (by decide) (by decide)
set_option maxRecDepth 65536 in
set_option maxHeartbeats 40000000 in
theorem comes_1 {Post : Tables → Env → Array Value → State → Outcome → State → Prop} (hpost : ∀ tb e args s v u, (limb_1_1.after args s (.returned v) u = true ∧ limb_1_2.after args s (.returned v) u = true ∧ True) → FrameEnd s (.returned v) u (Jvm.fieldLocs frame_1_writes args s ++ Jvm.arrayLocs frame_1_arrays args s ++ Jvm.staticLocs frame_1_statics s) 0 0 → Post tb e args s (.returned v) u) :
    ArmFor flags0 classFile x code maxLocals ret World_1 tables_1 room_1 Calls_1 rest_1 Pre_1 Post := by
  intro l hfl _ _ p e ha hc hk s m args below hf hA hF happ hP
  obtain ⟨hcalls, hrest, hpre⟩ := hP
  obtain ⟨-, -, -, hnamed, -, -, -, hat⟩ := (Spec.applies_iff hf).mp happ
  obtain ⟨hg, hn⟩ := and_e (Cond.before_iff.mp (show (Jvm.Cond.and given_1 narrow_1).before args s = true from hpre))
  obtain ⟨g1, g2⟩ := and_e hg
  obtain ⟨w0, rfl⟩ : ∃ w0 : Value, args = #[w0] := by
    have hs : args.size = 1 := by simpa [Cond.value, given_1] using g1
    obtain ⟨L⟩ := args
    match L, hs with
    | [w0], _ => exact ⟨w0, rfl⟩
  have hw := fun d (hd : d ∈ tables_1) => atoms_spec (ws := Jvm.Cond.code x code maxLocals ret :: tables_1) hat d (List.mem_cons_of_mem _ hd)
  have hfit : Fit s := fun {y c} hc i hi => by
    obtain ⟨ha, rfl⟩ := Array.getElem?_eq_some_iff.mp hc
    have q := List.all_eq_true.mp ((Array.all_eq_true_iff_forall_mem.mp hF) _ (Array.getElem_mem ha)) i (List.mem_range.mpr hi)
    simpa [Array.getElem?_eq_getElem hi] using q
  obtain ⟨i0, ei0⟩ := is_v g2
  obtain rfl : w0 = (.int i0) := Option.some.inj ei0
  obtain ⟨u1, u2⟩ := and_e hn
  obtain ⟨u3, u4⟩ := and_e u2
  obtain ⟨u5, u6⟩ := and_e u4
  obtain ⟨u7, u8⟩ := and_e u6
  obtain ⟨u9, u10⟩ := and_e u8
  obtain ⟨u11, u12⟩ := and_e u10
  obtain ⟨u13, u14⟩ := and_e u12
  obtain ⟨u15, u16⟩ := and_e u14
  obtain ⟨u17, u18⟩ := and_e u16
  obtain ⟨u19, u20⟩ := and_e u18
  obtain ⟨u21, u22⟩ := and_e u20
  obtain ⟨u23, u24⟩ := and_e u22
  obtain ⟨u25, u26⟩ := and_e u24
  obtain ⟨cA, ev_cA⟩ := exa_v u1
  have E_cA := Exa.start ev_cA u1
  have S_cA := Sta.start ev_cA (Or.inr ⟨(hw _ (List.mem_of_getElem? (i := 6) rfl)), (hw _ (List.mem_of_getElem? (i := 7) rfl))⟩)
  have O_cA := Fld.start ((fld_at ev_cA).symm.trans (Cond.eq_int (Cond.before_iff.mpr u5) rfl))
  obtain ⟨cB, ev_cB⟩ := exa_v u3
  have E_cB := Exa.start ev_cB u3
  have S_cB := Sta.start ev_cB (Or.inr ⟨(hw _ (List.mem_of_getElem? (i := 6) rfl)), (hw _ (List.mem_of_getElem? (i := 14) rfl))⟩)
  have O_cB := Fld.start ((fld_at ev_cB).symm.trans (Cond.eq_int (Cond.before_iff.mpr u7) rfl))
  obtain ⟨cE, ev_cE⟩ := exa_v u17
  have E_cE := Exa.start ev_cE u17
  have S_cE := Sta.start ev_cE (Or.inr ⟨(hw _ (List.mem_of_getElem? (i := 6) rfl)), (hw _ (List.mem_of_getElem? (i := 20) rfl))⟩)
  have O_cE := Fld.start ((fld_at ev_cE).symm.trans (Cond.eq_int (Cond.before_iff.mpr u19) rfl))
  obtain ⟨cN, ev_cN⟩ := exa_v u13
  have E_cN := Exa.start ev_cN u13
  have S_cN := Sta.start ev_cN (Or.inr ⟨(hw _ (List.mem_of_getElem? (i := 6) rfl)), (hw _ (List.mem_of_getElem? (i := 18) rfl))⟩)
  have O_cN := Fld.start ((fld_at ev_cN).symm.trans (Cond.eq_int (Cond.before_iff.mpr u15) rfl))
  obtain ⟨cO, ev_cO⟩ := exa_v u25
  have E_cO := Exa.start ev_cO u25
  have S_cO := Sta.start ev_cO (Or.inr ⟨(hw _ (List.mem_of_getElem? (i := 6) rfl)), (hw _ (List.mem_of_getElem? (i := 24) rfl))⟩)
  have O_cO := Fld.start ((fld_at ev_cO).symm.trans (Cond.eq_int (Cond.before_iff.mpr u26) rfl))
  obtain ⟨cD, ev_cD⟩ := exa_v u21
  have E_cD := Exa.start ev_cD u21
  have S_cD := Sta.start ev_cD (Or.inr ⟨(hw _ (List.mem_of_getElem? (i := 6) rfl)), (hw _ (List.mem_of_getElem? (i := 22) rfl))⟩)
  have O_cD := Fld.start ((fld_at ev_cD).symm.trans (Cond.eq_int (Cond.before_iff.mpr u23) rfl))
  obtain ⟨cU, ev_cU⟩ := exa_v u9
  have E_cU := Exa.start ev_cU u9
  have S_cU := Sta.start ev_cU (Or.inr ⟨(hw _ (List.mem_of_getElem? (i := 6) rfl)), (hw _ (List.mem_of_getElem? (i := 16) rfl))⟩)
  have O_cU := Fld.start ((fld_at ev_cU).symm.trans (Cond.eq_int (Cond.before_iff.mpr u11) rfl))
  have n_cA_cB : ¬ (cA = cB) := Fld.ne O_cA O_cB (by decide)
  have n_cA_cE : ¬ (cA = cE) := Fld.ne O_cA O_cE (by decide)
  have n_cA_cN : ¬ (cA = cN) := Fld.ne O_cA O_cN (by decide)
  have n_cA_cO : ¬ (cA = cO) := Fld.ne O_cA O_cO (by decide)
  have n_cA_cD : ¬ (cA = cD) := Fld.ne O_cA O_cD (by decide)
  have n_cA_cU : ¬ (cA = cU) := Fld.ne O_cA O_cU (by decide)
  have n_cB_cE : ¬ (cB = cE) := Fld.ne O_cB O_cE (by decide)
  have n_cB_cN : ¬ (cB = cN) := Fld.ne O_cB O_cN (by decide)
  have n_cB_cO : ¬ (cB = cO) := Fld.ne O_cB O_cO (by decide)
  have n_cB_cD : ¬ (cB = cD) := Fld.ne O_cB O_cD (by decide)
  have n_cB_cU : ¬ (cB = cU) := Fld.ne O_cB O_cU (by decide)
  have n_cE_cN : ¬ (cE = cN) := Fld.ne O_cE O_cN (by decide)
  have n_cE_cO : ¬ (cE = cO) := Fld.ne O_cE O_cO (by decide)
  have n_cE_cD : ¬ (cE = cD) := Fld.ne O_cE O_cD (by decide)
  have n_cE_cU : ¬ (cE = cU) := Fld.ne O_cE O_cU (by decide)
  have n_cN_cO : ¬ (cN = cO) := Fld.ne O_cN O_cO (by decide)
  have n_cN_cD : ¬ (cN = cD) := Fld.ne O_cN O_cD (by decide)
  have n_cN_cU : ¬ (cN = cU) := Fld.ne O_cN O_cU (by decide)
  have n_cO_cD : ¬ (cO = cD) := Fld.ne O_cO O_cD (by decide)
  have n_cO_cU : ¬ (cO = cU) := Fld.ne O_cO O_cU (by decide)
  have n_cD_cU : ¬ (cD = cU) := Fld.ne O_cD O_cU (by decide)
  obtain ⟨n, o, h1, h2, h3, _, L, rfl, ⟨rfl, N⟩, hq⟩ := rm0 l s _ hw tables_1 i0 cA cB cE cN cO cD cU s.heap s.heap.size S_cA S_cB S_cE S_cN S_cO S_cD S_cU E_cA E_cB E_cE E_cN E_cO E_cD E_cU n_cA_cB n_cA_cE n_cA_cN n_cA_cO n_cA_cD n_cA_cU n_cB_cE n_cB_cN n_cB_cO n_cB_cD n_cB_cU n_cE_cN n_cE_cO n_cE_cD n_cE_cU n_cN_cO n_cN_cD n_cN_cU n_cO_cD n_cO_cU n_cD_cU p e ha hc hk s m _ below hf ((Spec.applies_iff_loose hf).mp happ).1 ⟨rfl, State.Warmed39.refl s, rfl⟩ trivial
  refine ⟨n, _, h1, h2, h3, hpost _ _ _ _ _ _ ⟨Cond.after_iff.mpr rfl, Cond.after_iff.mpr (eq_i res_at (Term.int_eval (1)) rfl), trivial⟩ ⟨hq.1, hq.2.1, (hq.2.2.sift fun y hy => Or.inr (N y hy)).mono (by decide) (by decide)⟩⟩
theorem main_1_1 : Claimed_1_1 := comes_1 fun _ _ _ _ _ _ h hF => ⟨h.1, hF⟩
theorem main_1_2 : Claimed_1_2 := comes_1 fun _ _ _ _ _ _ h hF => ⟨h.2.1, hF⟩
end Jvm.Pilot.@@N@@
namespace Jvm.Pilot.@@N@@
open Jvm Jvm.ClassFile Sem Op Lib Jvm.Free Jvm.Stand Jvm.Pilot.@@N@@.Jvm.D
/-! MADE BY PROGRAM (witnessworld.py) out of the Statement's table words and the real class files: 12 classes; the members and pool entries that the words name. The judged class is class 1, her method 1. -/
namespace start1
open Jvm.ClassFile
def u (s : String) : CpInfo := .utf8 (stringToUtf16 s)
/-- a pool by its gaps: so many unusable entries, then the entry; so many at the end -/
def gap : Nat → List CpInfo → List CpInfo
  | 0, r => r
  | n + 1, r => .unusable :: gap n r
def poolList (es : List (Nat × CpInfo)) (last : Nat) : List CpInfo := es.foldr (fun e r => gap e.1 (e.2 :: r)) (gap last [])
def pool (es : List (Nat × CpInfo)) (last : Nat) : Array CpInfo := ⟨poolList es last⟩
def fileOf (pool : Array CpInfo) (this : Nat) (attrs : Array Attribute := #[]) (ms : Array MethodInfo := #[]) (fl : Nat := 33) (sup : Nat := 0) (ifs : Array Nat := #[]) (fds : Array FieldInfo := #[]) : ClassFile where
  minorVersion := 0
  majorVersion := 65
  constantPool := pool
  accessFlags := fl
  thisClass := this
  superClass := sup
  interfaces := ifs
  fields := fds
  methods := ms
  attributes := attrs
def plain (name : String) (sup : Option ClassId) : Class where
  name := name
  kind := .ordinary
  loader := none
  accessFlags := 33
  super := sup
  interfaces := #[]
  cf := none
  fields := #[]
  methods := #[]
  instanceTypes := #[]
  staticTypes := #[]
  resolved := #[]
  callSites := []
  init := .initialized
  statics := none
  mirror := none

def pool0 : Array CpInfo := pool [(5, u "<init>"), (0, u "()V"), (1, .class_ 10), (1, u "java/lang/Object")] 113

def k0m0 : Method := { name := "<init>", desc := "()V", sig := { parameters := [], returnType := none }, accessFlags := 1, code := none }
/-- java/lang/Object -/
def k0 : Class := { plain "java/lang/Object" none with
  accessFlags := 33
  interfaces := #[]
  cf := some (fileOf pool0 8 #[] #[{ accessFlags := 1, nameIndex := 5, descriptorIndex := 6, attributes := #[] }] 33 0 #[] #[])
  fields := #[]
  methods := #[k0m0]
  instanceTypes := #[]
  staticTypes := #[]
  resolved := Array.replicate 124 none
  statics := none }

def pool1 : Array CpInfo := pool [(2, .class_ 4), (1, u "java/lang/Object"), (0, u "<init>"), (0, u "()V"), (0, .integer 2147483647), (0, .methodref 9 10), (0, .class_ 11), (0, .nameAndType 12 13), (0, u "com/example/callstone/callstone/CategoryCastsThroughTextPinLaw"), (0, u "pick"), (0, u "(I)Lcom/example/callstone/callstone/SqlType$Category;"), (0, .fieldref 15 16), (0, .class_ 17), (0, .nameAndType 18 19), (0, u "com/example/callstone/callstone/SqlType$Category"), (0, u "CHARACTER_STRING"), (0, u "Lcom/example/callstone/callstone/SqlType$Category;"), (0, .fieldref 15 21), (0, .nameAndType 22 19), (0, u "EXACT_NUMERIC"), (0, .fieldref 15 24), (0, .nameAndType 25 19), (0, u "APPROXIMATE_NUMERIC"), (0, .fieldref 15 27), (0, .nameAndType 28 19), (0, u "BOOLEAN"), (0, .fieldref 15 30), (0, .nameAndType 31 19), (0, u "DATETIME"), (0, .methodref 15 33), (0, .nameAndType 34 35), (0, u "castsThroughText"), (0, u "()Z"), (0, .fieldref 15 37), (0, .nameAndType 38 19), (0, u "BINARY_STRING"), (0, .fieldref 15 40), (0, .nameAndType 41 19), (0, u "USER_DEFINED"), (2, u "law"), (0, u "(I)Z")] 7

def k1m0 : Method := { name := "<init>", desc := "()V", sig := { parameters := [], returnType := none }, accessFlags := 2, code := none }
def k1c1 : Code := { maxStack := 2, maxLocals := 4, code := code, exceptionTable := #[], attributes := #[] }
def k1m1 : Method := { name := "law", desc := "(I)Z", sig := { parameters := [.int], returnType := some .boolean }, accessFlags := 9, code := some k1c1 }
def k1c2 : Code := { maxStack := 2, maxLocals := 2, code := method_3_code, exceptionTable := #[], attributes := #[] }
def k1m2 : Method := { name := "pick", desc := "(I)Lcom/example/callstone/callstone/SqlType$Category;", sig := { parameters := [.int], returnType := some (.object "com/example/callstone/callstone/SqlType$Category") }, accessFlags := 10, code := some k1c2 }
/-- com/example/callstone/callstone/CategoryCastsThroughTextPinLaw -/
def k1 : Class := { plain "com/example/callstone/callstone/CategoryCastsThroughTextPinLaw" (some 0) with
  accessFlags := 49
  interfaces := #[]
  cf := some (fileOf pool1 9 #[] #[{ accessFlags := 2, nameIndex := 5, descriptorIndex := 6, attributes := #[] }, { accessFlags := 9, nameIndex := 44, descriptorIndex := 45, attributes := #[] }, { accessFlags := 10, nameIndex := 12, descriptorIndex := 13, attributes := #[] }] 49 2 #[] #[])
  fields := #[]
  methods := #[k1m0, k1m1, k1m2]
  instanceTypes := #[]
  staticTypes := #[]
  resolved := Array.replicate 53 none
  statics := none }

def pool2 : Array CpInfo := pool [(1, .class_ 2), (0, u "java/lang/constant/Constable"), (0, .class_ 4), (0, u "java/lang/Object")] 6

/-- java/lang/constant/Constable -/
def k2 : Class := { plain "java/lang/constant/Constable" (some 0) with
  accessFlags := 1537
  interfaces := #[]
  cf := some (fileOf pool2 1 #[] #[] 1537 3 #[] #[])
  fields := #[]
  methods := #[]
  instanceTypes := #[]
  staticTypes := #[]
  resolved := Array.replicate 11 none
  statics := none }

def pool3 : Array CpInfo := pool [(1, .class_ 2), (0, u "java/lang/Comparable"), (0, .class_ 4), (0, u "java/lang/Object")] 7

/-- java/lang/Comparable -/
def k3 : Class := { plain "java/lang/Comparable" (some 0) with
  accessFlags := 1537
  interfaces := #[]
  cf := some (fileOf pool3 1 #[] #[] 1537 3 #[] #[])
  fields := #[]
  methods := #[]
  instanceTypes := #[]
  staticTypes := #[]
  resolved := Array.replicate 12 none
  statics := none }

def pool4 : Array CpInfo := pool [(1, .class_ 2), (0, u "java/io/Serializable"), (0, .class_ 4), (0, u "java/lang/Object")] 2

/-- java/io/Serializable -/
def k4 : Class := { plain "java/io/Serializable" (some 0) with
  accessFlags := 1537
  interfaces := #[]
  cf := some (fileOf pool4 1 #[] #[] 1537 3 #[] #[])
  fields := #[]
  methods := #[]
  instanceTypes := #[]
  staticTypes := #[]
  resolved := Array.replicate 7 none
  statics := none }

def pool5 : Array CpInfo := pool [(2, .class_ 4), (1, u "java/lang/Enum"), (0, u "name"), (0, u "Ljava/lang/String;"), (2, u "ordinal"), (0, u "I"), (1, .class_ 14), (1, u "java/lang/Object"), (4, u "hash"), (86, .class_ 108), (1, u "java/lang/Enum$EnumDesc"), (2, .class_ 112), (0, u "java/lang/constant/Constable"), (0, .class_ 114), (0, u "java/lang/Comparable"), (0, .class_ 116), (0, u "java/io/Serializable")] 87

/-- java/lang/Enum -/
def k5 : Class := { plain "java/lang/Enum" (some 0) with
  accessFlags := 1057
  interfaces := #[2, 3, 4]
  cf := some (fileOf pool5 2 #[.nestMembers #[106]] #[] 1057 12 #[111, 113, 115] #[{ accessFlags := 18, nameIndex := 5, descriptorIndex := 6, attributes := #[] }, { accessFlags := 18, nameIndex := 9, descriptorIndex := 10, attributes := #[] }, { accessFlags := 2, nameIndex := 19, descriptorIndex := 10, attributes := #[] }])
  fields := #[{ name := "name", type := (.object "java/lang/String"), accessFlags := 18, slot := 0, constantValue := 0 }, { name := "ordinal", type := .int, accessFlags := 18, slot := 1, constantValue := 0 }, { name := "hash", type := .int, accessFlags := 2, slot := 2, constantValue := 0 }]
  methods := #[]
  instanceTypes := #[(.object "java/lang/String"), .int, .int]
  staticTypes := #[]
  resolved := Array.replicate 204 none
  statics := none }

def pool6 : Array CpInfo := pool [(1, .class_ 2), (0, u "com/example/callstone/callstone/SqlType$Category"), (2, u "CHARACTER_STRING"), (0, u "Lcom/example/callstone/callstone/SqlType$Category;"), (0, .fieldref 1 8), (0, .nameAndType 9 6), (0, u "BINARY_STRING"), (2, u "EXACT_NUMERIC"), (2, u "APPROXIMATE_NUMERIC"), (2, u "BOOLEAN"), (2, u "DATETIME"), (0, .fieldref 1 23), (0, .nameAndType 24 6), (0, u "USER_DEFINED"), (2, u "$VALUES"), (0, u "[Lcom/example/callstone/callstone/SqlType$Category;"), (6, .class_ 37), (1, u "java/lang/Enum"), (26, u "()Z"), (2, u "castsThroughText"), (5, .class_ 74), (0, u "com/example/callstone/callstone/SqlType")] 2

def k6c0 : Code := { maxStack := 2, maxLocals := 1, code := prog_204_method_6_code, exceptionTable := #[], attributes := #[] }
def k6m0 : Method := { name := "castsThroughText", desc := "()Z", sig := { parameters := [], returnType := some .boolean }, accessFlags := 0, code := some k6c0 }
/-- com/example/callstone/callstone/SqlType$Category -/
def k6 : Class := { plain "com/example/callstone/callstone/SqlType$Category" (some 5) with
  accessFlags := 16432
  interfaces := #[]
  cf := some (fileOf pool6 1 #[.nestHost 73] #[{ accessFlags := 0, nameIndex := 67, descriptorIndex := 64, attributes := #[] }] 16432 35 #[] #[{ accessFlags := 16409, nameIndex := 5, descriptorIndex := 6, attributes := #[] }, { accessFlags := 16409, nameIndex := 9, descriptorIndex := 6, attributes := #[] }, { accessFlags := 16409, nameIndex := 12, descriptorIndex := 6, attributes := #[] }, { accessFlags := 16409, nameIndex := 15, descriptorIndex := 6, attributes := #[] }, { accessFlags := 16409, nameIndex := 18, descriptorIndex := 6, attributes := #[] }, { accessFlags := 16409, nameIndex := 21, descriptorIndex := 6, attributes := #[] }, { accessFlags := 16409, nameIndex := 24, descriptorIndex := 6, attributes := #[] }, { accessFlags := 4122, nameIndex := 27, descriptorIndex := 28, attributes := #[] }])
  fields := #[{ name := "CHARACTER_STRING", type := (.object "com/example/callstone/callstone/SqlType$Category"), accessFlags := 16409, slot := 0, constantValue := 0 }, { name := "BINARY_STRING", type := (.object "com/example/callstone/callstone/SqlType$Category"), accessFlags := 16409, slot := 1, constantValue := 0 }, { name := "EXACT_NUMERIC", type := (.object "com/example/callstone/callstone/SqlType$Category"), accessFlags := 16409, slot := 2, constantValue := 0 }, { name := "APPROXIMATE_NUMERIC", type := (.object "com/example/callstone/callstone/SqlType$Category"), accessFlags := 16409, slot := 3, constantValue := 0 }, { name := "BOOLEAN", type := (.object "com/example/callstone/callstone/SqlType$Category"), accessFlags := 16409, slot := 4, constantValue := 0 }, { name := "DATETIME", type := (.object "com/example/callstone/callstone/SqlType$Category"), accessFlags := 16409, slot := 5, constantValue := 0 }, { name := "USER_DEFINED", type := (.object "com/example/callstone/callstone/SqlType$Category"), accessFlags := 16409, slot := 6, constantValue := 0 }, { name := "$VALUES", type := (.array (.object "com/example/callstone/callstone/SqlType$Category")), accessFlags := 4122, slot := 7, constantValue := 0 }]
  methods := #[k6m0]
  instanceTypes := #[(.object "java/lang/String"), .int, .int]
  staticTypes := #[(.object "com/example/callstone/callstone/SqlType$Category"), (.object "com/example/callstone/callstone/SqlType$Category"), (.object "com/example/callstone/callstone/SqlType$Category"), (.object "com/example/callstone/callstone/SqlType$Category"), (.object "com/example/callstone/callstone/SqlType$Category"), (.object "com/example/callstone/callstone/SqlType$Category"), (.object "com/example/callstone/callstone/SqlType$Category"), (.array (.object "com/example/callstone/callstone/SqlType$Category"))]
  resolved := Array.replicate 77 none
  statics := some 0 }

def pool7 : Array CpInfo := pool [(1, u "java/lang/Cloneable"), (0, .class_ 1), (0, u "java/lang/Object"), (0, .class_ 3)] 3

/-- java/lang/Cloneable -/
def k7 : Class := { plain "java/lang/Cloneable" (some 0) with
  accessFlags := 1537
  interfaces := #[]
  cf := some (fileOf pool7 2 #[] #[] 1537 4 #[] #[])
  fields := #[]
  methods := #[]
  instanceTypes := #[]
  staticTypes := #[]
  resolved := Array.replicate 8 none
  statics := none }

/-- the primitive byte -/
def k8 : Class := { plain "byte" none with kind := .primitive 'B', accessFlags := 0x411 }
/-- [B -/
def k9 : Class := { plain "[B" (some 0) with kind := .array 8 .byte, interfaces := #[7, 4], accessFlags := 1041 }

/-- the primitive int -/
def k10 : Class := { plain "int" none with kind := .primitive 'I', accessFlags := 0x411 }
/-- [I -/
def k11 : Class := { plain "[I" (some 0) with kind := .array 10 .int, interfaces := #[7, 4], accessFlags := 1041 }

def heap : Heap := #[{ cls := 6, slots := #[.ref 1, .ref 2, .ref 3, .ref 4, .ref 5, .ref 6, .ref 7, .null], vm := .statics 6 },
  { cls := 6, slots := #[.null, .int 0, .int 0], vm := .none },
  { cls := 6, slots := #[.null, .int 1, .int 0], vm := .none },
  { cls := 6, slots := #[.null, .int 2, .int 0], vm := .none },
  { cls := 6, slots := #[.null, .int 3, .int 0], vm := .none },
  { cls := 6, slots := #[.null, .int 4, .int 0], vm := .none },
  { cls := 6, slots := #[.null, .int 5, .int 0], vm := .none },
  { cls := 6, slots := #[.null, .int 6, .int 0], vm := .none }]
def classes : Array Class := #[k0, k1, k2, k3, k4, k5, k6, k7, k8, k9, k10, k11]
def interned : List (Array UInt16 × Addr) := []
def slotsUsed : Nat := 29
def theMethod : MethodId := ⟨1, 1⟩
def args0 : Array Value := #[.int 5]
def aboutOver (below : List Frame) : State where
  vm := { classes := classes, interned := interned.toArray }
  heap := heap
  slotsUsed := slotsUsed
  threads := #[{ frames := .invoking theMethod args0 :: below }]
def below0 : List Frame := [.native { method := ⟨0, 0⟩, args := #[] }]
def about1 : State := aboutOver below0
def p0 : Program := .bare "" "" ""
def e0 : Env := launch0.env 0 0 0
theorem w_frames : about1.frames = Frame.invoking theMethod args0 :: below0 := rfl
set_option maxRecDepth 65536 in
theorem w_args : argsFit about1.vm theMethod args0 = true := by decide +kernel
set_option maxRecDepth 65536 in
theorem w_heap : heapFits about1 = true := by decide +kernel
set_option maxRecDepth 65536 in
theorem w_runnable : about1.curStatus? = some .runnable := by decide +kernel
set_option maxRecDepth 65536 in
theorem w_alone : about1.alone = true := by decide +kernel
set_option maxRecDepth 65536 in
theorem w_named : about1.methodNamed? x = some theMethod := by decide +kernel
set_option maxRecDepth 65536 in
theorem w_hears : about1.hears theMethod below0 = true := by decide +kernel
set_option maxRecDepth 65536 in
theorem w_ripe : about1.ripe theMethod args0 below0 = true := by decide +kernel
theorem w_running : about1.status = .running := rfl
set_option maxRecDepth 65536 in
theorem w_room : about1.hasRoom e0.platform room_1 = true :=
  launch0.hasRoom_least _ room_1 (by decide +kernel) (by decide +kernel) (by decide +kernel) (by decide +kernel) (by decide +kernel) (by decide +kernel)
theorem allAtoms_all (ts : List Jvm.Cond) (a : Array Jvm.Value) (st : Jvm.State) : (allAtoms ts).before a st = ts.all (fun c => c.before a st) := by
  induction ts with
  | nil => rfl
  | cons c t ih =>
    show (Jvm.Cond.and c (allAtoms t)).before a st = _
    rw [Jvm.Cond.before_and, ih, List.all_cons]
def words1 : List Jvm.Cond := Jvm.Cond.code x code maxLocals ret :: tables_1
/-- a 'code' word, met by the world's own term for the bytes: nothing is compared byte by byte -/
theorem code_word {y : MethodName} {bytes : ByteArray} {mx : Nat} {rt : Option FieldType} {a : Array Value} {s : State} {m : MethodId} {meth : Method} {c : Code} (h1 : s.methodNamed? y = some m) (h2 : s.vm.method? m = some meth) (h3 : meth.code = some c) (h4 : c.code = bytes)
    (h5 : (c.maxLocals == mx && c.exceptionTable.isEmpty && decide (c.maxStack ≤ mostOperands) && decide (meth.sig.returnType = rt) && !meth.locks && decide (parseMethodDescriptor y.desc = some meth.sig)) = true) : (Jvm.Cond.code y bytes mx rt).before a s = true := by
  simp only [Bool.and_eq_true, beq_iff_eq, Bool.not_eq_true', decide_eq_true_eq] at h5
  obtain ⟨⟨⟨⟨⟨g1, g2⟩, g3⟩, g4⟩, g5⟩, g6⟩ := h5
  simp [Cond.before, Cond.holds, Cond.value, h1, h2, h3, h4, g1, g2, g3, g4, g5, g6]
def isCode : Jvm.Cond → Bool
  | .code _ _ _ _ => true
  | _ => false
theorem all_split {L : List Jvm.Cond} {P : Jvm.Cond → Bool} (h1 : L.all (fun c => isCode c || P c) = true) (h2 : ∀ c ∈ L.filter isCode, P c = true) : L.all P = true := by
  refine List.all_eq_true.mpr fun c hc => ?_
  have h := List.all_eq_true.mp h1 c hc
  rcases Bool.eq_false_or_eq_true (isCode c) with hi | hi
  · exact h2 c (List.mem_filter.mpr ⟨hc, hi⟩)
  · simpa [hi] using h
set_option maxRecDepth 65536 in
theorem w_c0 : (Jvm.Cond.code x code maxLocals ret).before args0 about1 = true := code_word (m := ⟨1, 1⟩) (meth := k1m1) (c := k1c1) (by decide +kernel) rfl rfl rfl (by decide +kernel)
set_option maxRecDepth 65536 in
theorem w_c1 : (Jvm.Cond.code ({ cls := "com/example/callstone/callstone/CategoryCastsThroughTextPinLaw", name := "pick", desc := "(I)Lcom/example/callstone/callstone/SqlType$Category;" } : Jvm.MethodName) method_3_code (2 : Nat) (Option.some (Jvm.ClassFile.FieldType.object "com/example/callstone/callstone/SqlType$Category"))).before args0 about1 = true := code_word (m := ⟨1, 2⟩) (meth := k1m2) (c := k1c2) (by decide +kernel) rfl rfl rfl (by decide +kernel)
set_option maxRecDepth 65536 in
theorem w_c2 : (Jvm.Cond.code ({ cls := "com/example/callstone/callstone/SqlType$Category", name := "castsThroughText", desc := "()Z" } : Jvm.MethodName) prog_204_method_6_code (1 : Nat) (Option.some Jvm.ClassFile.FieldType.boolean)).before args0 about1 = true := code_word (m := ⟨6, 0⟩) (meth := k6m0) (c := k6c0) (by decide +kernel) rfl rfl rfl (by decide +kernel)
def codes1 : List Jvm.Cond := [Jvm.Cond.code x code maxLocals ret, Jvm.Cond.code ({ cls := "com/example/callstone/callstone/CategoryCastsThroughTextPinLaw", name := "pick", desc := "(I)Lcom/example/callstone/callstone/SqlType$Category;" } : Jvm.MethodName) method_3_code (2 : Nat) (Option.some (Jvm.ClassFile.FieldType.object "com/example/callstone/callstone/SqlType$Category")), Jvm.Cond.code ({ cls := "com/example/callstone/callstone/SqlType$Category", name := "castsThroughText", desc := "()Z" } : Jvm.MethodName) prog_204_method_6_code (1 : Nat) (Option.some Jvm.ClassFile.FieldType.boolean)]
set_option maxRecDepth 65536 in
theorem codes_eq : words1.filter isCode = codes1 := rfl
theorem w_codes : ∀ c ∈ words1.filter isCode, c.before args0 about1 = true := by
  rw [codes_eq]
  intro c hc
  simp only [codes1, List.mem_cons, List.not_mem_nil, or_false] at hc
  rcases hc with rfl | rfl | rfl
  · exact w_c0
  · exact w_c1
  · exact w_c2
set_option maxRecDepth 65536 in
theorem w_t1 : (words1.take 24).all (fun c => isCode c || c.before args0 about1) = true := by decide +kernel
set_option maxRecDepth 65536 in
theorem w_t2 : (words1.drop 24).all (fun c => isCode c || c.before args0 about1) = true := by decide +kernel
theorem w_tables : (allAtoms (Jvm.Cond.code x code maxLocals ret :: tables_1)).before args0 about1 = true := by
  rw [allAtoms_all]
  show words1.all (fun c => c.before args0 about1) = true
  refine all_split ?_ w_codes
  rw [← List.take_append_drop 24 words1, List.all_append, w_t1, w_t2]
  rfl
set_option maxRecDepth 65536 in
theorem w_case : (Jvm.Cond.and given_1 narrow_1).before args0 about1 = true := by decide +kernel
theorem w_applies : (headSpec (Jvm.Cond.code x code maxLocals ret :: tables_1) room_1).applies x e0.platform about1 = true :=
  (Spec.applies_iff w_frames).mpr ⟨w_running, w_runnable, w_alone, w_named, w_hears, w_ripe, w_room, w_tables⟩
theorem atStart : AtStart classFile x code maxLocals ret World_1 tables_1 room_1 Calls_1 rest_1 Pre_1 launch0 p0 e0 about1 theMethod args0 below0 :=
  ⟨lists_1, trivial, launch0.admits_env _ _ _, launch0.least_env, fairChoices_fair.cas, fairChoices_fair.clock, w_frames, w_args, w_heap, w_applies, trivial, trivial, w_case⟩
end start1
theorem witness_1 : WitnessClaimed_1 := ⟨start1.p0, start1.e0, start1.about1, start1.theMethod, start1.args0, start1.below0, start1.atStart⟩
end Jvm.Pilot.@@N@@
