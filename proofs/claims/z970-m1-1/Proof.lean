import JvmDerived
import JvmDerived.Pilot.@@N@@Statement
import JvmDerived.Pilot.@@N@@Code
set_option linter.unusedVariables false
set_option linter.unusedSimpArgs false
namespace Jvm.RoadKit
open Sem ClassFile Op Lib Jvm.Stand Jvm.Free Jvm.LawKit
section New
variable {p : Program} {l : Launch} {e : Env} {R : Room} {s : State} {m : MethodId} {args : Array Value} {below : List Frame} {meth : Method} {c : Code} {T : State} {locs : List Loc} {cells slots : Nat}
theorem retI (X : Stand p l e R s m args below meth c T locs cells slots) (hx : p.tables.exec = Jvm.exec) {pc : Nat} {Ls : Array Slot} {z : Int32} {rest : List Value} (hret : meth.sig.returnType = some .int) (hd : decode c.code pc = .ok (.ireturn, 1)) {fs : List Frame}
    (hl : ∀ (f : JFrame) (acts : List Action), f.method = m → f.locked = none → f.entered = [] → (doReturn e (T.setTop f) acts (some (.int z))).1 = T.setFrames fs) : Steps p.tables e below (T.setTop (mkF m pc Ls (.int z :: rest))) (T.setFrames fs) := by
  have hm' : T.vm.method? m = some meth := X.method'
  have hn : narrow .int (.int z) = .int z := rfl
  show Steps p.tables e below (T.setTop { method := m, pc := pc, locals := Ls, stack := _ :: rest, locked := none }) _
  jvm_step X.here [X.here.top, hx, hd, hm', hret, hn]
  first | (intro acts; rw [hl _ acts rfl rfl rfl]) | rw [hl _ _ rfl rfl rfl]
  exact Steps.refl _
/-- the run from U on ends as W says -/
def Onw (p : Program) (e : Env) (below : List Frame) (W : Outcome → State → Prop) (U : State) : Prop :=
  ∃ s₂ o, Steps p.tables e below U s₂ ∧ s₂.status = .running ∧ Ended s₂ below o ∧ W o s₂
theorem Onw.go {W : Outcome → State → Prop} {U U' : State} (h : ∀ t, Steps p.tables e below U' t → Steps p.tables e below U t) (k : Onw p e below W U') : Onw p e below W U := by
  obtain ⟨s₂, o, h1, h2⟩ := k
  exact ⟨s₂, o, h _ h1, h2⟩
theorem Onw.of {W : Outcome → State → Prop} {U : State} (k : Onw p e below W U) : ∃ s₂ o, Steps p.tables e below U s₂ ∧ s₂.status = .running ∧ Ended s₂ below o ∧ W o s₂ := k
/-- the end of a walk -/
theorem Onw.ret (X : Stand p l e R s m args below meth c T locs cells slots) (hlk : meth.locks = false) {U : State} {v : Option Value} (hv : meth.sig.returnType = none → v = none)
    (hs : ∀ fs, (∀ (f : JFrame) (acts : List Action), f.method = m → f.locked = none → f.entered = [] → (doReturn e (T.setTop f) acts v).1 = T.setFrames fs) → Steps p.tables e below U (T.setFrames fs))
    {Q : Option Value → Heap → List Loc → Prop} (hQ : Q v T.heap locs) {k n : Nat} (hk : cells ≤ k) (hn : slots ≤ n) :
    Onw p e below (fun o s₂ => ∃ v L, o = .returned v ∧ Q v s₂.heap L ∧ FrameEnd s o s₂ L k n) U := by
  obtain ⟨fs, hr, hrun, hended, hW, hsame⟩ := X.leave (v := v) hv hlk
  exact ⟨_, _, hs fs hr, hrun, hended, v, locs, rfl, hQ, ⟨_, rfl⟩, hW, hsame.mono hk hn⟩
/-- .. where Strings may have been interned -/
theorem Onw.retW {vm₁ : Vm} (X : Stand p l e R (s.setVm vm₁) m args below meth c T locs cells slots) {j : Nat} (hS : s.Since vm₁ j) (hj : j ≤ T.heap.size) (hlk : meth.locks = false) {U : State} {v : Option Value} (hv : meth.sig.returnType = none → v = none)
    (hs : ∀ fs, (∀ (f : JFrame) (acts : List Action), f.method = m → f.locked = none → f.entered = [] → (doReturn e (T.setTop f) acts v).1 = T.setFrames fs) → Steps p.tables e below U (T.setFrames fs))
    {Q : Option Value → Heap → List Loc → Prop} (hQ : Q v T.heap locs) {k n : Nat} (hk : cells ≤ k) (hn : slots ≤ n) :
    Onw p e below (fun o s₂ => ∃ v L, o = .returned v ∧ Q v s₂.heap L ∧ ReturnedEndW s o s₂ L k n) U := by
  obtain ⟨fs, hr, hrun, hended, hE⟩ := X.leaveW hS hj (v := v) hv hlk
  exact ⟨_, _, hs fs hr, hrun, hended, v, locs, rfl, hQ, hE.1, hE.2.1, hE.2.2.1, hE.2.2.2.mono hk hn⟩
end New
end Jvm.RoadKit
namespace Jvm.Pilot.@@N@@
open Jvm Jvm.ClassFile Sem Op Lib Jvm.Free Jvm.Stand Jvm.LawKit Jvm.RoadKit Bundle Jvm.Pilot.@@N@@.Jvm.D
theorem pd_0 : parseMethodDescriptor "(IJ)J" = some ⟨[.int, .long], some .long⟩ := by decide +kernel
theorem pn_0 : plainName "com/example/clockwise/clockwise/Percentiles" = true := by first | (simp [plainName, overriddenIn]; done) | decide +kernel
theorem ef_1 (m : MethodId) (x0 : Int32) (x1 : Int64) : entryFrame m #[(.int x0), (.long x1)] 3 = mkF m 0 #[.val (.int x0), .val (.long x1), .second] [] := by first | (simp [entryFrame, mkF, argsToLocals, Value.category]; done) | rfl
def Q_rm1 (Z : State) (p0 : Int32) (q1 : Int64) (h0 : Heap) (n0 : Nat) (v : Option Value) (h : Heap) (L : List Loc) : Prop := v = some (.long (((p0.toInt64 * q1) + (99 : Int64)) / (100 : Int64))) ∧ Fr n0 L ∧ h = h0
theorem d1_0 : decode prog_34_method_2_code 0 = .ok (.iload_n 0, 1) := by decide +kernel
theorem d1_1 : decode prog_34_method_2_code 1 = .ok (.i2l, 1) := by decide +kernel
theorem d1_2 : decode prog_34_method_2_code 2 = .ok (.lload_n 1, 1) := by decide +kernel
theorem d1_3 : decode prog_34_method_2_code 3 = .ok (.lmul, 1) := by decide +kernel
theorem d1_4 : decode prog_34_method_2_code 4 = .ok (.ldc2_w 7, 3) := by decide +kernel
theorem d1_7 : decode prog_34_method_2_code 7 = .ok (.ladd, 1) := by decide +kernel
theorem d1_8 : decode prog_34_method_2_code 8 = .ok (.ldc2_w 9, 3) := by decide +kernel
theorem d1_11 : decode prog_34_method_2_code 11 = .ok (.ldiv, 1) := by decide +kernel
theorem d1_12 : decode prog_34_method_2_code 12 = .ok (.lreturn, 1) := by decide +kernel
set_option maxRecDepth 65536 in
set_option maxHeartbeats 40000000 in
theorem rm1 (l : Launch) (Z : State) (a0 : Array Value) (hw : ∀ d ∈ tables_1, d.before a0 Z = true) (ws : List Jvm.Cond) (p0 : Int32) (q1 : Int64) (h0 : Heap) (n0 : Nat)  :
    MetFree l (⟨"com/example/clockwise/clockwise/Percentiles", "nearestRank", "(IJ)J"⟩ : MethodName) (head1 (Jvm.Cond.code (⟨"com/example/clockwise/clockwise/Percentiles", "nearestRank", "(IJ)J"⟩ : MethodName) prog_34_method_2_code 3 (some .long) :: ws) ({ frames := 0, cells := 0, slots := 0, locals := 0 } : Room)) (fun a U => a = #[(.int p0), (.long q1)] ∧ Z.Warmed39 U.vm ∧ U.heap = h0) (fun _ _ _ _ _ => True) (fun _ U o U' => ∃ v L, o = .returned v ∧ Q_rm1 Z p0 q1 h0 n0 v U'.heap L ∧ FrameEnd U o U' L ({ frames := 0, cells := 0, slots := 0, locals := 0 } : Room).cells ({ frames := 0, cells := 0, slots := 0, locals := 0 } : Room).slots) := by
  refine MetFree.of_bodySF (plainFor_of_name pn_0) hisR ?_
  intro p e s m args below meth c s₁ Bd hml0 hP hK
  obtain ⟨rfl, hZ, hh⟩ := hP
  have hx := Bd.exec
  have hby := Bd.bytes
  have hml : c.maxLocals = 3 := hml0
  have hown : s.vm.findClass "com/example/clockwise/clockwise/Percentiles" = some m.cls := findClass_of_methodNamed Bd.named
  have hnm := (name_of_methodNamed Bd.named Bd.method).1
  have X0 : Stand p l e ({ frames := 0, cells := 0, slots := 0, locals := 0 } : Room) s m #[(.int p0), (.long q1)] below meth c s₁ [] 0 0 := Stand.of_body Bd
  have e0 : s₁.heap = h0 := by rw [← hh, Bd.state]; rfl
  have N0 := Fr.nil n0
  refine Onw.of (Onw.go (fun t k => castTop (ef_1 m p0 q1) k) ?_)
  show Onw p e below _ (s₁.setTop (mkF m 0 #[.val (.int p0), .val (.long q1), .second] []))
  refine Onw.go (fun t kt => XS.iloadN X0.here hx rfl (hb hby d1_0) rfl kt) ?_
  show Onw p e below _ (s₁.setTop (mkF m 1 #[.val (.int p0), .val (.long q1), .second] [(.int p0)]))
  refine Onw.go (fun t kt => XS.i2l X0.here hx rfl (hb hby d1_1) rfl kt) ?_
  show Onw p e below _ (s₁.setTop (mkF m 2 #[.val (.int p0), .val (.long q1), .second] [(.long (p0.toInt64))]))
  refine Onw.go (fun t kt => XS.lloadN X0.here hx rfl (hb hby d1_2) rfl kt) ?_
  show Onw p e below _ (s₁.setTop (mkF m 3 #[.val (.int p0), .val (.long q1), .second] [(.long q1), (.long (p0.toInt64))]))
  refine Onw.go (fun t kt => XS.lmul X0.here hx rfl (hb hby d1_3) rfl kt) ?_
  show Onw p e below _ (s₁.setTop (mkF m 4 #[.val (.int p0), .val (.long q1), .second] [(.long ((p0.toInt64) * q1))]))
  refine Onw.go (X0.ldc2Long hx hown (mvT hZ (hw _ (List.mem_of_getElem? (i := 6) rfl))) (g := (mkF m 4 #[.val (.int p0), .val (.long q1), .second] [(.long ((p0.toInt64) * q1))])) rfl (hb hby d1_4)) ?_
  show Onw p e below _ (s₁.setTop (mkF m 7 #[.val (.int p0), .val (.long q1), .second] [(.long (99 : Int64)), (.long ((p0.toInt64) * q1))]))
  refine Onw.go (fun t kt => XS.ladd X0.here hx rfl (hb hby d1_7) rfl kt) ?_
  show Onw p e below _ (s₁.setTop (mkF m 8 #[.val (.int p0), .val (.long q1), .second] [(.long (((p0.toInt64) * q1) + (99 : Int64)))]))
  refine Onw.go (X0.ldc2Long hx hown (mvT hZ (hw _ (List.mem_of_getElem? (i := 7) rfl))) (g := (mkF m 8 #[.val (.int p0), .val (.long q1), .second] [(.long (((p0.toInt64) * q1) + (99 : Int64)))])) rfl (hb hby d1_8)) ?_
  show Onw p e below _ (s₁.setTop (mkF m 11 #[.val (.int p0), .val (.long q1), .second] [(.long (100 : Int64)), (.long (((p0.toInt64) * q1) + (99 : Int64)))]))
  refine Onw.go (fun t kt => XS.ldiv X0.here hx rfl (hb hby d1_11) rfl (by decide) kt) ?_
  show Onw p e below _ (s₁.setTop (mkF m 12 #[.val (.int p0), .val (.long q1), .second] [(.long ((((p0.toInt64) * q1) + (99 : Int64)) / (100 : Int64)))]))
  exact Onw.ret X0 Bd.notSynchronized (fun h => by rw [Bd.returns] at h; cases h) (fun fs hr => X0.lreturnOut hx Bd.returns (hb hby d1_12) hr) ⟨rfl, N0, e0⟩ (by decide) (by decide)
theorem own_p (x n : Int32) (hn : n = ((x &&& (2147483647 : Int32)) % (100 : Int32)) + (1 : Int32)) : 1 ≤ n.toInt ∧ n.toInt ≤ 100 := by
  have e1 : (x &&& (2147483647 : Int32)).toInt = x.toInt % (2 ^ 31 : Nat) := c_mask x 2147483647 31 (by decide) (by decide)
  have e6 := (c_irem (x &&& (2147483647 : Int32)) (100 : Int32) 100 rfl).1
  have e2 := c_iadd ((x &&& (2147483647 : Int32)) % (100 : Int32)) (1 : Int32)
  have e3 : (1 : Int32).toInt = 1 := rfl
  have e5 := rng32 n
  rw [← hn, e3] at e2
  have e7 := e6 (by omega)
  omega
theorem own_c (x n : Int64) (m : Int64) (k : Nat) (hk : k ≤ 56) (hm : m.toBitVec.toNat = 2 ^ k - 1) (hn : n = (x &&& m) + (1 : Int64)) : 1 ≤ n.toInt ∧ n.toInt ≤ 72057594037927936 := by
  have e1 := c_maskL x m k (by omega) hm
  have e2 := c_ladd (x &&& m) (1 : Int64)
  have e3 : (1 : Int64).toInt = 1 := rfl
  have e5 := rng64 n
  rw [← hn, e3] at e2
  have h4 : 2 ^ k ≤ 2 ^ 56 := Nat.pow_le_pow_right (by decide) hk
  have h6 : (0 : Int) < (2 ^ k : Nat) := by have := Nat.two_pow_pos k; omega
  have h5 := Int.emod_lt_of_pos x.toInt h6
  have h7 := Int.emod_nonneg x.toInt (by omega : ((2 ^ k : Nat) : Int) ≠ 0)
  omega
/-- the law's own arithmetic -/
theorem own_rank (p : Int32) (q r z : Int64) (hp : 1 ≤ p.toInt ∧ p.toInt ≤ 100) (hq : 1 ≤ q.toInt ∧ q.toInt ≤ 72057594037927936) (hz : z = p.toInt64 * q) (hr : r = (z + (99 : Int64)) / (100 : Int64)) :
    ¬ (lcmpW r (1 : Int64) < 0) ∧ ¬ (0 < lcmpW r q) ∧ lcmpW ((100 : Int64) * (r - (1 : Int64))) z < 0 ∧ ¬ (0 < lcmpW z ((100 : Int64) * r)) := by
  have a1 := c_i2l p
  have a2 := c_lmul p.toInt64 q
  rw [← hz, a1] at a2
  have b1 : p.toInt * 1 ≤ p.toInt * q.toInt := Int.mul_le_mul_of_nonneg_left hq.1 (by omega)
  have b2 : p.toInt * q.toInt ≤ 100 * q.toInt := Int.mul_le_mul_of_nonneg_right hp.2 (by omega)
  generalize p.toInt * q.toInt = m at a2 b1 b2
  have a3 := rng64 z
  have a4 := c_ladd z (99 : Int64)
  have a5 := rng64 (z + (99 : Int64))
  have n99 : (99 : Int64).toInt = 99 := rfl
  have n100 : (100 : Int64).toInt = 100 := rfl
  have n1 : (1 : Int64).toInt = 1 := rfl
  rw [n99] at a4
  have a6 := (c_ldiv (z + (99 : Int64)) (100 : Int64) 100 rfl (by decide)).1 (by omega)
  rw [← hr] at a6
  have a7 := c_lsub r (1 : Int64)
  have a8 := rng64 (r - (1 : Int64))
  rw [n1] at a7
  have a9 := c_lmul (100 : Int64) (r - (1 : Int64))
  have a10 := rng64 ((100 : Int64) * (r - (1 : Int64)))
  have a11 := c_lmul (100 : Int64) r
  have a12 := rng64 ((100 : Int64) * r)
  have a13 := rng64 r
  rw [n100] at a9 a11
  rw [lw_lt, lw_gt, lw_lt, lw_gt, Int64.lt_iff_toInt_lt, Int64.lt_iff_toInt_lt, Int64.lt_iff_toInt_lt, Int64.lt_iff_toInt_lt, n1]
  omega
theorem pn_1 : plainName "com/example/clockwise/clockwise/PercentilesNearestRankPinLaw" = true := by first | (simp [plainName, overriddenIn]; done) | decide +kernel
theorem ef_0 (m : MethodId) (x0 : Int32) (x1 : Int64) (x2 : Int32) : entryFrame m #[(.int x0), (.long x1), (.int x2)] maxLocals = mkF m 0 #[.val (.int x0), .val (.long x1), .second, .val (.int x2), .unset, .unset, .unset, .unset, .unset, .unset, .unset] [] := by first | (simp [entryFrame, mkF, argsToLocals, Value.category, maxLocals]; done) | rfl
def Q_rm0 (Z : State) (p0 : Int32) (q1 : Int64) (p2 : Int32) (h0 : Heap) (n0 : Nat) (v : Option Value) (h : Heap) (L : List Loc) : Prop := v = some (.int (1 : Int32)) ∧ Fr n0 L
set_option maxRecDepth 65536 in
set_option maxHeartbeats 40000000 in
theorem rm0 (l : Launch) (Z : State) (a0 : Array Value) (hw : ∀ d ∈ tables_1, d.before a0 Z = true) (ws : List Jvm.Cond) (p0 : Int32) (q1 : Int64) (p2 : Int32) (h0 : Heap) (n0 : Nat)  :
    MetFree l x (head1 (Jvm.Cond.code x code maxLocals ret :: ws) room_1) (fun a U => a = #[(.int p0), (.long q1), (.int p2)] ∧ Z.Warmed39 U.vm ∧ U.heap = h0) (fun _ _ _ _ _ => True) (fun _ U o U' => ∃ v L, o = .returned v ∧ Q_rm0 Z p0 q1 p2 h0 n0 v U'.heap L ∧ FrameEnd U o U' L room_1.cells room_1.slots) := by
  refine MetFree.of_bodySF (plainFor_of_name pn_1) hisR ?_
  intro p e s m args below meth c s₁ Bd hml0 hP hK
  obtain ⟨rfl, hZ, hh⟩ := hP
  have hx := Bd.exec
  have hby := Bd.bytes
  have hml : c.maxLocals = 11 := hml0
  have hown : s.vm.findClass "com/example/clockwise/clockwise/PercentilesNearestRankPinLaw" = some m.cls := findClass_of_methodNamed Bd.named
  have hnm := (name_of_methodNamed Bd.named Bd.method).1
  have X0 : Stand p l e room_1 s m #[(.int p0), (.long q1), (.int p2)] below meth c s₁ [] 0 0 := Stand.of_body Bd
  have e0 : s₁.heap = h0 := by rw [← hh, Bd.state]; rfl
  have N0 := Fr.nil n0
  refine Onw.of (Onw.go (fun t k => castTop (ef_0 m p0 q1 p2) k) ?_)
  show Onw p e below _ (s₁.setTop (mkF m 0 #[.val (.int p0), .val (.long q1), .second, .val (.int p2), .unset, .unset, .unset, .unset, .unset, .unset, .unset] []))
  refine Onw.go (fun t kt => XS.iloadN X0.here hx rfl (hb hby at_0) rfl kt) ?_
  show Onw p e below _ (s₁.setTop (mkF m 1 #[.val (.int p0), .val (.long q1), .second, .val (.int p2), .unset, .unset, .unset, .unset, .unset, .unset, .unset] [(.int p0)]))
  refine Onw.go (X0.ldcInt hx hown (mvT hZ (hw _ (List.mem_of_getElem? (i := 0) rfl))) (g := (mkF m 1 #[.val (.int p0), .val (.long q1), .second, .val (.int p2), .unset, .unset, .unset, .unset, .unset, .unset, .unset] [(.int p0)])) rfl (hb hby at_1)) ?_
  show Onw p e below _ (s₁.setTop (mkF m 3 #[.val (.int p0), .val (.long q1), .second, .val (.int p2), .unset, .unset, .unset, .unset, .unset, .unset, .unset] [(.int (2147483647 : Int32)), (.int p0)]))
  refine Onw.go (fun t kt => XS.iand X0.here hx rfl (hb hby at_3) rfl kt) ?_
  show Onw p e below _ (s₁.setTop (mkF m 4 #[.val (.int p0), .val (.long q1), .second, .val (.int p2), .unset, .unset, .unset, .unset, .unset, .unset, .unset] [(.int (p0 &&& (2147483647 : Int32)))]))
  refine Onw.go (fun t kt => XS.bipush X0.here hx rfl (hb hby at_4) kt) ?_
  show Onw p e below _ (s₁.setTop (mkF m 6 #[.val (.int p0), .val (.long q1), .second, .val (.int p2), .unset, .unset, .unset, .unset, .unset, .unset, .unset] [(.int (100 : Int32)), (.int (p0 &&& (2147483647 : Int32)))]))
  refine Onw.go (fun t kt => iremM X0 hx rfl (hb hby at_6) rfl (by decide) kt) ?_
  show Onw p e below _ (s₁.setTop (mkF m 7 #[.val (.int p0), .val (.long q1), .second, .val (.int p2), .unset, .unset, .unset, .unset, .unset, .unset, .unset] [(.int ((p0 &&& (2147483647 : Int32)) % (100 : Int32)))]))
  refine Onw.go (fun t kt => XS.iconst X0.here hx rfl (hb hby at_7) kt) ?_
  show Onw p e below _ (s₁.setTop (mkF m 8 #[.val (.int p0), .val (.long q1), .second, .val (.int p2), .unset, .unset, .unset, .unset, .unset, .unset, .unset] [(.int (1 : Int32)), (.int ((p0 &&& (2147483647 : Int32)) % (100 : Int32)))]))
  refine Onw.go (fun t kt => XS.iadd X0.here hx rfl (hb hby at_8) rfl kt) ?_
  show Onw p e below _ (s₁.setTop (mkF m 9 #[.val (.int p0), .val (.long q1), .second, .val (.int p2), .unset, .unset, .unset, .unset, .unset, .unset, .unset] [(.int (((p0 &&& (2147483647 : Int32)) % (100 : Int32)) + (1 : Int32)))]))
  obtain ⟨n, hn⟩ : ∃ own_z, own_z = (((p0 &&& (2147483647 : Int32)) % (100 : Int32)) + (1 : Int32)) := ⟨_, rfl⟩
  rw [← hn]
  show Onw p e below _ (s₁.setTop (mkF m 9 #[.val (.int p0), .val (.long q1), .second, .val (.int p2), .unset, .unset, .unset, .unset, .unset, .unset, .unset] [(.int n)]))
  have hp := own_p _ _ hn
  refine Onw.go (fun t kt => XS.istore X0.here hx rfl (hb hby at_9) rfl (l' := #[.val (.int p0), .val (.long q1), .second, .val (.int p2), .val (.int n), .unset, .unset, .unset, .unset, .unset, .unset]) rfl kt) ?_
  show Onw p e below _ (s₁.setTop (mkF m 11 #[.val (.int p0), .val (.long q1), .second, .val (.int p2), .val (.int n), .unset, .unset, .unset, .unset, .unset, .unset] []))
  refine Onw.go (fun t kt => XS.iloadN X0.here hx rfl (hb hby at_11) rfl kt) ?_
  show Onw p e below _ (s₁.setTop (mkF m 12 #[.val (.int p0), .val (.long q1), .second, .val (.int p2), .val (.int n), .unset, .unset, .unset, .unset, .unset, .unset] [(.int p2)]))
  refine Onw.go (fun t kt => XS.iconst X0.here hx rfl (hb hby at_12) kt) ?_
  show Onw p e below _ (s₁.setTop (mkF m 13 #[.val (.int p0), .val (.long q1), .second, .val (.int p2), .val (.int n), .unset, .unset, .unset, .unset, .unset, .unset] [(.int (1 : Int32)), (.int p2)]))
  refine Onw.go (fun t kt => XS.iand X0.here hx rfl (hb hby at_13) rfl kt) ?_
  show Onw p e below _ (s₁.setTop (mkF m 14 #[.val (.int p0), .val (.long q1), .second, .val (.int p2), .val (.int n), .unset, .unset, .unset, .unset, .unset, .unset] [(.int (p2 &&& (1 : Int32)))]))
  by_cases hs : (p2 &&& (1 : Int32)) = (0 : Int32)
  · refine Onw.go (fun t kt => XS.ifYes X0.here hx rfl (pc0 := 14) (pc' := 29) rfl (hb hby at_14) rfl ((if0 _ _).trans (teq (hs : (p2 &&& (1 : Int32)) = (0 : Int32))).1) (by decide) (by decide) kt) ?_
    show Onw p e below _ (s₁.setTop (mkF m 29 #[.val (.int p0), .val (.long q1), .second, .val (.int p2), .val (.int n), .unset, .unset, .unset, .unset, .unset, .unset] []))
    refine Onw.go (fun t kt => XS.lloadN X0.here hx rfl (hb hby at_29) rfl kt) ?_
    show Onw p e below _ (s₁.setTop (mkF m 30 #[.val (.int p0), .val (.long q1), .second, .val (.int p2), .val (.int n), .unset, .unset, .unset, .unset, .unset, .unset] [(.long q1)]))
    refine Onw.go (X0.ldc2Long hx hown (mvT hZ (hw _ (List.mem_of_getElem? (i := 9) rfl))) (g := (mkF m 30 #[.val (.int p0), .val (.long q1), .second, .val (.int p2), .val (.int n), .unset, .unset, .unset, .unset, .unset, .unset] [(.long q1)])) rfl (hb hby at_30)) ?_
    show Onw p e below _ (s₁.setTop (mkF m 33 #[.val (.int p0), .val (.long q1), .second, .val (.int p2), .val (.int n), .unset, .unset, .unset, .unset, .unset, .unset] [(.long (72057594037927935 : Int64)), (.long q1)]))
    refine Onw.go (fun t kt => XS.land X0.here hx rfl (hb hby at_33) rfl kt) ?_
    show Onw p e below _ (s₁.setTop (mkF m 34 #[.val (.int p0), .val (.long q1), .second, .val (.int p2), .val (.int n), .unset, .unset, .unset, .unset, .unset, .unset] [(.long (q1 &&& (72057594037927935 : Int64)))]))
    refine Onw.go (fun t kt => XS.lconst X0.here hx rfl (hb hby at_34) kt) ?_
    show Onw p e below _ (s₁.setTop (mkF m 35 #[.val (.int p0), .val (.long q1), .second, .val (.int p2), .val (.int n), .unset, .unset, .unset, .unset, .unset, .unset] [(.long (1 : Int64)), (.long (q1 &&& (72057594037927935 : Int64)))]))
    refine Onw.go (fun t kt => XS.ladd X0.here hx rfl (hb hby at_35) rfl kt) ?_
    show Onw p e below _ (s₁.setTop (mkF m 36 #[.val (.int p0), .val (.long q1), .second, .val (.int p2), .val (.int n), .unset, .unset, .unset, .unset, .unset, .unset] [(.long ((q1 &&& (72057594037927935 : Int64)) + (1 : Int64)))]))
    obtain ⟨q, hq⟩ : ∃ own_z, own_z = ((q1 &&& (72057594037927935 : Int64)) + (1 : Int64)) := ⟨_, rfl⟩
    rw [← hq]
    show Onw p e below _ (s₁.setTop (mkF m 36 #[.val (.int p0), .val (.long q1), .second, .val (.int p2), .val (.int n), .unset, .unset, .unset, .unset, .unset, .unset] [(.long q)]))
    have hc := own_c _ _ _ 56 (by decide) (by decide) hq
    refine Onw.go (fun t kt => XS.lstore X0.here hx rfl (hb hby at_36) rfl (l' := #[.val (.int p0), .val (.long q1), .second, .val (.int p2), .val (.int n), .val (.long q), .second, .unset, .unset, .unset, .unset]) rfl kt) ?_
    show Onw p e below _ (s₁.setTop (mkF m 38 #[.val (.int p0), .val (.long q1), .second, .val (.int p2), .val (.int n), .val (.long q), .second, .unset, .unset, .unset, .unset] []))
    refine Onw.go (fun t kt => XS.iload X0.here hx rfl (hb hby at_38) rfl kt) ?_
    show Onw p e below _ (s₁.setTop (mkF m 40 #[.val (.int p0), .val (.long q1), .second, .val (.int p2), .val (.int n), .val (.long q), .second, .unset, .unset, .unset, .unset] [(.int n)]))
    refine Onw.go (fun t kt => XS.lload X0.here hx rfl (hb hby at_40) rfl kt) ?_
    show Onw p e below _ (s₁.setTop (mkF m 42 #[.val (.int p0), .val (.long q1), .second, .val (.int p2), .val (.int n), .val (.long q), .second, .unset, .unset, .unset, .unset] [(.long q), (.int n)]))
    obtain ⟨_, _, ⟨T1, L1, k1, n1⟩, -, X1, ⟨Lc1, hQ1, l1, y1, z1⟩, st1⟩ := Jvm.LawKit.callS X0 hx (y := (⟨"com/example/clockwise/clockwise/Percentiles", "nearestRank", "(IJ)J"⟩ : MethodName)) hown (mvT hZ (hw _ (List.mem_of_getElem? (i := 2) rfl))) (mvT hZ (hw _ (List.mem_of_getElem? (i := 3) rfl))) (mvT hZ (hw _ (List.mem_of_getElem? (i := 4) rfl))) (mvT hZ (hw _ (List.mem_of_getElem? (i := 5) rfl))) (by decide) (backOf (W := 0) (rm1 l Z a0 hw [] n q  h0 n0 ) hZ (hw _ (List.mem_of_getElem? (i := 5) rfl)) (hw _ (List.mem_of_getElem? (i := 4) rfl)) (by decide) (by decide)) (g := (mkF m 42 #[.val (.int p0), .val (.long q1), .second, .val (.int p2), .val (.int n), .val (.long q), .second, .unset, .unset, .unset, .unset] [(.long q), (.int n)])) rfl (by rw [hml]; rfl) (argsL := [(.int n), (.long q)]) (rest := []) (lenOf pd_0 rfl) rfl (by show 2 * 0 + _ ≤ _; exact Nat.le_of_eq rfl) (hb hby at_42) (fun _ _ => ⟨rfl, e0, (by decide : 0 + 0 ≤ _), (by decide : 0 + 0 ≤ _)⟩)
    dsimp only [Pt.U, Pt.locs, Pt.cells, Pt.slots] at X1 l1 y1 z1 st1 hQ1
    subst l1 y1 z1
    obtain ⟨rfl, N1q, e1q⟩ := hQ1
    have N1 := Fr.app N0 N1q
    refine Onw.go st1 ?_
    show Onw p e below _ (T1.setTop (mkF m 45 #[.val (.int p0), .val (.long q1), .second, .val (.int p2), .val (.int n), .val (.long q), .second, .unset, .unset, .unset, .unset] [(.long ((((n.toInt64) * q) + (99 : Int64)) / (100 : Int64)))]))
    refine Onw.go (fun t kt => XS.lstore X1.here hx rfl (hb hby at_45) rfl (l' := #[.val (.int p0), .val (.long q1), .second, .val (.int p2), .val (.int n), .val (.long q), .second, .val (.long ((((n.toInt64) * q) + (99 : Int64)) / (100 : Int64))), .second, .unset, .unset]) rfl kt) ?_
    show Onw p e below _ (T1.setTop (mkF m 47 #[.val (.int p0), .val (.long q1), .second, .val (.int p2), .val (.int n), .val (.long q), .second, .val (.long ((((n.toInt64) * q) + (99 : Int64)) / (100 : Int64))), .second, .unset, .unset] []))
    refine Onw.go (fun t kt => XS.iload X1.here hx rfl (hb hby at_47) rfl kt) ?_
    show Onw p e below _ (T1.setTop (mkF m 49 #[.val (.int p0), .val (.long q1), .second, .val (.int p2), .val (.int n), .val (.long q), .second, .val (.long ((((n.toInt64) * q) + (99 : Int64)) / (100 : Int64))), .second, .unset, .unset] [(.int n)]))
    refine Onw.go (fun t kt => XS.i2l X1.here hx rfl (hb hby at_49) rfl kt) ?_
    show Onw p e below _ (T1.setTop (mkF m 50 #[.val (.int p0), .val (.long q1), .second, .val (.int p2), .val (.int n), .val (.long q), .second, .val (.long ((((n.toInt64) * q) + (99 : Int64)) / (100 : Int64))), .second, .unset, .unset] [(.long (n.toInt64))]))
    refine Onw.go (fun t kt => XS.lload X1.here hx rfl (hb hby at_50) rfl kt) ?_
    show Onw p e below _ (T1.setTop (mkF m 52 #[.val (.int p0), .val (.long q1), .second, .val (.int p2), .val (.int n), .val (.long q), .second, .val (.long ((((n.toInt64) * q) + (99 : Int64)) / (100 : Int64))), .second, .unset, .unset] [(.long q), (.long (n.toInt64))]))
    refine Onw.go (fun t kt => XS.lmul X1.here hx rfl (hb hby at_52) rfl kt) ?_
    show Onw p e below _ (T1.setTop (mkF m 53 #[.val (.int p0), .val (.long q1), .second, .val (.int p2), .val (.int n), .val (.long q), .second, .val (.long ((((n.toInt64) * q) + (99 : Int64)) / (100 : Int64))), .second, .unset, .unset] [(.long ((n.toInt64) * q))]))
    obtain ⟨z, hz⟩ : ∃ own_z, own_z = ((n.toInt64) * q) := ⟨_, rfl⟩
    rw [← hz]
    show Onw p e below _ (T1.setTop (mkF m 53 #[.val (.int p0), .val (.long q1), .second, .val (.int p2), .val (.int n), .val (.long q), .second, .val (.long ((z + (99 : Int64)) / (100 : Int64))), .second, .unset, .unset] [(.long z)]))
    obtain ⟨r, hr⟩ : ∃ own_z, own_z = ((z + (99 : Int64)) / (100 : Int64)) := ⟨_, rfl⟩
    rw [← hr]
    show Onw p e below _ (T1.setTop (mkF m 53 #[.val (.int p0), .val (.long q1), .second, .val (.int p2), .val (.int n), .val (.long q), .second, .val (.long r), .second, .unset, .unset] [(.long z)]))
    obtain ⟨t1, t2, t3, t4⟩ := own_rank _ _ _ _ hp hc hz hr
    refine Onw.go (fun t kt => XS.lstore X1.here hx rfl (hb hby at_53) rfl (l' := #[.val (.int p0), .val (.long q1), .second, .val (.int p2), .val (.int n), .val (.long q), .second, .val (.long r), .second, .val (.long z), .second]) rfl kt) ?_
    show Onw p e below _ (T1.setTop (mkF m 55 #[.val (.int p0), .val (.long q1), .second, .val (.int p2), .val (.int n), .val (.long q), .second, .val (.long r), .second, .val (.long z), .second] []))
    refine Onw.go (fun t kt => XS.lload X1.here hx rfl (hb hby at_55) rfl kt) ?_
    show Onw p e below _ (T1.setTop (mkF m 57 #[.val (.int p0), .val (.long q1), .second, .val (.int p2), .val (.int n), .val (.long q), .second, .val (.long r), .second, .val (.long z), .second] [(.long r)]))
    refine Onw.go (fun t kt => XS.lconst X1.here hx rfl (hb hby at_57) kt) ?_
    show Onw p e below _ (T1.setTop (mkF m 58 #[.val (.int p0), .val (.long q1), .second, .val (.int p2), .val (.int n), .val (.long q), .second, .val (.long r), .second, .val (.long z), .second] [(.long (1 : Int64)), (.long r)]))
    refine Onw.go (fun t kt => XS.lcmp X1.here hx rfl (hb hby at_58) rfl kt) ?_
    show Onw p e below _ (T1.setTop (mkF m 59 #[.val (.int p0), .val (.long q1), .second, .val (.int p2), .val (.int n), .val (.long q), .second, .val (.long r), .second, .val (.long z), .second] [(.int (lcmpW r (1 : Int64)))]))
    refine Onw.go (fun t kt => XS.ifYes X1.here hx rfl (pc0 := 59) (pc' := 64) rfl (hb hby at_59) rfl ((if0 _ _).trans (flt (t1 : ¬ ((lcmpW r (1 : Int64)) < (0 : Int32)))).2.1) (by decide) (by decide) kt) ?_
    show Onw p e below _ (T1.setTop (mkF m 64 #[.val (.int p0), .val (.long q1), .second, .val (.int p2), .val (.int n), .val (.long q), .second, .val (.long r), .second, .val (.long z), .second] []))
    refine Onw.go (fun t kt => XS.lload X1.here hx rfl (hb hby at_64) rfl kt) ?_
    show Onw p e below _ (T1.setTop (mkF m 66 #[.val (.int p0), .val (.long q1), .second, .val (.int p2), .val (.int n), .val (.long q), .second, .val (.long r), .second, .val (.long z), .second] [(.long r)]))
    refine Onw.go (fun t kt => XS.lload X1.here hx rfl (hb hby at_66) rfl kt) ?_
    show Onw p e below _ (T1.setTop (mkF m 68 #[.val (.int p0), .val (.long q1), .second, .val (.int p2), .val (.int n), .val (.long q), .second, .val (.long r), .second, .val (.long z), .second] [(.long q), (.long r)]))
    refine Onw.go (fun t kt => XS.lcmp X1.here hx rfl (hb hby at_68) rfl kt) ?_
    show Onw p e below _ (T1.setTop (mkF m 69 #[.val (.int p0), .val (.long q1), .second, .val (.int p2), .val (.int n), .val (.long q), .second, .val (.long r), .second, .val (.long z), .second] [(.int (lcmpW r q))]))
    refine Onw.go (fun t kt => XS.ifYes X1.here hx rfl (pc0 := 69) (pc' := 74) rfl (hb hby at_69) rfl ((if0 _ _).trans (flt (t2 : ¬ ((0 : Int32) < (lcmpW r q)))).2.2.2) (by decide) (by decide) kt) ?_
    show Onw p e below _ (T1.setTop (mkF m 74 #[.val (.int p0), .val (.long q1), .second, .val (.int p2), .val (.int n), .val (.long q), .second, .val (.long r), .second, .val (.long z), .second] []))
    refine Onw.go (X1.ldc2Long hx hown (mvT hZ (hw _ (List.mem_of_getElem? (i := 8) rfl))) (g := (mkF m 74 #[.val (.int p0), .val (.long q1), .second, .val (.int p2), .val (.int n), .val (.long q), .second, .val (.long r), .second, .val (.long z), .second] [])) rfl (hb hby at_74)) ?_
    show Onw p e below _ (T1.setTop (mkF m 77 #[.val (.int p0), .val (.long q1), .second, .val (.int p2), .val (.int n), .val (.long q), .second, .val (.long r), .second, .val (.long z), .second] [(.long (100 : Int64))]))
    refine Onw.go (fun t kt => XS.lload X1.here hx rfl (hb hby at_77) rfl kt) ?_
    show Onw p e below _ (T1.setTop (mkF m 79 #[.val (.int p0), .val (.long q1), .second, .val (.int p2), .val (.int n), .val (.long q), .second, .val (.long r), .second, .val (.long z), .second] [(.long r), (.long (100 : Int64))]))
    refine Onw.go (fun t kt => XS.lconst X1.here hx rfl (hb hby at_79) kt) ?_
    show Onw p e below _ (T1.setTop (mkF m 80 #[.val (.int p0), .val (.long q1), .second, .val (.int p2), .val (.int n), .val (.long q), .second, .val (.long r), .second, .val (.long z), .second] [(.long (1 : Int64)), (.long r), (.long (100 : Int64))]))
    refine Onw.go (fun t kt => XS.lsub X1.here hx rfl (hb hby at_80) rfl kt) ?_
    show Onw p e below _ (T1.setTop (mkF m 81 #[.val (.int p0), .val (.long q1), .second, .val (.int p2), .val (.int n), .val (.long q), .second, .val (.long r), .second, .val (.long z), .second] [(.long (r - (1 : Int64))), (.long (100 : Int64))]))
    refine Onw.go (fun t kt => XS.lmul X1.here hx rfl (hb hby at_81) rfl kt) ?_
    show Onw p e below _ (T1.setTop (mkF m 82 #[.val (.int p0), .val (.long q1), .second, .val (.int p2), .val (.int n), .val (.long q), .second, .val (.long r), .second, .val (.long z), .second] [(.long ((100 : Int64) * (r - (1 : Int64))))]))
    refine Onw.go (fun t kt => XS.lload X1.here hx rfl (hb hby at_82) rfl kt) ?_
    show Onw p e below _ (T1.setTop (mkF m 84 #[.val (.int p0), .val (.long q1), .second, .val (.int p2), .val (.int n), .val (.long q), .second, .val (.long r), .second, .val (.long z), .second] [(.long z), (.long ((100 : Int64) * (r - (1 : Int64))))]))
    refine Onw.go (fun t kt => XS.lcmp X1.here hx rfl (hb hby at_84) rfl kt) ?_
    show Onw p e below _ (T1.setTop (mkF m 85 #[.val (.int p0), .val (.long q1), .second, .val (.int p2), .val (.int n), .val (.long q), .second, .val (.long r), .second, .val (.long z), .second] [(.int (lcmpW ((100 : Int64) * (r - (1 : Int64))) z))]))
    refine Onw.go (fun t kt => XS.ifNo X1.here hx rfl (hb hby at_85) rfl ((if0 _ _).trans (tlt (t3 : (lcmpW ((100 : Int64) * (r - (1 : Int64))) z) < (0 : Int32))).2.1) kt) ?_
    show Onw p e below _ (T1.setTop (mkF m 88 #[.val (.int p0), .val (.long q1), .second, .val (.int p2), .val (.int n), .val (.long q), .second, .val (.long r), .second, .val (.long z), .second] []))
    refine Onw.go (fun t kt => XS.lload X1.here hx rfl (hb hby at_88) rfl kt) ?_
    show Onw p e below _ (T1.setTop (mkF m 90 #[.val (.int p0), .val (.long q1), .second, .val (.int p2), .val (.int n), .val (.long q), .second, .val (.long r), .second, .val (.long z), .second] [(.long z)]))
    refine Onw.go (X1.ldc2Long hx hown (mvT hZ (hw _ (List.mem_of_getElem? (i := 8) rfl))) (g := (mkF m 90 #[.val (.int p0), .val (.long q1), .second, .val (.int p2), .val (.int n), .val (.long q), .second, .val (.long r), .second, .val (.long z), .second] [(.long z)])) rfl (hb hby at_90)) ?_
    show Onw p e below _ (T1.setTop (mkF m 93 #[.val (.int p0), .val (.long q1), .second, .val (.int p2), .val (.int n), .val (.long q), .second, .val (.long r), .second, .val (.long z), .second] [(.long (100 : Int64)), (.long z)]))
    refine Onw.go (fun t kt => XS.lload X1.here hx rfl (hb hby at_93) rfl kt) ?_
    show Onw p e below _ (T1.setTop (mkF m 95 #[.val (.int p0), .val (.long q1), .second, .val (.int p2), .val (.int n), .val (.long q), .second, .val (.long r), .second, .val (.long z), .second] [(.long r), (.long (100 : Int64)), (.long z)]))
    refine Onw.go (fun t kt => XS.lmul X1.here hx rfl (hb hby at_95) rfl kt) ?_
    show Onw p e below _ (T1.setTop (mkF m 96 #[.val (.int p0), .val (.long q1), .second, .val (.int p2), .val (.int n), .val (.long q), .second, .val (.long r), .second, .val (.long z), .second] [(.long ((100 : Int64) * r)), (.long z)]))
    refine Onw.go (fun t kt => XS.lcmp X1.here hx rfl (hb hby at_96) rfl kt) ?_
    show Onw p e below _ (T1.setTop (mkF m 97 #[.val (.int p0), .val (.long q1), .second, .val (.int p2), .val (.int n), .val (.long q), .second, .val (.long r), .second, .val (.long z), .second] [(.int (lcmpW z ((100 : Int64) * r)))]))
    refine Onw.go (fun t kt => XS.ifNo X1.here hx rfl (hb hby at_97) rfl ((if0 _ _).trans (flt (t4 : ¬ ((0 : Int32) < (lcmpW z ((100 : Int64) * r))))).2.2.1) kt) ?_
    show Onw p e below _ (T1.setTop (mkF m 100 #[.val (.int p0), .val (.long q1), .second, .val (.int p2), .val (.int n), .val (.long q), .second, .val (.long r), .second, .val (.long z), .second] []))
    refine Onw.go (fun t kt => XS.iconst X1.here hx rfl (hb hby at_100) kt) ?_
    show Onw p e below _ (T1.setTop (mkF m 101 #[.val (.int p0), .val (.long q1), .second, .val (.int p2), .val (.int n), .val (.long q), .second, .val (.long r), .second, .val (.long z), .second] [(.int (1 : Int32))]))
    refine Onw.go (fun t kt => XS.goto X1.here hx rfl (pc0 := 101) (pc' := 105) rfl (hb hby at_101) (by decide) (by decide) kt) ?_
    show Onw p e below _ (T1.setTop (mkF m 105 #[.val (.int p0), .val (.long q1), .second, .val (.int p2), .val (.int n), .val (.long q), .second, .val (.long r), .second, .val (.long z), .second] [(.int (1 : Int32))]))
    exact Onw.ret X1 Bd.notSynchronized (fun h => by rw [Bd.returns] at h; cases h) (fun fs hr => retN X1 hx (t := .boolean) Bd.returns (by simp) (hb hby at_105) hr) ⟨rfl, N1⟩ (by decide) (by decide)
  · refine Onw.go (fun t kt => XS.ifNo X0.here hx rfl (hb hby at_14) rfl ((if0 _ _).trans (feq (hs : ¬ ((p2 &&& (1 : Int32)) = (0 : Int32)))).1) kt) ?_
    show Onw p e below _ (s₁.setTop (mkF m 17 #[.val (.int p0), .val (.long q1), .second, .val (.int p2), .val (.int n), .unset, .unset, .unset, .unset, .unset, .unset] []))
    refine Onw.go (fun t kt => XS.lloadN X0.here hx rfl (hb hby at_17) rfl kt) ?_
    show Onw p e below _ (s₁.setTop (mkF m 18 #[.val (.int p0), .val (.long q1), .second, .val (.int p2), .val (.int n), .unset, .unset, .unset, .unset, .unset, .unset] [(.long q1)]))
    refine Onw.go (X0.ldc2Long hx hown (mvT hZ (hw _ (List.mem_of_getElem? (i := 1) rfl))) (g := (mkF m 18 #[.val (.int p0), .val (.long q1), .second, .val (.int p2), .val (.int n), .unset, .unset, .unset, .unset, .unset, .unset] [(.long q1)])) rfl (hb hby at_18)) ?_
    show Onw p e below _ (s₁.setTop (mkF m 21 #[.val (.int p0), .val (.long q1), .second, .val (.int p2), .val (.int n), .unset, .unset, .unset, .unset, .unset, .unset] [(.long (1023 : Int64)), (.long q1)]))
    refine Onw.go (fun t kt => XS.land X0.here hx rfl (hb hby at_21) rfl kt) ?_
    show Onw p e below _ (s₁.setTop (mkF m 22 #[.val (.int p0), .val (.long q1), .second, .val (.int p2), .val (.int n), .unset, .unset, .unset, .unset, .unset, .unset] [(.long (q1 &&& (1023 : Int64)))]))
    refine Onw.go (fun t kt => XS.lconst X0.here hx rfl (hb hby at_22) kt) ?_
    show Onw p e below _ (s₁.setTop (mkF m 23 #[.val (.int p0), .val (.long q1), .second, .val (.int p2), .val (.int n), .unset, .unset, .unset, .unset, .unset, .unset] [(.long (1 : Int64)), (.long (q1 &&& (1023 : Int64)))]))
    refine Onw.go (fun t kt => XS.ladd X0.here hx rfl (hb hby at_23) rfl kt) ?_
    show Onw p e below _ (s₁.setTop (mkF m 24 #[.val (.int p0), .val (.long q1), .second, .val (.int p2), .val (.int n), .unset, .unset, .unset, .unset, .unset, .unset] [(.long ((q1 &&& (1023 : Int64)) + (1 : Int64)))]))
    obtain ⟨q, hq⟩ : ∃ own_z, own_z = ((q1 &&& (1023 : Int64)) + (1 : Int64)) := ⟨_, rfl⟩
    rw [← hq]
    show Onw p e below _ (s₁.setTop (mkF m 24 #[.val (.int p0), .val (.long q1), .second, .val (.int p2), .val (.int n), .unset, .unset, .unset, .unset, .unset, .unset] [(.long q)]))
    have hc := own_c _ _ _ 10 (by decide) (by decide) hq
    refine Onw.go (fun t kt => XS.lstore X0.here hx rfl (hb hby at_24) rfl (l' := #[.val (.int p0), .val (.long q1), .second, .val (.int p2), .val (.int n), .val (.long q), .second, .unset, .unset, .unset, .unset]) rfl kt) ?_
    show Onw p e below _ (s₁.setTop (mkF m 26 #[.val (.int p0), .val (.long q1), .second, .val (.int p2), .val (.int n), .val (.long q), .second, .unset, .unset, .unset, .unset] []))
    refine Onw.go (fun t kt => XS.goto X0.here hx rfl (pc0 := 26) (pc' := 38) rfl (hb hby at_26) (by decide) (by decide) kt) ?_
    show Onw p e below _ (s₁.setTop (mkF m 38 #[.val (.int p0), .val (.long q1), .second, .val (.int p2), .val (.int n), .val (.long q), .second, .unset, .unset, .unset, .unset] []))
    refine Onw.go (fun t kt => XS.iload X0.here hx rfl (hb hby at_38) rfl kt) ?_
    show Onw p e below _ (s₁.setTop (mkF m 40 #[.val (.int p0), .val (.long q1), .second, .val (.int p2), .val (.int n), .val (.long q), .second, .unset, .unset, .unset, .unset] [(.int n)]))
    refine Onw.go (fun t kt => XS.lload X0.here hx rfl (hb hby at_40) rfl kt) ?_
    show Onw p e below _ (s₁.setTop (mkF m 42 #[.val (.int p0), .val (.long q1), .second, .val (.int p2), .val (.int n), .val (.long q), .second, .unset, .unset, .unset, .unset] [(.long q), (.int n)]))
    obtain ⟨_, _, ⟨T2, L2, k2, n2⟩, -, X2, ⟨Lc2, hQ2, l2, y2, z2⟩, st2⟩ := Jvm.LawKit.callS X0 hx (y := (⟨"com/example/clockwise/clockwise/Percentiles", "nearestRank", "(IJ)J"⟩ : MethodName)) hown (mvT hZ (hw _ (List.mem_of_getElem? (i := 2) rfl))) (mvT hZ (hw _ (List.mem_of_getElem? (i := 3) rfl))) (mvT hZ (hw _ (List.mem_of_getElem? (i := 4) rfl))) (mvT hZ (hw _ (List.mem_of_getElem? (i := 5) rfl))) (by decide) (backOf (W := 0) (rm1 l Z a0 hw [] n q  h0 n0 ) hZ (hw _ (List.mem_of_getElem? (i := 5) rfl)) (hw _ (List.mem_of_getElem? (i := 4) rfl)) (by decide) (by decide)) (g := (mkF m 42 #[.val (.int p0), .val (.long q1), .second, .val (.int p2), .val (.int n), .val (.long q), .second, .unset, .unset, .unset, .unset] [(.long q), (.int n)])) rfl (by rw [hml]; rfl) (argsL := [(.int n), (.long q)]) (rest := []) (lenOf pd_0 rfl) rfl (by show 2 * 0 + _ ≤ _; exact Nat.le_of_eq rfl) (hb hby at_42) (fun _ _ => ⟨rfl, e0, (by decide : 0 + 0 ≤ _), (by decide : 0 + 0 ≤ _)⟩)
    dsimp only [Pt.U, Pt.locs, Pt.cells, Pt.slots] at X2 l2 y2 z2 st2 hQ2
    subst l2 y2 z2
    obtain ⟨rfl, N2q, e2q⟩ := hQ2
    have N2 := Fr.app N0 N2q
    refine Onw.go st2 ?_
    show Onw p e below _ (T2.setTop (mkF m 45 #[.val (.int p0), .val (.long q1), .second, .val (.int p2), .val (.int n), .val (.long q), .second, .unset, .unset, .unset, .unset] [(.long ((((n.toInt64) * q) + (99 : Int64)) / (100 : Int64)))]))
    refine Onw.go (fun t kt => XS.lstore X2.here hx rfl (hb hby at_45) rfl (l' := #[.val (.int p0), .val (.long q1), .second, .val (.int p2), .val (.int n), .val (.long q), .second, .val (.long ((((n.toInt64) * q) + (99 : Int64)) / (100 : Int64))), .second, .unset, .unset]) rfl kt) ?_
    show Onw p e below _ (T2.setTop (mkF m 47 #[.val (.int p0), .val (.long q1), .second, .val (.int p2), .val (.int n), .val (.long q), .second, .val (.long ((((n.toInt64) * q) + (99 : Int64)) / (100 : Int64))), .second, .unset, .unset] []))
    refine Onw.go (fun t kt => XS.iload X2.here hx rfl (hb hby at_47) rfl kt) ?_
    show Onw p e below _ (T2.setTop (mkF m 49 #[.val (.int p0), .val (.long q1), .second, .val (.int p2), .val (.int n), .val (.long q), .second, .val (.long ((((n.toInt64) * q) + (99 : Int64)) / (100 : Int64))), .second, .unset, .unset] [(.int n)]))
    refine Onw.go (fun t kt => XS.i2l X2.here hx rfl (hb hby at_49) rfl kt) ?_
    show Onw p e below _ (T2.setTop (mkF m 50 #[.val (.int p0), .val (.long q1), .second, .val (.int p2), .val (.int n), .val (.long q), .second, .val (.long ((((n.toInt64) * q) + (99 : Int64)) / (100 : Int64))), .second, .unset, .unset] [(.long (n.toInt64))]))
    refine Onw.go (fun t kt => XS.lload X2.here hx rfl (hb hby at_50) rfl kt) ?_
    show Onw p e below _ (T2.setTop (mkF m 52 #[.val (.int p0), .val (.long q1), .second, .val (.int p2), .val (.int n), .val (.long q), .second, .val (.long ((((n.toInt64) * q) + (99 : Int64)) / (100 : Int64))), .second, .unset, .unset] [(.long q), (.long (n.toInt64))]))
    refine Onw.go (fun t kt => XS.lmul X2.here hx rfl (hb hby at_52) rfl kt) ?_
    show Onw p e below _ (T2.setTop (mkF m 53 #[.val (.int p0), .val (.long q1), .second, .val (.int p2), .val (.int n), .val (.long q), .second, .val (.long ((((n.toInt64) * q) + (99 : Int64)) / (100 : Int64))), .second, .unset, .unset] [(.long ((n.toInt64) * q))]))
    obtain ⟨z, hz⟩ : ∃ own_z, own_z = ((n.toInt64) * q) := ⟨_, rfl⟩
    rw [← hz]
    show Onw p e below _ (T2.setTop (mkF m 53 #[.val (.int p0), .val (.long q1), .second, .val (.int p2), .val (.int n), .val (.long q), .second, .val (.long ((z + (99 : Int64)) / (100 : Int64))), .second, .unset, .unset] [(.long z)]))
    obtain ⟨r, hr⟩ : ∃ own_z, own_z = ((z + (99 : Int64)) / (100 : Int64)) := ⟨_, rfl⟩
    rw [← hr]
    show Onw p e below _ (T2.setTop (mkF m 53 #[.val (.int p0), .val (.long q1), .second, .val (.int p2), .val (.int n), .val (.long q), .second, .val (.long r), .second, .unset, .unset] [(.long z)]))
    obtain ⟨t1, t2, t3, t4⟩ := own_rank _ _ _ _ hp hc hz hr
    refine Onw.go (fun t kt => XS.lstore X2.here hx rfl (hb hby at_53) rfl (l' := #[.val (.int p0), .val (.long q1), .second, .val (.int p2), .val (.int n), .val (.long q), .second, .val (.long r), .second, .val (.long z), .second]) rfl kt) ?_
    show Onw p e below _ (T2.setTop (mkF m 55 #[.val (.int p0), .val (.long q1), .second, .val (.int p2), .val (.int n), .val (.long q), .second, .val (.long r), .second, .val (.long z), .second] []))
    refine Onw.go (fun t kt => XS.lload X2.here hx rfl (hb hby at_55) rfl kt) ?_
    show Onw p e below _ (T2.setTop (mkF m 57 #[.val (.int p0), .val (.long q1), .second, .val (.int p2), .val (.int n), .val (.long q), .second, .val (.long r), .second, .val (.long z), .second] [(.long r)]))
    refine Onw.go (fun t kt => XS.lconst X2.here hx rfl (hb hby at_57) kt) ?_
    show Onw p e below _ (T2.setTop (mkF m 58 #[.val (.int p0), .val (.long q1), .second, .val (.int p2), .val (.int n), .val (.long q), .second, .val (.long r), .second, .val (.long z), .second] [(.long (1 : Int64)), (.long r)]))
    refine Onw.go (fun t kt => XS.lcmp X2.here hx rfl (hb hby at_58) rfl kt) ?_
    show Onw p e below _ (T2.setTop (mkF m 59 #[.val (.int p0), .val (.long q1), .second, .val (.int p2), .val (.int n), .val (.long q), .second, .val (.long r), .second, .val (.long z), .second] [(.int (lcmpW r (1 : Int64)))]))
    refine Onw.go (fun t kt => XS.ifYes X2.here hx rfl (pc0 := 59) (pc' := 64) rfl (hb hby at_59) rfl ((if0 _ _).trans (flt (t1 : ¬ ((lcmpW r (1 : Int64)) < (0 : Int32)))).2.1) (by decide) (by decide) kt) ?_
    show Onw p e below _ (T2.setTop (mkF m 64 #[.val (.int p0), .val (.long q1), .second, .val (.int p2), .val (.int n), .val (.long q), .second, .val (.long r), .second, .val (.long z), .second] []))
    refine Onw.go (fun t kt => XS.lload X2.here hx rfl (hb hby at_64) rfl kt) ?_
    show Onw p e below _ (T2.setTop (mkF m 66 #[.val (.int p0), .val (.long q1), .second, .val (.int p2), .val (.int n), .val (.long q), .second, .val (.long r), .second, .val (.long z), .second] [(.long r)]))
    refine Onw.go (fun t kt => XS.lload X2.here hx rfl (hb hby at_66) rfl kt) ?_
    show Onw p e below _ (T2.setTop (mkF m 68 #[.val (.int p0), .val (.long q1), .second, .val (.int p2), .val (.int n), .val (.long q), .second, .val (.long r), .second, .val (.long z), .second] [(.long q), (.long r)]))
    refine Onw.go (fun t kt => XS.lcmp X2.here hx rfl (hb hby at_68) rfl kt) ?_
    show Onw p e below _ (T2.setTop (mkF m 69 #[.val (.int p0), .val (.long q1), .second, .val (.int p2), .val (.int n), .val (.long q), .second, .val (.long r), .second, .val (.long z), .second] [(.int (lcmpW r q))]))
    refine Onw.go (fun t kt => XS.ifYes X2.here hx rfl (pc0 := 69) (pc' := 74) rfl (hb hby at_69) rfl ((if0 _ _).trans (flt (t2 : ¬ ((0 : Int32) < (lcmpW r q)))).2.2.2) (by decide) (by decide) kt) ?_
    show Onw p e below _ (T2.setTop (mkF m 74 #[.val (.int p0), .val (.long q1), .second, .val (.int p2), .val (.int n), .val (.long q), .second, .val (.long r), .second, .val (.long z), .second] []))
    refine Onw.go (X2.ldc2Long hx hown (mvT hZ (hw _ (List.mem_of_getElem? (i := 8) rfl))) (g := (mkF m 74 #[.val (.int p0), .val (.long q1), .second, .val (.int p2), .val (.int n), .val (.long q), .second, .val (.long r), .second, .val (.long z), .second] [])) rfl (hb hby at_74)) ?_
    show Onw p e below _ (T2.setTop (mkF m 77 #[.val (.int p0), .val (.long q1), .second, .val (.int p2), .val (.int n), .val (.long q), .second, .val (.long r), .second, .val (.long z), .second] [(.long (100 : Int64))]))
    refine Onw.go (fun t kt => XS.lload X2.here hx rfl (hb hby at_77) rfl kt) ?_
    show Onw p e below _ (T2.setTop (mkF m 79 #[.val (.int p0), .val (.long q1), .second, .val (.int p2), .val (.int n), .val (.long q), .second, .val (.long r), .second, .val (.long z), .second] [(.long r), (.long (100 : Int64))]))
    refine Onw.go (fun t kt => XS.lconst X2.here hx rfl (hb hby at_79) kt) ?_
    show Onw p e below _ (T2.setTop (mkF m 80 #[.val (.int p0), .val (.long q1), .second, .val (.int p2), .val (.int n), .val (.long q), .second, .val (.long r), .second, .val (.long z), .second] [(.long (1 : Int64)), (.long r), (.long (100 : Int64))]))
    refine Onw.go (fun t kt => XS.lsub X2.here hx rfl (hb hby at_80) rfl kt) ?_
    show Onw p e below _ (T2.setTop (mkF m 81 #[.val (.int p0), .val (.long q1), .second, .val (.int p2), .val (.int n), .val (.long q), .second, .val (.long r), .second, .val (.long z), .second] [(.long (r - (1 : Int64))), (.long (100 : Int64))]))
    refine Onw.go (fun t kt => XS.lmul X2.here hx rfl (hb hby at_81) rfl kt) ?_
    show Onw p e below _ (T2.setTop (mkF m 82 #[.val (.int p0), .val (.long q1), .second, .val (.int p2), .val (.int n), .val (.long q), .second, .val (.long r), .second, .val (.long z), .second] [(.long ((100 : Int64) * (r - (1 : Int64))))]))
    refine Onw.go (fun t kt => XS.lload X2.here hx rfl (hb hby at_82) rfl kt) ?_
    show Onw p e below _ (T2.setTop (mkF m 84 #[.val (.int p0), .val (.long q1), .second, .val (.int p2), .val (.int n), .val (.long q), .second, .val (.long r), .second, .val (.long z), .second] [(.long z), (.long ((100 : Int64) * (r - (1 : Int64))))]))
    refine Onw.go (fun t kt => XS.lcmp X2.here hx rfl (hb hby at_84) rfl kt) ?_
    show Onw p e below _ (T2.setTop (mkF m 85 #[.val (.int p0), .val (.long q1), .second, .val (.int p2), .val (.int n), .val (.long q), .second, .val (.long r), .second, .val (.long z), .second] [(.int (lcmpW ((100 : Int64) * (r - (1 : Int64))) z))]))
    refine Onw.go (fun t kt => XS.ifNo X2.here hx rfl (hb hby at_85) rfl ((if0 _ _).trans (tlt (t3 : (lcmpW ((100 : Int64) * (r - (1 : Int64))) z) < (0 : Int32))).2.1) kt) ?_
    show Onw p e below _ (T2.setTop (mkF m 88 #[.val (.int p0), .val (.long q1), .second, .val (.int p2), .val (.int n), .val (.long q), .second, .val (.long r), .second, .val (.long z), .second] []))
    refine Onw.go (fun t kt => XS.lload X2.here hx rfl (hb hby at_88) rfl kt) ?_
    show Onw p e below _ (T2.setTop (mkF m 90 #[.val (.int p0), .val (.long q1), .second, .val (.int p2), .val (.int n), .val (.long q), .second, .val (.long r), .second, .val (.long z), .second] [(.long z)]))
    refine Onw.go (X2.ldc2Long hx hown (mvT hZ (hw _ (List.mem_of_getElem? (i := 8) rfl))) (g := (mkF m 90 #[.val (.int p0), .val (.long q1), .second, .val (.int p2), .val (.int n), .val (.long q), .second, .val (.long r), .second, .val (.long z), .second] [(.long z)])) rfl (hb hby at_90)) ?_
    show Onw p e below _ (T2.setTop (mkF m 93 #[.val (.int p0), .val (.long q1), .second, .val (.int p2), .val (.int n), .val (.long q), .second, .val (.long r), .second, .val (.long z), .second] [(.long (100 : Int64)), (.long z)]))
    refine Onw.go (fun t kt => XS.lload X2.here hx rfl (hb hby at_93) rfl kt) ?_
    show Onw p e below _ (T2.setTop (mkF m 95 #[.val (.int p0), .val (.long q1), .second, .val (.int p2), .val (.int n), .val (.long q), .second, .val (.long r), .second, .val (.long z), .second] [(.long r), (.long (100 : Int64)), (.long z)]))
    refine Onw.go (fun t kt => XS.lmul X2.here hx rfl (hb hby at_95) rfl kt) ?_
    show Onw p e below _ (T2.setTop (mkF m 96 #[.val (.int p0), .val (.long q1), .second, .val (.int p2), .val (.int n), .val (.long q), .second, .val (.long r), .second, .val (.long z), .second] [(.long ((100 : Int64) * r)), (.long z)]))
    refine Onw.go (fun t kt => XS.lcmp X2.here hx rfl (hb hby at_96) rfl kt) ?_
    show Onw p e below _ (T2.setTop (mkF m 97 #[.val (.int p0), .val (.long q1), .second, .val (.int p2), .val (.int n), .val (.long q), .second, .val (.long r), .second, .val (.long z), .second] [(.int (lcmpW z ((100 : Int64) * r)))]))
    refine Onw.go (fun t kt => XS.ifNo X2.here hx rfl (hb hby at_97) rfl ((if0 _ _).trans (flt (t4 : ¬ ((0 : Int32) < (lcmpW z ((100 : Int64) * r))))).2.2.1) kt) ?_
    show Onw p e below _ (T2.setTop (mkF m 100 #[.val (.int p0), .val (.long q1), .second, .val (.int p2), .val (.int n), .val (.long q), .second, .val (.long r), .second, .val (.long z), .second] []))
    refine Onw.go (fun t kt => XS.iconst X2.here hx rfl (hb hby at_100) kt) ?_
    show Onw p e below _ (T2.setTop (mkF m 101 #[.val (.int p0), .val (.long q1), .second, .val (.int p2), .val (.int n), .val (.long q), .second, .val (.long r), .second, .val (.long z), .second] [(.int (1 : Int32))]))
    refine Onw.go (fun t kt => XS.goto X2.here hx rfl (pc0 := 101) (pc' := 105) rfl (hb hby at_101) (by decide) (by decide) kt) ?_
    show Onw p e below _ (T2.setTop (mkF m 105 #[.val (.int p0), .val (.long q1), .second, .val (.int p2), .val (.int n), .val (.long q), .second, .val (.long r), .second, .val (.long z), .second] [(.int (1 : Int32))]))
    exact Onw.ret X2 Bd.notSynchronized (fun h => by rw [Bd.returns] at h; cases h) (fun fs hr => retN X2 hx (t := .boolean) Bd.returns (by simp) (hb hby at_105) hr) ⟨rfl, N2⟩ (by decide) (by decide)
set_option maxRecDepth 65536 in
set_option maxHeartbeats 40000000 in
theorem comes_1 {Post : Tables → Env → Array Value → State → Outcome → State → Prop} (hpost : ∀ tb e args s v u, (limb_1_1.after args s (.returned v) u = true ∧ limb_1_2.after args s (.returned v) u = true ∧ True) → FrameEnd s (.returned v) u (Jvm.fieldLocs frame_1_writes args s ++ Jvm.arrayLocs frame_1_arrays args s ++ Jvm.staticLocs frame_1_statics s) 0 0 → Post tb e args s (.returned v) u) :
    ArmFor flags0 classFile x code maxLocals ret World_1 tables_1 room_1 Calls_1 rest_1 Pre_1 Post := by
  intro l hfl _ _ p e ha hc hk s m args below hf hA hF happ hP
  obtain ⟨hcalls, hrest, hpre⟩ := hP
  obtain ⟨-, -, -, hnamed, -, -, -, hat⟩ := (Spec.applies_iff hf).mp happ
  obtain ⟨hg, hn⟩ := and_e (Cond.before_iff.mp (show (Jvm.Cond.and given_1 narrow_1).before args s = true from hpre))
  obtain ⟨g1, g2⟩ := and_e hg
  obtain ⟨g3, g4⟩ := and_e g2
  obtain ⟨g5, g6⟩ := and_e g4
  obtain ⟨w0, w1, w2, rfl⟩ : ∃ w0 w1 w2 : Value, args = #[w0, w1, w2] := by
    have hs : args.size = 3 := by simpa [Cond.value, given_1] using g1
    obtain ⟨L⟩ := args
    match L, hs with
    | [w0, w1, w2], _ => exact ⟨w0, w1, w2, rfl⟩
  have hw := fun d (hd : d ∈ tables_1) => atoms_spec (ws := Jvm.Cond.code x code maxLocals ret :: tables_1) hat d (List.mem_cons_of_mem _ hd)
  have hfit : Fit s := fun {y c} hc i hi => by
    obtain ⟨ha, rfl⟩ := Array.getElem?_eq_some_iff.mp hc
    have q := List.all_eq_true.mp ((Array.all_eq_true_iff_forall_mem.mp hF) _ (Array.getElem_mem ha)) i (List.mem_range.mpr hi)
    simpa [Array.getElem?_eq_getElem hi] using q
  obtain ⟨i0, ei0⟩ := is_v g3
  obtain rfl : w0 = (.int i0) := Option.some.inj ei0
  obtain ⟨i1, ei1⟩ := isL_v g5
  obtain rfl : w1 = (.long i1) := Option.some.inj ei1
  obtain ⟨i2, ei2⟩ := is_v g6
  obtain rfl : w2 = (.int i2) := Option.some.inj ei2
  obtain ⟨n, o, h1, h2, h3, _, L, rfl, ⟨rfl, N⟩, hq⟩ := rm0 l s _ hw tables_1 i0 i1 i2  s.heap s.heap.size  p e ha hc hk s m _ below hf ((Spec.applies_iff_loose hf).mp happ).1 ⟨rfl, State.Warmed39.refl s, rfl⟩ trivial
  refine ⟨n, _, h1, h2, h3, hpost _ _ _ _ _ _ ⟨Cond.after_iff.mpr rfl, Cond.after_iff.mpr (eq_i res_at (Term.int_eval (1)) rfl), trivial⟩ ⟨hq.1, hq.2.1, (hq.2.2.sift fun y hy => Or.inr (N y hy)).mono (by decide) (by decide)⟩⟩
theorem main_1_1 : Claimed_1_1 := comes_1 fun _ _ _ _ _ _ h hF => ⟨h.1, hF⟩
theorem main_1_2 : Claimed_1_2 := comes_1 fun _ _ _ _ _ _ h hF => ⟨h.2.1, hF⟩
end Jvm.Pilot.@@N@@
namespace Jvm.Pilot.@@N@@
open Jvm Jvm.ClassFile Sem Op Lib Jvm.Free Jvm.Stand Jvm.Pilot.@@N@@.Jvm.D
/-! MADE BY PROGRAM (witnessworld.py) out of the Statement's table words and the real class files: 9 classes; the members and pool entries that the words name. The judged class is class 1, her method 1. -/
namespace start1
open Jvm.ClassFile
def u (s : String) : CpInfo := .utf8 (stringToUtf16 s)
/-- a pool by its gaps: so many unusable entries, then the entry; so many at the end -/
def gap : Nat → List CpInfo → List CpInfo
  | 0, r => r
  | n + 1, r => .unusable :: gap n r
def poolList (es : List (Nat × CpInfo)) (last : Nat) : List CpInfo := es.foldr (fun e r => gap e.1 (e.2 :: r)) (gap last [])
def pool (es : List (Nat × CpInfo)) (last : Nat) : Array CpInfo := ⟨poolList es last⟩
def fileOf (pool : Array CpInfo) (this : Nat) (attrs : Array Attribute := #[]) (ms : Array MethodInfo := #[]) (fl : Nat := 33) (sup : Nat := 0) (ifs : Array Nat := #[]) (fds : Array FieldInfo := #[]) : ClassFile where
  minorVersion := 0
  majorVersion := 65
  constantPool := pool
  accessFlags := fl
  thisClass := this
  superClass := sup
  interfaces := ifs
  fields := fds
  methods := ms
  attributes := attrs
def plain (name : String) (sup : Option ClassId) : Class where
  name := name
  kind := .ordinary
  loader := none
  accessFlags := 33
  super := sup
  interfaces := #[]
  cf := none
  fields := #[]
  methods := #[]
  instanceTypes := #[]
  staticTypes := #[]
  resolved := #[]
  callSites := []
  init := .initialized
  statics := none
  mirror := none

def pool0 : Array CpInfo := pool [(5, u "<init>"), (0, u "()V"), (1, .class_ 10), (1, u "java/lang/Object")] 113

def k0m0 : Method := { name := "<init>", desc := "()V", sig := { parameters := [], returnType := none }, accessFlags := 1, code := none }
/-- java/lang/Object -/
def k0 : Class := { plain "java/lang/Object" none with
  accessFlags := 33
  interfaces := #[]
  cf := some (fileOf pool0 8 #[] #[{ accessFlags := 1, nameIndex := 5, descriptorIndex := 6, attributes := #[] }] 33 0 #[] #[])
  fields := #[]
  methods := #[k0m0]
  instanceTypes := #[]
  staticTypes := #[]
  resolved := Array.replicate 124 none
  statics := none }

def pool1 : Array CpInfo := pool [(2, .class_ 4), (1, u "java/lang/Object"), (0, u "<init>"), (0, u "()V"), (0, .integer 2147483647), (0, .long 1023), (1, .long 72057594037927935), (1, .methodref 13 14), (0, .class_ 15), (0, .nameAndType 16 17), (0, u "com/example/clockwise/clockwise/Percentiles"), (0, u "nearestRank"), (0, u "(IJ)J"), (0, .long 100), (1, .class_ 21), (0, u "com/example/clockwise/clockwise/PercentilesNearestRankPinLaw"), (2, u "law"), (0, u "(IJI)Z")] 3

def k1m0 : Method := { name := "<init>", desc := "()V", sig := { parameters := [], returnType := none }, accessFlags := 2, code := none }
def k1c1 : Code := { maxStack := 6, maxLocals := 11, code := code, exceptionTable := #[], attributes := #[] }
def k1m1 : Method := { name := "law", desc := "(IJI)Z", sig := { parameters := [.int, .long, .int], returnType := some .boolean }, accessFlags := 9, code := some k1c1 }
/-- com/example/clockwise/clockwise/PercentilesNearestRankPinLaw -/
def k1 : Class := { plain "com/example/clockwise/clockwise/PercentilesNearestRankPinLaw" (some 0) with
  accessFlags := 49
  interfaces := #[]
  cf := some (fileOf pool1 20 #[] #[{ accessFlags := 2, nameIndex := 5, descriptorIndex := 6, attributes := #[] }, { accessFlags := 9, nameIndex := 24, descriptorIndex := 25, attributes := #[] }] 49 2 #[] #[])
  fields := #[]
  methods := #[k1m0, k1m1]
  instanceTypes := #[]
  staticTypes := #[]
  resolved := Array.replicate 29 none
  statics := none }

def pool2 : Array CpInfo := pool [(2, .class_ 4), (1, u "java/lang/Object"), (0, u "<init>"), (0, u "()V"), (0, .long 99), (1, .long 100), (1, .class_ 12), (0, u "com/example/clockwise/clockwise/Percentiles"), (2, u "nearestRank"), (0, u "(IJ)J")] 2

def k2m0 : Method := { name := "<init>", desc := "()V", sig := { parameters := [], returnType := none }, accessFlags := 2, code := none }
def k2c1 : Code := { maxStack := 4, maxLocals := 3, code := prog_34_method_2_code, exceptionTable := #[], attributes := #[] }
def k2m1 : Method := { name := "nearestRank", desc := "(IJ)J", sig := { parameters := [.int, .long], returnType := some .long }, accessFlags := 8, code := some k2c1 }
/-- com/example/clockwise/clockwise/Percentiles -/
def k2 : Class := { plain "com/example/clockwise/clockwise/Percentiles" (some 0) with
  accessFlags := 48
  interfaces := #[]
  cf := some (fileOf pool2 11 #[] #[{ accessFlags := 2, nameIndex := 5, descriptorIndex := 6, attributes := #[] }, { accessFlags := 8, nameIndex := 15, descriptorIndex := 16, attributes := #[] }] 48 2 #[] #[])
  fields := #[]
  methods := #[k2m0, k2m1]
  instanceTypes := #[]
  staticTypes := #[]
  resolved := Array.replicate 19 none
  statics := none }

def pool3 : Array CpInfo := pool [(1, u "java/lang/Cloneable"), (0, .class_ 1), (0, u "java/lang/Object"), (0, .class_ 3)] 3

/-- java/lang/Cloneable -/
def k3 : Class := { plain "java/lang/Cloneable" (some 0) with
  accessFlags := 1537
  interfaces := #[]
  cf := some (fileOf pool3 2 #[] #[] 1537 4 #[] #[])
  fields := #[]
  methods := #[]
  instanceTypes := #[]
  staticTypes := #[]
  resolved := Array.replicate 8 none
  statics := none }

def pool4 : Array CpInfo := pool [(1, u "java/io/Serializable"), (0, .class_ 1), (0, u "java/lang/Object"), (0, .class_ 3)] 3

/-- java/io/Serializable -/
def k4 : Class := { plain "java/io/Serializable" (some 0) with
  accessFlags := 1537
  interfaces := #[]
  cf := some (fileOf pool4 2 #[] #[] 1537 4 #[] #[])
  fields := #[]
  methods := #[]
  instanceTypes := #[]
  staticTypes := #[]
  resolved := Array.replicate 8 none
  statics := none }

/-- the primitive byte -/
def k5 : Class := { plain "byte" none with kind := .primitive 'B', accessFlags := 0x411 }
/-- [B -/
def k6 : Class := { plain "[B" (some 0) with kind := .array 5 .byte, interfaces := #[3, 4], accessFlags := 1041 }

/-- the primitive int -/
def k7 : Class := { plain "int" none with kind := .primitive 'I', accessFlags := 0x411 }
/-- [I -/
def k8 : Class := { plain "[I" (some 0) with kind := .array 7 .int, interfaces := #[3, 4], accessFlags := 1041 }

def heap : Heap := #[]
def classes : Array Class := #[k0, k1, k2, k3, k4, k5, k6, k7, k8]
def interned : List (Array UInt16 × Addr) := []
def slotsUsed : Nat := 0
def theMethod : MethodId := ⟨1, 1⟩
def args0 : Array Value := #[.int 5, .long 7, .int 3]
def aboutOver (below : List Frame) : State where
  vm := { classes := classes, interned := interned.toArray }
  heap := heap
  slotsUsed := slotsUsed
  threads := #[{ frames := .invoking theMethod args0 :: below }]
def below0 : List Frame := [.native { method := ⟨0, 0⟩, args := #[] }]
def about1 : State := aboutOver below0
def p0 : Program := .bare "" "" ""
def e0 : Env := launch0.env 0 0 0
theorem w_frames : about1.frames = Frame.invoking theMethod args0 :: below0 := rfl
set_option maxRecDepth 65536 in
theorem w_args : argsFit about1.vm theMethod args0 = true := by decide +kernel
set_option maxRecDepth 65536 in
theorem w_heap : heapFits about1 = true := by decide +kernel
set_option maxRecDepth 65536 in
theorem w_runnable : about1.curStatus? = some .runnable := by decide +kernel
set_option maxRecDepth 65536 in
theorem w_alone : about1.alone = true := by decide +kernel
set_option maxRecDepth 65536 in
theorem w_named : about1.methodNamed? x = some theMethod := by decide +kernel
set_option maxRecDepth 65536 in
theorem w_hears : about1.hears theMethod below0 = true := by decide +kernel
set_option maxRecDepth 65536 in
theorem w_ripe : about1.ripe theMethod args0 below0 = true := by decide +kernel
theorem w_running : about1.status = .running := rfl
set_option maxRecDepth 65536 in
theorem w_room : about1.hasRoom e0.platform room_1 = true :=
  launch0.hasRoom_least _ room_1 (by decide +kernel) (by decide +kernel) (by decide +kernel) (by decide +kernel) (by decide +kernel) (by decide +kernel)
theorem allAtoms_all (ts : List Jvm.Cond) (a : Array Jvm.Value) (st : Jvm.State) : (allAtoms ts).before a st = ts.all (fun c => c.before a st) := by
  induction ts with
  | nil => rfl
  | cons c t ih =>
    show (Jvm.Cond.and c (allAtoms t)).before a st = _
    rw [Jvm.Cond.before_and, ih, List.all_cons]
def words1 : List Jvm.Cond := Jvm.Cond.code x code maxLocals ret :: tables_1
/-- a 'code' word, met by the world's own term for the bytes: nothing is compared byte by byte -/
theorem code_word {y : MethodName} {bytes : ByteArray} {mx : Nat} {rt : Option FieldType} {a : Array Value} {s : State} {m : MethodId} {meth : Method} {c : Code} (h1 : s.methodNamed? y = some m) (h2 : s.vm.method? m = some meth) (h3 : meth.code = some c) (h4 : c.code = bytes)
    (h5 : (c.maxLocals == mx && c.exceptionTable.isEmpty && decide (c.maxStack ≤ mostOperands) && decide (meth.sig.returnType = rt) && !meth.locks && decide (parseMethodDescriptor y.desc = some meth.sig)) = true) : (Jvm.Cond.code y bytes mx rt).before a s = true := by
  simp only [Bool.and_eq_true, beq_iff_eq, Bool.not_eq_true', decide_eq_true_eq] at h5
  obtain ⟨⟨⟨⟨⟨g1, g2⟩, g3⟩, g4⟩, g5⟩, g6⟩ := h5
  simp [Cond.before, Cond.holds, Cond.value, h1, h2, h3, h4, g1, g2, g3, g4, g5, g6]
def isCode : Jvm.Cond → Bool
  | .code _ _ _ _ => true
  | _ => false
theorem all_split {L : List Jvm.Cond} {P : Jvm.Cond → Bool} (h1 : L.all (fun c => isCode c || P c) = true) (h2 : ∀ c ∈ L.filter isCode, P c = true) : L.all P = true := by
  refine List.all_eq_true.mpr fun c hc => ?_
  have h := List.all_eq_true.mp h1 c hc
  rcases Bool.eq_false_or_eq_true (isCode c) with hi | hi
  · exact h2 c (List.mem_filter.mpr ⟨hc, hi⟩)
  · simpa [hi] using h
set_option maxRecDepth 65536 in
theorem w_c0 : (Jvm.Cond.code x code maxLocals ret).before args0 about1 = true := code_word (m := ⟨1, 1⟩) (meth := k1m1) (c := k1c1) (by decide +kernel) rfl rfl rfl (by decide +kernel)
set_option maxRecDepth 65536 in
theorem w_c1 : (Jvm.Cond.code ({ cls := "com/example/clockwise/clockwise/Percentiles", name := "nearestRank", desc := "(IJ)J" } : Jvm.MethodName) prog_34_method_2_code (3 : Nat) (Option.some Jvm.ClassFile.FieldType.long)).before args0 about1 = true := code_word (m := ⟨2, 1⟩) (meth := k2m1) (c := k2c1) (by decide +kernel) rfl rfl rfl (by decide +kernel)
def codes1 : List Jvm.Cond := [Jvm.Cond.code x code maxLocals ret, Jvm.Cond.code ({ cls := "com/example/clockwise/clockwise/Percentiles", name := "nearestRank", desc := "(IJ)J" } : Jvm.MethodName) prog_34_method_2_code (3 : Nat) (Option.some Jvm.ClassFile.FieldType.long)]
set_option maxRecDepth 65536 in
theorem codes_eq : words1.filter isCode = codes1 := rfl
theorem w_codes : ∀ c ∈ words1.filter isCode, c.before args0 about1 = true := by
  rw [codes_eq]
  intro c hc
  simp only [codes1, List.mem_cons, List.not_mem_nil, or_false] at hc
  rcases hc with rfl | rfl
  · exact w_c0
  · exact w_c1
set_option maxRecDepth 65536 in
theorem w_t1 : words1.all (fun c => isCode c || c.before args0 about1) = true := by decide +kernel
theorem w_tables : (allAtoms (Jvm.Cond.code x code maxLocals ret :: tables_1)).before args0 about1 = true := by
  rw [allAtoms_all]
  show words1.all (fun c => c.before args0 about1) = true
  refine all_split ?_ w_codes
  rw [w_t1]
set_option maxRecDepth 65536 in
theorem w_case : (Jvm.Cond.and given_1 narrow_1).before args0 about1 = true := by decide +kernel
theorem w_applies : (headSpec (Jvm.Cond.code x code maxLocals ret :: tables_1) room_1).applies x e0.platform about1 = true :=
  (Spec.applies_iff w_frames).mpr ⟨w_running, w_runnable, w_alone, w_named, w_hears, w_ripe, w_room, w_tables⟩
theorem atStart : AtStart classFile x code maxLocals ret World_1 tables_1 room_1 Calls_1 rest_1 Pre_1 launch0 p0 e0 about1 theMethod args0 below0 :=
  ⟨lists_1, trivial, launch0.admits_env _ _ _, launch0.least_env, fairChoices_fair.cas, fairChoices_fair.clock, w_frames, w_args, w_heap, w_applies, trivial, trivial, w_case⟩
end start1
theorem witness_1 : WitnessClaimed_1 := ⟨start1.p0, start1.e0, start1.about1, start1.theMethod, start1.args0, start1.below0, start1.atStart⟩
end Jvm.Pilot.@@N@@
