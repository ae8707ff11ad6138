import JvmDerived
import JvmDerived.Pilot.@@N@@Statement
import JvmDerived.Pilot.@@N@@Code
set_option linter.unusedVariables false
set_option linter.unusedSimpArgs false
namespace Jvm.RoadKit
open Sem ClassFile Op Lib Jvm.Stand Jvm.Free Jvm.LawKit
section New
variable {p : Program} {l : Launch} {e : Env} {R : Room} {s : State} {m : MethodId} {args : Array Value} {below : List Frame} {meth : Method} {c : Code} {T : State} {locs : List Loc} {cells slots : Nat}
theorem retI (X : Stand p l e R s m args below meth c T locs cells slots) (hx : p.tables.exec = Jvm.exec) {pc : Nat} {Ls : Array Slot} {z : Int32} {rest : List Value} (hret : meth.sig.returnType = some .int) (hd : decode c.code pc = .ok (.ireturn, 1)) {fs : List Frame}
    (hl : ∀ (f : JFrame) (acts : List Action), f.method = m → f.locked = none → f.entered = [] → (doReturn e (T.setTop f) acts (some (.int z))).1 = T.setFrames fs) : Steps p.tables e below (T.setTop (mkF m pc Ls (.int z :: rest))) (T.setFrames fs) := by
  have hm' : T.vm.method? m = some meth := X.method'
  have hn : narrow .int (.int z) = .int z := rfl
  show Steps p.tables e below (T.setTop { method := m, pc := pc, locals := Ls, stack := _ :: rest, locked := none }) _
  jvm_step X.here [X.here.top, hx, hd, hm', hret, hn]
  first | (intro acts; rw [hl _ acts rfl rfl rfl]) | rw [hl _ _ rfl rfl rfl]
  exact Steps.refl _
/-- the run from U on ends as W says -/
def Onw (p : Program) (e : Env) (below : List Frame) (W : Outcome → State → Prop) (U : State) : Prop :=
  ∃ s₂ o, Steps p.tables e below U s₂ ∧ s₂.status = .running ∧ Ended s₂ below o ∧ W o s₂
theorem Onw.go {W : Outcome → State → Prop} {U U' : State} (h : ∀ t, Steps p.tables e below U' t → Steps p.tables e below U t) (k : Onw p e below W U') : Onw p e below W U := by
  obtain ⟨s₂, o, h1, h2⟩ := k
  exact ⟨s₂, o, h _ h1, h2⟩
theorem Onw.of {W : Outcome → State → Prop} {U : State} (k : Onw p e below W U) : ∃ s₂ o, Steps p.tables e below U s₂ ∧ s₂.status = .running ∧ Ended s₂ below o ∧ W o s₂ := k
/-- the end of a walk -/
theorem Onw.ret (X : Stand p l e R s m args below meth c T locs cells slots) (hlk : meth.locks = false) {U : State} {v : Option Value} (hv : meth.sig.returnType = none → v = none)
    (hs : ∀ fs, (∀ (f : JFrame) (acts : List Action), f.method = m → f.locked = none → f.entered = [] → (doReturn e (T.setTop f) acts v).1 = T.setFrames fs) → Steps p.tables e below U (T.setFrames fs))
    {Q : Option Value → Heap → List Loc → Prop} (hQ : Q v T.heap locs) {k n : Nat} (hk : cells ≤ k) (hn : slots ≤ n) :
    Onw p e below (fun o s₂ => ∃ v L, o = .returned v ∧ Q v s₂.heap L ∧ FrameEnd s o s₂ L k n) U := by
  obtain ⟨fs, hr, hrun, hended, hW, hsame⟩ := X.leave (v := v) hv hlk
  exact ⟨_, _, hs fs hr, hrun, hended, v, locs, rfl, hQ, ⟨_, rfl⟩, hW, hsame.mono hk hn⟩
/-- .. where Strings may have been interned -/
theorem Onw.retW {vm₁ : Vm} (X : Stand p l e R (s.setVm vm₁) m args below meth c T locs cells slots) {j : Nat} (hS : s.Since vm₁ j) (hj : j ≤ T.heap.size) (hlk : meth.locks = false) {U : State} {v : Option Value} (hv : meth.sig.returnType = none → v = none)
    (hs : ∀ fs, (∀ (f : JFrame) (acts : List Action), f.method = m → f.locked = none → f.entered = [] → (doReturn e (T.setTop f) acts v).1 = T.setFrames fs) → Steps p.tables e below U (T.setFrames fs))
    {Q : Option Value → Heap → List Loc → Prop} (hQ : Q v T.heap locs) {k n : Nat} (hk : cells ≤ k) (hn : slots ≤ n) :
    Onw p e below (fun o s₂ => ∃ v L, o = .returned v ∧ Q v s₂.heap L ∧ ReturnedEndW s o s₂ L k n) U := by
  obtain ⟨fs, hr, hrun, hended, hE⟩ := X.leaveW hS hj (v := v) hv hlk
  exact ⟨_, _, hs fs hr, hrun, hended, v, locs, rfl, hQ, hE.1, hE.2.1, hE.2.2.1, hE.2.2.2.mono hk hn⟩
end New
end Jvm.RoadKit
namespace Jvm.Pilot.@@N@@
open Jvm Jvm.ClassFile Sem Op Lib Jvm.Free Jvm.Stand Jvm.LawKit Jvm.RoadKit Bundle Jvm.Pilot.@@N@@.Jvm.D
theorem pd_0 : parseMethodDescriptor "(J)J" = some ⟨[.long], some .long⟩ := by decide +kernel
/-- Newton's step -/
def own_nw (a x : Int64) : Int64 := x * ((2 : Int64) - a * x)
def own_inv (a : Int64) : Int64 := own_nw a (own_nw a (own_nw a (own_nw a (own_nw a a))))
/-- the unsigned shift, as the bytecode has it -/
def own_sh (z : Int64) (k : Int32) : Int64 := (z.toUInt64 >>> (k &&& 0x3f).toInt64.toUInt64).toInt64
def own_m1 (z : Int64) : Int64 := (z ^^^ own_sh z 32) * (-7046029254386353131 : Int64)
def own_m2 (a : Int64) : Int64 := (a ^^^ own_sh a 29) * (7640891576956012809 : Int64)
def own_mix (z : Int64) : Int64 := own_m2 (own_m1 z) ^^^ own_sh (own_m2 (own_m1 z)) 32
def own_u1 (z : Int64) : Int64 := z ^^^ own_sh z 32
def own_u2 (z : Int64) : Int64 := own_u1 z * own_inv (7640891576956012809 : Int64)
def own_u3 (b : Int64) : Int64 := (b ^^^ own_sh b 29) ^^^ own_sh b 58
def own_u4 (z : Int64) : Int64 := own_u3 (own_u2 z) * own_inv (-7046029254386353131 : Int64)
def own_unmix (z : Int64) : Int64 := own_u4 z ^^^ own_sh (own_u4 z) 32
theorem own_inv1 : (7640891576956012809 : Int64) * own_inv (7640891576956012809 : Int64) = 1 := by decide +kernel
theorem own_inv2 : (-7046029254386353131 : Int64) * own_inv (-7046029254386353131 : Int64) = 1 := by decide +kernel
theorem own_sh_bv (z : Int64) (k : Int32) (n : Nat) (hn : ((k &&& 0x3f).toInt64.toUInt64).toBitVec.toNat % 64 = n) : (own_sh z k).toBitVec = z.toBitVec >>> n := by
  subst hn
  show (z.toUInt64 >>> (k &&& 0x3f).toInt64.toUInt64).toBitVec = _
  rw [UInt64.toBitVec_shiftRight]
  rfl
theorem own_x32 (v : BitVec 64) : (v ^^^ v >>> 32) ^^^ (v ^^^ v >>> 32) >>> 32 = v := by
  ext i hi
  simp only [BitVec.getElem_xor, BitVec.getElem_ushiftRight, BitVec.getLsbD_xor, BitVec.getLsbD_ushiftRight]
  rw [BitVec.getLsbD_of_ge v (32 + (32 + i)) (by omega)]
  generalize v.getLsbD (32 + i) = x
  generalize v[i] = y
  cases x <;> cases y <;> rfl
theorem own_x29 (v : BitVec 64) : ((v ^^^ v >>> 29) ^^^ (v ^^^ v >>> 29) >>> 29) ^^^ (v ^^^ v >>> 29) >>> 58 = v := by
  ext i hi
  simp only [BitVec.getElem_xor, BitVec.getElem_ushiftRight, BitVec.getLsbD_xor, BitVec.getLsbD_ushiftRight]
  rw [BitVec.getLsbD_of_ge v (29 + (58 + i)) (by omega), show 29 + (29 + i) = 58 + i by omega]
  generalize v.getLsbD (58 + i) = z
  generalize v.getLsbD (29 + i) = x
  generalize v[i] = y
  cases x <;> cases y <;> cases z <;> rfl
theorem own_back (v : Int64) : own_unmix (own_mix v) = v := by
  have s32 : ∀ z : Int64, (own_sh z 32).toBitVec = z.toBitVec >>> 32 := fun z => own_sh_bv z 32 32 (by decide)
  have s29 : ∀ z : Int64, (own_sh z 29).toBitVec = z.toBitVec >>> 29 := fun z => own_sh_bv z 29 29 (by decide)
  have s58 : ∀ z : Int64, (own_sh z 58).toBitVec = z.toBitVec >>> 58 := fun z => own_sh_bv z 58 58 (by decide)
  have x32 : ∀ z : Int64, (z ^^^ own_sh z 32) ^^^ own_sh (z ^^^ own_sh z 32) 32 = z := fun z => by
    apply Int64.toBitVec_inj.mp
    rw [Int64.toBitVec_xor, s32, Int64.toBitVec_xor, s32]
    exact own_x32 _
  have x29 : ∀ z : Int64, own_u3 (z ^^^ own_sh z 29) = z := fun z => by
    apply Int64.toBitVec_inj.mp
    show ((_ ^^^ _) ^^^ _ : Int64).toBitVec = _
    rw [Int64.toBitVec_xor, Int64.toBitVec_xor, s29, s58, Int64.toBitVec_xor, s29]
    exact own_x29 _
  have a1 : own_u1 (own_mix v) = own_m2 (own_m1 v) := x32 _
  have a2 : own_u2 (own_mix v) = own_m1 v ^^^ own_sh (own_m1 v) 29 := by
    show own_u1 (own_mix v) * own_inv (7640891576956012809 : Int64) = _
    rw [a1]
    show (own_m1 v ^^^ own_sh (own_m1 v) 29) * (7640891576956012809 : Int64) * own_inv (7640891576956012809 : Int64) = _
    rw [Int64.mul_assoc, own_inv1, Int64.mul_one]
  have a3 : own_u4 (own_mix v) = v ^^^ own_sh v 32 := by
    show own_u3 (own_u2 (own_mix v)) * own_inv (-7046029254386353131 : Int64) = _
    rw [a2, x29]
    show (v ^^^ own_sh v 32) * (-7046029254386353131 : Int64) * own_inv (-7046029254386353131 : Int64) = _
    rw [Int64.mul_assoc, own_inv2, Int64.mul_one]
  show own_u4 (own_mix v) ^^^ own_sh (own_u4 (own_mix v)) 32 = v
  rw [a3]
  exact x32 v
theorem pn_0 : plainName "com/example/quadledger/quadledger/model/HashIndexMixPinLaw" = true := by first | (simp [plainName, overriddenIn]; done) | decide +kernel
theorem ef_1 (m : MethodId) (x0 : Int64) : entryFrame m #[(.long x0)] 4 = mkF m 0 #[.val (.long x0), .second, .unset, .unset] [] := by first | (simp [entryFrame, mkF, argsToLocals, Value.category]; done) | rfl
def Q_rm1 (Z : State) (q0 : Int64) (h0 : Heap) (n0 : Nat) (v : Option Value) (h : Heap) (L : List Loc) : Prop := v = some (.long (own_inv q0)) ∧ Fr n0 L ∧ h = h0
theorem d1_0 : decode method_2_code 0 = .ok (.lload_n 0, 1) := by decide +kernel
theorem d1_1 : decode method_2_code 1 = .ok (.lstore_n 2, 1) := by decide +kernel
theorem d1_2 : decode method_2_code 2 = .ok (.lload_n 2, 1) := by decide +kernel
theorem d1_3 : decode method_2_code 3 = .ok (.ldc2_w 7, 3) := by decide +kernel
theorem d1_6 : decode method_2_code 6 = .ok (.lload_n 0, 1) := by decide +kernel
theorem d1_7 : decode method_2_code 7 = .ok (.lload_n 2, 1) := by decide +kernel
theorem d1_8 : decode method_2_code 8 = .ok (.lmul, 1) := by decide +kernel
theorem d1_9 : decode method_2_code 9 = .ok (.lsub, 1) := by decide +kernel
theorem d1_10 : decode method_2_code 10 = .ok (.lmul, 1) := by decide +kernel
theorem d1_11 : decode method_2_code 11 = .ok (.lstore_n 2, 1) := by decide +kernel
theorem d1_12 : decode method_2_code 12 = .ok (.lload_n 2, 1) := by decide +kernel
theorem d1_13 : decode method_2_code 13 = .ok (.ldc2_w 7, 3) := by decide +kernel
theorem d1_16 : decode method_2_code 16 = .ok (.lload_n 0, 1) := by decide +kernel
theorem d1_17 : decode method_2_code 17 = .ok (.lload_n 2, 1) := by decide +kernel
theorem d1_18 : decode method_2_code 18 = .ok (.lmul, 1) := by decide +kernel
theorem d1_19 : decode method_2_code 19 = .ok (.lsub, 1) := by decide +kernel
theorem d1_20 : decode method_2_code 20 = .ok (.lmul, 1) := by decide +kernel
theorem d1_21 : decode method_2_code 21 = .ok (.lstore_n 2, 1) := by decide +kernel
theorem d1_22 : decode method_2_code 22 = .ok (.lload_n 2, 1) := by decide +kernel
theorem d1_23 : decode method_2_code 23 = .ok (.ldc2_w 7, 3) := by decide +kernel
theorem d1_26 : decode method_2_code 26 = .ok (.lload_n 0, 1) := by decide +kernel
theorem d1_27 : decode method_2_code 27 = .ok (.lload_n 2, 1) := by decide +kernel
theorem d1_28 : decode method_2_code 28 = .ok (.lmul, 1) := by decide +kernel
theorem d1_29 : decode method_2_code 29 = .ok (.lsub, 1) := by decide +kernel
theorem d1_30 : decode method_2_code 30 = .ok (.lmul, 1) := by decide +kernel
theorem d1_31 : decode method_2_code 31 = .ok (.lstore_n 2, 1) := by decide +kernel
theorem d1_32 : decode method_2_code 32 = .ok (.lload_n 2, 1) := by decide +kernel
theorem d1_33 : decode method_2_code 33 = .ok (.ldc2_w 7, 3) := by decide +kernel
theorem d1_36 : decode method_2_code 36 = .ok (.lload_n 0, 1) := by decide +kernel
theorem d1_37 : decode method_2_code 37 = .ok (.lload_n 2, 1) := by decide +kernel
theorem d1_38 : decode method_2_code 38 = .ok (.lmul, 1) := by decide +kernel
theorem d1_39 : decode method_2_code 39 = .ok (.lsub, 1) := by decide +kernel
theorem d1_40 : decode method_2_code 40 = .ok (.lmul, 1) := by decide +kernel
theorem d1_41 : decode method_2_code 41 = .ok (.lstore_n 2, 1) := by decide +kernel
theorem d1_42 : decode method_2_code 42 = .ok (.lload_n 2, 1) := by decide +kernel
theorem d1_43 : decode method_2_code 43 = .ok (.ldc2_w 7, 3) := by decide +kernel
theorem d1_46 : decode method_2_code 46 = .ok (.lload_n 0, 1) := by decide +kernel
theorem d1_47 : decode method_2_code 47 = .ok (.lload_n 2, 1) := by decide +kernel
theorem d1_48 : decode method_2_code 48 = .ok (.lmul, 1) := by decide +kernel
theorem d1_49 : decode method_2_code 49 = .ok (.lsub, 1) := by decide +kernel
theorem d1_50 : decode method_2_code 50 = .ok (.lmul, 1) := by decide +kernel
theorem d1_51 : decode method_2_code 51 = .ok (.lstore_n 2, 1) := by decide +kernel
theorem d1_52 : decode method_2_code 52 = .ok (.lload_n 2, 1) := by decide +kernel
theorem d1_53 : decode method_2_code 53 = .ok (.lreturn, 1) := by decide +kernel
set_option maxRecDepth 65536 in
set_option maxHeartbeats 40000000 in
theorem rm1 (l : Launch) (Z : State) (a0 : Array Value) (hw : ∀ d ∈ tables_1, d.before a0 Z = true) (ws : List Jvm.Cond) (q0 : Int64) (h0 : Heap) (n0 : Nat)  :
    MetFree l (⟨"com/example/quadledger/quadledger/model/HashIndexMixPinLaw", "inverse", "(J)J"⟩ : MethodName) (head1 (Jvm.Cond.code (⟨"com/example/quadledger/quadledger/model/HashIndexMixPinLaw", "inverse", "(J)J"⟩ : MethodName) method_2_code 4 (some .long) :: ws) ({ frames := 0, cells := 0, slots := 0, locals := 0 } : Room)) (fun a U => a = #[(.long q0)] ∧ Z.Warmed39 U.vm ∧ U.heap = h0) (fun _ _ _ _ _ => True) (fun _ U o U' => ∃ v L, o = .returned v ∧ Q_rm1 Z q0 h0 n0 v U'.heap L ∧ FrameEnd U o U' L ({ frames := 0, cells := 0, slots := 0, locals := 0 } : Room).cells ({ frames := 0, cells := 0, slots := 0, locals := 0 } : Room).slots) := by
  refine MetFree.of_bodySF (plainFor_of_name pn_0) hisR ?_
  intro p e s m args below meth c s₁ Bd hml0 hP hK
  obtain ⟨rfl, hZ, hh⟩ := hP
  have hx := Bd.exec
  have hby := Bd.bytes
  have hml : c.maxLocals = 4 := hml0
  have hown : s.vm.findClass "com/example/quadledger/quadledger/model/HashIndexMixPinLaw" = some m.cls := findClass_of_methodNamed Bd.named
  have hnm := (name_of_methodNamed Bd.named Bd.method).1
  have X0 : Stand p l e ({ frames := 0, cells := 0, slots := 0, locals := 0 } : Room) s m #[(.long q0)] below meth c s₁ [] 0 0 := Stand.of_body Bd
  have e0 : s₁.heap = h0 := by rw [← hh, Bd.state]; rfl
  have N0 := Fr.nil n0
  refine Onw.of (Onw.go (fun t k => castTop (ef_1 m q0) k) ?_)
  show Onw p e below _ (s₁.setTop (mkF m 0 #[.val (.long q0), .second, .unset, .unset] []))
  refine Onw.go (fun t kt => XS.lloadN X0.here hx rfl (hb hby d1_0) rfl kt) ?_
  show Onw p e below _ (s₁.setTop (mkF m 1 #[.val (.long q0), .second, .unset, .unset] [(.long q0)]))
  refine Onw.go (fun t kt => XS.lstoreN X0.here hx rfl (hb hby d1_1) rfl (l' := #[.val (.long q0), .second, .val (.long q0), .second]) rfl kt) ?_
  show Onw p e below _ (s₁.setTop (mkF m 2 #[.val (.long q0), .second, .val (.long q0), .second] []))
  refine Onw.go (fun t kt => XS.lloadN X0.here hx rfl (hb hby d1_2) rfl kt) ?_
  show Onw p e below _ (s₁.setTop (mkF m 3 #[.val (.long q0), .second, .val (.long q0), .second] [(.long q0)]))
  refine Onw.go (X0.ldc2Long hx hown (mvT hZ (hw _ (List.mem_of_getElem? (i := 5) rfl))) (g := (mkF m 3 #[.val (.long q0), .second, .val (.long q0), .second] [(.long q0)])) rfl (hb hby d1_3)) ?_
  show Onw p e below _ (s₁.setTop (mkF m 6 #[.val (.long q0), .second, .val (.long q0), .second] [(.long (2 : Int64)), (.long q0)]))
  refine Onw.go (fun t kt => XS.lloadN X0.here hx rfl (hb hby d1_6) rfl kt) ?_
  show Onw p e below _ (s₁.setTop (mkF m 7 #[.val (.long q0), .second, .val (.long q0), .second] [(.long q0), (.long (2 : Int64)), (.long q0)]))
  refine Onw.go (fun t kt => XS.lloadN X0.here hx rfl (hb hby d1_7) rfl kt) ?_
  show Onw p e below _ (s₁.setTop (mkF m 8 #[.val (.long q0), .second, .val (.long q0), .second] [(.long q0), (.long q0), (.long (2 : Int64)), (.long q0)]))
  refine Onw.go (fun t kt => XS.lmul X0.here hx rfl (hb hby d1_8) rfl kt) ?_
  show Onw p e below _ (s₁.setTop (mkF m 9 #[.val (.long q0), .second, .val (.long q0), .second] [(.long (q0 * q0)), (.long (2 : Int64)), (.long q0)]))
  refine Onw.go (fun t kt => XS.lsub X0.here hx rfl (hb hby d1_9) rfl kt) ?_
  show Onw p e below _ (s₁.setTop (mkF m 10 #[.val (.long q0), .second, .val (.long q0), .second] [(.long ((2 : Int64) - (q0 * q0))), (.long q0)]))
  refine Onw.go (fun t kt => XS.lmul X0.here hx rfl (hb hby d1_10) rfl kt) ?_
  show Onw p e below _ (s₁.setTop (mkF m 11 #[.val (.long q0), .second, .val (.long q0), .second] [(.long (q0 * ((2 : Int64) - (q0 * q0))))]))
  rw [(rfl : (q0 * ((2 : Int64) - (q0 * q0))) = (own_nw q0 q0))]
  show Onw p e below _ (s₁.setTop (mkF m 11 #[.val (.long q0), .second, .val (.long q0), .second] [(.long (own_nw q0 q0))]))
  refine Onw.go (fun t kt => XS.lstoreN X0.here hx rfl (hb hby d1_11) rfl (l' := #[.val (.long q0), .second, .val (.long (own_nw q0 q0)), .second]) rfl kt) ?_
  show Onw p e below _ (s₁.setTop (mkF m 12 #[.val (.long q0), .second, .val (.long (own_nw q0 q0)), .second] []))
  refine Onw.go (fun t kt => XS.lloadN X0.here hx rfl (hb hby d1_12) rfl kt) ?_
  show Onw p e below _ (s₁.setTop (mkF m 13 #[.val (.long q0), .second, .val (.long (own_nw q0 q0)), .second] [(.long (own_nw q0 q0))]))
  refine Onw.go (X0.ldc2Long hx hown (mvT hZ (hw _ (List.mem_of_getElem? (i := 5) rfl))) (g := (mkF m 13 #[.val (.long q0), .second, .val (.long (own_nw q0 q0)), .second] [(.long (own_nw q0 q0))])) rfl (hb hby d1_13)) ?_
  show Onw p e below _ (s₁.setTop (mkF m 16 #[.val (.long q0), .second, .val (.long (own_nw q0 q0)), .second] [(.long (2 : Int64)), (.long (own_nw q0 q0))]))
  refine Onw.go (fun t kt => XS.lloadN X0.here hx rfl (hb hby d1_16) rfl kt) ?_
  show Onw p e below _ (s₁.setTop (mkF m 17 #[.val (.long q0), .second, .val (.long (own_nw q0 q0)), .second] [(.long q0), (.long (2 : Int64)), (.long (own_nw q0 q0))]))
  refine Onw.go (fun t kt => XS.lloadN X0.here hx rfl (hb hby d1_17) rfl kt) ?_
  show Onw p e below _ (s₁.setTop (mkF m 18 #[.val (.long q0), .second, .val (.long (own_nw q0 q0)), .second] [(.long (own_nw q0 q0)), (.long q0), (.long (2 : Int64)), (.long (own_nw q0 q0))]))
  refine Onw.go (fun t kt => XS.lmul X0.here hx rfl (hb hby d1_18) rfl kt) ?_
  show Onw p e below _ (s₁.setTop (mkF m 19 #[.val (.long q0), .second, .val (.long (own_nw q0 q0)), .second] [(.long (q0 * (own_nw q0 q0))), (.long (2 : Int64)), (.long (own_nw q0 q0))]))
  refine Onw.go (fun t kt => XS.lsub X0.here hx rfl (hb hby d1_19) rfl kt) ?_
  show Onw p e below _ (s₁.setTop (mkF m 20 #[.val (.long q0), .second, .val (.long (own_nw q0 q0)), .second] [(.long ((2 : Int64) - (q0 * (own_nw q0 q0)))), (.long (own_nw q0 q0))]))
  refine Onw.go (fun t kt => XS.lmul X0.here hx rfl (hb hby d1_20) rfl kt) ?_
  show Onw p e below _ (s₁.setTop (mkF m 21 #[.val (.long q0), .second, .val (.long (own_nw q0 q0)), .second] [(.long ((own_nw q0 q0) * ((2 : Int64) - (q0 * (own_nw q0 q0)))))]))
  rw [(rfl : ((own_nw q0 q0) * ((2 : Int64) - (q0 * (own_nw q0 q0)))) = (own_nw q0 (own_nw q0 q0)))]
  show Onw p e below _ (s₁.setTop (mkF m 21 #[.val (.long q0), .second, .val (.long (own_nw q0 q0)), .second] [(.long (own_nw q0 (own_nw q0 q0)))]))
  refine Onw.go (fun t kt => XS.lstoreN X0.here hx rfl (hb hby d1_21) rfl (l' := #[.val (.long q0), .second, .val (.long (own_nw q0 (own_nw q0 q0))), .second]) rfl kt) ?_
  show Onw p e below _ (s₁.setTop (mkF m 22 #[.val (.long q0), .second, .val (.long (own_nw q0 (own_nw q0 q0))), .second] []))
  refine Onw.go (fun t kt => XS.lloadN X0.here hx rfl (hb hby d1_22) rfl kt) ?_
  show Onw p e below _ (s₁.setTop (mkF m 23 #[.val (.long q0), .second, .val (.long (own_nw q0 (own_nw q0 q0))), .second] [(.long (own_nw q0 (own_nw q0 q0)))]))
  refine Onw.go (X0.ldc2Long hx hown (mvT hZ (hw _ (List.mem_of_getElem? (i := 5) rfl))) (g := (mkF m 23 #[.val (.long q0), .second, .val (.long (own_nw q0 (own_nw q0 q0))), .second] [(.long (own_nw q0 (own_nw q0 q0)))])) rfl (hb hby d1_23)) ?_
  show Onw p e below _ (s₁.setTop (mkF m 26 #[.val (.long q0), .second, .val (.long (own_nw q0 (own_nw q0 q0))), .second] [(.long (2 : Int64)), (.long (own_nw q0 (own_nw q0 q0)))]))
  refine Onw.go (fun t kt => XS.lloadN X0.here hx rfl (hb hby d1_26) rfl kt) ?_
  show Onw p e below _ (s₁.setTop (mkF m 27 #[.val (.long q0), .second, .val (.long (own_nw q0 (own_nw q0 q0))), .second] [(.long q0), (.long (2 : Int64)), (.long (own_nw q0 (own_nw q0 q0)))]))
  refine Onw.go (fun t kt => XS.lloadN X0.here hx rfl (hb hby d1_27) rfl kt) ?_
  show Onw p e below _ (s₁.setTop (mkF m 28 #[.val (.long q0), .second, .val (.long (own_nw q0 (own_nw q0 q0))), .second] [(.long (own_nw q0 (own_nw q0 q0))), (.long q0), (.long (2 : Int64)), (.long (own_nw q0 (own_nw q0 q0)))]))
  refine Onw.go (fun t kt => XS.lmul X0.here hx rfl (hb hby d1_28) rfl kt) ?_
  show Onw p e below _ (s₁.setTop (mkF m 29 #[.val (.long q0), .second, .val (.long (own_nw q0 (own_nw q0 q0))), .second] [(.long (q0 * (own_nw q0 (own_nw q0 q0)))), (.long (2 : Int64)), (.long (own_nw q0 (own_nw q0 q0)))]))
  refine Onw.go (fun t kt => XS.lsub X0.here hx rfl (hb hby d1_29) rfl kt) ?_
  show Onw p e below _ (s₁.setTop (mkF m 30 #[.val (.long q0), .second, .val (.long (own_nw q0 (own_nw q0 q0))), .second] [(.long ((2 : Int64) - (q0 * (own_nw q0 (own_nw q0 q0))))), (.long (own_nw q0 (own_nw q0 q0)))]))
  refine Onw.go (fun t kt => XS.lmul X0.here hx rfl (hb hby d1_30) rfl kt) ?_
  show Onw p e below _ (s₁.setTop (mkF m 31 #[.val (.long q0), .second, .val (.long (own_nw q0 (own_nw q0 q0))), .second] [(.long ((own_nw q0 (own_nw q0 q0)) * ((2 : Int64) - (q0 * (own_nw q0 (own_nw q0 q0))))))]))
  rw [(rfl : ((own_nw q0 (own_nw q0 q0)) * ((2 : Int64) - (q0 * (own_nw q0 (own_nw q0 q0))))) = (own_nw q0 (own_nw q0 (own_nw q0 q0))))]
  show Onw p e below _ (s₁.setTop (mkF m 31 #[.val (.long q0), .second, .val (.long (own_nw q0 (own_nw q0 q0))), .second] [(.long (own_nw q0 (own_nw q0 (own_nw q0 q0))))]))
  refine Onw.go (fun t kt => XS.lstoreN X0.here hx rfl (hb hby d1_31) rfl (l' := #[.val (.long q0), .second, .val (.long (own_nw q0 (own_nw q0 (own_nw q0 q0)))), .second]) rfl kt) ?_
  show Onw p e below _ (s₁.setTop (mkF m 32 #[.val (.long q0), .second, .val (.long (own_nw q0 (own_nw q0 (own_nw q0 q0)))), .second] []))
  refine Onw.go (fun t kt => XS.lloadN X0.here hx rfl (hb hby d1_32) rfl kt) ?_
  show Onw p e below _ (s₁.setTop (mkF m 33 #[.val (.long q0), .second, .val (.long (own_nw q0 (own_nw q0 (own_nw q0 q0)))), .second] [(.long (own_nw q0 (own_nw q0 (own_nw q0 q0))))]))
  refine Onw.go (X0.ldc2Long hx hown (mvT hZ (hw _ (List.mem_of_getElem? (i := 5) rfl))) (g := (mkF m 33 #[.val (.long q0), .second, .val (.long (own_nw q0 (own_nw q0 (own_nw q0 q0)))), .second] [(.long (own_nw q0 (own_nw q0 (own_nw q0 q0))))])) rfl (hb hby d1_33)) ?_
  show Onw p e below _ (s₁.setTop (mkF m 36 #[.val (.long q0), .second, .val (.long (own_nw q0 (own_nw q0 (own_nw q0 q0)))), .second] [(.long (2 : Int64)), (.long (own_nw q0 (own_nw q0 (own_nw q0 q0))))]))
  refine Onw.go (fun t kt => XS.lloadN X0.here hx rfl (hb hby d1_36) rfl kt) ?_
  show Onw p e below _ (s₁.setTop (mkF m 37 #[.val (.long q0), .second, .val (.long (own_nw q0 (own_nw q0 (own_nw q0 q0)))), .second] [(.long q0), (.long (2 : Int64)), (.long (own_nw q0 (own_nw q0 (own_nw q0 q0))))]))
  refine Onw.go (fun t kt => XS.lloadN X0.here hx rfl (hb hby d1_37) rfl kt) ?_
  show Onw p e below _ (s₁.setTop (mkF m 38 #[.val (.long q0), .second, .val (.long (own_nw q0 (own_nw q0 (own_nw q0 q0)))), .second] [(.long (own_nw q0 (own_nw q0 (own_nw q0 q0)))), (.long q0), (.long (2 : Int64)), (.long (own_nw q0 (own_nw q0 (own_nw q0 q0))))]))
  refine Onw.go (fun t kt => XS.lmul X0.here hx rfl (hb hby d1_38) rfl kt) ?_
  show Onw p e below _ (s₁.setTop (mkF m 39 #[.val (.long q0), .second, .val (.long (own_nw q0 (own_nw q0 (own_nw q0 q0)))), .second] [(.long (q0 * (own_nw q0 (own_nw q0 (own_nw q0 q0))))), (.long (2 : Int64)), (.long (own_nw q0 (own_nw q0 (own_nw q0 q0))))]))
  refine Onw.go (fun t kt => XS.lsub X0.here hx rfl (hb hby d1_39) rfl kt) ?_
  show Onw p e below _ (s₁.setTop (mkF m 40 #[.val (.long q0), .second, .val (.long (own_nw q0 (own_nw q0 (own_nw q0 q0)))), .second] [(.long ((2 : Int64) - (q0 * (own_nw q0 (own_nw q0 (own_nw q0 q0)))))), (.long (own_nw q0 (own_nw q0 (own_nw q0 q0))))]))
  refine Onw.go (fun t kt => XS.lmul X0.here hx rfl (hb hby d1_40) rfl kt) ?_
  show Onw p e below _ (s₁.setTop (mkF m 41 #[.val (.long q0), .second, .val (.long (own_nw q0 (own_nw q0 (own_nw q0 q0)))), .second] [(.long ((own_nw q0 (own_nw q0 (own_nw q0 q0))) * ((2 : Int64) - (q0 * (own_nw q0 (own_nw q0 (own_nw q0 q0)))))))]))
  rw [(rfl : ((own_nw q0 (own_nw q0 (own_nw q0 q0))) * ((2 : Int64) - (q0 * (own_nw q0 (own_nw q0 (own_nw q0 q0)))))) = (own_nw q0 (own_nw q0 (own_nw q0 (own_nw q0 q0)))))]
  show Onw p e below _ (s₁.setTop (mkF m 41 #[.val (.long q0), .second, .val (.long (own_nw q0 (own_nw q0 (own_nw q0 q0)))), .second] [(.long (own_nw q0 (own_nw q0 (own_nw q0 (own_nw q0 q0)))))]))
  refine Onw.go (fun t kt => XS.lstoreN X0.here hx rfl (hb hby d1_41) rfl (l' := #[.val (.long q0), .second, .val (.long (own_nw q0 (own_nw q0 (own_nw q0 (own_nw q0 q0))))), .second]) rfl kt) ?_
  show Onw p e below _ (s₁.setTop (mkF m 42 #[.val (.long q0), .second, .val (.long (own_nw q0 (own_nw q0 (own_nw q0 (own_nw q0 q0))))), .second] []))
  refine Onw.go (fun t kt => XS.lloadN X0.here hx rfl (hb hby d1_42) rfl kt) ?_
  show Onw p e below _ (s₁.setTop (mkF m 43 #[.val (.long q0), .second, .val (.long (own_nw q0 (own_nw q0 (own_nw q0 (own_nw q0 q0))))), .second] [(.long (own_nw q0 (own_nw q0 (own_nw q0 (own_nw q0 q0)))))]))
  refine Onw.go (X0.ldc2Long hx hown (mvT hZ (hw _ (List.mem_of_getElem? (i := 5) rfl))) (g := (mkF m 43 #[.val (.long q0), .second, .val (.long (own_nw q0 (own_nw q0 (own_nw q0 (own_nw q0 q0))))), .second] [(.long (own_nw q0 (own_nw q0 (own_nw q0 (own_nw q0 q0)))))])) rfl (hb hby d1_43)) ?_
  show Onw p e below _ (s₁.setTop (mkF m 46 #[.val (.long q0), .second, .val (.long (own_nw q0 (own_nw q0 (own_nw q0 (own_nw q0 q0))))), .second] [(.long (2 : Int64)), (.long (own_nw q0 (own_nw q0 (own_nw q0 (own_nw q0 q0)))))]))
  refine Onw.go (fun t kt => XS.lloadN X0.here hx rfl (hb hby d1_46) rfl kt) ?_
  show Onw p e below _ (s₁.setTop (mkF m 47 #[.val (.long q0), .second, .val (.long (own_nw q0 (own_nw q0 (own_nw q0 (own_nw q0 q0))))), .second] [(.long q0), (.long (2 : Int64)), (.long (own_nw q0 (own_nw q0 (own_nw q0 (own_nw q0 q0)))))]))
  refine Onw.go (fun t kt => XS.lloadN X0.here hx rfl (hb hby d1_47) rfl kt) ?_
  show Onw p e below _ (s₁.setTop (mkF m 48 #[.val (.long q0), .second, .val (.long (own_nw q0 (own_nw q0 (own_nw q0 (own_nw q0 q0))))), .second] [(.long (own_nw q0 (own_nw q0 (own_nw q0 (own_nw q0 q0))))), (.long q0), (.long (2 : Int64)), (.long (own_nw q0 (own_nw q0 (own_nw q0 (own_nw q0 q0)))))]))
  refine Onw.go (fun t kt => XS.lmul X0.here hx rfl (hb hby d1_48) rfl kt) ?_
  show Onw p e below _ (s₁.setTop (mkF m 49 #[.val (.long q0), .second, .val (.long (own_nw q0 (own_nw q0 (own_nw q0 (own_nw q0 q0))))), .second] [(.long (q0 * (own_nw q0 (own_nw q0 (own_nw q0 (own_nw q0 q0)))))), (.long (2 : Int64)), (.long (own_nw q0 (own_nw q0 (own_nw q0 (own_nw q0 q0)))))]))
  refine Onw.go (fun t kt => XS.lsub X0.here hx rfl (hb hby d1_49) rfl kt) ?_
  show Onw p e below _ (s₁.setTop (mkF m 50 #[.val (.long q0), .second, .val (.long (own_nw q0 (own_nw q0 (own_nw q0 (own_nw q0 q0))))), .second] [(.long ((2 : Int64) - (q0 * (own_nw q0 (own_nw q0 (own_nw q0 (own_nw q0 q0))))))), (.long (own_nw q0 (own_nw q0 (own_nw q0 (own_nw q0 q0)))))]))
  refine Onw.go (fun t kt => XS.lmul X0.here hx rfl (hb hby d1_50) rfl kt) ?_
  show Onw p e below _ (s₁.setTop (mkF m 51 #[.val (.long q0), .second, .val (.long (own_nw q0 (own_nw q0 (own_nw q0 (own_nw q0 q0))))), .second] [(.long ((own_nw q0 (own_nw q0 (own_nw q0 (own_nw q0 q0)))) * ((2 : Int64) - (q0 * (own_nw q0 (own_nw q0 (own_nw q0 (own_nw q0 q0))))))))]))
  rw [(rfl : ((own_nw q0 (own_nw q0 (own_nw q0 (own_nw q0 q0)))) * ((2 : Int64) - (q0 * (own_nw q0 (own_nw q0 (own_nw q0 (own_nw q0 q0))))))) = (own_nw q0 (own_nw q0 (own_nw q0 (own_nw q0 (own_nw q0 q0))))))]
  show Onw p e below _ (s₁.setTop (mkF m 51 #[.val (.long q0), .second, .val (.long (own_nw q0 (own_nw q0 (own_nw q0 (own_nw q0 q0))))), .second] [(.long (own_nw q0 (own_nw q0 (own_nw q0 (own_nw q0 (own_nw q0 q0))))))]))
  refine Onw.go (fun t kt => XS.lstoreN X0.here hx rfl (hb hby d1_51) rfl (l' := #[.val (.long q0), .second, .val (.long (own_nw q0 (own_nw q0 (own_nw q0 (own_nw q0 (own_nw q0 q0)))))), .second]) rfl kt) ?_
  show Onw p e below _ (s₁.setTop (mkF m 52 #[.val (.long q0), .second, .val (.long (own_nw q0 (own_nw q0 (own_nw q0 (own_nw q0 (own_nw q0 q0)))))), .second] []))
  refine Onw.go (fun t kt => XS.lloadN X0.here hx rfl (hb hby d1_52) rfl kt) ?_
  show Onw p e below _ (s₁.setTop (mkF m 53 #[.val (.long q0), .second, .val (.long (own_nw q0 (own_nw q0 (own_nw q0 (own_nw q0 (own_nw q0 q0)))))), .second] [(.long (own_nw q0 (own_nw q0 (own_nw q0 (own_nw q0 (own_nw q0 q0))))))]))
  exact Onw.ret X0 Bd.notSynchronized (fun h => by rw [Bd.returns] at h; cases h) (fun fs hr => X0.lreturnOut hx Bd.returns (hb hby d1_53) hr) ⟨rfl, N0, e0⟩ (by decide) (by decide)
theorem pn_1 : plainName "com/example/quadledger/quadledger/model/HashIndex" = true := by first | (simp [plainName, overriddenIn]; done) | decide +kernel
theorem ef_2 (m : MethodId) (x0 : Int64) : entryFrame m #[(.long x0)] 4 = mkF m 0 #[.val (.long x0), .second, .unset, .unset] [] := by first | (simp [entryFrame, mkF, argsToLocals, Value.category]; done) | rfl
def Q_rm2 (Z : State) (q0 : Int64) (h0 : Heap) (n0 : Nat) (v : Option Value) (h : Heap) (L : List Loc) : Prop := v = some (.long (own_mix q0)) ∧ Fr n0 L ∧ h = h0
theorem d2_0 : decode prog_34_method_2_code 0 = .ok (.lload_n 0, 1) := by decide +kernel
theorem d2_1 : decode prog_34_method_2_code 1 = .ok (.lload_n 0, 1) := by decide +kernel
theorem d2_2 : decode prog_34_method_2_code 2 = .ok (.bipush 32, 2) := by decide +kernel
theorem d2_4 : decode prog_34_method_2_code 4 = .ok (.lushr, 1) := by decide +kernel
theorem d2_5 : decode prog_34_method_2_code 5 = .ok (.lxor, 1) := by decide +kernel
theorem d2_6 : decode prog_34_method_2_code 6 = .ok (.ldc2_w 24, 3) := by decide +kernel
theorem d2_9 : decode prog_34_method_2_code 9 = .ok (.lmul, 1) := by decide +kernel
theorem d2_10 : decode prog_34_method_2_code 10 = .ok (.lstore_n 2, 1) := by decide +kernel
theorem d2_11 : decode prog_34_method_2_code 11 = .ok (.lload_n 2, 1) := by decide +kernel
theorem d2_12 : decode prog_34_method_2_code 12 = .ok (.lload_n 2, 1) := by decide +kernel
theorem d2_13 : decode prog_34_method_2_code 13 = .ok (.bipush 29, 2) := by decide +kernel
theorem d2_15 : decode prog_34_method_2_code 15 = .ok (.lushr, 1) := by decide +kernel
theorem d2_16 : decode prog_34_method_2_code 16 = .ok (.lxor, 1) := by decide +kernel
theorem d2_17 : decode prog_34_method_2_code 17 = .ok (.ldc2_w 26, 3) := by decide +kernel
theorem d2_20 : decode prog_34_method_2_code 20 = .ok (.lmul, 1) := by decide +kernel
theorem d2_21 : decode prog_34_method_2_code 21 = .ok (.lstore_n 2, 1) := by decide +kernel
theorem d2_22 : decode prog_34_method_2_code 22 = .ok (.lload_n 2, 1) := by decide +kernel
theorem d2_23 : decode prog_34_method_2_code 23 = .ok (.lload_n 2, 1) := by decide +kernel
theorem d2_24 : decode prog_34_method_2_code 24 = .ok (.bipush 32, 2) := by decide +kernel
theorem d2_26 : decode prog_34_method_2_code 26 = .ok (.lushr, 1) := by decide +kernel
theorem d2_27 : decode prog_34_method_2_code 27 = .ok (.lxor, 1) := by decide +kernel
theorem d2_28 : decode prog_34_method_2_code 28 = .ok (.lreturn, 1) := by decide +kernel
set_option maxRecDepth 65536 in
set_option maxHeartbeats 40000000 in
theorem rm2 (l : Launch) (Z : State) (a0 : Array Value) (hw : ∀ d ∈ tables_1, d.before a0 Z = true) (ws : List Jvm.Cond) (q0 : Int64) (h0 : Heap) (n0 : Nat)  :
    MetFree l (⟨"com/example/quadledger/quadledger/model/HashIndex", "mix", "(J)J"⟩ : MethodName) (head1 (Jvm.Cond.code (⟨"com/example/quadledger/quadledger/model/HashIndex", "mix", "(J)J"⟩ : MethodName) prog_34_method_2_code 4 (some .long) :: ws) ({ frames := 0, cells := 0, slots := 0, locals := 0 } : Room)) (fun a U => a = #[(.long q0)] ∧ Z.Warmed39 U.vm ∧ U.heap = h0) (fun _ _ _ _ _ => True) (fun _ U o U' => ∃ v L, o = .returned v ∧ Q_rm2 Z q0 h0 n0 v U'.heap L ∧ FrameEnd U o U' L ({ frames := 0, cells := 0, slots := 0, locals := 0 } : Room).cells ({ frames := 0, cells := 0, slots := 0, locals := 0 } : Room).slots) := by
  refine MetFree.of_bodySF (plainFor_of_name pn_1) hisR ?_
  intro p e s m args below meth c s₁ Bd hml0 hP hK
  obtain ⟨rfl, hZ, hh⟩ := hP
  have hx := Bd.exec
  have hby := Bd.bytes
  have hml : c.maxLocals = 4 := hml0
  have hown : s.vm.findClass "com/example/quadledger/quadledger/model/HashIndex" = some m.cls := findClass_of_methodNamed Bd.named
  have hnm := (name_of_methodNamed Bd.named Bd.method).1
  have X0 : Stand p l e ({ frames := 0, cells := 0, slots := 0, locals := 0 } : Room) s m #[(.long q0)] below meth c s₁ [] 0 0 := Stand.of_body Bd
  have e0 : s₁.heap = h0 := by rw [← hh, Bd.state]; rfl
  have N0 := Fr.nil n0
  refine Onw.of (Onw.go (fun t k => castTop (ef_2 m q0) k) ?_)
  show Onw p e below _ (s₁.setTop (mkF m 0 #[.val (.long q0), .second, .unset, .unset] []))
  refine Onw.go (fun t kt => XS.lloadN X0.here hx rfl (hb hby d2_0) rfl kt) ?_
  show Onw p e below _ (s₁.setTop (mkF m 1 #[.val (.long q0), .second, .unset, .unset] [(.long q0)]))
  refine Onw.go (fun t kt => XS.lloadN X0.here hx rfl (hb hby d2_1) rfl kt) ?_
  show Onw p e below _ (s₁.setTop (mkF m 2 #[.val (.long q0), .second, .unset, .unset] [(.long q0), (.long q0)]))
  refine Onw.go (fun t kt => XS.bipush X0.here hx rfl (hb hby d2_2) kt) ?_
  show Onw p e below _ (s₁.setTop (mkF m 4 #[.val (.long q0), .second, .unset, .unset] [(.int (32 : Int32)), (.long q0), (.long q0)]))
  refine Onw.go (fun t kt => XS.lushr X0.here hx rfl (hb hby d2_4) rfl kt) ?_
  show Onw p e below _ (s₁.setTop (mkF m 5 #[.val (.long q0), .second, .unset, .unset] [(.long ((q0.toUInt64 >>> ((32 : Int32) &&& 0x3f).toInt64.toUInt64).toInt64)), (.long q0)]))
  refine Onw.go (fun t kt => XS.lxor X0.here hx rfl (hb hby d2_5) rfl kt) ?_
  show Onw p e below _ (s₁.setTop (mkF m 6 #[.val (.long q0), .second, .unset, .unset] [(.long (q0 ^^^ ((q0.toUInt64 >>> ((32 : Int32) &&& 0x3f).toInt64.toUInt64).toInt64)))]))
  refine Onw.go (X0.ldc2Long hx hown (mvT hZ (hw _ (List.mem_of_getElem? (i := 11) rfl))) (g := (mkF m 6 #[.val (.long q0), .second, .unset, .unset] [(.long (q0 ^^^ ((q0.toUInt64 >>> ((32 : Int32) &&& 0x3f).toInt64.toUInt64).toInt64)))])) rfl (hb hby d2_6)) ?_
  show Onw p e below _ (s₁.setTop (mkF m 9 #[.val (.long q0), .second, .unset, .unset] [(.long (-7046029254386353131 : Int64)), (.long (q0 ^^^ ((q0.toUInt64 >>> ((32 : Int32) &&& 0x3f).toInt64.toUInt64).toInt64)))]))
  refine Onw.go (fun t kt => XS.lmul X0.here hx rfl (hb hby d2_9) rfl kt) ?_
  show Onw p e below _ (s₁.setTop (mkF m 10 #[.val (.long q0), .second, .unset, .unset] [(.long ((q0 ^^^ ((q0.toUInt64 >>> ((32 : Int32) &&& 0x3f).toInt64.toUInt64).toInt64)) * (-7046029254386353131 : Int64)))]))
  rw [(rfl : ((q0 ^^^ ((q0.toUInt64 >>> ((32 : Int32) &&& 0x3f).toInt64.toUInt64).toInt64)) * (-7046029254386353131 : Int64)) = (own_m1 q0))]
  show Onw p e below _ (s₁.setTop (mkF m 10 #[.val (.long q0), .second, .unset, .unset] [(.long (own_m1 q0))]))
  refine Onw.go (fun t kt => XS.lstoreN X0.here hx rfl (hb hby d2_10) rfl (l' := #[.val (.long q0), .second, .val (.long (own_m1 q0)), .second]) rfl kt) ?_
  show Onw p e below _ (s₁.setTop (mkF m 11 #[.val (.long q0), .second, .val (.long (own_m1 q0)), .second] []))
  refine Onw.go (fun t kt => XS.lloadN X0.here hx rfl (hb hby d2_11) rfl kt) ?_
  show Onw p e below _ (s₁.setTop (mkF m 12 #[.val (.long q0), .second, .val (.long (own_m1 q0)), .second] [(.long (own_m1 q0))]))
  refine Onw.go (fun t kt => XS.lloadN X0.here hx rfl (hb hby d2_12) rfl kt) ?_
  show Onw p e below _ (s₁.setTop (mkF m 13 #[.val (.long q0), .second, .val (.long (own_m1 q0)), .second] [(.long (own_m1 q0)), (.long (own_m1 q0))]))
  refine Onw.go (fun t kt => XS.bipush X0.here hx rfl (hb hby d2_13) kt) ?_
  show Onw p e below _ (s₁.setTop (mkF m 15 #[.val (.long q0), .second, .val (.long (own_m1 q0)), .second] [(.int (29 : Int32)), (.long (own_m1 q0)), (.long (own_m1 q0))]))
  refine Onw.go (fun t kt => XS.lushr X0.here hx rfl (hb hby d2_15) rfl kt) ?_
  show Onw p e below _ (s₁.setTop (mkF m 16 #[.val (.long q0), .second, .val (.long (own_m1 q0)), .second] [(.long (((own_m1 q0).toUInt64 >>> ((29 : Int32) &&& 0x3f).toInt64.toUInt64).toInt64)), (.long (own_m1 q0))]))
  refine Onw.go (fun t kt => XS.lxor X0.here hx rfl (hb hby d2_16) rfl kt) ?_
  show Onw p e below _ (s₁.setTop (mkF m 17 #[.val (.long q0), .second, .val (.long (own_m1 q0)), .second] [(.long ((own_m1 q0) ^^^ (((own_m1 q0).toUInt64 >>> ((29 : Int32) &&& 0x3f).toInt64.toUInt64).toInt64)))]))
  refine Onw.go (X0.ldc2Long hx hown (mvT hZ (hw _ (List.mem_of_getElem? (i := 12) rfl))) (g := (mkF m 17 #[.val (.long q0), .second, .val (.long (own_m1 q0)), .second] [(.long ((own_m1 q0) ^^^ (((own_m1 q0).toUInt64 >>> ((29 : Int32) &&& 0x3f).toInt64.toUInt64).toInt64)))])) rfl (hb hby d2_17)) ?_
  show Onw p e below _ (s₁.setTop (mkF m 20 #[.val (.long q0), .second, .val (.long (own_m1 q0)), .second] [(.long (7640891576956012809 : Int64)), (.long ((own_m1 q0) ^^^ (((own_m1 q0).toUInt64 >>> ((29 : Int32) &&& 0x3f).toInt64.toUInt64).toInt64)))]))
  refine Onw.go (fun t kt => XS.lmul X0.here hx rfl (hb hby d2_20) rfl kt) ?_
  show Onw p e below _ (s₁.setTop (mkF m 21 #[.val (.long q0), .second, .val (.long (own_m1 q0)), .second] [(.long (((own_m1 q0) ^^^ (((own_m1 q0).toUInt64 >>> ((29 : Int32) &&& 0x3f).toInt64.toUInt64).toInt64)) * (7640891576956012809 : Int64)))]))
  rw [(rfl : (((own_m1 q0) ^^^ (((own_m1 q0).toUInt64 >>> ((29 : Int32) &&& 0x3f).toInt64.toUInt64).toInt64)) * (7640891576956012809 : Int64)) = (own_m2 (own_m1 q0)))]
  show Onw p e below _ (s₁.setTop (mkF m 21 #[.val (.long q0), .second, .val (.long (own_m1 q0)), .second] [(.long (own_m2 (own_m1 q0)))]))
  refine Onw.go (fun t kt => XS.lstoreN X0.here hx rfl (hb hby d2_21) rfl (l' := #[.val (.long q0), .second, .val (.long (own_m2 (own_m1 q0))), .second]) rfl kt) ?_
  show Onw p e below _ (s₁.setTop (mkF m 22 #[.val (.long q0), .second, .val (.long (own_m2 (own_m1 q0))), .second] []))
  refine Onw.go (fun t kt => XS.lloadN X0.here hx rfl (hb hby d2_22) rfl kt) ?_
  show Onw p e below _ (s₁.setTop (mkF m 23 #[.val (.long q0), .second, .val (.long (own_m2 (own_m1 q0))), .second] [(.long (own_m2 (own_m1 q0)))]))
  refine Onw.go (fun t kt => XS.lloadN X0.here hx rfl (hb hby d2_23) rfl kt) ?_
  show Onw p e below _ (s₁.setTop (mkF m 24 #[.val (.long q0), .second, .val (.long (own_m2 (own_m1 q0))), .second] [(.long (own_m2 (own_m1 q0))), (.long (own_m2 (own_m1 q0)))]))
  refine Onw.go (fun t kt => XS.bipush X0.here hx rfl (hb hby d2_24) kt) ?_
  show Onw p e below _ (s₁.setTop (mkF m 26 #[.val (.long q0), .second, .val (.long (own_m2 (own_m1 q0))), .second] [(.int (32 : Int32)), (.long (own_m2 (own_m1 q0))), (.long (own_m2 (own_m1 q0)))]))
  refine Onw.go (fun t kt => XS.lushr X0.here hx rfl (hb hby d2_26) rfl kt) ?_
  show Onw p e below _ (s₁.setTop (mkF m 27 #[.val (.long q0), .second, .val (.long (own_m2 (own_m1 q0))), .second] [(.long (((own_m2 (own_m1 q0)).toUInt64 >>> ((32 : Int32) &&& 0x3f).toInt64.toUInt64).toInt64)), (.long (own_m2 (own_m1 q0)))]))
  refine Onw.go (fun t kt => XS.lxor X0.here hx rfl (hb hby d2_27) rfl kt) ?_
  show Onw p e below _ (s₁.setTop (mkF m 28 #[.val (.long q0), .second, .val (.long (own_m2 (own_m1 q0))), .second] [(.long ((own_m2 (own_m1 q0)) ^^^ (((own_m2 (own_m1 q0)).toUInt64 >>> ((32 : Int32) &&& 0x3f).toInt64.toUInt64).toInt64)))]))
  exact Onw.ret X0 Bd.notSynchronized (fun h => by rw [Bd.returns] at h; cases h) (fun fs hr => X0.lreturnOut hx Bd.returns (hb hby d2_28) hr) ⟨rfl, N0, e0⟩ (by decide) (by decide)
theorem ef_3 (m : MethodId) (x0 : Int64) : entryFrame m #[(.long x0)] 10 = mkF m 0 #[.val (.long x0), .second, .unset, .unset, .unset, .unset, .unset, .unset, .unset, .unset] [] := by first | (simp [entryFrame, mkF, argsToLocals, Value.category]; done) | rfl
def Q_rm3 (Z : State) (q0 : Int64) (h0 : Heap) (n0 : Nat) (v : Option Value) (h : Heap) (L : List Loc) : Prop := v = some (.long (own_unmix q0)) ∧ Fr n0 L ∧ h = h0
theorem d3_0 : decode method_3_code 0 = .ok (.lload_n 0, 1) := by decide +kernel
theorem d3_1 : decode method_3_code 1 = .ok (.lload_n 0, 1) := by decide +kernel
theorem d3_2 : decode method_3_code 2 = .ok (.bipush 32, 2) := by decide +kernel
theorem d3_4 : decode method_3_code 4 = .ok (.lushr, 1) := by decide +kernel
theorem d3_5 : decode method_3_code 5 = .ok (.lxor, 1) := by decide +kernel
theorem d3_6 : decode method_3_code 6 = .ok (.lstore_n 2, 1) := by decide +kernel
theorem d3_7 : decode method_3_code 7 = .ok (.lload_n 2, 1) := by decide +kernel
theorem d3_8 : decode method_3_code 8 = .ok (.ldc2_w 9, 3) := by decide +kernel
theorem d3_11 : decode method_3_code 11 = .ok (.invokestatic 11, 3) := by decide +kernel
theorem d3_14 : decode method_3_code 14 = .ok (.lmul, 1) := by decide +kernel
theorem d3_15 : decode method_3_code 15 = .ok (.lstore 4, 2) := by decide +kernel
theorem d3_17 : decode method_3_code 17 = .ok (.lload 4, 2) := by decide +kernel
theorem d3_19 : decode method_3_code 19 = .ok (.lload 4, 2) := by decide +kernel
theorem d3_21 : decode method_3_code 21 = .ok (.bipush 29, 2) := by decide +kernel
theorem d3_23 : decode method_3_code 23 = .ok (.lushr, 1) := by decide +kernel
theorem d3_24 : decode method_3_code 24 = .ok (.lxor, 1) := by decide +kernel
theorem d3_25 : decode method_3_code 25 = .ok (.lload 4, 2) := by decide +kernel
theorem d3_27 : decode method_3_code 27 = .ok (.bipush 58, 2) := by decide +kernel
theorem d3_29 : decode method_3_code 29 = .ok (.lushr, 1) := by decide +kernel
theorem d3_30 : decode method_3_code 30 = .ok (.lxor, 1) := by decide +kernel
theorem d3_31 : decode method_3_code 31 = .ok (.lstore 6, 2) := by decide +kernel
theorem d3_33 : decode method_3_code 33 = .ok (.lload 6, 2) := by decide +kernel
theorem d3_35 : decode method_3_code 35 = .ok (.ldc2_w 17, 3) := by decide +kernel
theorem d3_38 : decode method_3_code 38 = .ok (.invokestatic 11, 3) := by decide +kernel
theorem d3_41 : decode method_3_code 41 = .ok (.lmul, 1) := by decide +kernel
theorem d3_42 : decode method_3_code 42 = .ok (.lstore 8, 2) := by decide +kernel
theorem d3_44 : decode method_3_code 44 = .ok (.lload 8, 2) := by decide +kernel
theorem d3_46 : decode method_3_code 46 = .ok (.lload 8, 2) := by decide +kernel
theorem d3_48 : decode method_3_code 48 = .ok (.bipush 32, 2) := by decide +kernel
theorem d3_50 : decode method_3_code 50 = .ok (.lushr, 1) := by decide +kernel
theorem d3_51 : decode method_3_code 51 = .ok (.lxor, 1) := by decide +kernel
theorem d3_52 : decode method_3_code 52 = .ok (.lreturn, 1) := by decide +kernel
set_option maxRecDepth 65536 in
set_option maxHeartbeats 40000000 in
theorem rm3 (l : Launch) (Z : State) (a0 : Array Value) (hw : ∀ d ∈ tables_1, d.before a0 Z = true) (ws : List Jvm.Cond) (q0 : Int64) (h0 : Heap) (n0 : Nat)  :
    MetFree l (⟨"com/example/quadledger/quadledger/model/HashIndexMixPinLaw", "unmix", "(J)J"⟩ : MethodName) (head1 (Jvm.Cond.code (⟨"com/example/quadledger/quadledger/model/HashIndexMixPinLaw", "unmix", "(J)J"⟩ : MethodName) method_3_code 10 (some .long) :: ws) ({ frames := 1, cells := 0, slots := 0, locals := 32 } : Room)) (fun a U => a = #[(.long q0)] ∧ Z.Warmed39 U.vm ∧ U.heap = h0) (fun _ _ _ _ _ => True) (fun _ U o U' => ∃ v L, o = .returned v ∧ Q_rm3 Z q0 h0 n0 v U'.heap L ∧ FrameEnd U o U' L ({ frames := 1, cells := 0, slots := 0, locals := 32 } : Room).cells ({ frames := 1, cells := 0, slots := 0, locals := 32 } : Room).slots) := by
  refine MetFree.of_bodySF (plainFor_of_name pn_0) hisR ?_
  intro p e s m args below meth c s₁ Bd hml0 hP hK
  obtain ⟨rfl, hZ, hh⟩ := hP
  have hx := Bd.exec
  have hby := Bd.bytes
  have hml : c.maxLocals = 10 := hml0
  have hown : s.vm.findClass "com/example/quadledger/quadledger/model/HashIndexMixPinLaw" = some m.cls := findClass_of_methodNamed Bd.named
  have hnm := (name_of_methodNamed Bd.named Bd.method).1
  have X0 : Stand p l e ({ frames := 1, cells := 0, slots := 0, locals := 32 } : Room) s m #[(.long q0)] below meth c s₁ [] 0 0 := Stand.of_body Bd
  have e0 : s₁.heap = h0 := by rw [← hh, Bd.state]; rfl
  have N0 := Fr.nil n0
  refine Onw.of (Onw.go (fun t k => castTop (ef_3 m q0) k) ?_)
  show Onw p e below _ (s₁.setTop (mkF m 0 #[.val (.long q0), .second, .unset, .unset, .unset, .unset, .unset, .unset, .unset, .unset] []))
  refine Onw.go (fun t kt => XS.lloadN X0.here hx rfl (hb hby d3_0) rfl kt) ?_
  show Onw p e below _ (s₁.setTop (mkF m 1 #[.val (.long q0), .second, .unset, .unset, .unset, .unset, .unset, .unset, .unset, .unset] [(.long q0)]))
  refine Onw.go (fun t kt => XS.lloadN X0.here hx rfl (hb hby d3_1) rfl kt) ?_
  show Onw p e below _ (s₁.setTop (mkF m 2 #[.val (.long q0), .second, .unset, .unset, .unset, .unset, .unset, .unset, .unset, .unset] [(.long q0), (.long q0)]))
  refine Onw.go (fun t kt => XS.bipush X0.here hx rfl (hb hby d3_2) kt) ?_
  show Onw p e below _ (s₁.setTop (mkF m 4 #[.val (.long q0), .second, .unset, .unset, .unset, .unset, .unset, .unset, .unset, .unset] [(.int (32 : Int32)), (.long q0), (.long q0)]))
  refine Onw.go (fun t kt => XS.lushr X0.here hx rfl (hb hby d3_4) rfl kt) ?_
  show Onw p e below _ (s₁.setTop (mkF m 5 #[.val (.long q0), .second, .unset, .unset, .unset, .unset, .unset, .unset, .unset, .unset] [(.long ((q0.toUInt64 >>> ((32 : Int32) &&& 0x3f).toInt64.toUInt64).toInt64)), (.long q0)]))
  refine Onw.go (fun t kt => XS.lxor X0.here hx rfl (hb hby d3_5) rfl kt) ?_
  show Onw p e below _ (s₁.setTop (mkF m 6 #[.val (.long q0), .second, .unset, .unset, .unset, .unset, .unset, .unset, .unset, .unset] [(.long (q0 ^^^ ((q0.toUInt64 >>> ((32 : Int32) &&& 0x3f).toInt64.toUInt64).toInt64)))]))
  rw [(rfl : (q0 ^^^ ((q0.toUInt64 >>> ((32 : Int32) &&& 0x3f).toInt64.toUInt64).toInt64)) = (own_u1 q0))]
  show Onw p e below _ (s₁.setTop (mkF m 6 #[.val (.long q0), .second, .unset, .unset, .unset, .unset, .unset, .unset, .unset, .unset] [(.long (own_u1 q0))]))
  refine Onw.go (fun t kt => XS.lstoreN X0.here hx rfl (hb hby d3_6) rfl (l' := #[.val (.long q0), .second, .val (.long (own_u1 q0)), .second, .unset, .unset, .unset, .unset, .unset, .unset]) rfl kt) ?_
  show Onw p e below _ (s₁.setTop (mkF m 7 #[.val (.long q0), .second, .val (.long (own_u1 q0)), .second, .unset, .unset, .unset, .unset, .unset, .unset] []))
  refine Onw.go (fun t kt => XS.lloadN X0.here hx rfl (hb hby d3_7) rfl kt) ?_
  show Onw p e below _ (s₁.setTop (mkF m 8 #[.val (.long q0), .second, .val (.long (own_u1 q0)), .second, .unset, .unset, .unset, .unset, .unset, .unset] [(.long (own_u1 q0))]))
  refine Onw.go (X0.ldc2Long hx hown (mvT hZ (hw _ (List.mem_of_getElem? (i := 6) rfl))) (g := (mkF m 8 #[.val (.long q0), .second, .val (.long (own_u1 q0)), .second, .unset, .unset, .unset, .unset, .unset, .unset] [(.long (own_u1 q0))])) rfl (hb hby d3_8)) ?_
  show Onw p e below _ (s₁.setTop (mkF m 11 #[.val (.long q0), .second, .val (.long (own_u1 q0)), .second, .unset, .unset, .unset, .unset, .unset, .unset] [(.long (7640891576956012809 : Int64)), (.long (own_u1 q0))]))
  obtain ⟨_, _, ⟨T1, L1, k1, n1⟩, -, X1, ⟨Lc1, hQ1, l1, y1, z1⟩, st1⟩ := Jvm.LawKit.callS X0 hx (y := (⟨"com/example/quadledger/quadledger/model/HashIndexMixPinLaw", "inverse", "(J)J"⟩ : MethodName)) hown (mvT hZ (hw _ (List.mem_of_getElem? (i := 1) rfl))) (mvT hZ (hw _ (List.mem_of_getElem? (i := 2) rfl))) (mvT hZ (hw _ (List.mem_of_getElem? (i := 3) rfl))) (mvT hZ (hw _ (List.mem_of_getElem? (i := 4) rfl))) (by decide) (backOf (W := 2) (rm1 l Z a0 hw [] (7640891576956012809 : Int64)  h0 n0 ) hZ (hw _ (List.mem_of_getElem? (i := 4) rfl)) (hw _ (List.mem_of_getElem? (i := 3) rfl)) (by decide) (by decide)) (g := (mkF m 11 #[.val (.long q0), .second, .val (.long (own_u1 q0)), .second, .unset, .unset, .unset, .unset, .unset, .unset] [(.long (7640891576956012809 : Int64)), (.long (own_u1 q0))])) rfl (by rw [hml]; rfl) (argsL := [(.long (7640891576956012809 : Int64))]) (rest := [(.long (own_u1 q0))]) (lenOf pd_0 rfl) rfl (by show 2 * 0 + _ ≤ _; exact Nat.le_of_eq rfl) (hb hby d3_11) (fun _ _ => ⟨rfl, e0, (by decide : 0 + 0 ≤ _), (by decide : 0 + 0 ≤ _)⟩)
  dsimp only [Pt.U, Pt.locs, Pt.cells, Pt.slots] at X1 l1 y1 z1 st1 hQ1
  subst l1 y1 z1
  obtain ⟨rfl, N1q, e1q⟩ := hQ1
  have N1 := Fr.app N0 N1q
  refine Onw.go st1 ?_
  show Onw p e below _ (T1.setTop (mkF m 14 #[.val (.long q0), .second, .val (.long (own_u1 q0)), .second, .unset, .unset, .unset, .unset, .unset, .unset] [(.long (own_inv (7640891576956012809 : Int64))), (.long (own_u1 q0))]))
  refine Onw.go (fun t kt => XS.lmul X1.here hx rfl (hb hby d3_14) rfl kt) ?_
  show Onw p e below _ (T1.setTop (mkF m 15 #[.val (.long q0), .second, .val (.long (own_u1 q0)), .second, .unset, .unset, .unset, .unset, .unset, .unset] [(.long ((own_u1 q0) * (own_inv (7640891576956012809 : Int64))))]))
  rw [(rfl : ((own_u1 q0) * (own_inv (7640891576956012809 : Int64))) = (own_u2 q0))]
  show Onw p e below _ (T1.setTop (mkF m 15 #[.val (.long q0), .second, .val (.long (own_u1 q0)), .second, .unset, .unset, .unset, .unset, .unset, .unset] [(.long (own_u2 q0))]))
  refine Onw.go (fun t kt => XS.lstore X1.here hx rfl (hb hby d3_15) rfl (l' := #[.val (.long q0), .second, .val (.long (own_u1 q0)), .second, .val (.long (own_u2 q0)), .second, .unset, .unset, .unset, .unset]) rfl kt) ?_
  show Onw p e below _ (T1.setTop (mkF m 17 #[.val (.long q0), .second, .val (.long (own_u1 q0)), .second, .val (.long (own_u2 q0)), .second, .unset, .unset, .unset, .unset] []))
  refine Onw.go (fun t kt => XS.lload X1.here hx rfl (hb hby d3_17) rfl kt) ?_
  show Onw p e below _ (T1.setTop (mkF m 19 #[.val (.long q0), .second, .val (.long (own_u1 q0)), .second, .val (.long (own_u2 q0)), .second, .unset, .unset, .unset, .unset] [(.long (own_u2 q0))]))
  refine Onw.go (fun t kt => XS.lload X1.here hx rfl (hb hby d3_19) rfl kt) ?_
  show Onw p e below _ (T1.setTop (mkF m 21 #[.val (.long q0), .second, .val (.long (own_u1 q0)), .second, .val (.long (own_u2 q0)), .second, .unset, .unset, .unset, .unset] [(.long (own_u2 q0)), (.long (own_u2 q0))]))
  refine Onw.go (fun t kt => XS.bipush X1.here hx rfl (hb hby d3_21) kt) ?_
  show Onw p e below _ (T1.setTop (mkF m 23 #[.val (.long q0), .second, .val (.long (own_u1 q0)), .second, .val (.long (own_u2 q0)), .second, .unset, .unset, .unset, .unset] [(.int (29 : Int32)), (.long (own_u2 q0)), (.long (own_u2 q0))]))
  refine Onw.go (fun t kt => XS.lushr X1.here hx rfl (hb hby d3_23) rfl kt) ?_
  show Onw p e below _ (T1.setTop (mkF m 24 #[.val (.long q0), .second, .val (.long (own_u1 q0)), .second, .val (.long (own_u2 q0)), .second, .unset, .unset, .unset, .unset] [(.long (((own_u2 q0).toUInt64 >>> ((29 : Int32) &&& 0x3f).toInt64.toUInt64).toInt64)), (.long (own_u2 q0))]))
  refine Onw.go (fun t kt => XS.lxor X1.here hx rfl (hb hby d3_24) rfl kt) ?_
  show Onw p e below _ (T1.setTop (mkF m 25 #[.val (.long q0), .second, .val (.long (own_u1 q0)), .second, .val (.long (own_u2 q0)), .second, .unset, .unset, .unset, .unset] [(.long ((own_u2 q0) ^^^ (((own_u2 q0).toUInt64 >>> ((29 : Int32) &&& 0x3f).toInt64.toUInt64).toInt64)))]))
  refine Onw.go (fun t kt => XS.lload X1.here hx rfl (hb hby d3_25) rfl kt) ?_
  show Onw p e below _ (T1.setTop (mkF m 27 #[.val (.long q0), .second, .val (.long (own_u1 q0)), .second, .val (.long (own_u2 q0)), .second, .unset, .unset, .unset, .unset] [(.long (own_u2 q0)), (.long ((own_u2 q0) ^^^ (((own_u2 q0).toUInt64 >>> ((29 : Int32) &&& 0x3f).toInt64.toUInt64).toInt64)))]))
  refine Onw.go (fun t kt => XS.bipush X1.here hx rfl (hb hby d3_27) kt) ?_
  show Onw p e below _ (T1.setTop (mkF m 29 #[.val (.long q0), .second, .val (.long (own_u1 q0)), .second, .val (.long (own_u2 q0)), .second, .unset, .unset, .unset, .unset] [(.int (58 : Int32)), (.long (own_u2 q0)), (.long ((own_u2 q0) ^^^ (((own_u2 q0).toUInt64 >>> ((29 : Int32) &&& 0x3f).toInt64.toUInt64).toInt64)))]))
  refine Onw.go (fun t kt => XS.lushr X1.here hx rfl (hb hby d3_29) rfl kt) ?_
  show Onw p e below _ (T1.setTop (mkF m 30 #[.val (.long q0), .second, .val (.long (own_u1 q0)), .second, .val (.long (own_u2 q0)), .second, .unset, .unset, .unset, .unset] [(.long (((own_u2 q0).toUInt64 >>> ((58 : Int32) &&& 0x3f).toInt64.toUInt64).toInt64)), (.long ((own_u2 q0) ^^^ (((own_u2 q0).toUInt64 >>> ((29 : Int32) &&& 0x3f).toInt64.toUInt64).toInt64)))]))
  refine Onw.go (fun t kt => XS.lxor X1.here hx rfl (hb hby d3_30) rfl kt) ?_
  show Onw p e below _ (T1.setTop (mkF m 31 #[.val (.long q0), .second, .val (.long (own_u1 q0)), .second, .val (.long (own_u2 q0)), .second, .unset, .unset, .unset, .unset] [(.long (((own_u2 q0) ^^^ (((own_u2 q0).toUInt64 >>> ((29 : Int32) &&& 0x3f).toInt64.toUInt64).toInt64)) ^^^ (((own_u2 q0).toUInt64 >>> ((58 : Int32) &&& 0x3f).toInt64.toUInt64).toInt64)))]))
  rw [(rfl : (((own_u2 q0) ^^^ (((own_u2 q0).toUInt64 >>> ((29 : Int32) &&& 0x3f).toInt64.toUInt64).toInt64)) ^^^ (((own_u2 q0).toUInt64 >>> ((58 : Int32) &&& 0x3f).toInt64.toUInt64).toInt64)) = (own_u3 (own_u2 q0)))]
  show Onw p e below _ (T1.setTop (mkF m 31 #[.val (.long q0), .second, .val (.long (own_u1 q0)), .second, .val (.long (own_u2 q0)), .second, .unset, .unset, .unset, .unset] [(.long (own_u3 (own_u2 q0)))]))
  refine Onw.go (fun t kt => XS.lstore X1.here hx rfl (hb hby d3_31) rfl (l' := #[.val (.long q0), .second, .val (.long (own_u1 q0)), .second, .val (.long (own_u2 q0)), .second, .val (.long (own_u3 (own_u2 q0))), .second, .unset, .unset]) rfl kt) ?_
  show Onw p e below _ (T1.setTop (mkF m 33 #[.val (.long q0), .second, .val (.long (own_u1 q0)), .second, .val (.long (own_u2 q0)), .second, .val (.long (own_u3 (own_u2 q0))), .second, .unset, .unset] []))
  refine Onw.go (fun t kt => XS.lload X1.here hx rfl (hb hby d3_33) rfl kt) ?_
  show Onw p e below _ (T1.setTop (mkF m 35 #[.val (.long q0), .second, .val (.long (own_u1 q0)), .second, .val (.long (own_u2 q0)), .second, .val (.long (own_u3 (own_u2 q0))), .second, .unset, .unset] [(.long (own_u3 (own_u2 q0)))]))
  refine Onw.go (X1.ldc2Long hx hown (mvT hZ (hw _ (List.mem_of_getElem? (i := 0) rfl))) (g := (mkF m 35 #[.val (.long q0), .second, .val (.long (own_u1 q0)), .second, .val (.long (own_u2 q0)), .second, .val (.long (own_u3 (own_u2 q0))), .second, .unset, .unset] [(.long (own_u3 (own_u2 q0)))])) rfl (hb hby d3_35)) ?_
  show Onw p e below _ (T1.setTop (mkF m 38 #[.val (.long q0), .second, .val (.long (own_u1 q0)), .second, .val (.long (own_u2 q0)), .second, .val (.long (own_u3 (own_u2 q0))), .second, .unset, .unset] [(.long (-7046029254386353131 : Int64)), (.long (own_u3 (own_u2 q0)))]))
  obtain ⟨_, _, ⟨T2, L2, k2, n2⟩, -, X2, ⟨Lc2, hQ2, l2, y2, z2⟩, st2⟩ := Jvm.LawKit.callS X1 hx (y := (⟨"com/example/quadledger/quadledger/model/HashIndexMixPinLaw", "inverse", "(J)J"⟩ : MethodName)) hown (mvT hZ (hw _ (List.mem_of_getElem? (i := 1) rfl))) (mvT hZ (hw _ (List.mem_of_getElem? (i := 2) rfl))) (mvT hZ (hw _ (List.mem_of_getElem? (i := 3) rfl))) (mvT hZ (hw _ (List.mem_of_getElem? (i := 4) rfl))) (by decide) (backOf (W := 2) (rm1 l Z a0 hw [] (-7046029254386353131 : Int64)  h0 n0 ) hZ (hw _ (List.mem_of_getElem? (i := 4) rfl)) (hw _ (List.mem_of_getElem? (i := 3) rfl)) (by decide) (by decide)) (g := (mkF m 38 #[.val (.long q0), .second, .val (.long (own_u1 q0)), .second, .val (.long (own_u2 q0)), .second, .val (.long (own_u3 (own_u2 q0))), .second, .unset, .unset] [(.long (-7046029254386353131 : Int64)), (.long (own_u3 (own_u2 q0)))])) rfl (by rw [hml]; rfl) (argsL := [(.long (-7046029254386353131 : Int64))]) (rest := [(.long (own_u3 (own_u2 q0)))]) (lenOf pd_0 rfl) rfl (by show 2 * 0 + _ ≤ _; exact Nat.le_of_eq rfl) (hb hby d3_38) (fun _ _ => ⟨rfl, e1q, (by decide : 0 + 0 ≤ _), (by decide : 0 + 0 ≤ _)⟩)
  dsimp only [Pt.U, Pt.locs, Pt.cells, Pt.slots] at X2 l2 y2 z2 st2 hQ2
  subst l2 y2 z2
  obtain ⟨rfl, N2q, e2q⟩ := hQ2
  have N2 := Fr.app N1 N2q
  refine Onw.go st2 ?_
  show Onw p e below _ (T2.setTop (mkF m 41 #[.val (.long q0), .second, .val (.long (own_u1 q0)), .second, .val (.long (own_u2 q0)), .second, .val (.long (own_u3 (own_u2 q0))), .second, .unset, .unset] [(.long (own_inv (-7046029254386353131 : Int64))), (.long (own_u3 (own_u2 q0)))]))
  refine Onw.go (fun t kt => XS.lmul X2.here hx rfl (hb hby d3_41) rfl kt) ?_
  show Onw p e below _ (T2.setTop (mkF m 42 #[.val (.long q0), .second, .val (.long (own_u1 q0)), .second, .val (.long (own_u2 q0)), .second, .val (.long (own_u3 (own_u2 q0))), .second, .unset, .unset] [(.long ((own_u3 (own_u2 q0)) * (own_inv (-7046029254386353131 : Int64))))]))
  rw [(rfl : ((own_u3 (own_u2 q0)) * (own_inv (-7046029254386353131 : Int64))) = (own_u4 q0))]
  show Onw p e below _ (T2.setTop (mkF m 42 #[.val (.long q0), .second, .val (.long (own_u1 q0)), .second, .val (.long (own_u2 q0)), .second, .val (.long (own_u3 (own_u2 q0))), .second, .unset, .unset] [(.long (own_u4 q0))]))
  refine Onw.go (fun t kt => XS.lstore X2.here hx rfl (hb hby d3_42) rfl (l' := #[.val (.long q0), .second, .val (.long (own_u1 q0)), .second, .val (.long (own_u2 q0)), .second, .val (.long (own_u3 (own_u2 q0))), .second, .val (.long (own_u4 q0)), .second]) rfl kt) ?_
  show Onw p e below _ (T2.setTop (mkF m 44 #[.val (.long q0), .second, .val (.long (own_u1 q0)), .second, .val (.long (own_u2 q0)), .second, .val (.long (own_u3 (own_u2 q0))), .second, .val (.long (own_u4 q0)), .second] []))
  refine Onw.go (fun t kt => XS.lload X2.here hx rfl (hb hby d3_44) rfl kt) ?_
  show Onw p e below _ (T2.setTop (mkF m 46 #[.val (.long q0), .second, .val (.long (own_u1 q0)), .second, .val (.long (own_u2 q0)), .second, .val (.long (own_u3 (own_u2 q0))), .second, .val (.long (own_u4 q0)), .second] [(.long (own_u4 q0))]))
  refine Onw.go (fun t kt => XS.lload X2.here hx rfl (hb hby d3_46) rfl kt) ?_
  show Onw p e below _ (T2.setTop (mkF m 48 #[.val (.long q0), .second, .val (.long (own_u1 q0)), .second, .val (.long (own_u2 q0)), .second, .val (.long (own_u3 (own_u2 q0))), .second, .val (.long (own_u4 q0)), .second] [(.long (own_u4 q0)), (.long (own_u4 q0))]))
  refine Onw.go (fun t kt => XS.bipush X2.here hx rfl (hb hby d3_48) kt) ?_
  show Onw p e below _ (T2.setTop (mkF m 50 #[.val (.long q0), .second, .val (.long (own_u1 q0)), .second, .val (.long (own_u2 q0)), .second, .val (.long (own_u3 (own_u2 q0))), .second, .val (.long (own_u4 q0)), .second] [(.int (32 : Int32)), (.long (own_u4 q0)), (.long (own_u4 q0))]))
  refine Onw.go (fun t kt => XS.lushr X2.here hx rfl (hb hby d3_50) rfl kt) ?_
  show Onw p e below _ (T2.setTop (mkF m 51 #[.val (.long q0), .second, .val (.long (own_u1 q0)), .second, .val (.long (own_u2 q0)), .second, .val (.long (own_u3 (own_u2 q0))), .second, .val (.long (own_u4 q0)), .second] [(.long (((own_u4 q0).toUInt64 >>> ((32 : Int32) &&& 0x3f).toInt64.toUInt64).toInt64)), (.long (own_u4 q0))]))
  refine Onw.go (fun t kt => XS.lxor X2.here hx rfl (hb hby d3_51) rfl kt) ?_
  show Onw p e below _ (T2.setTop (mkF m 52 #[.val (.long q0), .second, .val (.long (own_u1 q0)), .second, .val (.long (own_u2 q0)), .second, .val (.long (own_u3 (own_u2 q0))), .second, .val (.long (own_u4 q0)), .second] [(.long ((own_u4 q0) ^^^ (((own_u4 q0).toUInt64 >>> ((32 : Int32) &&& 0x3f).toInt64.toUInt64).toInt64)))]))
  exact Onw.ret X2 Bd.notSynchronized (fun h => by rw [Bd.returns] at h; cases h) (fun fs hr => X2.lreturnOut hx Bd.returns (hb hby d3_52) hr) ⟨rfl, N2, e2q⟩ (by decide) (by decide)
theorem ef_0 (m : MethodId) (x0 : Int64) : entryFrame m #[(.long x0)] maxLocals = mkF m 0 #[.val (.long x0), .second, .unset, .unset, .unset, .unset] [] := by first | (simp [entryFrame, mkF, argsToLocals, Value.category, maxLocals]; done) | rfl
def Q_rm0 (Z : State) (q0 : Int64) (h0 : Heap) (n0 : Nat) (v : Option Value) (h : Heap) (L : List Loc) : Prop := v = some (.int (1 : Int32)) ∧ Fr n0 L
set_option maxRecDepth 65536 in
set_option maxHeartbeats 40000000 in
theorem rm0 (l : Launch) (Z : State) (a0 : Array Value) (hw : ∀ d ∈ tables_1, d.before a0 Z = true) (ws : List Jvm.Cond) (q0 : Int64) (h0 : Heap) (n0 : Nat)  :
    MetFree l x (head1 (Jvm.Cond.code x code maxLocals ret :: ws) room_1) (fun a U => a = #[(.long q0)] ∧ Z.Warmed39 U.vm ∧ U.heap = h0) (fun _ _ _ _ _ => True) (fun _ U o U' => ∃ v L, o = .returned v ∧ Q_rm0 Z q0 h0 n0 v U'.heap L ∧ FrameEnd U o U' L room_1.cells room_1.slots) := by
  refine MetFree.of_bodySF (plainFor_of_name pn_0) hisR ?_
  intro p e s m args below meth c s₁ Bd hml0 hP hK
  obtain ⟨rfl, hZ, hh⟩ := hP
  have hx := Bd.exec
  have hby := Bd.bytes
  have hml : c.maxLocals = 6 := hml0
  have hown : s.vm.findClass "com/example/quadledger/quadledger/model/HashIndexMixPinLaw" = some m.cls := findClass_of_methodNamed Bd.named
  have hnm := (name_of_methodNamed Bd.named Bd.method).1
  have X0 : Stand p l e room_1 s m #[(.long q0)] below meth c s₁ [] 0 0 := Stand.of_body Bd
  have e0 : s₁.heap = h0 := by rw [← hh, Bd.state]; rfl
  have N0 := Fr.nil n0
  refine Onw.of (Onw.go (fun t k => castTop (ef_0 m q0) k) ?_)
  show Onw p e below _ (s₁.setTop (mkF m 0 #[.val (.long q0), .second, .unset, .unset, .unset, .unset] []))
  refine Onw.go (X0.ldc2Long hx hown (mvT hZ (hw _ (List.mem_of_getElem? (i := 0) rfl))) (g := (mkF m 0 #[.val (.long q0), .second, .unset, .unset, .unset, .unset] [])) rfl (hb hby at_0)) ?_
  show Onw p e below _ (s₁.setTop (mkF m 3 #[.val (.long q0), .second, .unset, .unset, .unset, .unset] [(.long (-7046029254386353131 : Int64))]))
  obtain ⟨_, _, ⟨T1, L1, k1, n1⟩, -, X1, ⟨Lc1, hQ1, l1, y1, z1⟩, st1⟩ := Jvm.LawKit.callS X0 hx (y := (⟨"com/example/quadledger/quadledger/model/HashIndexMixPinLaw", "inverse", "(J)J"⟩ : MethodName)) hown (mvT hZ (hw _ (List.mem_of_getElem? (i := 1) rfl))) (mvT hZ (hw _ (List.mem_of_getElem? (i := 2) rfl))) (mvT hZ (hw _ (List.mem_of_getElem? (i := 3) rfl))) (mvT hZ (hw _ (List.mem_of_getElem? (i := 4) rfl))) (by decide) (backOf (W := 0) (rm1 l Z a0 hw [] (-7046029254386353131 : Int64)  h0 n0 ) hZ (hw _ (List.mem_of_getElem? (i := 4) rfl)) (hw _ (List.mem_of_getElem? (i := 3) rfl)) (by decide) (by decide)) (g := (mkF m 3 #[.val (.long q0), .second, .unset, .unset, .unset, .unset] [(.long (-7046029254386353131 : Int64))])) rfl (by rw [hml]; rfl) (argsL := [(.long (-7046029254386353131 : Int64))]) (rest := []) (lenOf pd_0 rfl) rfl (by show 2 * 0 + _ ≤ _; exact Nat.le_of_eq rfl) (hb hby at_3) (fun _ _ => ⟨rfl, e0, (by decide : 0 + 0 ≤ _), (by decide : 0 + 0 ≤ _)⟩)
  dsimp only [Pt.U, Pt.locs, Pt.cells, Pt.slots] at X1 l1 y1 z1 st1 hQ1
  subst l1 y1 z1
  obtain ⟨rfl, N1q, e1q⟩ := hQ1
  have N1 := Fr.app N0 N1q
  refine Onw.go st1 ?_
  show Onw p e below _ (T1.setTop (mkF m 6 #[.val (.long q0), .second, .unset, .unset, .unset, .unset] [(.long (own_inv (-7046029254386353131 : Int64)))]))
  refine Onw.go (fun t kt => XS.lstoreN X1.here hx rfl (hb hby at_6) rfl (l' := #[.val (.long q0), .second, .val (.long (own_inv (-7046029254386353131 : Int64))), .second, .unset, .unset]) rfl kt) ?_
  show Onw p e below _ (T1.setTop (mkF m 7 #[.val (.long q0), .second, .val (.long (own_inv (-7046029254386353131 : Int64))), .second, .unset, .unset] []))
  refine Onw.go (X1.ldc2Long hx hown (mvT hZ (hw _ (List.mem_of_getElem? (i := 6) rfl))) (g := (mkF m 7 #[.val (.long q0), .second, .val (.long (own_inv (-7046029254386353131 : Int64))), .second, .unset, .unset] [])) rfl (hb hby at_7)) ?_
  show Onw p e below _ (T1.setTop (mkF m 10 #[.val (.long q0), .second, .val (.long (own_inv (-7046029254386353131 : Int64))), .second, .unset, .unset] [(.long (7640891576956012809 : Int64))]))
  obtain ⟨_, _, ⟨T2, L2, k2, n2⟩, -, X2, ⟨Lc2, hQ2, l2, y2, z2⟩, st2⟩ := Jvm.LawKit.callS X1 hx (y := (⟨"com/example/quadledger/quadledger/model/HashIndexMixPinLaw", "inverse", "(J)J"⟩ : MethodName)) hown (mvT hZ (hw _ (List.mem_of_getElem? (i := 1) rfl))) (mvT hZ (hw _ (List.mem_of_getElem? (i := 2) rfl))) (mvT hZ (hw _ (List.mem_of_getElem? (i := 3) rfl))) (mvT hZ (hw _ (List.mem_of_getElem? (i := 4) rfl))) (by decide) (backOf (W := 0) (rm1 l Z a0 hw [] (7640891576956012809 : Int64)  h0 n0 ) hZ (hw _ (List.mem_of_getElem? (i := 4) rfl)) (hw _ (List.mem_of_getElem? (i := 3) rfl)) (by decide) (by decide)) (g := (mkF m 10 #[.val (.long q0), .second, .val (.long (own_inv (-7046029254386353131 : Int64))), .second, .unset, .unset] [(.long (7640891576956012809 : Int64))])) rfl (by rw [hml]; rfl) (argsL := [(.long (7640891576956012809 : Int64))]) (rest := []) (lenOf pd_0 rfl) rfl (by show 2 * 0 + _ ≤ _; exact Nat.le_of_eq rfl) (hb hby at_10) (fun _ _ => ⟨rfl, e1q, (by decide : 0 + 0 ≤ _), (by decide : 0 + 0 ≤ _)⟩)
  dsimp only [Pt.U, Pt.locs, Pt.cells, Pt.slots] at X2 l2 y2 z2 st2 hQ2
  subst l2 y2 z2
  obtain ⟨rfl, N2q, e2q⟩ := hQ2
  have N2 := Fr.app N1 N2q
  refine Onw.go st2 ?_
  show Onw p e below _ (T2.setTop (mkF m 13 #[.val (.long q0), .second, .val (.long (own_inv (-7046029254386353131 : Int64))), .second, .unset, .unset] [(.long (own_inv (7640891576956012809 : Int64)))]))
  refine Onw.go (fun t kt => XS.lstore X2.here hx rfl (hb hby at_13) rfl (l' := #[.val (.long q0), .second, .val (.long (own_inv (-7046029254386353131 : Int64))), .second, .val (.long (own_inv (7640891576956012809 : Int64))), .second]) rfl kt) ?_
  show Onw p e below _ (T2.setTop (mkF m 15 #[.val (.long q0), .second, .val (.long (own_inv (-7046029254386353131 : Int64))), .second, .val (.long (own_inv (7640891576956012809 : Int64))), .second] []))
  refine Onw.go (X2.ldc2Long hx hown (mvT hZ (hw _ (List.mem_of_getElem? (i := 0) rfl))) (g := (mkF m 15 #[.val (.long q0), .second, .val (.long (own_inv (-7046029254386353131 : Int64))), .second, .val (.long (own_inv (7640891576956012809 : Int64))), .second] [])) rfl (hb hby at_15)) ?_
  show Onw p e below _ (T2.setTop (mkF m 18 #[.val (.long q0), .second, .val (.long (own_inv (-7046029254386353131 : Int64))), .second, .val (.long (own_inv (7640891576956012809 : Int64))), .second] [(.long (-7046029254386353131 : Int64))]))
  refine Onw.go (fun t kt => XS.lloadN X2.here hx rfl (hb hby at_18) rfl kt) ?_
  show Onw p e below _ (T2.setTop (mkF m 19 #[.val (.long q0), .second, .val (.long (own_inv (-7046029254386353131 : Int64))), .second, .val (.long (own_inv (7640891576956012809 : Int64))), .second] [(.long (own_inv (-7046029254386353131 : Int64))), (.long (-7046029254386353131 : Int64))]))
  refine Onw.go (fun t kt => XS.lmul X2.here hx rfl (hb hby at_19) rfl kt) ?_
  show Onw p e below _ (T2.setTop (mkF m 20 #[.val (.long q0), .second, .val (.long (own_inv (-7046029254386353131 : Int64))), .second, .val (.long (own_inv (7640891576956012809 : Int64))), .second] [(.long ((-7046029254386353131 : Int64) * (own_inv (-7046029254386353131 : Int64))))]))
  refine Onw.go (fun t kt => XS.lconst X2.here hx rfl (hb hby at_20) kt) ?_
  show Onw p e below _ (T2.setTop (mkF m 21 #[.val (.long q0), .second, .val (.long (own_inv (-7046029254386353131 : Int64))), .second, .val (.long (own_inv (7640891576956012809 : Int64))), .second] [(.long (1 : Int64)), (.long ((-7046029254386353131 : Int64) * (own_inv (-7046029254386353131 : Int64))))]))
  refine Onw.go (fun t kt => XS.lcmp X2.here hx rfl (hb hby at_21) rfl kt) ?_
  show Onw p e below _ (T2.setTop (mkF m 22 #[.val (.long q0), .second, .val (.long (own_inv (-7046029254386353131 : Int64))), .second, .val (.long (own_inv (7640891576956012809 : Int64))), .second] [(.int (lcmpW ((-7046029254386353131 : Int64) * (own_inv (-7046029254386353131 : Int64))) (1 : Int64)))]))
  refine Onw.go (fun t kt => XS.ifNo X2.here hx rfl (hb hby at_22) rfl ((if0 _ _).trans (teq ((lw_eq _ _).mpr own_inv2 : (lcmpW ((-7046029254386353131 : Int64) * (own_inv (-7046029254386353131 : Int64))) (1 : Int64)) = (0 : Int32))).2) kt) ?_
  show Onw p e below _ (T2.setTop (mkF m 25 #[.val (.long q0), .second, .val (.long (own_inv (-7046029254386353131 : Int64))), .second, .val (.long (own_inv (7640891576956012809 : Int64))), .second] []))
  refine Onw.go (X2.ldc2Long hx hown (mvT hZ (hw _ (List.mem_of_getElem? (i := 6) rfl))) (g := (mkF m 25 #[.val (.long q0), .second, .val (.long (own_inv (-7046029254386353131 : Int64))), .second, .val (.long (own_inv (7640891576956012809 : Int64))), .second] [])) rfl (hb hby at_25)) ?_
  show Onw p e below _ (T2.setTop (mkF m 28 #[.val (.long q0), .second, .val (.long (own_inv (-7046029254386353131 : Int64))), .second, .val (.long (own_inv (7640891576956012809 : Int64))), .second] [(.long (7640891576956012809 : Int64))]))
  refine Onw.go (fun t kt => XS.lload X2.here hx rfl (hb hby at_28) rfl kt) ?_
  show Onw p e below _ (T2.setTop (mkF m 30 #[.val (.long q0), .second, .val (.long (own_inv (-7046029254386353131 : Int64))), .second, .val (.long (own_inv (7640891576956012809 : Int64))), .second] [(.long (own_inv (7640891576956012809 : Int64))), (.long (7640891576956012809 : Int64))]))
  refine Onw.go (fun t kt => XS.lmul X2.here hx rfl (hb hby at_30) rfl kt) ?_
  show Onw p e below _ (T2.setTop (mkF m 31 #[.val (.long q0), .second, .val (.long (own_inv (-7046029254386353131 : Int64))), .second, .val (.long (own_inv (7640891576956012809 : Int64))), .second] [(.long ((7640891576956012809 : Int64) * (own_inv (7640891576956012809 : Int64))))]))
  refine Onw.go (fun t kt => XS.lconst X2.here hx rfl (hb hby at_31) kt) ?_
  show Onw p e below _ (T2.setTop (mkF m 32 #[.val (.long q0), .second, .val (.long (own_inv (-7046029254386353131 : Int64))), .second, .val (.long (own_inv (7640891576956012809 : Int64))), .second] [(.long (1 : Int64)), (.long ((7640891576956012809 : Int64) * (own_inv (7640891576956012809 : Int64))))]))
  refine Onw.go (fun t kt => XS.lcmp X2.here hx rfl (hb hby at_32) rfl kt) ?_
  show Onw p e below _ (T2.setTop (mkF m 33 #[.val (.long q0), .second, .val (.long (own_inv (-7046029254386353131 : Int64))), .second, .val (.long (own_inv (7640891576956012809 : Int64))), .second] [(.int (lcmpW ((7640891576956012809 : Int64) * (own_inv (7640891576956012809 : Int64))) (1 : Int64)))]))
  refine Onw.go (fun t kt => XS.ifYes X2.here hx rfl (pc0 := 33) (pc' := 38) rfl (hb hby at_33) rfl ((if0 _ _).trans (teq ((lw_eq _ _).mpr own_inv1 : (lcmpW ((7640891576956012809 : Int64) * (own_inv (7640891576956012809 : Int64))) (1 : Int64)) = (0 : Int32))).1) (by decide) (by decide) kt) ?_
  show Onw p e below _ (T2.setTop (mkF m 38 #[.val (.long q0), .second, .val (.long (own_inv (-7046029254386353131 : Int64))), .second, .val (.long (own_inv (7640891576956012809 : Int64))), .second] []))
  refine Onw.go (fun t kt => XS.lloadN X2.here hx rfl (hb hby at_38) rfl kt) ?_
  show Onw p e below _ (T2.setTop (mkF m 39 #[.val (.long q0), .second, .val (.long (own_inv (-7046029254386353131 : Int64))), .second, .val (.long (own_inv (7640891576956012809 : Int64))), .second] [(.long q0)]))
  obtain ⟨_, _, ⟨T3, L3, k3, n3⟩, -, X3, ⟨Lc3, hQ3, l3, y3, z3⟩, st3⟩ := Jvm.LawKit.callS X2 hx (y := (⟨"com/example/quadledger/quadledger/model/HashIndex", "mix", "(J)J"⟩ : MethodName)) hown (mvT hZ (hw _ (List.mem_of_getElem? (i := 7) rfl))) (mvT hZ (hw _ (List.mem_of_getElem? (i := 8) rfl))) (mvT hZ (hw _ (List.mem_of_getElem? (i := 9) rfl))) (mvT hZ (hw _ (List.mem_of_getElem? (i := 10) rfl))) (by decide) (backOf (W := 0) (rm2 l Z a0 hw [] q0  h0 n0 ) hZ (hw _ (List.mem_of_getElem? (i := 10) rfl)) (hw _ (List.mem_of_getElem? (i := 9) rfl)) (by decide) (by decide)) (g := (mkF m 39 #[.val (.long q0), .second, .val (.long (own_inv (-7046029254386353131 : Int64))), .second, .val (.long (own_inv (7640891576956012809 : Int64))), .second] [(.long q0)])) rfl (by rw [hml]; rfl) (argsL := [(.long q0)]) (rest := []) (lenOf pd_0 rfl) rfl (by show 2 * 0 + _ ≤ _; exact Nat.le_of_eq rfl) (hb hby at_39) (fun _ _ => ⟨rfl, e2q, (by decide : 0 + 0 ≤ _), (by decide : 0 + 0 ≤ _)⟩)
  dsimp only [Pt.U, Pt.locs, Pt.cells, Pt.slots] at X3 l3 y3 z3 st3 hQ3
  subst l3 y3 z3
  obtain ⟨rfl, N3q, e3q⟩ := hQ3
  have N3 := Fr.app N2 N3q
  refine Onw.go st3 ?_
  show Onw p e below _ (T3.setTop (mkF m 42 #[.val (.long q0), .second, .val (.long (own_inv (-7046029254386353131 : Int64))), .second, .val (.long (own_inv (7640891576956012809 : Int64))), .second] [(.long (own_mix q0))]))
  obtain ⟨_, _, ⟨T4, L4, k4, n4⟩, -, X4, ⟨Lc4, hQ4, l4, y4, z4⟩, st4⟩ := Jvm.LawKit.callS X3 hx (y := (⟨"com/example/quadledger/quadledger/model/HashIndexMixPinLaw", "unmix", "(J)J"⟩ : MethodName)) hown (mvT hZ (hw _ (List.mem_of_getElem? (i := 13) rfl))) (mvT hZ (hw _ (List.mem_of_getElem? (i := 14) rfl))) (mvT hZ (hw _ (List.mem_of_getElem? (i := 3) rfl))) (mvT hZ (hw _ (List.mem_of_getElem? (i := 15) rfl))) (by decide) (backOf (W := 0) (rm3 l Z a0 hw [] (own_mix q0)  h0 n0 ) hZ (hw _ (List.mem_of_getElem? (i := 15) rfl)) (hw _ (List.mem_of_getElem? (i := 3) rfl)) (by decide) (by decide)) (g := (mkF m 42 #[.val (.long q0), .second, .val (.long (own_inv (-7046029254386353131 : Int64))), .second, .val (.long (own_inv (7640891576956012809 : Int64))), .second] [(.long (own_mix q0))])) rfl (by rw [hml]; rfl) (argsL := [(.long (own_mix q0))]) (rest := []) (lenOf pd_0 rfl) rfl (by show 2 * 0 + _ ≤ _; exact Nat.le_of_eq rfl) (hb hby at_42) (fun _ _ => ⟨rfl, e3q, (by decide : 0 + 0 ≤ _), (by decide : 0 + 0 ≤ _)⟩)
  dsimp only [Pt.U, Pt.locs, Pt.cells, Pt.slots] at X4 l4 y4 z4 st4 hQ4
  subst l4 y4 z4
  obtain ⟨rfl, N4q, e4q⟩ := hQ4
  have N4 := Fr.app N3 N4q
  refine Onw.go st4 ?_
  show Onw p e below _ (T4.setTop (mkF m 45 #[.val (.long q0), .second, .val (.long (own_inv (-7046029254386353131 : Int64))), .second, .val (.long (own_inv (7640891576956012809 : Int64))), .second] [(.long (own_unmix (own_mix q0)))]))
  refine Onw.go (fun t kt => XS.lloadN X4.here hx rfl (hb hby at_45) rfl kt) ?_
  show Onw p e below _ (T4.setTop (mkF m 46 #[.val (.long q0), .second, .val (.long (own_inv (-7046029254386353131 : Int64))), .second, .val (.long (own_inv (7640891576956012809 : Int64))), .second] [(.long q0), (.long (own_unmix (own_mix q0)))]))
  refine Onw.go (fun t kt => XS.lcmp X4.here hx rfl (hb hby at_46) rfl kt) ?_
  show Onw p e below _ (T4.setTop (mkF m 47 #[.val (.long q0), .second, .val (.long (own_inv (-7046029254386353131 : Int64))), .second, .val (.long (own_inv (7640891576956012809 : Int64))), .second] [(.int (lcmpW (own_unmix (own_mix q0)) q0))]))
  refine Onw.go (fun t kt => XS.ifNo X4.here hx rfl (hb hby at_47) rfl ((if0 _ _).trans (teq ((lw_eq _ _).mpr (own_back q0) : (lcmpW (own_unmix (own_mix q0)) q0) = (0 : Int32))).2) kt) ?_
  show Onw p e below _ (T4.setTop (mkF m 50 #[.val (.long q0), .second, .val (.long (own_inv (-7046029254386353131 : Int64))), .second, .val (.long (own_inv (7640891576956012809 : Int64))), .second] []))
  refine Onw.go (fun t kt => XS.iconst X4.here hx rfl (hb hby at_50) kt) ?_
  show Onw p e below _ (T4.setTop (mkF m 51 #[.val (.long q0), .second, .val (.long (own_inv (-7046029254386353131 : Int64))), .second, .val (.long (own_inv (7640891576956012809 : Int64))), .second] [(.int (1 : Int32))]))
  refine Onw.go (fun t kt => XS.goto X4.here hx rfl (pc0 := 51) (pc' := 55) rfl (hb hby at_51) (by decide) (by decide) kt) ?_
  show Onw p e below _ (T4.setTop (mkF m 55 #[.val (.long q0), .second, .val (.long (own_inv (-7046029254386353131 : Int64))), .second, .val (.long (own_inv (7640891576956012809 : Int64))), .second] [(.int (1 : Int32))]))
  exact Onw.ret X4 Bd.notSynchronized (fun h => by rw [Bd.returns] at h; cases h) (fun fs hr => retN X4 hx (t := .boolean) Bd.returns (by simp) (hb hby at_55) hr) ⟨rfl, N4⟩ (by decide) (by decide)
set_option maxRecDepth 65536 in
set_option maxHeartbeats 40000000 in
theorem comes_1 {Post : Tables → Env → Array Value → State → Outcome → State → Prop} (hpost : ∀ tb e args s v u, (limb_1_1.after args s (.returned v) u = true ∧ limb_1_2.after args s (.returned v) u = true ∧ True) → FrameEnd s (.returned v) u (Jvm.fieldLocs frame_1_writes args s ++ Jvm.arrayLocs frame_1_arrays args s ++ Jvm.staticLocs frame_1_statics s) 0 0 → Post tb e args s (.returned v) u) :
    ArmFor flags0 classFile x code maxLocals ret World_1 tables_1 room_1 Calls_1 rest_1 Pre_1 Post := by
  intro l hfl _ _ p e ha hc hk s m args below hf hA hF happ hP
  obtain ⟨hcalls, hrest, hpre⟩ := hP
  obtain ⟨-, -, -, hnamed, -, -, -, hat⟩ := (Spec.applies_iff hf).mp happ
  obtain ⟨hg, hn⟩ := and_e (Cond.before_iff.mp (show (Jvm.Cond.and given_1 narrow_1).before args s = true from hpre))
  obtain ⟨g1, g2⟩ := and_e hg
  obtain ⟨w0, rfl⟩ : ∃ w0 : Value, args = #[w0] := by
    have hs : args.size = 1 := by simpa [Cond.value, given_1] using g1
    obtain ⟨L⟩ := args
    match L, hs with
    | [w0], _ => exact ⟨w0, rfl⟩
  have hw := fun d (hd : d ∈ tables_1) => atoms_spec (ws := Jvm.Cond.code x code maxLocals ret :: tables_1) hat d (List.mem_cons_of_mem _ hd)
  have hfit : Fit s := fun {y c} hc i hi => by
    obtain ⟨ha, rfl⟩ := Array.getElem?_eq_some_iff.mp hc
    have q := List.all_eq_true.mp ((Array.all_eq_true_iff_forall_mem.mp hF) _ (Array.getElem_mem ha)) i (List.mem_range.mpr hi)
    simpa [Array.getElem?_eq_getElem hi] using q
  obtain ⟨i0, ei0⟩ := isL_v g2
  obtain rfl : w0 = (.long i0) := Option.some.inj ei0
  obtain ⟨n, o, h1, h2, h3, _, L, rfl, ⟨rfl, N⟩, hq⟩ := rm0 l s _ hw tables_1 i0  s.heap s.heap.size  p e ha hc hk s m _ below hf ((Spec.applies_iff_loose hf).mp happ).1 ⟨rfl, State.Warmed39.refl s, rfl⟩ trivial
  refine ⟨n, _, h1, h2, h3, hpost _ _ _ _ _ _ ⟨Cond.after_iff.mpr rfl, Cond.after_iff.mpr (eq_i res_at (Term.int_eval (1)) rfl), trivial⟩ ⟨hq.1, hq.2.1, (hq.2.2.sift fun y hy => Or.inr (N y hy)).mono (by decide) (by decide)⟩⟩
theorem main_1_1 : Claimed_1_1 := comes_1 fun _ _ _ _ _ _ h hF => ⟨h.1, hF⟩
theorem main_1_2 : Claimed_1_2 := comes_1 fun _ _ _ _ _ _ h hF => ⟨h.2.1, hF⟩
end Jvm.Pilot.@@N@@
namespace Jvm.Pilot.@@N@@
open Jvm Jvm.ClassFile Sem Op Lib Jvm.Free Jvm.Stand Jvm.Pilot.@@N@@.Jvm.D
/-! MADE BY PROGRAM (witnessworld.py) out of the Statement's table words and the real class files: 9 classes; the members and pool entries that the words name. The judged class is class 1, her method 3. -/
namespace start1
open Jvm.ClassFile
def u (s : String) : CpInfo := .utf8 (stringToUtf16 s)
/-- a pool by its gaps: so many unusable entries, then the entry; so many at the end -/
def gap : Nat → List CpInfo → List CpInfo
  | 0, r => r
  | n + 1, r => .unusable :: gap n r
def poolList (es : List (Nat × CpInfo)) (last : Nat) : List CpInfo := es.foldr (fun e r => gap e.1 (e.2 :: r)) (gap last [])
def pool (es : List (Nat × CpInfo)) (last : Nat) : Array CpInfo := ⟨poolList es last⟩
def fileOf (pool : Array CpInfo) (this : Nat) (attrs : Array Attribute := #[]) (ms : Array MethodInfo := #[]) (fl : Nat := 33) (sup : Nat := 0) (ifs : Array Nat := #[]) (fds : Array FieldInfo := #[]) : ClassFile where
  minorVersion := 0
  majorVersion := 65
  constantPool := pool
  accessFlags := fl
  thisClass := this
  superClass := sup
  interfaces := ifs
  fields := fds
  methods := ms
  attributes := attrs
def plain (name : String) (sup : Option ClassId) : Class where
  name := name
  kind := .ordinary
  loader := none
  accessFlags := 33
  super := sup
  interfaces := #[]
  cf := none
  fields := #[]
  methods := #[]
  instanceTypes := #[]
  staticTypes := #[]
  resolved := #[]
  callSites := []
  init := .initialized
  statics := none
  mirror := none

def pool0 : Array CpInfo := pool [(5, u "<init>"), (0, u "()V"), (1, .class_ 10), (1, u "java/lang/Object")] 113

def k0m0 : Method := { name := "<init>", desc := "()V", sig := { parameters := [], returnType := none }, accessFlags := 1, code := none }
/-- java/lang/Object -/
def k0 : Class := { plain "java/lang/Object" none with
  accessFlags := 33
  interfaces := #[]
  cf := some (fileOf pool0 8 #[] #[{ accessFlags := 1, nameIndex := 5, descriptorIndex := 6, attributes := #[] }] 33 0 #[] #[])
  fields := #[]
  methods := #[k0m0]
  instanceTypes := #[]
  staticTypes := #[]
  resolved := Array.replicate 124 none
  statics := none }

def pool1 : Array CpInfo := pool [(2, .class_ 4), (1, u "java/lang/Object"), (0, u "<init>"), (0, u "()V"), (0, .long 2), (1, .long 7640891576956012809), (1, .methodref 12 13), (0, .class_ 14), (0, .nameAndType 15 16), (0, u "com/example/quadledger/quadledger/model/HashIndexMixPinLaw"), (0, u "inverse"), (0, u "(J)J"), (0, .long 11400714819323198485), (1, .methodref 20 21), (0, .class_ 22), (0, .nameAndType 23 16), (0, u "com/example/quadledger/quadledger/model/HashIndex"), (0, u "mix"), (0, .methodref 12 25), (0, .nameAndType 26 16), (0, u "unmix"), (2, u "law"), (0, u "(J)Z")] 3

def k1m0 : Method := { name := "<init>", desc := "()V", sig := { parameters := [], returnType := none }, accessFlags := 1, code := none }
def k1c1 : Code := { maxStack := 8, maxLocals := 4, code := method_2_code, exceptionTable := #[], attributes := #[] }
def k1m1 : Method := { name := "inverse", desc := "(J)J", sig := { parameters := [.long], returnType := some .long }, accessFlags := 10, code := some k1c1 }
def k1c2 : Code := { maxStack := 5, maxLocals := 10, code := method_3_code, exceptionTable := #[], attributes := #[] }
def k1m2 : Method := { name := "unmix", desc := "(J)J", sig := { parameters := [.long], returnType := some .long }, accessFlags := 10, code := some k1c2 }
def k1c3 : Code := { maxStack := 4, maxLocals := 6, code := code, exceptionTable := #[], attributes := #[] }
def k1m3 : Method := { name := "law", desc := "(J)Z", sig := { parameters := [.long], returnType := some .boolean }, accessFlags := 9, code := some k1c3 }
/-- com/example/quadledger/quadledger/model/HashIndexMixPinLaw -/
def k1 : Class := { plain "com/example/quadledger/quadledger/model/HashIndexMixPinLaw" (some 0) with
  accessFlags := 49
  interfaces := #[]
  cf := some (fileOf pool1 12 #[] #[{ accessFlags := 1, nameIndex := 5, descriptorIndex := 6, attributes := #[] }, { accessFlags := 10, nameIndex := 15, descriptorIndex := 16, attributes := #[] }, { accessFlags := 10, nameIndex := 26, descriptorIndex := 16, attributes := #[] }, { accessFlags := 9, nameIndex := 29, descriptorIndex := 30, attributes := #[] }] 49 2 #[] #[])
  fields := #[]
  methods := #[k1m0, k1m1, k1m2, k1m3]
  instanceTypes := #[]
  staticTypes := #[]
  resolved := Array.replicate 34 none
  statics := none }

def pool2 : Array CpInfo := pool [(1, .class_ 2), (0, u "com/example/quadledger/quadledger/model/HashIndex"), (1, .class_ 6), (1, u "java/lang/Object"), (0, u "<init>"), (0, u "()V"), (6, u "chunks"), (0, u "[[J"), (2, u "slots"), (0, u "I"), (2, u "shift"), (0, .long 11400714819323198485), (1, .long 7640891576956012809), (8, u "entries"), (42, u "MAX_ENTRIES"), (1, u "SPREAD"), (0, u "GOLDEN"), (0, u "J"), (0, u "ROOT_TWO"), (0, u "FIRST_BITS"), (1, u "CHUNK_BITS"), (1, u "CHUNK_MASK"), (2, u "mix"), (0, u "(J)J")] 14

def k2m0 : Method := { name := "<init>", desc := "()V", sig := { parameters := [], returnType := none }, accessFlags := 0, code := none }
def k2c1 : Code := { maxStack := 5, maxLocals := 4, code := prog_34_method_2_code, exceptionTable := #[], attributes := #[] }
def k2m1 : Method := { name := "mix", desc := "(J)J", sig := { parameters := [.long], returnType := some .long }, accessFlags := 8, code := some k2c1 }
/-- com/example/quadledger/quadledger/model/HashIndex -/
def k2 : Class := { plain "com/example/quadledger/quadledger/model/HashIndex" (some 0) with
  accessFlags := 48
  interfaces := #[]
  cf := some (fileOf pool2 1 #[] #[{ accessFlags := 0, nameIndex := 7, descriptorIndex := 8, attributes := #[] }, { accessFlags := 8, nameIndex := 91, descriptorIndex := 92, attributes := #[] }] 48 4 #[] #[{ accessFlags := 24, nameIndex := 78, descriptorIndex := 20, attributes := #[] }, { accessFlags := 26, nameIndex := 80, descriptorIndex := 20, attributes := #[] }, { accessFlags := 26, nameIndex := 81, descriptorIndex := 82, attributes := #[] }, { accessFlags := 26, nameIndex := 83, descriptorIndex := 82, attributes := #[] }, { accessFlags := 26, nameIndex := 84, descriptorIndex := 20, attributes := #[] }, { accessFlags := 26, nameIndex := 86, descriptorIndex := 20, attributes := #[] }, { accessFlags := 26, nameIndex := 88, descriptorIndex := 20, attributes := #[] }, { accessFlags := 2, nameIndex := 15, descriptorIndex := 16, attributes := #[] }, { accessFlags := 2, nameIndex := 19, descriptorIndex := 20, attributes := #[] }, { accessFlags := 2, nameIndex := 23, descriptorIndex := 20, attributes := #[] }, { accessFlags := 2, nameIndex := 35, descriptorIndex := 20, attributes := #[] }])
  fields := #[{ name := "MAX_ENTRIES", type := .int, accessFlags := 24, slot := 0, constantValue := 0 }, { name := "SPREAD", type := .int, accessFlags := 26, slot := 1, constantValue := 0 }, { name := "GOLDEN", type := .long, accessFlags := 26, slot := 2, constantValue := 0 }, { name := "ROOT_TWO", type := .long, accessFlags := 26, slot := 3, constantValue := 0 }, { name := "FIRST_BITS", type := .int, accessFlags := 26, slot := 4, constantValue := 0 }, { name := "CHUNK_BITS", type := .int, accessFlags := 26, slot := 5, constantValue := 0 }, { name := "CHUNK_MASK", type := .int, accessFlags := 26, slot := 6, constantValue := 0 }, { name := "chunks", type := (.array (.array .long)), accessFlags := 2, slot := 0, constantValue := 0 }, { name := "slots", type := .int, accessFlags := 2, slot := 1, constantValue := 0 }, { name := "shift", type := .int, accessFlags := 2, slot := 2, constantValue := 0 }, { name := "entries", type := .int, accessFlags := 2, slot := 3, constantValue := 0 }]
  methods := #[k2m0, k2m1]
  instanceTypes := #[(.array (.array .long)), .int, .int, .int]
  staticTypes := #[.int, .int, .long, .long, .int, .int, .int]
  resolved := Array.replicate 107 none
  statics := none }

def pool3 : Array CpInfo := pool [(1, u "java/lang/Cloneable"), (0, .class_ 1), (0, u "java/lang/Object"), (0, .class_ 3)] 3

/-- java/lang/Cloneable -/
def k3 : Class := { plain "java/lang/Cloneable" (some 0) with
  accessFlags := 1537
  interfaces := #[]
  cf := some (fileOf pool3 2 #[] #[] 1537 4 #[] #[])
  fields := #[]
  methods := #[]
  instanceTypes := #[]
  staticTypes := #[]
  resolved := Array.replicate 8 none
  statics := none }

def pool4 : Array CpInfo := pool [(1, u "java/io/Serializable"), (0, .class_ 1), (0, u "java/lang/Object"), (0, .class_ 3)] 3

/-- java/io/Serializable -/
def k4 : Class := { plain "java/io/Serializable" (some 0) with
  accessFlags := 1537
  interfaces := #[]
  cf := some (fileOf pool4 2 #[] #[] 1537 4 #[] #[])
  fields := #[]
  methods := #[]
  instanceTypes := #[]
  staticTypes := #[]
  resolved := Array.replicate 8 none
  statics := none }

/-- the primitive byte -/
def k5 : Class := { plain "byte" none with kind := .primitive 'B', accessFlags := 0x411 }
/-- [B -/
def k6 : Class := { plain "[B" (some 0) with kind := .array 5 .byte, interfaces := #[3, 4], accessFlags := 1041 }

/-- the primitive int -/
def k7 : Class := { plain "int" none with kind := .primitive 'I', accessFlags := 0x411 }
/-- [I -/
def k8 : Class := { plain "[I" (some 0) with kind := .array 7 .int, interfaces := #[3, 4], accessFlags := 1041 }

def heap : Heap := #[]
def classes : Array Class := #[k0, k1, k2, k3, k4, k5, k6, k7, k8]
def interned : List (Array UInt16 × Addr) := []
def slotsUsed : Nat := 0
def theMethod : MethodId := ⟨1, 3⟩
def args0 : Array Value := #[.long 5]
def aboutOver (below : List Frame) : State where
  vm := { classes := classes, interned := interned.toArray }
  heap := heap
  slotsUsed := slotsUsed
  threads := #[{ frames := .invoking theMethod args0 :: below }]
def below0 : List Frame := [.native { method := ⟨0, 0⟩, args := #[] }]
def about1 : State := aboutOver below0
def p0 : Program := .bare "" "" ""
def e0 : Env := launch0.env 0 0 0
theorem w_frames : about1.frames = Frame.invoking theMethod args0 :: below0 := rfl
set_option maxRecDepth 65536 in
theorem w_args : argsFit about1.vm theMethod args0 = true := by decide +kernel
set_option maxRecDepth 65536 in
theorem w_heap : heapFits about1 = true := by decide +kernel
set_option maxRecDepth 65536 in
theorem w_runnable : about1.curStatus? = some .runnable := by decide +kernel
set_option maxRecDepth 65536 in
theorem w_alone : about1.alone = true := by decide +kernel
set_option maxRecDepth 65536 in
theorem w_named : about1.methodNamed? x = some theMethod := by decide +kernel
set_option maxRecDepth 65536 in
theorem w_hears : about1.hears theMethod below0 = true := by decide +kernel
set_option maxRecDepth 65536 in
theorem w_ripe : about1.ripe theMethod args0 below0 = true := by decide +kernel
theorem w_running : about1.status = .running := rfl
set_option maxRecDepth 65536 in
theorem w_room : about1.hasRoom e0.platform room_1 = true :=
  launch0.hasRoom_least _ room_1 (by decide +kernel) (by decide +kernel) (by decide +kernel) (by decide +kernel) (by decide +kernel) (by decide +kernel)
theorem allAtoms_all (ts : List Jvm.Cond) (a : Array Jvm.Value) (st : Jvm.State) : (allAtoms ts).before a st = ts.all (fun c => c.before a st) := by
  induction ts with
  | nil => rfl
  | cons c t ih =>
    show (Jvm.Cond.and c (allAtoms t)).before a st = _
    rw [Jvm.Cond.before_and, ih, List.all_cons]
def words1 : List Jvm.Cond := Jvm.Cond.code x code maxLocals ret :: tables_1
/-- a 'code' word, met by the world's own term for the bytes: nothing is compared byte by byte -/
theorem code_word {y : MethodName} {bytes : ByteArray} {mx : Nat} {rt : Option FieldType} {a : Array Value} {s : State} {m : MethodId} {meth : Method} {c : Code} (h1 : s.methodNamed? y = some m) (h2 : s.vm.method? m = some meth) (h3 : meth.code = some c) (h4 : c.code = bytes)
    (h5 : (c.maxLocals == mx && c.exceptionTable.isEmpty && decide (c.maxStack ≤ mostOperands) && decide (meth.sig.returnType = rt) && !meth.locks && decide (parseMethodDescriptor y.desc = some meth.sig)) = true) : (Jvm.Cond.code y bytes mx rt).before a s = true := by
  simp only [Bool.and_eq_true, beq_iff_eq, Bool.not_eq_true', decide_eq_true_eq] at h5
  obtain ⟨⟨⟨⟨⟨g1, g2⟩, g3⟩, g4⟩, g5⟩, g6⟩ := h5
  simp [Cond.before, Cond.holds, Cond.value, h1, h2, h3, h4, g1, g2, g3, g4, g5, g6]
def isCode : Jvm.Cond → Bool
  | .code _ _ _ _ => true
  | _ => false
theorem all_split {L : List Jvm.Cond} {P : Jvm.Cond → Bool} (h1 : L.all (fun c => isCode c || P c) = true) (h2 : ∀ c ∈ L.filter isCode, P c = true) : L.all P = true := by
  refine List.all_eq_true.mpr fun c hc => ?_
  have h := List.all_eq_true.mp h1 c hc
  rcases Bool.eq_false_or_eq_true (isCode c) with hi | hi
  · exact h2 c (List.mem_filter.mpr ⟨hc, hi⟩)
  · simpa [hi] using h
set_option maxRecDepth 65536 in
theorem w_c0 : (Jvm.Cond.code x code maxLocals ret).before args0 about1 = true := code_word (m := ⟨1, 3⟩) (meth := k1m3) (c := k1c3) (by decide +kernel) rfl rfl rfl (by decide +kernel)
set_option maxRecDepth 65536 in
theorem w_c1 : (Jvm.Cond.code ({ cls := "com/example/quadledger/quadledger/model/HashIndexMixPinLaw", name := "inverse", desc := "(J)J" } : Jvm.MethodName) method_2_code (4 : Nat) (Option.some Jvm.ClassFile.FieldType.long)).before args0 about1 = true := code_word (m := ⟨1, 1⟩) (meth := k1m1) (c := k1c1) (by decide +kernel) rfl rfl rfl (by decide +kernel)
set_option maxRecDepth 65536 in
theorem w_c2 : (Jvm.Cond.code ({ cls := "com/example/quadledger/quadledger/model/HashIndex", name := "mix", desc := "(J)J" } : Jvm.MethodName) prog_34_method_2_code (4 : Nat) (Option.some Jvm.ClassFile.FieldType.long)).before args0 about1 = true := code_word (m := ⟨2, 1⟩) (meth := k2m1) (c := k2c1) (by decide +kernel) rfl rfl rfl (by decide +kernel)
set_option maxRecDepth 65536 in
theorem w_c3 : (Jvm.Cond.code ({ cls := "com/example/quadledger/quadledger/model/HashIndexMixPinLaw", name := "unmix", desc := "(J)J" } : Jvm.MethodName) method_3_code (10 : Nat) (Option.some Jvm.ClassFile.FieldType.long)).before args0 about1 = true := code_word (m := ⟨1, 2⟩) (meth := k1m2) (c := k1c2) (by decide +kernel) rfl rfl rfl (by decide +kernel)
def codes1 : List Jvm.Cond := [Jvm.Cond.code x code maxLocals ret, Jvm.Cond.code ({ cls := "com/example/quadledger/quadledger/model/HashIndexMixPinLaw", name := "inverse", desc := "(J)J" } : Jvm.MethodName) method_2_code (4 : Nat) (Option.some Jvm.ClassFile.FieldType.long), Jvm.Cond.code ({ cls := "com/example/quadledger/quadledger/model/HashIndex", name := "mix", desc := "(J)J" } : Jvm.MethodName) prog_34_method_2_code (4 : Nat) (Option.some Jvm.ClassFile.FieldType.long), Jvm.Cond.code ({ cls := "com/example/quadledger/quadledger/model/HashIndexMixPinLaw", name := "unmix", desc := "(J)J" } : Jvm.MethodName) method_3_code (10 : Nat) (Option.some Jvm.ClassFile.FieldType.long)]
set_option maxRecDepth 65536 in
theorem codes_eq : words1.filter isCode = codes1 := rfl
theorem w_codes : ∀ c ∈ words1.filter isCode, c.before args0 about1 = true := by
  rw [codes_eq]
  intro c hc
  simp only [codes1, List.mem_cons, List.not_mem_nil, or_false] at hc
  rcases hc with rfl | rfl | rfl | rfl
  · exact w_c0
  · exact w_c1
  · exact w_c2
  · exact w_c3
set_option maxRecDepth 65536 in
theorem w_t1 : words1.all (fun c => isCode c || c.before args0 about1) = true := by decide +kernel
theorem w_tables : (allAtoms (Jvm.Cond.code x code maxLocals ret :: tables_1)).before args0 about1 = true := by
  rw [allAtoms_all]
  show words1.all (fun c => c.before args0 about1) = true
  refine all_split ?_ w_codes
  rw [w_t1]
set_option maxRecDepth 65536 in
theorem w_case : (Jvm.Cond.and given_1 narrow_1).before args0 about1 = true := by decide +kernel
theorem w_applies : (headSpec (Jvm.Cond.code x code maxLocals ret :: tables_1) room_1).applies x e0.platform about1 = true :=
  (Spec.applies_iff w_frames).mpr ⟨w_running, w_runnable, w_alone, w_named, w_hears, w_ripe, w_room, w_tables⟩
theorem atStart : AtStart classFile x code maxLocals ret World_1 tables_1 room_1 Calls_1 rest_1 Pre_1 launch0 p0 e0 about1 theMethod args0 below0 :=
  ⟨lists_1, trivial, launch0.admits_env _ _ _, launch0.least_env, fairChoices_fair.cas, fairChoices_fair.clock, w_frames, w_args, w_heap, w_applies, trivial, trivial, w_case⟩
end start1
theorem witness_1 : WitnessClaimed_1 := ⟨start1.p0, start1.e0, start1.about1, start1.theMethod, start1.args0, start1.below0, start1.atStart⟩
end Jvm.Pilot.@@N@@
