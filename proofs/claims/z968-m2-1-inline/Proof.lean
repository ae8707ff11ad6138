import JvmDerived
import JvmDerived.Pilot.@@N@@Statement
import JvmDerived.Pilot.@@N@@Code
set_option linter.unusedVariables false
set_option linter.unusedSimpArgs false
namespace Jvm.RoadKit
open Sem ClassFile Op Lib Jvm.Stand Jvm.Free Jvm.LawKit
section New
variable {p : Program} {l : Launch} {e : Env} {R : Room} {s : State} {m : MethodId} {args : Array Value} {below : List Frame} {meth : Method} {c : Code} {T : State} {locs : List Loc} {cells slots : Nat}
theorem retI (X : Stand p l e R s m args below meth c T locs cells slots) (hx : p.tables.exec = Jvm.exec) {pc : Nat} {Ls : Array Slot} {z : Int32} {rest : List Value} (hret : meth.sig.returnType = some .int) (hd : decode c.code pc = .ok (.ireturn, 1)) {fs : List Frame}
    (hl : ∀ (f : JFrame) (acts : List Action), f.method = m → f.locked = none → f.entered = [] → (doReturn e (T.setTop f) acts (some (.int z))).1 = T.setFrames fs) : Steps p.tables e below (T.setTop (mkF m pc Ls (.int z :: rest))) (T.setFrames fs) := by
  have hm' : T.vm.method? m = some meth := X.method'
  have hn : narrow .int (.int z) = .int z := rfl
  show Steps p.tables e below (T.setTop { method := m, pc := pc, locals := Ls, stack := _ :: rest, locked := none }) _
  jvm_step X.here [X.here.top, hx, hd, hm', hret, hn]
  first | (intro acts; rw [hl _ acts rfl rfl rfl]) | rw [hl _ _ rfl rfl rfl]
  exact Steps.refl _
theorem own_mg {α : Type} {l : List α} {i : Nat} {a : α} (h : l[i]? = some a) : a ∈ l := List.mem_of_getElem? h
/-- the run from U on ends as W says -/
def Onw (p : Program) (e : Env) (below : List Frame) (W : Outcome → State → Prop) (U : State) : Prop :=
  ∃ s₂ o, Steps p.tables e below U s₂ ∧ s₂.status = .running ∧ Ended s₂ below o ∧ W o s₂
theorem Onw.go {W : Outcome → State → Prop} {U U' : State} (h : ∀ t, Steps p.tables e below U' t → Steps p.tables e below U t) (k : Onw p e below W U') : Onw p e below W U := by
  obtain ⟨s₂, o, h1, h2⟩ := k
  exact ⟨s₂, o, h _ h1, h2⟩
theorem Onw.of {W : Outcome → State → Prop} {U : State} (k : Onw p e below W U) : ∃ s₂ o, Steps p.tables e below U s₂ ∧ s₂.status = .running ∧ Ended s₂ below o ∧ W o s₂ := k
/-- the end of a walk -/
theorem Onw.ret (X : Stand p l e R s m args below meth c T locs cells slots) (hlk : meth.locks = false) {U : State} {v : Option Value} (hv : meth.sig.returnType = none → v = none)
    (hs : ∀ fs, (∀ (f : JFrame) (acts : List Action), f.method = m → f.locked = none → f.entered = [] → (doReturn e (T.setTop f) acts v).1 = T.setFrames fs) → Steps p.tables e below U (T.setFrames fs))
    {Q : Option Value → Heap → List Loc → Prop} (hQ : Q v T.heap locs) {k n : Nat} (hk : cells ≤ k) (hn : slots ≤ n) :
    Onw p e below (fun o s₂ => ∃ v L, o = .returned v ∧ Q v s₂.heap L ∧ FrameEnd s o s₂ L k n) U := by
  obtain ⟨fs, hr, hrun, hended, hW, hsame⟩ := X.leave (v := v) hv hlk
  exact ⟨_, _, hs fs hr, hrun, hended, v, locs, rfl, hQ, ⟨_, rfl⟩, hW, hsame.mono hk hn⟩
/-- .. where Strings may have been interned -/
theorem Onw.retW {vm₁ : Vm} (X : Stand p l e R (s.setVm vm₁) m args below meth c T locs cells slots) {j : Nat} (hS : s.Since vm₁ j) (hj : j ≤ T.heap.size) (hlk : meth.locks = false) {U : State} {v : Option Value} (hv : meth.sig.returnType = none → v = none)
    (hs : ∀ fs, (∀ (f : JFrame) (acts : List Action), f.method = m → f.locked = none → f.entered = [] → (doReturn e (T.setTop f) acts v).1 = T.setFrames fs) → Steps p.tables e below U (T.setFrames fs))
    {Q : Option Value → Heap → List Loc → Prop} (hQ : Q v T.heap locs) {k n : Nat} (hk : cells ≤ k) (hn : slots ≤ n) :
    Onw p e below (fun o s₂ => ∃ v L, o = .returned v ∧ Q v s₂.heap L ∧ ReturnedEndW s o s₂ L k n) U := by
  obtain ⟨fs, hr, hrun, hended, hE⟩ := X.leaveW hS hj (v := v) hv hlk
  exact ⟨_, _, hs fs hr, hrun, hended, v, locs, rfl, hQ, hE.1, hE.2.1, hE.2.2.1, hE.2.2.2.mono hk hn⟩
/-- .. and the invariant on the String constants goes on -/
theorem Onw.retH {vm₁ : Vm} {Z : State} {EL : List (String × Nat)} (X : Stand p l e R (s.setVm vm₁) m args below meth c T locs cells slots) {j : Nat} (hS : s.Since vm₁ j) (hj : j ≤ T.heap.size) (hlk : meth.locks = false) {U : State} {v : Option Value} (hv : meth.sig.returnType = none → v = none)
    (hs : ∀ fs, (∀ (f : JFrame) (acts : List Action), f.method = m → f.locked = none → f.entered = [] → (doReturn e (T.setTop f) acts v).1 = T.setFrames fs) → Steps p.tables e below U (T.setFrames fs))
    {Q : Option Value → Heap → List Loc → Prop} (hQ : Q v T.heap locs) {k n : Nat} (hk : cells ≤ k) (hn : slots ≤ n) (hC : CHr Z EL s.vm s.heap T.vm T.heap) :
    Onw p e below (fun o s₂ => ∃ v L, o = .returned v ∧ Q v s₂.heap L ∧ CHr Z EL s.vm s.heap s₂.vm s₂.heap ∧ ReturnedEndW s o s₂ L k n) U := by
  obtain ⟨fs, hr, hrun, hended, hE⟩ := X.leaveW hS hj (v := v) hv hlk
  exact ⟨_, _, hs fs hr, hrun, hended, v, locs, rfl, hQ, hC, hE.1, hE.2.1, hE.2.2.1, hE.2.2.2.mono hk hn⟩
end New
end Jvm.RoadKit
namespace Jvm.Pilot.@@N@@
open Jvm Jvm.ClassFile Sem Op Lib Jvm.Free Jvm.Stand Jvm.LawKit Jvm.RoadKit Bundle Jvm.Pilot.@@N@@.Jvm.D
theorem own_getR {p : Program} {l : Launch} {e : Env} {R : Room} {s : State} {m : MethodId} {args : Array Value} {below : List Frame} {meth : Method} {c : Code} {T : State} {locs : List Loc} {cells slots : Nat} {Z : State} {a0 : Array Value} {h : Heap} (X : Stand p l e R s m args below meth c T locs cells slots) (hx : p.tables.exec = Jvm.exec) (hZ : Z.Warmed39 s.vm) {own O n d : String} {index : Nat} (hown : s.vm.findClass own = some m.cls) (w : (Jvm.Cond.fieldRef own index O n d).before a0 Z = true) (eT : T.heap = h) {a : Addr} {v : Value} (F : Fld Z h a O n d v) {g : JFrame} (hg : g.method = m) {rest : List Value} (hs : g.stack = .ref a :: rest) (hd : decode c.code g.pc = .ok (.getfield index, 3)) :
    ∀ target, Steps p.tables e below (T.setTop { g with pc := g.pc + 3, stack := v :: rest }) target → Steps p.tables e below (T.setTop g) target := by
  have hT : Z.Warmed39 T.vm := wtrans hZ X.warmed
  have w' := Cond.fieldRef_warmed39 hT w
  have hown' : (Z.setVm T.vm).vm.findClass own = some m.cls := by
    show T.vm.findClass own = _
    rw [X.warmed.alike.findClass]; exact hown
  obtain ⟨c1, k1, i1, f1, hf, hr⟩ := Cond.fieldRef_spec hown' w'
  obtain ⟨cell, cf, k, i, f, h1, h2, h3, h4, h5, h6, h7⟩ := F
  obtain ⟨k', e1, -⟩ := State.fieldFound?_setVm (s := Z) hT.alike h2
  cases e1.symm.trans hf
  intro target hrest
  subst hg
  jvm_step X.here [hx, hd, getfield.wp_ready (s := T) (f := g) X.here.top hr h3 hs (by rw [eT]; exact h1) h4 h7]
  exact hrest
theorem own_nf {s : State} {args : Array Value} {C : String} {y z : MethodName} (hz : (Jvm.Cond.selects C z z).before args s = true) (hc : y.cls = z.cls) : NotFace s y := fun r0 h0 => by
  obtain ⟨c2, r2, m2, q1, -, q3, -, kP, hkP, hkPi⟩ := Cond.selects_spec hz
  have e1 := findClass_of_methodNamed h0
  have e2 := findClass_of_methodNamed q3
  rw [hc] at e1
  have e3 := Option.some.inj (e1.symm.trans e2)
  exact ⟨kP, by rw [e3]; exact hkP, hkPi⟩
theorem own_self {s : State} {args : Array Value} {C : String} {y z : MethodName} (hz : (Jvm.Cond.selects C z z).before args s = true) (hpriv : s.PrivateAt y) (hinst : (Jvm.Cond.instanceMethod y).before args s = true) (hc : y.cls = z.cls) (hy : y.cls ≠ "java/lang/invoke/MethodHandle" ∧ y.cls ≠ "java/lang/invoke/VarHandle") : (Jvm.Cond.selects y.cls y y).before args s = true := by
  obtain ⟨c2, r2, m2, q1, -, q3, -, kP, hkP, hkPi⟩ := Cond.selects_spec hz
  have hcls := findClass_of_methodNamed q3
  rw [← hc] at hcls
  exact Jvm.Stand.selects_self_of_private hcls hkP hkPi hpriv hinst hy
theorem own_same {s : State} {args : Array Value} {C : String} {y z : MethodName} (hz : (Jvm.Cond.selects C z z).before args s = true) (hinst : (Jvm.Cond.instanceMethod y).before args s = true) (hc : y.cls = z.cls) (hy : y.cls ≠ "java/lang/invoke/MethodHandle" ∧ y.cls ≠ "java/lang/invoke/VarHandle") : (Jvm.Cond.sameMethod y.cls y.cls y.name y.desc).before args s = true := by
  obtain ⟨c2, r2, m2, q1, -, q3, -, kP, hkP, hkPi⟩ := Cond.selects_spec hz
  obtain ⟨mk, methM, hnamed, hmethM, -, -⟩ := Cond.instanceMethod_spec hinst
  have hfound : s.methodFound? y.cls y.name y.desc = some mk := State.methodFound?_of_named hnamed hy
  have e1 := findClass_of_methodNamed hnamed
  have e2 := findClass_of_methodNamed q3
  rw [hc] at e1
  have e3 := Option.some.inj (e1.symm.trans e2)
  have e4 : s.vm.findClass y.cls = some mk.cls := findClass_of_methodNamed hnamed
  have e5 : s.methodNamed? ⟨y.cls, y.name, y.desc⟩ = some mk := hnamed
  have e6 : s.vm.classes[mk.cls]? = some kP := by rw [e3]; exact hkP
  simp only [Cond.before, Cond.holds, Cond.value, e4, hfound, e5, e6]
  simp [hkPi]
theorem own_args {s : State} {args args' : Array Value} {C : String} {y z : MethodName} (h : (Jvm.Cond.selects C y z).before args s = true) : (Jvm.Cond.selects C y z).before args' s = true := by
  simp only [Cond.before, Cond.holds, Cond.value] at h ⊢
  exact h
theorem own_stak {Z : State} {h h' : Heap} {ws : List Addr} {C n d : String} {v : Value} (S : Sta Z h C n d v) (K : Keep h h' ws) (E : ∀ b ∈ ws, ∀ cell : Cell, h[b]? = some cell → cell.vm.isStatics = false) : Sta Z h' C n d v := by
  obtain ⟨cf, i, k, f, st, cell, h1, h2, h3, h4, h5, h6, h7⟩ := S
  refine ⟨cf, i, k, f, st, cell, h1, h2, h3, h4, K.2.1 st cell h5 (fun q => ?_), h6, h7⟩
  have := E st q cell h5
  rw [h6] at this
  cases this
theorem pd_0 : parseMethodDescriptor "(IJLcom/example/vigil_cache/vigilcache/HotKeyRule$WindowUnit;)V" = some ⟨[.int, .long, (.object "com/example/vigil_cache/vigilcache/HotKeyRule$WindowUnit")], none⟩ := by decide +kernel
theorem pd_1 : parseMethodDescriptor "()V" = some ⟨[], none⟩ := by decide +kernel
theorem pd_2 : parseMethodDescriptor "(Ljava/lang/Object;Ljava/lang/String;)Ljava/lang/Object;" = some ⟨[(.object "java/lang/Object"), (.object "java/lang/String")], some (.object "java/lang/Object")⟩ := by decide +kernel
theorem pd_3 : parseMethodDescriptor "(JLcom/example/vigil_cache/vigilcache/HotKeyRule$WindowUnit;)V" = some ⟨[.long, (.object "com/example/vigil_cache/vigilcache/HotKeyRule$WindowUnit")], none⟩ := by decide +kernel
theorem pd_4 : parseMethodDescriptor "()Ljava/lang/String;" = some ⟨[], some (.object "java/lang/String")⟩ := by decide +kernel
theorem pd_5 : parseMethodDescriptor "(I)V" = some ⟨[.int], none⟩ := by decide +kernel
theorem pd_6 : parseMethodDescriptor "(J)Ljava/lang/StringBuilder;" = some ⟨[.long], some (.object "java/lang/StringBuilder")⟩ := by decide +kernel
theorem pd_7 : parseMethodDescriptor "(J)Ljava/lang/AbstractStringBuilder;" = some ⟨[.long], some (.object "java/lang/AbstractStringBuilder")⟩ := by decide +kernel
theorem pd_8 : parseMethodDescriptor "(J)I" = some ⟨[.long], some .int⟩ := by decide +kernel
theorem pd_9 : parseMethodDescriptor "()Z" = some ⟨[], some .boolean⟩ := by decide +kernel
theorem pd_10 : parseMethodDescriptor "(JI[B)I" = some ⟨[.long, .int, (.array .byte)], some .int⟩ := by decide +kernel
theorem pd_11 : parseMethodDescriptor "(Ljava/lang/String;)Ljava/lang/StringBuilder;" = some ⟨[(.object "java/lang/String")], some (.object "java/lang/StringBuilder")⟩ := by decide +kernel
theorem pd_12 : parseMethodDescriptor "(Ljava/lang/String;)Ljava/lang/AbstractStringBuilder;" = some ⟨[(.object "java/lang/String")], some (.object "java/lang/AbstractStringBuilder")⟩ := by decide +kernel
theorem pd_13 : parseMethodDescriptor "()I" = some ⟨[], some .int⟩ := by decide +kernel
theorem pd_14 : parseMethodDescriptor "()B" = some ⟨[], some .byte⟩ := by decide +kernel
theorem pd_15 : parseMethodDescriptor "(ILjava/lang/String;)V" = some ⟨[.int, (.object "java/lang/String")], none⟩ := by decide +kernel
theorem pd_16 : parseMethodDescriptor "(Ljava/lang/String;)V" = some ⟨[(.object "java/lang/String")], none⟩ := by decide +kernel
theorem pd_17 : parseMethodDescriptor "([BIB)V" = some ⟨[(.array .byte), .int, .byte], none⟩ := by decide +kernel
theorem pd_18 : parseMethodDescriptor "(Ljava/lang/Object;ILjava/lang/Object;II)V" = some ⟨[(.object "java/lang/Object"), .int, (.object "java/lang/Object"), .int, .int], none⟩ := by decide +kernel
theorem pd_19 : parseMethodDescriptor "(Ljava/lang/StringBuilder;)V" = some ⟨[(.object "java/lang/StringBuilder")], none⟩ := by decide +kernel
theorem pd_20 : parseMethodDescriptor "(Ljava/lang/AbstractStringBuilder;Ljava/lang/Void;)V" = some ⟨[(.object "java/lang/AbstractStringBuilder"), (.object "java/lang/Void")], none⟩ := by decide +kernel
theorem pd_21 : parseMethodDescriptor "()[B" = some ⟨[], some (.array .byte)⟩ := by decide +kernel
theorem pd_22 : parseMethodDescriptor "([BII)[B" = some ⟨[(.array .byte), .int, .int], some (.array .byte)⟩ := by decide +kernel
theorem pd_23 : parseMethodDescriptor "(II)V" = some ⟨[.int, .int], none⟩ := by decide +kernel
theorem pd_24 : parseMethodDescriptor "(II)I" = some ⟨[.int, .int], some .int⟩ := by decide +kernel
theorem pd_25 : parseMethodDescriptor "(J[J)I" = some ⟨[.long, (.array .long)], some .int⟩ := by decide +kernel
theorem pd_26 : parseMethodDescriptor "(I)C" = some ⟨[.int], some .char⟩ := by decide +kernel
theorem pd_27 : parseMethodDescriptor "([BI)C" = some ⟨[(.array .byte), .int], some .char⟩ := by decide +kernel
theorem pd_28 : parseMethodDescriptor "(IILjava/util/function/BiFunction;)I" = some ⟨[.int, .int, (.object "java/util/function/BiFunction")], some .int⟩ := by decide +kernel
theorem pd_29 : parseMethodDescriptor "(Ljava/lang/String;JII[J)Z" = some ⟨[(.object "java/lang/String"), .long, .int, .int, (.array .long)], some .boolean⟩ := by decide +kernel
theorem pd_30 : parseMethodDescriptor "(I)I" = some ⟨[.int], some .int⟩ := by decide +kernel
theorem pd_31 : parseMethodDescriptor "(III)I" = some ⟨[.int, .int, .int], some .int⟩ := by decide +kernel
theorem pd_32 : parseMethodDescriptor "([BI)[B" = some ⟨[(.array .byte), .int], some (.array .byte)⟩ := by decide +kernel
theorem pd_33 : parseMethodDescriptor "()Ljava/lang/Object;" = some ⟨[], some (.object "java/lang/Object")⟩ := by decide +kernel
def own_min (p q : Int32) : Int32 := if q < p then q else p
def own_max (p q : Int32) : Int32 := if p < q then q else p
theorem own_newPE {p : Program} {l : Launch} {e : Env} {R : Room} {s : State} {m : MethodId} {args : Array Value} {below : List Frame} {meth : Method} {c : Code} {T : State} {locs : List Loc} {cells slots : Nat} {Z : State} {a0 : Array Value} {h : Heap}
    (X : Stand p l e R s m args below meth c T locs cells slots) (hx : p.tables.exec = Jvm.exec) (hZ : Z.Warmed39 s.vm) (w : (Jvm.Cond.arrayClass .byte).before a0 Z = true) (eT : T.heap = h) {g : JFrame} (hg : g.method = m) (hd : decode c.code g.pc = .ok (.newarray .byte, 2)) {n : Int32} {rest : List Value} (hs : g.stack = .int n :: rest)
    (hn : ¬ n < 0) {cap : Nat} (hcap : n.toNatClampNeg ≤ cap) (hb : cap * 8 ≤ 536870912) (hc : cells + 1 ≤ R.cells) (hl : slots + cap ≤ R.slots) :
    ∃ T' h' cA, Stand p l e R s m args below meth c T' locs (cells + 1) (slots + cap) ∧ T'.heap = h' ∧ Ext h h' ∧ Arr Z h' h.size (newA cA .byte n) .byte ∧ Exa Z h' h.size "[B" ∧
      ∀ target, Steps p.tables e below (T'.setTop { g with pc := g.pc + 2, stack := .ref h.size :: rest }) target → Steps p.tables e below (T.setTop g) target := by
  have hcb : componentBytes (newarray.typeOf .byte) ≤ 8 := by decide
  have w0 : (Jvm.Cond.arrayClass (newarray.typeOf .byte)).before a0 Z = true := w
  obtain ⟨cA, kA, comp, h1, h2, h3, X', st⟩ := X.newarrayPrim hx (mvA hZ w0) hg hd hs hn (Nat.le_trans (Nat.mul_le_mul hcap hcb) hb) hc (by omega)
  subst eT
  have f1 : Z.vm.findClass "[B" = some cA := by rw [hZ.alike.findClass] at h1; exact h1
  obtain ⟨kZ, z1, -⟩ := Vm.findClass_spec f1
  obtain ⟨k', z2, z3⟩ := hZ.alike.2.2 _ _ z1
  have z4 : k' = kA := Option.some.inj (z2.symm.trans h2)
  have z5 : kZ.kind = .array comp .byte := by
    have q := h3
    rw [← z4, z3] at q
    exact q
  refine ⟨_, _, cA, X'.more (Nat.le_refl _) (by omega), rfl, ⟨by show T.heap.size ≤ (T.heap.push _).size; simp, fun a c h => ?_⟩, ⟨by show (T.heap.push _)[T.heap.size]? = _; simp [newA, newarray.typeOf], ⟨by simp [newA], kZ, z1, comp, z5⟩, by simp [newA]⟩, ⟨newA cA .byte n, kZ, by show (T.heap.push _)[T.heap.size]? = _; simp [newA, newarray.typeOf], f1, z1, rfl, fun q => by rw [z5] at q; cases q⟩, st⟩
  show (T.heap.push _)[a]? = _
  rw [Array.getElem?_push_lt (Array.getElem?_eq_some_iff.mp h).1]; exact (Array.getElem?_eq_getElem _).symm.trans h
theorem own_shr0 (x : Int32) : x >>> ((0 : Int32) &&& 31) = x := by
  rw [show ((0 : Int32) &&& 31) = 0 from by decide]; simp
theorem own_shl0 (x : Int32) : x <<< ((0 : Int32) &&& 31) = x := by
  rw [show ((0 : Int32) &&& 31) = 0 from by decide]; simp
theorem own_toInt {n : Nat} (h : n ≤ 1000) : (Int32.ofNat n).toInt = n := by
  rw [Int32.toInt_ofNat_of_lt (by omega)]
theorem own_clamp {n : Nat} (h : n ≤ 1000) : (Int32.ofNat n).toNatClampNeg = n := by
  simp only [Int32.toNatClampNeg, own_toInt h]; omega
theorem own_nneg {n : Nat} (h : n ≤ 1000) : ¬ Int32.ofNat n < 0 := by
  rw [Int32.lt_iff_toInt_lt, own_toInt h]; simp only [Int32.reduceToInt]; omega
theorem own_lt {i n : Nat} (hi : i ≤ 1000) (hn : n ≤ 1000) : (Int32.ofNat i < Int32.ofNat n) ↔ i < n := by
  rw [Int32.lt_iff_toInt_lt, own_toInt hi, own_toInt hn]; omega
theorem own_inj {i n : Nat} (hi : i ≤ 1000) (hn : n ≤ 1000) (h : Int32.ofNat i = Int32.ofNat n) : i = n := by
  have q := congrArg Int32.toInt h; rw [own_toInt hi, own_toInt hn] at q; omega
theorem own_grow {m k : Nat} (hm : m ≤ 21) (hk : k = 16 ∨ k = 34) : (0 < Int32.ofNat m - Int32.ofNat k) ↔ (k = 16 ∧ 16 < m) := by
  have q : ∀ n : Fin 22, ((0 < Int32.ofNat n.val - Int32.ofNat 16) ↔ (16 < n.val)) ∧ ¬ (0 < Int32.ofNat n.val - Int32.ofNat 34) := by decide
  have r := q ⟨m, by omega⟩
  rcases hk with rfl | rfl
  · exact ⟨fun z => ⟨rfl, r.1.mp z⟩, fun z => r.1.mpr z.2⟩
  · exact ⟨fun z => absurd z r.2, fun z => absurd z.1 (by decide)⟩
theorem own_cap {m : Nat} (hm : m ≤ 21) (h : 16 < m) : (16 : Int32) + own_max (Int32.ofNat m - 16) 18 = 34 := by
  have q : ∀ n : Fin 22, 16 < n.val → (16 : Int32) + own_max (Int32.ofNat n.val - 16) 18 = 34 := by decide
  exact q ⟨m, by omega⟩ h
theorem own_cpL (ys xs : List Int32) (d n : Nat) (h : n ≤ xs.length) : (ys.map Value.int).take d ++ ((List.range n).map fun i => (xs.map Value.int).getD (0 + i) (.int (0 : Int32))) ++ (ys.map Value.int).drop (d + n) = (ys.take d ++ xs.take n ++ ys.drop (d + n)).map Value.int := by
  have q : ((List.range n).map fun i => (xs.map Value.int).getD (0 + i) (.int (0 : Int32))) = (xs.take n).map Value.int := by
    apply List.ext_getElem?
    intro i
    simp only [List.getElem?_map, List.getElem?_range, Nat.zero_add, List.getD_eq_getElem?_getD, List.getElem?_take]
    by_cases hi : i < n
    · have hx : i < xs.length := by omega
      simp [hi, hx, List.getElem?_range]
    · simp [hi, List.getElem?_range]
  rw [q]; simp
theorem own_cpB {p : Program} {l : Launch} {e : Env} {R : Room} {s : State} {m : MethodId} {args : Array Value} {below : List Frame} {meth : Method} {c : Code} {T : State} {locs : List Loc} {cells slots : Nat} {Z : State} {a0 : Array Value} {h : Heap}
    (X : Stand p l e R s m args below meth c T locs cells slots) (hx : p.tables.exec = Jvm.exec) (hZ : Z.Warmed39 s.vm) {own : String} {index : Nat} (hown : s.vm.findClass own = some m.cls)
    (w1 : (Jvm.Cond.methodLink own index Jvm.Stand.acN).before a0 Z = true) (w2 : (Jvm.Cond.native Jvm.Stand.acN).before a0 Z = true) (w3 : (Jvm.Cond.static Jvm.Stand.acN).before a0 Z = true) (w4 : (Jvm.Cond.initialized "java/lang/System").before a0 Z = true) (eT : T.heap = h)
    {a b : Addr} {k k' : ClassId} {xs ys zs : List Int32} (A : Arv Z h a k .byte (Int32.ofNat xs.length) (xs.map Value.int) (.int (0 : Int32))) (B : Arv Z h b k' .byte (Int32.ofNat ys.length) (ys.map Value.int) (.int (0 : Int32)))
    {sp dp nn : Int32} {d n : Nat} (e1 : sp = 0) (e2 : dp = Int32.ofNat d) (e3 : nn = Int32.ofNat n) (lx : xs.length ≤ 1000) (ly : ys.length ≤ 1000) (h4 : n ≤ xs.length) (h5 : d + n ≤ ys.length) (hz : zs = ys.take d ++ xs.take n ++ ys.drop (d + n)) {n0 : Nat} (N : Fr n0 locs) (ge : n0 ≤ b)
    {g : JFrame} (hg : g.method = m) (hsize : g.locals.size = c.maxLocals) {rest : List Value} (hs : g.stack = .int nn :: .int dp :: .ref b :: .int sp :: .ref a :: rest) (hd : decode c.code g.pc = .ok (.invokestatic index, 3))
    (hf : 1 ≤ R.frames) {W : Nat} (hW : 2 * g.monitorRoom + (rest.map fun v => v.category).sum ≤ W) (hlo : W + (nativeFrameWords "java/lang/System" "arraycopy" 5 + 11) ≤ R.locals) :
    ∃ T' h' L, Stand p l e R s m args below meth c T' L cells slots ∧ T'.heap = h' ∧ Fr n0 L ∧ Keep h h' [b] ∧ Arv Z h' b k' .byte (Int32.ofNat zs.length) (zs.map Value.int) (.int (0 : Int32)) ∧
      ∀ target, Steps p.tables e below (T'.setTop { g with pc := g.pc + 3, stack := rest }) target → Steps p.tables e below (T.setTop g) target := by
  subst e1 e2 e3
  have c0 : (0 : Int32).toNatClampNeg = 0 := by decide
  have c1 := own_clamp (n := d) (by omega)
  have c2 := own_clamp (n := n) (by omega)
  have c3 := own_clamp lx
  have c4 := own_clamp ly
  obtain ⟨T', h', L, X', e', N', K', V', st⟩ := cpA X hx hZ hown w1 w2 w3 w4 eT A B (Or.inl ⟨rfl, rfl⟩) (by decide) (own_nneg (n := d) (by omega)) (own_nneg (n := n) (by omega)) (by rw [c0, c2, c3]; omega) (by rw [c1, c2, c4]; omega) rfl (by rw [c1, c2, List.length_map]; exact h5) N ge hg hsize hs hd hf hW hlo
  refine ⟨T', h', L, X', e', N', K', ?_, st⟩
  rw [c0, c1, c2, own_cpL ys xs d n h4, ← hz] at V'
  have q : zs.length = ys.length := by rw [hz]; simp; omega
  rw [q]; exact V'
theorem own_extk {h0 h1 h2 : Heap} {b : Addr} (E : Ext h0 h1) (K : Keep h1 h2 [b]) (q : h0.size ≤ b) : Ext h0 h2 := by
  refine ⟨Nat.le_trans E.1 K.1, fun a c ha => K.2.1 a c (E.2 a c ha) fun z => ?_⟩
  have e := List.mem_singleton.mp z
  have := (Array.getElem?_eq_some_iff.mp ha).1
  subst e; omega
def own_SB (Z : State) (h : Heap) (b : Addr) (v1 v2 v3 : Value) : Prop := Exa Z h b "java/lang/StringBuilder" ∧ Fld Z h b "java/lang/AbstractStringBuilder" "value" "[B" v1 ∧ Fld Z h b "java/lang/AbstractStringBuilder" "coder" "B" v2 ∧ Fld Z h b "java/lang/AbstractStringBuilder" "count" "I" v3
theorem own_set_value {Z : State} {a0 : Array Value} (hw : ∀ d ∈ tables_1, d.before a0 Z = true) {h h' : Heap} {a : Addr} {v1 v2 v3 v : Value} (M : own_SB Z h a v1 v2 v3) (W : Wr h h' a (Jvm.RoadKit.slotOf Z "java/lang/AbstractStringBuilder" "value" "[B") v) : own_SB Z h' a v v2 v3 := by
  obtain ⟨E, F1, F2, F3⟩ := M
  exact ⟨E.wr W, F1.same W, F2.other W (Or.inr (slot_ne (Or.inl (hw _ (own_mg (i := 85) rfl))) (Or.inl (hw _ (own_mg (i := 83) rfl))) (by decide) (t := .byte) (t' := (.array .byte)) (by decide) (by decide))), F3.other W (Or.inr (slot_ne (Or.inl (hw _ (own_mg (i := 97) rfl))) (Or.inl (hw _ (own_mg (i := 83) rfl))) (by decide) (t := .int) (t' := (.array .byte)) (by decide) (by decide)))⟩
theorem own_set_coder {Z : State} {a0 : Array Value} (hw : ∀ d ∈ tables_1, d.before a0 Z = true) {h h' : Heap} {a : Addr} {v1 v2 v3 v : Value} (M : own_SB Z h a v1 v2 v3) (W : Wr h h' a (Jvm.RoadKit.slotOf Z "java/lang/AbstractStringBuilder" "coder" "B") v) : own_SB Z h' a v1 v v3 := by
  obtain ⟨E, F1, F2, F3⟩ := M
  exact ⟨E.wr W, F1.other W (Or.inr (slot_ne (Or.inl (hw _ (own_mg (i := 83) rfl))) (Or.inl (hw _ (own_mg (i := 85) rfl))) (by decide) (t := (.array .byte)) (t' := .byte) (by decide) (by decide))), F2.same W, F3.other W (Or.inr (slot_ne (Or.inl (hw _ (own_mg (i := 97) rfl))) (Or.inl (hw _ (own_mg (i := 85) rfl))) (by decide) (t := .int) (t' := .byte) (by decide) (by decide)))⟩
theorem own_set_count {Z : State} {a0 : Array Value} (hw : ∀ d ∈ tables_1, d.before a0 Z = true) {h h' : Heap} {a : Addr} {v1 v2 v3 v : Value} (M : own_SB Z h a v1 v2 v3) (W : Wr h h' a (Jvm.RoadKit.slotOf Z "java/lang/AbstractStringBuilder" "count" "I") v) : own_SB Z h' a v1 v2 v := by
  obtain ⟨E, F1, F2, F3⟩ := M
  exact ⟨E.wr W, F1.other W (Or.inr (slot_ne (Or.inl (hw _ (own_mg (i := 83) rfl))) (Or.inl (hw _ (own_mg (i := 97) rfl))) (by decide) (t := (.array .byte)) (t' := .int) (by decide) (by decide))), F2.other W (Or.inr (slot_ne (Or.inl (hw _ (own_mg (i := 85) rfl))) (Or.inl (hw _ (own_mg (i := 97) rfl))) (by decide) (t := .byte) (t' := .int) (by decide) (by decide))), F3.same W⟩
theorem own_SB.keep {Z : State} {h h' : Heap} {a : Addr} {v1 v2 v3 : Value} {ws : List Addr} (M : own_SB Z h a v1 v2 v3) (K : Keep h h' ws) (q : a ∉ ws) : own_SB Z h' a v1 v2 v3 := by
  obtain ⟨E, F1, F2, F3⟩ := M
  exact ⟨E.keep K, F1.keep K q, F2.keep K q, F3.keep K q⟩
theorem own_SB.ext {Z : State} {h h' : Heap} {a : Addr} {v1 v2 v3 : Value} (M : own_SB Z h a v1 v2 v3) (K : Ext h h') : own_SB Z h' a v1 v2 v3 := by
  obtain ⟨E, F1, F2, F3⟩ := M
  exact ⟨E.ext K, F1.ext K, F2.ext K, F3.ext K⟩
theorem ef_31 (m : MethodId) (x0 : Int32) (x1 : Int32) : entryFrame m #[(.int x0), (.int x1)] 2 = mkF m 0 #[.val (.int x0), .val (.int x1)] [] := by first | (simp [entryFrame, mkF, argsToLocals, Value.category]; done) | rfl
def Q_rm31 (Z : State) (p0 : Int32) (p1 : Int32) (h0 : Heap) (n0 : Nat) (v : Option Value) (h : Heap) (L : List Loc) : Prop := v = some (.int (own_min p0 p1)) ∧ Fr n0 L ∧ h = h0
theorem d31_0 : decode jdk_29_method_69_code 0 = .ok (.iload_n 0, 1) := by decide +kernel
theorem d31_1 : decode jdk_29_method_69_code 1 = .ok (.iload_n 1, 1) := by decide +kernel
theorem d31_2 : decode jdk_29_method_69_code 2 = .ok (.if_icmp .gt 7, 3) := by decide +kernel
theorem d31_5 : decode jdk_29_method_69_code 5 = .ok (.iload_n 0, 1) := by decide +kernel
theorem d31_6 : decode jdk_29_method_69_code 6 = .ok (.goto 4, 3) := by decide +kernel
theorem d31_9 : decode jdk_29_method_69_code 9 = .ok (.iload_n 1, 1) := by decide +kernel
theorem d31_10 : decode jdk_29_method_69_code 10 = .ok (.ireturn, 1) := by decide +kernel
set_option maxRecDepth 65536 in
set_option maxHeartbeats 40000000 in
theorem rm31 (l : Launch) (Z : State) (a0 : Array Value) (hw : ∀ d ∈ tables_1, d.before a0 Z = true) (ws : List Jvm.Cond) (p0 : Int32) (p1 : Int32) (h0 : Heap) (n0 : Nat)  :
    MetFree l (⟨"java/lang/Math", "min", "(II)I"⟩ : MethodName) (head1 (Jvm.Cond.code (⟨"java/lang/Math", "min", "(II)I"⟩ : MethodName) jdk_29_method_69_code 2 (some .int) :: ws) ({ frames := 0, cells := 0, slots := 0, locals := 0 } : Room)) (fun a U => a = #[(.int p0), (.int p1)] ∧ Z.Warmed39 U.vm ∧ U.heap = h0) (fun _ _ _ _ _ => True) (fun _ U o U' => ∃ v L, o = .returned v ∧ Q_rm31 Z p0 p1 h0 n0 v U'.heap L ∧ FrameEnd U o U' L ({ frames := 0, cells := 0, slots := 0, locals := 0 } : Room).cells ({ frames := 0, cells := 0, slots := 0, locals := 0 } : Room).slots) := by
  refine MetFree.of_bodySF (Jvm.Free.JP.mathPlain rfl (by decide +kernel)) hisR ?_
  intro p e s m args below meth c s₁ Bd hml0 hP hK
  obtain ⟨rfl, hZ, hh⟩ := hP
  have hx := Bd.exec
  have hby := Bd.bytes
  have hml : c.maxLocals = 2 := hml0
  have hown : s.vm.findClass "java/lang/Math" = some m.cls := findClass_of_methodNamed Bd.named
  have hnm := (name_of_methodNamed Bd.named Bd.method).1
  have X0 : Stand p l e ({ frames := 0, cells := 0, slots := 0, locals := 0 } : Room) s m #[(.int p0), (.int p1)] below meth c s₁ [] 0 0 := Stand.of_body Bd
  have e0 : s₁.heap = h0 := by rw [← hh, Bd.state]; rfl
  have N0 := Fr.nil n0
  refine Onw.of (Onw.go (fun _ k => castTop (ef_31 m p0 p1) k) ?_)
  show Onw p e below _ (s₁.setTop (mkF m 0 #[.val (.int p0), .val (.int p1)] []))
  refine Onw.go (fun _ kt => XS.iloadN X0.here hx rfl (hb hby d31_0) rfl kt) ?_
  show Onw p e below _ (s₁.setTop (mkF m 1 #[.val (.int p0), .val (.int p1)] [(.int p0)]))
  refine Onw.go (fun _ kt => XS.iloadN X0.here hx rfl (hb hby d31_1) rfl kt) ?_
  show Onw p e below _ (s₁.setTop (mkF m 2 #[.val (.int p0), .val (.int p1)] [(.int p1), (.int p0)]))
  by_cases h1 : p1 < p0
  · refine Onw.go (fun _ kt => XS.icmpYes X0.here hx rfl (pc0 := 2) (pc' := 9) rfl (hb hby d31_2) rfl (tlt (h1 : p1 < p0)).2.2.1 (by decide) (by decide) kt) ?_
    show Onw p e below _ (s₁.setTop (mkF m 9 #[.val (.int p0), .val (.int p1)] []))
    refine Onw.go (fun _ kt => XS.iloadN X0.here hx rfl (hb hby d31_9) rfl kt) ?_
    show Onw p e below _ (s₁.setTop (mkF m 10 #[.val (.int p0), .val (.int p1)] [(.int p1)]))
    exact Onw.ret X0 Bd.notSynchronized (fun h => by rw [Bd.returns] at h; cases h) (fun fs hr => retI X0 hx Bd.returns (hb hby d31_10) hr) ⟨(by show some (Value.int p1) = _; unfold own_min; rw [if_pos h1]), N0, e0⟩ (by decide) (by decide)
  · refine Onw.go (fun _ kt => XS.icmpNo X0.here hx rfl (hb hby d31_2) rfl (flt (h1 : ¬ (p1 < p0))).2.2.1 kt) ?_
    show Onw p e below _ (s₁.setTop (mkF m 5 #[.val (.int p0), .val (.int p1)] []))
    refine Onw.go (fun _ kt => XS.iloadN X0.here hx rfl (hb hby d31_5) rfl kt) ?_
    show Onw p e below _ (s₁.setTop (mkF m 6 #[.val (.int p0), .val (.int p1)] [(.int p0)]))
    refine Onw.go (fun _ kt => XS.goto X0.here hx rfl (pc0 := 6) (pc' := 10) rfl (hb hby d31_6) (by decide) (by decide) kt) ?_
    show Onw p e below _ (s₁.setTop (mkF m 10 #[.val (.int p0), .val (.int p1)] [(.int p0)]))
    exact Onw.ret X0 Bd.notSynchronized (fun h => by rw [Bd.returns] at h; cases h) (fun fs hr => retI X0 hx Bd.returns (hb hby d31_10) hr) ⟨(by show some (Value.int p0) = _; unfold own_min; rw [if_neg h1]), N0, e0⟩ (by decide) (by decide)
theorem ef_41 (m : MethodId) (x0 : Int32) (x1 : Int32) : entryFrame m #[(.int x0), (.int x1)] 2 = mkF m 0 #[.val (.int x0), .val (.int x1)] [] := by first | (simp [entryFrame, mkF, argsToLocals, Value.category]; done) | rfl
def Q_rm41 (Z : State) (p0 : Int32) (p1 : Int32) (h0 : Heap) (n0 : Nat) (v : Option Value) (h : Heap) (L : List Loc) : Prop := v = some (.int (own_max p0 p1)) ∧ Fr n0 L ∧ h = h0
theorem d41_0 : decode jdk_29_method_65_code 0 = .ok (.iload_n 0, 1) := by decide +kernel
theorem d41_1 : decode jdk_29_method_65_code 1 = .ok (.iload_n 1, 1) := by decide +kernel
theorem d41_2 : decode jdk_29_method_65_code 2 = .ok (.if_icmp .lt 7, 3) := by decide +kernel
theorem d41_5 : decode jdk_29_method_65_code 5 = .ok (.iload_n 0, 1) := by decide +kernel
theorem d41_6 : decode jdk_29_method_65_code 6 = .ok (.goto 4, 3) := by decide +kernel
theorem d41_9 : decode jdk_29_method_65_code 9 = .ok (.iload_n 1, 1) := by decide +kernel
theorem d41_10 : decode jdk_29_method_65_code 10 = .ok (.ireturn, 1) := by decide +kernel
set_option maxRecDepth 65536 in
set_option maxHeartbeats 40000000 in
theorem rm41 (l : Launch) (Z : State) (a0 : Array Value) (hw : ∀ d ∈ tables_1, d.before a0 Z = true) (ws : List Jvm.Cond) (p0 : Int32) (p1 : Int32) (h0 : Heap) (n0 : Nat)  :
    MetFree l (⟨"java/lang/Math", "max", "(II)I"⟩ : MethodName) (head1 (Jvm.Cond.code (⟨"java/lang/Math", "max", "(II)I"⟩ : MethodName) jdk_29_method_65_code 2 (some .int) :: ws) ({ frames := 0, cells := 0, slots := 0, locals := 0 } : Room)) (fun a U => a = #[(.int p0), (.int p1)] ∧ Z.Warmed39 U.vm ∧ U.heap = h0) (fun _ _ _ _ _ => True) (fun _ U o U' => ∃ v L, o = .returned v ∧ Q_rm41 Z p0 p1 h0 n0 v U'.heap L ∧ FrameEnd U o U' L ({ frames := 0, cells := 0, slots := 0, locals := 0 } : Room).cells ({ frames := 0, cells := 0, slots := 0, locals := 0 } : Room).slots) := by
  refine MetFree.of_bodySF (Jvm.Free.JP.mathPlain rfl (by decide +kernel)) hisR ?_
  intro p e s m args below meth c s₁ Bd hml0 hP hK
  obtain ⟨rfl, hZ, hh⟩ := hP
  have hx := Bd.exec
  have hby := Bd.bytes
  have hml : c.maxLocals = 2 := hml0
  have hown : s.vm.findClass "java/lang/Math" = some m.cls := findClass_of_methodNamed Bd.named
  have hnm := (name_of_methodNamed Bd.named Bd.method).1
  have X0 : Stand p l e ({ frames := 0, cells := 0, slots := 0, locals := 0 } : Room) s m #[(.int p0), (.int p1)] below meth c s₁ [] 0 0 := Stand.of_body Bd
  have e0 : s₁.heap = h0 := by rw [← hh, Bd.state]; rfl
  have N0 := Fr.nil n0
  refine Onw.of (Onw.go (fun _ k => castTop (ef_41 m p0 p1) k) ?_)
  show Onw p e below _ (s₁.setTop (mkF m 0 #[.val (.int p0), .val (.int p1)] []))
  refine Onw.go (fun _ kt => XS.iloadN X0.here hx rfl (hb hby d41_0) rfl kt) ?_
  show Onw p e below _ (s₁.setTop (mkF m 1 #[.val (.int p0), .val (.int p1)] [(.int p0)]))
  refine Onw.go (fun _ kt => XS.iloadN X0.here hx rfl (hb hby d41_1) rfl kt) ?_
  show Onw p e below _ (s₁.setTop (mkF m 2 #[.val (.int p0), .val (.int p1)] [(.int p1), (.int p0)]))
  by_cases h1 : p0 < p1
  · refine Onw.go (fun _ kt => XS.icmpYes X0.here hx rfl (pc0 := 2) (pc' := 9) rfl (hb hby d41_2) rfl (tlt (h1 : p0 < p1)).1 (by decide) (by decide) kt) ?_
    show Onw p e below _ (s₁.setTop (mkF m 9 #[.val (.int p0), .val (.int p1)] []))
    refine Onw.go (fun _ kt => XS.iloadN X0.here hx rfl (hb hby d41_9) rfl kt) ?_
    show Onw p e below _ (s₁.setTop (mkF m 10 #[.val (.int p0), .val (.int p1)] [(.int p1)]))
    exact Onw.ret X0 Bd.notSynchronized (fun h => by rw [Bd.returns] at h; cases h) (fun fs hr => retI X0 hx Bd.returns (hb hby d41_10) hr) ⟨(by show some (Value.int p1) = _; unfold own_max; rw [if_pos h1]), N0, e0⟩ (by decide) (by decide)
  · refine Onw.go (fun _ kt => XS.icmpNo X0.here hx rfl (hb hby d41_2) rfl (flt (h1 : ¬ (p0 < p1))).1 kt) ?_
    show Onw p e below _ (s₁.setTop (mkF m 5 #[.val (.int p0), .val (.int p1)] []))
    refine Onw.go (fun _ kt => XS.iloadN X0.here hx rfl (hb hby d41_5) rfl kt) ?_
    show Onw p e below _ (s₁.setTop (mkF m 6 #[.val (.int p0), .val (.int p1)] [(.int p0)]))
    refine Onw.go (fun _ kt => XS.goto X0.here hx rfl (pc0 := 6) (pc' := 10) rfl (hb hby d41_6) (by decide) (by decide) kt) ?_
    show Onw p e below _ (s₁.setTop (mkF m 10 #[.val (.int p0), .val (.int p1)] [(.int p0)]))
    exact Onw.ret X0 Bd.notSynchronized (fun h => by rw [Bd.returns] at h; cases h) (fun fs hr => retI X0 hx Bd.returns (hb hby d41_10) hr) ⟨(by show some (Value.int p0) = _; unfold own_max; rw [if_neg h1]), N0, e0⟩ (by decide) (by decide)
theorem pn_0 : plainName "java/lang/Record" = true := by first | (simp [plainName, overriddenIn]; done) | decide +kernel
theorem ef_2 (m : MethodId) (x0 : Addr) : entryFrame m #[(.ref x0)] 1 = mkF m 0 #[.val (.ref x0)] [] := by first | (simp [entryFrame, mkF, argsToLocals, Value.category]; done) | rfl
def Q_rm2 (Z : State) (r0 : Addr) (h0 : Heap) (n0 : Nat) (v : Option Value) (h : Heap) (L : List Loc) : Prop := v = none ∧ Fr n0 L ∧ h = h0
theorem d2_0 : decode jdk_30_method_1_code 0 = .ok (.aload_n 0, 1) := by decide +kernel
theorem d2_1 : decode jdk_30_method_1_code 1 = .ok (.invokespecial 1, 3) := by decide +kernel
theorem d2_4 : decode jdk_30_method_1_code 4 = .ok (.return_, 1) := by decide +kernel
set_option maxRecDepth 65536 in
set_option maxHeartbeats 40000000 in
theorem rm2 (l : Launch) (Z : State) (a0 : Array Value) (hw : ∀ d ∈ tables_1, d.before a0 Z = true) (ws : List Jvm.Cond) (r0 : Addr) (h0 : Heap) (n0 : Nat)  :
    MetFree l (⟨"java/lang/Record", "<init>", "()V"⟩ : MethodName) (head1 (Jvm.Cond.code (⟨"java/lang/Record", "<init>", "()V"⟩ : MethodName) jdk_30_method_1_code 1 none :: ws) ({ frames := 1, cells := 0, slots := 0, locals := 12 } : Room)) (fun a U => a = #[(.ref r0)] ∧ Z.Warmed39 U.vm ∧ U.heap = h0) (fun _ _ _ _ _ => True) (fun _ U o U' => ∃ v L, o = .returned v ∧ Q_rm2 Z r0 h0 n0 v U'.heap L ∧ FrameEnd U o U' L ({ frames := 1, cells := 0, slots := 0, locals := 12 } : Room).cells ({ frames := 1, cells := 0, slots := 0, locals := 12 } : Room).slots) := by
  refine MetFree.of_bodySF (plainFor_of_name pn_0) hisR ?_
  intro p e s m args below meth c s₁ Bd hml0 hP hK
  obtain ⟨rfl, hZ, hh⟩ := hP
  have hx := Bd.exec
  have hby := Bd.bytes
  have hml : c.maxLocals = 1 := hml0
  have hown : s.vm.findClass "java/lang/Record" = some m.cls := findClass_of_methodNamed Bd.named
  have hnm := (name_of_methodNamed Bd.named Bd.method).1
  have X0 : Stand p l e ({ frames := 1, cells := 0, slots := 0, locals := 12 } : Room) s m #[(.ref r0)] below meth c s₁ [] 0 0 := Stand.of_body Bd
  have e0 : s₁.heap = h0 := by rw [← hh, Bd.state]; rfl
  have N0 := Fr.nil n0
  refine Onw.of (Onw.go (fun _ k => castTop (ef_2 m r0) k) ?_)
  show Onw p e below _ (s₁.setTop (mkF m 0 #[.val (.ref r0)] []))
  refine Onw.go (fun _ kt => XS.aloadN X0.here hx rfl (hb hby d2_0) rfl rfl kt) ?_
  show Onw p e below _ (s₁.setTop (mkF m 1 #[.val (.ref r0)] [(.ref r0)]))
  obtain ⟨T1, X1, e1, st1⟩ := initO X0 hx hZ hown (hw _ (own_mg (i := 36) rfl)) (hw _ (own_mg (i := 37) rfl)) (hw _ (own_mg (i := 38) rfl)) e0 (g := (mkF m 1 #[.val (.ref r0)] [(.ref r0)])) rfl (by rw [hml]; rfl) rfl (hb hby d2_1) (by decide) (W := 0) (by show 2 * 0 + _ ≤ _; exact Nat.le_of_eq rfl) (by decide)
  refine Onw.go st1 ?_
  show Onw p e below _ (T1.setTop (mkF m 4 #[.val (.ref r0)] []))
  exact Onw.ret X1 Bd.notSynchronized (fun _ => rfl) (fun fs hr => X1.returnOut hx Bd.returns (hb hby d2_4) hr) ⟨rfl, N0, e1⟩ (by decide) (by decide)
theorem pn_1 : plainName "java/util/Objects" = true := by first | (simp [plainName, overriddenIn]; done) | decide +kernel
theorem ef_4 (m : MethodId) (x0 : Addr) (x1 : Addr) : entryFrame m #[(.ref x0), (.ref x1)] 2 = mkF m 0 #[.val (.ref x0), .val (.ref x1)] [] := by first | (simp [entryFrame, mkF, argsToLocals, Value.category]; done) | rfl
def Q_rm4 (Z : State) (r0 : Addr) (r1 : Addr) (h0 : Heap) (n0 : Nat) (v : Option Value) (h : Heap) (L : List Loc) : Prop := v = some (.ref r0) ∧ Fr n0 L ∧ h = h0
theorem d4_0 : decode jdk_31_method_11_code 0 = .ok (.aload_n 0, 1) := by decide +kernel
theorem d4_1 : decode jdk_31_method_11_code 1 = .ok (.ifnonnull 12, 3) := by decide +kernel
theorem d4_13 : decode jdk_31_method_11_code 13 = .ok (.aload_n 0, 1) := by decide +kernel
theorem d4_14 : decode jdk_31_method_11_code 14 = .ok (.areturn, 1) := by decide +kernel
set_option maxRecDepth 65536 in
set_option maxHeartbeats 40000000 in
theorem rm4 (l : Launch) (Z : State) (a0 : Array Value) (hw : ∀ d ∈ tables_1, d.before a0 Z = true) (ws : List Jvm.Cond) (r0 : Addr) (r1 : Addr) (h0 : Heap) (n0 : Nat)  :
    MetFree l (⟨"java/util/Objects", "requireNonNull", "(Ljava/lang/Object;Ljava/lang/String;)Ljava/lang/Object;"⟩ : MethodName) (head1 (Jvm.Cond.code (⟨"java/util/Objects", "requireNonNull", "(Ljava/lang/Object;Ljava/lang/String;)Ljava/lang/Object;"⟩ : MethodName) jdk_31_method_11_code 2 (some (.object "java/lang/Object")) :: ws) ({ frames := 0, cells := 0, slots := 0, locals := 0 } : Room)) (fun a U => a = #[(.ref r0), (.ref r1)] ∧ Z.Warmed39 U.vm ∧ U.heap = h0) (fun _ _ _ _ _ => True) (fun _ U o U' => ∃ v L, o = .returned v ∧ Q_rm4 Z r0 r1 h0 n0 v U'.heap L ∧ FrameEnd U o U' L ({ frames := 0, cells := 0, slots := 0, locals := 0 } : Room).cells ({ frames := 0, cells := 0, slots := 0, locals := 0 } : Room).slots) := by
  refine MetFree.of_bodySF (plainFor_of_name pn_1) hisR ?_
  intro p e s m args below meth c s₁ Bd hml0 hP hK
  obtain ⟨rfl, hZ, hh⟩ := hP
  have hx := Bd.exec
  have hby := Bd.bytes
  have hml : c.maxLocals = 2 := hml0
  have hown : s.vm.findClass "java/util/Objects" = some m.cls := findClass_of_methodNamed Bd.named
  have hnm := (name_of_methodNamed Bd.named Bd.method).1
  have X0 : Stand p l e ({ frames := 0, cells := 0, slots := 0, locals := 0 } : Room) s m #[(.ref r0), (.ref r1)] below meth c s₁ [] 0 0 := Stand.of_body Bd
  have e0 : s₁.heap = h0 := by rw [← hh, Bd.state]; rfl
  have N0 := Fr.nil n0
  refine Onw.of (Onw.go (fun _ k => castTop (ef_4 m r0 r1) k) ?_)
  show Onw p e below _ (s₁.setTop (mkF m 0 #[.val (.ref r0), .val (.ref r1)] []))
  refine Onw.go (fun _ kt => XS.aloadN X0.here hx rfl (hb hby d4_0) rfl rfl kt) ?_
  show Onw p e below _ (s₁.setTop (mkF m 1 #[.val (.ref r0), .val (.ref r1)] [(.ref r0)]))
  refine Onw.go (fun _ kt => XS.ifnonnullYes X0.here hx rfl (pc0 := 1) (pc' := 13) rfl (hb hby d4_1) rfl (by decide) (by decide) kt) ?_
  show Onw p e below _ (s₁.setTop (mkF m 13 #[.val (.ref r0), .val (.ref r1)] []))
  refine Onw.go (fun _ kt => XS.aloadN X0.here hx rfl (hb hby d4_13) rfl rfl kt) ?_
  show Onw p e below _ (s₁.setTop (mkF m 14 #[.val (.ref r0), .val (.ref r1)] [(.ref r0)]))
  exact Onw.ret X0 Bd.notSynchronized (fun h => by rw [Bd.returns] at h; cases h) (fun fs hr => X0.areturnOut hx rfl Bd.returns rfl (hb hby d4_14) hr) ⟨rfl, N0, e0⟩ (by decide) (by decide)
theorem pn_2 : plainName "com/example/vigil_cache/vigilcache/HotKeyRule" = true := by first | (simp [plainName, overriddenIn]; done) | decide +kernel
theorem ef_5 (m : MethodId) (x0 : Int64) (x1 : Addr) : entryFrame m #[(.long x0), (.ref x1)] 3 = mkF m 0 #[.val (.long x0), .second, .val (.ref x1)] [] := by first | (simp [entryFrame, mkF, argsToLocals, Value.category]; done) | rfl
def Q_rm5 (Z : State) (q0 : Int64) (r1 : Addr) (ml : Int64) (h0 : Heap) (n0 : Nat) (v : Option Value) (h : Heap) (L : List Loc) : Prop := v = none ∧ Fr n0 L ∧ h = h0
theorem d5_0 : decode prog_23_method_11_code 0 = .ok (.lload_n 0, 1) := by decide +kernel
theorem d5_1 : decode prog_23_method_11_code 1 = .ok (.lconst 1, 1) := by decide +kernel
theorem d5_2 : decode prog_23_method_11_code 2 = .ok (.lcmp, 1) := by decide +kernel
theorem d5_3 : decode prog_23_method_11_code 3 = .ok (.ifCond .ge 30, 3) := by decide +kernel
theorem d5_33 : decode prog_23_method_11_code 33 = .ok (.lload_n 0, 1) := by decide +kernel
theorem d5_34 : decode prog_23_method_11_code 34 = .ok (.ldc2_w 182, 3) := by decide +kernel
theorem d5_37 : decode prog_23_method_11_code 37 = .ok (.aload_n 2, 1) := by decide +kernel
theorem d5_38 : decode prog_23_method_11_code 38 = .ok (.getfield 143, 3) := by decide +kernel
theorem d5_41 : decode prog_23_method_11_code 41 = .ok (.ldiv, 1) := by decide +kernel
theorem d5_42 : decode prog_23_method_11_code 42 = .ok (.lcmp, 1) := by decide +kernel
theorem d5_43 : decode prog_23_method_11_code 43 = .ok (.ifCond .le 13, 3) := by decide +kernel
theorem d5_56 : decode prog_23_method_11_code 56 = .ok (.return_, 1) := by decide +kernel
set_option maxRecDepth 65536 in
set_option maxHeartbeats 40000000 in
theorem rm5 (l : Launch) (Z : State) (a0 : Array Value) (hw : ∀ d ∈ tables_1, d.before a0 Z = true) (ws : List Jvm.Cond) (q0 : Int64) (r1 : Addr) (ml : Int64) (h0 : Heap) (n0 : Nat) (F0 : Fld Z h0 r1 "com/example/vigil_cache/vigilcache/HotKeyRule$WindowUnit" "millis" "J" (.long ml)) (h1 : ¬ (lcmpW q0 (1 : Int64) < 0)) (h2 : ml ≠ 0) (h3 : ¬ (0 < lcmpW q0 ((9223372036854775807 : Int64) / ml))) :
    MetFree l (⟨"com/example/vigil_cache/vigilcache/HotKeyRule", "checkWindow", "(JLcom/example/vigil_cache/vigilcache/HotKeyRule$WindowUnit;)V"⟩ : MethodName) (head1 (Jvm.Cond.code (⟨"com/example/vigil_cache/vigilcache/HotKeyRule", "checkWindow", "(JLcom/example/vigil_cache/vigilcache/HotKeyRule$WindowUnit;)V"⟩ : MethodName) prog_23_method_11_code 3 none :: ws) ({ frames := 0, cells := 0, slots := 0, locals := 0 } : Room)) (fun a U => a = #[(.long q0), (.ref r1)] ∧ Z.Warmed39 U.vm ∧ U.heap = h0) (fun _ _ _ _ _ => True) (fun _ U o U' => ∃ v L, o = .returned v ∧ Q_rm5 Z q0 r1 ml h0 n0 v U'.heap L ∧ FrameEnd U o U' L ({ frames := 0, cells := 0, slots := 0, locals := 0 } : Room).cells ({ frames := 0, cells := 0, slots := 0, locals := 0 } : Room).slots) := by
  refine MetFree.of_bodySF (plainFor_of_name pn_2) hisR ?_
  intro p e s m args below meth c s₁ Bd hml0 hP hK
  obtain ⟨rfl, hZ, hh⟩ := hP
  have hx := Bd.exec
  have hby := Bd.bytes
  have hml : c.maxLocals = 3 := hml0
  have hown : s.vm.findClass "com/example/vigil_cache/vigilcache/HotKeyRule" = some m.cls := findClass_of_methodNamed Bd.named
  have hnm := (name_of_methodNamed Bd.named Bd.method).1
  have X0 : Stand p l e ({ frames := 0, cells := 0, slots := 0, locals := 0 } : Room) s m #[(.long q0), (.ref r1)] below meth c s₁ [] 0 0 := Stand.of_body Bd
  have e0 : s₁.heap = h0 := by rw [← hh, Bd.state]; rfl
  have N0 := Fr.nil n0
  refine Onw.of (Onw.go (fun _ k => castTop (ef_5 m q0 r1) k) ?_)
  show Onw p e below _ (s₁.setTop (mkF m 0 #[.val (.long q0), .second, .val (.ref r1)] []))
  refine Onw.go (fun _ kt => XS.lloadN X0.here hx rfl (hb hby d5_0) rfl kt) ?_
  show Onw p e below _ (s₁.setTop (mkF m 1 #[.val (.long q0), .second, .val (.ref r1)] [(.long q0)]))
  refine Onw.go (fun _ kt => XS.lconst X0.here hx rfl (hb hby d5_1) kt) ?_
  show Onw p e below _ (s₁.setTop (mkF m 2 #[.val (.long q0), .second, .val (.ref r1)] [(.long (1 : Int64)), (.long q0)]))
  refine Onw.go (fun _ kt => XS.lcmp X0.here hx rfl (hb hby d5_2) rfl kt) ?_
  show Onw p e below _ (s₁.setTop (mkF m 3 #[.val (.long q0), .second, .val (.ref r1)] [(.int (lcmpW q0 (1 : Int64)))]))
  refine Onw.go (fun _ kt => XS.ifYes X0.here hx rfl (pc0 := 3) (pc' := 33) rfl (hb hby d5_3) rfl ((if0 _ _).trans (flt (h1 : ¬ ((lcmpW q0 (1 : Int64)) < (0 : Int32)))).2.1) (by decide) (by decide) kt) ?_
  show Onw p e below _ (s₁.setTop (mkF m 33 #[.val (.long q0), .second, .val (.ref r1)] []))
  refine Onw.go (fun _ kt => XS.lloadN X0.here hx rfl (hb hby d5_33) rfl kt) ?_
  show Onw p e below _ (s₁.setTop (mkF m 34 #[.val (.long q0), .second, .val (.ref r1)] [(.long q0)]))
  refine Onw.go (X0.ldc2Long hx hown (mvT hZ (hw _ (own_mg (i := 54) rfl))) (g := (mkF m 34 #[.val (.long q0), .second, .val (.ref r1)] [(.long q0)])) rfl (hb hby d5_34)) ?_
  show Onw p e below _ (s₁.setTop (mkF m 37 #[.val (.long q0), .second, .val (.ref r1)] [(.long (9223372036854775807 : Int64)), (.long q0)]))
  refine Onw.go (fun _ kt => XS.aloadN X0.here hx rfl (hb hby d5_37) rfl rfl kt) ?_
  show Onw p e below _ (s₁.setTop (mkF m 38 #[.val (.long q0), .second, .val (.ref r1)] [(.ref r1), (.long (9223372036854775807 : Int64)), (.long q0)]))
  refine Onw.go (own_getR X0 hx hZ hown (hw _ (own_mg (i := 55) rfl)) e0 F0 (g := (mkF m 38 #[.val (.long q0), .second, .val (.ref r1)] [(.ref r1), (.long (9223372036854775807 : Int64)), (.long q0)])) rfl rfl (hb hby d5_38)) ?_
  show Onw p e below _ (s₁.setTop (mkF m 41 #[.val (.long q0), .second, .val (.ref r1)] [(.long ml), (.long (9223372036854775807 : Int64)), (.long q0)]))
  refine Onw.go (fun _ kt => XS.ldiv X0.here hx rfl (hb hby d5_41) rfl h2 kt) ?_
  show Onw p e below _ (s₁.setTop (mkF m 42 #[.val (.long q0), .second, .val (.ref r1)] [(.long ((9223372036854775807 : Int64) / ml)), (.long q0)]))
  refine Onw.go (fun _ kt => XS.lcmp X0.here hx rfl (hb hby d5_42) rfl kt) ?_
  show Onw p e below _ (s₁.setTop (mkF m 43 #[.val (.long q0), .second, .val (.ref r1)] [(.int (lcmpW q0 ((9223372036854775807 : Int64) / ml)))]))
  refine Onw.go (fun _ kt => XS.ifYes X0.here hx rfl (pc0 := 43) (pc' := 56) rfl (hb hby d5_43) rfl ((if0 _ _).trans (flt (h3 : ¬ ((0 : Int32) < (lcmpW q0 ((9223372036854775807 : Int64) / ml))))).2.2.2) (by decide) (by decide) kt) ?_
  show Onw p e below _ (s₁.setTop (mkF m 56 #[.val (.long q0), .second, .val (.ref r1)] []))
  exact Onw.ret X0 Bd.notSynchronized (fun _ => rfl) (fun fs hr => X0.returnOut hx Bd.returns (hb hby d5_56) hr) ⟨rfl, N0, e0⟩ (by decide) (by decide)
theorem pn_3 : plainName "java/lang/AbstractStringBuilder" = true := by first | (simp [plainName, overriddenIn]; done) | decide +kernel
theorem ef_8 (m : MethodId) (x0 : Addr) (x1 : Int32) : entryFrame m #[(.ref x0), (.int x1)] 2 = mkF m 0 #[.val (.ref x0), .val (.int x1)] [] := by first | (simp [entryFrame, mkF, argsToLocals, Value.category]; done) | rfl
def Q_rm8 (Z : State) (r0 : Addr) (p1 : Int32) (zc : Int32) (h0 : Heap) (n0 : Nat) (v : Option Value) (h : Heap) (L : List Loc) : Prop := v = none ∧ Fr n0 L ∧ Keep h0 h [r0] ∧ ∃ (v1 : Addr) (k1 : ClassId), n0 ≤ v1 ∧ h0.size ≤ v1 ∧ own_SB Z h r0 (.ref v1) (.int (0 : Int32)) (.int (0 : Int32)) ∧ Arv Z h v1 k1 .byte (Int32.ofNat (List.replicate 16 (0 : Int32)).length) ((List.replicate 16 (0 : Int32)).map Value.int) (.int (0 : Int32)) ∧ Exa Z h v1 "[B"
theorem d8_0 : decode jdk_68_method_2_code 0 = .ok (.aload_n 0, 1) := by decide +kernel
theorem d8_1 : decode jdk_68_method_2_code 1 = .ok (.invokespecial 3, 3) := by decide +kernel
theorem d8_4 : decode jdk_68_method_2_code 4 = .ok (.getstatic 18, 3) := by decide +kernel
theorem d8_7 : decode jdk_68_method_2_code 7 = .ok (.ifCond .eq 18, 3) := by decide +kernel
theorem d8_10 : decode jdk_68_method_2_code 10 = .ok (.aload_n 0, 1) := by decide +kernel
theorem d8_11 : decode jdk_68_method_2_code 11 = .ok (.iload_n 1, 1) := by decide +kernel
theorem d8_12 : decode jdk_68_method_2_code 12 = .ok (.newarray .byte, 2) := by decide +kernel
theorem d8_14 : decode jdk_68_method_2_code 14 = .ok (.putfield 15, 3) := by decide +kernel
theorem d8_17 : decode jdk_68_method_2_code 17 = .ok (.aload_n 0, 1) := by decide +kernel
theorem d8_18 : decode jdk_68_method_2_code 18 = .ok (.iconst 0, 1) := by decide +kernel
theorem d8_19 : decode jdk_68_method_2_code 19 = .ok (.putfield 22, 3) := by decide +kernel
theorem d8_22 : decode jdk_68_method_2_code 22 = .ok (.goto 16, 3) := by decide +kernel
theorem d8_38 : decode jdk_68_method_2_code 38 = .ok (.return_, 1) := by decide +kernel
set_option maxRecDepth 65536 in
set_option maxHeartbeats 40000000 in
theorem rm8 (l : Launch) (Z : State) (a0 : Array Value) (hw : ∀ d ∈ tables_1, d.before a0 Z = true) (ws : List Jvm.Cond) (r0 : Addr) (p1 : Int32) (zc : Int32) (h0 : Heap) (n0 : Nat) (M0 : own_SB Z h0 r0 .null (.int (0 : Int32)) (.int (0 : Int32))) (S_C : Sta Z h0 "java/lang/String" "COMPACT_STRINGS" "Z" (.int zc)) (hz : ¬ zc = 0) (h1 : p1 = 16) (g_r0 : n0 ≤ r0) (Z0 : n0 ≤ h0.size) :
    MetFree l (⟨"java/lang/AbstractStringBuilder", "<init>", "(I)V"⟩ : MethodName) (head1 (Jvm.Cond.code (⟨"java/lang/AbstractStringBuilder", "<init>", "(I)V"⟩ : MethodName) jdk_68_method_2_code 2 none :: ws) ({ frames := 1, cells := 1, slots := 16, locals := 12 } : Room)) (fun a U => a = #[(.ref r0), (.int p1)] ∧ Z.Warmed39 U.vm ∧ U.heap = h0) (fun _ _ _ _ _ => True) (fun _ U o U' => ∃ v L, o = .returned v ∧ Q_rm8 Z r0 p1 zc h0 n0 v U'.heap L ∧ FrameEnd U o U' L ({ frames := 1, cells := 1, slots := 16, locals := 12 } : Room).cells ({ frames := 1, cells := 1, slots := 16, locals := 12 } : Room).slots) := by
  refine MetFree.of_bodySF (plainFor_of_name pn_3) hisR ?_
  intro p e s m args below meth c s₁ Bd hml0 hP hK
  obtain ⟨rfl, hZ, hh⟩ := hP
  have hx := Bd.exec
  have hby := Bd.bytes
  have hml : c.maxLocals = 2 := hml0
  have hown : s.vm.findClass "java/lang/AbstractStringBuilder" = some m.cls := findClass_of_methodNamed Bd.named
  have hnm := (name_of_methodNamed Bd.named Bd.method).1
  have X0 : Stand p l e ({ frames := 1, cells := 1, slots := 16, locals := 12 } : Room) s m #[(.ref r0), (.int p1)] below meth c s₁ [] 0 0 := Stand.of_body Bd
  have e0 : s₁.heap = h0 := by rw [← hh, Bd.state]; rfl
  have N0 := Fr.nil n0
  refine Onw.of (Onw.go (fun _ k => castTop (ef_8 m r0 p1) k) ?_)
  show Onw p e below _ (s₁.setTop (mkF m 0 #[.val (.ref r0), .val (.int p1)] []))
  subst h1
  show Onw p e below _ (s₁.setTop (mkF m 0 #[.val (.ref r0), .val (.int (16 : Int32))] []))
  refine Onw.go (fun _ kt => XS.aloadN X0.here hx rfl (hb hby d8_0) rfl rfl kt) ?_
  show Onw p e below _ (s₁.setTop (mkF m 1 #[.val (.ref r0), .val (.int (16 : Int32))] [(.ref r0)]))
  obtain ⟨T1, X1, e1, st1⟩ := initO X0 hx hZ hown (hw _ (own_mg (i := 80) rfl)) (hw _ (own_mg (i := 37) rfl)) (hw _ (own_mg (i := 38) rfl)) e0 (g := (mkF m 1 #[.val (.ref r0), .val (.int (16 : Int32))] [(.ref r0)])) rfl (by rw [hml]; rfl) rfl (hb hby d8_1) (by decide) (W := 0) (by show 2 * 0 + _ ≤ _; exact Nat.le_of_eq rfl) (by decide)
  refine Onw.go st1 ?_
  show Onw p e below _ (T1.setTop (mkF m 4 #[.val (.ref r0), .val (.int (16 : Int32))] []))
  obtain ⟨T2, X2, e2, st2⟩ := getS2 X1 hx hZ hown (host := "") (Or.inl (hw _ (own_mg (i := 81) rfl))) Via.refl e1 S_C (g := (mkF m 4 #[.val (.ref r0), .val (.int (16 : Int32))] [])) rfl (hb hby d8_4)
  refine Onw.go st2 ?_
  show Onw p e below _ (T2.setTop (mkF m 7 #[.val (.ref r0), .val (.int (16 : Int32))] [(.int zc)]))
  refine Onw.go (fun _ kt => XS.ifNo X2.here hx rfl (hb hby d8_7) rfl ((if0 _ _).trans (feq (hz : ¬ (zc = (0 : Int32)))).1) kt) ?_
  show Onw p e below _ (T2.setTop (mkF m 10 #[.val (.ref r0), .val (.int (16 : Int32))] []))
  refine Onw.go (fun _ kt => XS.aloadN X2.here hx rfl (hb hby d8_10) rfl rfl kt) ?_
  show Onw p e below _ (T2.setTop (mkF m 11 #[.val (.ref r0), .val (.int (16 : Int32))] [(.ref r0)]))
  refine Onw.go (fun _ kt => XS.iloadN X2.here hx rfl (hb hby d8_11) rfl kt) ?_
  show Onw p e below _ (T2.setTop (mkF m 12 #[.val (.ref r0), .val (.int (16 : Int32))] [(.int (16 : Int32)), (.ref r0)]))
  obtain ⟨T3, h3, k3, X3, e3, E3, A3, EA3, st3⟩ := own_newPE X2 hx hZ (hw _ (own_mg (i := 42) rfl)) e2 (g := (mkF m 12 #[.val (.ref r0), .val (.int (16 : Int32))] [(.int (16 : Int32)), (.ref r0)])) rfl (hb hby d8_12) rfl (by decide) (cap := 16) (by decide) (by decide) (by decide) (by decide)
  obtain ⟨v1, gg3⟩ : ∃ own_z, own_z = h0.size := ⟨_, rfl⟩
  rw [← gg3] at A3 EA3 st3
  refine Onw.go st3 ?_
  show Onw p e below _ (T3.setTop (mkF m 14 #[.val (.ref r0), .val (.int (16 : Int32))] [(.ref v1), (.ref r0)]))
  have g_v1 : n0 ≤ v1 := Nat.le_trans Z0 (Nat.le_of_eq gg3.symm)
  have ne1 : v1 ≠ r0 := fun q => Nat.lt_irrefl _ (Nat.lt_of_lt_of_le (q ▸ M0.1.lt) (Nat.le_of_eq gg3.symm))
  have V1 : Arv Z h3 v1 k3 .byte (Int32.ofNat (List.replicate 16 (0 : Int32)).length) ((List.replicate 16 (0 : Int32)).map Value.int) (.int (0 : Int32)) := (Arv.new A3 (by decide)).pad (pad_rep [] (.int (0 : Int32)) 16)
  obtain ⟨T4, h4, X4, e4, W4, st4⟩ := putF X3 hx hZ hown (host := "") (Or.inl (hw _ (own_mg (i := 82) rfl))) Via.refl e3 (M0.ext E3).2.1 (M0.ext E3).1 (Or.inl (hw _ (own_mg (i := 83) rfl))) (hw _ (own_mg (i := 69) rfl)) (ty := (.array .byte)) (by decide) rfl rfl (g := (mkF m 14 #[.val (.ref r0), .val (.int (16 : Int32))] [(.ref v1), (.ref r0)])) rfl rfl (hb hby d8_14)
  have N4 := Fr.snoc X4 N0 g_r0
  refine Onw.go st4 ?_
  show Onw p e below _ (T4.setTop (mkF m 17 #[.val (.ref r0), .val (.int (16 : Int32))] []))
  have M1 := own_set_value hw (M0.ext E3) W4
  refine Onw.go (fun _ kt => XS.aloadN X4.here hx rfl (hb hby d8_17) rfl rfl kt) ?_
  show Onw p e below _ (T4.setTop (mkF m 18 #[.val (.ref r0), .val (.int (16 : Int32))] [(.ref r0)]))
  refine Onw.go (fun _ kt => XS.iconst X4.here hx rfl (hb hby d8_18) kt) ?_
  show Onw p e below _ (T4.setTop (mkF m 19 #[.val (.ref r0), .val (.int (16 : Int32))] [(.int (0 : Int32)), (.ref r0)]))
  obtain ⟨T5, h5, X5, e5, W5, st5⟩ := putFN X4 hx hZ hown (hw _ (own_mg (i := 84) rfl)) Via.refl e4 M1.2.2.1 M1.1 (Or.inl (hw _ (own_mg (i := 85) rfl))) (hw _ (own_mg (i := 69) rfl)) (ty := .byte) (v' := (.int (0 : Int32))) (by decide) rfl rfl (g := (mkF m 19 #[.val (.ref r0), .val (.int (16 : Int32))] [(.int (0 : Int32)), (.ref r0)])) rfl rfl (hb hby d8_19)
  have N5 := Fr.snoc X5 N4 g_r0
  refine Onw.go st5 ?_
  show Onw p e below _ (T5.setTop (mkF m 22 #[.val (.ref r0), .val (.int (16 : Int32))] []))
  have M2 := own_set_coder hw M1 W5
  refine Onw.go (fun _ kt => XS.goto X5.here hx rfl (pc0 := 22) (pc' := 38) rfl (hb hby d8_22) (by decide) (by decide) kt) ?_
  show Onw p e below _ (T5.setTop (mkF m 38 #[.val (.ref r0), .val (.int (16 : Int32))] []))
  have K2 : Keep h0 h5 [r0] := (((Keep.refl h0 [r0]).ext E3).wr W4 (Or.inl (List.mem_of_getElem? (i := 0) rfl))).wr W5 (Or.inl (List.mem_of_getElem? (i := 0) rfl))
  exact Onw.ret X5 Bd.notSynchronized (fun _ => rfl) (fun fs hr => X5.returnOut hx Bd.returns (hb hby d8_38) hr) ⟨rfl, N5, by rw [e5]; exact K2, v1, k3, g_v1, Nat.le_of_eq gg3.symm, by rw [e5]; exact M2, by rw [e5]; exact (V1.other W4 ne1).other W5 ne1, by rw [e5]; exact (EA3.wr W4).wr W5⟩ (by decide) (by decide)
theorem pn_4 : plainName "java/lang/StringBuilder" = true := by first | (simp [plainName, overriddenIn]; done) | decide +kernel
theorem ef_7 (m : MethodId) (x0 : Addr) : entryFrame m #[(.ref x0)] 1 = mkF m 0 #[.val (.ref x0)] [] := by first | (simp [entryFrame, mkF, argsToLocals, Value.category]; done) | rfl
def Q_rm7 (Z : State) (r0 : Addr) (zc : Int32) (h0 : Heap) (n0 : Nat) (v : Option Value) (h : Heap) (L : List Loc) : Prop := v = none ∧ Fr n0 L ∧ Keep h0 h [r0] ∧ ∃ (v1 : Addr) (k1 : ClassId), n0 ≤ v1 ∧ h0.size ≤ v1 ∧ own_SB Z h r0 (.ref v1) (.int (0 : Int32)) (.int (0 : Int32)) ∧ Arv Z h v1 k1 .byte (Int32.ofNat (List.replicate 16 (0 : Int32)).length) ((List.replicate 16 (0 : Int32)).map Value.int) (.int (0 : Int32)) ∧ Exa Z h v1 "[B"
theorem d7_0 : decode jdk_67_method_1_code 0 = .ok (.aload_n 0, 1) := by decide +kernel
theorem d7_1 : decode jdk_67_method_1_code 1 = .ok (.bipush 16, 2) := by decide +kernel
theorem d7_3 : decode jdk_67_method_1_code 3 = .ok (.invokespecial 1, 3) := by decide +kernel
theorem d7_6 : decode jdk_67_method_1_code 6 = .ok (.return_, 1) := by decide +kernel
set_option maxRecDepth 65536 in
set_option maxHeartbeats 40000000 in
theorem rm7 (l : Launch) (Z : State) (a0 : Array Value) (hw : ∀ d ∈ tables_1, d.before a0 Z = true) (ws : List Jvm.Cond) (r0 : Addr) (zc : Int32) (h0 : Heap) (n0 : Nat) (M0 : own_SB Z h0 r0 .null (.int (0 : Int32)) (.int (0 : Int32))) (S_C : Sta Z h0 "java/lang/String" "COMPACT_STRINGS" "Z" (.int zc)) (hz : ¬ zc = 0) (g_r0 : n0 ≤ r0) (Z0 : n0 ≤ h0.size) :
    MetFree l (⟨"java/lang/StringBuilder", "<init>", "()V"⟩ : MethodName) (head1 (Jvm.Cond.code (⟨"java/lang/StringBuilder", "<init>", "()V"⟩ : MethodName) jdk_67_method_1_code 1 none :: ws) ({ frames := 2, cells := 1, slots := 16, locals := 25 } : Room)) (fun a U => a = #[(.ref r0)] ∧ Z.Warmed39 U.vm ∧ U.heap = h0) (fun _ _ _ _ _ => True) (fun _ U o U' => ∃ v L, o = .returned v ∧ Q_rm7 Z r0 zc h0 n0 v U'.heap L ∧ FrameEnd U o U' L ({ frames := 2, cells := 1, slots := 16, locals := 25 } : Room).cells ({ frames := 2, cells := 1, slots := 16, locals := 25 } : Room).slots) := by
  refine MetFree.of_bodySF (plainFor_of_name pn_4) hisR ?_
  intro p e s m args below meth c s₁ Bd hml0 hP hK
  obtain ⟨rfl, hZ, hh⟩ := hP
  have hx := Bd.exec
  have hby := Bd.bytes
  have hml : c.maxLocals = 1 := hml0
  have hown : s.vm.findClass "java/lang/StringBuilder" = some m.cls := findClass_of_methodNamed Bd.named
  have hnm := (name_of_methodNamed Bd.named Bd.method).1
  have X0 : Stand p l e ({ frames := 2, cells := 1, slots := 16, locals := 25 } : Room) s m #[(.ref r0)] below meth c s₁ [] 0 0 := Stand.of_body Bd
  have e0 : s₁.heap = h0 := by rw [← hh, Bd.state]; rfl
  have N0 := Fr.nil n0
  refine Onw.of (Onw.go (fun _ k => castTop (ef_7 m r0) k) ?_)
  show Onw p e below _ (s₁.setTop (mkF m 0 #[.val (.ref r0)] []))
  refine Onw.go (fun _ kt => XS.aloadN X0.here hx rfl (hb hby d7_0) rfl rfl kt) ?_
  show Onw p e below _ (s₁.setTop (mkF m 1 #[.val (.ref r0)] [(.ref r0)]))
  refine Onw.go (fun _ kt => XS.bipush X0.here hx rfl (hb hby d7_1) kt) ?_
  show Onw p e below _ (s₁.setTop (mkF m 3 #[.val (.ref r0)] [(.int (16 : Int32)), (.ref r0)]))
  obtain ⟨_, _, ⟨T1, L1, k1, n1⟩, -, X1, ⟨Lc1, hQ1, l1, y1, z1⟩, st1⟩ := X0.specialBack hx (y := (⟨"java/lang/AbstractStringBuilder", "<init>", "(I)V"⟩ : MethodName)) rfl hown (mvT hZ (hw _ (own_mg (i := 74) rfl))) (mvT hZ (hw _ (own_mg (i := 75) rfl))) (mvT hZ (hw _ (own_mg (i := 79) rfl))) (by decide) (backOf (W := 0) (rm8 l Z a0 hw [] r0 (16 : Int32) zc h0 n0 M0 S_C hz rfl g_r0 Z0) hZ (hw _ (own_mg (i := 79) rfl)) (hw _ (own_mg (i := 78) rfl)) (by decide) (by decide)) (g := (mkF m 3 #[.val (.ref r0)] [(.int (16 : Int32)), (.ref r0)])) rfl (by rw [hml]; rfl) (Steps.refl _) (a := r0) (argsL := [(.int (16 : Int32))]) (rest := []) (lenOf pd_5 rfl) rfl (by show 2 * 0 + _ ≤ _; exact Nat.le_of_eq rfl) (hb hby d7_3) (fun _ _ => ⟨rfl, e0, (by decide : 0 + 1 ≤ _), (by decide : 0 + 16 ≤ _)⟩)
  dsimp only [Pt.U, Pt.locs, Pt.cells, Pt.slots] at X1 l1 y1 z1 st1 hQ1
  subst l1 y1 z1
  obtain ⟨rfl, N1q, K1, v1, k1x, g1, s1, M1, V1, EA1⟩ := hQ1
  have N1 := Fr.app N0 N1q
  refine Onw.go (fun _ kt => st1.trans kt) ?_
  show Onw p e below _ (T1.setTop (mkF m 6 #[.val (.ref r0)] []))
  exact Onw.ret X1 Bd.notSynchronized (fun _ => rfl) (fun fs hr => X1.returnOut hx Bd.returns (hb hby d7_6) hr) ⟨rfl, N1, K1, v1, k1x, g1, s1, M1, V1, EA1⟩ (by decide) (by decide)
theorem ef_13 (m : MethodId) (x0 : Addr) : entryFrame m #[(.ref x0)] 1 = mkF m 0 #[.val (.ref x0)] [] := by first | (simp [entryFrame, mkF, argsToLocals, Value.category]; done) | rfl
def Q_rm13 (Z : State) (r0 : Addr) (zc : Int32) (v1 v3 : Value) (h0 : Heap) (n0 : Nat) (v : Option Value) (h : Heap) (L : List Loc) : Prop := v = some (.int (1 : Int32)) ∧ Fr n0 L ∧ h = h0
theorem d13_0 : decode jdk_68_method_68_code 0 = .ok (.getstatic 18, 3) := by decide +kernel
theorem d13_3 : decode jdk_68_method_68_code 3 = .ok (.ifCond .eq 14, 3) := by decide +kernel
theorem d13_6 : decode jdk_68_method_68_code 6 = .ok (.aload_n 0, 1) := by decide +kernel
theorem d13_7 : decode jdk_68_method_68_code 7 = .ok (.getfield 22, 3) := by decide +kernel
theorem d13_10 : decode jdk_68_method_68_code 10 = .ok (.ifCond .ne 7, 3) := by decide +kernel
theorem d13_13 : decode jdk_68_method_68_code 13 = .ok (.iconst 1, 1) := by decide +kernel
theorem d13_14 : decode jdk_68_method_68_code 14 = .ok (.goto 4, 3) := by decide +kernel
theorem d13_18 : decode jdk_68_method_68_code 18 = .ok (.ireturn, 1) := by decide +kernel
set_option maxRecDepth 65536 in
set_option maxHeartbeats 40000000 in
theorem rm13 (l : Launch) (Z : State) (a0 : Array Value) (hw : ∀ d ∈ tables_1, d.before a0 Z = true) (ws : List Jvm.Cond) (r0 : Addr) (zc : Int32) (v1 v3 : Value) (h0 : Heap) (n0 : Nat) (M0 : own_SB Z h0 r0 v1 (.int (0 : Int32)) v3) (S_C : Sta Z h0 "java/lang/String" "COMPACT_STRINGS" "Z" (.int zc)) (hz : ¬ zc = 0) :
    MetFree l (⟨"java/lang/AbstractStringBuilder", "isLatin1", "()Z"⟩ : MethodName) (head1 (Jvm.Cond.code (⟨"java/lang/AbstractStringBuilder", "isLatin1", "()Z"⟩ : MethodName) jdk_68_method_68_code 1 (some .boolean) :: ws) ({ frames := 0, cells := 0, slots := 0, locals := 0 } : Room)) (fun a U => a = #[(.ref r0)] ∧ Z.Warmed39 U.vm ∧ U.heap = h0) (fun _ _ _ _ _ => True) (fun _ U o U' => ∃ v L, o = .returned v ∧ Q_rm13 Z r0 zc v1 v3 h0 n0 v U'.heap L ∧ FrameEnd U o U' L ({ frames := 0, cells := 0, slots := 0, locals := 0 } : Room).cells ({ frames := 0, cells := 0, slots := 0, locals := 0 } : Room).slots) := by
  refine MetFree.of_bodySF (plainFor_of_name pn_3) hisR ?_
  intro p e s m args below meth c s₁ Bd hml0 hP hK
  obtain ⟨rfl, hZ, hh⟩ := hP
  have hx := Bd.exec
  have hby := Bd.bytes
  have hml : c.maxLocals = 1 := hml0
  have hown : s.vm.findClass "java/lang/AbstractStringBuilder" = some m.cls := findClass_of_methodNamed Bd.named
  have hnm := (name_of_methodNamed Bd.named Bd.method).1
  have X0 : Stand p l e ({ frames := 0, cells := 0, slots := 0, locals := 0 } : Room) s m #[(.ref r0)] below meth c s₁ [] 0 0 := Stand.of_body Bd
  have e0 : s₁.heap = h0 := by rw [← hh, Bd.state]; rfl
  have N0 := Fr.nil n0
  refine Onw.of (Onw.go (fun _ k => castTop (ef_13 m r0) k) ?_)
  show Onw p e below _ (s₁.setTop (mkF m 0 #[.val (.ref r0)] []))
  obtain ⟨T1, X1, e1, st1⟩ := getS2 X0 hx hZ hown (host := "") (Or.inl (hw _ (own_mg (i := 81) rfl))) Via.refl e0 S_C (g := (mkF m 0 #[.val (.ref r0)] [])) rfl (hb hby d13_0)
  refine Onw.go st1 ?_
  show Onw p e below _ (T1.setTop (mkF m 3 #[.val (.ref r0)] [(.int zc)]))
  refine Onw.go (fun _ kt => XS.ifNo X1.here hx rfl (hb hby d13_3) rfl ((if0 _ _).trans (feq (hz : ¬ (zc = (0 : Int32)))).1) kt) ?_
  show Onw p e below _ (T1.setTop (mkF m 6 #[.val (.ref r0)] []))
  refine Onw.go (fun _ kt => XS.aloadN X1.here hx rfl (hb hby d13_6) rfl rfl kt) ?_
  show Onw p e below _ (T1.setTop (mkF m 7 #[.val (.ref r0)] [(.ref r0)]))
  obtain ⟨T2, X2, e2, st2⟩ := getF X1 hx hZ hown (host := "") (Or.inl (hw _ (own_mg (i := 84) rfl))) Via.refl e1 M0.2.2.1 (g := (mkF m 7 #[.val (.ref r0)] [(.ref r0)])) rfl rfl (hb hby d13_7)
  refine Onw.go st2 ?_
  show Onw p e below _ (T2.setTop (mkF m 10 #[.val (.ref r0)] [(.int (0 : Int32))]))
  refine Onw.go (fun _ kt => XS.ifNo X2.here hx rfl (hb hby d13_10) rfl ((if0 _ _).trans (teq (rfl : (0 : Int32) = (0 : Int32))).2) kt) ?_
  show Onw p e below _ (T2.setTop (mkF m 13 #[.val (.ref r0)] []))
  refine Onw.go (fun _ kt => XS.iconst X2.here hx rfl (hb hby d13_13) kt) ?_
  show Onw p e below _ (T2.setTop (mkF m 14 #[.val (.ref r0)] [(.int (1 : Int32))]))
  refine Onw.go (fun _ kt => XS.goto X2.here hx rfl (pc0 := 14) (pc' := 18) rfl (hb hby d13_14) (by decide) (by decide) kt) ?_
  show Onw p e below _ (T2.setTop (mkF m 18 #[.val (.ref r0)] [(.int (1 : Int32))]))
  exact Onw.ret X2 Bd.notSynchronized (fun h => by rw [Bd.returns] at h; cases h) (fun fs hr => retN X2 hx (t := .boolean) Bd.returns (by simp) (hb hby d13_18) hr) ⟨rfl, N0, e2⟩ (by decide) (by decide)
theorem pn_5 : plainName "jdk/internal/util/ArraysSupport" = true := by first | (simp [plainName, overriddenIn]; done) | decide +kernel
theorem ef_40 (m : MethodId) (x0 : Int32) (x1 : Int32) (x2 : Int32) : entryFrame m #[(.int x0), (.int x1), (.int x2)] 4 = mkF m 0 #[.val (.int x0), .val (.int x1), .val (.int x2), .unset] [] := by first | (simp [entryFrame, mkF, argsToLocals, Value.category]; done) | rfl
def Q_rm40 (Z : State) (p0 : Int32) (p1 : Int32) (p2 : Int32) (h0 : Heap) (n0 : Nat) (v : Option Value) (h : Heap) (L : List Loc) : Prop := v = some (.int (34 : Int32)) ∧ Fr n0 L ∧ h = h0
theorem d40_0 : decode jdk_48_method_27_code 0 = .ok (.iload_n 0, 1) := by decide +kernel
theorem d40_1 : decode jdk_48_method_27_code 1 = .ok (.iload_n 1, 1) := by decide +kernel
theorem d40_2 : decode jdk_48_method_27_code 2 = .ok (.iload_n 2, 1) := by decide +kernel
theorem d40_3 : decode jdk_48_method_27_code 3 = .ok (.invokestatic 194, 3) := by decide +kernel
theorem d40_6 : decode jdk_48_method_27_code 6 = .ok (.iadd, 1) := by decide +kernel
theorem d40_7 : decode jdk_48_method_27_code 7 = .ok (.istore_n 3, 1) := by decide +kernel
theorem d40_8 : decode jdk_48_method_27_code 8 = .ok (.iconst 0, 1) := by decide +kernel
theorem d40_9 : decode jdk_48_method_27_code 9 = .ok (.iload_n 3, 1) := by decide +kernel
theorem d40_10 : decode jdk_48_method_27_code 10 = .ok (.if_icmp .ge 11, 3) := by decide +kernel
theorem d40_13 : decode jdk_48_method_27_code 13 = .ok (.iload_n 3, 1) := by decide +kernel
theorem d40_14 : decode jdk_48_method_27_code 14 = .ok (.ldc 200, 2) := by decide +kernel
theorem d40_16 : decode jdk_48_method_27_code 16 = .ok (.if_icmp .gt 5, 3) := by decide +kernel
theorem d40_19 : decode jdk_48_method_27_code 19 = .ok (.iload_n 3, 1) := by decide +kernel
theorem d40_20 : decode jdk_48_method_27_code 20 = .ok (.ireturn, 1) := by decide +kernel
set_option maxRecDepth 65536 in
set_option maxHeartbeats 40000000 in
theorem rm40 (l : Launch) (Z : State) (a0 : Array Value) (hw : ∀ d ∈ tables_1, d.before a0 Z = true) (ws : List Jvm.Cond) (p0 : Int32) (p1 : Int32) (p2 : Int32) (h0 : Heap) (n0 : Nat) (h1 : p0 + own_max p1 p2 = 34) :
    MetFree l (⟨"jdk/internal/util/ArraysSupport", "newLength", "(III)I"⟩ : MethodName) (head1 (Jvm.Cond.code (⟨"jdk/internal/util/ArraysSupport", "newLength", "(III)I"⟩ : MethodName) jdk_48_method_27_code 4 (some .int) :: ws) ({ frames := 1, cells := 0, slots := 0, locals := 14 } : Room)) (fun a U => a = #[(.int p0), (.int p1), (.int p2)] ∧ Z.Warmed39 U.vm ∧ U.heap = h0) (fun _ _ _ _ _ => True) (fun _ U o U' => ∃ v L, o = .returned v ∧ Q_rm40 Z p0 p1 p2 h0 n0 v U'.heap L ∧ FrameEnd U o U' L ({ frames := 1, cells := 0, slots := 0, locals := 14 } : Room).cells ({ frames := 1, cells := 0, slots := 0, locals := 14 } : Room).slots) := by
  refine MetFree.of_bodySF (plainFor_of_name pn_5) hisR ?_
  intro p e s m args below meth c s₁ Bd hml0 hP hK
  obtain ⟨rfl, hZ, hh⟩ := hP
  have hx := Bd.exec
  have hby := Bd.bytes
  have hml : c.maxLocals = 4 := hml0
  have hown : s.vm.findClass "jdk/internal/util/ArraysSupport" = some m.cls := findClass_of_methodNamed Bd.named
  have hnm := (name_of_methodNamed Bd.named Bd.method).1
  have X0 : Stand p l e ({ frames := 1, cells := 0, slots := 0, locals := 14 } : Room) s m #[(.int p0), (.int p1), (.int p2)] below meth c s₁ [] 0 0 := Stand.of_body Bd
  have e0 : s₁.heap = h0 := by rw [← hh, Bd.state]; rfl
  have N0 := Fr.nil n0
  refine Onw.of (Onw.go (fun _ k => castTop (ef_40 m p0 p1 p2) k) ?_)
  show Onw p e below _ (s₁.setTop (mkF m 0 #[.val (.int p0), .val (.int p1), .val (.int p2), .unset] []))
  refine Onw.go (fun _ kt => XS.iloadN X0.here hx rfl (hb hby d40_0) rfl kt) ?_
  show Onw p e below _ (s₁.setTop (mkF m 1 #[.val (.int p0), .val (.int p1), .val (.int p2), .unset] [(.int p0)]))
  refine Onw.go (fun _ kt => XS.iloadN X0.here hx rfl (hb hby d40_1) rfl kt) ?_
  show Onw p e below _ (s₁.setTop (mkF m 2 #[.val (.int p0), .val (.int p1), .val (.int p2), .unset] [(.int p1), (.int p0)]))
  refine Onw.go (fun _ kt => XS.iloadN X0.here hx rfl (hb hby d40_2) rfl kt) ?_
  show Onw p e below _ (s₁.setTop (mkF m 3 #[.val (.int p0), .val (.int p1), .val (.int p2), .unset] [(.int p2), (.int p1), (.int p0)]))
  obtain ⟨_, _, ⟨T1, L1, k1, n1⟩, -, X1, ⟨Lc1, hQ1, l1, y1, z1⟩, st1⟩ := Jvm.LawKit.callS X0 hx (y := (⟨"java/lang/Math", "max", "(II)I"⟩ : MethodName)) hown (mvT hZ (hw _ (own_mg (i := 249) rfl))) (mvT hZ (hw _ (own_mg (i := 250) rfl))) (mvT hZ (hw _ (own_mg (i := 203) rfl))) (mvT hZ (hw _ (own_mg (i := 251) rfl))) (by decide) (backOf (W := 1) (rm41 l Z a0 hw [] p1 p2  h0 n0 ) hZ (hw _ (own_mg (i := 251) rfl)) (hw _ (own_mg (i := 203) rfl)) (by decide) (by decide)) (g := (mkF m 3 #[.val (.int p0), .val (.int p1), .val (.int p2), .unset] [(.int p2), (.int p1), (.int p0)])) rfl (by rw [hml]; rfl) (argsL := [(.int p1), (.int p2)]) (rest := [(.int p0)]) (lenOf pd_24 rfl) rfl (by show 2 * 0 + _ ≤ _; exact Nat.le_of_eq rfl) (hb hby d40_3) (fun _ _ => ⟨rfl, e0, (by decide : 0 + 0 ≤ _), (by decide : 0 + 0 ≤ _)⟩)
  dsimp only [Pt.U, Pt.locs, Pt.cells, Pt.slots] at X1 l1 y1 z1 st1 hQ1
  subst l1 y1 z1
  obtain ⟨rfl, N1q, e1q⟩ := hQ1
  have N1 := Fr.app N0 N1q
  refine Onw.go st1 ?_
  show Onw p e below _ (T1.setTop (mkF m 6 #[.val (.int p0), .val (.int p1), .val (.int p2), .unset] [(.int (own_max p1 p2)), (.int p0)]))
  refine Onw.go (fun _ kt => XS.iadd X1.here hx rfl (hb hby d40_6) rfl kt) ?_
  show Onw p e below _ (T1.setTop (mkF m 7 #[.val (.int p0), .val (.int p1), .val (.int p2), .unset] [(.int (p0 + (own_max p1 p2)))]))
  rw [(h1 : (p0 + (own_max p1 p2)) = (34 : Int32))]
  show Onw p e below _ (T1.setTop (mkF m 7 #[.val (.int p0), .val (.int p1), .val (.int p2), .unset] [(.int (34 : Int32))]))
  refine Onw.go (fun _ kt => XS.istoreN X1.here hx rfl (hb hby d40_7) rfl (l' := #[.val (.int p0), .val (.int p1), .val (.int p2), .val (.int (34 : Int32))]) rfl kt) ?_
  show Onw p e below _ (T1.setTop (mkF m 8 #[.val (.int p0), .val (.int p1), .val (.int p2), .val (.int (34 : Int32))] []))
  refine Onw.go (fun _ kt => XS.iconst X1.here hx rfl (hb hby d40_8) kt) ?_
  show Onw p e below _ (T1.setTop (mkF m 9 #[.val (.int p0), .val (.int p1), .val (.int p2), .val (.int (34 : Int32))] [(.int (0 : Int32))]))
  refine Onw.go (fun _ kt => XS.iloadN X1.here hx rfl (hb hby d40_9) rfl kt) ?_
  show Onw p e below _ (T1.setTop (mkF m 10 #[.val (.int p0), .val (.int p1), .val (.int p2), .val (.int (34 : Int32))] [(.int (34 : Int32)), (.int (0 : Int32))]))
  refine Onw.go (fun _ kt => XS.icmpNo X1.here hx rfl (hb hby d40_10) rfl (tlt (by decide : (0 : Int32) < (34 : Int32))).2.1 kt) ?_
  show Onw p e below _ (T1.setTop (mkF m 13 #[.val (.int p0), .val (.int p1), .val (.int p2), .val (.int (34 : Int32))] []))
  refine Onw.go (fun _ kt => XS.iloadN X1.here hx rfl (hb hby d40_13) rfl kt) ?_
  show Onw p e below _ (T1.setTop (mkF m 14 #[.val (.int p0), .val (.int p1), .val (.int p2), .val (.int (34 : Int32))] [(.int (34 : Int32))]))
  refine Onw.go (X1.ldcInt hx hown (mvT hZ (hw _ (own_mg (i := 252) rfl))) (g := (mkF m 14 #[.val (.int p0), .val (.int p1), .val (.int p2), .val (.int (34 : Int32))] [(.int (34 : Int32))])) rfl (hb hby d40_14)) ?_
  show Onw p e below _ (T1.setTop (mkF m 16 #[.val (.int p0), .val (.int p1), .val (.int p2), .val (.int (34 : Int32))] [(.int (2147483639 : Int32)), (.int (34 : Int32))]))
  refine Onw.go (fun _ kt => XS.icmpNo X1.here hx rfl (hb hby d40_16) rfl (flt (by decide : ¬ ((2147483639 : Int32) < (34 : Int32)))).2.2.1 kt) ?_
  show Onw p e below _ (T1.setTop (mkF m 19 #[.val (.int p0), .val (.int p1), .val (.int p2), .val (.int (34 : Int32))] []))
  refine Onw.go (fun _ kt => XS.iloadN X1.here hx rfl (hb hby d40_19) rfl kt) ?_
  show Onw p e below _ (T1.setTop (mkF m 20 #[.val (.int p0), .val (.int p1), .val (.int p2), .val (.int (34 : Int32))] [(.int (34 : Int32))]))
  exact Onw.ret X1 Bd.notSynchronized (fun h => by rw [Bd.returns] at h; cases h) (fun fs hr => retI X1 hx Bd.returns (hb hby d40_20) hr) ⟨rfl, N1, e1q⟩ (by decide) (by decide)
theorem ef_39 (m : MethodId) (x0 : Addr) (x1 : Int32) : entryFrame m #[(.ref x0), (.int x1)] 6 = mkF m 0 #[.val (.ref x0), .val (.int x1), .unset, .unset, .unset, .unset] [] := by first | (simp [entryFrame, mkF, argsToLocals, Value.category]; done) | rfl
def Q_rm39 (Z : State) (r0 : Addr) (p1 : Int32) (v1 : Addr) (k1 : ClassId) (v3 : Value) (xs : List Int32) (h0 : Heap) (n0 : Nat) (v : Option Value) (h : Heap) (L : List Loc) : Prop := v = some (.int (34 : Int32)) ∧ Fr n0 L ∧ h = h0
theorem d39_0 : decode jdk_68_method_10_code 0 = .ok (.aload_n 0, 1) := by decide +kernel
theorem d39_1 : decode jdk_68_method_10_code 1 = .ok (.getfield 15, 3) := by decide +kernel
theorem d39_4 : decode jdk_68_method_10_code 4 = .ok (.arraylength, 1) := by decide +kernel
theorem d39_5 : decode jdk_68_method_10_code 5 = .ok (.istore_n 2, 1) := by decide +kernel
theorem d39_6 : decode jdk_68_method_10_code 6 = .ok (.iload_n 1, 1) := by decide +kernel
theorem d39_7 : decode jdk_68_method_10_code 7 = .ok (.aload_n 0, 1) := by decide +kernel
theorem d39_8 : decode jdk_68_method_10_code 8 = .ok (.getfield 22, 3) := by decide +kernel
theorem d39_11 : decode jdk_68_method_10_code 11 = .ok (.ishl, 1) := by decide +kernel
theorem d39_12 : decode jdk_68_method_10_code 12 = .ok (.istore_n 3, 1) := by decide +kernel
theorem d39_13 : decode jdk_68_method_10_code 13 = .ok (.iload_n 3, 1) := by decide +kernel
theorem d39_14 : decode jdk_68_method_10_code 14 = .ok (.iload_n 2, 1) := by decide +kernel
theorem d39_15 : decode jdk_68_method_10_code 15 = .ok (.isub, 1) := by decide +kernel
theorem d39_16 : decode jdk_68_method_10_code 16 = .ok (.istore 4, 2) := by decide +kernel
theorem d39_18 : decode jdk_68_method_10_code 18 = .ok (.iload_n 2, 1) := by decide +kernel
theorem d39_19 : decode jdk_68_method_10_code 19 = .ok (.iload 4, 2) := by decide +kernel
theorem d39_21 : decode jdk_68_method_10_code 21 = .ok (.iload_n 2, 1) := by decide +kernel
theorem d39_22 : decode jdk_68_method_10_code 22 = .ok (.iconst 2, 1) := by decide +kernel
theorem d39_23 : decode jdk_68_method_10_code 23 = .ok (.aload_n 0, 1) := by decide +kernel
theorem d39_24 : decode jdk_68_method_10_code 24 = .ok (.getfield 22, 3) := by decide +kernel
theorem d39_27 : decode jdk_68_method_10_code 27 = .ok (.ishl, 1) := by decide +kernel
theorem d39_28 : decode jdk_68_method_10_code 28 = .ok (.iadd, 1) := by decide +kernel
theorem d39_29 : decode jdk_68_method_10_code 29 = .ok (.invokestatic 114, 3) := by decide +kernel
theorem d39_32 : decode jdk_68_method_10_code 32 = .ok (.istore 5, 2) := by decide +kernel
theorem d39_34 : decode jdk_68_method_10_code 34 = .ok (.iload 5, 2) := by decide +kernel
theorem d39_36 : decode jdk_68_method_10_code 36 = .ok (.ldc 39, 2) := by decide +kernel
theorem d39_38 : decode jdk_68_method_10_code 38 = .ok (.if_icmp .ne 13, 3) := by decide +kernel
theorem d39_51 : decode jdk_68_method_10_code 51 = .ok (.iload 5, 2) := by decide +kernel
theorem d39_53 : decode jdk_68_method_10_code 53 = .ok (.aload_n 0, 1) := by decide +kernel
theorem d39_54 : decode jdk_68_method_10_code 54 = .ok (.getfield 22, 3) := by decide +kernel
theorem d39_57 : decode jdk_68_method_10_code 57 = .ok (.ishr, 1) := by decide +kernel
theorem d39_58 : decode jdk_68_method_10_code 58 = .ok (.ireturn, 1) := by decide +kernel
set_option maxRecDepth 65536 in
set_option maxHeartbeats 40000000 in
theorem rm39 (l : Launch) (Z : State) (a0 : Array Value) (hw : ∀ d ∈ tables_1, d.before a0 Z = true) (ws : List Jvm.Cond) (r0 : Addr) (p1 : Int32) (v1 : Addr) (k1 : ClassId) (v3 : Value) (xs : List Int32) (h0 : Heap) (n0 : Nat) (M0 : own_SB Z h0 r0 (.ref v1) (.int (0 : Int32)) v3) (V0 : Arv Z h0 v1 k1 .byte (Int32.ofNat (xs).length) ((xs).map Value.int) (.int (0 : Int32))) (hl : xs.length = 16) (h1 : (16 : Int32) + own_max (p1 - 16) 18 = 34) :
    MetFree l (⟨"java/lang/AbstractStringBuilder", "newCapacity", "(I)I"⟩ : MethodName) (head1 (Jvm.Cond.code (⟨"java/lang/AbstractStringBuilder", "newCapacity", "(I)I"⟩ : MethodName) jdk_68_method_10_code 6 (some .int) :: ws) ({ frames := 2, cells := 0, slots := 0, locals := 29 } : Room)) (fun a U => a = #[(.ref r0), (.int p1)] ∧ Z.Warmed39 U.vm ∧ U.heap = h0) (fun _ _ _ _ _ => True) (fun _ U o U' => ∃ v L, o = .returned v ∧ Q_rm39 Z r0 p1 v1 k1 v3 xs h0 n0 v U'.heap L ∧ FrameEnd U o U' L ({ frames := 2, cells := 0, slots := 0, locals := 29 } : Room).cells ({ frames := 2, cells := 0, slots := 0, locals := 29 } : Room).slots) := by
  refine MetFree.of_bodySF (plainFor_of_name pn_3) hisR ?_
  intro p e s m args below meth c s₁ Bd hml0 hP hK
  obtain ⟨rfl, hZ, hh⟩ := hP
  have hx := Bd.exec
  have hby := Bd.bytes
  have hml : c.maxLocals = 6 := hml0
  have hown : s.vm.findClass "java/lang/AbstractStringBuilder" = some m.cls := findClass_of_methodNamed Bd.named
  have hnm := (name_of_methodNamed Bd.named Bd.method).1
  have X0 : Stand p l e ({ frames := 2, cells := 0, slots := 0, locals := 29 } : Room) s m #[(.ref r0), (.int p1)] below meth c s₁ [] 0 0 := Stand.of_body Bd
  have e0 : s₁.heap = h0 := by rw [← hh, Bd.state]; rfl
  have N0 := Fr.nil n0
  refine Onw.of (Onw.go (fun _ k => castTop (ef_39 m r0 p1) k) ?_)
  show Onw p e below _ (s₁.setTop (mkF m 0 #[.val (.ref r0), .val (.int p1), .unset, .unset, .unset, .unset] []))
  obtain ⟨c0, A0, qa0, S0, Q0, H0, G0⟩ := V0
  refine Onw.go (fun _ kt => XS.aloadN X0.here hx rfl (hb hby d39_0) rfl rfl kt) ?_
  show Onw p e below _ (s₁.setTop (mkF m 1 #[.val (.ref r0), .val (.int p1), .unset, .unset, .unset, .unset] [(.ref r0)]))
  obtain ⟨T1, X1, e1, st1⟩ := getF X0 hx hZ hown (host := "") (Or.inl (hw _ (own_mg (i := 82) rfl))) Via.refl e0 M0.2.1 (g := (mkF m 1 #[.val (.ref r0), .val (.int p1), .unset, .unset, .unset, .unset] [(.ref r0)])) rfl rfl (hb hby d39_1)
  refine Onw.go st1 ?_
  show Onw p e below _ (T1.setTop (mkF m 4 #[.val (.ref r0), .val (.int p1), .unset, .unset, .unset, .unset] [(.ref v1)]))
  refine Onw.go (X1.arraylength hx (by rw [e1]; exact A0.1) (State.isArrayOf_alike hZ.alike A0.2.1) (g := (mkF m 4 #[.val (.ref r0), .val (.int p1), .unset, .unset, .unset, .unset] [(.ref v1)])) rfl rfl (hb hby d39_4)) ?_
  rw [len_of S0 Q0]
  show Onw p e below _ (T1.setTop (mkF m 5 #[.val (.ref r0), .val (.int p1), .unset, .unset, .unset, .unset] [(.int (Int32.ofNat xs.length))]))
  rw [(by rw [hl]; rfl : (Int32.ofNat xs.length) = (16 : Int32))]
  show Onw p e below _ (T1.setTop (mkF m 5 #[.val (.ref r0), .val (.int p1), .unset, .unset, .unset, .unset] [(.int (16 : Int32))]))
  refine Onw.go (fun _ kt => XS.istoreN X1.here hx rfl (hb hby d39_5) rfl (l' := #[.val (.ref r0), .val (.int p1), .val (.int (16 : Int32)), .unset, .unset, .unset]) rfl kt) ?_
  show Onw p e below _ (T1.setTop (mkF m 6 #[.val (.ref r0), .val (.int p1), .val (.int (16 : Int32)), .unset, .unset, .unset] []))
  refine Onw.go (fun _ kt => XS.iloadN X1.here hx rfl (hb hby d39_6) rfl kt) ?_
  show Onw p e below _ (T1.setTop (mkF m 7 #[.val (.ref r0), .val (.int p1), .val (.int (16 : Int32)), .unset, .unset, .unset] [(.int p1)]))
  refine Onw.go (fun _ kt => XS.aloadN X1.here hx rfl (hb hby d39_7) rfl rfl kt) ?_
  show Onw p e below _ (T1.setTop (mkF m 8 #[.val (.ref r0), .val (.int p1), .val (.int (16 : Int32)), .unset, .unset, .unset] [(.ref r0), (.int p1)]))
  obtain ⟨T2, X2, e2, st2⟩ := getF X1 hx hZ hown (host := "") (Or.inl (hw _ (own_mg (i := 84) rfl))) Via.refl e1 M0.2.2.1 (g := (mkF m 8 #[.val (.ref r0), .val (.int p1), .val (.int (16 : Int32)), .unset, .unset, .unset] [(.ref r0), (.int p1)])) rfl rfl (hb hby d39_8)
  refine Onw.go st2 ?_
  show Onw p e below _ (T2.setTop (mkF m 11 #[.val (.ref r0), .val (.int p1), .val (.int (16 : Int32)), .unset, .unset, .unset] [(.int (0 : Int32)), (.int p1)]))
  refine Onw.go (fun _ kt => XS.ishl X2.here hx rfl (hb hby d39_11) rfl kt) ?_
  show Onw p e below _ (T2.setTop (mkF m 12 #[.val (.ref r0), .val (.int p1), .val (.int (16 : Int32)), .unset, .unset, .unset] [(.int (p1 <<< ((0 : Int32) &&& 31)))]))
  rw [(own_shl0 p1 : (p1 <<< ((0 : Int32) &&& 31)) = p1)]
  show Onw p e below _ (T2.setTop (mkF m 12 #[.val (.ref r0), .val (.int p1), .val (.int (16 : Int32)), .unset, .unset, .unset] [(.int p1)]))
  refine Onw.go (fun _ kt => XS.istoreN X2.here hx rfl (hb hby d39_12) rfl (l' := #[.val (.ref r0), .val (.int p1), .val (.int (16 : Int32)), .val (.int p1), .unset, .unset]) rfl kt) ?_
  show Onw p e below _ (T2.setTop (mkF m 13 #[.val (.ref r0), .val (.int p1), .val (.int (16 : Int32)), .val (.int p1), .unset, .unset] []))
  refine Onw.go (fun _ kt => XS.iloadN X2.here hx rfl (hb hby d39_13) rfl kt) ?_
  show Onw p e below _ (T2.setTop (mkF m 14 #[.val (.ref r0), .val (.int p1), .val (.int (16 : Int32)), .val (.int p1), .unset, .unset] [(.int p1)]))
  refine Onw.go (fun _ kt => XS.iloadN X2.here hx rfl (hb hby d39_14) rfl kt) ?_
  show Onw p e below _ (T2.setTop (mkF m 15 #[.val (.ref r0), .val (.int p1), .val (.int (16 : Int32)), .val (.int p1), .unset, .unset] [(.int (16 : Int32)), (.int p1)]))
  refine Onw.go (fun _ kt => XS.isub X2.here hx rfl (hb hby d39_15) rfl kt) ?_
  show Onw p e below _ (T2.setTop (mkF m 16 #[.val (.ref r0), .val (.int p1), .val (.int (16 : Int32)), .val (.int p1), .unset, .unset] [(.int (p1 - (16 : Int32)))]))
  refine Onw.go (fun _ kt => XS.istore X2.here hx rfl (hb hby d39_16) rfl (l' := #[.val (.ref r0), .val (.int p1), .val (.int (16 : Int32)), .val (.int p1), .val (.int (p1 - (16 : Int32))), .unset]) rfl kt) ?_
  show Onw p e below _ (T2.setTop (mkF m 18 #[.val (.ref r0), .val (.int p1), .val (.int (16 : Int32)), .val (.int p1), .val (.int (p1 - (16 : Int32))), .unset] []))
  refine Onw.go (fun _ kt => XS.iloadN X2.here hx rfl (hb hby d39_18) rfl kt) ?_
  show Onw p e below _ (T2.setTop (mkF m 19 #[.val (.ref r0), .val (.int p1), .val (.int (16 : Int32)), .val (.int p1), .val (.int (p1 - (16 : Int32))), .unset] [(.int (16 : Int32))]))
  refine Onw.go (fun _ kt => XS.iload X2.here hx rfl (hb hby d39_19) rfl kt) ?_
  show Onw p e below _ (T2.setTop (mkF m 21 #[.val (.ref r0), .val (.int p1), .val (.int (16 : Int32)), .val (.int p1), .val (.int (p1 - (16 : Int32))), .unset] [(.int (p1 - (16 : Int32))), (.int (16 : Int32))]))
  refine Onw.go (fun _ kt => XS.iloadN X2.here hx rfl (hb hby d39_21) rfl kt) ?_
  show Onw p e below _ (T2.setTop (mkF m 22 #[.val (.ref r0), .val (.int p1), .val (.int (16 : Int32)), .val (.int p1), .val (.int (p1 - (16 : Int32))), .unset] [(.int (16 : Int32)), (.int (p1 - (16 : Int32))), (.int (16 : Int32))]))
  refine Onw.go (fun _ kt => XS.iconst X2.here hx rfl (hb hby d39_22) kt) ?_
  show Onw p e below _ (T2.setTop (mkF m 23 #[.val (.ref r0), .val (.int p1), .val (.int (16 : Int32)), .val (.int p1), .val (.int (p1 - (16 : Int32))), .unset] [(.int (2 : Int32)), (.int (16 : Int32)), (.int (p1 - (16 : Int32))), (.int (16 : Int32))]))
  refine Onw.go (fun _ kt => XS.aloadN X2.here hx rfl (hb hby d39_23) rfl rfl kt) ?_
  show Onw p e below _ (T2.setTop (mkF m 24 #[.val (.ref r0), .val (.int p1), .val (.int (16 : Int32)), .val (.int p1), .val (.int (p1 - (16 : Int32))), .unset] [(.ref r0), (.int (2 : Int32)), (.int (16 : Int32)), (.int (p1 - (16 : Int32))), (.int (16 : Int32))]))
  obtain ⟨T3, X3, e3, st3⟩ := getF X2 hx hZ hown (host := "") (Or.inl (hw _ (own_mg (i := 84) rfl))) Via.refl e2 M0.2.2.1 (g := (mkF m 24 #[.val (.ref r0), .val (.int p1), .val (.int (16 : Int32)), .val (.int p1), .val (.int (p1 - (16 : Int32))), .unset] [(.ref r0), (.int (2 : Int32)), (.int (16 : Int32)), (.int (p1 - (16 : Int32))), (.int (16 : Int32))])) rfl rfl (hb hby d39_24)
  refine Onw.go st3 ?_
  show Onw p e below _ (T3.setTop (mkF m 27 #[.val (.ref r0), .val (.int p1), .val (.int (16 : Int32)), .val (.int p1), .val (.int (p1 - (16 : Int32))), .unset] [(.int (0 : Int32)), (.int (2 : Int32)), (.int (16 : Int32)), (.int (p1 - (16 : Int32))), (.int (16 : Int32))]))
  refine Onw.go (fun _ kt => XS.ishl X3.here hx rfl (hb hby d39_27) rfl kt) ?_
  show Onw p e below _ (T3.setTop (mkF m 28 #[.val (.ref r0), .val (.int p1), .val (.int (16 : Int32)), .val (.int p1), .val (.int (p1 - (16 : Int32))), .unset] [(.int ((2 : Int32) <<< ((0 : Int32) &&& 31))), (.int (16 : Int32)), (.int (p1 - (16 : Int32))), (.int (16 : Int32))]))
  refine Onw.go (fun _ kt => XS.iadd X3.here hx rfl (hb hby d39_28) rfl kt) ?_
  show Onw p e below _ (T3.setTop (mkF m 29 #[.val (.ref r0), .val (.int p1), .val (.int (16 : Int32)), .val (.int p1), .val (.int (p1 - (16 : Int32))), .unset] [(.int ((16 : Int32) + ((2 : Int32) <<< ((0 : Int32) &&& 31)))), (.int (p1 - (16 : Int32))), (.int (16 : Int32))]))
  rw [(by decide : ((16 : Int32) + ((2 : Int32) <<< ((0 : Int32) &&& 31))) = (18 : Int32))]
  show Onw p e below _ (T3.setTop (mkF m 29 #[.val (.ref r0), .val (.int p1), .val (.int (16 : Int32)), .val (.int p1), .val (.int (p1 - (16 : Int32))), .unset] [(.int (18 : Int32)), (.int (p1 - (16 : Int32))), (.int (16 : Int32))]))
  obtain ⟨_, _, ⟨T4, L4, k4, n4⟩, -, X4, ⟨Lc4, hQ4, l4, y4, z4⟩, st4⟩ := Jvm.LawKit.callS X3 hx (y := (⟨"jdk/internal/util/ArraysSupport", "newLength", "(III)I"⟩ : MethodName)) hown (mvT hZ (hw _ (own_mg (i := 245) rfl))) (mvT hZ (hw _ (own_mg (i := 246) rfl))) (mvT hZ (hw _ (own_mg (i := 247) rfl))) (mvT hZ (hw _ (own_mg (i := 248) rfl))) (by decide) (backOf (W := 0) (rm40 l Z a0 hw [] (16 : Int32) (p1 - (16 : Int32)) (18 : Int32)  h0 n0 h1) hZ (hw _ (own_mg (i := 248) rfl)) (hw _ (own_mg (i := 247) rfl)) (by decide) (by decide)) (g := (mkF m 29 #[.val (.ref r0), .val (.int p1), .val (.int (16 : Int32)), .val (.int p1), .val (.int (p1 - (16 : Int32))), .unset] [(.int (18 : Int32)), (.int (p1 - (16 : Int32))), (.int (16 : Int32))])) rfl (by rw [hml]; rfl) (argsL := [(.int (16 : Int32)), (.int (p1 - (16 : Int32))), (.int (18 : Int32))]) (rest := []) (lenOf pd_31 rfl) rfl (by show 2 * 0 + _ ≤ _; exact Nat.le_of_eq rfl) (hb hby d39_29) (fun _ _ => ⟨rfl, e3, (by decide : 0 + 0 ≤ _), (by decide : 0 + 0 ≤ _)⟩)
  dsimp only [Pt.U, Pt.locs, Pt.cells, Pt.slots] at X4 l4 y4 z4 st4 hQ4
  subst l4 y4 z4
  obtain ⟨rfl, N4q, e4q⟩ := hQ4
  have N4 := Fr.app N0 N4q
  refine Onw.go st4 ?_
  show Onw p e below _ (T4.setTop (mkF m 32 #[.val (.ref r0), .val (.int p1), .val (.int (16 : Int32)), .val (.int p1), .val (.int (p1 - (16 : Int32))), .unset] [(.int (34 : Int32))]))
  refine Onw.go (fun _ kt => XS.istore X4.here hx rfl (hb hby d39_32) rfl (l' := #[.val (.ref r0), .val (.int p1), .val (.int (16 : Int32)), .val (.int p1), .val (.int (p1 - (16 : Int32))), .val (.int (34 : Int32))]) rfl kt) ?_
  show Onw p e below _ (T4.setTop (mkF m 34 #[.val (.ref r0), .val (.int p1), .val (.int (16 : Int32)), .val (.int p1), .val (.int (p1 - (16 : Int32))), .val (.int (34 : Int32))] []))
  refine Onw.go (fun _ kt => XS.iload X4.here hx rfl (hb hby d39_34) rfl kt) ?_
  show Onw p e below _ (T4.setTop (mkF m 36 #[.val (.ref r0), .val (.int p1), .val (.int (16 : Int32)), .val (.int p1), .val (.int (p1 - (16 : Int32))), .val (.int (34 : Int32))] [(.int (34 : Int32))]))
  refine Onw.go (X4.ldcInt hx hown (mvT hZ (hw _ (own_mg (i := 253) rfl))) (g := (mkF m 36 #[.val (.ref r0), .val (.int p1), .val (.int (16 : Int32)), .val (.int p1), .val (.int (p1 - (16 : Int32))), .val (.int (34 : Int32))] [(.int (34 : Int32))])) rfl (hb hby d39_36)) ?_
  show Onw p e below _ (T4.setTop (mkF m 38 #[.val (.ref r0), .val (.int p1), .val (.int (16 : Int32)), .val (.int p1), .val (.int (p1 - (16 : Int32))), .val (.int (34 : Int32))] [(.int (2147483647 : Int32)), (.int (34 : Int32))]))
  refine Onw.go (fun _ kt => XS.icmpYes X4.here hx rfl (pc0 := 38) (pc' := 51) rfl (hb hby d39_38) rfl (feq (by decide : ¬ ((34 : Int32) = (2147483647 : Int32)))).2 (by decide) (by decide) kt) ?_
  show Onw p e below _ (T4.setTop (mkF m 51 #[.val (.ref r0), .val (.int p1), .val (.int (16 : Int32)), .val (.int p1), .val (.int (p1 - (16 : Int32))), .val (.int (34 : Int32))] []))
  refine Onw.go (fun _ kt => XS.iload X4.here hx rfl (hb hby d39_51) rfl kt) ?_
  show Onw p e below _ (T4.setTop (mkF m 53 #[.val (.ref r0), .val (.int p1), .val (.int (16 : Int32)), .val (.int p1), .val (.int (p1 - (16 : Int32))), .val (.int (34 : Int32))] [(.int (34 : Int32))]))
  refine Onw.go (fun _ kt => XS.aloadN X4.here hx rfl (hb hby d39_53) rfl rfl kt) ?_
  show Onw p e below _ (T4.setTop (mkF m 54 #[.val (.ref r0), .val (.int p1), .val (.int (16 : Int32)), .val (.int p1), .val (.int (p1 - (16 : Int32))), .val (.int (34 : Int32))] [(.ref r0), (.int (34 : Int32))]))
  obtain ⟨T5, X5, e5, st5⟩ := getF X4 hx hZ hown (host := "") (Or.inl (hw _ (own_mg (i := 84) rfl))) Via.refl e4q M0.2.2.1 (g := (mkF m 54 #[.val (.ref r0), .val (.int p1), .val (.int (16 : Int32)), .val (.int p1), .val (.int (p1 - (16 : Int32))), .val (.int (34 : Int32))] [(.ref r0), (.int (34 : Int32))])) rfl rfl (hb hby d39_54)
  refine Onw.go st5 ?_
  show Onw p e below _ (T5.setTop (mkF m 57 #[.val (.ref r0), .val (.int p1), .val (.int (16 : Int32)), .val (.int p1), .val (.int (p1 - (16 : Int32))), .val (.int (34 : Int32))] [(.int (0 : Int32)), (.int (34 : Int32))]))
  refine Onw.go (fun _ kt => XS.ishr X5.here hx rfl (hb hby d39_57) rfl kt) ?_
  show Onw p e below _ (T5.setTop (mkF m 58 #[.val (.ref r0), .val (.int p1), .val (.int (16 : Int32)), .val (.int p1), .val (.int (p1 - (16 : Int32))), .val (.int (34 : Int32))] [(.int ((34 : Int32) >>> ((0 : Int32) &&& 31)))]))
  rw [(by decide : ((34 : Int32) >>> ((0 : Int32) &&& 31)) = (34 : Int32))]
  show Onw p e below _ (T5.setTop (mkF m 58 #[.val (.ref r0), .val (.int p1), .val (.int (16 : Int32)), .val (.int p1), .val (.int (p1 - (16 : Int32))), .val (.int (34 : Int32))] [(.int (34 : Int32))]))
  exact Onw.ret X5 Bd.notSynchronized (fun h => by rw [Bd.returns] at h; cases h) (fun fs hr => retI X5 hx Bd.returns (hb hby d39_58) hr) ⟨rfl, N4, e5⟩ (by decide) (by decide)
theorem pn_6 : plainName "java/util/Arrays" = true := by first | (simp [plainName, overriddenIn]; done) | decide +kernel
theorem ef_30 (m : MethodId) (x0 : Int32) (x1 : Int32) : entryFrame m #[(.int x0), (.int x1)] 2 = mkF m 0 #[.val (.int x0), .val (.int x1)] [] := by first | (simp [entryFrame, mkF, argsToLocals, Value.category]; done) | rfl
def Q_rm30 (Z : State) (p0 : Int32) (p1 : Int32) (h0 : Heap) (n0 : Nat) (v : Option Value) (h : Heap) (L : List Loc) : Prop := v = none ∧ Fr n0 L ∧ h = h0
theorem d30_0 : decode jdk_65_method_131_code 0 = .ok (.iload_n 1, 1) := by decide +kernel
theorem d30_1 : decode jdk_65_method_131_code 1 = .ok (.iload_n 0, 1) := by decide +kernel
theorem d30_2 : decode jdk_65_method_131_code 2 = .ok (.if_icmp .ge 35, 3) := by decide +kernel
theorem d30_37 : decode jdk_65_method_131_code 37 = .ok (.return_, 1) := by decide +kernel
set_option maxRecDepth 65536 in
set_option maxHeartbeats 40000000 in
theorem rm30 (l : Launch) (Z : State) (a0 : Array Value) (hw : ∀ d ∈ tables_1, d.before a0 Z = true) (ws : List Jvm.Cond) (p0 : Int32) (p1 : Int32) (h0 : Heap) (n0 : Nat) (h1 : ¬ p1 < p0) :
    MetFree l (⟨"java/util/Arrays", "checkLength", "(II)V"⟩ : MethodName) (head1 (Jvm.Cond.code (⟨"java/util/Arrays", "checkLength", "(II)V"⟩ : MethodName) jdk_65_method_131_code 2 none :: ws) ({ frames := 0, cells := 0, slots := 0, locals := 0 } : Room)) (fun a U => a = #[(.int p0), (.int p1)] ∧ Z.Warmed39 U.vm ∧ U.heap = h0) (fun _ _ _ _ _ => True) (fun _ U o U' => ∃ v L, o = .returned v ∧ Q_rm30 Z p0 p1 h0 n0 v U'.heap L ∧ FrameEnd U o U' L ({ frames := 0, cells := 0, slots := 0, locals := 0 } : Room).cells ({ frames := 0, cells := 0, slots := 0, locals := 0 } : Room).slots) := by
  refine MetFree.of_bodySF (plainFor_of_name pn_6) hisR ?_
  intro p e s m args below meth c s₁ Bd hml0 hP hK
  obtain ⟨rfl, hZ, hh⟩ := hP
  have hx := Bd.exec
  have hby := Bd.bytes
  have hml : c.maxLocals = 2 := hml0
  have hown : s.vm.findClass "java/util/Arrays" = some m.cls := findClass_of_methodNamed Bd.named
  have hnm := (name_of_methodNamed Bd.named Bd.method).1
  have X0 : Stand p l e ({ frames := 0, cells := 0, slots := 0, locals := 0 } : Room) s m #[(.int p0), (.int p1)] below meth c s₁ [] 0 0 := Stand.of_body Bd
  have e0 : s₁.heap = h0 := by rw [← hh, Bd.state]; rfl
  have N0 := Fr.nil n0
  refine Onw.of (Onw.go (fun _ k => castTop (ef_30 m p0 p1) k) ?_)
  show Onw p e below _ (s₁.setTop (mkF m 0 #[.val (.int p0), .val (.int p1)] []))
  refine Onw.go (fun _ kt => XS.iloadN X0.here hx rfl (hb hby d30_0) rfl kt) ?_
  show Onw p e below _ (s₁.setTop (mkF m 1 #[.val (.int p0), .val (.int p1)] [(.int p1)]))
  refine Onw.go (fun _ kt => XS.iloadN X0.here hx rfl (hb hby d30_1) rfl kt) ?_
  show Onw p e below _ (s₁.setTop (mkF m 2 #[.val (.int p0), .val (.int p1)] [(.int p0), (.int p1)]))
  refine Onw.go (fun _ kt => XS.icmpYes X0.here hx rfl (pc0 := 2) (pc' := 37) rfl (hb hby d30_2) rfl (flt (h1 : ¬ (p1 < p0))).2.1 (by decide) (by decide) kt) ?_
  show Onw p e below _ (s₁.setTop (mkF m 37 #[.val (.int p0), .val (.int p1)] []))
  exact Onw.ret X0 Bd.notSynchronized (fun _ => rfl) (fun fs hr => X0.returnOut hx Bd.returns (hb hby d30_37) hr) ⟨rfl, N0, e0⟩ (by decide) (by decide)
theorem ef_42 (m : MethodId) (x0 : Addr) (x1 : Int32) : entryFrame m #[(.ref x0), (.int x1)] 3 = mkF m 0 #[.val (.ref x0), .val (.int x1), .unset] [] := by first | (simp [entryFrame, mkF, argsToLocals, Value.category]; done) | rfl
def Q_rm42 (Z : State) (r0 : Addr) (p1 : Int32) (k1 : ClassId) (xs : List Int32) (h0 : Heap) (n0 : Nat) (v : Option Value) (h : Heap) (L : List Loc) : Prop := ∃ (b : Addr) (kb : ClassId), v = some (.ref b) ∧ Fr n0 L ∧ Ext h0 h ∧ n0 ≤ b ∧ h0.size ≤ b ∧ Arv Z h b kb .byte (Int32.ofNat (xs ++ List.replicate 18 (0 : Int32)).length) ((xs ++ List.replicate 18 (0 : Int32)).map Value.int) (.int (0 : Int32)) ∧ Exa Z h b "[B"
theorem d42_0 : decode jdk_65_method_121_code 0 = .ok (.iload_n 1, 1) := by decide +kernel
theorem d42_1 : decode jdk_65_method_121_code 1 = .ok (.aload_n 0, 1) := by decide +kernel
theorem d42_2 : decode jdk_65_method_121_code 2 = .ok (.arraylength, 1) := by decide +kernel
theorem d42_3 : decode jdk_65_method_121_code 3 = .ok (.if_icmp .ne 11, 3) := by decide +kernel
theorem d42_14 : decode jdk_65_method_121_code 14 = .ok (.iload_n 1, 1) := by decide +kernel
theorem d42_15 : decode jdk_65_method_121_code 15 = .ok (.newarray .byte, 2) := by decide +kernel
theorem d42_17 : decode jdk_65_method_121_code 17 = .ok (.astore_n 2, 1) := by decide +kernel
theorem d42_18 : decode jdk_65_method_121_code 18 = .ok (.aload_n 0, 1) := by decide +kernel
theorem d42_19 : decode jdk_65_method_121_code 19 = .ok (.iconst 0, 1) := by decide +kernel
theorem d42_20 : decode jdk_65_method_121_code 20 = .ok (.aload_n 2, 1) := by decide +kernel
theorem d42_21 : decode jdk_65_method_121_code 21 = .ok (.iconst 0, 1) := by decide +kernel
theorem d42_22 : decode jdk_65_method_121_code 22 = .ok (.aload_n 0, 1) := by decide +kernel
theorem d42_23 : decode jdk_65_method_121_code 23 = .ok (.arraylength, 1) := by decide +kernel
theorem d42_24 : decode jdk_65_method_121_code 24 = .ok (.iload_n 1, 1) := by decide +kernel
theorem d42_25 : decode jdk_65_method_121_code 25 = .ok (.invokestatic 304, 3) := by decide +kernel
theorem d42_28 : decode jdk_65_method_121_code 28 = .ok (.invokestatic 150, 3) := by decide +kernel
theorem d42_31 : decode jdk_65_method_121_code 31 = .ok (.aload_n 2, 1) := by decide +kernel
theorem d42_32 : decode jdk_65_method_121_code 32 = .ok (.areturn, 1) := by decide +kernel
set_option maxRecDepth 65536 in
set_option maxHeartbeats 40000000 in
theorem rm42 (l : Launch) (Z : State) (a0 : Array Value) (hw : ∀ d ∈ tables_1, d.before a0 Z = true) (ws : List Jvm.Cond) (r0 : Addr) (p1 : Int32) (k1 : ClassId) (xs : List Int32) (h0 : Heap) (n0 : Nat) (V0 : Arv Z h0 r0 k1 .byte (Int32.ofNat (xs).length) ((xs).map Value.int) (.int (0 : Int32))) (hl : xs.length = 16) (h1 : p1 = 34) (Z0 : n0 ≤ h0.size) :
    MetFree l (⟨"java/util/Arrays", "copyOf", "([BI)[B"⟩ : MethodName) (head1 (Jvm.Cond.code (⟨"java/util/Arrays", "copyOf", "([BI)[B"⟩ : MethodName) jdk_65_method_121_code 3 (some (.array .byte)) :: ws) ({ frames := 1, cells := 1, slots := 34, locals := 18 } : Room)) (fun a U => a = #[(.ref r0), (.int p1)] ∧ Z.Warmed39 U.vm ∧ U.heap = h0) (fun _ _ _ _ _ => True) (fun _ U o U' => ∃ v L, o = .returned v ∧ Q_rm42 Z r0 p1 k1 xs h0 n0 v U'.heap L ∧ FrameEnd U o U' L ({ frames := 1, cells := 1, slots := 34, locals := 18 } : Room).cells ({ frames := 1, cells := 1, slots := 34, locals := 18 } : Room).slots) := by
  refine MetFree.of_bodySF (plainFor_of_name pn_6) hisR ?_
  intro p e s m args below meth c s₁ Bd hml0 hP hK
  obtain ⟨rfl, hZ, hh⟩ := hP
  have hx := Bd.exec
  have hby := Bd.bytes
  have hml : c.maxLocals = 3 := hml0
  have hown : s.vm.findClass "java/util/Arrays" = some m.cls := findClass_of_methodNamed Bd.named
  have hnm := (name_of_methodNamed Bd.named Bd.method).1
  have X0 : Stand p l e ({ frames := 1, cells := 1, slots := 34, locals := 18 } : Room) s m #[(.ref r0), (.int p1)] below meth c s₁ [] 0 0 := Stand.of_body Bd
  have e0 : s₁.heap = h0 := by rw [← hh, Bd.state]; rfl
  have N0 := Fr.nil n0
  refine Onw.of (Onw.go (fun _ k => castTop (ef_42 m r0 p1) k) ?_)
  show Onw p e below _ (s₁.setTop (mkF m 0 #[.val (.ref r0), .val (.int p1), .unset] []))
  subst h1
  show Onw p e below _ (s₁.setTop (mkF m 0 #[.val (.ref r0), .val (.int (34 : Int32)), .unset] []))
  obtain ⟨c0, A0, qa0, S0, Q0, H0, G0⟩ := id V0
  refine Onw.go (fun _ kt => XS.iloadN X0.here hx rfl (hb hby d42_0) rfl kt) ?_
  show Onw p e below _ (s₁.setTop (mkF m 1 #[.val (.ref r0), .val (.int (34 : Int32)), .unset] [(.int (34 : Int32))]))
  refine Onw.go (fun _ kt => XS.aloadN X0.here hx rfl (hb hby d42_1) rfl rfl kt) ?_
  show Onw p e below _ (s₁.setTop (mkF m 2 #[.val (.ref r0), .val (.int (34 : Int32)), .unset] [(.ref r0), (.int (34 : Int32))]))
  refine Onw.go (X0.arraylength hx (by rw [e0]; exact A0.1) (State.isArrayOf_alike hZ.alike A0.2.1) (g := (mkF m 2 #[.val (.ref r0), .val (.int (34 : Int32)), .unset] [(.ref r0), (.int (34 : Int32))])) rfl rfl (hb hby d42_2)) ?_
  rw [len_of S0 Q0]
  show Onw p e below _ (s₁.setTop (mkF m 3 #[.val (.ref r0), .val (.int (34 : Int32)), .unset] [(.int (Int32.ofNat xs.length)), (.int (34 : Int32))]))
  rw [(by rw [hl]; rfl : (Int32.ofNat xs.length) = (16 : Int32))]
  show Onw p e below _ (s₁.setTop (mkF m 3 #[.val (.ref r0), .val (.int (34 : Int32)), .unset] [(.int (16 : Int32)), (.int (34 : Int32))]))
  refine Onw.go (fun _ kt => XS.icmpYes X0.here hx rfl (pc0 := 3) (pc' := 14) rfl (hb hby d42_3) rfl (feq (by decide : ¬ ((34 : Int32) = (16 : Int32)))).2 (by decide) (by decide) kt) ?_
  show Onw p e below _ (s₁.setTop (mkF m 14 #[.val (.ref r0), .val (.int (34 : Int32)), .unset] []))
  refine Onw.go (fun _ kt => XS.iloadN X0.here hx rfl (hb hby d42_14) rfl kt) ?_
  show Onw p e below _ (s₁.setTop (mkF m 15 #[.val (.ref r0), .val (.int (34 : Int32)), .unset] [(.int (34 : Int32))]))
  obtain ⟨T1, h1, k1, X1, e1, E1, A1, EA1, st1⟩ := own_newPE X0 hx hZ (hw _ (own_mg (i := 42) rfl)) e0 (g := (mkF m 15 #[.val (.ref r0), .val (.int (34 : Int32)), .unset] [(.int (34 : Int32))])) rfl (hb hby d42_15) rfl (by decide) (cap := 34) (by decide) (by decide) (by decide) (by decide)
  obtain ⟨b, gg1⟩ : ∃ own_z, own_z = h0.size := ⟨_, rfl⟩
  rw [← gg1] at A1 EA1 st1
  refine Onw.go st1 ?_
  show Onw p e below _ (T1.setTop (mkF m 17 #[.val (.ref r0), .val (.int (34 : Int32)), .unset] [(.ref b)]))
  have g_b : n0 ≤ b := Nat.le_trans Z0 (Nat.le_of_eq gg1.symm)
  have V1 : Arv Z h1 b k1 .byte (Int32.ofNat (List.replicate 34 (0 : Int32)).length) ((List.replicate 34 (0 : Int32)).map Value.int) (.int (0 : Int32)) := (Arv.new A1 (by decide)).pad (pad_rep [] (.int (0 : Int32)) 34)
  refine Onw.go (fun _ kt => XS.astoreN X1.here hx rfl (hb hby d42_17) rfl rfl (l' := #[.val (.ref r0), .val (.int (34 : Int32)), .val (.ref b)]) rfl kt) ?_
  show Onw p e below _ (T1.setTop (mkF m 18 #[.val (.ref r0), .val (.int (34 : Int32)), .val (.ref b)] []))
  refine Onw.go (fun _ kt => XS.aloadN X1.here hx rfl (hb hby d42_18) rfl rfl kt) ?_
  show Onw p e below _ (T1.setTop (mkF m 19 #[.val (.ref r0), .val (.int (34 : Int32)), .val (.ref b)] [(.ref r0)]))
  refine Onw.go (fun _ kt => XS.iconst X1.here hx rfl (hb hby d42_19) kt) ?_
  show Onw p e below _ (T1.setTop (mkF m 20 #[.val (.ref r0), .val (.int (34 : Int32)), .val (.ref b)] [(.int (0 : Int32)), (.ref r0)]))
  refine Onw.go (fun _ kt => XS.aloadN X1.here hx rfl (hb hby d42_20) rfl rfl kt) ?_
  show Onw p e below _ (T1.setTop (mkF m 21 #[.val (.ref r0), .val (.int (34 : Int32)), .val (.ref b)] [(.ref b), (.int (0 : Int32)), (.ref r0)]))
  refine Onw.go (fun _ kt => XS.iconst X1.here hx rfl (hb hby d42_21) kt) ?_
  show Onw p e below _ (T1.setTop (mkF m 22 #[.val (.ref r0), .val (.int (34 : Int32)), .val (.ref b)] [(.int (0 : Int32)), (.ref b), (.int (0 : Int32)), (.ref r0)]))
  refine Onw.go (fun _ kt => XS.aloadN X1.here hx rfl (hb hby d42_22) rfl rfl kt) ?_
  show Onw p e below _ (T1.setTop (mkF m 23 #[.val (.ref r0), .val (.int (34 : Int32)), .val (.ref b)] [(.ref r0), (.int (0 : Int32)), (.ref b), (.int (0 : Int32)), (.ref r0)]))
  refine Onw.go (X1.arraylength hx (by rw [e1]; exact (A0.ext E1).1) (State.isArrayOf_alike hZ.alike (A0.ext E1).2.1) (g := (mkF m 23 #[.val (.ref r0), .val (.int (34 : Int32)), .val (.ref b)] [(.ref r0), (.int (0 : Int32)), (.ref b), (.int (0 : Int32)), (.ref r0)])) rfl rfl (hb hby d42_23)) ?_
  rw [len_of S0 Q0]
  show Onw p e below _ (T1.setTop (mkF m 24 #[.val (.ref r0), .val (.int (34 : Int32)), .val (.ref b)] [(.int (Int32.ofNat xs.length)), (.int (0 : Int32)), (.ref b), (.int (0 : Int32)), (.ref r0)]))
  rw [(by rw [hl]; rfl : (Int32.ofNat xs.length) = (16 : Int32))]
  show Onw p e below _ (T1.setTop (mkF m 24 #[.val (.ref r0), .val (.int (34 : Int32)), .val (.ref b)] [(.int (16 : Int32)), (.int (0 : Int32)), (.ref b), (.int (0 : Int32)), (.ref r0)]))
  refine Onw.go (fun _ kt => XS.iloadN X1.here hx rfl (hb hby d42_24) rfl kt) ?_
  show Onw p e below _ (T1.setTop (mkF m 25 #[.val (.ref r0), .val (.int (34 : Int32)), .val (.ref b)] [(.int (34 : Int32)), (.int (16 : Int32)), (.int (0 : Int32)), (.ref b), (.int (0 : Int32)), (.ref r0)]))
  obtain ⟨_, _, ⟨T2, L2, k2, n2⟩, -, X2, ⟨Lc2, hQ2, l2, y2, z2⟩, st2⟩ := Jvm.LawKit.callS X1 hx (y := (⟨"java/lang/Math", "min", "(II)I"⟩ : MethodName)) hown (mvT hZ (hw _ (own_mg (i := 201) rfl))) (mvT hZ (hw _ (own_mg (i := 202) rfl))) (mvT hZ (hw _ (own_mg (i := 203) rfl))) (mvT hZ (hw _ (own_mg (i := 204) rfl))) (by decide) (backOf (W := 4) (rm31 l Z a0 hw [] (16 : Int32) (34 : Int32)  h1 n0 ) hZ (hw _ (own_mg (i := 204) rfl)) (hw _ (own_mg (i := 203) rfl)) (by decide) (by decide)) (g := (mkF m 25 #[.val (.ref r0), .val (.int (34 : Int32)), .val (.ref b)] [(.int (34 : Int32)), (.int (16 : Int32)), (.int (0 : Int32)), (.ref b), (.int (0 : Int32)), (.ref r0)])) rfl (by rw [hml]; rfl) (argsL := [(.int (16 : Int32)), (.int (34 : Int32))]) (rest := [(.int (0 : Int32)), (.ref b), (.int (0 : Int32)), (.ref r0)]) (lenOf pd_24 rfl) rfl (by show 2 * 0 + _ ≤ _; exact Nat.le_of_eq rfl) (hb hby d42_25) (fun _ _ => ⟨rfl, e1, (by decide : 1 + 0 ≤ _), (by decide : 34 + 0 ≤ _)⟩)
  dsimp only [Pt.U, Pt.locs, Pt.cells, Pt.slots] at X2 l2 y2 z2 st2 hQ2
  subst l2 y2 z2
  obtain ⟨rfl, N2q, e2q⟩ := hQ2
  have N2 := Fr.app N0 N2q
  refine Onw.go st2 ?_
  show Onw p e below _ (T2.setTop (mkF m 28 #[.val (.ref r0), .val (.int (34 : Int32)), .val (.ref b)] [(.int (own_min (16 : Int32) (34 : Int32))), (.int (0 : Int32)), (.ref b), (.int (0 : Int32)), (.ref r0)]))
  rw [(by decide : (own_min (16 : Int32) (34 : Int32)) = (16 : Int32))]
  show Onw p e below _ (T2.setTop (mkF m 28 #[.val (.ref r0), .val (.int (34 : Int32)), .val (.ref b)] [(.int (16 : Int32)), (.int (0 : Int32)), (.ref b), (.int (0 : Int32)), (.ref r0)]))
  obtain ⟨T3, h3, L3, X3, e3, N3, K3, V3, st3⟩ := own_cpB (zs := xs ++ List.replicate 18 (0 : Int32)) (d := 0) (n := 16) X2 hx hZ hown (hw _ (own_mg (i := 205) rfl)) (hw _ (own_mg (i := 162) rfl)) (hw _ (own_mg (i := 160) rfl)) (hw _ (own_mg (i := 161) rfl)) e2q (V0.ext E1) V1 rfl rfl rfl (by omega) (by decide) (by omega) (by decide) (by rw [List.take_of_length_le (Nat.le_of_eq hl)]; rfl) N2 g_b (g := (mkF m 28 #[.val (.ref r0), .val (.int (34 : Int32)), .val (.ref b)] [(.int (16 : Int32)), (.int (0 : Int32)), (.ref b), (.int (0 : Int32)), (.ref r0)])) rfl (by rw [hml]; rfl) rfl (hb hby d42_28) (by decide) (W := 0) (by show 2 * 0 + _ ≤ _; exact Nat.le_of_eq rfl) (by decide)
  refine Onw.go st3 ?_
  show Onw p e below _ (T3.setTop (mkF m 31 #[.val (.ref r0), .val (.int (34 : Int32)), .val (.ref b)] []))
  refine Onw.go (fun _ kt => XS.aloadN X3.here hx rfl (hb hby d42_31) rfl rfl kt) ?_
  show Onw p e below _ (T3.setTop (mkF m 32 #[.val (.ref r0), .val (.int (34 : Int32)), .val (.ref b)] [(.ref b)]))
  exact Onw.ret X3 Bd.notSynchronized (fun h => by rw [Bd.returns] at h; cases h) (fun fs hr => X3.areturnOut hx rfl Bd.returns rfl (hb hby d42_32) hr) ⟨b, k1, rfl, N3, by rw [e3]; exact own_extk E1 K3 (Nat.le_of_eq gg1.symm), g_b, Nat.le_of_eq gg1.symm, by rw [e3]; exact V3, by rw [e3]; exact EA1.keep K3⟩ (by decide) (by decide)
theorem ef_12 (m : MethodId) (x0 : Addr) (x1 : Int32) : entryFrame m #[(.ref x0), (.int x1)] 3 = mkF m 0 #[.val (.ref x0), .val (.int x1), .unset] [] := by first | (simp [entryFrame, mkF, argsToLocals, Value.category]; done) | rfl
def Q_rm12 (Z : State) (r0 : Addr) (p1 : Int32) (m1 : Nat) (v1 : Addr) (k1 : ClassId) (v3 : Value) (xs : List Int32) (h0 : Heap) (n0 : Nat) (v : Option Value) (h : Heap) (L : List Loc) : Prop := ∃ (v2 : Addr) (k2 : ClassId) (j : Nat), v = none ∧ Fr n0 L ∧ Keep h0 h [r0] ∧ n0 ≤ v2 ∧ (v2 = v1 ∨ h0.size ≤ v2) ∧ own_SB Z h r0 (.ref v2) (.int (0 : Int32)) v3 ∧ Arv Z h v2 k2 .byte (Int32.ofNat (xs ++ List.replicate j (0 : Int32)).length) ((xs ++ List.replicate j (0 : Int32)).map Value.int) (.int (0 : Int32)) ∧ Exa Z h v2 "[B" ∧ m1 ≤ xs.length + j ∧ (xs.length + j = 16 ∨ xs.length + j = 34)
theorem d12_0 : decode jdk_68_method_9_code 0 = .ok (.aload_n 0, 1) := by decide +kernel
theorem d12_1 : decode jdk_68_method_9_code 1 = .ok (.getfield 15, 3) := by decide +kernel
theorem d12_4 : decode jdk_68_method_9_code 4 = .ok (.arraylength, 1) := by decide +kernel
theorem d12_5 : decode jdk_68_method_9_code 5 = .ok (.aload_n 0, 1) := by decide +kernel
theorem d12_6 : decode jdk_68_method_9_code 6 = .ok (.getfield 22, 3) := by decide +kernel
theorem d12_9 : decode jdk_68_method_9_code 9 = .ok (.ishr, 1) := by decide +kernel
theorem d12_10 : decode jdk_68_method_9_code 10 = .ok (.istore_n 2, 1) := by decide +kernel
theorem d12_11 : decode jdk_68_method_9_code 11 = .ok (.iload_n 1, 1) := by decide +kernel
theorem d12_12 : decode jdk_68_method_9_code 12 = .ok (.iload_n 2, 1) := by decide +kernel
theorem d12_13 : decode jdk_68_method_9_code 13 = .ok (.isub, 1) := by decide +kernel
theorem d12_14 : decode jdk_68_method_9_code 14 = .ok (.ifCond .le 24, 3) := by decide +kernel
theorem d12_17 : decode jdk_68_method_9_code 17 = .ok (.aload_n 0, 1) := by decide +kernel
theorem d12_18 : decode jdk_68_method_9_code 18 = .ok (.aload_n 0, 1) := by decide +kernel
theorem d12_19 : decode jdk_68_method_9_code 19 = .ok (.getfield 15, 3) := by decide +kernel
theorem d12_22 : decode jdk_68_method_9_code 22 = .ok (.aload_n 0, 1) := by decide +kernel
theorem d12_23 : decode jdk_68_method_9_code 23 = .ok (.iload_n 1, 1) := by decide +kernel
theorem d12_24 : decode jdk_68_method_9_code 24 = .ok (.invokevirtual 104, 3) := by decide +kernel
theorem d12_27 : decode jdk_68_method_9_code 27 = .ok (.aload_n 0, 1) := by decide +kernel
theorem d12_28 : decode jdk_68_method_9_code 28 = .ok (.getfield 22, 3) := by decide +kernel
theorem d12_31 : decode jdk_68_method_9_code 31 = .ok (.ishl, 1) := by decide +kernel
theorem d12_32 : decode jdk_68_method_9_code 32 = .ok (.invokestatic 108, 3) := by decide +kernel
theorem d12_35 : decode jdk_68_method_9_code 35 = .ok (.putfield 15, 3) := by decide +kernel
theorem d12_38 : decode jdk_68_method_9_code 38 = .ok (.return_, 1) := by decide +kernel
set_option maxRecDepth 65536 in
set_option maxHeartbeats 40000000 in
theorem rm12 (l : Launch) (Z : State) (a0 : Array Value) (hw : ∀ d ∈ tables_1, d.before a0 Z = true) (ws : List Jvm.Cond) (r0 : Addr) (p1 : Int32) (m1 : Nat) (v1 : Addr) (k1 : ClassId) (v3 : Value) (xs : List Int32) (h0 : Heap) (n0 : Nat) (M0 : own_SB Z h0 r0 (.ref v1) (.int (0 : Int32)) v3) (V0 : Arv Z h0 v1 k1 .byte (Int32.ofNat (xs).length) ((xs).map Value.int) (.int (0 : Int32))) (EA : Exa Z h0 v1 "[B") (hl : xs.length = 16 ∨ xs.length = 34) (hm : m1 ≤ 21) (hp : p1 = Int32.ofNat m1) (g_r0 : n0 ≤ r0) (g1 : n0 ≤ v1) (Z0 : n0 ≤ h0.size) :
    MetFree l (⟨"java/lang/AbstractStringBuilder", "ensureCapacityInternal", "(I)V"⟩ : MethodName) (head1 (Jvm.Cond.code (⟨"java/lang/AbstractStringBuilder", "ensureCapacityInternal", "(I)V"⟩ : MethodName) jdk_68_method_9_code 3 none :: ws) ({ frames := 3, cells := 1, slots := 34, locals := 48 } : Room)) (fun a U => a = #[(.ref r0), (.int p1)] ∧ Z.Warmed39 U.vm ∧ U.heap = h0) (fun _ _ _ _ _ => True) (fun _ U o U' => ∃ v L, o = .returned v ∧ Q_rm12 Z r0 p1 m1 v1 k1 v3 xs h0 n0 v U'.heap L ∧ FrameEnd U o U' L ({ frames := 3, cells := 1, slots := 34, locals := 48 } : Room).cells ({ frames := 3, cells := 1, slots := 34, locals := 48 } : Room).slots) := by
  refine MetFree.of_bodySF (plainFor_of_name pn_3) hisR ?_
  intro p e s m args below meth c s₁ Bd hml0 hP hK
  obtain ⟨rfl, hZ, hh⟩ := hP
  have hx := Bd.exec
  have hby := Bd.bytes
  have hml : c.maxLocals = 3 := hml0
  have hown : s.vm.findClass "java/lang/AbstractStringBuilder" = some m.cls := findClass_of_methodNamed Bd.named
  have hnm := (name_of_methodNamed Bd.named Bd.method).1
  have X0 : Stand p l e ({ frames := 3, cells := 1, slots := 34, locals := 48 } : Room) s m #[(.ref r0), (.int p1)] below meth c s₁ [] 0 0 := Stand.of_body Bd
  have e0 : s₁.heap = h0 := by rw [← hh, Bd.state]; rfl
  have N0 := Fr.nil n0
  refine Onw.of (Onw.go (fun _ k => castTop (ef_12 m r0 p1) k) ?_)
  show Onw p e below _ (s₁.setTop (mkF m 0 #[.val (.ref r0), .val (.int p1), .unset] []))
  subst hp
  show Onw p e below _ (s₁.setTop (mkF m 0 #[.val (.ref r0), .val (.int (Int32.ofNat m1)), .unset] []))
  obtain ⟨c0, A0, qa0, S0, Q0, H0, G0⟩ := id V0
  refine Onw.go (fun _ kt => XS.aloadN X0.here hx rfl (hb hby d12_0) rfl rfl kt) ?_
  show Onw p e below _ (s₁.setTop (mkF m 1 #[.val (.ref r0), .val (.int (Int32.ofNat m1)), .unset] [(.ref r0)]))
  obtain ⟨T1, X1, e1, st1⟩ := getF X0 hx hZ hown (host := "") (Or.inl (hw _ (own_mg (i := 82) rfl))) Via.refl e0 M0.2.1 (g := (mkF m 1 #[.val (.ref r0), .val (.int (Int32.ofNat m1)), .unset] [(.ref r0)])) rfl rfl (hb hby d12_1)
  refine Onw.go st1 ?_
  show Onw p e below _ (T1.setTop (mkF m 4 #[.val (.ref r0), .val (.int (Int32.ofNat m1)), .unset] [(.ref v1)]))
  refine Onw.go (X1.arraylength hx (by rw [e1]; exact A0.1) (State.isArrayOf_alike hZ.alike A0.2.1) (g := (mkF m 4 #[.val (.ref r0), .val (.int (Int32.ofNat m1)), .unset] [(.ref v1)])) rfl rfl (hb hby d12_4)) ?_
  rw [len_of S0 Q0]
  show Onw p e below _ (T1.setTop (mkF m 5 #[.val (.ref r0), .val (.int (Int32.ofNat m1)), .unset] [(.int (Int32.ofNat xs.length))]))
  refine Onw.go (fun _ kt => XS.aloadN X1.here hx rfl (hb hby d12_5) rfl rfl kt) ?_
  show Onw p e below _ (T1.setTop (mkF m 6 #[.val (.ref r0), .val (.int (Int32.ofNat m1)), .unset] [(.ref r0), (.int (Int32.ofNat xs.length))]))
  obtain ⟨T2, X2, e2, st2⟩ := getF X1 hx hZ hown (host := "") (Or.inl (hw _ (own_mg (i := 84) rfl))) Via.refl e1 M0.2.2.1 (g := (mkF m 6 #[.val (.ref r0), .val (.int (Int32.ofNat m1)), .unset] [(.ref r0), (.int (Int32.ofNat xs.length))])) rfl rfl (hb hby d12_6)
  refine Onw.go st2 ?_
  show Onw p e below _ (T2.setTop (mkF m 9 #[.val (.ref r0), .val (.int (Int32.ofNat m1)), .unset] [(.int (0 : Int32)), (.int (Int32.ofNat xs.length))]))
  refine Onw.go (fun _ kt => XS.ishr X2.here hx rfl (hb hby d12_9) rfl kt) ?_
  show Onw p e below _ (T2.setTop (mkF m 10 #[.val (.ref r0), .val (.int (Int32.ofNat m1)), .unset] [(.int ((Int32.ofNat xs.length) >>> ((0 : Int32) &&& 31)))]))
  rw [(own_shr0 _ : ((Int32.ofNat xs.length) >>> ((0 : Int32) &&& 31)) = (Int32.ofNat xs.length))]
  show Onw p e below _ (T2.setTop (mkF m 10 #[.val (.ref r0), .val (.int (Int32.ofNat m1)), .unset] [(.int (Int32.ofNat xs.length))]))
  refine Onw.go (fun _ kt => XS.istoreN X2.here hx rfl (hb hby d12_10) rfl (l' := #[.val (.ref r0), .val (.int (Int32.ofNat m1)), .val (.int (Int32.ofNat xs.length))]) rfl kt) ?_
  show Onw p e below _ (T2.setTop (mkF m 11 #[.val (.ref r0), .val (.int (Int32.ofNat m1)), .val (.int (Int32.ofNat xs.length))] []))
  refine Onw.go (fun _ kt => XS.iloadN X2.here hx rfl (hb hby d12_11) rfl kt) ?_
  show Onw p e below _ (T2.setTop (mkF m 12 #[.val (.ref r0), .val (.int (Int32.ofNat m1)), .val (.int (Int32.ofNat xs.length))] [(.int (Int32.ofNat m1))]))
  refine Onw.go (fun _ kt => XS.iloadN X2.here hx rfl (hb hby d12_12) rfl kt) ?_
  show Onw p e below _ (T2.setTop (mkF m 13 #[.val (.ref r0), .val (.int (Int32.ofNat m1)), .val (.int (Int32.ofNat xs.length))] [(.int (Int32.ofNat xs.length)), (.int (Int32.ofNat m1))]))
  refine Onw.go (fun _ kt => XS.isub X2.here hx rfl (hb hby d12_13) rfl kt) ?_
  show Onw p e below _ (T2.setTop (mkF m 14 #[.val (.ref r0), .val (.int (Int32.ofNat m1)), .val (.int (Int32.ofNat xs.length))] [(.int ((Int32.ofNat m1) - (Int32.ofNat xs.length)))]))
  by_cases h1 : (0 : Int32) < ((Int32.ofNat m1) - (Int32.ofNat xs.length))
  · refine Onw.go (fun _ kt => XS.ifNo X2.here hx rfl (hb hby d12_14) rfl ((if0 _ _).trans (tlt (h1 : (0 : Int32) < ((Int32.ofNat m1) - (Int32.ofNat xs.length)))).2.2.2) kt) ?_
    show Onw p e below _ (T2.setTop (mkF m 17 #[.val (.ref r0), .val (.int (Int32.ofNat m1)), .val (.int (Int32.ofNat xs.length))] []))
    obtain ⟨hl16, hm16⟩ := (own_grow hm hl).mp h1
    refine Onw.go (fun _ kt => XS.aloadN X2.here hx rfl (hb hby d12_17) rfl rfl kt) ?_
    show Onw p e below _ (T2.setTop (mkF m 18 #[.val (.ref r0), .val (.int (Int32.ofNat m1)), .val (.int (Int32.ofNat xs.length))] [(.ref r0)]))
    refine Onw.go (fun _ kt => XS.aloadN X2.here hx rfl (hb hby d12_18) rfl rfl kt) ?_
    show Onw p e below _ (T2.setTop (mkF m 19 #[.val (.ref r0), .val (.int (Int32.ofNat m1)), .val (.int (Int32.ofNat xs.length))] [(.ref r0), (.ref r0)]))
    obtain ⟨T3, X3, e3, st3⟩ := getF X2 hx hZ hown (host := "") (Or.inl (hw _ (own_mg (i := 82) rfl))) Via.refl e2 M0.2.1 (g := (mkF m 19 #[.val (.ref r0), .val (.int (Int32.ofNat m1)), .val (.int (Int32.ofNat xs.length))] [(.ref r0), (.ref r0)])) rfl rfl (hb hby d12_19)
    refine Onw.go st3 ?_
    show Onw p e below _ (T3.setTop (mkF m 22 #[.val (.ref r0), .val (.int (Int32.ofNat m1)), .val (.int (Int32.ofNat xs.length))] [(.ref v1), (.ref r0)]))
    refine Onw.go (fun _ kt => XS.aloadN X3.here hx rfl (hb hby d12_22) rfl rfl kt) ?_
    show Onw p e below _ (T3.setTop (mkF m 23 #[.val (.ref r0), .val (.int (Int32.ofNat m1)), .val (.int (Int32.ofNat xs.length))] [(.ref r0), (.ref v1), (.ref r0)]))
    refine Onw.go (fun _ kt => XS.iloadN X3.here hx rfl (hb hby d12_23) rfl kt) ?_
    show Onw p e below _ (T3.setTop (mkF m 24 #[.val (.ref r0), .val (.int (Int32.ofNat m1)), .val (.int (Int32.ofNat xs.length))] [(.int (Int32.ofNat m1)), (.ref r0), (.ref v1), (.ref r0)]))
    obtain ⟨cq4, kq4, q4a, -, -, q4c, -⟩ := M0.1
    obtain ⟨_, _, ⟨T4, L4, k4, n4⟩, -, X4, ⟨Lc4, hQ4, l4, y4, z4⟩, st4⟩ := X3.privateBack hx (y := (⟨"java/lang/AbstractStringBuilder", "newCapacity", "(I)I"⟩ : MethodName)) hown (mvT hZ (hw _ (own_mg (i := 240) rfl))) (mvT hZ (hw _ (own_mg (i := 241) rfl))) (own_self (z := (⟨"java/lang/AbstractStringBuilder", "isLatin1", "()Z"⟩ : MethodName)) (mvT hZ (hw _ (own_mg (i := 111) rfl))) (Cond.privateMethod_at (args := #[]) (mvT hZ (hw _ (own_mg (i := 242) rfl)))) (mvT hZ (hw _ (own_mg (i := 241) rfl))) rfl (by decide)) (Cond.privateMethod_at (args := #[]) (mvT hZ (hw _ (own_mg (i := 242) rfl)))) (mvT hZ (hw _ (own_mg (i := 244) rfl))) (by decide) (backOf (W := 2) (rm39 l Z a0 hw [] r0 (Int32.ofNat m1) v1 k1 v3 xs h0 n0 M0 V0 hl16 (own_cap hm hm16)) hZ (hw _ (own_mg (i := 244) rfl)) (hw _ (own_mg (i := 78) rfl)) (by decide) (by decide)) (g := (mkF m 24 #[.val (.ref r0), .val (.int (Int32.ofNat m1)), .val (.int (Int32.ofNat xs.length))] [(.int (Int32.ofNat m1)), (.ref r0), (.ref v1), (.ref r0)])) rfl (by rw [hml]; rfl) (Steps.refl _) (a := r0) (cell := cq4) (by rw [e3]; exact q4a) (fun own_q own_e => by rw [own_e] at q4c; cases q4c) (argsL := [(.int (Int32.ofNat m1))]) (rest := [(.ref v1), (.ref r0)]) (lenOf pd_30 rfl) rfl (by show 2 * 0 + _ ≤ _; exact Nat.le_of_eq rfl) (hb hby d12_24) (fun _ _ => ⟨rfl, e3, (by decide : 0 + 0 ≤ _), (by decide : 0 + 0 ≤ _)⟩)
    dsimp only [Pt.U, Pt.locs, Pt.cells, Pt.slots] at X4 l4 y4 z4 st4 hQ4
    subst l4 y4 z4
    obtain ⟨rfl, N4q, e4q⟩ := hQ4
    have N4 := Fr.app N0 N4q
    refine Onw.go (fun _ kt => st4.trans kt) ?_
    show Onw p e below _ (T4.setTop (mkF m 27 #[.val (.ref r0), .val (.int (Int32.ofNat m1)), .val (.int (Int32.ofNat xs.length))] [(.int (34 : Int32)), (.ref v1), (.ref r0)]))
    refine Onw.go (fun _ kt => XS.aloadN X4.here hx rfl (hb hby d12_27) rfl rfl kt) ?_
    show Onw p e below _ (T4.setTop (mkF m 28 #[.val (.ref r0), .val (.int (Int32.ofNat m1)), .val (.int (Int32.ofNat xs.length))] [(.ref r0), (.int (34 : Int32)), (.ref v1), (.ref r0)]))
    obtain ⟨T5, X5, e5, st5⟩ := getF X4 hx hZ hown (host := "") (Or.inl (hw _ (own_mg (i := 84) rfl))) Via.refl e4q M0.2.2.1 (g := (mkF m 28 #[.val (.ref r0), .val (.int (Int32.ofNat m1)), .val (.int (Int32.ofNat xs.length))] [(.ref r0), (.int (34 : Int32)), (.ref v1), (.ref r0)])) rfl rfl (hb hby d12_28)
    refine Onw.go st5 ?_
    show Onw p e below _ (T5.setTop (mkF m 31 #[.val (.ref r0), .val (.int (Int32.ofNat m1)), .val (.int (Int32.ofNat xs.length))] [(.int (0 : Int32)), (.int (34 : Int32)), (.ref v1), (.ref r0)]))
    refine Onw.go (fun _ kt => XS.ishl X5.here hx rfl (hb hby d12_31) rfl kt) ?_
    show Onw p e below _ (T5.setTop (mkF m 32 #[.val (.ref r0), .val (.int (Int32.ofNat m1)), .val (.int (Int32.ofNat xs.length))] [(.int ((34 : Int32) <<< ((0 : Int32) &&& 31))), (.ref v1), (.ref r0)]))
    rw [(by decide : ((34 : Int32) <<< ((0 : Int32) &&& 31)) = (34 : Int32))]
    show Onw p e below _ (T5.setTop (mkF m 32 #[.val (.ref r0), .val (.int (Int32.ofNat m1)), .val (.int (Int32.ofNat xs.length))] [(.int (34 : Int32)), (.ref v1), (.ref r0)]))
    obtain ⟨_, _, ⟨T6, L6, k6, n6⟩, -, X6, ⟨Lc6, hQ6, l6, y6, z6⟩, st6⟩ := Jvm.LawKit.callS X5 hx (y := (⟨"java/util/Arrays", "copyOf", "([BI)[B"⟩ : MethodName)) hown (mvT hZ (hw _ (own_mg (i := 254) rfl))) (mvT hZ (hw _ (own_mg (i := 255) rfl))) (mvT hZ (hw _ (own_mg (i := 193) rfl))) (mvT hZ (hw _ (own_mg (i := 256) rfl))) (by decide) (backOf (W := 1) (rm42 l Z a0 hw [] v1 (34 : Int32) k1 xs h0 n0 V0 hl16 rfl Z0) hZ (hw _ (own_mg (i := 256) rfl)) (hw _ (own_mg (i := 193) rfl)) (by decide) (by decide)) (g := (mkF m 32 #[.val (.ref r0), .val (.int (Int32.ofNat m1)), .val (.int (Int32.ofNat xs.length))] [(.int (34 : Int32)), (.ref v1), (.ref r0)])) rfl (by rw [hml]; rfl) (argsL := [(.ref v1), (.int (34 : Int32))]) (rest := [(.ref r0)]) (lenOf pd_32 rfl) rfl (by show 2 * 0 + _ ≤ _; exact Nat.le_of_eq rfl) (hb hby d12_32) (fun _ _ => ⟨rfl, e5, (by decide : 0 + 1 ≤ _), (by decide : 0 + 34 ≤ _)⟩)
    dsimp only [Pt.U, Pt.locs, Pt.cells, Pt.slots] at X6 l6 y6 z6 st6 hQ6
    subst l6 y6 z6
    obtain ⟨b6, kb6, rfl, N6q, E6, g6, s6, V6, EA6⟩ := hQ6
    have N6 := Fr.app N4 N6q
    refine Onw.go st6 ?_
    show Onw p e below _ (T6.setTop (mkF m 35 #[.val (.ref r0), .val (.int (Int32.ofNat m1)), .val (.int (Int32.ofNat xs.length))] [(.ref b6), (.ref r0)]))
    have ne1 : b6 ≠ r0 := fun q => Nat.lt_irrefl _ (Nat.lt_of_lt_of_le (q ▸ M0.1.lt) s6)
    obtain ⟨T7, h7, X7, e7, W7, st7⟩ := putF X6 hx hZ hown (host := "") (Or.inl (hw _ (own_mg (i := 82) rfl))) Via.refl rfl (M0.ext E6).2.1 (M0.ext E6).1 (Or.inl (hw _ (own_mg (i := 83) rfl))) (hw _ (own_mg (i := 69) rfl)) (ty := (.array .byte)) (by decide) rfl rfl (g := (mkF m 35 #[.val (.ref r0), .val (.int (Int32.ofNat m1)), .val (.int (Int32.ofNat xs.length))] [(.ref b6), (.ref r0)])) rfl rfl (hb hby d12_35)
    have N7 := Fr.snoc X7 N6 g_r0
    refine Onw.go st7 ?_
    show Onw p e below _ (T7.setTop (mkF m 38 #[.val (.ref r0), .val (.int (Int32.ofNat m1)), .val (.int (Int32.ofNat xs.length))] []))
    have M1 := own_set_value hw (M0.ext E6) W7
    exact Onw.ret X7 Bd.notSynchronized (fun _ => rfl) (fun fs hr => X7.returnOut hx Bd.returns (hb hby d12_38) hr) ⟨b6, kb6, 18, rfl, N7, by rw [e7]; exact ((Keep.refl h0 [r0]).ext E6).wr W7 (Or.inl (List.mem_of_getElem? (i := 0) rfl)), g6, Or.inr s6, by rw [e7]; exact M1, by rw [e7]; exact V6.other W7 ne1, by rw [e7]; exact EA6.wr W7, by omega, by omega⟩ (by decide) (by decide)
  · refine Onw.go (fun _ kt => XS.ifYes X2.here hx rfl (pc0 := 14) (pc' := 38) rfl (hb hby d12_14) rfl ((if0 _ _).trans (flt (h1 : ¬ ((0 : Int32) < ((Int32.ofNat m1) - (Int32.ofNat xs.length))))).2.2.2) (by decide) (by decide) kt) ?_
    show Onw p e below _ (T2.setTop (mkF m 38 #[.val (.ref r0), .val (.int (Int32.ofNat m1)), .val (.int (Int32.ofNat xs.length))] []))
    have hj : m1 ≤ xs.length := by
      by_cases q : xs.length = 16
      · exact Nat.le_of_not_lt fun z => h1 ((own_grow hm hl).mpr ⟨q, by omega⟩)
      · omega
    exact Onw.ret X2 Bd.notSynchronized (fun _ => rfl) (fun fs hr => X2.returnOut hx Bd.returns (hb hby d12_38) hr) ⟨v1, k1, 0, rfl, N0, by rw [e2]; exact Keep.refl h0 [r0], g1, Or.inl rfl, by rw [e2]; exact M0, by rw [e2]; simpa using V0, by rw [e2]; exact EA, by omega, by omega⟩ (by decide) (by decide)
theorem own_lc0 (x y : Int64) : (0 < lcmpW x y) ↔ y.toInt < x.toInt := by
  unfold lcmpW
  by_cases h1 : x > y
  · rw [if_pos h1]; have h2 : y < x := h1; rw [Int64.lt_iff_toInt_lt] at h2
    exact ⟨fun _ => h2, fun _ => by decide⟩
  · rw [if_neg h1]; have h2 : ¬ y < x := h1; rw [Int64.lt_iff_toInt_lt] at h2
    refine ⟨fun q => absurd q ?_, fun q => absurd q h2⟩
    split <;> decide
theorem own_lc1 (x y : Int64) : (lcmpW x y < 0) ↔ x.toInt < y.toInt := by
  unfold lcmpW
  by_cases h1 : x > y
  · rw [if_pos h1]; have h2 : y < x := h1; rw [Int64.lt_iff_toInt_lt] at h2
    exact ⟨fun q => absurd q (by decide), fun q => by omega⟩
  · rw [if_neg h1]; have h2 : ¬ y < x := h1; rw [Int64.lt_iff_toInt_lt] at h2
    by_cases h3 : x = y
    · rw [if_pos h3, h3]; exact ⟨fun q => absurd q (by decide), fun q => by omega⟩
    · rw [if_neg h3]
      have h4 : x.toInt ≠ y.toInt := fun q => h3 (Int64.toInt_inj.mp q)
      exact ⟨fun _ => by omega, fun _ => by decide⟩
def own_D (w d : Nat) : Prop := 1 ≤ d ∧ 10 ^ (d - 1) ≤ w ∧ w < 10 ^ d
theorem own_Dex : ∀ (k w : Nat), 1 ≤ w → w < 10 ^ k → ∃ d, own_D w d ∧ d ≤ k
  | 0, w, h1, h2 => by simp at h2; omega
  | k + 1, w, h1, h2 => by
    by_cases q : w < 10 ^ k
    · obtain ⟨d, h3, h4⟩ := own_Dex k w h1 q
      exact ⟨d, h3, by omega⟩
    · exact ⟨k + 1, ⟨by omega, by simpa using q, h2⟩, Nat.le_refl _⟩
theorem own_Dlt {w d i : Nat} (D : own_D w d) (h : w < 10 ^ i) : d ≤ i := by
  by_cases q : d ≤ i
  · exact q
  · have r : 10 ^ i ≤ 10 ^ (d - 1) := Nat.pow_le_pow_right (by decide) (by omega)
    have := D.2.1; omega
theorem own_Dge {w d i : Nat} (D : own_D w d) (h : 10 ^ i ≤ w) : i < d := by
  by_cases q : i < d
  · exact q
  · have r : 10 ^ d ≤ 10 ^ i := Nat.pow_le_pow_right (by decide) (by omega)
    have := D.2.2; omega
theorem own_Ds {w d : Nat} (D : own_D w d) (h : 100 ≤ w) : 3 ≤ d ∧ own_D (w / 100) (d - 2) := by
  have h3 : 2 < d := own_Dge D (i := 2) h
  obtain ⟨j, rfl⟩ : ∃ j, d = j + 3 := ⟨d - 3, by omega⟩
  obtain ⟨-, a, b⟩ := D
  have e1 : j + 3 - 1 = j + 2 := by omega
  have e2 : j + 3 - 2 = j + 1 := by omega
  rw [e1] at a
  refine ⟨by omega, by omega, ?_, ?_⟩
  · have e3 : j + 3 - 2 - 1 = j := by omega
    rw [e3, Nat.le_div_iff_mul_le (by decide)]
    have : 10 ^ (j + 2) = 10 ^ j * 100 := by rw [Nat.pow_add]
    omega
  · rw [e2, Nat.div_lt_iff_lt_mul (by decide)]
    have : 10 ^ (j + 3) = 10 ^ (j + 1) * 100 := by rw [← Nat.pow_add (m := j + 1) (n := 2)]
    omega
def own_put : Nat → List Int32 → Nat → List Int32
  | 0, xs, _ => xs
  | k + 1, xs, w => own_put k (xs.set k (Int32.ofNat (48 + w % 10))) (w / 10)
theorem own_put2 (k : Nat) (xs : List Int32) (w : Nat) (hk : 2 ≤ k) : own_put (k - 2) ((xs.set (k - 1) (Int32.ofNat (48 + w % 100 % 10))).set (k - 2) (Int32.ofNat (48 + w % 100 / 10))) (w / 100) = own_put k xs w := by
  obtain ⟨j, rfl⟩ : ∃ j, k = j + 2 := ⟨k - 2, by omega⟩
  show own_put j ((xs.set (j + 1) _).set j _) _ = own_put j ((xs.set (j + 1) (Int32.ofNat (48 + w % 10))).set j (Int32.ofNat (48 + w / 10 % 10))) (w / 10 / 10)
  have e1 : w % 100 % 10 = w % 10 := by omega
  have e2 : w % 100 / 10 = w / 10 % 10 := by omega
  have e3 : w / 100 = w / 10 / 10 := by omega
  rw [e1, e2, e3]
theorem own_put_len : ∀ (k : Nat) (xs : List Int32) (w : Nat), (own_put k xs w).length = xs.length
  | 0, _, _ => rfl
  | k + 1, xs, w => by rw [own_put, own_put_len]; simp
theorem own_put_hi : ∀ (k : Nat) (xs : List Int32) (w i : Nat), k ≤ i → (own_put k xs w)[i]? = xs[i]?
  | 0, _, _, _, _ => rfl
  | k + 1, xs, w, i, h => by
    rw [own_put, own_put_hi k _ _ i (by omega), List.getElem?_set]
    simp [show ¬ k = i by omega]
theorem own_put_lo : ∀ (k : Nat) (xs : List Int32) (w i : Nat), i < k → k ≤ xs.length → (own_put k xs w)[i]? = some (Int32.ofNat (48 + w / 10 ^ (k - 1 - i) % 10))
  | 0, _, _, _, h, _ => by omega
  | k + 1, xs, w, i, h, hl => by
    rw [own_put]
    by_cases q : i = k
    · subst q
      rw [own_put_hi i _ _ i (Nat.le_refl _), List.getElem?_set]
      simp [show i < xs.length by omega]
    · rw [own_put_lo k _ _ i (by omega) (by simp; omega), Nat.div_div_eq_div_mul, show k + 1 - 1 - i = (k - 1 - i) + 1 by omega, Nat.pow_succ, Nat.mul_comm]
theorem own_narb : ∀ n : Fin 10, nar .byte (Int32.ofNat (48 + n.val)) = Int32.ofNat (48 + n.val) := by decide
theorem own_nb {n : Nat} (h : n < 10) : nar .byte (Int32.ofNat (48 + n)) = Int32.ofNat (48 + n) := own_narb ⟨n, h⟩
theorem own_pred {n : Nat} (h : 1 ≤ n) (h2 : n ≤ 1000) : Int32.ofNat n + (-1 : Int32) = Int32.ofNat (n - 1) := by
  apply Int32.toInt_inj.mp
  have a := c_iadd (Int32.ofNat n) (-1)
  have b := rng32 (Int32.ofNat n + (-1 : Int32))
  have e : (-1 : Int32).toInt = -1 := rfl
  rw [own_toInt h2, e] at a
  rw [own_toInt (n := n - 1) (by omega)]; omega
theorem own_neg {x : Int64} {w : Nat} (h : x.toInt = w) : (-x).toInt = -(w : Int) := by
  have a := c_lneg x
  have b := rng64 (-x)
  have c := rng64 x
  omega
theorem own_l10 {x : Int64} {i : Nat} (h : x.toInt = -((10 ^ i : Nat) : Int)) (hi : i + 1 ≤ 18) : ((10 : Int64) * x).toInt = -((10 ^ (i + 1) : Nat) : Int) := by
  have a := c_lmul (10 : Int64) x
  have b := rng64 ((10 : Int64) * x)
  have e : (10 : Int64).toInt = 10 := rfl
  have r : 10 ^ (i + 1) ≤ 10 ^ 18 := Nat.pow_le_pow_right (by decide) hi
  rw [Nat.pow_succ] at r ⊢
  rw [e, h] at a
  generalize 10 ^ i = z at *
  omega
theorem own_l100 {x : Int64} {w : Nat} (h : x.toInt = -(w : Int)) (h0 : 1 ≤ w) : (x / (100 : Int64)).toInt = -((w / 100 : Nat) : Int) ∧ ((x / (100 : Int64)) * (100 : Int64) - x).toInt32 = Int32.ofNat (w % 100) := by
  have a := (c_ldiv x (100 : Int64) 100 rfl (by decide)).2 (by omega)
  have a' : (x / (100 : Int64)).toInt = -((w / 100 : Nat) : Int) := by rw [a, h]; omega
  refine ⟨a', Int32.toInt_inj.mp ?_⟩
  have b := c_lmul (x / (100 : Int64)) (100 : Int64)
  have b2 := rng64 ((x / (100 : Int64)) * (100 : Int64))
  have e : (100 : Int64).toInt = 100 := rfl
  have c := c_lsub ((x / (100 : Int64)) * (100 : Int64)) x
  have c2 := rng64 ((x / (100 : Int64)) * (100 : Int64) - x)
  have d := c_l2i ((x / (100 : Int64)) * (100 : Int64) - x)
  have d2 := rng32 ((x / (100 : Int64)) * (100 : Int64) - x).toInt32
  have f := rng64 x
  rw [own_toInt (n := w % 100) (by omega)]
  rw [a', e] at b
  omega
theorem own_i100 {x : Int32} {w : Nat} (h : x.toInt = -(w : Int)) (h0 : 1 ≤ w) : (x / (100 : Int32)).toInt = -((w / 100 : Nat) : Int) ∧ ((x / (100 : Int32)) * (100 : Int32) - x) = Int32.ofNat (w % 100) := by
  have a := (c_idiv x (100 : Int32) 100 rfl (by decide)).2 (by omega)
  have a' : (x / (100 : Int32)).toInt = -((w / 100 : Nat) : Int) := by rw [a, h]; omega
  refine ⟨a', Int32.toInt_inj.mp ?_⟩
  have b := c_imul (x / (100 : Int32)) (100 : Int32)
  have b2 := rng32 ((x / (100 : Int32)) * (100 : Int32))
  have e : (100 : Int32).toInt = 100 := rfl
  have c := c_isub ((x / (100 : Int32)) * (100 : Int32)) x
  have c2 := rng32 ((x / (100 : Int32)) * (100 : Int32) - x)
  have f := rng32 x
  rw [own_toInt (n := w % 100) (by omega)]
  rw [a', e] at b
  omega
theorem own_l2i {x : Int64} {w : Nat} (h : x.toInt = -(w : Int)) (h0 : w < 2147483648) : x.toInt32.toInt = -(w : Int) := by
  have d := c_l2i x
  have d2 := rng32 x.toInt32
  omega
theorem own_ineg {x : Int32} {w : Nat} (h : x.toInt = -(w : Int)) (h0 : w ≤ 1000) : -x = Int32.ofNat w := by
  apply Int32.toInt_inj.mp
  have a := c_ineg x
  have b := rng32 (-x)
  rw [own_toInt h0]; omega
def own_DG (Z : State) (h : Heap) (o : Addr) (f : Nat → Nat) : Prop := ∃ c1 : Cell, Arr Z h o c1 .byte ∧ c1.slots.size = 100 ∧ ∀ i, i < 100 → c1.slots[i]? = some (.int (Int32.ofNat (48 + f i)))
theorem own_DG.keep {Z : State} {h h' : Heap} {o : Addr} {f : Nat → Nat} {ws : List Addr} (D : own_DG Z h o f) (K : Keep h h' ws) (q : o ∉ ws) : own_DG Z h' o f := by
  obtain ⟨c1, A, r⟩ := D
  exact ⟨c1, ⟨K.2.1 o c1 A.1 q, A.2⟩, r⟩
theorem own_DG.at {Z : State} {h : Heap} {o : Addr} {f : Nat → Nat} (D : own_DG Z h o f) {r : Nat} (hr : r < 100) : ∃ c1 : Cell, Arr Z h o c1 .byte ∧ ¬ (Int32.ofNat r < 0 ∨ c1.slots.size ≤ (Int32.ofNat r).toNatClampNeg) ∧ c1.slots[(Int32.ofNat r).toNatClampNeg]? = some (.int (Int32.ofNat (48 + f r))) := by
  obtain ⟨c1, A, s, g⟩ := D
  have e := own_clamp (n := r) (by omega)
  refine ⟨c1, A, fun q => ?_, by rw [e]; exact g r hr⟩
  rcases q with q | q
  · exact own_nneg (by omega) q
  · rw [e, s] at q; omega
theorem own_stBv {p : Program} {l : Launch} {e : Env} {R : Room} {s : State} {m : MethodId} {args : Array Value} {below : List Frame} {meth : Method} {c : Code} {T : State} {locs : List Loc} {cells slots : Nat} {Z : State} {h : Heap}
    (X : Stand p l e R s m args below meth c T locs cells slots) (hx : p.tables.exec = Jvm.exec) (hZ : Z.Warmed39 s.vm) (eT : T.heap = h) {b : Addr} {k : ClassId} {xs : List Int32} (V : Arv Z h b k .byte (Int32.ofNat xs.length) (xs.map Value.int) (.int (0 : Int32)))
    {i : Nat} {j x y : Int32} (ej : j = Int32.ofNat i) (hi : i < xs.length) (lx : xs.length ≤ 1000) (ey : nar .byte x = y) {n0 : Nat} (N : Fr n0 locs) (ge : n0 ≤ b) {g : JFrame} (hg : g.method = m) {rest : List Value} (hs : g.stack = .int x :: .int j :: .ref b :: rest) (hd : decode c.code g.pc = .ok (.bastore, 1)) :
    ∃ T' h' L', Stand p l e R s m args below meth c T' L' cells slots ∧ T'.heap = h' ∧ Fr n0 L' ∧ Keep h h' [b] ∧ Arv Z h' b k .byte (Int32.ofNat (xs.set i y).length) ((xs.set i y).map Value.int) (.int (0 : Int32)) ∧
      ∀ target, Steps p.tables e below (T'.setTop { g with pc := g.pc + 1, stack := rest }) target → Steps p.tables e below (T.setTop g) target := by
  subst ej ey
  obtain ⟨cl, Ar, qa, Sa, Na, Ha, Ga⟩ := V
  have c1 := own_clamp (n := i) (by omega)
  have c2 := own_clamp lx
  have hin : ¬ (Int32.ofNat i < 0 ∨ cl.slots.size ≤ (Int32.ofNat i).toNatClampNeg) := fun q => by
    rcases q with q | q
    · exact own_nneg (by omega) q
    · rw [c1, Sa, c2] at q; omega
  obtain ⟨T', h', X', e', W', st⟩ := stB X hx hZ eT Ar hin hg hs hd
  have V' := Arv.set Ar qa Sa Na Ha Ga (fits_nar_byte _) W' i c1 (by rw [List.length_map]; exact hi)
  refine ⟨T', h', _, X', e', Fr.snoc X' N ge, Keep.of_wr W', ?_, st⟩
  have q : (xs.set i (nar .byte x)).length = xs.length := by simp
  rw [q, List.map_set]; exact V'
theorem own_exans {Z : State} {h : Heap} {a : Addr} {C : String} (E : Exa Z h a C) : ∀ b ∈ [a], ∀ cell : Cell, h[b]? = some cell → cell.vm.isStatics = false := by
  intro b hb cell hc
  rw [List.mem_singleton.mp hb] at hc
  obtain ⟨c2, k, h1, h2, h3, h4, h5⟩ := E
  cases h1.symm.trans hc
  exact h4
theorem own_exans2 {Z : State} {h : Heap} {a b : Addr} {C C' : String} (E : Exa Z h a C) (E' : Exa Z h b C') : ∀ x ∈ [a, b], ∀ cell : Cell, h[x]? = some cell → cell.vm.isStatics = false := by
  intro x hx cell hc
  rcases List.mem_cons.mp hx with rfl | hx
  · exact own_exans E x (List.mem_singleton.mpr rfl) cell hc
  · exact own_exans E' x hx cell hc
theorem own_catt {xs ys ss zs : List Int32} {d j : Nat} (hd : d ≤ xs.length) (hy : ys = xs ++ List.replicate j 0) (hz : zs = ys.take d ++ ss ++ ys.drop (d + ss.length)) : zs.take (d + ss.length) = xs.take d ++ ss := by
  have e1 : ys.take d = xs.take d := by rw [hy, List.take_append_of_le_length hd]
  have e2 : (xs.take d ++ ss).length = d + ss.length := by simp; omega
  rw [hz, e1, List.take_append_of_le_length (Nat.le_of_eq e2.symm), List.take_of_length_le (Nat.le_of_eq e2)]
theorem own_minc {c n : Nat} (h : c ≤ n) (hn : n ≤ 1000) : own_min (Int32.ofNat n) (Int32.ofNat c) = Int32.ofNat c := by
  unfold own_min
  by_cases q : c < n
  · rw [if_pos ((own_lt (by omega) hn).mpr q)]
  · have : c = n := by omega
    subst this
    rw [if_neg (fun z => q ((own_lt (by omega) hn).mp z))]
theorem own_newV {Z : State} {h : Heap} {b : Addr} {k : ClassId} {c : Nat} (A : Arr Z h b (newA k .byte (Int32.ofNat c)) .byte) (hc : c ≤ 1000) : Arv Z h b k .byte (Int32.ofNat (List.replicate c (0 : Int32)).length) ((List.replicate c (0 : Int32)).map Value.int) (.int (0 : Int32)) := by
  have q := (Arv.new A (own_nneg hc)).pad (pad_rep [] (.int (0 : Int32)) c)
  rw [List.length_replicate, List.map_replicate]
  exact q
theorem own_fitc {Z : State} {h : Heap} {a : Addr} {cl : Cell} {vs : List Value} {dv : Value} (A : Arr Z h a cl .byte) (H : Has cl vs dv) (G : ∀ i, i < cl.slots.size → fits .byte (vs.getD i dv) = true) : FitC Z cl := fun i v hv => by
  have hi := (Array.getElem?_eq_some_iff.mp hv).1
  have e : vs.getD i dv = v := Option.some.inj ((H i hi).symm.trans hv)
  have g := G i hi
  rw [e] at g
  obtain ⟨-, k, hk, comp, hkind⟩ := A.2.1
  simp only [State.fitsSlot, State.slotType?, hk, hkind, Option.bind_eq_bind, Option.bind_some]
  exact g
theorem d11_20 : decode jdk_35_method_15_code 20 = .ok (.iload 5, 2) := by decide +kernel
theorem d11_22 : decode jdk_35_method_15_code 22 = .ok (.bipush 19, 2) := by decide +kernel
theorem d11_24 : decode jdk_35_method_15_code 24 = .ok (.if_icmp .ge 26, 3) := by decide +kernel
theorem d11_27 : decode jdk_35_method_15_code 27 = .ok (.lload_n 0, 1) := by decide +kernel
theorem d11_28 : decode jdk_35_method_15_code 28 = .ok (.lload_n 3, 1) := by decide +kernel
theorem d11_29 : decode jdk_35_method_15_code 29 = .ok (.lcmp, 1) := by decide +kernel
theorem d11_30 : decode jdk_35_method_15_code 30 = .ok (.ifCond .le 8, 3) := by decide +kernel
theorem d11_33 : decode jdk_35_method_15_code 33 = .ok (.iload 5, 2) := by decide +kernel
theorem d11_35 : decode jdk_35_method_15_code 35 = .ok (.iload_n 2, 1) := by decide +kernel
theorem d11_36 : decode jdk_35_method_15_code 36 = .ok (.iadd, 1) := by decide +kernel
theorem d11_38 : decode jdk_35_method_15_code 38 = .ok (.ldc2_w 53, 3) := by decide +kernel
theorem d11_41 : decode jdk_35_method_15_code 41 = .ok (.lload_n 3, 1) := by decide +kernel
theorem d11_42 : decode jdk_35_method_15_code 42 = .ok (.lmul, 1) := by decide +kernel
theorem d11_43 : decode jdk_35_method_15_code 43 = .ok (.lstore_n 3, 1) := by decide +kernel
theorem d11_44 : decode jdk_35_method_15_code 44 = .ok (.iinc 5 1, 3) := by decide +kernel
theorem d11_47 : decode jdk_35_method_15_code 47 = .ok (.goto (-27), 3) := by decide +kernel
set_option maxRecDepth 65536 in
set_option maxHeartbeats 40000000 in
theorem ss_turn {p : Program} {l : Launch} {e : Env} {R : Room} {s : State} {m : MethodId} {args : Array Value} {below : List Frame} {meth : Method} {c : Code} {Z : State} {a0 : Array Value} {W : Outcome → State → Prop} (hx : p.tables.exec = Jvm.exec) (hZ : Z.Warmed39 s.vm) (hw : ∀ d ∈ tables_1, d.before a0 Z = true) (hby : c.code = jdk_35_method_15_code) (hml : c.maxLocals = 6) (hown : s.vm.findClass "java/lang/Long" = some m.cls) {h0 : Heap} {n0 : Nat}  (xx pp : Int64) (i : Nat)
    {T0 : State} {locs0 : List Loc} {cells slots : Nat} (X0 : Stand p l e R s m args below meth c T0 locs0 cells slots) (e0 : T0.heap = h0) (N0 : Fr n0 locs0) (hi : i ≤ 18) (hA : 0 < lcmpW xx pp → Onw p e below W (T0.setTop (mkF m 37 #[.val (.long xx), .second, .val (.int (0 : Int32)), .val (.long pp), .second, .val (.int (Int32.ofNat i))] [(.int (Int32.ofNat i))]))) (hB : ¬ 0 < lcmpW xx pp → Onw p e below W (T0.setTop (mkF m 20 #[.val (.long xx), .second, .val (.int (0 : Int32)), .val (.long ((10 : Int64) * pp)), .second, .val (.int (Int32.ofNat (i + 1)))] []))) :
    Onw p e below W (T0.setTop (mkF m 20 #[.val (.long xx), .second, .val (.int (0 : Int32)), .val (.long pp), .second, .val (.int (Int32.ofNat i))] [])) := by
  refine Onw.go (fun _ kt => XS.iload X0.here hx rfl (hb hby d11_20) rfl kt) ?_
  show Onw p e below _ (T0.setTop (mkF m 22 #[.val (.long xx), .second, .val (.int (0 : Int32)), .val (.long pp), .second, .val (.int (Int32.ofNat i))] [(.int (Int32.ofNat i))]))
  refine Onw.go (fun _ kt => XS.bipush X0.here hx rfl (hb hby d11_22) kt) ?_
  show Onw p e below _ (T0.setTop (mkF m 24 #[.val (.long xx), .second, .val (.int (0 : Int32)), .val (.long pp), .second, .val (.int (Int32.ofNat i))] [(.int (19 : Int32)), (.int (Int32.ofNat i))]))
  refine Onw.go (fun _ kt => XS.icmpNo X0.here hx rfl (hb hby d11_24) rfl (tlt ((own_lt (n := 19) (by omega) (by decide)).mpr (by omega) : (Int32.ofNat i) < (19 : Int32))).2.1 kt) ?_
  show Onw p e below _ (T0.setTop (mkF m 27 #[.val (.long xx), .second, .val (.int (0 : Int32)), .val (.long pp), .second, .val (.int (Int32.ofNat i))] []))
  refine Onw.go (fun _ kt => XS.lloadN X0.here hx rfl (hb hby d11_27) rfl kt) ?_
  show Onw p e below _ (T0.setTop (mkF m 28 #[.val (.long xx), .second, .val (.int (0 : Int32)), .val (.long pp), .second, .val (.int (Int32.ofNat i))] [(.long xx)]))
  refine Onw.go (fun _ kt => XS.lloadN X0.here hx rfl (hb hby d11_28) rfl kt) ?_
  show Onw p e below _ (T0.setTop (mkF m 29 #[.val (.long xx), .second, .val (.int (0 : Int32)), .val (.long pp), .second, .val (.int (Int32.ofNat i))] [(.long pp), (.long xx)]))
  refine Onw.go (fun _ kt => XS.lcmp X0.here hx rfl (hb hby d11_29) rfl kt) ?_
  show Onw p e below _ (T0.setTop (mkF m 30 #[.val (.long xx), .second, .val (.int (0 : Int32)), .val (.long pp), .second, .val (.int (Int32.ofNat i))] [(.int (lcmpW xx pp))]))
  by_cases h1 : (0 : Int32) < (lcmpW xx pp)
  · refine Onw.go (fun _ kt => XS.ifNo X0.here hx rfl (hb hby d11_30) rfl ((if0 _ _).trans (tlt (h1 : (0 : Int32) < (lcmpW xx pp))).2.2.2) kt) ?_
    show Onw p e below _ (T0.setTop (mkF m 33 #[.val (.long xx), .second, .val (.int (0 : Int32)), .val (.long pp), .second, .val (.int (Int32.ofNat i))] []))
    refine Onw.go (fun _ kt => XS.iload X0.here hx rfl (hb hby d11_33) rfl kt) ?_
    show Onw p e below _ (T0.setTop (mkF m 35 #[.val (.long xx), .second, .val (.int (0 : Int32)), .val (.long pp), .second, .val (.int (Int32.ofNat i))] [(.int (Int32.ofNat i))]))
    refine Onw.go (fun _ kt => XS.iloadN X0.here hx rfl (hb hby d11_35) rfl kt) ?_
    show Onw p e below _ (T0.setTop (mkF m 36 #[.val (.long xx), .second, .val (.int (0 : Int32)), .val (.long pp), .second, .val (.int (Int32.ofNat i))] [(.int (0 : Int32)), (.int (Int32.ofNat i))]))
    refine Onw.go (fun _ kt => XS.iadd X0.here hx rfl (hb hby d11_36) rfl kt) ?_
    show Onw p e below _ (T0.setTop (mkF m 37 #[.val (.long xx), .second, .val (.int (0 : Int32)), .val (.long pp), .second, .val (.int (Int32.ofNat i))] [(.int ((Int32.ofNat i) + (0 : Int32)))]))
    rw [(Int32.add_zero _ : ((Int32.ofNat i) + (0 : Int32)) = (Int32.ofNat i))]
    show Onw p e below _ (T0.setTop (mkF m 37 #[.val (.long xx), .second, .val (.int (0 : Int32)), .val (.long pp), .second, .val (.int (Int32.ofNat i))] [(.int (Int32.ofNat i))]))
    exact hA h1
  · refine Onw.go (fun _ kt => XS.ifYes X0.here hx rfl (pc0 := 30) (pc' := 38) rfl (hb hby d11_30) rfl ((if0 _ _).trans (flt (h1 : ¬ ((0 : Int32) < (lcmpW xx pp)))).2.2.2) (by decide) (by decide) kt) ?_
    show Onw p e below _ (T0.setTop (mkF m 38 #[.val (.long xx), .second, .val (.int (0 : Int32)), .val (.long pp), .second, .val (.int (Int32.ofNat i))] []))
    refine Onw.go (X0.ldc2Long hx hown (mvT hZ (hw _ (own_mg (i := 238) rfl))) (g := (mkF m 38 #[.val (.long xx), .second, .val (.int (0 : Int32)), .val (.long pp), .second, .val (.int (Int32.ofNat i))] [])) rfl (hb hby d11_38)) ?_
    show Onw p e below _ (T0.setTop (mkF m 41 #[.val (.long xx), .second, .val (.int (0 : Int32)), .val (.long pp), .second, .val (.int (Int32.ofNat i))] [(.long (10 : Int64))]))
    refine Onw.go (fun _ kt => XS.lloadN X0.here hx rfl (hb hby d11_41) rfl kt) ?_
    show Onw p e below _ (T0.setTop (mkF m 42 #[.val (.long xx), .second, .val (.int (0 : Int32)), .val (.long pp), .second, .val (.int (Int32.ofNat i))] [(.long pp), (.long (10 : Int64))]))
    refine Onw.go (fun _ kt => XS.lmul X0.here hx rfl (hb hby d11_42) rfl kt) ?_
    show Onw p e below _ (T0.setTop (mkF m 43 #[.val (.long xx), .second, .val (.int (0 : Int32)), .val (.long pp), .second, .val (.int (Int32.ofNat i))] [(.long ((10 : Int64) * pp))]))
    refine Onw.go (fun _ kt => XS.lstoreN X0.here hx rfl (hb hby d11_43) rfl (l' := #[.val (.long xx), .second, .val (.int (0 : Int32)), .val (.long ((10 : Int64) * pp)), .second, .val (.int (Int32.ofNat i))]) rfl kt) ?_
    show Onw p e below _ (T0.setTop (mkF m 44 #[.val (.long xx), .second, .val (.int (0 : Int32)), .val (.long ((10 : Int64) * pp)), .second, .val (.int (Int32.ofNat i))] []))
    refine Onw.go (fun _ kt => XS.iinc X0.here hx rfl (hb hby d11_44) rfl (l' := #[.val (.long xx), .second, .val (.int (0 : Int32)), .val (.long ((10 : Int64) * pp)), .second, .val (.int ((Int32.ofNat i) + (1 : Int32)))]) rfl kt) ?_
    show Onw p e below _ (T0.setTop (mkF m 47 #[.val (.long xx), .second, .val (.int (0 : Int32)), .val (.long ((10 : Int64) * pp)), .second, .val (.int ((Int32.ofNat i) + (1 : Int32)))] []))
    refine Onw.go (fun _ kt => XS.goto X0.here hx rfl (pc0 := 47) (pc' := 20) rfl (hb hby d11_47) (by decide) (by decide) kt) ?_
    show Onw p e below _ (T0.setTop (mkF m 20 #[.val (.long xx), .second, .val (.int (0 : Int32)), .val (.long ((10 : Int64) * pp)), .second, .val (.int ((Int32.ofNat i) + (1 : Int32)))] []))
    have e1 := hB h1
    rw [Int32.ofNat_add] at e1
    exact e1
theorem d11_50 : decode jdk_35_method_15_code 50 = .ok (.bipush 19, 2) := by decide +kernel
theorem d11_52 : decode jdk_35_method_15_code 52 = .ok (.iload_n 2, 1) := by decide +kernel
theorem d11_53 : decode jdk_35_method_15_code 53 = .ok (.iadd, 1) := by decide +kernel
set_option maxRecDepth 65536 in
set_option maxHeartbeats 40000000 in
theorem ss_end {p : Program} {l : Launch} {e : Env} {R : Room} {s : State} {m : MethodId} {args : Array Value} {below : List Frame} {meth : Method} {c : Code} {Z : State} {a0 : Array Value} {W : Outcome → State → Prop} (hx : p.tables.exec = Jvm.exec) (hZ : Z.Warmed39 s.vm) (hw : ∀ d ∈ tables_1, d.before a0 Z = true) (hby : c.code = jdk_35_method_15_code) (hml : c.maxLocals = 6) (hown : s.vm.findClass "java/lang/Long" = some m.cls) {h0 : Heap} {n0 : Nat}  (xx pp : Int64) (i : Nat)
    {T0 : State} {locs0 : List Loc} {cells slots : Nat} (X0 : Stand p l e R s m args below meth c T0 locs0 cells slots) (e0 : T0.heap = h0) (N0 : Fr n0 locs0) (hi : i = 19) (hA : Onw p e below W (T0.setTop (mkF m 54 #[.val (.long xx), .second, .val (.int (0 : Int32)), .val (.long pp), .second, .val (.int (Int32.ofNat i))] [(.int (Int32.ofNat 19))]))) :
    Onw p e below W (T0.setTop (mkF m 20 #[.val (.long xx), .second, .val (.int (0 : Int32)), .val (.long pp), .second, .val (.int (Int32.ofNat i))] [])) := by
  refine Onw.go (fun _ kt => XS.iload X0.here hx rfl (hb hby d11_20) rfl kt) ?_
  show Onw p e below _ (T0.setTop (mkF m 22 #[.val (.long xx), .second, .val (.int (0 : Int32)), .val (.long pp), .second, .val (.int (Int32.ofNat i))] [(.int (Int32.ofNat i))]))
  refine Onw.go (fun _ kt => XS.bipush X0.here hx rfl (hb hby d11_22) kt) ?_
  show Onw p e below _ (T0.setTop (mkF m 24 #[.val (.long xx), .second, .val (.int (0 : Int32)), .val (.long pp), .second, .val (.int (Int32.ofNat i))] [(.int (19 : Int32)), (.int (Int32.ofNat i))]))
  refine Onw.go (fun _ kt => XS.icmpYes X0.here hx rfl (pc0 := 24) (pc' := 50) rfl (hb hby d11_24) rfl (flt ((by rw [hi]; decide) : ¬ ((Int32.ofNat i) < (19 : Int32)))).2.1 (by decide) (by decide) kt) ?_
  show Onw p e below _ (T0.setTop (mkF m 50 #[.val (.long xx), .second, .val (.int (0 : Int32)), .val (.long pp), .second, .val (.int (Int32.ofNat i))] []))
  refine Onw.go (fun _ kt => XS.bipush X0.here hx rfl (hb hby d11_50) kt) ?_
  show Onw p e below _ (T0.setTop (mkF m 52 #[.val (.long xx), .second, .val (.int (0 : Int32)), .val (.long pp), .second, .val (.int (Int32.ofNat i))] [(.int (19 : Int32))]))
  refine Onw.go (fun _ kt => XS.iloadN X0.here hx rfl (hb hby d11_52) rfl kt) ?_
  show Onw p e below _ (T0.setTop (mkF m 53 #[.val (.long xx), .second, .val (.int (0 : Int32)), .val (.long pp), .second, .val (.int (Int32.ofNat i))] [(.int (0 : Int32)), (.int (19 : Int32))]))
  refine Onw.go (fun _ kt => XS.iadd X0.here hx rfl (hb hby d11_53) rfl kt) ?_
  show Onw p e below _ (T0.setTop (mkF m 54 #[.val (.long xx), .second, .val (.int (0 : Int32)), .val (.long pp), .second, .val (.int (Int32.ofNat i))] [(.int ((19 : Int32) + (0 : Int32)))]))
  exact hA
set_option maxRecDepth 65536 in
set_option maxHeartbeats 40000000 in
theorem ss_loop {p : Program} {l : Launch} {e : Env} {R : Room} {s : State} {m : MethodId} {args : Array Value} {below : List Frame} {meth : Method} {c : Code} {Z : State} {a0 : Array Value} {W : Outcome → State → Prop} (hx : p.tables.exec = Jvm.exec) (hZ : Z.Warmed39 s.vm) (hw : ∀ d ∈ tables_1, d.before a0 Z = true) (hby : c.code = jdk_35_method_15_code) (hml : c.maxLocals = 6) (hown : s.vm.findClass "java/lang/Long" = some m.cls) {h0 : Heap} {n0 : Nat} (xx : Int64) (w d : Nat) (hxx : xx.toInt = -(w : Int)) (D : own_D w d) (hd : d ≤ 19) {T0 : State} {locs0 : List Loc} {cells slots : Nat} (X0 : Stand p l e R s m args below meth c T0 locs0 cells slots) (e0 : T0.heap = h0) (N0 : Fr n0 locs0)
    (hA : ∀ (pp : Int64) (i : Nat), Onw p e below W (T0.setTop (mkF m 37 #[.val (.long xx), .second, .val (.int (0 : Int32)), .val (.long pp), .second, .val (.int (Int32.ofNat i))] [(.int (Int32.ofNat d))]))) (hB : ∀ (pp : Int64) (i : Nat), Onw p e below W (T0.setTop (mkF m 54 #[.val (.long xx), .second, .val (.int (0 : Int32)), .val (.long pp), .second, .val (.int (Int32.ofNat i))] [(.int (Int32.ofNat d))]))) :
    ∀ (k i : Nat) (pp : Int64), i + k = 19 → i ≤ d → (i ≤ 18 → pp.toInt = -((10 ^ i : Nat) : Int)) → Onw p e below W (T0.setTop (mkF m 20 #[.val (.long xx), .second, .val (.int (0 : Int32)), .val (.long pp), .second, .val (.int (Int32.ofNat i))] [])) := by
  intro k
  induction k with
  | zero =>
    intro i pp hk hi hp
    have e1 : d = 19 := by omega
    have q := hB pp i
    rw [e1] at q
    exact ss_end hx hZ hw hby hml hown xx pp i X0 e0 N0 (by omega) q
  | succ k ih =>
    intro i pp hk hi hp
    have e1 := hp (by omega)
    refine ss_turn hx hZ hw hby hml hown xx pp i X0 e0 N0 (by omega) (fun z => ?_) (fun z => ?_)
    · rw [own_lc0, e1, hxx] at z
      have : d = i := by have := own_Dlt D (i := i) (by omega); omega
      have q := hA pp i
      rw [this] at q
      exact q
    · rw [own_lc0, e1, hxx] at z
      have := own_Dge D (i := i) (by omega)
      exact ih (i + 1) _ (by omega) (by omega) (fun q => own_l10 e1 q)
theorem pn_7 : plainName "java/lang/Long" = true := by first | (simp [plainName, overriddenIn]; done) | decide +kernel
theorem ef_11 (m : MethodId) (x0 : Int64) : entryFrame m #[(.long x0)] 6 = mkF m 0 #[.val (.long x0), .second, .unset, .unset, .unset, .unset] [] := by first | (simp [entryFrame, mkF, argsToLocals, Value.category]; done) | rfl
def Q_rm11 (Z : State) (q0 : Int64) (w d : Nat) (h0 : Heap) (n0 : Nat) (v : Option Value) (h : Heap) (L : List Loc) : Prop := v = some (.int (Int32.ofNat d)) ∧ Fr n0 L ∧ h = h0
theorem d11_0 : decode jdk_35_method_15_code 0 = .ok (.iconst 1, 1) := by decide +kernel
theorem d11_1 : decode jdk_35_method_15_code 1 = .ok (.istore_n 2, 1) := by decide +kernel
theorem d11_2 : decode jdk_35_method_15_code 2 = .ok (.lload_n 0, 1) := by decide +kernel
theorem d11_3 : decode jdk_35_method_15_code 3 = .ok (.lconst 0, 1) := by decide +kernel
theorem d11_4 : decode jdk_35_method_15_code 4 = .ok (.lcmp, 1) := by decide +kernel
theorem d11_5 : decode jdk_35_method_15_code 5 = .ok (.ifCond .lt 8, 3) := by decide +kernel
theorem d11_8 : decode jdk_35_method_15_code 8 = .ok (.iconst 0, 1) := by decide +kernel
theorem d11_9 : decode jdk_35_method_15_code 9 = .ok (.istore_n 2, 1) := by decide +kernel
theorem d11_10 : decode jdk_35_method_15_code 10 = .ok (.lload_n 0, 1) := by decide +kernel
theorem d11_11 : decode jdk_35_method_15_code 11 = .ok (.lneg, 1) := by decide +kernel
theorem d11_12 : decode jdk_35_method_15_code 12 = .ok (.lstore_n 0, 1) := by decide +kernel
theorem d11_13 : decode jdk_35_method_15_code 13 = .ok (.ldc2_w 140, 3) := by decide +kernel
theorem d11_16 : decode jdk_35_method_15_code 16 = .ok (.lstore_n 3, 1) := by decide +kernel
theorem d11_17 : decode jdk_35_method_15_code 17 = .ok (.iconst 1, 1) := by decide +kernel
theorem d11_18 : decode jdk_35_method_15_code 18 = .ok (.istore 5, 2) := by decide +kernel
theorem d11_37 : decode jdk_35_method_15_code 37 = .ok (.ireturn, 1) := by decide +kernel
theorem d11_54 : decode jdk_35_method_15_code 54 = .ok (.ireturn, 1) := by decide +kernel
set_option maxRecDepth 65536 in
set_option maxHeartbeats 40000000 in
theorem rm11 (l : Launch) (Z : State) (a0 : Array Value) (hw : ∀ d ∈ tables_1, d.before a0 Z = true) (ws : List Jvm.Cond) (q0 : Int64) (w d : Nat) (h0 : Heap) (n0 : Nat) (hq : q0.toInt = (w : Int)) (D : own_D w d) (hd : d ≤ 19) :
    MetFree l (⟨"java/lang/Long", "stringSize", "(J)I"⟩ : MethodName) (head1 (Jvm.Cond.code (⟨"java/lang/Long", "stringSize", "(J)I"⟩ : MethodName) jdk_35_method_15_code 6 (some .int) :: ws) ({ frames := 0, cells := 0, slots := 0, locals := 0 } : Room)) (fun a U => a = #[(.long q0)] ∧ Z.Warmed39 U.vm ∧ U.heap = h0) (fun _ _ _ _ _ => True) (fun _ U o U' => ∃ v L, o = .returned v ∧ Q_rm11 Z q0 w d h0 n0 v U'.heap L ∧ FrameEnd U o U' L ({ frames := 0, cells := 0, slots := 0, locals := 0 } : Room).cells ({ frames := 0, cells := 0, slots := 0, locals := 0 } : Room).slots) := by
  refine MetFree.of_bodySF (plainFor_of_name pn_7) hisR ?_
  intro p e s m args below meth c s₁ Bd hml0 hP hK
  obtain ⟨rfl, hZ, hh⟩ := hP
  have hx := Bd.exec
  have hby := Bd.bytes
  have hml : c.maxLocals = 6 := hml0
  have hown : s.vm.findClass "java/lang/Long" = some m.cls := findClass_of_methodNamed Bd.named
  have hnm := (name_of_methodNamed Bd.named Bd.method).1
  have X0 : Stand p l e ({ frames := 0, cells := 0, slots := 0, locals := 0 } : Room) s m #[(.long q0)] below meth c s₁ [] 0 0 := Stand.of_body Bd
  have e0 : s₁.heap = h0 := by rw [← hh, Bd.state]; rfl
  have N0 := Fr.nil n0
  refine Onw.of (Onw.go (fun _ k => castTop (ef_11 m q0) k) ?_)
  show Onw p e below _ (s₁.setTop (mkF m 0 #[.val (.long q0), .second, .unset, .unset, .unset, .unset] []))
  have hw1 : 1 ≤ w := Nat.le_trans Nat.one_le_two_pow (Nat.le_trans (Nat.pow_le_pow_left (by decide) _) D.2.1)
  refine Onw.go (fun _ kt => XS.iconst X0.here hx rfl (hb hby d11_0) kt) ?_
  show Onw p e below _ (s₁.setTop (mkF m 1 #[.val (.long q0), .second, .unset, .unset, .unset, .unset] [(.int (1 : Int32))]))
  refine Onw.go (fun _ kt => XS.istoreN X0.here hx rfl (hb hby d11_1) rfl (l' := #[.val (.long q0), .second, .val (.int (1 : Int32)), .unset, .unset, .unset]) rfl kt) ?_
  show Onw p e below _ (s₁.setTop (mkF m 2 #[.val (.long q0), .second, .val (.int (1 : Int32)), .unset, .unset, .unset] []))
  refine Onw.go (fun _ kt => XS.lloadN X0.here hx rfl (hb hby d11_2) rfl kt) ?_
  show Onw p e below _ (s₁.setTop (mkF m 3 #[.val (.long q0), .second, .val (.int (1 : Int32)), .unset, .unset, .unset] [(.long q0)]))
  refine Onw.go (fun _ kt => XS.lconst X0.here hx rfl (hb hby d11_3) kt) ?_
  show Onw p e below _ (s₁.setTop (mkF m 4 #[.val (.long q0), .second, .val (.int (1 : Int32)), .unset, .unset, .unset] [(.long (0 : Int64)), (.long q0)]))
  refine Onw.go (fun _ kt => XS.lcmp X0.here hx rfl (hb hby d11_4) rfl kt) ?_
  show Onw p e below _ (s₁.setTop (mkF m 5 #[.val (.long q0), .second, .val (.int (1 : Int32)), .unset, .unset, .unset] [(.int (lcmpW q0 (0 : Int64)))]))
  have hn0 : ¬ ((lcmpW q0 (0 : Int64)) < (0 : Int32)) := fun own_z => by
    rw [own_lc1, hq] at own_z
    have own_e : (0 : Int64).toInt = 0 := rfl
    omega
  refine Onw.go (fun _ kt => XS.ifNo X0.here hx rfl (hb hby d11_5) rfl ((if0 _ _).trans (flt (hn0 : ¬ ((lcmpW q0 (0 : Int64)) < (0 : Int32)))).1) kt) ?_
  show Onw p e below _ (s₁.setTop (mkF m 8 #[.val (.long q0), .second, .val (.int (1 : Int32)), .unset, .unset, .unset] []))
  refine Onw.go (fun _ kt => XS.iconst X0.here hx rfl (hb hby d11_8) kt) ?_
  show Onw p e below _ (s₁.setTop (mkF m 9 #[.val (.long q0), .second, .val (.int (1 : Int32)), .unset, .unset, .unset] [(.int (0 : Int32))]))
  refine Onw.go (fun _ kt => XS.istoreN X0.here hx rfl (hb hby d11_9) rfl (l' := #[.val (.long q0), .second, .val (.int (0 : Int32)), .unset, .unset, .unset]) rfl kt) ?_
  show Onw p e below _ (s₁.setTop (mkF m 10 #[.val (.long q0), .second, .val (.int (0 : Int32)), .unset, .unset, .unset] []))
  refine Onw.go (fun _ kt => XS.lloadN X0.here hx rfl (hb hby d11_10) rfl kt) ?_
  show Onw p e below _ (s₁.setTop (mkF m 11 #[.val (.long q0), .second, .val (.int (0 : Int32)), .unset, .unset, .unset] [(.long q0)]))
  refine Onw.go (fun _ kt => XS.lneg X0.here hx rfl (hb hby d11_11) rfl kt) ?_
  show Onw p e below _ (s₁.setTop (mkF m 12 #[.val (.long q0), .second, .val (.int (0 : Int32)), .unset, .unset, .unset] [(.long (-q0))]))
  refine Onw.go (fun _ kt => XS.lstoreN X0.here hx rfl (hb hby d11_12) rfl (l' := #[.val (.long (-q0)), .second, .val (.int (0 : Int32)), .unset, .unset, .unset]) rfl kt) ?_
  show Onw p e below _ (s₁.setTop (mkF m 13 #[.val (.long (-q0)), .second, .val (.int (0 : Int32)), .unset, .unset, .unset] []))
  refine Onw.go (X0.ldc2Long hx hown (mvT hZ (hw _ (own_mg (i := 102) rfl))) (g := (mkF m 13 #[.val (.long (-q0)), .second, .val (.int (0 : Int32)), .unset, .unset, .unset] [])) rfl (hb hby d11_13)) ?_
  show Onw p e below _ (s₁.setTop (mkF m 16 #[.val (.long (-q0)), .second, .val (.int (0 : Int32)), .unset, .unset, .unset] [(.long (-10 : Int64))]))
  refine Onw.go (fun _ kt => XS.lstoreN X0.here hx rfl (hb hby d11_16) rfl (l' := #[.val (.long (-q0)), .second, .val (.int (0 : Int32)), .val (.long (-10 : Int64)), .second, .unset]) rfl kt) ?_
  show Onw p e below _ (s₁.setTop (mkF m 17 #[.val (.long (-q0)), .second, .val (.int (0 : Int32)), .val (.long (-10 : Int64)), .second, .unset] []))
  refine Onw.go (fun _ kt => XS.iconst X0.here hx rfl (hb hby d11_17) kt) ?_
  show Onw p e below _ (s₁.setTop (mkF m 18 #[.val (.long (-q0)), .second, .val (.int (0 : Int32)), .val (.long (-10 : Int64)), .second, .unset] [(.int (1 : Int32))]))
  refine Onw.go (fun _ kt => XS.istore X0.here hx rfl (hb hby d11_18) rfl (l' := #[.val (.long (-q0)), .second, .val (.int (0 : Int32)), .val (.long (-10 : Int64)), .second, .val (.int (1 : Int32))]) rfl kt) ?_
  show Onw p e below _ (s₁.setTop (mkF m 20 #[.val (.long (-q0)), .second, .val (.int (0 : Int32)), .val (.long (-10 : Int64)), .second, .val (.int (1 : Int32))] []))
  have z0 : (1 : Int32) = Int32.ofNat 1 := rfl
  rw [show (mkF m 20 #[.val (.long (-q0)), .second, .val (.int (0 : Int32)), .val (.long (-10 : Int64)), .second, .val (.int (1 : Int32))] []) = (mkF m 20 #[.val (.long (-q0)), .second, .val (.int (0 : Int32)), .val (.long (-10 : Int64)), .second, .val (.int (Int32.ofNat 1))] []) from rfl]
  refine ss_loop hx hZ hw hby hml hown (-q0) w d (own_neg hq) D hd X0 e0 N0 (fun pp i => ?_) (fun pp i => ?_) 18 1 _ (by omega) D.1 (fun _ => by decide)
  · show Onw p e below _ (s₁.setTop (mkF m 37 #[.val (.long (-q0)), .second, .val (.int (0 : Int32)), .val (.long pp), .second, .val (.int (Int32.ofNat i))] [(.int (Int32.ofNat d))]))
    exact Onw.ret X0 Bd.notSynchronized (fun h => by rw [Bd.returns] at h; cases h) (fun fs hr => retI X0 hx Bd.returns (hb hby d11_37) hr) ⟨rfl, N0, e0⟩ (by decide) (by decide)
  · show Onw p e below _ (s₁.setTop (mkF m 54 #[.val (.long (-q0)), .second, .val (.int (0 : Int32)), .val (.long pp), .second, .val (.int (Int32.ofNat i))] [(.int (Int32.ofNat d))]))
    exact Onw.ret X0 Bd.notSynchronized (fun h => by rw [Bd.returns] at h; cases h) (fun fs hr => retI X0 hx Bd.returns (hb hby d11_54) hr) ⟨rfl, N0, e0⟩ (by decide) (by decide)
theorem d14_24 : decode jdk_35_method_14_code 24 = .ok (.lload_n 0, 1) := by decide +kernel
theorem d14_25 : decode jdk_35_method_14_code 25 = .ok (.ldc2_w 129, 3) := by decide +kernel
theorem d14_28 : decode jdk_35_method_14_code 28 = .ok (.lcmp, 1) := by decide +kernel
theorem d14_29 : decode jdk_35_method_14_code 29 = .ok (.ifCond .gt 53, 3) := by decide +kernel
theorem d14_32 : decode jdk_35_method_14_code 32 = .ok (.lload_n 0, 1) := by decide +kernel
theorem d14_33 : decode jdk_35_method_14_code 33 = .ok (.ldc2_w 131, 3) := by decide +kernel
theorem d14_36 : decode jdk_35_method_14_code 36 = .ok (.ldiv, 1) := by decide +kernel
theorem d14_37 : decode jdk_35_method_14_code 37 = .ok (.lstore 4, 2) := by decide +kernel
theorem d14_39 : decode jdk_35_method_14_code 39 = .ok (.lload 4, 2) := by decide +kernel
theorem d14_41 : decode jdk_35_method_14_code 41 = .ok (.ldc2_w 131, 3) := by decide +kernel
theorem d14_44 : decode jdk_35_method_14_code 44 = .ok (.lmul, 1) := by decide +kernel
theorem d14_45 : decode jdk_35_method_14_code 45 = .ok (.lload_n 0, 1) := by decide +kernel
theorem d14_46 : decode jdk_35_method_14_code 46 = .ok (.lsub, 1) := by decide +kernel
theorem d14_47 : decode jdk_35_method_14_code 47 = .ok (.l2i, 1) := by decide +kernel
theorem d14_48 : decode jdk_35_method_14_code 48 = .ok (.istore 6, 2) := by decide +kernel
theorem d14_50 : decode jdk_35_method_14_code 50 = .ok (.lload 4, 2) := by decide +kernel
theorem d14_52 : decode jdk_35_method_14_code 52 = .ok (.lstore_n 0, 1) := by decide +kernel
theorem d14_53 : decode jdk_35_method_14_code 53 = .ok (.aload_n 3, 1) := by decide +kernel
theorem d14_54 : decode jdk_35_method_14_code 54 = .ok (.iinc 7 (-1), 3) := by decide +kernel
theorem d14_57 : decode jdk_35_method_14_code 57 = .ok (.iload 7, 2) := by decide +kernel
theorem d14_59 : decode jdk_35_method_14_code 59 = .ok (.getstatic 133, 3) := by decide +kernel
theorem d14_62 : decode jdk_35_method_14_code 62 = .ok (.iload 6, 2) := by decide +kernel
theorem d14_64 : decode jdk_35_method_14_code 64 = .ok (.baload, 1) := by decide +kernel
theorem d14_65 : decode jdk_35_method_14_code 65 = .ok (.bastore, 1) := by decide +kernel
theorem d14_66 : decode jdk_35_method_14_code 66 = .ok (.aload_n 3, 1) := by decide +kernel
theorem d14_67 : decode jdk_35_method_14_code 67 = .ok (.iinc 7 (-1), 3) := by decide +kernel
theorem d14_70 : decode jdk_35_method_14_code 70 = .ok (.iload 7, 2) := by decide +kernel
theorem d14_72 : decode jdk_35_method_14_code 72 = .ok (.getstatic 137, 3) := by decide +kernel
theorem d14_75 : decode jdk_35_method_14_code 75 = .ok (.iload 6, 2) := by decide +kernel
theorem d14_77 : decode jdk_35_method_14_code 77 = .ok (.baload, 1) := by decide +kernel
theorem d14_78 : decode jdk_35_method_14_code 78 = .ok (.bastore, 1) := by decide +kernel
theorem d14_79 : decode jdk_35_method_14_code 79 = .ok (.goto (-55), 3) := by decide +kernel
set_option maxRecDepth 65536 in
set_option maxHeartbeats 40000000 in
theorem gc_turn1 {p : Program} {l : Launch} {e : Env} {R : Room} {s : State} {m : MethodId} {args : Array Value} {below : List Frame} {meth : Method} {c : Code} {Z : State} {a0 : Array Value} {W : Outcome → State → Prop} (hx : p.tables.exec = Jvm.exec) (hZ : Z.Warmed39 s.vm) (hw : ∀ d ∈ tables_1, d.before a0 Z = true) (hby : c.code = jdk_35_method_14_code) (hml : c.maxLocals = 11) (hown : s.vm.findClass "java/lang/Long" = some m.cls) {h0 : Heap} {n0 : Nat}  (xx : Int64) (p1 : Int32) (r2 o1 o2 : Addr) (y4 y5 y6 : Slot) (k1 : ClassId) (xs : List Int32) (pos w : Nat)
    {T0 : State} {locs0 : List Loc} {cells slots : Nat} (X0 : Stand p l e R s m args below meth c T0 locs0 cells slots) (e0 : T0.heap = h0) (N0 : Fr n0 locs0) (V0 : Arv Z h0 r2 k1 .byte (Int32.ofNat (xs).length) ((xs).map Value.int) (.int (0 : Int32))) (lx : xs.length ≤ 1000) (hp : 1 ≤ pos ∧ pos ≤ xs.length) (g_b : n0 ≤ r2) (S_1 : Sta Z h0 "java/lang/Integer" "DigitOnes" "[B" (.ref o1)) (S_2 : Sta Z h0 "java/lang/Integer" "DigitTens" "[B" (.ref o2)) (D_1 : own_DG Z h0 o1 (fun i => i % 10)) (D_2 : own_DG Z h0 o2 (fun i => i / 10)) (ne1 : o1 ≠ r2) (ne2 : o2 ≠ r2) (h45 : (y4 = .unset ∧ y5 = .unset) ∨ ∃ z : Int64, y4 = .val (.long z) ∧ y5 = .second) (h6 : y6 = .unset ∨ ∃ z : Int32, y6 = .val (.int z)) (hp2 : 2 ≤ pos) (hxx : xx.toInt = -(w : Int)) (hw1 : 2147483648 ≤ w) (hK : ∀ (T' : State) (h' : Heap) (locs' : List Loc) (x' : Int64) (z6 : Int32), Stand p l e R s m args below meth c T' locs' cells slots → T'.heap = h' → Fr n0 locs' → Keep h0 h' [r2] → Arv Z h' r2 k1 .byte (Int32.ofNat (((xs.set (pos - 1) (Int32.ofNat (48 + w % 100 % 10))).set (pos - 2) (Int32.ofNat (48 + w % 100 / 10)))).length) ((((xs.set (pos - 1) (Int32.ofNat (48 + w % 100 % 10))).set (pos - 2) (Int32.ofNat (48 + w % 100 / 10)))).map Value.int) (.int (0 : Int32)) → x'.toInt = -((w / 100 : Nat) : Int) → Onw p e below W (T'.setTop (mkF m 24 #[.val (.long x'), .second, .val (.int p1), .val (.ref r2), .val (.long x'), .second, .val (.int z6), .val (.int (Int32.ofNat (pos - 2))), .val (.int (0 : Int32)), .unset, .unset] []))) :
    Onw p e below W (T0.setTop (mkF m 24 #[.val (.long xx), .second, .val (.int p1), .val (.ref r2), y4, y5, y6, .val (.int (Int32.ofNat pos)), .val (.int (0 : Int32)), .unset, .unset] [])) := by
  refine Onw.go (fun _ kt => XS.lloadN X0.here hx rfl (hb hby d14_24) rfl kt) ?_
  show Onw p e below _ (T0.setTop (mkF m 25 #[.val (.long xx), .second, .val (.int p1), .val (.ref r2), y4, y5, y6, .val (.int (Int32.ofNat pos)), .val (.int (0 : Int32)), .unset, .unset] [(.long xx)]))
  refine Onw.go (X0.ldc2Long hx hown (mvT hZ (hw _ (own_mg (i := 116) rfl))) (g := (mkF m 25 #[.val (.long xx), .second, .val (.int p1), .val (.ref r2), y4, y5, y6, .val (.int (Int32.ofNat pos)), .val (.int (0 : Int32)), .unset, .unset] [(.long xx)])) rfl (hb hby d14_25)) ?_
  show Onw p e below _ (T0.setTop (mkF m 28 #[.val (.long xx), .second, .val (.int p1), .val (.ref r2), y4, y5, y6, .val (.int (Int32.ofNat pos)), .val (.int (0 : Int32)), .unset, .unset] [(.long (-2147483648 : Int64)), (.long xx)]))
  refine Onw.go (fun _ kt => XS.lcmp X0.here hx rfl (hb hby d14_28) rfl kt) ?_
  show Onw p e below _ (T0.setTop (mkF m 29 #[.val (.long xx), .second, .val (.int p1), .val (.ref r2), y4, y5, y6, .val (.int (Int32.ofNat pos)), .val (.int (0 : Int32)), .unset, .unset] [(.int (lcmpW xx (-2147483648 : Int64)))]))
  have hn0 : ¬ ((0 : Int32) < (lcmpW xx (-2147483648 : Int64))) := fun own_z => by
    rw [own_lc0, hxx] at own_z
    have own_e : (-2147483648 : Int64).toInt = -2147483648 := rfl
    omega
  refine Onw.go (fun _ kt => XS.ifNo X0.here hx rfl (hb hby d14_29) rfl ((if0 _ _).trans (flt (hn0 : ¬ ((0 : Int32) < (lcmpW xx (-2147483648 : Int64))))).2.2.1) kt) ?_
  show Onw p e below _ (T0.setTop (mkF m 32 #[.val (.long xx), .second, .val (.int p1), .val (.ref r2), y4, y5, y6, .val (.int (Int32.ofNat pos)), .val (.int (0 : Int32)), .unset, .unset] []))
  obtain ⟨q1, q2⟩ := own_l100 hxx (by omega)
  refine Onw.go (fun _ kt => XS.lloadN X0.here hx rfl (hb hby d14_32) rfl kt) ?_
  show Onw p e below _ (T0.setTop (mkF m 33 #[.val (.long xx), .second, .val (.int p1), .val (.ref r2), y4, y5, y6, .val (.int (Int32.ofNat pos)), .val (.int (0 : Int32)), .unset, .unset] [(.long xx)]))
  refine Onw.go (X0.ldc2Long hx hown (mvT hZ (hw _ (own_mg (i := 257) rfl))) (g := (mkF m 33 #[.val (.long xx), .second, .val (.int p1), .val (.ref r2), y4, y5, y6, .val (.int (Int32.ofNat pos)), .val (.int (0 : Int32)), .unset, .unset] [(.long xx)])) rfl (hb hby d14_33)) ?_
  show Onw p e below _ (T0.setTop (mkF m 36 #[.val (.long xx), .second, .val (.int p1), .val (.ref r2), y4, y5, y6, .val (.int (Int32.ofNat pos)), .val (.int (0 : Int32)), .unset, .unset] [(.long (100 : Int64)), (.long xx)]))
  refine Onw.go (fun _ kt => XS.ldiv X0.here hx rfl (hb hby d14_36) rfl (by decide) kt) ?_
  show Onw p e below _ (T0.setTop (mkF m 37 #[.val (.long xx), .second, .val (.int p1), .val (.ref r2), y4, y5, y6, .val (.int (Int32.ofNat pos)), .val (.int (0 : Int32)), .unset, .unset] [(.long (xx / (100 : Int64)))]))
  refine Onw.go (fun _ kt => XS.lstore X0.here hx rfl (hb hby d14_37) rfl (l' := #[.val (.long xx), .second, .val (.int p1), .val (.ref r2), .val (.long (xx / (100 : Int64))), .second, y6, .val (.int (Int32.ofNat pos)), .val (.int (0 : Int32)), .unset, .unset]) (by rcases h45 with ⟨rfl, rfl⟩ | ⟨_, rfl, rfl⟩ <;> rfl) kt) ?_
  show Onw p e below _ (T0.setTop (mkF m 39 #[.val (.long xx), .second, .val (.int p1), .val (.ref r2), .val (.long (xx / (100 : Int64))), .second, y6, .val (.int (Int32.ofNat pos)), .val (.int (0 : Int32)), .unset, .unset] []))
  refine Onw.go (fun _ kt => XS.lload X0.here hx rfl (hb hby d14_39) rfl kt) ?_
  show Onw p e below _ (T0.setTop (mkF m 41 #[.val (.long xx), .second, .val (.int p1), .val (.ref r2), .val (.long (xx / (100 : Int64))), .second, y6, .val (.int (Int32.ofNat pos)), .val (.int (0 : Int32)), .unset, .unset] [(.long (xx / (100 : Int64)))]))
  refine Onw.go (X0.ldc2Long hx hown (mvT hZ (hw _ (own_mg (i := 257) rfl))) (g := (mkF m 41 #[.val (.long xx), .second, .val (.int p1), .val (.ref r2), .val (.long (xx / (100 : Int64))), .second, y6, .val (.int (Int32.ofNat pos)), .val (.int (0 : Int32)), .unset, .unset] [(.long (xx / (100 : Int64)))])) rfl (hb hby d14_41)) ?_
  show Onw p e below _ (T0.setTop (mkF m 44 #[.val (.long xx), .second, .val (.int p1), .val (.ref r2), .val (.long (xx / (100 : Int64))), .second, y6, .val (.int (Int32.ofNat pos)), .val (.int (0 : Int32)), .unset, .unset] [(.long (100 : Int64)), (.long (xx / (100 : Int64)))]))
  refine Onw.go (fun _ kt => XS.lmul X0.here hx rfl (hb hby d14_44) rfl kt) ?_
  show Onw p e below _ (T0.setTop (mkF m 45 #[.val (.long xx), .second, .val (.int p1), .val (.ref r2), .val (.long (xx / (100 : Int64))), .second, y6, .val (.int (Int32.ofNat pos)), .val (.int (0 : Int32)), .unset, .unset] [(.long ((xx / (100 : Int64)) * (100 : Int64)))]))
  refine Onw.go (fun _ kt => XS.lloadN X0.here hx rfl (hb hby d14_45) rfl kt) ?_
  show Onw p e below _ (T0.setTop (mkF m 46 #[.val (.long xx), .second, .val (.int p1), .val (.ref r2), .val (.long (xx / (100 : Int64))), .second, y6, .val (.int (Int32.ofNat pos)), .val (.int (0 : Int32)), .unset, .unset] [(.long xx), (.long ((xx / (100 : Int64)) * (100 : Int64)))]))
  refine Onw.go (fun _ kt => XS.lsub X0.here hx rfl (hb hby d14_46) rfl kt) ?_
  show Onw p e below _ (T0.setTop (mkF m 47 #[.val (.long xx), .second, .val (.int p1), .val (.ref r2), .val (.long (xx / (100 : Int64))), .second, y6, .val (.int (Int32.ofNat pos)), .val (.int (0 : Int32)), .unset, .unset] [(.long (((xx / (100 : Int64)) * (100 : Int64)) - xx))]))
  refine Onw.go (fun _ kt => XS.l2i X0.here hx rfl (hb hby d14_47) rfl kt) ?_
  show Onw p e below _ (T0.setTop (mkF m 48 #[.val (.long xx), .second, .val (.int p1), .val (.ref r2), .val (.long (xx / (100 : Int64))), .second, y6, .val (.int (Int32.ofNat pos)), .val (.int (0 : Int32)), .unset, .unset] [(.int ((((xx / (100 : Int64)) * (100 : Int64)) - xx).toInt32))]))
  rw [(q2 : ((((xx / (100 : Int64)) * (100 : Int64)) - xx).toInt32) = (Int32.ofNat (w % 100)))]
  show Onw p e below _ (T0.setTop (mkF m 48 #[.val (.long xx), .second, .val (.int p1), .val (.ref r2), .val (.long (xx / (100 : Int64))), .second, y6, .val (.int (Int32.ofNat pos)), .val (.int (0 : Int32)), .unset, .unset] [(.int (Int32.ofNat (w % 100)))]))
  refine Onw.go (fun _ kt => XS.istore X0.here hx rfl (hb hby d14_48) rfl (l' := #[.val (.long xx), .second, .val (.int p1), .val (.ref r2), .val (.long (xx / (100 : Int64))), .second, .val (.int (Int32.ofNat (w % 100))), .val (.int (Int32.ofNat pos)), .val (.int (0 : Int32)), .unset, .unset]) (by rcases h6 with rfl | ⟨_, rfl⟩ <;> rfl) kt) ?_
  show Onw p e below _ (T0.setTop (mkF m 50 #[.val (.long xx), .second, .val (.int p1), .val (.ref r2), .val (.long (xx / (100 : Int64))), .second, .val (.int (Int32.ofNat (w % 100))), .val (.int (Int32.ofNat pos)), .val (.int (0 : Int32)), .unset, .unset] []))
  refine Onw.go (fun _ kt => XS.lload X0.here hx rfl (hb hby d14_50) rfl kt) ?_
  show Onw p e below _ (T0.setTop (mkF m 52 #[.val (.long xx), .second, .val (.int p1), .val (.ref r2), .val (.long (xx / (100 : Int64))), .second, .val (.int (Int32.ofNat (w % 100))), .val (.int (Int32.ofNat pos)), .val (.int (0 : Int32)), .unset, .unset] [(.long (xx / (100 : Int64)))]))
  refine Onw.go (fun _ kt => XS.lstoreN X0.here hx rfl (hb hby d14_52) rfl (l' := #[.val (.long (xx / (100 : Int64))), .second, .val (.int p1), .val (.ref r2), .val (.long (xx / (100 : Int64))), .second, .val (.int (Int32.ofNat (w % 100))), .val (.int (Int32.ofNat pos)), .val (.int (0 : Int32)), .unset, .unset]) rfl kt) ?_
  show Onw p e below _ (T0.setTop (mkF m 53 #[.val (.long (xx / (100 : Int64))), .second, .val (.int p1), .val (.ref r2), .val (.long (xx / (100 : Int64))), .second, .val (.int (Int32.ofNat (w % 100))), .val (.int (Int32.ofNat pos)), .val (.int (0 : Int32)), .unset, .unset] []))
  refine Onw.go (fun _ kt => XS.aloadN X0.here hx rfl (hb hby d14_53) rfl rfl kt) ?_
  show Onw p e below _ (T0.setTop (mkF m 54 #[.val (.long (xx / (100 : Int64))), .second, .val (.int p1), .val (.ref r2), .val (.long (xx / (100 : Int64))), .second, .val (.int (Int32.ofNat (w % 100))), .val (.int (Int32.ofNat pos)), .val (.int (0 : Int32)), .unset, .unset] [(.ref r2)]))
  refine Onw.go (fun _ kt => XS.iinc X0.here hx rfl (hb hby d14_54) rfl (l' := #[.val (.long (xx / (100 : Int64))), .second, .val (.int p1), .val (.ref r2), .val (.long (xx / (100 : Int64))), .second, .val (.int (Int32.ofNat (w % 100))), .val (.int ((Int32.ofNat pos) + (-1 : Int32))), .val (.int (0 : Int32)), .unset, .unset]) rfl kt) ?_
  show Onw p e below _ (T0.setTop (mkF m 57 #[.val (.long (xx / (100 : Int64))), .second, .val (.int p1), .val (.ref r2), .val (.long (xx / (100 : Int64))), .second, .val (.int (Int32.ofNat (w % 100))), .val (.int ((Int32.ofNat pos) + (-1 : Int32))), .val (.int (0 : Int32)), .unset, .unset] [(.ref r2)]))
  refine Onw.go (fun _ kt => XS.iload X0.here hx rfl (hb hby d14_57) rfl kt) ?_
  show Onw p e below _ (T0.setTop (mkF m 59 #[.val (.long (xx / (100 : Int64))), .second, .val (.int p1), .val (.ref r2), .val (.long (xx / (100 : Int64))), .second, .val (.int (Int32.ofNat (w % 100))), .val (.int ((Int32.ofNat pos) + (-1 : Int32))), .val (.int (0 : Int32)), .unset, .unset] [(.int ((Int32.ofNat pos) + (-1 : Int32))), (.ref r2)]))
  rw [(own_pred (by omega) (by omega) : ((Int32.ofNat pos) + (-1 : Int32)) = (Int32.ofNat (pos - 1)))]
  show Onw p e below _ (T0.setTop (mkF m 59 #[.val (.long (xx / (100 : Int64))), .second, .val (.int p1), .val (.ref r2), .val (.long (xx / (100 : Int64))), .second, .val (.int (Int32.ofNat (w % 100))), .val (.int (Int32.ofNat (pos - 1))), .val (.int (0 : Int32)), .unset, .unset] [(.int (Int32.ofNat (pos - 1))), (.ref r2)]))
  obtain ⟨T1, X1, e1, st1⟩ := getS2 X0 hx hZ hown (host := "") (Or.inl (hw _ (own_mg (i := 117) rfl))) Via.refl e0 S_1 (g := (mkF m 59 #[.val (.long (xx / (100 : Int64))), .second, .val (.int p1), .val (.ref r2), .val (.long (xx / (100 : Int64))), .second, .val (.int (Int32.ofNat (w % 100))), .val (.int (Int32.ofNat (pos - 1))), .val (.int (0 : Int32)), .unset, .unset] [(.int (Int32.ofNat (pos - 1))), (.ref r2)])) rfl (hb hby d14_59)
  refine Onw.go st1 ?_
  show Onw p e below _ (T1.setTop (mkF m 62 #[.val (.long (xx / (100 : Int64))), .second, .val (.int p1), .val (.ref r2), .val (.long (xx / (100 : Int64))), .second, .val (.int (Int32.ofNat (w % 100))), .val (.int (Int32.ofNat (pos - 1))), .val (.int (0 : Int32)), .unset, .unset] [(.ref o1), (.int (Int32.ofNat (pos - 1))), (.ref r2)]))
  refine Onw.go (fun _ kt => XS.iload X1.here hx rfl (hb hby d14_62) rfl kt) ?_
  show Onw p e below _ (T1.setTop (mkF m 64 #[.val (.long (xx / (100 : Int64))), .second, .val (.int p1), .val (.ref r2), .val (.long (xx / (100 : Int64))), .second, .val (.int (Int32.ofNat (w % 100))), .val (.int (Int32.ofNat (pos - 1))), .val (.int (0 : Int32)), .unset, .unset] [(.int (Int32.ofNat (w % 100))), (.ref o1), (.int (Int32.ofNat (pos - 1))), (.ref r2)]))
  obtain ⟨cc2, cA2, ci2, cv2⟩ := own_DG.at D_1 (r := w % 100) (by omega)
  refine Onw.go (X1.baloadBytes hx (j := (Int32.ofNat (w % 100))) (v := (.int (Int32.ofNat (48 + w % 100 % 10)))) (by rw [e1]; exact cA2.1) (State.isArrayOf_alike hZ.alike cA2.2.1) cA2.2.2 ci2 cv2 (g := (mkF m 64 #[.val (.long (xx / (100 : Int64))), .second, .val (.int p1), .val (.ref r2), .val (.long (xx / (100 : Int64))), .second, .val (.int (Int32.ofNat (w % 100))), .val (.int (Int32.ofNat (pos - 1))), .val (.int (0 : Int32)), .unset, .unset] [(.int (Int32.ofNat (w % 100))), (.ref o1), (.int (Int32.ofNat (pos - 1))), (.ref r2)])) rfl rfl (hb hby d14_64)) ?_
  show Onw p e below _ (T1.setTop (mkF m 65 #[.val (.long (xx / (100 : Int64))), .second, .val (.int p1), .val (.ref r2), .val (.long (xx / (100 : Int64))), .second, .val (.int (Int32.ofNat (w % 100))), .val (.int (Int32.ofNat (pos - 1))), .val (.int (0 : Int32)), .unset, .unset] [(.int (Int32.ofNat (48 + w % 100 % 10))), (.int (Int32.ofNat (pos - 1))), (.ref r2)]))
  obtain ⟨T3, h3, L3, X3, e3, N3, K3, V3, st3⟩ := own_stBv (i := (pos - 1)) (y := (Int32.ofNat (48 + w % 100 % 10))) X1 hx hZ e1 V0 rfl (by omega) lx (own_nb (by omega)) N0 g_b (g := (mkF m 65 #[.val (.long (xx / (100 : Int64))), .second, .val (.int p1), .val (.ref r2), .val (.long (xx / (100 : Int64))), .second, .val (.int (Int32.ofNat (w % 100))), .val (.int (Int32.ofNat (pos - 1))), .val (.int (0 : Int32)), .unset, .unset] [(.int (Int32.ofNat (48 + w % 100 % 10))), (.int (Int32.ofNat (pos - 1))), (.ref r2)])) rfl rfl (hb hby d14_65)
  refine Onw.go st3 ?_
  show Onw p e below _ (T3.setTop (mkF m 66 #[.val (.long (xx / (100 : Int64))), .second, .val (.int p1), .val (.ref r2), .val (.long (xx / (100 : Int64))), .second, .val (.int (Int32.ofNat (w % 100))), .val (.int (Int32.ofNat (pos - 1))), .val (.int (0 : Int32)), .unset, .unset] []))
  have lx1 : (xs.set (pos - 1) (Int32.ofNat (48 + w % 100 % 10))).length ≤ 1000 := by simp; exact lx
  have lq1 : (xs.set (pos - 1) (Int32.ofNat (48 + w % 100 % 10))).length = xs.length := by simp
  have lx0 := lx
  clear lx
  have lx := lx1
  refine Onw.go (fun _ kt => XS.aloadN X3.here hx rfl (hb hby d14_66) rfl rfl kt) ?_
  show Onw p e below _ (T3.setTop (mkF m 67 #[.val (.long (xx / (100 : Int64))), .second, .val (.int p1), .val (.ref r2), .val (.long (xx / (100 : Int64))), .second, .val (.int (Int32.ofNat (w % 100))), .val (.int (Int32.ofNat (pos - 1))), .val (.int (0 : Int32)), .unset, .unset] [(.ref r2)]))
  refine Onw.go (fun _ kt => XS.iinc X3.here hx rfl (hb hby d14_67) rfl (l' := #[.val (.long (xx / (100 : Int64))), .second, .val (.int p1), .val (.ref r2), .val (.long (xx / (100 : Int64))), .second, .val (.int (Int32.ofNat (w % 100))), .val (.int ((Int32.ofNat (pos - 1)) + (-1 : Int32))), .val (.int (0 : Int32)), .unset, .unset]) rfl kt) ?_
  show Onw p e below _ (T3.setTop (mkF m 70 #[.val (.long (xx / (100 : Int64))), .second, .val (.int p1), .val (.ref r2), .val (.long (xx / (100 : Int64))), .second, .val (.int (Int32.ofNat (w % 100))), .val (.int ((Int32.ofNat (pos - 1)) + (-1 : Int32))), .val (.int (0 : Int32)), .unset, .unset] [(.ref r2)]))
  refine Onw.go (fun _ kt => XS.iload X3.here hx rfl (hb hby d14_70) rfl kt) ?_
  show Onw p e below _ (T3.setTop (mkF m 72 #[.val (.long (xx / (100 : Int64))), .second, .val (.int p1), .val (.ref r2), .val (.long (xx / (100 : Int64))), .second, .val (.int (Int32.ofNat (w % 100))), .val (.int ((Int32.ofNat (pos - 1)) + (-1 : Int32))), .val (.int (0 : Int32)), .unset, .unset] [(.int ((Int32.ofNat (pos - 1)) + (-1 : Int32))), (.ref r2)]))
  rw [(own_pred (by omega) (by omega) : ((Int32.ofNat (pos - 1)) + (-1 : Int32)) = (Int32.ofNat (pos - 2)))]
  show Onw p e below _ (T3.setTop (mkF m 72 #[.val (.long (xx / (100 : Int64))), .second, .val (.int p1), .val (.ref r2), .val (.long (xx / (100 : Int64))), .second, .val (.int (Int32.ofNat (w % 100))), .val (.int (Int32.ofNat (pos - 2))), .val (.int (0 : Int32)), .unset, .unset] [(.int (Int32.ofNat (pos - 2))), (.ref r2)]))
  obtain ⟨T4, X4, e4, st4⟩ := getS2 X3 hx hZ hown (host := "") (Or.inl (hw _ (own_mg (i := 239) rfl))) Via.refl e3 (own_stak S_2 K3 (fun own_b own_hb => by rw [List.mem_singleton.mp own_hb]; exact V0.nostat)) (g := (mkF m 72 #[.val (.long (xx / (100 : Int64))), .second, .val (.int p1), .val (.ref r2), .val (.long (xx / (100 : Int64))), .second, .val (.int (Int32.ofNat (w % 100))), .val (.int (Int32.ofNat (pos - 2))), .val (.int (0 : Int32)), .unset, .unset] [(.int (Int32.ofNat (pos - 2))), (.ref r2)])) rfl (hb hby d14_72)
  refine Onw.go st4 ?_
  show Onw p e below _ (T4.setTop (mkF m 75 #[.val (.long (xx / (100 : Int64))), .second, .val (.int p1), .val (.ref r2), .val (.long (xx / (100 : Int64))), .second, .val (.int (Int32.ofNat (w % 100))), .val (.int (Int32.ofNat (pos - 2))), .val (.int (0 : Int32)), .unset, .unset] [(.ref o2), (.int (Int32.ofNat (pos - 2))), (.ref r2)]))
  refine Onw.go (fun _ kt => XS.iload X4.here hx rfl (hb hby d14_75) rfl kt) ?_
  show Onw p e below _ (T4.setTop (mkF m 77 #[.val (.long (xx / (100 : Int64))), .second, .val (.int p1), .val (.ref r2), .val (.long (xx / (100 : Int64))), .second, .val (.int (Int32.ofNat (w % 100))), .val (.int (Int32.ofNat (pos - 2))), .val (.int (0 : Int32)), .unset, .unset] [(.int (Int32.ofNat (w % 100))), (.ref o2), (.int (Int32.ofNat (pos - 2))), (.ref r2)]))
  obtain ⟨cc5, cA5, ci5, cv5⟩ := own_DG.at (D_2.keep K3 (fun own_z => ne2 (List.mem_singleton.mp own_z))) (r := w % 100) (by omega)
  refine Onw.go (X4.baloadBytes hx (j := (Int32.ofNat (w % 100))) (v := (.int (Int32.ofNat (48 + w % 100 / 10)))) (by rw [e4]; exact cA5.1) (State.isArrayOf_alike hZ.alike cA5.2.1) cA5.2.2 ci5 cv5 (g := (mkF m 77 #[.val (.long (xx / (100 : Int64))), .second, .val (.int p1), .val (.ref r2), .val (.long (xx / (100 : Int64))), .second, .val (.int (Int32.ofNat (w % 100))), .val (.int (Int32.ofNat (pos - 2))), .val (.int (0 : Int32)), .unset, .unset] [(.int (Int32.ofNat (w % 100))), (.ref o2), (.int (Int32.ofNat (pos - 2))), (.ref r2)])) rfl rfl (hb hby d14_77)) ?_
  show Onw p e below _ (T4.setTop (mkF m 78 #[.val (.long (xx / (100 : Int64))), .second, .val (.int p1), .val (.ref r2), .val (.long (xx / (100 : Int64))), .second, .val (.int (Int32.ofNat (w % 100))), .val (.int (Int32.ofNat (pos - 2))), .val (.int (0 : Int32)), .unset, .unset] [(.int (Int32.ofNat (48 + w % 100 / 10))), (.int (Int32.ofNat (pos - 2))), (.ref r2)]))
  obtain ⟨T6, h6, L6, X6, e6, N6, K6, V6, st6⟩ := own_stBv (i := (pos - 2)) (y := (Int32.ofNat (48 + w % 100 / 10))) X4 hx hZ e4 V3 rfl (by omega) lx (own_nb (by omega)) N3 g_b (g := (mkF m 78 #[.val (.long (xx / (100 : Int64))), .second, .val (.int p1), .val (.ref r2), .val (.long (xx / (100 : Int64))), .second, .val (.int (Int32.ofNat (w % 100))), .val (.int (Int32.ofNat (pos - 2))), .val (.int (0 : Int32)), .unset, .unset] [(.int (Int32.ofNat (48 + w % 100 / 10))), (.int (Int32.ofNat (pos - 2))), (.ref r2)])) rfl rfl (hb hby d14_78)
  refine Onw.go st6 ?_
  show Onw p e below _ (T6.setTop (mkF m 79 #[.val (.long (xx / (100 : Int64))), .second, .val (.int p1), .val (.ref r2), .val (.long (xx / (100 : Int64))), .second, .val (.int (Int32.ofNat (w % 100))), .val (.int (Int32.ofNat (pos - 2))), .val (.int (0 : Int32)), .unset, .unset] []))
  refine Onw.go (fun _ kt => XS.goto X6.here hx rfl (pc0 := 79) (pc' := 24) rfl (hb hby d14_79) (by decide) (by decide) kt) ?_
  show Onw p e below _ (T6.setTop (mkF m 24 #[.val (.long (xx / (100 : Int64))), .second, .val (.int p1), .val (.ref r2), .val (.long (xx / (100 : Int64))), .second, .val (.int (Int32.ofNat (w % 100))), .val (.int (Int32.ofNat (pos - 2))), .val (.int (0 : Int32)), .unset, .unset] []))
  exact hK _ _ _ _ _ X6 e6 N6 (K3.trans K6 (fun own_x own_h => Or.inl own_h)) V6 q1
theorem d14_82 : decode jdk_35_method_14_code 82 = .ok (.lload_n 0, 1) := by decide +kernel
theorem d14_83 : decode jdk_35_method_14_code 83 = .ok (.l2i, 1) := by decide +kernel
theorem d14_84 : decode jdk_35_method_14_code 84 = .ok (.istore 10, 2) := by decide +kernel
set_option maxRecDepth 65536 in
set_option maxHeartbeats 40000000 in
theorem gc_exit1 {p : Program} {l : Launch} {e : Env} {R : Room} {s : State} {m : MethodId} {args : Array Value} {below : List Frame} {meth : Method} {c : Code} {Z : State} {a0 : Array Value} {W : Outcome → State → Prop} (hx : p.tables.exec = Jvm.exec) (hZ : Z.Warmed39 s.vm) (hw : ∀ d ∈ tables_1, d.before a0 Z = true) (hby : c.code = jdk_35_method_14_code) (hml : c.maxLocals = 11) (hown : s.vm.findClass "java/lang/Long" = some m.cls) {h0 : Heap} {n0 : Nat}  (xx : Int64) (p1 : Int32) (r2 o1 o2 : Addr) (y4 y5 y6 : Slot) (k1 : ClassId) (xs : List Int32) (pos w : Nat)
    {T0 : State} {locs0 : List Loc} {cells slots : Nat} (X0 : Stand p l e R s m args below meth c T0 locs0 cells slots) (e0 : T0.heap = h0) (N0 : Fr n0 locs0) (hxx : xx.toInt = -(w : Int)) (hw1 : w < 2147483648) (hK : Onw p e below W (T0.setTop (mkF m 86 #[.val (.long xx), .second, .val (.int p1), .val (.ref r2), y4, y5, y6, .val (.int (Int32.ofNat pos)), .val (.int (0 : Int32)), .unset, .val (.int (xx.toInt32))] []))) :
    Onw p e below W (T0.setTop (mkF m 24 #[.val (.long xx), .second, .val (.int p1), .val (.ref r2), y4, y5, y6, .val (.int (Int32.ofNat pos)), .val (.int (0 : Int32)), .unset, .unset] [])) := by
  refine Onw.go (fun _ kt => XS.lloadN X0.here hx rfl (hb hby d14_24) rfl kt) ?_
  show Onw p e below _ (T0.setTop (mkF m 25 #[.val (.long xx), .second, .val (.int p1), .val (.ref r2), y4, y5, y6, .val (.int (Int32.ofNat pos)), .val (.int (0 : Int32)), .unset, .unset] [(.long xx)]))
  refine Onw.go (X0.ldc2Long hx hown (mvT hZ (hw _ (own_mg (i := 116) rfl))) (g := (mkF m 25 #[.val (.long xx), .second, .val (.int p1), .val (.ref r2), y4, y5, y6, .val (.int (Int32.ofNat pos)), .val (.int (0 : Int32)), .unset, .unset] [(.long xx)])) rfl (hb hby d14_25)) ?_
  show Onw p e below _ (T0.setTop (mkF m 28 #[.val (.long xx), .second, .val (.int p1), .val (.ref r2), y4, y5, y6, .val (.int (Int32.ofNat pos)), .val (.int (0 : Int32)), .unset, .unset] [(.long (-2147483648 : Int64)), (.long xx)]))
  refine Onw.go (fun _ kt => XS.lcmp X0.here hx rfl (hb hby d14_28) rfl kt) ?_
  show Onw p e below _ (T0.setTop (mkF m 29 #[.val (.long xx), .second, .val (.int p1), .val (.ref r2), y4, y5, y6, .val (.int (Int32.ofNat pos)), .val (.int (0 : Int32)), .unset, .unset] [(.int (lcmpW xx (-2147483648 : Int64)))]))
  have hn0 : (0 : Int32) < (lcmpW xx (-2147483648 : Int64)) := by
    rw [own_lc0, hxx]
    have own_e : (-2147483648 : Int64).toInt = -2147483648 := rfl
    omega
  refine Onw.go (fun _ kt => XS.ifYes X0.here hx rfl (pc0 := 29) (pc' := 82) rfl (hb hby d14_29) rfl ((if0 _ _).trans (tlt (hn0 : (0 : Int32) < (lcmpW xx (-2147483648 : Int64)))).2.2.1) (by decide) (by decide) kt) ?_
  show Onw p e below _ (T0.setTop (mkF m 82 #[.val (.long xx), .second, .val (.int p1), .val (.ref r2), y4, y5, y6, .val (.int (Int32.ofNat pos)), .val (.int (0 : Int32)), .unset, .unset] []))
  refine Onw.go (fun _ kt => XS.lloadN X0.here hx rfl (hb hby d14_82) rfl kt) ?_
  show Onw p e below _ (T0.setTop (mkF m 83 #[.val (.long xx), .second, .val (.int p1), .val (.ref r2), y4, y5, y6, .val (.int (Int32.ofNat pos)), .val (.int (0 : Int32)), .unset, .unset] [(.long xx)]))
  refine Onw.go (fun _ kt => XS.l2i X0.here hx rfl (hb hby d14_83) rfl kt) ?_
  show Onw p e below _ (T0.setTop (mkF m 84 #[.val (.long xx), .second, .val (.int p1), .val (.ref r2), y4, y5, y6, .val (.int (Int32.ofNat pos)), .val (.int (0 : Int32)), .unset, .unset] [(.int (xx.toInt32))]))
  refine Onw.go (fun _ kt => XS.istore X0.here hx rfl (hb hby d14_84) rfl (l' := #[.val (.long xx), .second, .val (.int p1), .val (.ref r2), y4, y5, y6, .val (.int (Int32.ofNat pos)), .val (.int (0 : Int32)), .unset, .val (.int (xx.toInt32))]) rfl kt) ?_
  show Onw p e below _ (T0.setTop (mkF m 86 #[.val (.long xx), .second, .val (.int p1), .val (.ref r2), y4, y5, y6, .val (.int (Int32.ofNat pos)), .val (.int (0 : Int32)), .unset, .val (.int (xx.toInt32))] []))
  exact hK
theorem d14_86 : decode jdk_35_method_14_code 86 = .ok (.iload 10, 2) := by decide +kernel
theorem d14_88 : decode jdk_35_method_14_code 88 = .ok (.bipush (-100), 2) := by decide +kernel
theorem d14_90 : decode jdk_35_method_14_code 90 = .ok (.if_icmp .gt 53, 3) := by decide +kernel
theorem d14_93 : decode jdk_35_method_14_code 93 = .ok (.iload 10, 2) := by decide +kernel
theorem d14_95 : decode jdk_35_method_14_code 95 = .ok (.bipush 100, 2) := by decide +kernel
theorem d14_97 : decode jdk_35_method_14_code 97 = .ok (.idiv, 1) := by decide +kernel
theorem d14_98 : decode jdk_35_method_14_code 98 = .ok (.istore 9, 2) := by decide +kernel
theorem d14_100 : decode jdk_35_method_14_code 100 = .ok (.iload 9, 2) := by decide +kernel
theorem d14_102 : decode jdk_35_method_14_code 102 = .ok (.bipush 100, 2) := by decide +kernel
theorem d14_104 : decode jdk_35_method_14_code 104 = .ok (.imul, 1) := by decide +kernel
theorem d14_105 : decode jdk_35_method_14_code 105 = .ok (.iload 10, 2) := by decide +kernel
theorem d14_107 : decode jdk_35_method_14_code 107 = .ok (.isub, 1) := by decide +kernel
theorem d14_108 : decode jdk_35_method_14_code 108 = .ok (.istore 6, 2) := by decide +kernel
theorem d14_110 : decode jdk_35_method_14_code 110 = .ok (.iload 9, 2) := by decide +kernel
theorem d14_112 : decode jdk_35_method_14_code 112 = .ok (.istore 10, 2) := by decide +kernel
theorem d14_114 : decode jdk_35_method_14_code 114 = .ok (.aload_n 3, 1) := by decide +kernel
theorem d14_115 : decode jdk_35_method_14_code 115 = .ok (.iinc 7 (-1), 3) := by decide +kernel
theorem d14_118 : decode jdk_35_method_14_code 118 = .ok (.iload 7, 2) := by decide +kernel
theorem d14_120 : decode jdk_35_method_14_code 120 = .ok (.getstatic 133, 3) := by decide +kernel
theorem d14_123 : decode jdk_35_method_14_code 123 = .ok (.iload 6, 2) := by decide +kernel
theorem d14_125 : decode jdk_35_method_14_code 125 = .ok (.baload, 1) := by decide +kernel
theorem d14_126 : decode jdk_35_method_14_code 126 = .ok (.bastore, 1) := by decide +kernel
theorem d14_127 : decode jdk_35_method_14_code 127 = .ok (.aload_n 3, 1) := by decide +kernel
theorem d14_128 : decode jdk_35_method_14_code 128 = .ok (.iinc 7 (-1), 3) := by decide +kernel
theorem d14_131 : decode jdk_35_method_14_code 131 = .ok (.iload 7, 2) := by decide +kernel
theorem d14_133 : decode jdk_35_method_14_code 133 = .ok (.getstatic 137, 3) := by decide +kernel
theorem d14_136 : decode jdk_35_method_14_code 136 = .ok (.iload 6, 2) := by decide +kernel
theorem d14_138 : decode jdk_35_method_14_code 138 = .ok (.baload, 1) := by decide +kernel
theorem d14_139 : decode jdk_35_method_14_code 139 = .ok (.bastore, 1) := by decide +kernel
theorem d14_140 : decode jdk_35_method_14_code 140 = .ok (.goto (-54), 3) := by decide +kernel
set_option maxRecDepth 65536 in
set_option maxHeartbeats 40000000 in
theorem gc_turn2 {p : Program} {l : Launch} {e : Env} {R : Room} {s : State} {m : MethodId} {args : Array Value} {below : List Frame} {meth : Method} {c : Code} {Z : State} {a0 : Array Value} {W : Outcome → State → Prop} (hx : p.tables.exec = Jvm.exec) (hZ : Z.Warmed39 s.vm) (hw : ∀ d ∈ tables_1, d.before a0 Z = true) (hby : c.code = jdk_35_method_14_code) (hml : c.maxLocals = 11) (hown : s.vm.findClass "java/lang/Long" = some m.cls) {h0 : Heap} {n0 : Nat}  (xx : Int64) (p1 i2 : Int32) (r2 o1 o2 : Addr) (y4 y5 y6 y9 : Slot) (k1 : ClassId) (xs : List Int32) (pos w : Nat)
    {T0 : State} {locs0 : List Loc} {cells slots : Nat} (X0 : Stand p l e R s m args below meth c T0 locs0 cells slots) (e0 : T0.heap = h0) (N0 : Fr n0 locs0) (V0 : Arv Z h0 r2 k1 .byte (Int32.ofNat (xs).length) ((xs).map Value.int) (.int (0 : Int32))) (lx : xs.length ≤ 1000) (hp : 1 ≤ pos ∧ pos ≤ xs.length) (g_b : n0 ≤ r2) (S_1 : Sta Z h0 "java/lang/Integer" "DigitOnes" "[B" (.ref o1)) (S_2 : Sta Z h0 "java/lang/Integer" "DigitTens" "[B" (.ref o2)) (D_1 : own_DG Z h0 o1 (fun i => i % 10)) (D_2 : own_DG Z h0 o2 (fun i => i / 10)) (ne1 : o1 ≠ r2) (ne2 : o2 ≠ r2) (h6 : y6 = .unset ∨ ∃ z : Int32, y6 = .val (.int z)) (h9 : y9 = .unset ∨ ∃ z : Int32, y9 = .val (.int z)) (hp2 : 2 ≤ pos) (hxx : i2.toInt = -(w : Int)) (hw1 : 100 ≤ w) (hK : ∀ (T' : State) (h' : Heap) (locs' : List Loc) (x' : Int32) (z6 : Int32), Stand p l e R s m args below meth c T' locs' cells slots → T'.heap = h' → Fr n0 locs' → Keep h0 h' [r2] → Arv Z h' r2 k1 .byte (Int32.ofNat (((xs.set (pos - 1) (Int32.ofNat (48 + w % 100 % 10))).set (pos - 2) (Int32.ofNat (48 + w % 100 / 10)))).length) ((((xs.set (pos - 1) (Int32.ofNat (48 + w % 100 % 10))).set (pos - 2) (Int32.ofNat (48 + w % 100 / 10)))).map Value.int) (.int (0 : Int32)) → x'.toInt = -((w / 100 : Nat) : Int) → Onw p e below W (T'.setTop (mkF m 86 #[.val (.long xx), .second, .val (.int p1), .val (.ref r2), y4, y5, .val (.int z6), .val (.int (Int32.ofNat (pos - 2))), .val (.int (0 : Int32)), .val (.int x'), .val (.int x')] []))) :
    Onw p e below W (T0.setTop (mkF m 86 #[.val (.long xx), .second, .val (.int p1), .val (.ref r2), y4, y5, y6, .val (.int (Int32.ofNat pos)), .val (.int (0 : Int32)), y9, .val (.int i2)] [])) := by
  refine Onw.go (fun _ kt => XS.iload X0.here hx rfl (hb hby d14_86) rfl kt) ?_
  show Onw p e below _ (T0.setTop (mkF m 88 #[.val (.long xx), .second, .val (.int p1), .val (.ref r2), y4, y5, y6, .val (.int (Int32.ofNat pos)), .val (.int (0 : Int32)), y9, .val (.int i2)] [(.int i2)]))
  refine Onw.go (fun _ kt => XS.bipush X0.here hx rfl (hb hby d14_88) kt) ?_
  show Onw p e below _ (T0.setTop (mkF m 90 #[.val (.long xx), .second, .val (.int p1), .val (.ref r2), y4, y5, y6, .val (.int (Int32.ofNat pos)), .val (.int (0 : Int32)), y9, .val (.int i2)] [(.int (-100 : Int32)), (.int i2)]))
  have hn0 : ¬ ((-100 : Int32) < i2) := fun own_z => by
    rw [Int32.lt_iff_toInt_lt, hxx] at own_z
    have own_e : (-100 : Int32).toInt = -100 := rfl
    omega
  refine Onw.go (fun _ kt => XS.icmpNo X0.here hx rfl (hb hby d14_90) rfl (flt (hn0 : ¬ ((-100 : Int32) < i2))).2.2.1 kt) ?_
  show Onw p e below _ (T0.setTop (mkF m 93 #[.val (.long xx), .second, .val (.int p1), .val (.ref r2), y4, y5, y6, .val (.int (Int32.ofNat pos)), .val (.int (0 : Int32)), y9, .val (.int i2)] []))
  obtain ⟨q1, q2⟩ := own_i100 hxx (by omega)
  refine Onw.go (fun _ kt => XS.iload X0.here hx rfl (hb hby d14_93) rfl kt) ?_
  show Onw p e below _ (T0.setTop (mkF m 95 #[.val (.long xx), .second, .val (.int p1), .val (.ref r2), y4, y5, y6, .val (.int (Int32.ofNat pos)), .val (.int (0 : Int32)), y9, .val (.int i2)] [(.int i2)]))
  refine Onw.go (fun _ kt => XS.bipush X0.here hx rfl (hb hby d14_95) kt) ?_
  show Onw p e below _ (T0.setTop (mkF m 97 #[.val (.long xx), .second, .val (.int p1), .val (.ref r2), y4, y5, y6, .val (.int (Int32.ofNat pos)), .val (.int (0 : Int32)), y9, .val (.int i2)] [(.int (100 : Int32)), (.int i2)]))
  refine Onw.go (fun _ kt => XS.idiv X0.here hx rfl (hb hby d14_97) rfl (by decide) kt) ?_
  show Onw p e below _ (T0.setTop (mkF m 98 #[.val (.long xx), .second, .val (.int p1), .val (.ref r2), y4, y5, y6, .val (.int (Int32.ofNat pos)), .val (.int (0 : Int32)), y9, .val (.int i2)] [(.int (i2 / (100 : Int32)))]))
  refine Onw.go (fun _ kt => XS.istore X0.here hx rfl (hb hby d14_98) rfl (l' := #[.val (.long xx), .second, .val (.int p1), .val (.ref r2), y4, y5, y6, .val (.int (Int32.ofNat pos)), .val (.int (0 : Int32)), .val (.int (i2 / (100 : Int32))), .val (.int i2)]) (by rcases h9 with rfl | ⟨_, rfl⟩ <;> rfl) kt) ?_
  show Onw p e below _ (T0.setTop (mkF m 100 #[.val (.long xx), .second, .val (.int p1), .val (.ref r2), y4, y5, y6, .val (.int (Int32.ofNat pos)), .val (.int (0 : Int32)), .val (.int (i2 / (100 : Int32))), .val (.int i2)] []))
  refine Onw.go (fun _ kt => XS.iload X0.here hx rfl (hb hby d14_100) rfl kt) ?_
  show Onw p e below _ (T0.setTop (mkF m 102 #[.val (.long xx), .second, .val (.int p1), .val (.ref r2), y4, y5, y6, .val (.int (Int32.ofNat pos)), .val (.int (0 : Int32)), .val (.int (i2 / (100 : Int32))), .val (.int i2)] [(.int (i2 / (100 : Int32)))]))
  refine Onw.go (fun _ kt => XS.bipush X0.here hx rfl (hb hby d14_102) kt) ?_
  show Onw p e below _ (T0.setTop (mkF m 104 #[.val (.long xx), .second, .val (.int p1), .val (.ref r2), y4, y5, y6, .val (.int (Int32.ofNat pos)), .val (.int (0 : Int32)), .val (.int (i2 / (100 : Int32))), .val (.int i2)] [(.int (100 : Int32)), (.int (i2 / (100 : Int32)))]))
  refine Onw.go (fun _ kt => XS.imul X0.here hx rfl (hb hby d14_104) rfl kt) ?_
  show Onw p e below _ (T0.setTop (mkF m 105 #[.val (.long xx), .second, .val (.int p1), .val (.ref r2), y4, y5, y6, .val (.int (Int32.ofNat pos)), .val (.int (0 : Int32)), .val (.int (i2 / (100 : Int32))), .val (.int i2)] [(.int ((i2 / (100 : Int32)) * (100 : Int32)))]))
  refine Onw.go (fun _ kt => XS.iload X0.here hx rfl (hb hby d14_105) rfl kt) ?_
  show Onw p e below _ (T0.setTop (mkF m 107 #[.val (.long xx), .second, .val (.int p1), .val (.ref r2), y4, y5, y6, .val (.int (Int32.ofNat pos)), .val (.int (0 : Int32)), .val (.int (i2 / (100 : Int32))), .val (.int i2)] [(.int i2), (.int ((i2 / (100 : Int32)) * (100 : Int32)))]))
  refine Onw.go (fun _ kt => XS.isub X0.here hx rfl (hb hby d14_107) rfl kt) ?_
  show Onw p e below _ (T0.setTop (mkF m 108 #[.val (.long xx), .second, .val (.int p1), .val (.ref r2), y4, y5, y6, .val (.int (Int32.ofNat pos)), .val (.int (0 : Int32)), .val (.int (i2 / (100 : Int32))), .val (.int i2)] [(.int (((i2 / (100 : Int32)) * (100 : Int32)) - i2))]))
  rw [(q2 : (((i2 / (100 : Int32)) * (100 : Int32)) - i2) = (Int32.ofNat (w % 100)))]
  show Onw p e below _ (T0.setTop (mkF m 108 #[.val (.long xx), .second, .val (.int p1), .val (.ref r2), y4, y5, y6, .val (.int (Int32.ofNat pos)), .val (.int (0 : Int32)), .val (.int (i2 / (100 : Int32))), .val (.int i2)] [(.int (Int32.ofNat (w % 100)))]))
  refine Onw.go (fun _ kt => XS.istore X0.here hx rfl (hb hby d14_108) rfl (l' := #[.val (.long xx), .second, .val (.int p1), .val (.ref r2), y4, y5, .val (.int (Int32.ofNat (w % 100))), .val (.int (Int32.ofNat pos)), .val (.int (0 : Int32)), .val (.int (i2 / (100 : Int32))), .val (.int i2)]) (by rcases h6 with rfl | ⟨_, rfl⟩ <;> rfl) kt) ?_
  show Onw p e below _ (T0.setTop (mkF m 110 #[.val (.long xx), .second, .val (.int p1), .val (.ref r2), y4, y5, .val (.int (Int32.ofNat (w % 100))), .val (.int (Int32.ofNat pos)), .val (.int (0 : Int32)), .val (.int (i2 / (100 : Int32))), .val (.int i2)] []))
  refine Onw.go (fun _ kt => XS.iload X0.here hx rfl (hb hby d14_110) rfl kt) ?_
  show Onw p e below _ (T0.setTop (mkF m 112 #[.val (.long xx), .second, .val (.int p1), .val (.ref r2), y4, y5, .val (.int (Int32.ofNat (w % 100))), .val (.int (Int32.ofNat pos)), .val (.int (0 : Int32)), .val (.int (i2 / (100 : Int32))), .val (.int i2)] [(.int (i2 / (100 : Int32)))]))
  refine Onw.go (fun _ kt => XS.istore X0.here hx rfl (hb hby d14_112) rfl (l' := #[.val (.long xx), .second, .val (.int p1), .val (.ref r2), y4, y5, .val (.int (Int32.ofNat (w % 100))), .val (.int (Int32.ofNat pos)), .val (.int (0 : Int32)), .val (.int (i2 / (100 : Int32))), .val (.int (i2 / (100 : Int32)))]) rfl kt) ?_
  show Onw p e below _ (T0.setTop (mkF m 114 #[.val (.long xx), .second, .val (.int p1), .val (.ref r2), y4, y5, .val (.int (Int32.ofNat (w % 100))), .val (.int (Int32.ofNat pos)), .val (.int (0 : Int32)), .val (.int (i2 / (100 : Int32))), .val (.int (i2 / (100 : Int32)))] []))
  refine Onw.go (fun _ kt => XS.aloadN X0.here hx rfl (hb hby d14_114) rfl rfl kt) ?_
  show Onw p e below _ (T0.setTop (mkF m 115 #[.val (.long xx), .second, .val (.int p1), .val (.ref r2), y4, y5, .val (.int (Int32.ofNat (w % 100))), .val (.int (Int32.ofNat pos)), .val (.int (0 : Int32)), .val (.int (i2 / (100 : Int32))), .val (.int (i2 / (100 : Int32)))] [(.ref r2)]))
  refine Onw.go (fun _ kt => XS.iinc X0.here hx rfl (hb hby d14_115) rfl (l' := #[.val (.long xx), .second, .val (.int p1), .val (.ref r2), y4, y5, .val (.int (Int32.ofNat (w % 100))), .val (.int ((Int32.ofNat pos) + (-1 : Int32))), .val (.int (0 : Int32)), .val (.int (i2 / (100 : Int32))), .val (.int (i2 / (100 : Int32)))]) rfl kt) ?_
  show Onw p e below _ (T0.setTop (mkF m 118 #[.val (.long xx), .second, .val (.int p1), .val (.ref r2), y4, y5, .val (.int (Int32.ofNat (w % 100))), .val (.int ((Int32.ofNat pos) + (-1 : Int32))), .val (.int (0 : Int32)), .val (.int (i2 / (100 : Int32))), .val (.int (i2 / (100 : Int32)))] [(.ref r2)]))
  refine Onw.go (fun _ kt => XS.iload X0.here hx rfl (hb hby d14_118) rfl kt) ?_
  show Onw p e below _ (T0.setTop (mkF m 120 #[.val (.long xx), .second, .val (.int p1), .val (.ref r2), y4, y5, .val (.int (Int32.ofNat (w % 100))), .val (.int ((Int32.ofNat pos) + (-1 : Int32))), .val (.int (0 : Int32)), .val (.int (i2 / (100 : Int32))), .val (.int (i2 / (100 : Int32)))] [(.int ((Int32.ofNat pos) + (-1 : Int32))), (.ref r2)]))
  rw [(own_pred (by omega) (by omega) : ((Int32.ofNat pos) + (-1 : Int32)) = (Int32.ofNat (pos - 1)))]
  show Onw p e below _ (T0.setTop (mkF m 120 #[.val (.long xx), .second, .val (.int p1), .val (.ref r2), y4, y5, .val (.int (Int32.ofNat (w % 100))), .val (.int (Int32.ofNat (pos - 1))), .val (.int (0 : Int32)), .val (.int (i2 / (100 : Int32))), .val (.int (i2 / (100 : Int32)))] [(.int (Int32.ofNat (pos - 1))), (.ref r2)]))
  obtain ⟨T1, X1, e1, st1⟩ := getS2 X0 hx hZ hown (host := "") (Or.inl (hw _ (own_mg (i := 117) rfl))) Via.refl e0 S_1 (g := (mkF m 120 #[.val (.long xx), .second, .val (.int p1), .val (.ref r2), y4, y5, .val (.int (Int32.ofNat (w % 100))), .val (.int (Int32.ofNat (pos - 1))), .val (.int (0 : Int32)), .val (.int (i2 / (100 : Int32))), .val (.int (i2 / (100 : Int32)))] [(.int (Int32.ofNat (pos - 1))), (.ref r2)])) rfl (hb hby d14_120)
  refine Onw.go st1 ?_
  show Onw p e below _ (T1.setTop (mkF m 123 #[.val (.long xx), .second, .val (.int p1), .val (.ref r2), y4, y5, .val (.int (Int32.ofNat (w % 100))), .val (.int (Int32.ofNat (pos - 1))), .val (.int (0 : Int32)), .val (.int (i2 / (100 : Int32))), .val (.int (i2 / (100 : Int32)))] [(.ref o1), (.int (Int32.ofNat (pos - 1))), (.ref r2)]))
  refine Onw.go (fun _ kt => XS.iload X1.here hx rfl (hb hby d14_123) rfl kt) ?_
  show Onw p e below _ (T1.setTop (mkF m 125 #[.val (.long xx), .second, .val (.int p1), .val (.ref r2), y4, y5, .val (.int (Int32.ofNat (w % 100))), .val (.int (Int32.ofNat (pos - 1))), .val (.int (0 : Int32)), .val (.int (i2 / (100 : Int32))), .val (.int (i2 / (100 : Int32)))] [(.int (Int32.ofNat (w % 100))), (.ref o1), (.int (Int32.ofNat (pos - 1))), (.ref r2)]))
  obtain ⟨cc2, cA2, ci2, cv2⟩ := own_DG.at D_1 (r := w % 100) (by omega)
  refine Onw.go (X1.baloadBytes hx (j := (Int32.ofNat (w % 100))) (v := (.int (Int32.ofNat (48 + w % 100 % 10)))) (by rw [e1]; exact cA2.1) (State.isArrayOf_alike hZ.alike cA2.2.1) cA2.2.2 ci2 cv2 (g := (mkF m 125 #[.val (.long xx), .second, .val (.int p1), .val (.ref r2), y4, y5, .val (.int (Int32.ofNat (w % 100))), .val (.int (Int32.ofNat (pos - 1))), .val (.int (0 : Int32)), .val (.int (i2 / (100 : Int32))), .val (.int (i2 / (100 : Int32)))] [(.int (Int32.ofNat (w % 100))), (.ref o1), (.int (Int32.ofNat (pos - 1))), (.ref r2)])) rfl rfl (hb hby d14_125)) ?_
  show Onw p e below _ (T1.setTop (mkF m 126 #[.val (.long xx), .second, .val (.int p1), .val (.ref r2), y4, y5, .val (.int (Int32.ofNat (w % 100))), .val (.int (Int32.ofNat (pos - 1))), .val (.int (0 : Int32)), .val (.int (i2 / (100 : Int32))), .val (.int (i2 / (100 : Int32)))] [(.int (Int32.ofNat (48 + w % 100 % 10))), (.int (Int32.ofNat (pos - 1))), (.ref r2)]))
  obtain ⟨T3, h3, L3, X3, e3, N3, K3, V3, st3⟩ := own_stBv (i := (pos - 1)) (y := (Int32.ofNat (48 + w % 100 % 10))) X1 hx hZ e1 V0 rfl (by omega) lx (own_nb (by omega)) N0 g_b (g := (mkF m 126 #[.val (.long xx), .second, .val (.int p1), .val (.ref r2), y4, y5, .val (.int (Int32.ofNat (w % 100))), .val (.int (Int32.ofNat (pos - 1))), .val (.int (0 : Int32)), .val (.int (i2 / (100 : Int32))), .val (.int (i2 / (100 : Int32)))] [(.int (Int32.ofNat (48 + w % 100 % 10))), (.int (Int32.ofNat (pos - 1))), (.ref r2)])) rfl rfl (hb hby d14_126)
  refine Onw.go st3 ?_
  show Onw p e below _ (T3.setTop (mkF m 127 #[.val (.long xx), .second, .val (.int p1), .val (.ref r2), y4, y5, .val (.int (Int32.ofNat (w % 100))), .val (.int (Int32.ofNat (pos - 1))), .val (.int (0 : Int32)), .val (.int (i2 / (100 : Int32))), .val (.int (i2 / (100 : Int32)))] []))
  have lx1 : (xs.set (pos - 1) (Int32.ofNat (48 + w % 100 % 10))).length ≤ 1000 := by simp; exact lx
  have lq1 : (xs.set (pos - 1) (Int32.ofNat (48 + w % 100 % 10))).length = xs.length := by simp
  have lx0 := lx
  clear lx
  have lx := lx1
  refine Onw.go (fun _ kt => XS.aloadN X3.here hx rfl (hb hby d14_127) rfl rfl kt) ?_
  show Onw p e below _ (T3.setTop (mkF m 128 #[.val (.long xx), .second, .val (.int p1), .val (.ref r2), y4, y5, .val (.int (Int32.ofNat (w % 100))), .val (.int (Int32.ofNat (pos - 1))), .val (.int (0 : Int32)), .val (.int (i2 / (100 : Int32))), .val (.int (i2 / (100 : Int32)))] [(.ref r2)]))
  refine Onw.go (fun _ kt => XS.iinc X3.here hx rfl (hb hby d14_128) rfl (l' := #[.val (.long xx), .second, .val (.int p1), .val (.ref r2), y4, y5, .val (.int (Int32.ofNat (w % 100))), .val (.int ((Int32.ofNat (pos - 1)) + (-1 : Int32))), .val (.int (0 : Int32)), .val (.int (i2 / (100 : Int32))), .val (.int (i2 / (100 : Int32)))]) rfl kt) ?_
  show Onw p e below _ (T3.setTop (mkF m 131 #[.val (.long xx), .second, .val (.int p1), .val (.ref r2), y4, y5, .val (.int (Int32.ofNat (w % 100))), .val (.int ((Int32.ofNat (pos - 1)) + (-1 : Int32))), .val (.int (0 : Int32)), .val (.int (i2 / (100 : Int32))), .val (.int (i2 / (100 : Int32)))] [(.ref r2)]))
  refine Onw.go (fun _ kt => XS.iload X3.here hx rfl (hb hby d14_131) rfl kt) ?_
  show Onw p e below _ (T3.setTop (mkF m 133 #[.val (.long xx), .second, .val (.int p1), .val (.ref r2), y4, y5, .val (.int (Int32.ofNat (w % 100))), .val (.int ((Int32.ofNat (pos - 1)) + (-1 : Int32))), .val (.int (0 : Int32)), .val (.int (i2 / (100 : Int32))), .val (.int (i2 / (100 : Int32)))] [(.int ((Int32.ofNat (pos - 1)) + (-1 : Int32))), (.ref r2)]))
  rw [(own_pred (by omega) (by omega) : ((Int32.ofNat (pos - 1)) + (-1 : Int32)) = (Int32.ofNat (pos - 2)))]
  show Onw p e below _ (T3.setTop (mkF m 133 #[.val (.long xx), .second, .val (.int p1), .val (.ref r2), y4, y5, .val (.int (Int32.ofNat (w % 100))), .val (.int (Int32.ofNat (pos - 2))), .val (.int (0 : Int32)), .val (.int (i2 / (100 : Int32))), .val (.int (i2 / (100 : Int32)))] [(.int (Int32.ofNat (pos - 2))), (.ref r2)]))
  obtain ⟨T4, X4, e4, st4⟩ := getS2 X3 hx hZ hown (host := "") (Or.inl (hw _ (own_mg (i := 239) rfl))) Via.refl e3 (own_stak S_2 K3 (fun own_b own_hb => by rw [List.mem_singleton.mp own_hb]; exact V0.nostat)) (g := (mkF m 133 #[.val (.long xx), .second, .val (.int p1), .val (.ref r2), y4, y5, .val (.int (Int32.ofNat (w % 100))), .val (.int (Int32.ofNat (pos - 2))), .val (.int (0 : Int32)), .val (.int (i2 / (100 : Int32))), .val (.int (i2 / (100 : Int32)))] [(.int (Int32.ofNat (pos - 2))), (.ref r2)])) rfl (hb hby d14_133)
  refine Onw.go st4 ?_
  show Onw p e below _ (T4.setTop (mkF m 136 #[.val (.long xx), .second, .val (.int p1), .val (.ref r2), y4, y5, .val (.int (Int32.ofNat (w % 100))), .val (.int (Int32.ofNat (pos - 2))), .val (.int (0 : Int32)), .val (.int (i2 / (100 : Int32))), .val (.int (i2 / (100 : Int32)))] [(.ref o2), (.int (Int32.ofNat (pos - 2))), (.ref r2)]))
  refine Onw.go (fun _ kt => XS.iload X4.here hx rfl (hb hby d14_136) rfl kt) ?_
  show Onw p e below _ (T4.setTop (mkF m 138 #[.val (.long xx), .second, .val (.int p1), .val (.ref r2), y4, y5, .val (.int (Int32.ofNat (w % 100))), .val (.int (Int32.ofNat (pos - 2))), .val (.int (0 : Int32)), .val (.int (i2 / (100 : Int32))), .val (.int (i2 / (100 : Int32)))] [(.int (Int32.ofNat (w % 100))), (.ref o2), (.int (Int32.ofNat (pos - 2))), (.ref r2)]))
  obtain ⟨cc5, cA5, ci5, cv5⟩ := own_DG.at (D_2.keep K3 (fun own_z => ne2 (List.mem_singleton.mp own_z))) (r := w % 100) (by omega)
  refine Onw.go (X4.baloadBytes hx (j := (Int32.ofNat (w % 100))) (v := (.int (Int32.ofNat (48 + w % 100 / 10)))) (by rw [e4]; exact cA5.1) (State.isArrayOf_alike hZ.alike cA5.2.1) cA5.2.2 ci5 cv5 (g := (mkF m 138 #[.val (.long xx), .second, .val (.int p1), .val (.ref r2), y4, y5, .val (.int (Int32.ofNat (w % 100))), .val (.int (Int32.ofNat (pos - 2))), .val (.int (0 : Int32)), .val (.int (i2 / (100 : Int32))), .val (.int (i2 / (100 : Int32)))] [(.int (Int32.ofNat (w % 100))), (.ref o2), (.int (Int32.ofNat (pos - 2))), (.ref r2)])) rfl rfl (hb hby d14_138)) ?_
  show Onw p e below _ (T4.setTop (mkF m 139 #[.val (.long xx), .second, .val (.int p1), .val (.ref r2), y4, y5, .val (.int (Int32.ofNat (w % 100))), .val (.int (Int32.ofNat (pos - 2))), .val (.int (0 : Int32)), .val (.int (i2 / (100 : Int32))), .val (.int (i2 / (100 : Int32)))] [(.int (Int32.ofNat (48 + w % 100 / 10))), (.int (Int32.ofNat (pos - 2))), (.ref r2)]))
  obtain ⟨T6, h6, L6, X6, e6, N6, K6, V6, st6⟩ := own_stBv (i := (pos - 2)) (y := (Int32.ofNat (48 + w % 100 / 10))) X4 hx hZ e4 V3 rfl (by omega) lx (own_nb (by omega)) N3 g_b (g := (mkF m 139 #[.val (.long xx), .second, .val (.int p1), .val (.ref r2), y4, y5, .val (.int (Int32.ofNat (w % 100))), .val (.int (Int32.ofNat (pos - 2))), .val (.int (0 : Int32)), .val (.int (i2 / (100 : Int32))), .val (.int (i2 / (100 : Int32)))] [(.int (Int32.ofNat (48 + w % 100 / 10))), (.int (Int32.ofNat (pos - 2))), (.ref r2)])) rfl rfl (hb hby d14_139)
  refine Onw.go st6 ?_
  show Onw p e below _ (T6.setTop (mkF m 140 #[.val (.long xx), .second, .val (.int p1), .val (.ref r2), y4, y5, .val (.int (Int32.ofNat (w % 100))), .val (.int (Int32.ofNat (pos - 2))), .val (.int (0 : Int32)), .val (.int (i2 / (100 : Int32))), .val (.int (i2 / (100 : Int32)))] []))
  refine Onw.go (fun _ kt => XS.goto X6.here hx rfl (pc0 := 140) (pc' := 86) rfl (hb hby d14_140) (by decide) (by decide) kt) ?_
  show Onw p e below _ (T6.setTop (mkF m 86 #[.val (.long xx), .second, .val (.int p1), .val (.ref r2), y4, y5, .val (.int (Int32.ofNat (w % 100))), .val (.int (Int32.ofNat (pos - 2))), .val (.int (0 : Int32)), .val (.int (i2 / (100 : Int32))), .val (.int (i2 / (100 : Int32)))] []))
  exact hK _ _ _ _ _ X6 e6 N6 (K3.trans K6 (fun own_x own_h => Or.inl own_h)) V6 q1
theorem d14_143 : decode jdk_35_method_14_code 143 = .ok (.aload_n 3, 1) := by decide +kernel
theorem d14_144 : decode jdk_35_method_14_code 144 = .ok (.iinc 7 (-1), 3) := by decide +kernel
theorem d14_147 : decode jdk_35_method_14_code 147 = .ok (.iload 7, 2) := by decide +kernel
theorem d14_149 : decode jdk_35_method_14_code 149 = .ok (.getstatic 133, 3) := by decide +kernel
theorem d14_152 : decode jdk_35_method_14_code 152 = .ok (.iload 10, 2) := by decide +kernel
theorem d14_154 : decode jdk_35_method_14_code 154 = .ok (.ineg, 1) := by decide +kernel
theorem d14_155 : decode jdk_35_method_14_code 155 = .ok (.baload, 1) := by decide +kernel
theorem d14_156 : decode jdk_35_method_14_code 156 = .ok (.bastore, 1) := by decide +kernel
theorem d14_157 : decode jdk_35_method_14_code 157 = .ok (.iload 10, 2) := by decide +kernel
theorem d14_159 : decode jdk_35_method_14_code 159 = .ok (.bipush (-9), 2) := by decide +kernel
theorem d14_161 : decode jdk_35_method_14_code 161 = .ok (.if_icmp .ge 17, 3) := by decide +kernel
theorem d14_164 : decode jdk_35_method_14_code 164 = .ok (.aload_n 3, 1) := by decide +kernel
theorem d14_165 : decode jdk_35_method_14_code 165 = .ok (.iinc 7 (-1), 3) := by decide +kernel
theorem d14_168 : decode jdk_35_method_14_code 168 = .ok (.iload 7, 2) := by decide +kernel
theorem d14_170 : decode jdk_35_method_14_code 170 = .ok (.getstatic 137, 3) := by decide +kernel
theorem d14_173 : decode jdk_35_method_14_code 173 = .ok (.iload 10, 2) := by decide +kernel
theorem d14_175 : decode jdk_35_method_14_code 175 = .ok (.ineg, 1) := by decide +kernel
theorem d14_176 : decode jdk_35_method_14_code 176 = .ok (.baload, 1) := by decide +kernel
theorem d14_177 : decode jdk_35_method_14_code 177 = .ok (.bastore, 1) := by decide +kernel
theorem d14_178 : decode jdk_35_method_14_code 178 = .ok (.iload 8, 2) := by decide +kernel
theorem d14_180 : decode jdk_35_method_14_code 180 = .ok (.ifCond .eq 12, 3) := by decide +kernel
theorem d14_192 : decode jdk_35_method_14_code 192 = .ok (.iload 7, 2) := by decide +kernel
set_option maxRecDepth 65536 in
set_option maxHeartbeats 40000000 in
theorem gc_end {p : Program} {l : Launch} {e : Env} {R : Room} {s : State} {m : MethodId} {args : Array Value} {below : List Frame} {meth : Method} {c : Code} {Z : State} {a0 : Array Value} {W : Outcome → State → Prop} (hx : p.tables.exec = Jvm.exec) (hZ : Z.Warmed39 s.vm) (hw : ∀ d ∈ tables_1, d.before a0 Z = true) (hby : c.code = jdk_35_method_14_code) (hml : c.maxLocals = 11) (hown : s.vm.findClass "java/lang/Long" = some m.cls) {h0 : Heap} {n0 : Nat}  (xx : Int64) (p1 i2 : Int32) (r2 o1 o2 : Addr) (y4 y5 y6 y9 : Slot) (k1 : ClassId) (xs : List Int32) (pos w : Nat)
    {T0 : State} {locs0 : List Loc} {cells slots : Nat} (X0 : Stand p l e R s m args below meth c T0 locs0 cells slots) (e0 : T0.heap = h0) (N0 : Fr n0 locs0) (V0 : Arv Z h0 r2 k1 .byte (Int32.ofNat (xs).length) ((xs).map Value.int) (.int (0 : Int32))) (lx : xs.length ≤ 1000) (hp : 1 ≤ pos ∧ pos ≤ xs.length) (g_b : n0 ≤ r2) (S_1 : Sta Z h0 "java/lang/Integer" "DigitOnes" "[B" (.ref o1)) (S_2 : Sta Z h0 "java/lang/Integer" "DigitTens" "[B" (.ref o2)) (D_1 : own_DG Z h0 o1 (fun i => i % 10)) (D_2 : own_DG Z h0 o2 (fun i => i / 10)) (ne1 : o1 ≠ r2) (ne2 : o2 ≠ r2) (Dw : own_D w pos) (hxx : i2.toInt = -(w : Int)) (hw1 : w < 100) (hK : ∀ (T' : State) (h' : Heap) (locs' : List Loc) (po : Int32), Stand p l e R s m args below meth c T' locs' cells slots → T'.heap = h' → Fr n0 locs' → Keep h0 h' [r2] → Arv Z h' r2 k1 .byte (Int32.ofNat ((own_put pos xs w)).length) (((own_put pos xs w)).map Value.int) (.int (0 : Int32)) → Onw p e below W (T'.setTop (mkF m 194 #[.val (.long xx), .second, .val (.int p1), .val (.ref r2), y4, y5, y6, .val (.int po), .val (.int (0 : Int32)), y9, .val (.int i2)] [(.int po)]))) :
    Onw p e below W (T0.setTop (mkF m 86 #[.val (.long xx), .second, .val (.int p1), .val (.ref r2), y4, y5, y6, .val (.int (Int32.ofNat pos)), .val (.int (0 : Int32)), y9, .val (.int i2)] [])) := by
  refine Onw.go (fun _ kt => XS.iload X0.here hx rfl (hb hby d14_86) rfl kt) ?_
  show Onw p e below _ (T0.setTop (mkF m 88 #[.val (.long xx), .second, .val (.int p1), .val (.ref r2), y4, y5, y6, .val (.int (Int32.ofNat pos)), .val (.int (0 : Int32)), y9, .val (.int i2)] [(.int i2)]))
  refine Onw.go (fun _ kt => XS.bipush X0.here hx rfl (hb hby d14_88) kt) ?_
  show Onw p e below _ (T0.setTop (mkF m 90 #[.val (.long xx), .second, .val (.int p1), .val (.ref r2), y4, y5, y6, .val (.int (Int32.ofNat pos)), .val (.int (0 : Int32)), y9, .val (.int i2)] [(.int (-100 : Int32)), (.int i2)]))
  have hn0 : (-100 : Int32) < i2 := by
    rw [Int32.lt_iff_toInt_lt, hxx]
    have own_e : (-100 : Int32).toInt = -100 := rfl
    omega
  refine Onw.go (fun _ kt => XS.icmpYes X0.here hx rfl (pc0 := 90) (pc' := 143) rfl (hb hby d14_90) rfl (tlt (hn0 : (-100 : Int32) < i2)).2.2.1 (by decide) (by decide) kt) ?_
  show Onw p e below _ (T0.setTop (mkF m 143 #[.val (.long xx), .second, .val (.int p1), .val (.ref r2), y4, y5, y6, .val (.int (Int32.ofNat pos)), .val (.int (0 : Int32)), y9, .val (.int i2)] []))
  refine Onw.go (fun _ kt => XS.aloadN X0.here hx rfl (hb hby d14_143) rfl rfl kt) ?_
  show Onw p e below _ (T0.setTop (mkF m 144 #[.val (.long xx), .second, .val (.int p1), .val (.ref r2), y4, y5, y6, .val (.int (Int32.ofNat pos)), .val (.int (0 : Int32)), y9, .val (.int i2)] [(.ref r2)]))
  refine Onw.go (fun _ kt => XS.iinc X0.here hx rfl (hb hby d14_144) rfl (l' := #[.val (.long xx), .second, .val (.int p1), .val (.ref r2), y4, y5, y6, .val (.int ((Int32.ofNat pos) + (-1 : Int32))), .val (.int (0 : Int32)), y9, .val (.int i2)]) rfl kt) ?_
  show Onw p e below _ (T0.setTop (mkF m 147 #[.val (.long xx), .second, .val (.int p1), .val (.ref r2), y4, y5, y6, .val (.int ((Int32.ofNat pos) + (-1 : Int32))), .val (.int (0 : Int32)), y9, .val (.int i2)] [(.ref r2)]))
  refine Onw.go (fun _ kt => XS.iload X0.here hx rfl (hb hby d14_147) rfl kt) ?_
  show Onw p e below _ (T0.setTop (mkF m 149 #[.val (.long xx), .second, .val (.int p1), .val (.ref r2), y4, y5, y6, .val (.int ((Int32.ofNat pos) + (-1 : Int32))), .val (.int (0 : Int32)), y9, .val (.int i2)] [(.int ((Int32.ofNat pos) + (-1 : Int32))), (.ref r2)]))
  rw [(own_pred (by omega) (by omega) : ((Int32.ofNat pos) + (-1 : Int32)) = (Int32.ofNat (pos - 1)))]
  show Onw p e below _ (T0.setTop (mkF m 149 #[.val (.long xx), .second, .val (.int p1), .val (.ref r2), y4, y5, y6, .val (.int (Int32.ofNat (pos - 1))), .val (.int (0 : Int32)), y9, .val (.int i2)] [(.int (Int32.ofNat (pos - 1))), (.ref r2)]))
  obtain ⟨T1, X1, e1, st1⟩ := getS2 X0 hx hZ hown (host := "") (Or.inl (hw _ (own_mg (i := 117) rfl))) Via.refl e0 S_1 (g := (mkF m 149 #[.val (.long xx), .second, .val (.int p1), .val (.ref r2), y4, y5, y6, .val (.int (Int32.ofNat (pos - 1))), .val (.int (0 : Int32)), y9, .val (.int i2)] [(.int (Int32.ofNat (pos - 1))), (.ref r2)])) rfl (hb hby d14_149)
  refine Onw.go st1 ?_
  show Onw p e below _ (T1.setTop (mkF m 152 #[.val (.long xx), .second, .val (.int p1), .val (.ref r2), y4, y5, y6, .val (.int (Int32.ofNat (pos - 1))), .val (.int (0 : Int32)), y9, .val (.int i2)] [(.ref o1), (.int (Int32.ofNat (pos - 1))), (.ref r2)]))
  refine Onw.go (fun _ kt => XS.iload X1.here hx rfl (hb hby d14_152) rfl kt) ?_
  show Onw p e below _ (T1.setTop (mkF m 154 #[.val (.long xx), .second, .val (.int p1), .val (.ref r2), y4, y5, y6, .val (.int (Int32.ofNat (pos - 1))), .val (.int (0 : Int32)), y9, .val (.int i2)] [(.int i2), (.ref o1), (.int (Int32.ofNat (pos - 1))), (.ref r2)]))
  refine Onw.go (fun _ kt => XS.ineg X1.here hx rfl (hb hby d14_154) rfl kt) ?_
  show Onw p e below _ (T1.setTop (mkF m 155 #[.val (.long xx), .second, .val (.int p1), .val (.ref r2), y4, y5, y6, .val (.int (Int32.ofNat (pos - 1))), .val (.int (0 : Int32)), y9, .val (.int i2)] [(.int (-i2)), (.ref o1), (.int (Int32.ofNat (pos - 1))), (.ref r2)]))
  rw [(own_ineg hxx (by omega) : (-i2) = (Int32.ofNat w))]
  show Onw p e below _ (T1.setTop (mkF m 155 #[.val (.long xx), .second, .val (.int p1), .val (.ref r2), y4, y5, y6, .val (.int (Int32.ofNat (pos - 1))), .val (.int (0 : Int32)), y9, .val (.int i2)] [(.int (Int32.ofNat w)), (.ref o1), (.int (Int32.ofNat (pos - 1))), (.ref r2)]))
  obtain ⟨cc2, cA2, ci2, cv2⟩ := own_DG.at D_1 (r := w) (by omega)
  refine Onw.go (X1.baloadBytes hx (j := (Int32.ofNat w)) (v := (.int (Int32.ofNat (48 + w % 10)))) (by rw [e1]; exact cA2.1) (State.isArrayOf_alike hZ.alike cA2.2.1) cA2.2.2 ci2 cv2 (g := (mkF m 155 #[.val (.long xx), .second, .val (.int p1), .val (.ref r2), y4, y5, y6, .val (.int (Int32.ofNat (pos - 1))), .val (.int (0 : Int32)), y9, .val (.int i2)] [(.int (Int32.ofNat w)), (.ref o1), (.int (Int32.ofNat (pos - 1))), (.ref r2)])) rfl rfl (hb hby d14_155)) ?_
  show Onw p e below _ (T1.setTop (mkF m 156 #[.val (.long xx), .second, .val (.int p1), .val (.ref r2), y4, y5, y6, .val (.int (Int32.ofNat (pos - 1))), .val (.int (0 : Int32)), y9, .val (.int i2)] [(.int (Int32.ofNat (48 + w % 10))), (.int (Int32.ofNat (pos - 1))), (.ref r2)]))
  obtain ⟨T3, h3, L3, X3, e3, N3, K3, V3, st3⟩ := own_stBv (i := (pos - 1)) (y := (Int32.ofNat (48 + w % 10))) X1 hx hZ e1 V0 rfl (by omega) lx (own_nb (by omega)) N0 g_b (g := (mkF m 156 #[.val (.long xx), .second, .val (.int p1), .val (.ref r2), y4, y5, y6, .val (.int (Int32.ofNat (pos - 1))), .val (.int (0 : Int32)), y9, .val (.int i2)] [(.int (Int32.ofNat (48 + w % 10))), (.int (Int32.ofNat (pos - 1))), (.ref r2)])) rfl rfl (hb hby d14_156)
  refine Onw.go st3 ?_
  show Onw p e below _ (T3.setTop (mkF m 157 #[.val (.long xx), .second, .val (.int p1), .val (.ref r2), y4, y5, y6, .val (.int (Int32.ofNat (pos - 1))), .val (.int (0 : Int32)), y9, .val (.int i2)] []))
  refine Onw.go (fun _ kt => XS.iload X3.here hx rfl (hb hby d14_157) rfl kt) ?_
  show Onw p e below _ (T3.setTop (mkF m 159 #[.val (.long xx), .second, .val (.int p1), .val (.ref r2), y4, y5, y6, .val (.int (Int32.ofNat (pos - 1))), .val (.int (0 : Int32)), y9, .val (.int i2)] [(.int i2)]))
  refine Onw.go (fun _ kt => XS.bipush X3.here hx rfl (hb hby d14_159) kt) ?_
  show Onw p e below _ (T3.setTop (mkF m 161 #[.val (.long xx), .second, .val (.int p1), .val (.ref r2), y4, y5, y6, .val (.int (Int32.ofNat (pos - 1))), .val (.int (0 : Int32)), y9, .val (.int i2)] [(.int (-9 : Int32)), (.int i2)]))
  by_cases h1 : i2 < (-9 : Int32)
  · refine Onw.go (fun _ kt => XS.icmpNo X3.here hx rfl (hb hby d14_161) rfl (tlt (h1 : i2 < (-9 : Int32))).2.1 kt) ?_
    show Onw p e below _ (T3.setTop (mkF m 164 #[.val (.long xx), .second, .val (.int p1), .val (.ref r2), y4, y5, y6, .val (.int (Int32.ofNat (pos - 1))), .val (.int (0 : Int32)), y9, .val (.int i2)] []))
    rw [Int32.lt_iff_toInt_lt, hxx] at h1
    have own_e : (-9 : Int32).toInt = -9 := rfl
    have hp2 : pos = 2 := by
      have z1 := own_Dge Dw (i := 1) (by omega)
      have z2 := own_Dlt Dw (i := 2) (by omega)
      omega
    have lx1 : (xs.set (pos - 1) (Int32.ofNat (48 + w % 10))).length ≤ 1000 := by simp; exact lx
    have lq1 : (xs.set (pos - 1) (Int32.ofNat (48 + w % 10))).length = xs.length := by simp
    have lx0 := lx
    clear lx
    have lx := lx1
    refine Onw.go (fun _ kt => XS.aloadN X3.here hx rfl (hb hby d14_164) rfl rfl kt) ?_
    show Onw p e below _ (T3.setTop (mkF m 165 #[.val (.long xx), .second, .val (.int p1), .val (.ref r2), y4, y5, y6, .val (.int (Int32.ofNat (pos - 1))), .val (.int (0 : Int32)), y9, .val (.int i2)] [(.ref r2)]))
    refine Onw.go (fun _ kt => XS.iinc X3.here hx rfl (hb hby d14_165) rfl (l' := #[.val (.long xx), .second, .val (.int p1), .val (.ref r2), y4, y5, y6, .val (.int ((Int32.ofNat (pos - 1)) + (-1 : Int32))), .val (.int (0 : Int32)), y9, .val (.int i2)]) rfl kt) ?_
    show Onw p e below _ (T3.setTop (mkF m 168 #[.val (.long xx), .second, .val (.int p1), .val (.ref r2), y4, y5, y6, .val (.int ((Int32.ofNat (pos - 1)) + (-1 : Int32))), .val (.int (0 : Int32)), y9, .val (.int i2)] [(.ref r2)]))
    refine Onw.go (fun _ kt => XS.iload X3.here hx rfl (hb hby d14_168) rfl kt) ?_
    show Onw p e below _ (T3.setTop (mkF m 170 #[.val (.long xx), .second, .val (.int p1), .val (.ref r2), y4, y5, y6, .val (.int ((Int32.ofNat (pos - 1)) + (-1 : Int32))), .val (.int (0 : Int32)), y9, .val (.int i2)] [(.int ((Int32.ofNat (pos - 1)) + (-1 : Int32))), (.ref r2)]))
    rw [(own_pred (by omega) (by omega) : ((Int32.ofNat (pos - 1)) + (-1 : Int32)) = (Int32.ofNat (pos - 2)))]
    show Onw p e below _ (T3.setTop (mkF m 170 #[.val (.long xx), .second, .val (.int p1), .val (.ref r2), y4, y5, y6, .val (.int (Int32.ofNat (pos - 2))), .val (.int (0 : Int32)), y9, .val (.int i2)] [(.int (Int32.ofNat (pos - 2))), (.ref r2)]))
    obtain ⟨T4, X4, e4, st4⟩ := getS2 X3 hx hZ hown (host := "") (Or.inl (hw _ (own_mg (i := 239) rfl))) Via.refl e3 (own_stak S_2 K3 (fun own_b own_hb => by rw [List.mem_singleton.mp own_hb]; exact V0.nostat)) (g := (mkF m 170 #[.val (.long xx), .second, .val (.int p1), .val (.ref r2), y4, y5, y6, .val (.int (Int32.ofNat (pos - 2))), .val (.int (0 : Int32)), y9, .val (.int i2)] [(.int (Int32.ofNat (pos - 2))), (.ref r2)])) rfl (hb hby d14_170)
    refine Onw.go st4 ?_
    show Onw p e below _ (T4.setTop (mkF m 173 #[.val (.long xx), .second, .val (.int p1), .val (.ref r2), y4, y5, y6, .val (.int (Int32.ofNat (pos - 2))), .val (.int (0 : Int32)), y9, .val (.int i2)] [(.ref o2), (.int (Int32.ofNat (pos - 2))), (.ref r2)]))
    refine Onw.go (fun _ kt => XS.iload X4.here hx rfl (hb hby d14_173) rfl kt) ?_
    show Onw p e below _ (T4.setTop (mkF m 175 #[.val (.long xx), .second, .val (.int p1), .val (.ref r2), y4, y5, y6, .val (.int (Int32.ofNat (pos - 2))), .val (.int (0 : Int32)), y9, .val (.int i2)] [(.int i2), (.ref o2), (.int (Int32.ofNat (pos - 2))), (.ref r2)]))
    refine Onw.go (fun _ kt => XS.ineg X4.here hx rfl (hb hby d14_175) rfl kt) ?_
    show Onw p e below _ (T4.setTop (mkF m 176 #[.val (.long xx), .second, .val (.int p1), .val (.ref r2), y4, y5, y6, .val (.int (Int32.ofNat (pos - 2))), .val (.int (0 : Int32)), y9, .val (.int i2)] [(.int (-i2)), (.ref o2), (.int (Int32.ofNat (pos - 2))), (.ref r2)]))
    rw [(own_ineg hxx (by omega) : (-i2) = (Int32.ofNat w))]
    show Onw p e below _ (T4.setTop (mkF m 176 #[.val (.long xx), .second, .val (.int p1), .val (.ref r2), y4, y5, y6, .val (.int (Int32.ofNat (pos - 2))), .val (.int (0 : Int32)), y9, .val (.int i2)] [(.int (Int32.ofNat w)), (.ref o2), (.int (Int32.ofNat (pos - 2))), (.ref r2)]))
    obtain ⟨cc5, cA5, ci5, cv5⟩ := own_DG.at (D_2.keep K3 (fun own_z => ne2 (List.mem_singleton.mp own_z))) (r := w) (by omega)
    refine Onw.go (X4.baloadBytes hx (j := (Int32.ofNat w)) (v := (.int (Int32.ofNat (48 + w / 10)))) (by rw [e4]; exact cA5.1) (State.isArrayOf_alike hZ.alike cA5.2.1) cA5.2.2 ci5 cv5 (g := (mkF m 176 #[.val (.long xx), .second, .val (.int p1), .val (.ref r2), y4, y5, y6, .val (.int (Int32.ofNat (pos - 2))), .val (.int (0 : Int32)), y9, .val (.int i2)] [(.int (Int32.ofNat w)), (.ref o2), (.int (Int32.ofNat (pos - 2))), (.ref r2)])) rfl rfl (hb hby d14_176)) ?_
    show Onw p e below _ (T4.setTop (mkF m 177 #[.val (.long xx), .second, .val (.int p1), .val (.ref r2), y4, y5, y6, .val (.int (Int32.ofNat (pos - 2))), .val (.int (0 : Int32)), y9, .val (.int i2)] [(.int (Int32.ofNat (48 + w / 10))), (.int (Int32.ofNat (pos - 2))), (.ref r2)]))
    obtain ⟨T6, h6, L6, X6, e6, N6, K6, V6, st6⟩ := own_stBv (i := (pos - 2)) (y := (Int32.ofNat (48 + w / 10))) X4 hx hZ e4 V3 rfl (by omega) lx (own_nb (by omega)) N3 g_b (g := (mkF m 177 #[.val (.long xx), .second, .val (.int p1), .val (.ref r2), y4, y5, y6, .val (.int (Int32.ofNat (pos - 2))), .val (.int (0 : Int32)), y9, .val (.int i2)] [(.int (Int32.ofNat (48 + w / 10))), (.int (Int32.ofNat (pos - 2))), (.ref r2)])) rfl rfl (hb hby d14_177)
    refine Onw.go st6 ?_
    show Onw p e below _ (T6.setTop (mkF m 178 #[.val (.long xx), .second, .val (.int p1), .val (.ref r2), y4, y5, y6, .val (.int (Int32.ofNat (pos - 2))), .val (.int (0 : Int32)), y9, .val (.int i2)] []))
    refine Onw.go (fun _ kt => XS.iload X6.here hx rfl (hb hby d14_178) rfl kt) ?_
    show Onw p e below _ (T6.setTop (mkF m 180 #[.val (.long xx), .second, .val (.int p1), .val (.ref r2), y4, y5, y6, .val (.int (Int32.ofNat (pos - 2))), .val (.int (0 : Int32)), y9, .val (.int i2)] [(.int (0 : Int32))]))
    refine Onw.go (fun _ kt => XS.ifYes X6.here hx rfl (pc0 := 180) (pc' := 192) rfl (hb hby d14_180) rfl ((if0 _ _).trans (teq (rfl : (0 : Int32) = (0 : Int32))).1) (by decide) (by decide) kt) ?_
    show Onw p e below _ (T6.setTop (mkF m 192 #[.val (.long xx), .second, .val (.int p1), .val (.ref r2), y4, y5, y6, .val (.int (Int32.ofNat (pos - 2))), .val (.int (0 : Int32)), y9, .val (.int i2)] []))
    refine Onw.go (fun _ kt => XS.iload X6.here hx rfl (hb hby d14_192) rfl kt) ?_
    show Onw p e below _ (T6.setTop (mkF m 194 #[.val (.long xx), .second, .val (.int p1), .val (.ref r2), y4, y5, y6, .val (.int (Int32.ofNat (pos - 2))), .val (.int (0 : Int32)), y9, .val (.int i2)] [(.int (Int32.ofNat (pos - 2)))]))
    have e9 : own_put pos xs w = ((xs.set (pos - 1) (Int32.ofNat (48 + w % 10))).set (pos - 2) (Int32.ofNat (48 + w / 10))) := by
      subst hp2
      show (xs.set 1 _).set 0 (Int32.ofNat (48 + w / 10 % 10)) = _
      rw [show w / 10 % 10 = w / 10 by omega]
    exact hK _ _ _ _ X6 e6 N6 (K3.trans K6 (fun own_x own_h => Or.inl own_h)) (by rw [e9]; exact V6)
  · refine Onw.go (fun _ kt => XS.icmpYes X3.here hx rfl (pc0 := 161) (pc' := 178) rfl (hb hby d14_161) rfl (flt (h1 : ¬ (i2 < (-9 : Int32)))).2.1 (by decide) (by decide) kt) ?_
    show Onw p e below _ (T3.setTop (mkF m 178 #[.val (.long xx), .second, .val (.int p1), .val (.ref r2), y4, y5, y6, .val (.int (Int32.ofNat (pos - 1))), .val (.int (0 : Int32)), y9, .val (.int i2)] []))
    rw [Int32.lt_iff_toInt_lt, hxx] at h1
    have own_e : (-9 : Int32).toInt = -9 := rfl
    have hp2 : pos = 1 := by
      have z2 := own_Dlt Dw (i := 1) (by omega)
      omega
    refine Onw.go (fun _ kt => XS.iload X3.here hx rfl (hb hby d14_178) rfl kt) ?_
    show Onw p e below _ (T3.setTop (mkF m 180 #[.val (.long xx), .second, .val (.int p1), .val (.ref r2), y4, y5, y6, .val (.int (Int32.ofNat (pos - 1))), .val (.int (0 : Int32)), y9, .val (.int i2)] [(.int (0 : Int32))]))
    refine Onw.go (fun _ kt => XS.ifYes X3.here hx rfl (pc0 := 180) (pc' := 192) rfl (hb hby d14_180) rfl ((if0 _ _).trans (teq (rfl : (0 : Int32) = (0 : Int32))).1) (by decide) (by decide) kt) ?_
    show Onw p e below _ (T3.setTop (mkF m 192 #[.val (.long xx), .second, .val (.int p1), .val (.ref r2), y4, y5, y6, .val (.int (Int32.ofNat (pos - 1))), .val (.int (0 : Int32)), y9, .val (.int i2)] []))
    refine Onw.go (fun _ kt => XS.iload X3.here hx rfl (hb hby d14_192) rfl kt) ?_
    show Onw p e below _ (T3.setTop (mkF m 194 #[.val (.long xx), .second, .val (.int p1), .val (.ref r2), y4, y5, y6, .val (.int (Int32.ofNat (pos - 1))), .val (.int (0 : Int32)), y9, .val (.int i2)] [(.int (Int32.ofNat (pos - 1)))]))
    have e9 : own_put pos xs w = (xs.set (pos - 1) (Int32.ofNat (48 + w % 10))) := by
      subst hp2
      rfl
    exact hK _ _ _ _ X3 e3 N3 K3 (by rw [e9]; exact V3)
set_option maxRecDepth 65536 in
set_option maxHeartbeats 40000000 in
theorem gc_loop2 {p : Program} {l : Launch} {e : Env} {R : Room} {s : State} {m : MethodId} {args : Array Value} {below : List Frame} {meth : Method} {c : Code} {Z : State} {a0 : Array Value} {W : Outcome → State → Prop} (hx : p.tables.exec = Jvm.exec) (hZ : Z.Warmed39 s.vm) (hw : ∀ d ∈ tables_1, d.before a0 Z = true) (hby : c.code = jdk_35_method_14_code) (hml : c.maxLocals = 11) (hown : s.vm.findClass "java/lang/Long" = some m.cls) {h0 : Heap} {n0 : Nat} (p1 : Int32) (r2 o1 o2 : Addr) (k1 : ClassId) (xs0 zs : List Int32) {cells slots : Nat} (V0 : Arv Z h0 r2 k1 .byte (Int32.ofNat (xs0).length) ((xs0).map Value.int) (.int (0 : Int32))) (lx : xs0.length ≤ 1000) (g_b : n0 ≤ r2) (S_1 : Sta Z h0 "java/lang/Integer" "DigitOnes" "[B" (.ref o1)) (S_2 : Sta Z h0 "java/lang/Integer" "DigitTens" "[B" (.ref o2)) (D_1 : own_DG Z h0 o1 (fun i => i % 10)) (D_2 : own_DG Z h0 o2 (fun i => i / 10)) (ne1 : o1 ≠ r2) (ne2 : o2 ≠ r2)
    (hK : ∀ (T : State) (h : Heap) (locs : List Loc) (po i2 : Int32) (xx : Int64) (y4 y5 y6 y9 : Slot), Stand p l e R s m args below meth c T locs cells slots → T.heap = h → Fr n0 locs → Keep h0 h [r2] → Arv Z h r2 k1 .byte (Int32.ofNat (zs).length) ((zs).map Value.int) (.int (0 : Int32)) → Onw p e below W (T.setTop (mkF m 194 #[.val (.long xx), .second, .val (.int p1), .val (.ref r2), y4, y5, y6, .val (.int po), .val (.int (0 : Int32)), y9, .val (.int i2)] [(.int po)]))) :
    ∀ (k : Nat) (T : State) (h : Heap) (locs : List Loc) (xs : List Int32) (pos w : Nat) (xx : Int64) (i2 : Int32) (y4 y5 y6 y9 : Slot), w ≤ k → Stand p l e R s m args below meth c T locs cells slots → T.heap = h → Fr n0 locs → Keep h0 h [r2] → Arv Z h r2 k1 .byte (Int32.ofNat (xs).length) ((xs).map Value.int) (.int (0 : Int32)) → xs.length = xs0.length → own_D w pos → pos ≤ xs0.length → own_put pos xs w = zs → i2.toInt = -(w : Int) → (y6 = .unset ∨ ∃ z : Int32, y6 = .val (.int z)) → (y9 = .unset ∨ ∃ z : Int32, y9 = .val (.int z)) → Onw p e below W (T.setTop (mkF m 86 #[.val (.long xx), .second, .val (.int p1), .val (.ref r2), y4, y5, y6, .val (.int (Int32.ofNat pos)), .val (.int (0 : Int32)), y9, .val (.int i2)] [])) := by
  intro k
  induction k with
  | zero =>
    intro T h locs xs pos w xx i2 y4 y5 y6 y9 hk X e' N K V hl D hp hz hxx h6 h9
    have := D.2.1
    have : 1 ≤ 10 ^ (pos - 1) := Nat.one_le_pow _ _ (by decide)
    omega
  | succ k ih =>
    intro T h locs xs pos w xx i2 y4 y5 y6 y9 hk X e' N K V hl D hp hz hxx h6 h9
    by_cases hw1 : w < 100
    · exact gc_end hx hZ hw hby hml hown xx p1 i2 r2 o1 o2 y4 y5 y6 y9 k1 xs pos w X e' N V (by omega) ⟨D.1, by omega⟩ g_b (own_stak S_1 K (fun own_b own_hb => by rw [List.mem_singleton.mp own_hb]; exact V0.nostat)) (own_stak S_2 K (fun own_b own_hb => by rw [List.mem_singleton.mp own_hb]; exact V0.nostat)) (D_1.keep K (fun z => ne1 (List.mem_singleton.mp z))) (D_2.keep K (fun z => ne2 (List.mem_singleton.mp z))) ne1 ne2 D hxx hw1 (fun T' h' locs' po X2 e2 N2 K2 V2 => hK T' h' locs' po i2 xx y4 y5 y6 y9 X2 e2 N2 (K.trans K2 (fun _ z => Or.inl z)) (by rw [← hz]; exact V2))
    · obtain ⟨d3, D2⟩ := own_Ds D (by omega)
      exact gc_turn2 hx hZ hw hby hml hown xx p1 i2 r2 o1 o2 y4 y5 y6 y9 k1 xs pos w X e' N V (by omega) ⟨D.1, by omega⟩ g_b (own_stak S_1 K (fun own_b own_hb => by rw [List.mem_singleton.mp own_hb]; exact V0.nostat)) (own_stak S_2 K (fun own_b own_hb => by rw [List.mem_singleton.mp own_hb]; exact V0.nostat)) (D_1.keep K (fun z => ne1 (List.mem_singleton.mp z))) (D_2.keep K (fun z => ne2 (List.mem_singleton.mp z))) ne1 ne2 h6 h9 (by omega) hxx (by omega) (fun T' h' locs' x' z6 X2 e2 N2 K2 V2 q2 => ih T' h' locs' _ _ _ xx x' y4 y5 _ _ (by omega) X2 e2 N2 (K.trans K2 (fun _ z => Or.inl z)) V2 (by simp; exact hl) D2 (by omega) (by rw [own_put2 pos xs w (by omega)]; exact hz) q2 (Or.inr ⟨_, rfl⟩) (Or.inr ⟨_, rfl⟩))
set_option maxRecDepth 65536 in
set_option maxHeartbeats 40000000 in
theorem gc_loop1 {p : Program} {l : Launch} {e : Env} {R : Room} {s : State} {m : MethodId} {args : Array Value} {below : List Frame} {meth : Method} {c : Code} {Z : State} {a0 : Array Value} {W : Outcome → State → Prop} (hx : p.tables.exec = Jvm.exec) (hZ : Z.Warmed39 s.vm) (hw : ∀ d ∈ tables_1, d.before a0 Z = true) (hby : c.code = jdk_35_method_14_code) (hml : c.maxLocals = 11) (hown : s.vm.findClass "java/lang/Long" = some m.cls) {h0 : Heap} {n0 : Nat} (p1 : Int32) (r2 o1 o2 : Addr) (k1 : ClassId) (xs0 zs : List Int32) {cells slots : Nat} (V0 : Arv Z h0 r2 k1 .byte (Int32.ofNat (xs0).length) ((xs0).map Value.int) (.int (0 : Int32))) (lx : xs0.length ≤ 1000) (g_b : n0 ≤ r2) (S_1 : Sta Z h0 "java/lang/Integer" "DigitOnes" "[B" (.ref o1)) (S_2 : Sta Z h0 "java/lang/Integer" "DigitTens" "[B" (.ref o2)) (D_1 : own_DG Z h0 o1 (fun i => i % 10)) (D_2 : own_DG Z h0 o2 (fun i => i / 10)) (ne1 : o1 ≠ r2) (ne2 : o2 ≠ r2)
    (hK : ∀ (T : State) (h : Heap) (locs : List Loc) (po i2 : Int32) (xx : Int64) (y4 y5 y6 y9 : Slot), Stand p l e R s m args below meth c T locs cells slots → T.heap = h → Fr n0 locs → Keep h0 h [r2] → Arv Z h r2 k1 .byte (Int32.ofNat (zs).length) ((zs).map Value.int) (.int (0 : Int32)) → Onw p e below W (T.setTop (mkF m 194 #[.val (.long xx), .second, .val (.int p1), .val (.ref r2), y4, y5, y6, .val (.int po), .val (.int (0 : Int32)), y9, .val (.int i2)] [(.int po)]))) :
    ∀ (k : Nat) (T : State) (h : Heap) (locs : List Loc) (xs : List Int32) (pos w : Nat) (xx : Int64) (y4 y5 y6 : Slot), w ≤ k → Stand p l e R s m args below meth c T locs cells slots → T.heap = h → Fr n0 locs → Keep h0 h [r2] → Arv Z h r2 k1 .byte (Int32.ofNat (xs).length) ((xs).map Value.int) (.int (0 : Int32)) → xs.length = xs0.length → own_D w pos → pos ≤ xs0.length → own_put pos xs w = zs → xx.toInt = -(w : Int) → ((y4 = .unset ∧ y5 = .unset) ∨ ∃ z : Int64, y4 = .val (.long z) ∧ y5 = .second) → (y6 = .unset ∨ ∃ z : Int32, y6 = .val (.int z)) → Onw p e below W (T.setTop (mkF m 24 #[.val (.long xx), .second, .val (.int p1), .val (.ref r2), y4, y5, y6, .val (.int (Int32.ofNat pos)), .val (.int (0 : Int32)), .unset, .unset] [])) := by
  intro k
  induction k with
  | zero =>
    intro T h locs xs pos w xx y4 y5 y6 hk X e' N K V hl D hp hz hxx h45 h6
    have := D.2.1
    have : 1 ≤ 10 ^ (pos - 1) := Nat.one_le_pow _ _ (by decide)
    omega
  | succ k ih =>
    intro T h locs xs pos w xx y4 y5 y6 hk X e' N K V hl D hp hz hxx h45 h6
    by_cases hw1 : w < 2147483648
    · exact gc_exit1 hx hZ hw hby hml hown xx p1 r2 o1 o2 y4 y5 y6 k1 xs pos w X e' N hxx hw1 (gc_loop2 hx hZ hw hby hml hown p1 r2 o1 o2 k1 xs0 zs V0 lx g_b S_1 S_2 D_1 D_2 ne1 ne2 hK w T h locs xs pos w xx _ y4 y5 y6 _ (Nat.le_refl _) X e' N K V hl D hp hz (own_l2i hxx hw1) h6 (Or.inl rfl))
    · obtain ⟨d3, D2⟩ := own_Ds D (by omega)
      exact gc_turn1 hx hZ hw hby hml hown xx p1 r2 o1 o2 y4 y5 y6 k1 xs pos w X e' N V (by omega) ⟨D.1, by omega⟩ g_b (own_stak S_1 K (fun own_b own_hb => by rw [List.mem_singleton.mp own_hb]; exact V0.nostat)) (own_stak S_2 K (fun own_b own_hb => by rw [List.mem_singleton.mp own_hb]; exact V0.nostat)) (D_1.keep K (fun z => ne1 (List.mem_singleton.mp z))) (D_2.keep K (fun z => ne2 (List.mem_singleton.mp z))) ne1 ne2 h45 h6 (by omega) hxx (by omega) (fun T' h' locs' x' z6 X2 e2 N2 K2 V2 q2 => ih T' h' locs' _ _ _ x' _ _ _ (by omega) X2 e2 N2 (K.trans K2 (fun _ z => Or.inl z)) V2 (by simp; exact hl) D2 (by omega) (by rw [own_put2 pos xs w (by omega)]; exact hz) q2 (Or.inr ⟨_, rfl, rfl⟩) (Or.inr ⟨_, rfl⟩))
theorem ef_14 (m : MethodId) (x0 : Int64) (x1 : Int32) (x2 : Addr) : entryFrame m #[(.long x0), (.int x1), (.ref x2)] 11 = mkF m 0 #[.val (.long x0), .second, .val (.int x1), .val (.ref x2), .unset, .unset, .unset, .unset, .unset, .unset, .unset] [] := by first | (simp [entryFrame, mkF, argsToLocals, Value.category]; done) | rfl
def Q_rm14 (Z : State) (q0 : Int64) (p1 : Int32) (r2 : Addr) (o1 o2 : Addr) (k1 : ClassId) (xs : List Int32) (d w : Nat) (h0 : Heap) (n0 : Nat) (v : Option Value) (h : Heap) (L : List Loc) : Prop := ∃ z : Int32, v = some (.int z) ∧ Fr n0 L ∧ Keep h0 h [r2] ∧ Arv Z h r2 k1 .byte (Int32.ofNat (own_put d xs w).length) ((own_put d xs w).map Value.int) (.int (0 : Int32))
theorem d14_0 : decode jdk_35_method_14_code 0 = .ok (.iload_n 2, 1) := by decide +kernel
theorem d14_1 : decode jdk_35_method_14_code 1 = .ok (.istore 7, 2) := by decide +kernel
theorem d14_3 : decode jdk_35_method_14_code 3 = .ok (.lload_n 0, 1) := by decide +kernel
theorem d14_4 : decode jdk_35_method_14_code 4 = .ok (.lconst 0, 1) := by decide +kernel
theorem d14_5 : decode jdk_35_method_14_code 5 = .ok (.lcmp, 1) := by decide +kernel
theorem d14_6 : decode jdk_35_method_14_code 6 = .ok (.ifCond .ge 7, 3) := by decide +kernel
theorem d14_13 : decode jdk_35_method_14_code 13 = .ok (.iconst 0, 1) := by decide +kernel
theorem d14_14 : decode jdk_35_method_14_code 14 = .ok (.istore 8, 2) := by decide +kernel
theorem d14_16 : decode jdk_35_method_14_code 16 = .ok (.iload 8, 2) := by decide +kernel
theorem d14_18 : decode jdk_35_method_14_code 18 = .ok (.ifCond .ne 6, 3) := by decide +kernel
theorem d14_21 : decode jdk_35_method_14_code 21 = .ok (.lload_n 0, 1) := by decide +kernel
theorem d14_22 : decode jdk_35_method_14_code 22 = .ok (.lneg, 1) := by decide +kernel
theorem d14_23 : decode jdk_35_method_14_code 23 = .ok (.lstore_n 0, 1) := by decide +kernel
theorem d14_194 : decode jdk_35_method_14_code 194 = .ok (.ireturn, 1) := by decide +kernel
set_option maxRecDepth 65536 in
set_option maxHeartbeats 40000000 in
theorem rm14 (l : Launch) (Z : State) (a0 : Array Value) (hw : ∀ d ∈ tables_1, d.before a0 Z = true) (ws : List Jvm.Cond) (q0 : Int64) (p1 : Int32) (r2 : Addr) (o1 o2 : Addr) (k1 : ClassId) (xs : List Int32) (d w : Nat) (h0 : Heap) (n0 : Nat) (V0 : Arv Z h0 r2 k1 .byte (Int32.ofNat (xs).length) ((xs).map Value.int) (.int (0 : Int32))) (lx : xs.length ≤ 1000) (g_b : n0 ≤ r2) (S_1 : Sta Z h0 "java/lang/Integer" "DigitOnes" "[B" (.ref o1)) (S_2 : Sta Z h0 "java/lang/Integer" "DigitTens" "[B" (.ref o2)) (D_1 : own_DG Z h0 o1 (fun i => i % 10)) (D_2 : own_DG Z h0 o2 (fun i => i / 10)) (ne1 : o1 ≠ r2) (ne2 : o2 ≠ r2) (hq : q0.toInt = (w : Int)) (hp1 : p1 = Int32.ofNat d) (D : own_D w d) (hd : d ≤ xs.length) :
    MetFree l (⟨"java/lang/Long", "getChars", "(JI[B)I"⟩ : MethodName) (head1 (Jvm.Cond.code (⟨"java/lang/Long", "getChars", "(JI[B)I"⟩ : MethodName) jdk_35_method_14_code 11 (some .int) :: ws) ({ frames := 0, cells := 0, slots := 0, locals := 0 } : Room)) (fun a U => a = #[(.long q0), (.int p1), (.ref r2)] ∧ Z.Warmed39 U.vm ∧ U.heap = h0) (fun _ _ _ _ _ => True) (fun _ U o U' => ∃ v L, o = .returned v ∧ Q_rm14 Z q0 p1 r2 o1 o2 k1 xs d w h0 n0 v U'.heap L ∧ FrameEnd U o U' L ({ frames := 0, cells := 0, slots := 0, locals := 0 } : Room).cells ({ frames := 0, cells := 0, slots := 0, locals := 0 } : Room).slots) := by
  refine MetFree.of_bodySF (plainFor_of_name pn_7) hisR ?_
  intro p e s m args below meth c s₁ Bd hml0 hP hK
  obtain ⟨rfl, hZ, hh⟩ := hP
  have hx := Bd.exec
  have hby := Bd.bytes
  have hml : c.maxLocals = 11 := hml0
  have hown : s.vm.findClass "java/lang/Long" = some m.cls := findClass_of_methodNamed Bd.named
  have hnm := (name_of_methodNamed Bd.named Bd.method).1
  have X0 : Stand p l e ({ frames := 0, cells := 0, slots := 0, locals := 0 } : Room) s m #[(.long q0), (.int p1), (.ref r2)] below meth c s₁ [] 0 0 := Stand.of_body Bd
  have e0 : s₁.heap = h0 := by rw [← hh, Bd.state]; rfl
  have N0 := Fr.nil n0
  refine Onw.of (Onw.go (fun _ k => castTop (ef_14 m q0 p1 r2) k) ?_)
  show Onw p e below _ (s₁.setTop (mkF m 0 #[.val (.long q0), .second, .val (.int p1), .val (.ref r2), .unset, .unset, .unset, .unset, .unset, .unset, .unset] []))
  subst hp1
  show Onw p e below _ (s₁.setTop (mkF m 0 #[.val (.long q0), .second, .val (.int (Int32.ofNat d)), .val (.ref r2), .unset, .unset, .unset, .unset, .unset, .unset, .unset] []))
  refine Onw.go (fun _ kt => XS.iloadN X0.here hx rfl (hb hby d14_0) rfl kt) ?_
  show Onw p e below _ (s₁.setTop (mkF m 1 #[.val (.long q0), .second, .val (.int (Int32.ofNat d)), .val (.ref r2), .unset, .unset, .unset, .unset, .unset, .unset, .unset] [(.int (Int32.ofNat d))]))
  refine Onw.go (fun _ kt => XS.istore X0.here hx rfl (hb hby d14_1) rfl (l' := #[.val (.long q0), .second, .val (.int (Int32.ofNat d)), .val (.ref r2), .unset, .unset, .unset, .val (.int (Int32.ofNat d)), .unset, .unset, .unset]) rfl kt) ?_
  show Onw p e below _ (s₁.setTop (mkF m 3 #[.val (.long q0), .second, .val (.int (Int32.ofNat d)), .val (.ref r2), .unset, .unset, .unset, .val (.int (Int32.ofNat d)), .unset, .unset, .unset] []))
  refine Onw.go (fun _ kt => XS.lloadN X0.here hx rfl (hb hby d14_3) rfl kt) ?_
  show Onw p e below _ (s₁.setTop (mkF m 4 #[.val (.long q0), .second, .val (.int (Int32.ofNat d)), .val (.ref r2), .unset, .unset, .unset, .val (.int (Int32.ofNat d)), .unset, .unset, .unset] [(.long q0)]))
  refine Onw.go (fun _ kt => XS.lconst X0.here hx rfl (hb hby d14_4) kt) ?_
  show Onw p e below _ (s₁.setTop (mkF m 5 #[.val (.long q0), .second, .val (.int (Int32.ofNat d)), .val (.ref r2), .unset, .unset, .unset, .val (.int (Int32.ofNat d)), .unset, .unset, .unset] [(.long (0 : Int64)), (.long q0)]))
  refine Onw.go (fun _ kt => XS.lcmp X0.here hx rfl (hb hby d14_5) rfl kt) ?_
  show Onw p e below _ (s₁.setTop (mkF m 6 #[.val (.long q0), .second, .val (.int (Int32.ofNat d)), .val (.ref r2), .unset, .unset, .unset, .val (.int (Int32.ofNat d)), .unset, .unset, .unset] [(.int (lcmpW q0 (0 : Int64)))]))
  have hn0 : ¬ ((lcmpW q0 (0 : Int64)) < (0 : Int32)) := fun own_z => by
    rw [own_lc1, hq] at own_z
    have own_e : (0 : Int64).toInt = 0 := rfl
    omega
  refine Onw.go (fun _ kt => XS.ifYes X0.here hx rfl (pc0 := 6) (pc' := 13) rfl (hb hby d14_6) rfl ((if0 _ _).trans (flt (hn0 : ¬ ((lcmpW q0 (0 : Int64)) < (0 : Int32)))).2.1) (by decide) (by decide) kt) ?_
  show Onw p e below _ (s₁.setTop (mkF m 13 #[.val (.long q0), .second, .val (.int (Int32.ofNat d)), .val (.ref r2), .unset, .unset, .unset, .val (.int (Int32.ofNat d)), .unset, .unset, .unset] []))
  refine Onw.go (fun _ kt => XS.iconst X0.here hx rfl (hb hby d14_13) kt) ?_
  show Onw p e below _ (s₁.setTop (mkF m 14 #[.val (.long q0), .second, .val (.int (Int32.ofNat d)), .val (.ref r2), .unset, .unset, .unset, .val (.int (Int32.ofNat d)), .unset, .unset, .unset] [(.int (0 : Int32))]))
  refine Onw.go (fun _ kt => XS.istore X0.here hx rfl (hb hby d14_14) rfl (l' := #[.val (.long q0), .second, .val (.int (Int32.ofNat d)), .val (.ref r2), .unset, .unset, .unset, .val (.int (Int32.ofNat d)), .val (.int (0 : Int32)), .unset, .unset]) rfl kt) ?_
  show Onw p e below _ (s₁.setTop (mkF m 16 #[.val (.long q0), .second, .val (.int (Int32.ofNat d)), .val (.ref r2), .unset, .unset, .unset, .val (.int (Int32.ofNat d)), .val (.int (0 : Int32)), .unset, .unset] []))
  refine Onw.go (fun _ kt => XS.iload X0.here hx rfl (hb hby d14_16) rfl kt) ?_
  show Onw p e below _ (s₁.setTop (mkF m 18 #[.val (.long q0), .second, .val (.int (Int32.ofNat d)), .val (.ref r2), .unset, .unset, .unset, .val (.int (Int32.ofNat d)), .val (.int (0 : Int32)), .unset, .unset] [(.int (0 : Int32))]))
  refine Onw.go (fun _ kt => XS.ifNo X0.here hx rfl (hb hby d14_18) rfl ((if0 _ _).trans (teq (rfl : (0 : Int32) = (0 : Int32))).2) kt) ?_
  show Onw p e below _ (s₁.setTop (mkF m 21 #[.val (.long q0), .second, .val (.int (Int32.ofNat d)), .val (.ref r2), .unset, .unset, .unset, .val (.int (Int32.ofNat d)), .val (.int (0 : Int32)), .unset, .unset] []))
  refine Onw.go (fun _ kt => XS.lloadN X0.here hx rfl (hb hby d14_21) rfl kt) ?_
  show Onw p e below _ (s₁.setTop (mkF m 22 #[.val (.long q0), .second, .val (.int (Int32.ofNat d)), .val (.ref r2), .unset, .unset, .unset, .val (.int (Int32.ofNat d)), .val (.int (0 : Int32)), .unset, .unset] [(.long q0)]))
  refine Onw.go (fun _ kt => XS.lneg X0.here hx rfl (hb hby d14_22) rfl kt) ?_
  show Onw p e below _ (s₁.setTop (mkF m 23 #[.val (.long q0), .second, .val (.int (Int32.ofNat d)), .val (.ref r2), .unset, .unset, .unset, .val (.int (Int32.ofNat d)), .val (.int (0 : Int32)), .unset, .unset] [(.long (-q0))]))
  refine Onw.go (fun _ kt => XS.lstoreN X0.here hx rfl (hb hby d14_23) rfl (l' := #[.val (.long (-q0)), .second, .val (.int (Int32.ofNat d)), .val (.ref r2), .unset, .unset, .unset, .val (.int (Int32.ofNat d)), .val (.int (0 : Int32)), .unset, .unset]) rfl kt) ?_
  show Onw p e below _ (s₁.setTop (mkF m 24 #[.val (.long (-q0)), .second, .val (.int (Int32.ofNat d)), .val (.ref r2), .unset, .unset, .unset, .val (.int (Int32.ofNat d)), .val (.int (0 : Int32)), .unset, .unset] []))
  refine gc_loop1 hx hZ hw hby hml hown (Int32.ofNat d) r2 o1 o2 k1 xs (own_put d xs w) V0 lx g_b S_1 S_2 D_1 D_2 ne1 ne2 (fun T' h' locs' po i2 xx y4 y5 y6 y9 X' e' N' K' V' => ?_) w _ _ _ xs d w (-q0) _ _ _ (Nat.le_refl _) X0 e0 N0 (Keep.refl h0 [r2]) V0 rfl D hd rfl (own_neg hq) (Or.inl ⟨rfl, rfl⟩) (Or.inl rfl)
  · show Onw p e below _ (T'.setTop (mkF m 194 #[.val (.long xx), .second, .val (.int (Int32.ofNat d)), .val (.ref r2), y4, y5, y6, .val (.int po), .val (.int (0 : Int32)), y9, .val (.int i2)] [(.int po)]))
    exact Onw.ret X' Bd.notSynchronized (fun h => by rw [Bd.returns] at h; cases h) (fun fs hr => retI X' hx Bd.returns (hb hby d14_194) hr) ⟨po, rfl, N', by rw [e']; exact K', by rw [e']; exact V'⟩ (by decide) (by decide)
theorem ef_10 (m : MethodId) (x0 : Addr) (x1 : Int64) : entryFrame m #[(.ref x0), (.long x1)] 5 = mkF m 0 #[.val (.ref x0), .val (.long x1), .second, .unset, .unset] [] := by first | (simp [entryFrame, mkF, argsToLocals, Value.category]; done) | rfl
def Q_rm10 (Z : State) (r0 : Addr) (q1 : Int64) (zc : Int32) (o1 o2 v1 : Addr) (k1 : ClassId) (d w : Nat) (h0 : Heap) (n0 : Nat) (v : Option Value) (h : Heap) (L : List Loc) : Prop := ∃ (v2 : Addr) (k2 : ClassId) (xs2 : List Int32), v = some (.ref r0) ∧ Fr n0 L ∧ Keep h0 h [r0, v1] ∧ n0 ≤ v2 ∧ v2 ≠ r0 ∧ (v2 = v1 ∨ h0.size ≤ v2) ∧ own_SB Z h r0 (.ref v2) (.int (0 : Int32)) (.int (Int32.ofNat d)) ∧ Arv Z h v2 k2 .byte (Int32.ofNat (xs2).length) ((xs2).map Value.int) (.int (0 : Int32)) ∧ Exa Z h v2 "[B" ∧ (xs2.length = 16 ∨ xs2.length = 34) ∧ d ≤ xs2.length ∧ (∀ i, i < d → xs2[i]? = some (Int32.ofNat (48 + w / 10 ^ (d - 1 - i) % 10)))
theorem d10_0 : decode jdk_68_method_33_code 0 = .ok (.aload_n 0, 1) := by decide +kernel
theorem d10_1 : decode jdk_68_method_33_code 1 = .ok (.getfield 79, 3) := by decide +kernel
theorem d10_4 : decode jdk_68_method_33_code 4 = .ok (.istore_n 3, 1) := by decide +kernel
theorem d10_5 : decode jdk_68_method_33_code 5 = .ok (.iload_n 3, 1) := by decide +kernel
theorem d10_6 : decode jdk_68_method_33_code 6 = .ok (.lload_n 1, 1) := by decide +kernel
theorem d10_7 : decode jdk_68_method_33_code 7 = .ok (.invokestatic 254, 3) := by decide +kernel
theorem d10_10 : decode jdk_68_method_33_code 10 = .ok (.iadd, 1) := by decide +kernel
theorem d10_11 : decode jdk_68_method_33_code 11 = .ok (.istore 4, 2) := by decide +kernel
theorem d10_13 : decode jdk_68_method_33_code 13 = .ok (.aload_n 0, 1) := by decide +kernel
theorem d10_14 : decode jdk_68_method_33_code 14 = .ok (.iload 4, 2) := by decide +kernel
theorem d10_16 : decode jdk_68_method_33_code 16 = .ok (.invokevirtual 100, 3) := by decide +kernel
theorem d10_19 : decode jdk_68_method_33_code 19 = .ok (.aload_n 0, 1) := by decide +kernel
theorem d10_20 : decode jdk_68_method_33_code 20 = .ok (.invokevirtual 83, 3) := by decide +kernel
theorem d10_23 : decode jdk_68_method_33_code 23 = .ok (.ifCond .eq 17, 3) := by decide +kernel
theorem d10_26 : decode jdk_68_method_33_code 26 = .ok (.lload_n 1, 1) := by decide +kernel
theorem d10_27 : decode jdk_68_method_33_code 27 = .ok (.iload 4, 2) := by decide +kernel
theorem d10_29 : decode jdk_68_method_33_code 29 = .ok (.aload_n 0, 1) := by decide +kernel
theorem d10_30 : decode jdk_68_method_33_code 30 = .ok (.getfield 15, 3) := by decide +kernel
theorem d10_33 : decode jdk_68_method_33_code 33 = .ok (.invokestatic 259, 3) := by decide +kernel
theorem d10_36 : decode jdk_68_method_33_code 36 = .ok (.pop, 1) := by decide +kernel
theorem d10_37 : decode jdk_68_method_33_code 37 = .ok (.goto 15, 3) := by decide +kernel
theorem d10_52 : decode jdk_68_method_33_code 52 = .ok (.aload_n 0, 1) := by decide +kernel
theorem d10_53 : decode jdk_68_method_33_code 53 = .ok (.iload 4, 2) := by decide +kernel
theorem d10_55 : decode jdk_68_method_33_code 55 = .ok (.putfield 79, 3) := by decide +kernel
theorem d10_58 : decode jdk_68_method_33_code 58 = .ok (.aload_n 0, 1) := by decide +kernel
theorem d10_59 : decode jdk_68_method_33_code 59 = .ok (.areturn, 1) := by decide +kernel
set_option maxRecDepth 65536 in
set_option maxHeartbeats 40000000 in
theorem rm10 (l : Launch) (Z : State) (a0 : Array Value) (hw : ∀ d ∈ tables_1, d.before a0 Z = true) (ws : List Jvm.Cond) (r0 : Addr) (q1 : Int64) (zc : Int32) (o1 o2 v1 : Addr) (k1 : ClassId) (d w : Nat) (h0 : Heap) (n0 : Nat) (M0 : own_SB Z h0 r0 (.ref v1) (.int (0 : Int32)) (.int (0 : Int32))) (V0 : Arv Z h0 v1 k1 .byte (Int32.ofNat ((List.replicate 16 (0 : Int32))).length) (((List.replicate 16 (0 : Int32))).map Value.int) (.int (0 : Int32))) (EA : Exa Z h0 v1 "[B") (ne0 : v1 ≠ r0) (S_C : Sta Z h0 "java/lang/String" "COMPACT_STRINGS" "Z" (.int zc)) (hz : ¬ zc = 0) (S_1 : Sta Z h0 "java/lang/Integer" "DigitOnes" "[B" (.ref o1)) (S_2 : Sta Z h0 "java/lang/Integer" "DigitTens" "[B" (.ref o2)) (D_1 : own_DG Z h0 o1 (fun i => i % 10)) (D_2 : own_DG Z h0 o2 (fun i => i / 10)) (lo1 : o1 < n0) (lo2 : o2 < n0) (hq : q1.toInt = (w : Int)) (D : own_D w d) (hd : d ≤ 19) (g_r0 : n0 ≤ r0) (g1 : n0 ≤ v1) (Z0 : n0 ≤ h0.size) :
    MetFree l (⟨"java/lang/AbstractStringBuilder", "append", "(J)Ljava/lang/AbstractStringBuilder;"⟩ : MethodName) (head1 (Jvm.Cond.code (⟨"java/lang/AbstractStringBuilder", "append", "(J)Ljava/lang/AbstractStringBuilder;"⟩ : MethodName) jdk_68_method_33_code 5 (some (.object "java/lang/AbstractStringBuilder")) :: ws) ({ frames := 4, cells := 1, slots := 34, locals := 62 } : Room)) (fun a U => a = #[(.ref r0), (.long q1)] ∧ Z.Warmed39 U.vm ∧ U.heap = h0) (fun _ _ _ _ _ => True) (fun _ U o U' => ∃ v L, o = .returned v ∧ Q_rm10 Z r0 q1 zc o1 o2 v1 k1 d w h0 n0 v U'.heap L ∧ FrameEnd U o U' L ({ frames := 4, cells := 1, slots := 34, locals := 62 } : Room).cells ({ frames := 4, cells := 1, slots := 34, locals := 62 } : Room).slots) := by
  refine MetFree.of_bodySF (plainFor_of_name pn_3) hisR ?_
  intro p e s m args below meth c s₁ Bd hml0 hP hK
  obtain ⟨rfl, hZ, hh⟩ := hP
  have hx := Bd.exec
  have hby := Bd.bytes
  have hml : c.maxLocals = 5 := hml0
  have hown : s.vm.findClass "java/lang/AbstractStringBuilder" = some m.cls := findClass_of_methodNamed Bd.named
  have hnm := (name_of_methodNamed Bd.named Bd.method).1
  have X0 : Stand p l e ({ frames := 4, cells := 1, slots := 34, locals := 62 } : Room) s m #[(.ref r0), (.long q1)] below meth c s₁ [] 0 0 := Stand.of_body Bd
  have e0 : s₁.heap = h0 := by rw [← hh, Bd.state]; rfl
  have N0 := Fr.nil n0
  refine Onw.of (Onw.go (fun _ k => castTop (ef_10 m r0 q1) k) ?_)
  show Onw p e below _ (s₁.setTop (mkF m 0 #[.val (.ref r0), .val (.long q1), .second, .unset, .unset] []))
  refine Onw.go (fun _ kt => XS.aloadN X0.here hx rfl (hb hby d10_0) rfl rfl kt) ?_
  show Onw p e below _ (s₁.setTop (mkF m 1 #[.val (.ref r0), .val (.long q1), .second, .unset, .unset] [(.ref r0)]))
  obtain ⟨T1, X1, e1, st1⟩ := getF X0 hx hZ hown (host := "") (Or.inl (hw _ (own_mg (i := 96) rfl))) Via.refl e0 M0.2.2.2 (g := (mkF m 1 #[.val (.ref r0), .val (.long q1), .second, .unset, .unset] [(.ref r0)])) rfl rfl (hb hby d10_1)
  refine Onw.go st1 ?_
  show Onw p e below _ (T1.setTop (mkF m 4 #[.val (.ref r0), .val (.long q1), .second, .unset, .unset] [(.int (0 : Int32))]))
  refine Onw.go (fun _ kt => XS.istoreN X1.here hx rfl (hb hby d10_4) rfl (l' := #[.val (.ref r0), .val (.long q1), .second, .val (.int (0 : Int32)), .unset]) rfl kt) ?_
  show Onw p e below _ (T1.setTop (mkF m 5 #[.val (.ref r0), .val (.long q1), .second, .val (.int (0 : Int32)), .unset] []))
  refine Onw.go (fun _ kt => XS.iloadN X1.here hx rfl (hb hby d10_5) rfl kt) ?_
  show Onw p e below _ (T1.setTop (mkF m 6 #[.val (.ref r0), .val (.long q1), .second, .val (.int (0 : Int32)), .unset] [(.int (0 : Int32))]))
  refine Onw.go (fun _ kt => XS.lloadN X1.here hx rfl (hb hby d10_6) rfl kt) ?_
  show Onw p e below _ (T1.setTop (mkF m 7 #[.val (.ref r0), .val (.long q1), .second, .val (.int (0 : Int32)), .unset] [(.long q1), (.int (0 : Int32))]))
  obtain ⟨_, _, ⟨T2, L2, k2, n2⟩, -, X2, ⟨Lc2, hQ2, l2, y2, z2⟩, st2⟩ := Jvm.LawKit.callS X1 hx (y := (⟨"java/lang/Long", "stringSize", "(J)I"⟩ : MethodName)) hown (mvT hZ (hw _ (own_mg (i := 98) rfl))) (mvT hZ (hw _ (own_mg (i := 99) rfl))) (mvT hZ (hw _ (own_mg (i := 100) rfl))) (mvT hZ (hw _ (own_mg (i := 101) rfl))) (by decide) (backOf (W := 1) (rm11 l Z a0 hw [] q1 w d h0 n0 hq D hd) hZ (hw _ (own_mg (i := 101) rfl)) (hw _ (own_mg (i := 100) rfl)) (by decide) (by decide)) (g := (mkF m 7 #[.val (.ref r0), .val (.long q1), .second, .val (.int (0 : Int32)), .unset] [(.long q1), (.int (0 : Int32))])) rfl (by rw [hml]; rfl) (argsL := [(.long q1)]) (rest := [(.int (0 : Int32))]) (lenOf pd_8 rfl) rfl (by show 2 * 0 + _ ≤ _; exact Nat.le_of_eq rfl) (hb hby d10_7) (fun _ _ => ⟨rfl, e1, (by decide : 0 + 0 ≤ _), (by decide : 0 + 0 ≤ _)⟩)
  dsimp only [Pt.U, Pt.locs, Pt.cells, Pt.slots] at X2 l2 y2 z2 st2 hQ2
  subst l2 y2 z2
  obtain ⟨rfl, N2q, e2q⟩ := hQ2
  have N2 := Fr.app N0 N2q
  refine Onw.go st2 ?_
  show Onw p e below _ (T2.setTop (mkF m 10 #[.val (.ref r0), .val (.long q1), .second, .val (.int (0 : Int32)), .unset] [(.int (Int32.ofNat d)), (.int (0 : Int32))]))
  refine Onw.go (fun _ kt => XS.iadd X2.here hx rfl (hb hby d10_10) rfl kt) ?_
  show Onw p e below _ (T2.setTop (mkF m 11 #[.val (.ref r0), .val (.long q1), .second, .val (.int (0 : Int32)), .unset] [(.int ((0 : Int32) + (Int32.ofNat d)))]))
  rw [(Int32.zero_add _ : ((0 : Int32) + (Int32.ofNat d)) = (Int32.ofNat d))]
  show Onw p e below _ (T2.setTop (mkF m 11 #[.val (.ref r0), .val (.long q1), .second, .val (.int (0 : Int32)), .unset] [(.int (Int32.ofNat d))]))
  refine Onw.go (fun _ kt => XS.istore X2.here hx rfl (hb hby d10_11) rfl (l' := #[.val (.ref r0), .val (.long q1), .second, .val (.int (0 : Int32)), .val (.int (Int32.ofNat d))]) rfl kt) ?_
  show Onw p e below _ (T2.setTop (mkF m 13 #[.val (.ref r0), .val (.long q1), .second, .val (.int (0 : Int32)), .val (.int (Int32.ofNat d))] []))
  refine Onw.go (fun _ kt => XS.aloadN X2.here hx rfl (hb hby d10_13) rfl rfl kt) ?_
  show Onw p e below _ (T2.setTop (mkF m 14 #[.val (.ref r0), .val (.long q1), .second, .val (.int (0 : Int32)), .val (.int (Int32.ofNat d))] [(.ref r0)]))
  refine Onw.go (fun _ kt => XS.iload X2.here hx rfl (hb hby d10_14) rfl kt) ?_
  show Onw p e below _ (T2.setTop (mkF m 16 #[.val (.ref r0), .val (.long q1), .second, .val (.int (0 : Int32)), .val (.int (Int32.ofNat d))] [(.int (Int32.ofNat d)), (.ref r0)]))
  obtain ⟨cq3, kq3, q3a, -, -, q3c, -⟩ := M0.1
  obtain ⟨_, _, ⟨T3, L3, k3, n3⟩, -, X3, ⟨Lc3, hQ3, l3, y3, z3⟩, st3⟩ := X2.privateBack hx (y := (⟨"java/lang/AbstractStringBuilder", "ensureCapacityInternal", "(I)V"⟩ : MethodName)) hown (mvT hZ (hw _ (own_mg (i := 103) rfl))) (mvT hZ (hw _ (own_mg (i := 104) rfl))) (own_self (z := (⟨"java/lang/AbstractStringBuilder", "isLatin1", "()Z"⟩ : MethodName)) (mvT hZ (hw _ (own_mg (i := 111) rfl))) (Cond.privateMethod_at (args := #[]) (mvT hZ (hw _ (own_mg (i := 105) rfl)))) (mvT hZ (hw _ (own_mg (i := 104) rfl))) rfl (by decide)) (Cond.privateMethod_at (args := #[]) (mvT hZ (hw _ (own_mg (i := 105) rfl)))) (mvT hZ (hw _ (own_mg (i := 107) rfl))) (by decide) (backOf (W := 0) (rm12 l Z a0 hw [] r0 (Int32.ofNat d) d v1 k1 (.int (0 : Int32)) (List.replicate 16 (0 : Int32)) h0 n0 M0 V0 EA (Or.inl List.length_replicate) (by omega) rfl g_r0 g1 Z0) hZ (hw _ (own_mg (i := 107) rfl)) (hw _ (own_mg (i := 78) rfl)) (by decide) (by decide)) (g := (mkF m 16 #[.val (.ref r0), .val (.long q1), .second, .val (.int (0 : Int32)), .val (.int (Int32.ofNat d))] [(.int (Int32.ofNat d)), (.ref r0)])) rfl (by rw [hml]; rfl) (Steps.refl _) (a := r0) (cell := cq3) (by rw [e2q]; exact q3a) (fun own_q own_e => by rw [own_e] at q3c; cases q3c) (argsL := [(.int (Int32.ofNat d))]) (rest := []) (lenOf pd_5 rfl) rfl (by show 2 * 0 + _ ≤ _; exact Nat.le_of_eq rfl) (hb hby d10_16) (fun _ _ => ⟨rfl, e2q, (by decide : 0 + 1 ≤ _), (by decide : 0 + 34 ≤ _)⟩)
  dsimp only [Pt.U, Pt.locs, Pt.cells, Pt.slots] at X3 l3 y3 z3 st3 hQ3
  subst l3 y3 z3
  obtain ⟨v2, k2, j, rfl, N3q, K3, g2, o3, M3, V3, EA3, l3, c3⟩ := hQ3
  have N3 := Fr.app N2 N3q
  refine Onw.go (fun _ kt => st3.trans kt) ?_
  show Onw p e below _ (T3.setTop (mkF m 19 #[.val (.ref r0), .val (.long q1), .second, .val (.int (0 : Int32)), .val (.int (Int32.ofNat d))] []))
  rw [List.length_replicate] at l3 c3
  obtain ⟨xs1, hx1⟩ : ∃ own_z, own_z = (List.replicate 16 (0 : Int32)) ++ List.replicate j (0 : Int32) := ⟨_, rfl⟩
  rw [← hx1] at V3
  have lx1 : xs1.length = 16 + j := by rw [hx1, List.length_append, List.length_replicate, List.length_replicate]
  have ne2 : v2 ≠ r0 := by
    rcases o3 with z | z
    · rw [z]; exact ne0
    · exact fun q => Nat.lt_irrefl _ (Nat.lt_of_lt_of_le (q ▸ M0.1.lt) z)
  have S_C1 := (own_stak S_C K3 (own_exans M0.1))
  have S_11 := (own_stak S_1 K3 (own_exans M0.1))
  have S_21 := (own_stak S_2 K3 (own_exans M0.1))
  have D_11 := D_1.keep K3 (fun own_z => Nat.lt_irrefl _ (Nat.lt_of_lt_of_le lo1 (by rw [List.mem_singleton.mp own_z]; exact g_r0)))
  have nd1 : o1 ≠ v2 := fun own_z => Nat.lt_irrefl _ (Nat.lt_of_lt_of_le lo1 (own_z ▸ g2))
  have D_21 := D_2.keep K3 (fun own_z => Nat.lt_irrefl _ (Nat.lt_of_lt_of_le lo2 (by rw [List.mem_singleton.mp own_z]; exact g_r0)))
  have nd2 : o2 ≠ v2 := fun own_z => Nat.lt_irrefl _ (Nat.lt_of_lt_of_le lo2 (own_z ▸ g2))
  refine Onw.go (fun _ kt => XS.aloadN X3.here hx rfl (hb hby d10_19) rfl rfl kt) ?_
  show Onw p e below _ (T3.setTop (mkF m 20 #[.val (.ref r0), .val (.long q1), .second, .val (.int (0 : Int32)), .val (.int (Int32.ofNat d))] [(.ref r0)]))
  obtain ⟨cq4, kq4, q4a, q4b, q4c⟩ := isOf hZ rfl M3.1
  obtain ⟨_, _, ⟨T4, L4, k4, n4⟩, -, X4, ⟨Lc4, hQ4, l4, y4, z4⟩, st4⟩ := X3.virtualBack hx (y := (⟨"java/lang/AbstractStringBuilder", "isLatin1", "()Z"⟩ : MethodName)) (z := (⟨"java/lang/AbstractStringBuilder", "isLatin1", "()Z"⟩ : MethodName)) hown (mvT hZ (hw _ (own_mg (i := 108) rfl))) (mvT hZ (hw _ (own_mg (i := 109) rfl))) (notFace_of_selects (args := #[]) (mvT hZ (hw _ (own_mg (i := 111) rfl)))) (mvT hZ (hw _ (own_mg (i := 111) rfl))) (mvT hZ (hw _ (own_mg (i := 110) rfl))) (by decide) (backOf (W := 0) (rm13 l Z a0 hw [] r0 zc (.ref v2) (.int (0 : Int32)) T3.heap n0 M3 S_C1 hz) hZ (hw _ (own_mg (i := 112) rfl)) (hw _ (own_mg (i := 78) rfl)) (by decide) (by decide)) q4a q4c (g := (mkF m 20 #[.val (.ref r0), .val (.long q1), .second, .val (.int (0 : Int32)), .val (.int (Int32.ofNat d))] [(.ref r0)])) rfl (by rw [hml]; rfl) (Steps.refl _) (argsL := []) (rest := []) (lenOf pd_9 rfl) rfl (by show 2 * 0 + _ ≤ _; exact Nat.le_of_eq rfl) (hb hby d10_20) (fun _ _ => ⟨rfl, rfl, (by decide : 1 + 0 ≤ _), (by decide : 34 + 0 ≤ _)⟩)
  dsimp only [Pt.U, Pt.locs, Pt.cells, Pt.slots] at X4 l4 y4 z4 st4 hQ4
  subst l4 y4 z4
  obtain ⟨rfl, N4q, e4q⟩ := hQ4
  have N4 := Fr.app N3 N4q
  refine Onw.go (fun _ kt => st4.trans kt) ?_
  show Onw p e below _ (T4.setTop (mkF m 23 #[.val (.ref r0), .val (.long q1), .second, .val (.int (0 : Int32)), .val (.int (Int32.ofNat d))] [(.int (1 : Int32))]))
  refine Onw.go (fun _ kt => XS.ifNo X4.here hx rfl (hb hby d10_23) rfl ((if0 _ _).trans (feq (by decide : ¬ ((1 : Int32) = (0 : Int32)))).1) kt) ?_
  show Onw p e below _ (T4.setTop (mkF m 26 #[.val (.ref r0), .val (.long q1), .second, .val (.int (0 : Int32)), .val (.int (Int32.ofNat d))] []))
  refine Onw.go (fun _ kt => XS.lloadN X4.here hx rfl (hb hby d10_26) rfl kt) ?_
  show Onw p e below _ (T4.setTop (mkF m 27 #[.val (.ref r0), .val (.long q1), .second, .val (.int (0 : Int32)), .val (.int (Int32.ofNat d))] [(.long q1)]))
  refine Onw.go (fun _ kt => XS.iload X4.here hx rfl (hb hby d10_27) rfl kt) ?_
  show Onw p e below _ (T4.setTop (mkF m 29 #[.val (.ref r0), .val (.long q1), .second, .val (.int (0 : Int32)), .val (.int (Int32.ofNat d))] [(.int (Int32.ofNat d)), (.long q1)]))
  refine Onw.go (fun _ kt => XS.aloadN X4.here hx rfl (hb hby d10_29) rfl rfl kt) ?_
  show Onw p e below _ (T4.setTop (mkF m 30 #[.val (.ref r0), .val (.long q1), .second, .val (.int (0 : Int32)), .val (.int (Int32.ofNat d))] [(.ref r0), (.int (Int32.ofNat d)), (.long q1)]))
  obtain ⟨T5, X5, e5, st5⟩ := getF X4 hx hZ hown (host := "") (Or.inl (hw _ (own_mg (i := 82) rfl))) Via.refl e4q M3.2.1 (g := (mkF m 30 #[.val (.ref r0), .val (.long q1), .second, .val (.int (0 : Int32)), .val (.int (Int32.ofNat d))] [(.ref r0), (.int (Int32.ofNat d)), (.long q1)])) rfl rfl (hb hby d10_30)
  refine Onw.go st5 ?_
  show Onw p e below _ (T5.setTop (mkF m 33 #[.val (.ref r0), .val (.long q1), .second, .val (.int (0 : Int32)), .val (.int (Int32.ofNat d))] [(.ref v2), (.int (Int32.ofNat d)), (.long q1)]))
  obtain ⟨_, _, ⟨T6, L6, k6, n6⟩, -, X6, ⟨Lc6, hQ6, l6, y6, z6⟩, st6⟩ := Jvm.LawKit.callS X5 hx (y := (⟨"java/lang/Long", "getChars", "(JI[B)I"⟩ : MethodName)) hown (mvT hZ (hw _ (own_mg (i := 113) rfl))) (mvT hZ (hw _ (own_mg (i := 114) rfl))) (mvT hZ (hw _ (own_mg (i := 100) rfl))) (mvT hZ (hw _ (own_mg (i := 115) rfl))) (by decide) (backOf (W := 0) (rm14 l Z a0 hw [] q1 (Int32.ofNat d) v2 o1 o2 k2 xs1 d w T3.heap n0 V3 (by omega) g2 S_11 S_21 D_11 D_21 nd1 nd2 hq rfl D (by omega)) hZ (hw _ (own_mg (i := 115) rfl)) (hw _ (own_mg (i := 100) rfl)) (by decide) (by decide)) (g := (mkF m 33 #[.val (.ref r0), .val (.long q1), .second, .val (.int (0 : Int32)), .val (.int (Int32.ofNat d))] [(.ref v2), (.int (Int32.ofNat d)), (.long q1)])) rfl (by rw [hml]; rfl) (argsL := [(.long q1), (.int (Int32.ofNat d)), (.ref v2)]) (rest := []) (lenOf pd_10 rfl) rfl (by show 2 * 0 + _ ≤ _; exact Nat.le_of_eq rfl) (hb hby d10_33) (fun _ _ => ⟨rfl, e5, (by decide : 1 + 0 ≤ _), (by decide : 34 + 0 ≤ _)⟩)
  dsimp only [Pt.U, Pt.locs, Pt.cells, Pt.slots] at X6 l6 y6 z6 st6 hQ6
  subst l6 y6 z6
  obtain ⟨z6, rfl, N6q, K6, V6⟩ := hQ6
  have N6 := Fr.app N4 N6q
  refine Onw.go st6 ?_
  show Onw p e below _ (T6.setTop (mkF m 36 #[.val (.ref r0), .val (.long q1), .second, .val (.int (0 : Int32)), .val (.int (Int32.ofNat d))] [(.int z6)]))
  have M3 := M3.keep K6 (fun own_z => ne2 (List.mem_singleton.mp own_z).symm)
  have EA3 := EA3.keep K6
  refine Onw.go (fun _ kt => XS.pop X6.here hx rfl (hb hby d10_36) rfl rfl kt) ?_
  show Onw p e below _ (T6.setTop (mkF m 37 #[.val (.ref r0), .val (.long q1), .second, .val (.int (0 : Int32)), .val (.int (Int32.ofNat d))] []))
  refine Onw.go (fun _ kt => XS.goto X6.here hx rfl (pc0 := 37) (pc' := 52) rfl (hb hby d10_37) (by decide) (by decide) kt) ?_
  show Onw p e below _ (T6.setTop (mkF m 52 #[.val (.ref r0), .val (.long q1), .second, .val (.int (0 : Int32)), .val (.int (Int32.ofNat d))] []))
  refine Onw.go (fun _ kt => XS.aloadN X6.here hx rfl (hb hby d10_52) rfl rfl kt) ?_
  show Onw p e below _ (T6.setTop (mkF m 53 #[.val (.ref r0), .val (.long q1), .second, .val (.int (0 : Int32)), .val (.int (Int32.ofNat d))] [(.ref r0)]))
  refine Onw.go (fun _ kt => XS.iload X6.here hx rfl (hb hby d10_53) rfl kt) ?_
  show Onw p e below _ (T6.setTop (mkF m 55 #[.val (.ref r0), .val (.long q1), .second, .val (.int (0 : Int32)), .val (.int (Int32.ofNat d))] [(.int (Int32.ofNat d)), (.ref r0)]))
  obtain ⟨T7, h7, X7, e7, W7, st7⟩ := putF X6 hx hZ hown (host := "") (Or.inl (hw _ (own_mg (i := 96) rfl))) Via.refl rfl M3.2.2.2 M3.1 (Or.inl (hw _ (own_mg (i := 97) rfl))) (hw _ (own_mg (i := 69) rfl)) (ty := .int) (by decide) rfl rfl (g := (mkF m 55 #[.val (.ref r0), .val (.long q1), .second, .val (.int (0 : Int32)), .val (.int (Int32.ofNat d))] [(.int (Int32.ofNat d)), (.ref r0)])) rfl rfl (hb hby d10_55)
  have N7 := Fr.snoc X7 N6 g_r0
  refine Onw.go st7 ?_
  show Onw p e below _ (T7.setTop (mkF m 58 #[.val (.ref r0), .val (.long q1), .second, .val (.int (0 : Int32)), .val (.int (Int32.ofNat d))] []))
  have M4 := own_set_count hw M3 W7
  refine Onw.go (fun _ kt => XS.aloadN X7.here hx rfl (hb hby d10_58) rfl rfl kt) ?_
  show Onw p e below _ (T7.setTop (mkF m 59 #[.val (.ref r0), .val (.long q1), .second, .val (.int (0 : Int32)), .val (.int (Int32.ofNat d))] [(.ref r0)]))
  have K4 : Keep h0 h7 [r0, v1] := ((((Keep.refl h0 [r0, v1]).trans K3 (fun own_x own_h => Or.inl (by rw [List.mem_singleton.mp own_h]; simp))).trans K6 (fun own_x own_h => by
    rw [List.mem_singleton.mp own_h]
    rcases o3 with z | z
    · exact Or.inl (by rw [z]; simp)
    · exact Or.inr z))).wr W7 (Or.inl (by simp))
  exact Onw.ret X7 Bd.notSynchronized (fun h => by rw [Bd.returns] at h; cases h) (fun fs hr => X7.areturnOut hx rfl Bd.returns rfl (hb hby d10_59) hr) ⟨v2, k2, own_put d xs1 w, rfl, N7, by rw [e7]; exact K4, g2, ne2, o3, by rw [e7]; exact M4, by rw [e7]; exact V6.other W7 ne2, by rw [e7]; exact EA3.wr W7, by rw [own_put_len]; omega, by rw [own_put_len]; omega, fun i hi => own_put_lo d xs1 w i hi (by omega)⟩ (by decide) (by decide)
theorem ef_9 (m : MethodId) (x0 : Addr) (x1 : Int64) : entryFrame m #[(.ref x0), (.long x1)] 3 = mkF m 0 #[.val (.ref x0), .val (.long x1), .second] [] := by first | (simp [entryFrame, mkF, argsToLocals, Value.category]; done) | rfl
def Q_rm9 (Z : State) (r0 : Addr) (q1 : Int64) (zc : Int32) (o1 o2 v1 : Addr) (k1 : ClassId) (d w : Nat) (h0 : Heap) (n0 : Nat) (v : Option Value) (h : Heap) (L : List Loc) : Prop := ∃ (v2 : Addr) (k2 : ClassId) (xs2 : List Int32), v = some (.ref r0) ∧ Fr n0 L ∧ Keep h0 h [r0, v1] ∧ n0 ≤ v2 ∧ v2 ≠ r0 ∧ (v2 = v1 ∨ h0.size ≤ v2) ∧ own_SB Z h r0 (.ref v2) (.int (0 : Int32)) (.int (Int32.ofNat d)) ∧ Arv Z h v2 k2 .byte (Int32.ofNat (xs2).length) ((xs2).map Value.int) (.int (0 : Int32)) ∧ Exa Z h v2 "[B" ∧ (xs2.length = 16 ∨ xs2.length = 34) ∧ d ≤ xs2.length ∧ (∀ i, i < d → xs2[i]? = some (Int32.ofNat (48 + w / 10 ^ (d - 1 - i) % 10)))
theorem d9_0 : decode jdk_67_method_16_code 0 = .ok (.aload_n 0, 1) := by decide +kernel
theorem d9_1 : decode jdk_67_method_16_code 1 = .ok (.lload_n 1, 1) := by decide +kernel
theorem d9_2 : decode jdk_67_method_16_code 2 = .ok (.invokespecial 56, 3) := by decide +kernel
theorem d9_5 : decode jdk_67_method_16_code 5 = .ok (.pop, 1) := by decide +kernel
theorem d9_6 : decode jdk_67_method_16_code 6 = .ok (.aload_n 0, 1) := by decide +kernel
theorem d9_7 : decode jdk_67_method_16_code 7 = .ok (.areturn, 1) := by decide +kernel
set_option maxRecDepth 65536 in
set_option maxHeartbeats 40000000 in
theorem rm9 (l : Launch) (Z : State) (a0 : Array Value) (hw : ∀ d ∈ tables_1, d.before a0 Z = true) (ws : List Jvm.Cond) (r0 : Addr) (q1 : Int64) (zc : Int32) (o1 o2 v1 : Addr) (k1 : ClassId) (d w : Nat) (h0 : Heap) (n0 : Nat) (M0 : own_SB Z h0 r0 (.ref v1) (.int (0 : Int32)) (.int (0 : Int32))) (V0 : Arv Z h0 v1 k1 .byte (Int32.ofNat ((List.replicate 16 (0 : Int32))).length) (((List.replicate 16 (0 : Int32))).map Value.int) (.int (0 : Int32))) (EA : Exa Z h0 v1 "[B") (ne0 : v1 ≠ r0) (S_C : Sta Z h0 "java/lang/String" "COMPACT_STRINGS" "Z" (.int zc)) (hz : ¬ zc = 0) (S_1 : Sta Z h0 "java/lang/Integer" "DigitOnes" "[B" (.ref o1)) (S_2 : Sta Z h0 "java/lang/Integer" "DigitTens" "[B" (.ref o2)) (D_1 : own_DG Z h0 o1 (fun i => i % 10)) (D_2 : own_DG Z h0 o2 (fun i => i / 10)) (lo1 : o1 < n0) (lo2 : o2 < n0) (hq : q1.toInt = (w : Int)) (D : own_D w d) (hd : d ≤ 19) (g_r0 : n0 ≤ r0) (g1 : n0 ≤ v1) (Z0 : n0 ≤ h0.size) :
    MetFree l (⟨"java/lang/StringBuilder", "append", "(J)Ljava/lang/StringBuilder;"⟩ : MethodName) (head1 (Jvm.Cond.code (⟨"java/lang/StringBuilder", "append", "(J)Ljava/lang/StringBuilder;"⟩ : MethodName) jdk_67_method_16_code 3 (some (.object "java/lang/StringBuilder")) :: ws) ({ frames := 5, cells := 1, slots := 34, locals := 78 } : Room)) (fun a U => a = #[(.ref r0), (.long q1)] ∧ Z.Warmed39 U.vm ∧ U.heap = h0) (fun _ _ _ _ _ => True) (fun _ U o U' => ∃ v L, o = .returned v ∧ Q_rm9 Z r0 q1 zc o1 o2 v1 k1 d w h0 n0 v U'.heap L ∧ FrameEnd U o U' L ({ frames := 5, cells := 1, slots := 34, locals := 78 } : Room).cells ({ frames := 5, cells := 1, slots := 34, locals := 78 } : Room).slots) := by
  refine MetFree.of_bodySF (plainFor_of_name pn_4) hisR ?_
  intro p e s m args below meth c s₁ Bd hml0 hP hK
  obtain ⟨rfl, hZ, hh⟩ := hP
  have hx := Bd.exec
  have hby := Bd.bytes
  have hml : c.maxLocals = 3 := hml0
  have hown : s.vm.findClass "java/lang/StringBuilder" = some m.cls := findClass_of_methodNamed Bd.named
  have hnm := (name_of_methodNamed Bd.named Bd.method).1
  have X0 : Stand p l e ({ frames := 5, cells := 1, slots := 34, locals := 78 } : Room) s m #[(.ref r0), (.long q1)] below meth c s₁ [] 0 0 := Stand.of_body Bd
  have e0 : s₁.heap = h0 := by rw [← hh, Bd.state]; rfl
  have N0 := Fr.nil n0
  refine Onw.of (Onw.go (fun _ k => castTop (ef_9 m r0 q1) k) ?_)
  show Onw p e below _ (s₁.setTop (mkF m 0 #[.val (.ref r0), .val (.long q1), .second] []))
  refine Onw.go (fun _ kt => XS.aloadN X0.here hx rfl (hb hby d9_0) rfl rfl kt) ?_
  show Onw p e below _ (s₁.setTop (mkF m 1 #[.val (.ref r0), .val (.long q1), .second] [(.ref r0)]))
  refine Onw.go (fun _ kt => XS.lloadN X0.here hx rfl (hb hby d9_1) rfl kt) ?_
  show Onw p e below _ (s₁.setTop (mkF m 2 #[.val (.ref r0), .val (.long q1), .second] [(.long q1), (.ref r0)]))
  obtain ⟨_, _, ⟨T1, L1, k1, n1⟩, -, X1, ⟨Lc1, hQ1, l1, y1, z1⟩, st1⟩ := superBack X0 hx hZ (K := "java/lang/StringBuilder") (y := (⟨"java/lang/AbstractStringBuilder", "append", "(J)Ljava/lang/AbstractStringBuilder;"⟩ : MethodName)) hown (hw _ (own_mg (i := 91) rfl)) (own_same (z := (⟨"java/lang/AbstractStringBuilder", "isLatin1", "()Z"⟩ : MethodName)) (hw _ (own_mg (i := 111) rfl)) (hw _ (own_mg (i := 92) rfl)) rfl (by decide)) (hw _ (own_mg (i := 92) rfl)) (hw _ (own_mg (i := 93) rfl)) (by decide) (backOf (W := 0) (rm10 l Z a0 hw [] r0 q1 zc o1 o2 v1 k1 d w h0 n0 M0 V0 EA ne0 S_C hz S_1 S_2 D_1 D_2 lo1 lo2 hq D hd g_r0 g1 Z0) hZ (hw _ (own_mg (i := 95) rfl)) (hw _ (own_mg (i := 78) rfl)) (by decide) (by decide)) e0 (Ins.self M0.1) (a := r0) (g := (mkF m 2 #[.val (.ref r0), .val (.long q1), .second] [(.long q1), (.ref r0)])) rfl (by rw [hml]; rfl) (hw _ (own_mg (i := 95) rfl)) (argsL := [(.long q1)]) (rest := []) (lenOf pd_7 rfl) rfl (by show 2 * 0 + _ ≤ _; exact Nat.le_of_eq rfl) (hb hby d9_2) (fun _ _ => ⟨rfl, e0, (by decide : 0 + 1 ≤ _), (by decide : 0 + 34 ≤ _)⟩)
  dsimp only [Pt.U, Pt.locs, Pt.cells, Pt.slots] at X1 l1 y1 z1 st1 hQ1
  subst l1 y1 z1
  obtain ⟨v2, k2, xs2, rfl, N1q, K1, q1r⟩ := hQ1
  have N1 := Fr.app N0 N1q
  refine Onw.go (fun _ kt => st1.trans kt) ?_
  show Onw p e below _ (T1.setTop (mkF m 5 #[.val (.ref r0), .val (.long q1), .second] [(.ref r0)]))
  refine Onw.go (fun _ kt => XS.pop X1.here hx rfl (hb hby d9_5) rfl rfl kt) ?_
  show Onw p e below _ (T1.setTop (mkF m 6 #[.val (.ref r0), .val (.long q1), .second] []))
  refine Onw.go (fun _ kt => XS.aloadN X1.here hx rfl (hb hby d9_6) rfl rfl kt) ?_
  show Onw p e below _ (T1.setTop (mkF m 7 #[.val (.ref r0), .val (.long q1), .second] [(.ref r0)]))
  exact Onw.ret X1 Bd.notSynchronized (fun h => by rw [Bd.returns] at h; cases h) (fun fs hr => X1.areturnOut hx rfl Bd.returns rfl (hb hby d9_7) hr) ⟨v2, k2, xs2, rfl, N1, K1, q1r⟩ (by decide) (by decide)
def own_ST (Z : State) (h : Heap) (a t : Addr) : Prop := Exa Z h a "java/lang/String" ∧ Fld Z h a "java/lang/String" "coder" "B" (.int (0 : Int32)) ∧ Fld Z h a "java/lang/String" "value" "[B" (.ref t)
theorem own_ST.keep {Z : State} {h h' : Heap} {a t : Addr} {ws : List Addr} (M : own_ST Z h a t) (K : Keep h h' ws) (q : a ∉ ws) : own_ST Z h' a t := ⟨M.1.keep K, M.2.1.keep K q, M.2.2.keep K q⟩
theorem own_ST.ext {Z : State} {h h' : Heap} {a t : Addr} (M : own_ST Z h a t) (K : Ext h h') : own_ST Z h' a t := ⟨M.1.ext K, M.2.1.ext K, M.2.2.ext K⟩
theorem pn_8 : plainName "java/lang/String" = true := by first | (simp [plainName, overriddenIn]; done) | decide +kernel
theorem ef_18 (m : MethodId) (x0 : Addr) : entryFrame m #[(.ref x0)] 1 = mkF m 0 #[.val (.ref x0)] [] := by first | (simp [entryFrame, mkF, argsToLocals, Value.category]; done) | rfl
def Q_rm18 (Z : State) (r0 : Addr) (zc : Int32) (t : Addr) (h0 : Heap) (n0 : Nat) (v : Option Value) (h : Heap) (L : List Loc) : Prop := v = some (.int (0 : Int32)) ∧ Fr n0 L ∧ h = h0
theorem d18_0 : decode jdk_42_method_152_code 0 = .ok (.getstatic 38, 3) := by decide +kernel
theorem d18_3 : decode jdk_42_method_152_code 3 = .ok (.ifCond .eq 10, 3) := by decide +kernel
theorem d18_6 : decode jdk_42_method_152_code 6 = .ok (.aload_n 0, 1) := by decide +kernel
theorem d18_7 : decode jdk_42_method_152_code 7 = .ok (.getfield 15, 3) := by decide +kernel
theorem d18_10 : decode jdk_42_method_152_code 10 = .ok (.goto 4, 3) := by decide +kernel
theorem d18_14 : decode jdk_42_method_152_code 14 = .ok (.ireturn, 1) := by decide +kernel
set_option maxRecDepth 65536 in
set_option maxHeartbeats 40000000 in
theorem rm18 (l : Launch) (Z : State) (a0 : Array Value) (hw : ∀ d ∈ tables_1, d.before a0 Z = true) (ws : List Jvm.Cond) (r0 : Addr) (zc : Int32) (t : Addr) (h0 : Heap) (n0 : Nat) (M0 : own_ST Z h0 r0 t) (S_C : Sta Z h0 "java/lang/String" "COMPACT_STRINGS" "Z" (.int zc)) (hz : ¬ zc = 0) :
    MetFree l (⟨"java/lang/String", "coder", "()B"⟩ : MethodName) (head1 (Jvm.Cond.code (⟨"java/lang/String", "coder", "()B"⟩ : MethodName) jdk_42_method_152_code 1 (some .byte) :: ws) ({ frames := 0, cells := 0, slots := 0, locals := 0 } : Room)) (fun a U => a = #[(.ref r0)] ∧ Z.Warmed39 U.vm ∧ U.heap = h0) (fun _ _ _ _ _ => True) (fun _ U o U' => ∃ v L, o = .returned v ∧ Q_rm18 Z r0 zc t h0 n0 v U'.heap L ∧ FrameEnd U o U' L ({ frames := 0, cells := 0, slots := 0, locals := 0 } : Room).cells ({ frames := 0, cells := 0, slots := 0, locals := 0 } : Room).slots) := by
  refine MetFree.of_bodySF (plainFor_of_name pn_8) hisR ?_
  intro p e s m args below meth c s₁ Bd hml0 hP hK
  obtain ⟨rfl, hZ, hh⟩ := hP
  have hx := Bd.exec
  have hby := Bd.bytes
  have hml : c.maxLocals = 1 := hml0
  have hown : s.vm.findClass "java/lang/String" = some m.cls := findClass_of_methodNamed Bd.named
  have hnm := (name_of_methodNamed Bd.named Bd.method).1
  have X0 : Stand p l e ({ frames := 0, cells := 0, slots := 0, locals := 0 } : Room) s m #[(.ref r0)] below meth c s₁ [] 0 0 := Stand.of_body Bd
  have e0 : s₁.heap = h0 := by rw [← hh, Bd.state]; rfl
  have N0 := Fr.nil n0
  refine Onw.of (Onw.go (fun _ k => castTop (ef_18 m r0) k) ?_)
  show Onw p e below _ (s₁.setTop (mkF m 0 #[.val (.ref r0)] []))
  obtain ⟨T1, X1, e1, st1⟩ := getS2 X0 hx hZ hown (host := "") (Or.inl (hw _ (own_mg (i := 141) rfl))) Via.refl e0 S_C (g := (mkF m 0 #[.val (.ref r0)] [])) rfl (hb hby d18_0)
  refine Onw.go st1 ?_
  show Onw p e below _ (T1.setTop (mkF m 3 #[.val (.ref r0)] [(.int zc)]))
  refine Onw.go (fun _ kt => XS.ifNo X1.here hx rfl (hb hby d18_3) rfl ((if0 _ _).trans (feq (hz : ¬ (zc = (0 : Int32)))).1) kt) ?_
  show Onw p e below _ (T1.setTop (mkF m 6 #[.val (.ref r0)] []))
  refine Onw.go (fun _ kt => XS.aloadN X1.here hx rfl (hb hby d18_6) rfl rfl kt) ?_
  show Onw p e below _ (T1.setTop (mkF m 7 #[.val (.ref r0)] [(.ref r0)]))
  obtain ⟨T2, X2, e2, st2⟩ := getF X1 hx hZ hown (host := "") (Or.inl (hw _ (own_mg (i := 142) rfl))) Via.refl e1 M0.2.1 (g := (mkF m 7 #[.val (.ref r0)] [(.ref r0)])) rfl rfl (hb hby d18_7)
  refine Onw.go st2 ?_
  show Onw p e below _ (T2.setTop (mkF m 10 #[.val (.ref r0)] [(.int (0 : Int32))]))
  refine Onw.go (fun _ kt => XS.goto X2.here hx rfl (pc0 := 10) (pc' := 14) rfl (hb hby d18_10) (by decide) (by decide) kt) ?_
  show Onw p e below _ (T2.setTop (mkF m 14 #[.val (.ref r0)] [(.int (0 : Int32))]))
  exact Onw.ret X2 Bd.notSynchronized (fun h => by rw [Bd.returns] at h; cases h) (fun fs hr => retN X2 hx (t := .byte) Bd.returns (by simp) (hb hby d18_14) hr) ⟨rfl, N0, e2⟩ (by decide) (by decide)
theorem ef_17 (m : MethodId) (x0 : Addr) : entryFrame m #[(.ref x0)] 1 = mkF m 0 #[.val (.ref x0)] [] := by first | (simp [entryFrame, mkF, argsToLocals, Value.category]; done) | rfl
def Q_rm17 (Z : State) (r0 : Addr) (zc : Int32) (t : Addr) (kt : ClassId) (ss : List Int32) (h0 : Heap) (n0 : Nat) (v : Option Value) (h : Heap) (L : List Loc) : Prop := v = some (.int (Int32.ofNat ss.length)) ∧ Fr n0 L ∧ h = h0
theorem d17_0 : decode jdk_42_method_54_code 0 = .ok (.aload_n 0, 1) := by decide +kernel
theorem d17_1 : decode jdk_42_method_54_code 1 = .ok (.getfield 9, 3) := by decide +kernel
theorem d17_4 : decode jdk_42_method_54_code 4 = .ok (.arraylength, 1) := by decide +kernel
theorem d17_5 : decode jdk_42_method_54_code 5 = .ok (.aload_n 0, 1) := by decide +kernel
theorem d17_6 : decode jdk_42_method_54_code 6 = .ok (.invokevirtual 335, 3) := by decide +kernel
theorem d17_9 : decode jdk_42_method_54_code 9 = .ok (.ishr, 1) := by decide +kernel
theorem d17_10 : decode jdk_42_method_54_code 10 = .ok (.ireturn, 1) := by decide +kernel
set_option maxRecDepth 65536 in
set_option maxHeartbeats 40000000 in
theorem rm17 (l : Launch) (Z : State) (a0 : Array Value) (hw : ∀ d ∈ tables_1, d.before a0 Z = true) (ws : List Jvm.Cond) (r0 : Addr) (zc : Int32) (t : Addr) (kt : ClassId) (ss : List Int32) (h0 : Heap) (n0 : Nat) (M0 : own_ST Z h0 r0 t) (V0 : Arv Z h0 t kt .byte (Int32.ofNat (ss).length) ((ss).map Value.int) (.int (0 : Int32))) (S_C : Sta Z h0 "java/lang/String" "COMPACT_STRINGS" "Z" (.int zc)) (hz : ¬ zc = 0) :
    MetFree l (⟨"java/lang/String", "length", "()I"⟩ : MethodName) (head1 (Jvm.Cond.code (⟨"java/lang/String", "length", "()I"⟩ : MethodName) jdk_42_method_54_code 1 (some .int) :: ws) ({ frames := 1, cells := 0, slots := 0, locals := 13 } : Room)) (fun a U => a = #[(.ref r0)] ∧ Z.Warmed39 U.vm ∧ U.heap = h0) (fun _ _ _ _ _ => True) (fun _ U o U' => ∃ v L, o = .returned v ∧ Q_rm17 Z r0 zc t kt ss h0 n0 v U'.heap L ∧ FrameEnd U o U' L ({ frames := 1, cells := 0, slots := 0, locals := 13 } : Room).cells ({ frames := 1, cells := 0, slots := 0, locals := 13 } : Room).slots) := by
  refine MetFree.of_bodySF (plainFor_of_name pn_8) hisR ?_
  intro p e s m args below meth c s₁ Bd hml0 hP hK
  obtain ⟨rfl, hZ, hh⟩ := hP
  have hx := Bd.exec
  have hby := Bd.bytes
  have hml : c.maxLocals = 1 := hml0
  have hown : s.vm.findClass "java/lang/String" = some m.cls := findClass_of_methodNamed Bd.named
  have hnm := (name_of_methodNamed Bd.named Bd.method).1
  have X0 : Stand p l e ({ frames := 1, cells := 0, slots := 0, locals := 13 } : Room) s m #[(.ref r0)] below meth c s₁ [] 0 0 := Stand.of_body Bd
  have e0 : s₁.heap = h0 := by rw [← hh, Bd.state]; rfl
  have N0 := Fr.nil n0
  refine Onw.of (Onw.go (fun _ k => castTop (ef_17 m r0) k) ?_)
  show Onw p e below _ (s₁.setTop (mkF m 0 #[.val (.ref r0)] []))
  obtain ⟨c0, A0, qa0, S0, Q0, H0, G0⟩ := V0
  refine Onw.go (fun _ kt => XS.aloadN X0.here hx rfl (hb hby d17_0) rfl rfl kt) ?_
  show Onw p e below _ (s₁.setTop (mkF m 1 #[.val (.ref r0)] [(.ref r0)]))
  obtain ⟨T1, X1, e1, st1⟩ := getF X0 hx hZ hown (host := "") (Or.inl (hw _ (own_mg (i := 135) rfl))) Via.refl e0 M0.2.2 (g := (mkF m 1 #[.val (.ref r0)] [(.ref r0)])) rfl rfl (hb hby d17_1)
  refine Onw.go st1 ?_
  show Onw p e below _ (T1.setTop (mkF m 4 #[.val (.ref r0)] [(.ref t)]))
  refine Onw.go (X1.arraylength hx (by rw [e1]; exact A0.1) (State.isArrayOf_alike hZ.alike A0.2.1) (g := (mkF m 4 #[.val (.ref r0)] [(.ref t)])) rfl rfl (hb hby d17_4)) ?_
  rw [len_of S0 Q0]
  show Onw p e below _ (T1.setTop (mkF m 5 #[.val (.ref r0)] [(.int (Int32.ofNat ss.length))]))
  refine Onw.go (fun _ kt => XS.aloadN X1.here hx rfl (hb hby d17_5) rfl rfl kt) ?_
  show Onw p e below _ (T1.setTop (mkF m 6 #[.val (.ref r0)] [(.ref r0), (.int (Int32.ofNat ss.length))]))
  obtain ⟨cq2, kq2, q2a, q2b, q2c⟩ := isOf hZ e1 M0.1
  obtain ⟨_, _, ⟨T2, L2, k2, n2⟩, -, X2, ⟨Lc2, hQ2, l2, y2, z2⟩, st2⟩ := X1.virtualBack hx (y := (⟨"java/lang/String", "coder", "()B"⟩ : MethodName)) (z := (⟨"java/lang/String", "coder", "()B"⟩ : MethodName)) hown (mvT hZ (hw _ (own_mg (i := 136) rfl))) (mvT hZ (hw _ (own_mg (i := 137) rfl))) (notFace_of_selects (args := #[]) (mvT hZ (hw _ (own_mg (i := 139) rfl)))) (mvT hZ (hw _ (own_mg (i := 139) rfl))) (mvT hZ (hw _ (own_mg (i := 138) rfl))) (by decide) (backOf (W := 1) (rm18 l Z a0 hw [] r0 zc t h0 n0 M0 S_C hz) hZ (hw _ (own_mg (i := 140) rfl)) (hw _ (own_mg (i := 40) rfl)) (by decide) (by decide)) q2a q2c (g := (mkF m 6 #[.val (.ref r0)] [(.ref r0), (.int (Int32.ofNat ss.length))])) rfl (by rw [hml]; rfl) (Steps.refl _) (argsL := []) (rest := [(.int (Int32.ofNat ss.length))]) (lenOf pd_14 rfl) rfl (by show 2 * 0 + _ ≤ _; exact Nat.le_of_eq rfl) (hb hby d17_6) (fun _ _ => ⟨rfl, e1, (by decide : 0 + 0 ≤ _), (by decide : 0 + 0 ≤ _)⟩)
  dsimp only [Pt.U, Pt.locs, Pt.cells, Pt.slots] at X2 l2 y2 z2 st2 hQ2
  subst l2 y2 z2
  obtain ⟨rfl, N2q, e2q⟩ := hQ2
  have N2 := Fr.app N0 N2q
  refine Onw.go (fun _ kt => st2.trans kt) ?_
  show Onw p e below _ (T2.setTop (mkF m 9 #[.val (.ref r0)] [(.int (0 : Int32)), (.int (Int32.ofNat ss.length))]))
  refine Onw.go (fun _ kt => XS.ishr X2.here hx rfl (hb hby d17_9) rfl kt) ?_
  show Onw p e below _ (T2.setTop (mkF m 10 #[.val (.ref r0)] [(.int ((Int32.ofNat ss.length) >>> ((0 : Int32) &&& 31)))]))
  rw [(own_shr0 _ : ((Int32.ofNat ss.length) >>> ((0 : Int32) &&& 31)) = (Int32.ofNat ss.length))]
  show Onw p e below _ (T2.setTop (mkF m 10 #[.val (.ref r0)] [(.int (Int32.ofNat ss.length))]))
  exact Onw.ret X2 Bd.notSynchronized (fun h => by rw [Bd.returns] at h; cases h) (fun fs hr => retI X2 hx Bd.returns (hb hby d17_10) hr) ⟨rfl, N2, e2q⟩ (by decide) (by decide)
theorem ef_20 (m : MethodId) (x0 : Addr) (x1 : Addr) : entryFrame m #[(.ref x0), (.ref x1)] 2 = mkF m 0 #[.val (.ref x0), .val (.ref x1)] [] := by first | (simp [entryFrame, mkF, argsToLocals, Value.category]; done) | rfl
def Q_rm20 (Z : State) (r0 : Addr) (r1 : Addr) (zc : Int32) (t : Addr) (v1 v3 : Value) (h0 : Heap) (n0 : Nat) (v : Option Value) (h : Heap) (L : List Loc) : Prop := v = none ∧ Fr n0 L ∧ h = h0
theorem d20_0 : decode jdk_68_method_71_code 0 = .ok (.getstatic 18, 3) := by decide +kernel
theorem d20_3 : decode jdk_68_method_71_code 3 = .ok (.ifCond .eq 18, 3) := by decide +kernel
theorem d20_6 : decode jdk_68_method_71_code 6 = .ok (.aload_n 0, 1) := by decide +kernel
theorem d20_7 : decode jdk_68_method_71_code 7 = .ok (.getfield 22, 3) := by decide +kernel
theorem d20_10 : decode jdk_68_method_71_code 10 = .ok (.aload_n 1, 1) := by decide +kernel
theorem d20_11 : decode jdk_68_method_71_code 11 = .ok (.invokevirtual 40, 3) := by decide +kernel
theorem d20_14 : decode jdk_68_method_71_code 14 = .ok (.if_icmp .eq 7, 3) := by decide +kernel
theorem d20_21 : decode jdk_68_method_71_code 21 = .ok (.return_, 1) := by decide +kernel
set_option maxRecDepth 65536 in
set_option maxHeartbeats 40000000 in
theorem rm20 (l : Launch) (Z : State) (a0 : Array Value) (hw : ∀ d ∈ tables_1, d.before a0 Z = true) (ws : List Jvm.Cond) (r0 : Addr) (r1 : Addr) (zc : Int32) (t : Addr) (v1 v3 : Value) (h0 : Heap) (n0 : Nat) (M0 : own_SB Z h0 r0 v1 (.int (0 : Int32)) v3) (M1 : own_ST Z h0 r1 t) (S_C : Sta Z h0 "java/lang/String" "COMPACT_STRINGS" "Z" (.int zc)) (hz : ¬ zc = 0) :
    MetFree l (⟨"java/lang/AbstractStringBuilder", "inflateIfNeededFor", "(Ljava/lang/String;)V"⟩ : MethodName) (head1 (Jvm.Cond.code (⟨"java/lang/AbstractStringBuilder", "inflateIfNeededFor", "(Ljava/lang/String;)V"⟩ : MethodName) jdk_68_method_71_code 2 none :: ws) ({ frames := 1, cells := 0, slots := 0, locals := 13 } : Room)) (fun a U => a = #[(.ref r0), (.ref r1)] ∧ Z.Warmed39 U.vm ∧ U.heap = h0) (fun _ _ _ _ _ => True) (fun _ U o U' => ∃ v L, o = .returned v ∧ Q_rm20 Z r0 r1 zc t v1 v3 h0 n0 v U'.heap L ∧ FrameEnd U o U' L ({ frames := 1, cells := 0, slots := 0, locals := 13 } : Room).cells ({ frames := 1, cells := 0, slots := 0, locals := 13 } : Room).slots) := by
  refine MetFree.of_bodySF (plainFor_of_name pn_3) hisR ?_
  intro p e s m args below meth c s₁ Bd hml0 hP hK
  obtain ⟨rfl, hZ, hh⟩ := hP
  have hx := Bd.exec
  have hby := Bd.bytes
  have hml : c.maxLocals = 2 := hml0
  have hown : s.vm.findClass "java/lang/AbstractStringBuilder" = some m.cls := findClass_of_methodNamed Bd.named
  have hnm := (name_of_methodNamed Bd.named Bd.method).1
  have X0 : Stand p l e ({ frames := 1, cells := 0, slots := 0, locals := 13 } : Room) s m #[(.ref r0), (.ref r1)] below meth c s₁ [] 0 0 := Stand.of_body Bd
  have e0 : s₁.heap = h0 := by rw [← hh, Bd.state]; rfl
  have N0 := Fr.nil n0
  refine Onw.of (Onw.go (fun _ k => castTop (ef_20 m r0 r1) k) ?_)
  show Onw p e below _ (s₁.setTop (mkF m 0 #[.val (.ref r0), .val (.ref r1)] []))
  obtain ⟨T1, X1, e1, st1⟩ := getS2 X0 hx hZ hown (host := "") (Or.inl (hw _ (own_mg (i := 81) rfl))) Via.refl e0 S_C (g := (mkF m 0 #[.val (.ref r0), .val (.ref r1)] [])) rfl (hb hby d20_0)
  refine Onw.go st1 ?_
  show Onw p e below _ (T1.setTop (mkF m 3 #[.val (.ref r0), .val (.ref r1)] [(.int zc)]))
  refine Onw.go (fun _ kt => XS.ifNo X1.here hx rfl (hb hby d20_3) rfl ((if0 _ _).trans (feq (hz : ¬ (zc = (0 : Int32)))).1) kt) ?_
  show Onw p e below _ (T1.setTop (mkF m 6 #[.val (.ref r0), .val (.ref r1)] []))
  refine Onw.go (fun _ kt => XS.aloadN X1.here hx rfl (hb hby d20_6) rfl rfl kt) ?_
  show Onw p e below _ (T1.setTop (mkF m 7 #[.val (.ref r0), .val (.ref r1)] [(.ref r0)]))
  obtain ⟨T2, X2, e2, st2⟩ := getF X1 hx hZ hown (host := "") (Or.inl (hw _ (own_mg (i := 84) rfl))) Via.refl e1 M0.2.2.1 (g := (mkF m 7 #[.val (.ref r0), .val (.ref r1)] [(.ref r0)])) rfl rfl (hb hby d20_7)
  refine Onw.go st2 ?_
  show Onw p e below _ (T2.setTop (mkF m 10 #[.val (.ref r0), .val (.ref r1)] [(.int (0 : Int32))]))
  refine Onw.go (fun _ kt => XS.aloadN X2.here hx rfl (hb hby d20_10) rfl rfl kt) ?_
  show Onw p e below _ (T2.setTop (mkF m 11 #[.val (.ref r0), .val (.ref r1)] [(.ref r1), (.int (0 : Int32))]))
  obtain ⟨cq3, kq3, q3a, q3b, q3c⟩ := isOf hZ e2 M1.1
  obtain ⟨_, _, ⟨T3, L3, k3, n3⟩, -, X3, ⟨Lc3, hQ3, l3, y3, z3⟩, st3⟩ := X2.virtualBack hx (y := (⟨"java/lang/String", "coder", "()B"⟩ : MethodName)) (z := (⟨"java/lang/String", "coder", "()B"⟩ : MethodName)) hown (mvT hZ (hw _ (own_mg (i := 153) rfl))) (mvT hZ (hw _ (own_mg (i := 137) rfl))) (notFace_of_selects (args := #[]) (mvT hZ (hw _ (own_mg (i := 139) rfl)))) (mvT hZ (hw _ (own_mg (i := 139) rfl))) (mvT hZ (hw _ (own_mg (i := 138) rfl))) (by decide) (backOf (W := 1) (rm18 l Z a0 hw [] r1 zc t h0 n0 M1 S_C hz) hZ (hw _ (own_mg (i := 140) rfl)) (hw _ (own_mg (i := 40) rfl)) (by decide) (by decide)) q3a q3c (g := (mkF m 11 #[.val (.ref r0), .val (.ref r1)] [(.ref r1), (.int (0 : Int32))])) rfl (by rw [hml]; rfl) (Steps.refl _) (argsL := []) (rest := [(.int (0 : Int32))]) (lenOf pd_14 rfl) rfl (by show 2 * 0 + _ ≤ _; exact Nat.le_of_eq rfl) (hb hby d20_11) (fun _ _ => ⟨rfl, e2, (by decide : 0 + 0 ≤ _), (by decide : 0 + 0 ≤ _)⟩)
  dsimp only [Pt.U, Pt.locs, Pt.cells, Pt.slots] at X3 l3 y3 z3 st3 hQ3
  subst l3 y3 z3
  obtain ⟨rfl, N3q, e3q⟩ := hQ3
  have N3 := Fr.app N0 N3q
  refine Onw.go (fun _ kt => st3.trans kt) ?_
  show Onw p e below _ (T3.setTop (mkF m 14 #[.val (.ref r0), .val (.ref r1)] [(.int (0 : Int32)), (.int (0 : Int32))]))
  refine Onw.go (fun _ kt => XS.icmpYes X3.here hx rfl (pc0 := 14) (pc' := 21) rfl (hb hby d20_14) rfl (teq (rfl : (0 : Int32) = (0 : Int32))).1 (by decide) (by decide) kt) ?_
  show Onw p e below _ (T3.setTop (mkF m 21 #[.val (.ref r0), .val (.ref r1)] []))
  exact Onw.ret X3 Bd.notSynchronized (fun _ => rfl) (fun fs hr => X3.returnOut hx Bd.returns (hb hby d20_21) hr) ⟨rfl, N3, e3q⟩ (by decide) (by decide)
theorem ef_21 (m : MethodId) (x0 : Addr) (x1 : Addr) (x2 : Int32) (x3 : Int32) : entryFrame m #[(.ref x0), (.ref x1), (.int x2), (.int x3)] 4 = mkF m 0 #[.val (.ref x0), .val (.ref x1), .val (.int x2), .val (.int x3)] [] := by first | (simp [entryFrame, mkF, argsToLocals, Value.category]; done) | rfl
def Q_rm21 (Z : State) (r0 : Addr) (r1 : Addr) (p2 : Int32) (p3 : Int32) (zc : Int32) (t : Addr) (kt kb : ClassId) (ss ys : List Int32) (d : Nat) (h0 : Heap) (n0 : Nat) (v : Option Value) (h : Heap) (L : List Loc) : Prop := v = none ∧ Fr n0 L ∧ Keep h0 h [r1] ∧ Arv Z h r1 kb .byte (Int32.ofNat ((ys.take d ++ ss ++ ys.drop (d + ss.length))).length) (((ys.take d ++ ss ++ ys.drop (d + ss.length))).map Value.int) (.int (0 : Int32))
theorem d21_0 : decode jdk_42_method_147_code 0 = .ok (.aload_n 0, 1) := by decide +kernel
theorem d21_1 : decode jdk_42_method_147_code 1 = .ok (.invokevirtual 335, 3) := by decide +kernel
theorem d21_4 : decode jdk_42_method_147_code 4 = .ok (.iload_n 3, 1) := by decide +kernel
theorem d21_5 : decode jdk_42_method_147_code 5 = .ok (.if_icmp .ne 23, 3) := by decide +kernel
theorem d21_8 : decode jdk_42_method_147_code 8 = .ok (.aload_n 0, 1) := by decide +kernel
theorem d21_9 : decode jdk_42_method_147_code 9 = .ok (.getfield 9, 3) := by decide +kernel
theorem d21_12 : decode jdk_42_method_147_code 12 = .ok (.iconst 0, 1) := by decide +kernel
theorem d21_13 : decode jdk_42_method_147_code 13 = .ok (.aload_n 1, 1) := by decide +kernel
theorem d21_14 : decode jdk_42_method_147_code 14 = .ok (.iload_n 2, 1) := by decide +kernel
theorem d21_15 : decode jdk_42_method_147_code 15 = .ok (.iload_n 3, 1) := by decide +kernel
theorem d21_16 : decode jdk_42_method_147_code 16 = .ok (.ishl, 1) := by decide +kernel
theorem d21_17 : decode jdk_42_method_147_code 17 = .ok (.aload_n 0, 1) := by decide +kernel
theorem d21_18 : decode jdk_42_method_147_code 18 = .ok (.getfield 9, 3) := by decide +kernel
theorem d21_21 : decode jdk_42_method_147_code 21 = .ok (.arraylength, 1) := by decide +kernel
theorem d21_22 : decode jdk_42_method_147_code 22 = .ok (.invokestatic 212, 3) := by decide +kernel
theorem d21_25 : decode jdk_42_method_147_code 25 = .ok (.goto 18, 3) := by decide +kernel
theorem d21_43 : decode jdk_42_method_147_code 43 = .ok (.return_, 1) := by decide +kernel
set_option maxRecDepth 65536 in
set_option maxHeartbeats 40000000 in
theorem rm21 (l : Launch) (Z : State) (a0 : Array Value) (hw : ∀ d ∈ tables_1, d.before a0 Z = true) (ws : List Jvm.Cond) (r0 : Addr) (r1 : Addr) (p2 : Int32) (p3 : Int32) (zc : Int32) (t : Addr) (kt kb : ClassId) (ss ys : List Int32) (d : Nat) (h0 : Heap) (n0 : Nat) (M0 : own_ST Z h0 r0 t) (V0 : Arv Z h0 t kt .byte (Int32.ofNat (ss).length) ((ss).map Value.int) (.int (0 : Int32))) (V1 : Arv Z h0 r1 kb .byte (Int32.ofNat (ys).length) ((ys).map Value.int) (.int (0 : Int32))) (S_C : Sta Z h0 "java/lang/String" "COMPACT_STRINGS" "Z" (.int zc)) (hz : ¬ zc = 0) (h3 : p3 = 0) (h2 : p2 = Int32.ofNat d) (ls : ss.length ≤ 1000) (ly : ys.length ≤ 1000) (hd : d + ss.length ≤ ys.length) (g_b : n0 ≤ r1) :
    MetFree l (⟨"java/lang/String", "getBytes", "([BIB)V"⟩ : MethodName) (head1 (Jvm.Cond.code (⟨"java/lang/String", "getBytes", "([BIB)V"⟩ : MethodName) jdk_42_method_147_code 4 none :: ws) ({ frames := 1, cells := 0, slots := 0, locals := 18 } : Room)) (fun a U => a = #[(.ref r0), (.ref r1), (.int p2), (.int p3)] ∧ Z.Warmed39 U.vm ∧ U.heap = h0) (fun _ _ _ _ _ => True) (fun _ U o U' => ∃ v L, o = .returned v ∧ Q_rm21 Z r0 r1 p2 p3 zc t kt kb ss ys d h0 n0 v U'.heap L ∧ FrameEnd U o U' L ({ frames := 1, cells := 0, slots := 0, locals := 18 } : Room).cells ({ frames := 1, cells := 0, slots := 0, locals := 18 } : Room).slots) := by
  refine MetFree.of_bodySF (plainFor_of_name pn_8) hisR ?_
  intro p e s m args below meth c s₁ Bd hml0 hP hK
  obtain ⟨rfl, hZ, hh⟩ := hP
  have hx := Bd.exec
  have hby := Bd.bytes
  have hml : c.maxLocals = 4 := hml0
  have hown : s.vm.findClass "java/lang/String" = some m.cls := findClass_of_methodNamed Bd.named
  have hnm := (name_of_methodNamed Bd.named Bd.method).1
  have X0 : Stand p l e ({ frames := 1, cells := 0, slots := 0, locals := 18 } : Room) s m #[(.ref r0), (.ref r1), (.int p2), (.int p3)] below meth c s₁ [] 0 0 := Stand.of_body Bd
  have e0 : s₁.heap = h0 := by rw [← hh, Bd.state]; rfl
  have N0 := Fr.nil n0
  refine Onw.of (Onw.go (fun _ k => castTop (ef_21 m r0 r1 p2 p3) k) ?_)
  show Onw p e below _ (s₁.setTop (mkF m 0 #[.val (.ref r0), .val (.ref r1), .val (.int p2), .val (.int p3)] []))
  subst h3 h2
  show Onw p e below _ (s₁.setTop (mkF m 0 #[.val (.ref r0), .val (.ref r1), .val (.int (Int32.ofNat d)), .val (.int (0 : Int32))] []))
  obtain ⟨c0, A0, qa0, S0, Q0, H0, G0⟩ := id V0
  refine Onw.go (fun _ kt => XS.aloadN X0.here hx rfl (hb hby d21_0) rfl rfl kt) ?_
  show Onw p e below _ (s₁.setTop (mkF m 1 #[.val (.ref r0), .val (.ref r1), .val (.int (Int32.ofNat d)), .val (.int (0 : Int32))] [(.ref r0)]))
  obtain ⟨cq1, kq1, q1a, q1b, q1c⟩ := isOf hZ e0 M0.1
  obtain ⟨_, _, ⟨T1, L1, k1, n1⟩, -, X1, ⟨Lc1, hQ1, l1, y1, z1⟩, st1⟩ := X0.virtualBack hx (y := (⟨"java/lang/String", "coder", "()B"⟩ : MethodName)) (z := (⟨"java/lang/String", "coder", "()B"⟩ : MethodName)) hown (mvT hZ (hw _ (own_mg (i := 136) rfl))) (mvT hZ (hw _ (own_mg (i := 137) rfl))) (notFace_of_selects (args := #[]) (mvT hZ (hw _ (own_mg (i := 139) rfl)))) (mvT hZ (hw _ (own_mg (i := 139) rfl))) (mvT hZ (hw _ (own_mg (i := 138) rfl))) (by decide) (backOf (W := 0) (rm18 l Z a0 hw [] r0 zc t h0 n0 M0 S_C hz) hZ (hw _ (own_mg (i := 140) rfl)) (hw _ (own_mg (i := 40) rfl)) (by decide) (by decide)) q1a q1c (g := (mkF m 1 #[.val (.ref r0), .val (.ref r1), .val (.int (Int32.ofNat d)), .val (.int (0 : Int32))] [(.ref r0)])) rfl (by rw [hml]; rfl) (Steps.refl _) (argsL := []) (rest := []) (lenOf pd_14 rfl) rfl (by show 2 * 0 + _ ≤ _; exact Nat.le_of_eq rfl) (hb hby d21_1) (fun _ _ => ⟨rfl, e0, (by decide : 0 + 0 ≤ _), (by decide : 0 + 0 ≤ _)⟩)
  dsimp only [Pt.U, Pt.locs, Pt.cells, Pt.slots] at X1 l1 y1 z1 st1 hQ1
  subst l1 y1 z1
  obtain ⟨rfl, N1q, e1q⟩ := hQ1
  have N1 := Fr.app N0 N1q
  refine Onw.go (fun _ kt => st1.trans kt) ?_
  show Onw p e below _ (T1.setTop (mkF m 4 #[.val (.ref r0), .val (.ref r1), .val (.int (Int32.ofNat d)), .val (.int (0 : Int32))] [(.int (0 : Int32))]))
  refine Onw.go (fun _ kt => XS.iloadN X1.here hx rfl (hb hby d21_4) rfl kt) ?_
  show Onw p e below _ (T1.setTop (mkF m 5 #[.val (.ref r0), .val (.ref r1), .val (.int (Int32.ofNat d)), .val (.int (0 : Int32))] [(.int (0 : Int32)), (.int (0 : Int32))]))
  refine Onw.go (fun _ kt => XS.icmpNo X1.here hx rfl (hb hby d21_5) rfl (teq (rfl : (0 : Int32) = (0 : Int32))).2 kt) ?_
  show Onw p e below _ (T1.setTop (mkF m 8 #[.val (.ref r0), .val (.ref r1), .val (.int (Int32.ofNat d)), .val (.int (0 : Int32))] []))
  refine Onw.go (fun _ kt => XS.aloadN X1.here hx rfl (hb hby d21_8) rfl rfl kt) ?_
  show Onw p e below _ (T1.setTop (mkF m 9 #[.val (.ref r0), .val (.ref r1), .val (.int (Int32.ofNat d)), .val (.int (0 : Int32))] [(.ref r0)]))
  obtain ⟨T2, X2, e2, st2⟩ := getF X1 hx hZ hown (host := "") (Or.inl (hw _ (own_mg (i := 135) rfl))) Via.refl e1q M0.2.2 (g := (mkF m 9 #[.val (.ref r0), .val (.ref r1), .val (.int (Int32.ofNat d)), .val (.int (0 : Int32))] [(.ref r0)])) rfl rfl (hb hby d21_9)
  refine Onw.go st2 ?_
  show Onw p e below _ (T2.setTop (mkF m 12 #[.val (.ref r0), .val (.ref r1), .val (.int (Int32.ofNat d)), .val (.int (0 : Int32))] [(.ref t)]))
  refine Onw.go (fun _ kt => XS.iconst X2.here hx rfl (hb hby d21_12) kt) ?_
  show Onw p e below _ (T2.setTop (mkF m 13 #[.val (.ref r0), .val (.ref r1), .val (.int (Int32.ofNat d)), .val (.int (0 : Int32))] [(.int (0 : Int32)), (.ref t)]))
  refine Onw.go (fun _ kt => XS.aloadN X2.here hx rfl (hb hby d21_13) rfl rfl kt) ?_
  show Onw p e below _ (T2.setTop (mkF m 14 #[.val (.ref r0), .val (.ref r1), .val (.int (Int32.ofNat d)), .val (.int (0 : Int32))] [(.ref r1), (.int (0 : Int32)), (.ref t)]))
  refine Onw.go (fun _ kt => XS.iloadN X2.here hx rfl (hb hby d21_14) rfl kt) ?_
  show Onw p e below _ (T2.setTop (mkF m 15 #[.val (.ref r0), .val (.ref r1), .val (.int (Int32.ofNat d)), .val (.int (0 : Int32))] [(.int (Int32.ofNat d)), (.ref r1), (.int (0 : Int32)), (.ref t)]))
  refine Onw.go (fun _ kt => XS.iloadN X2.here hx rfl (hb hby d21_15) rfl kt) ?_
  show Onw p e below _ (T2.setTop (mkF m 16 #[.val (.ref r0), .val (.ref r1), .val (.int (Int32.ofNat d)), .val (.int (0 : Int32))] [(.int (0 : Int32)), (.int (Int32.ofNat d)), (.ref r1), (.int (0 : Int32)), (.ref t)]))
  refine Onw.go (fun _ kt => XS.ishl X2.here hx rfl (hb hby d21_16) rfl kt) ?_
  show Onw p e below _ (T2.setTop (mkF m 17 #[.val (.ref r0), .val (.ref r1), .val (.int (Int32.ofNat d)), .val (.int (0 : Int32))] [(.int ((Int32.ofNat d) <<< ((0 : Int32) &&& 31))), (.ref r1), (.int (0 : Int32)), (.ref t)]))
  rw [(own_shl0 _ : ((Int32.ofNat d) <<< ((0 : Int32) &&& 31)) = (Int32.ofNat d))]
  show Onw p e below _ (T2.setTop (mkF m 17 #[.val (.ref r0), .val (.ref r1), .val (.int (Int32.ofNat d)), .val (.int (0 : Int32))] [(.int (Int32.ofNat d)), (.ref r1), (.int (0 : Int32)), (.ref t)]))
  refine Onw.go (fun _ kt => XS.aloadN X2.here hx rfl (hb hby d21_17) rfl rfl kt) ?_
  show Onw p e below _ (T2.setTop (mkF m 18 #[.val (.ref r0), .val (.ref r1), .val (.int (Int32.ofNat d)), .val (.int (0 : Int32))] [(.ref r0), (.int (Int32.ofNat d)), (.ref r1), (.int (0 : Int32)), (.ref t)]))
  obtain ⟨T3, X3, e3, st3⟩ := getF X2 hx hZ hown (host := "") (Or.inl (hw _ (own_mg (i := 135) rfl))) Via.refl e2 M0.2.2 (g := (mkF m 18 #[.val (.ref r0), .val (.ref r1), .val (.int (Int32.ofNat d)), .val (.int (0 : Int32))] [(.ref r0), (.int (Int32.ofNat d)), (.ref r1), (.int (0 : Int32)), (.ref t)])) rfl rfl (hb hby d21_18)
  refine Onw.go st3 ?_
  show Onw p e below _ (T3.setTop (mkF m 21 #[.val (.ref r0), .val (.ref r1), .val (.int (Int32.ofNat d)), .val (.int (0 : Int32))] [(.ref t), (.int (Int32.ofNat d)), (.ref r1), (.int (0 : Int32)), (.ref t)]))
  refine Onw.go (X3.arraylength hx (by rw [e3]; exact A0.1) (State.isArrayOf_alike hZ.alike A0.2.1) (g := (mkF m 21 #[.val (.ref r0), .val (.ref r1), .val (.int (Int32.ofNat d)), .val (.int (0 : Int32))] [(.ref t), (.int (Int32.ofNat d)), (.ref r1), (.int (0 : Int32)), (.ref t)])) rfl rfl (hb hby d21_21)) ?_
  rw [len_of S0 Q0]
  show Onw p e below _ (T3.setTop (mkF m 22 #[.val (.ref r0), .val (.ref r1), .val (.int (Int32.ofNat d)), .val (.int (0 : Int32))] [(.int (Int32.ofNat ss.length)), (.int (Int32.ofNat d)), (.ref r1), (.int (0 : Int32)), (.ref t)]))
  obtain ⟨T4, h4, L4, X4, e4, N4, K4, V4, st4⟩ := own_cpB (zs := (ys.take d ++ ss ++ ys.drop (d + ss.length))) (d := d) (n := ss.length) X3 hx hZ hown (hw _ (own_mg (i := 159) rfl)) (hw _ (own_mg (i := 162) rfl)) (hw _ (own_mg (i := 160) rfl)) (hw _ (own_mg (i := 161) rfl)) e3 V0 V1 rfl rfl rfl ls ly (Nat.le_refl _) hd (by rw [List.take_length]) N1 g_b (g := (mkF m 22 #[.val (.ref r0), .val (.ref r1), .val (.int (Int32.ofNat d)), .val (.int (0 : Int32))] [(.int (Int32.ofNat ss.length)), (.int (Int32.ofNat d)), (.ref r1), (.int (0 : Int32)), (.ref t)])) rfl (by rw [hml]; rfl) rfl (hb hby d21_22) (by decide) (W := 0) (by show 2 * 0 + _ ≤ _; exact Nat.le_of_eq rfl) (by decide)
  refine Onw.go st4 ?_
  show Onw p e below _ (T4.setTop (mkF m 25 #[.val (.ref r0), .val (.ref r1), .val (.int (Int32.ofNat d)), .val (.int (0 : Int32))] []))
  refine Onw.go (fun _ kt => XS.goto X4.here hx rfl (pc0 := 25) (pc' := 43) rfl (hb hby d21_25) (by decide) (by decide) kt) ?_
  show Onw p e below _ (T4.setTop (mkF m 43 #[.val (.ref r0), .val (.ref r1), .val (.int (Int32.ofNat d)), .val (.int (0 : Int32))] []))
  exact Onw.ret X4 Bd.notSynchronized (fun _ => rfl) (fun fs hr => X4.returnOut hx Bd.returns (hb hby d21_43) hr) ⟨rfl, N4, by rw [e4]; exact K4, by rw [e4]; exact V4⟩ (by decide) (by decide)
theorem ef_19 (m : MethodId) (x0 : Addr) (x1 : Int32) (x2 : Addr) : entryFrame m #[(.ref x0), (.int x1), (.ref x2)] 3 = mkF m 0 #[.val (.ref x0), .val (.int x1), .val (.ref x2)] [] := by first | (simp [entryFrame, mkF, argsToLocals, Value.category]; done) | rfl
def Q_rm19 (Z : State) (r0 : Addr) (p1 : Int32) (r2 : Addr) (zc : Int32) (t v2 : Addr) (v3 : Value) (kt kb : ClassId) (ss ys : List Int32) (d : Nat) (h0 : Heap) (n0 : Nat) (v : Option Value) (h : Heap) (L : List Loc) : Prop := v = none ∧ Fr n0 L ∧ Keep h0 h [v2] ∧ Arv Z h v2 kb .byte (Int32.ofNat ((ys.take d ++ ss ++ ys.drop (d + ss.length))).length) (((ys.take d ++ ss ++ ys.drop (d + ss.length))).map Value.int) (.int (0 : Int32))
theorem d19_0 : decode jdk_68_method_73_code 0 = .ok (.aload_n 0, 1) := by decide +kernel
theorem d19_1 : decode jdk_68_method_73_code 1 = .ok (.aload_n 2, 1) := by decide +kernel
theorem d19_2 : decode jdk_68_method_73_code 2 = .ok (.invokevirtual 397, 3) := by decide +kernel
theorem d19_5 : decode jdk_68_method_73_code 5 = .ok (.aload_n 2, 1) := by decide +kernel
theorem d19_6 : decode jdk_68_method_73_code 6 = .ok (.aload_n 0, 1) := by decide +kernel
theorem d19_7 : decode jdk_68_method_73_code 7 = .ok (.getfield 15, 3) := by decide +kernel
theorem d19_10 : decode jdk_68_method_73_code 10 = .ok (.iload_n 1, 1) := by decide +kernel
theorem d19_11 : decode jdk_68_method_73_code 11 = .ok (.aload_n 0, 1) := by decide +kernel
theorem d19_12 : decode jdk_68_method_73_code 12 = .ok (.getfield 22, 3) := by decide +kernel
theorem d19_15 : decode jdk_68_method_73_code 15 = .ok (.invokevirtual 399, 3) := by decide +kernel
theorem d19_18 : decode jdk_68_method_73_code 18 = .ok (.return_, 1) := by decide +kernel
set_option maxRecDepth 65536 in
set_option maxHeartbeats 40000000 in
theorem rm19 (l : Launch) (Z : State) (a0 : Array Value) (hw : ∀ d ∈ tables_1, d.before a0 Z = true) (ws : List Jvm.Cond) (r0 : Addr) (p1 : Int32) (r2 : Addr) (zc : Int32) (t v2 : Addr) (v3 : Value) (kt kb : ClassId) (ss ys : List Int32) (d : Nat) (h0 : Heap) (n0 : Nat) (MB : own_SB Z h0 r0 (.ref v2) (.int (0 : Int32)) v3) (M0 : own_ST Z h0 r2 t) (V0 : Arv Z h0 t kt .byte (Int32.ofNat (ss).length) ((ss).map Value.int) (.int (0 : Int32))) (V1 : Arv Z h0 v2 kb .byte (Int32.ofNat (ys).length) ((ys).map Value.int) (.int (0 : Int32))) (S_C : Sta Z h0 "java/lang/String" "COMPACT_STRINGS" "Z" (.int zc)) (hz : ¬ zc = 0) (h2 : p1 = Int32.ofNat d) (ls : ss.length ≤ 1000) (ly : ys.length ≤ 1000) (hd : d + ss.length ≤ ys.length) (g_b : n0 ≤ v2) :
    MetFree l (⟨"java/lang/AbstractStringBuilder", "putStringAt", "(ILjava/lang/String;)V"⟩ : MethodName) (head1 (Jvm.Cond.code (⟨"java/lang/AbstractStringBuilder", "putStringAt", "(ILjava/lang/String;)V"⟩ : MethodName) jdk_68_method_73_code 3 none :: ws) ({ frames := 2, cells := 0, slots := 0, locals := 33 } : Room)) (fun a U => a = #[(.ref r0), (.int p1), (.ref r2)] ∧ Z.Warmed39 U.vm ∧ U.heap = h0) (fun _ _ _ _ _ => True) (fun _ U o U' => ∃ v L, o = .returned v ∧ Q_rm19 Z r0 p1 r2 zc t v2 v3 kt kb ss ys d h0 n0 v U'.heap L ∧ FrameEnd U o U' L ({ frames := 2, cells := 0, slots := 0, locals := 33 } : Room).cells ({ frames := 2, cells := 0, slots := 0, locals := 33 } : Room).slots) := by
  refine MetFree.of_bodySF (plainFor_of_name pn_3) hisR ?_
  intro p e s m args below meth c s₁ Bd hml0 hP hK
  obtain ⟨rfl, hZ, hh⟩ := hP
  have hx := Bd.exec
  have hby := Bd.bytes
  have hml : c.maxLocals = 3 := hml0
  have hown : s.vm.findClass "java/lang/AbstractStringBuilder" = some m.cls := findClass_of_methodNamed Bd.named
  have hnm := (name_of_methodNamed Bd.named Bd.method).1
  have X0 : Stand p l e ({ frames := 2, cells := 0, slots := 0, locals := 33 } : Room) s m #[(.ref r0), (.int p1), (.ref r2)] below meth c s₁ [] 0 0 := Stand.of_body Bd
  have e0 : s₁.heap = h0 := by rw [← hh, Bd.state]; rfl
  have N0 := Fr.nil n0
  refine Onw.of (Onw.go (fun _ k => castTop (ef_19 m r0 p1 r2) k) ?_)
  show Onw p e below _ (s₁.setTop (mkF m 0 #[.val (.ref r0), .val (.int p1), .val (.ref r2)] []))
  refine Onw.go (fun _ kt => XS.aloadN X0.here hx rfl (hb hby d19_0) rfl rfl kt) ?_
  show Onw p e below _ (s₁.setTop (mkF m 1 #[.val (.ref r0), .val (.int p1), .val (.ref r2)] [(.ref r0)]))
  refine Onw.go (fun _ kt => XS.aloadN X0.here hx rfl (hb hby d19_1) rfl rfl kt) ?_
  show Onw p e below _ (s₁.setTop (mkF m 2 #[.val (.ref r0), .val (.int p1), .val (.ref r2)] [(.ref r2), (.ref r0)]))
  obtain ⟨cq1, kq1, q1a, -, -, q1c, -⟩ := MB.1
  obtain ⟨_, _, ⟨T1, L1, k1, n1⟩, -, X1, ⟨Lc1, hQ1, l1, y1, z1⟩, st1⟩ := X0.privateBack hx (y := (⟨"java/lang/AbstractStringBuilder", "inflateIfNeededFor", "(Ljava/lang/String;)V"⟩ : MethodName)) hown (mvT hZ (hw _ (own_mg (i := 148) rfl))) (mvT hZ (hw _ (own_mg (i := 149) rfl))) (own_self (z := (⟨"java/lang/AbstractStringBuilder", "isLatin1", "()Z"⟩ : MethodName)) (mvT hZ (hw _ (own_mg (i := 111) rfl))) (Cond.privateMethod_at (args := #[]) (mvT hZ (hw _ (own_mg (i := 150) rfl)))) (mvT hZ (hw _ (own_mg (i := 149) rfl))) rfl (by decide)) (Cond.privateMethod_at (args := #[]) (mvT hZ (hw _ (own_mg (i := 150) rfl)))) (mvT hZ (hw _ (own_mg (i := 152) rfl))) (by decide) (backOf (W := 0) (rm20 l Z a0 hw [] r0 r2 zc t (.ref v2) v3 h0 n0 MB M0 S_C hz) hZ (hw _ (own_mg (i := 152) rfl)) (hw _ (own_mg (i := 78) rfl)) (by decide) (by decide)) (g := (mkF m 2 #[.val (.ref r0), .val (.int p1), .val (.ref r2)] [(.ref r2), (.ref r0)])) rfl (by rw [hml]; rfl) (Steps.refl _) (a := r0) (cell := cq1) (by rw [e0]; exact q1a) (fun own_q own_e => by rw [own_e] at q1c; cases q1c) (argsL := [(.ref r2)]) (rest := []) (lenOf pd_16 rfl) rfl (by show 2 * 0 + _ ≤ _; exact Nat.le_of_eq rfl) (hb hby d19_2) (fun _ _ => ⟨rfl, e0, (by decide : 0 + 0 ≤ _), (by decide : 0 + 0 ≤ _)⟩)
  dsimp only [Pt.U, Pt.locs, Pt.cells, Pt.slots] at X1 l1 y1 z1 st1 hQ1
  subst l1 y1 z1
  obtain ⟨rfl, N1q, e1q⟩ := hQ1
  have N1 := Fr.app N0 N1q
  refine Onw.go (fun _ kt => st1.trans kt) ?_
  show Onw p e below _ (T1.setTop (mkF m 5 #[.val (.ref r0), .val (.int p1), .val (.ref r2)] []))
  refine Onw.go (fun _ kt => XS.aloadN X1.here hx rfl (hb hby d19_5) rfl rfl kt) ?_
  show Onw p e below _ (T1.setTop (mkF m 6 #[.val (.ref r0), .val (.int p1), .val (.ref r2)] [(.ref r2)]))
  refine Onw.go (fun _ kt => XS.aloadN X1.here hx rfl (hb hby d19_6) rfl rfl kt) ?_
  show Onw p e below _ (T1.setTop (mkF m 7 #[.val (.ref r0), .val (.int p1), .val (.ref r2)] [(.ref r0), (.ref r2)]))
  obtain ⟨T2, X2, e2, st2⟩ := getF X1 hx hZ hown (host := "") (Or.inl (hw _ (own_mg (i := 82) rfl))) Via.refl e1q MB.2.1 (g := (mkF m 7 #[.val (.ref r0), .val (.int p1), .val (.ref r2)] [(.ref r0), (.ref r2)])) rfl rfl (hb hby d19_7)
  refine Onw.go st2 ?_
  show Onw p e below _ (T2.setTop (mkF m 10 #[.val (.ref r0), .val (.int p1), .val (.ref r2)] [(.ref v2), (.ref r2)]))
  refine Onw.go (fun _ kt => XS.iloadN X2.here hx rfl (hb hby d19_10) rfl kt) ?_
  show Onw p e below _ (T2.setTop (mkF m 11 #[.val (.ref r0), .val (.int p1), .val (.ref r2)] [(.int p1), (.ref v2), (.ref r2)]))
  refine Onw.go (fun _ kt => XS.aloadN X2.here hx rfl (hb hby d19_11) rfl rfl kt) ?_
  show Onw p e below _ (T2.setTop (mkF m 12 #[.val (.ref r0), .val (.int p1), .val (.ref r2)] [(.ref r0), (.int p1), (.ref v2), (.ref r2)]))
  obtain ⟨T3, X3, e3, st3⟩ := getF X2 hx hZ hown (host := "") (Or.inl (hw _ (own_mg (i := 84) rfl))) Via.refl e2 MB.2.2.1 (g := (mkF m 12 #[.val (.ref r0), .val (.int p1), .val (.ref r2)] [(.ref r0), (.int p1), (.ref v2), (.ref r2)])) rfl rfl (hb hby d19_12)
  refine Onw.go st3 ?_
  show Onw p e below _ (T3.setTop (mkF m 15 #[.val (.ref r0), .val (.int p1), .val (.ref r2)] [(.int (0 : Int32)), (.int p1), (.ref v2), (.ref r2)]))
  obtain ⟨cq4, kq4, q4a, q4b, q4c⟩ := isOf hZ e3 M0.1
  obtain ⟨_, _, ⟨T4, L4, k4, n4⟩, -, X4, ⟨Lc4, hQ4, l4, y4, z4⟩, st4⟩ := X3.virtualBack hx (y := (⟨"java/lang/String", "getBytes", "([BIB)V"⟩ : MethodName)) (z := (⟨"java/lang/String", "getBytes", "([BIB)V"⟩ : MethodName)) hown (mvT hZ (hw _ (own_mg (i := 154) rfl))) (mvT hZ (hw _ (own_mg (i := 155) rfl))) (notFace_of_selects (args := #[]) (mvT hZ (hw _ (own_mg (i := 157) rfl)))) (mvT hZ (hw _ (own_mg (i := 157) rfl))) (mvT hZ (hw _ (own_mg (i := 156) rfl))) (by decide) (backOf (W := 0) (rm21 l Z a0 hw [] r2 v2 p1 (0 : Int32) zc t kt kb ss ys d h0 n0 M0 V0 V1 S_C hz rfl h2 ls ly hd g_b) hZ (hw _ (own_mg (i := 158) rfl)) (hw _ (own_mg (i := 40) rfl)) (by decide) (by decide)) q4a q4c (g := (mkF m 15 #[.val (.ref r0), .val (.int p1), .val (.ref r2)] [(.int (0 : Int32)), (.int p1), (.ref v2), (.ref r2)])) rfl (by rw [hml]; rfl) (Steps.refl _) (argsL := [(.ref v2), (.int p1), (.int (0 : Int32))]) (rest := []) (lenOf pd_17 rfl) rfl (by show 2 * 0 + _ ≤ _; exact Nat.le_of_eq rfl) (hb hby d19_15) (fun _ _ => ⟨rfl, e3, (by decide : 0 + 0 ≤ _), (by decide : 0 + 0 ≤ _)⟩)
  dsimp only [Pt.U, Pt.locs, Pt.cells, Pt.slots] at X4 l4 y4 z4 st4 hQ4
  subst l4 y4 z4
  obtain ⟨rfl, N4q, K4, V4⟩ := hQ4
  have N4 := Fr.app N1 N4q
  refine Onw.go (fun _ kt => st4.trans kt) ?_
  show Onw p e below _ (T4.setTop (mkF m 18 #[.val (.ref r0), .val (.int p1), .val (.ref r2)] []))
  exact Onw.ret X4 Bd.notSynchronized (fun _ => rfl) (fun fs hr => X4.returnOut hx Bd.returns (hb hby d19_18) hr) ⟨rfl, N4, K4, V4⟩ (by decide) (by decide)
theorem ef_16 (m : MethodId) (x0 : Addr) (x1 : Addr) : entryFrame m #[(.ref x0), (.ref x1)] 3 = mkF m 0 #[.val (.ref x0), .val (.ref x1), .unset] [] := by first | (simp [entryFrame, mkF, argsToLocals, Value.category]; done) | rfl
def Q_rm16 (Z : State) (r0 : Addr) (r1 : Addr) (zc : Int32) (t v1 : Addr) (k1 kt : ClassId) (xs ss : List Int32) (d : Nat) (h0 : Heap) (n0 : Nat) (v : Option Value) (h : Heap) (L : List Loc) : Prop := ∃ (v2 : Addr) (k2 : ClassId) (xs2 : List Int32), v = some (.ref r0) ∧ Fr n0 L ∧ Keep h0 h [r0, v1] ∧ n0 ≤ v2 ∧ v2 ≠ r0 ∧ own_SB Z h r0 (.ref v2) (.int (0 : Int32)) (.int (Int32.ofNat (d + ss.length))) ∧ Arv Z h v2 k2 .byte (Int32.ofNat (xs2).length) ((xs2).map Value.int) (.int (0 : Int32)) ∧ Exa Z h v2 "[B" ∧ (xs2.length = 16 ∨ xs2.length = 34) ∧ d + ss.length ≤ xs2.length ∧ xs2.take (d + ss.length) = xs.take d ++ ss
theorem d16_0 : decode jdk_68_method_22_code 0 = .ok (.aload_n 1, 1) := by decide +kernel
theorem d16_1 : decode jdk_68_method_22_code 1 = .ok (.ifnonnull 8, 3) := by decide +kernel
theorem d16_9 : decode jdk_68_method_22_code 9 = .ok (.aload_n 1, 1) := by decide +kernel
theorem d16_10 : decode jdk_68_method_22_code 10 = .ok (.invokevirtual 32, 3) := by decide +kernel
theorem d16_13 : decode jdk_68_method_22_code 13 = .ok (.istore_n 2, 1) := by decide +kernel
theorem d16_14 : decode jdk_68_method_22_code 14 = .ok (.aload_n 0, 1) := by decide +kernel
theorem d16_15 : decode jdk_68_method_22_code 15 = .ok (.aload_n 0, 1) := by decide +kernel
theorem d16_16 : decode jdk_68_method_22_code 16 = .ok (.getfield 79, 3) := by decide +kernel
theorem d16_19 : decode jdk_68_method_22_code 19 = .ok (.iload_n 2, 1) := by decide +kernel
theorem d16_20 : decode jdk_68_method_22_code 20 = .ok (.iadd, 1) := by decide +kernel
theorem d16_21 : decode jdk_68_method_22_code 21 = .ok (.invokevirtual 100, 3) := by decide +kernel
theorem d16_24 : decode jdk_68_method_22_code 24 = .ok (.aload_n 0, 1) := by decide +kernel
theorem d16_25 : decode jdk_68_method_22_code 25 = .ok (.aload_n 0, 1) := by decide +kernel
theorem d16_26 : decode jdk_68_method_22_code 26 = .ok (.getfield 79, 3) := by decide +kernel
theorem d16_29 : decode jdk_68_method_22_code 29 = .ok (.aload_n 1, 1) := by decide +kernel
theorem d16_30 : decode jdk_68_method_22_code 30 = .ok (.invokevirtual 208, 3) := by decide +kernel
theorem d16_33 : decode jdk_68_method_22_code 33 = .ok (.aload_n 0, 1) := by decide +kernel
theorem d16_34 : decode jdk_68_method_22_code 34 = .ok (.dup, 1) := by decide +kernel
theorem d16_35 : decode jdk_68_method_22_code 35 = .ok (.getfield 79, 3) := by decide +kernel
theorem d16_38 : decode jdk_68_method_22_code 38 = .ok (.iload_n 2, 1) := by decide +kernel
theorem d16_39 : decode jdk_68_method_22_code 39 = .ok (.iadd, 1) := by decide +kernel
theorem d16_40 : decode jdk_68_method_22_code 40 = .ok (.putfield 79, 3) := by decide +kernel
theorem d16_43 : decode jdk_68_method_22_code 43 = .ok (.aload_n 0, 1) := by decide +kernel
theorem d16_44 : decode jdk_68_method_22_code 44 = .ok (.areturn, 1) := by decide +kernel
set_option maxRecDepth 65536 in
set_option maxHeartbeats 40000000 in
theorem rm16 (l : Launch) (Z : State) (a0 : Array Value) (hw : ∀ d ∈ tables_1, d.before a0 Z = true) (ws : List Jvm.Cond) (r0 : Addr) (r1 : Addr) (zc : Int32) (t v1 : Addr) (k1 kt : ClassId) (xs ss : List Int32) (d : Nat) (h0 : Heap) (n0 : Nat) (MB : own_SB Z h0 r0 (.ref v1) (.int (0 : Int32)) (.int (Int32.ofNat d))) (V1 : Arv Z h0 v1 k1 .byte (Int32.ofNat (xs).length) ((xs).map Value.int) (.int (0 : Int32))) (EA : Exa Z h0 v1 "[B") (ne0 : v1 ≠ r0) (M0 : own_ST Z h0 r1 t) (V0 : Arv Z h0 t kt .byte (Int32.ofNat (ss).length) ((ss).map Value.int) (.int (0 : Int32))) (S_C : Sta Z h0 "java/lang/String" "COMPACT_STRINGS" "Z" (.int zc)) (hz : ¬ zc = 0) (hl : xs.length = 16 ∨ xs.length = 34) (hd : d ≤ xs.length) (hd2 : d ≤ 19) (hs2 : ss.length ≤ 2) (lr : r1 < n0) (lt : t < n0) (g_r0 : n0 ≤ r0) (g1 : n0 ≤ v1) (Z0 : n0 ≤ h0.size) :
    MetFree l (⟨"java/lang/AbstractStringBuilder", "append", "(Ljava/lang/String;)Ljava/lang/AbstractStringBuilder;"⟩ : MethodName) (head1 (Jvm.Cond.code (⟨"java/lang/AbstractStringBuilder", "append", "(Ljava/lang/String;)Ljava/lang/AbstractStringBuilder;"⟩ : MethodName) jdk_68_method_22_code 3 (some (.object "java/lang/AbstractStringBuilder")) :: ws) ({ frames := 4, cells := 1, slots := 34, locals := 62 } : Room)) (fun a U => a = #[(.ref r0), (.ref r1)] ∧ Z.Warmed39 U.vm ∧ U.heap = h0) (fun _ _ _ _ _ => True) (fun _ U o U' => ∃ v L, o = .returned v ∧ Q_rm16 Z r0 r1 zc t v1 k1 kt xs ss d h0 n0 v U'.heap L ∧ FrameEnd U o U' L ({ frames := 4, cells := 1, slots := 34, locals := 62 } : Room).cells ({ frames := 4, cells := 1, slots := 34, locals := 62 } : Room).slots) := by
  refine MetFree.of_bodySF (plainFor_of_name pn_3) hisR ?_
  intro p e s m args below meth c s₁ Bd hml0 hP hK
  obtain ⟨rfl, hZ, hh⟩ := hP
  have hx := Bd.exec
  have hby := Bd.bytes
  have hml : c.maxLocals = 3 := hml0
  have hown : s.vm.findClass "java/lang/AbstractStringBuilder" = some m.cls := findClass_of_methodNamed Bd.named
  have hnm := (name_of_methodNamed Bd.named Bd.method).1
  have X0 : Stand p l e ({ frames := 4, cells := 1, slots := 34, locals := 62 } : Room) s m #[(.ref r0), (.ref r1)] below meth c s₁ [] 0 0 := Stand.of_body Bd
  have e0 : s₁.heap = h0 := by rw [← hh, Bd.state]; rfl
  have N0 := Fr.nil n0
  refine Onw.of (Onw.go (fun _ k => castTop (ef_16 m r0 r1) k) ?_)
  show Onw p e below _ (s₁.setTop (mkF m 0 #[.val (.ref r0), .val (.ref r1), .unset] []))
  refine Onw.go (fun _ kt => XS.aloadN X0.here hx rfl (hb hby d16_0) rfl rfl kt) ?_
  show Onw p e below _ (s₁.setTop (mkF m 1 #[.val (.ref r0), .val (.ref r1), .unset] [(.ref r1)]))
  refine Onw.go (fun _ kt => XS.ifnonnullYes X0.here hx rfl (pc0 := 1) (pc' := 9) rfl (hb hby d16_1) rfl (by decide) (by decide) kt) ?_
  show Onw p e below _ (s₁.setTop (mkF m 9 #[.val (.ref r0), .val (.ref r1), .unset] []))
  refine Onw.go (fun _ kt => XS.aloadN X0.here hx rfl (hb hby d16_9) rfl rfl kt) ?_
  show Onw p e below _ (s₁.setTop (mkF m 10 #[.val (.ref r0), .val (.ref r1), .unset] [(.ref r1)]))
  obtain ⟨cq1, kq1, q1a, q1b, q1c⟩ := isOf hZ e0 M0.1
  obtain ⟨_, _, ⟨T1, L1, k1, n1⟩, -, X1, ⟨Lc1, hQ1, l1, y1, z1⟩, st1⟩ := X0.virtualBack hx (y := (⟨"java/lang/String", "length", "()I"⟩ : MethodName)) (z := (⟨"java/lang/String", "length", "()I"⟩ : MethodName)) hown (mvT hZ (hw _ (own_mg (i := 130) rfl))) (mvT hZ (hw _ (own_mg (i := 131) rfl))) (notFace_of_selects (args := #[]) (mvT hZ (hw _ (own_mg (i := 133) rfl)))) (mvT hZ (hw _ (own_mg (i := 133) rfl))) (mvT hZ (hw _ (own_mg (i := 132) rfl))) (by decide) (backOf (W := 0) (rm17 l Z a0 hw [] r1 zc t kt ss h0 n0 M0 V0 S_C hz) hZ (hw _ (own_mg (i := 134) rfl)) (hw _ (own_mg (i := 40) rfl)) (by decide) (by decide)) q1a q1c (g := (mkF m 10 #[.val (.ref r0), .val (.ref r1), .unset] [(.ref r1)])) rfl (by rw [hml]; rfl) (Steps.refl _) (argsL := []) (rest := []) (lenOf pd_13 rfl) rfl (by show 2 * 0 + _ ≤ _; exact Nat.le_of_eq rfl) (hb hby d16_10) (fun _ _ => ⟨rfl, e0, (by decide : 0 + 0 ≤ _), (by decide : 0 + 0 ≤ _)⟩)
  dsimp only [Pt.U, Pt.locs, Pt.cells, Pt.slots] at X1 l1 y1 z1 st1 hQ1
  subst l1 y1 z1
  obtain ⟨rfl, N1q, e1q⟩ := hQ1
  have N1 := Fr.app N0 N1q
  refine Onw.go (fun _ kt => st1.trans kt) ?_
  show Onw p e below _ (T1.setTop (mkF m 13 #[.val (.ref r0), .val (.ref r1), .unset] [(.int (Int32.ofNat ss.length))]))
  refine Onw.go (fun _ kt => XS.istoreN X1.here hx rfl (hb hby d16_13) rfl (l' := #[.val (.ref r0), .val (.ref r1), .val (.int (Int32.ofNat ss.length))]) rfl kt) ?_
  show Onw p e below _ (T1.setTop (mkF m 14 #[.val (.ref r0), .val (.ref r1), .val (.int (Int32.ofNat ss.length))] []))
  refine Onw.go (fun _ kt => XS.aloadN X1.here hx rfl (hb hby d16_14) rfl rfl kt) ?_
  show Onw p e below _ (T1.setTop (mkF m 15 #[.val (.ref r0), .val (.ref r1), .val (.int (Int32.ofNat ss.length))] [(.ref r0)]))
  refine Onw.go (fun _ kt => XS.aloadN X1.here hx rfl (hb hby d16_15) rfl rfl kt) ?_
  show Onw p e below _ (T1.setTop (mkF m 16 #[.val (.ref r0), .val (.ref r1), .val (.int (Int32.ofNat ss.length))] [(.ref r0), (.ref r0)]))
  obtain ⟨T2, X2, e2, st2⟩ := getF X1 hx hZ hown (host := "") (Or.inl (hw _ (own_mg (i := 96) rfl))) Via.refl e1q MB.2.2.2 (g := (mkF m 16 #[.val (.ref r0), .val (.ref r1), .val (.int (Int32.ofNat ss.length))] [(.ref r0), (.ref r0)])) rfl rfl (hb hby d16_16)
  refine Onw.go st2 ?_
  show Onw p e below _ (T2.setTop (mkF m 19 #[.val (.ref r0), .val (.ref r1), .val (.int (Int32.ofNat ss.length))] [(.int (Int32.ofNat d)), (.ref r0)]))
  refine Onw.go (fun _ kt => XS.iloadN X2.here hx rfl (hb hby d16_19) rfl kt) ?_
  show Onw p e below _ (T2.setTop (mkF m 20 #[.val (.ref r0), .val (.ref r1), .val (.int (Int32.ofNat ss.length))] [(.int (Int32.ofNat ss.length)), (.int (Int32.ofNat d)), (.ref r0)]))
  refine Onw.go (fun _ kt => XS.iadd X2.here hx rfl (hb hby d16_20) rfl kt) ?_
  show Onw p e below _ (T2.setTop (mkF m 21 #[.val (.ref r0), .val (.ref r1), .val (.int (Int32.ofNat ss.length))] [(.int ((Int32.ofNat d) + (Int32.ofNat ss.length))), (.ref r0)]))
  rw [((Int32.ofNat_add _ _).symm : ((Int32.ofNat d) + (Int32.ofNat ss.length)) = (Int32.ofNat (d + ss.length)))]
  show Onw p e below _ (T2.setTop (mkF m 21 #[.val (.ref r0), .val (.ref r1), .val (.int (Int32.ofNat ss.length))] [(.int (Int32.ofNat (d + ss.length))), (.ref r0)]))
  obtain ⟨cq3, kq3, q3a, -, -, q3c, -⟩ := MB.1
  obtain ⟨_, _, ⟨T3, L3, k3, n3⟩, -, X3, ⟨Lc3, hQ3, l3, y3, z3⟩, st3⟩ := X2.privateBack hx (y := (⟨"java/lang/AbstractStringBuilder", "ensureCapacityInternal", "(I)V"⟩ : MethodName)) hown (mvT hZ (hw _ (own_mg (i := 103) rfl))) (mvT hZ (hw _ (own_mg (i := 104) rfl))) (own_self (z := (⟨"java/lang/AbstractStringBuilder", "isLatin1", "()Z"⟩ : MethodName)) (mvT hZ (hw _ (own_mg (i := 111) rfl))) (Cond.privateMethod_at (args := #[]) (mvT hZ (hw _ (own_mg (i := 105) rfl)))) (mvT hZ (hw _ (own_mg (i := 104) rfl))) rfl (by decide)) (Cond.privateMethod_at (args := #[]) (mvT hZ (hw _ (own_mg (i := 105) rfl)))) (mvT hZ (hw _ (own_mg (i := 107) rfl))) (by decide) (backOf (W := 0) (rm12 l Z a0 hw [] r0 (Int32.ofNat (d + ss.length)) (d + ss.length) v1 k1 (.int (Int32.ofNat d)) xs h0 n0 MB V1 EA hl (by omega) rfl g_r0 g1 Z0) hZ (hw _ (own_mg (i := 107) rfl)) (hw _ (own_mg (i := 78) rfl)) (by decide) (by decide)) (g := (mkF m 21 #[.val (.ref r0), .val (.ref r1), .val (.int (Int32.ofNat ss.length))] [(.int (Int32.ofNat (d + ss.length))), (.ref r0)])) rfl (by rw [hml]; rfl) (Steps.refl _) (a := r0) (cell := cq3) (by rw [e2]; exact q3a) (fun own_q own_e => by rw [own_e] at q3c; cases q3c) (argsL := [(.int (Int32.ofNat (d + ss.length)))]) (rest := []) (lenOf pd_5 rfl) rfl (by show 2 * 0 + _ ≤ _; exact Nat.le_of_eq rfl) (hb hby d16_21) (fun _ _ => ⟨rfl, e2, (by decide : 0 + 1 ≤ _), (by decide : 0 + 34 ≤ _)⟩)
  dsimp only [Pt.U, Pt.locs, Pt.cells, Pt.slots] at X3 l3 y3 z3 st3 hQ3
  subst l3 y3 z3
  obtain ⟨v2, k2, j, rfl, N3q, K3, g2, o3, M3, V3, EA3, l3, c3⟩ := hQ3
  have N3 := Fr.app N1 N3q
  refine Onw.go (fun _ kt => st3.trans kt) ?_
  show Onw p e below _ (T3.setTop (mkF m 24 #[.val (.ref r0), .val (.ref r1), .val (.int (Int32.ofNat ss.length))] []))
  obtain ⟨xs1, hx1⟩ : ∃ own_z, own_z = xs ++ List.replicate j (0 : Int32) := ⟨_, rfl⟩
  rw [← hx1] at V3
  have lx1 : xs1.length = xs.length + j := by rw [hx1, List.length_append, List.length_replicate]
  have ne2 : v2 ≠ r0 := by
    rcases o3 with z | z
    · rw [z]; exact ne0
    · exact fun q => Nat.lt_irrefl _ (Nat.lt_of_lt_of_le (q ▸ MB.1.lt) z)
  have S_C1 := (own_stak S_C K3 (own_exans MB.1))
  have M01 := M0.keep K3 (fun own_z => Nat.lt_irrefl _ (Nat.lt_of_lt_of_le lr (by rw [List.mem_singleton.mp own_z]; exact g_r0)))
  have V01 := V0.keep K3 (fun own_z => Nat.lt_irrefl _ (Nat.lt_of_lt_of_le lt (by rw [List.mem_singleton.mp own_z]; exact g_r0)))
  refine Onw.go (fun _ kt => XS.aloadN X3.here hx rfl (hb hby d16_24) rfl rfl kt) ?_
  show Onw p e below _ (T3.setTop (mkF m 25 #[.val (.ref r0), .val (.ref r1), .val (.int (Int32.ofNat ss.length))] [(.ref r0)]))
  refine Onw.go (fun _ kt => XS.aloadN X3.here hx rfl (hb hby d16_25) rfl rfl kt) ?_
  show Onw p e below _ (T3.setTop (mkF m 26 #[.val (.ref r0), .val (.ref r1), .val (.int (Int32.ofNat ss.length))] [(.ref r0), (.ref r0)]))
  obtain ⟨T4, X4, e4, st4⟩ := getF X3 hx hZ hown (host := "") (Or.inl (hw _ (own_mg (i := 96) rfl))) Via.refl rfl M3.2.2.2 (g := (mkF m 26 #[.val (.ref r0), .val (.ref r1), .val (.int (Int32.ofNat ss.length))] [(.ref r0), (.ref r0)])) rfl rfl (hb hby d16_26)
  refine Onw.go st4 ?_
  show Onw p e below _ (T4.setTop (mkF m 29 #[.val (.ref r0), .val (.ref r1), .val (.int (Int32.ofNat ss.length))] [(.int (Int32.ofNat d)), (.ref r0)]))
  refine Onw.go (fun _ kt => XS.aloadN X4.here hx rfl (hb hby d16_29) rfl rfl kt) ?_
  show Onw p e below _ (T4.setTop (mkF m 30 #[.val (.ref r0), .val (.ref r1), .val (.int (Int32.ofNat ss.length))] [(.ref r1), (.int (Int32.ofNat d)), (.ref r0)]))
  obtain ⟨cq5, kq5, q5a, -, -, q5c, -⟩ := M3.1
  obtain ⟨_, _, ⟨T5, L5, k5, n5⟩, -, X5, ⟨Lc5, hQ5, l5, y5, z5⟩, st5⟩ := X4.privateBack hx (y := (⟨"java/lang/AbstractStringBuilder", "putStringAt", "(ILjava/lang/String;)V"⟩ : MethodName)) hown (mvT hZ (hw _ (own_mg (i := 143) rfl))) (mvT hZ (hw _ (own_mg (i := 144) rfl))) (own_self (z := (⟨"java/lang/AbstractStringBuilder", "isLatin1", "()Z"⟩ : MethodName)) (mvT hZ (hw _ (own_mg (i := 111) rfl))) (Cond.privateMethod_at (args := #[]) (mvT hZ (hw _ (own_mg (i := 145) rfl)))) (mvT hZ (hw _ (own_mg (i := 144) rfl))) rfl (by decide)) (Cond.privateMethod_at (args := #[]) (mvT hZ (hw _ (own_mg (i := 145) rfl)))) (mvT hZ (hw _ (own_mg (i := 147) rfl))) (by decide) (backOf (W := 0) (rm19 l Z a0 hw [] r0 (Int32.ofNat d) r1 zc t v2 (.int (Int32.ofNat d)) kt k2 ss xs1 d T3.heap n0 M3 M01 V01 V3 S_C1 hz rfl (by omega) (by omega) (by omega) g2) hZ (hw _ (own_mg (i := 147) rfl)) (hw _ (own_mg (i := 78) rfl)) (by decide) (by decide)) (g := (mkF m 30 #[.val (.ref r0), .val (.ref r1), .val (.int (Int32.ofNat ss.length))] [(.ref r1), (.int (Int32.ofNat d)), (.ref r0)])) rfl (by rw [hml]; rfl) (Steps.refl _) (a := r0) (cell := cq5) (by rw [e4]; exact q5a) (fun own_q own_e => by rw [own_e] at q5c; cases q5c) (argsL := [(.int (Int32.ofNat d)), (.ref r1)]) (rest := []) (lenOf pd_15 rfl) rfl (by show 2 * 0 + _ ≤ _; exact Nat.le_of_eq rfl) (hb hby d16_30) (fun _ _ => ⟨rfl, e4, (by decide : 1 + 0 ≤ _), (by decide : 34 + 0 ≤ _)⟩)
  dsimp only [Pt.U, Pt.locs, Pt.cells, Pt.slots] at X5 l5 y5 z5 st5 hQ5
  subst l5 y5 z5
  obtain ⟨rfl, N5q, K5, V5⟩ := hQ5
  have N5 := Fr.app N3 N5q
  refine Onw.go (fun _ kt => st5.trans kt) ?_
  show Onw p e below _ (T5.setTop (mkF m 33 #[.val (.ref r0), .val (.ref r1), .val (.int (Int32.ofNat ss.length))] []))
  have M3 := M3.keep K5 (fun own_z => ne2 (List.mem_singleton.mp own_z).symm)
  have EA3 := EA3.keep K5
  refine Onw.go (fun _ kt => XS.aloadN X5.here hx rfl (hb hby d16_33) rfl rfl kt) ?_
  show Onw p e below _ (T5.setTop (mkF m 34 #[.val (.ref r0), .val (.ref r1), .val (.int (Int32.ofNat ss.length))] [(.ref r0)]))
  refine Onw.go (fun _ kt => XS.dup X5.here hx rfl (hb hby d16_34) rfl rfl kt) ?_
  show Onw p e below _ (T5.setTop (mkF m 35 #[.val (.ref r0), .val (.ref r1), .val (.int (Int32.ofNat ss.length))] [(.ref r0), (.ref r0)]))
  obtain ⟨T6, X6, e6, st6⟩ := getF X5 hx hZ hown (host := "") (Or.inl (hw _ (own_mg (i := 96) rfl))) Via.refl rfl M3.2.2.2 (g := (mkF m 35 #[.val (.ref r0), .val (.ref r1), .val (.int (Int32.ofNat ss.length))] [(.ref r0), (.ref r0)])) rfl rfl (hb hby d16_35)
  refine Onw.go st6 ?_
  show Onw p e below _ (T6.setTop (mkF m 38 #[.val (.ref r0), .val (.ref r1), .val (.int (Int32.ofNat ss.length))] [(.int (Int32.ofNat d)), (.ref r0)]))
  refine Onw.go (fun _ kt => XS.iloadN X6.here hx rfl (hb hby d16_38) rfl kt) ?_
  show Onw p e below _ (T6.setTop (mkF m 39 #[.val (.ref r0), .val (.ref r1), .val (.int (Int32.ofNat ss.length))] [(.int (Int32.ofNat ss.length)), (.int (Int32.ofNat d)), (.ref r0)]))
  refine Onw.go (fun _ kt => XS.iadd X6.here hx rfl (hb hby d16_39) rfl kt) ?_
  show Onw p e below _ (T6.setTop (mkF m 40 #[.val (.ref r0), .val (.ref r1), .val (.int (Int32.ofNat ss.length))] [(.int ((Int32.ofNat d) + (Int32.ofNat ss.length))), (.ref r0)]))
  rw [((Int32.ofNat_add _ _).symm : ((Int32.ofNat d) + (Int32.ofNat ss.length)) = (Int32.ofNat (d + ss.length)))]
  show Onw p e below _ (T6.setTop (mkF m 40 #[.val (.ref r0), .val (.ref r1), .val (.int (Int32.ofNat ss.length))] [(.int (Int32.ofNat (d + ss.length))), (.ref r0)]))
  obtain ⟨T7, h7, X7, e7, W7, st7⟩ := putF X6 hx hZ hown (host := "") (Or.inl (hw _ (own_mg (i := 96) rfl))) Via.refl e6 M3.2.2.2 M3.1 (Or.inl (hw _ (own_mg (i := 97) rfl))) (hw _ (own_mg (i := 69) rfl)) (ty := .int) (by decide) rfl rfl (g := (mkF m 40 #[.val (.ref r0), .val (.ref r1), .val (.int (Int32.ofNat ss.length))] [(.int (Int32.ofNat (d + ss.length))), (.ref r0)])) rfl rfl (hb hby d16_40)
  have N7 := Fr.snoc X7 N5 g_r0
  refine Onw.go st7 ?_
  show Onw p e below _ (T7.setTop (mkF m 43 #[.val (.ref r0), .val (.ref r1), .val (.int (Int32.ofNat ss.length))] []))
  have M4 := own_set_count hw M3 W7
  refine Onw.go (fun _ kt => XS.aloadN X7.here hx rfl (hb hby d16_43) rfl rfl kt) ?_
  show Onw p e below _ (T7.setTop (mkF m 44 #[.val (.ref r0), .val (.ref r1), .val (.int (Int32.ofNat ss.length))] [(.ref r0)]))
  have K4 : Keep h0 h7 [r0, v1] := ((((Keep.refl h0 [r0, v1]).trans K3 (fun own_x own_h => Or.inl (by rw [List.mem_singleton.mp own_h]; simp))).trans K5 (fun own_x own_h => by
    rw [List.mem_singleton.mp own_h]
    rcases o3 with z | z
    · exact Or.inl (by rw [z]; simp)
    · exact Or.inr z))).wr W7 (Or.inl (by simp))
  obtain ⟨zs, hzs⟩ : ∃ own_z, own_z = (xs1.take d ++ ss ++ xs1.drop (d + ss.length)) := ⟨_, rfl⟩
  rw [← hzs] at V5
  have lz : zs.length = xs1.length := by rw [hzs]; simp; omega
  exact Onw.ret X7 Bd.notSynchronized (fun h => by rw [Bd.returns] at h; cases h) (fun fs hr => X7.areturnOut hx rfl Bd.returns rfl (hb hby d16_44) hr) ⟨v2, k2, zs, rfl, N7, by rw [e7]; exact K4, g2, ne2, by rw [e7]; exact M4, by rw [e7]; exact V5.other W7 ne2, by rw [e7]; exact EA3.wr W7, by omega, by omega, own_catt hd hx1 hzs⟩ (by decide) (by decide)
theorem ef_15 (m : MethodId) (x0 : Addr) (x1 : Addr) : entryFrame m #[(.ref x0), (.ref x1)] 2 = mkF m 0 #[.val (.ref x0), .val (.ref x1)] [] := by first | (simp [entryFrame, mkF, argsToLocals, Value.category]; done) | rfl
def Q_rm15 (Z : State) (r0 : Addr) (r1 : Addr) (zc : Int32) (t v1 : Addr) (k1 kt : ClassId) (xs ss : List Int32) (d : Nat) (h0 : Heap) (n0 : Nat) (v : Option Value) (h : Heap) (L : List Loc) : Prop := ∃ (v2 : Addr) (k2 : ClassId) (xs2 : List Int32), v = some (.ref r0) ∧ Fr n0 L ∧ Keep h0 h [r0, v1] ∧ n0 ≤ v2 ∧ v2 ≠ r0 ∧ own_SB Z h r0 (.ref v2) (.int (0 : Int32)) (.int (Int32.ofNat (d + ss.length))) ∧ Arv Z h v2 k2 .byte (Int32.ofNat (xs2).length) ((xs2).map Value.int) (.int (0 : Int32)) ∧ Exa Z h v2 "[B" ∧ (xs2.length = 16 ∨ xs2.length = 34) ∧ d + ss.length ≤ xs2.length ∧ xs2.take (d + ss.length) = xs.take d ++ ss
theorem d15_0 : decode jdk_67_method_7_code 0 = .ok (.aload_n 0, 1) := by decide +kernel
theorem d15_1 : decode jdk_67_method_7_code 1 = .ok (.aload_n 1, 1) := by decide +kernel
theorem d15_2 : decode jdk_67_method_7_code 2 = .ok (.invokespecial 29, 3) := by decide +kernel
theorem d15_5 : decode jdk_67_method_7_code 5 = .ok (.pop, 1) := by decide +kernel
theorem d15_6 : decode jdk_67_method_7_code 6 = .ok (.aload_n 0, 1) := by decide +kernel
theorem d15_7 : decode jdk_67_method_7_code 7 = .ok (.areturn, 1) := by decide +kernel
set_option maxRecDepth 65536 in
set_option maxHeartbeats 40000000 in
theorem rm15 (l : Launch) (Z : State) (a0 : Array Value) (hw : ∀ d ∈ tables_1, d.before a0 Z = true) (ws : List Jvm.Cond) (r0 : Addr) (r1 : Addr) (zc : Int32) (t v1 : Addr) (k1 kt : ClassId) (xs ss : List Int32) (d : Nat) (h0 : Heap) (n0 : Nat) (MB : own_SB Z h0 r0 (.ref v1) (.int (0 : Int32)) (.int (Int32.ofNat d))) (V1 : Arv Z h0 v1 k1 .byte (Int32.ofNat (xs).length) ((xs).map Value.int) (.int (0 : Int32))) (EA : Exa Z h0 v1 "[B") (ne0 : v1 ≠ r0) (M0 : own_ST Z h0 r1 t) (V0 : Arv Z h0 t kt .byte (Int32.ofNat (ss).length) ((ss).map Value.int) (.int (0 : Int32))) (S_C : Sta Z h0 "java/lang/String" "COMPACT_STRINGS" "Z" (.int zc)) (hz : ¬ zc = 0) (hl : xs.length = 16 ∨ xs.length = 34) (hd : d ≤ xs.length) (hd2 : d ≤ 19) (hs2 : ss.length ≤ 2) (lr : r1 < n0) (lt : t < n0) (g_r0 : n0 ≤ r0) (g1 : n0 ≤ v1) (Z0 : n0 ≤ h0.size) :
    MetFree l (⟨"java/lang/StringBuilder", "append", "(Ljava/lang/String;)Ljava/lang/StringBuilder;"⟩ : MethodName) (head1 (Jvm.Cond.code (⟨"java/lang/StringBuilder", "append", "(Ljava/lang/String;)Ljava/lang/StringBuilder;"⟩ : MethodName) jdk_67_method_7_code 2 (some (.object "java/lang/StringBuilder")) :: ws) ({ frames := 5, cells := 1, slots := 34, locals := 76 } : Room)) (fun a U => a = #[(.ref r0), (.ref r1)] ∧ Z.Warmed39 U.vm ∧ U.heap = h0) (fun _ _ _ _ _ => True) (fun _ U o U' => ∃ v L, o = .returned v ∧ Q_rm15 Z r0 r1 zc t v1 k1 kt xs ss d h0 n0 v U'.heap L ∧ FrameEnd U o U' L ({ frames := 5, cells := 1, slots := 34, locals := 76 } : Room).cells ({ frames := 5, cells := 1, slots := 34, locals := 76 } : Room).slots) := by
  refine MetFree.of_bodySF (plainFor_of_name pn_4) hisR ?_
  intro p e s m args below meth c s₁ Bd hml0 hP hK
  obtain ⟨rfl, hZ, hh⟩ := hP
  have hx := Bd.exec
  have hby := Bd.bytes
  have hml : c.maxLocals = 2 := hml0
  have hown : s.vm.findClass "java/lang/StringBuilder" = some m.cls := findClass_of_methodNamed Bd.named
  have hnm := (name_of_methodNamed Bd.named Bd.method).1
  have X0 : Stand p l e ({ frames := 5, cells := 1, slots := 34, locals := 76 } : Room) s m #[(.ref r0), (.ref r1)] below meth c s₁ [] 0 0 := Stand.of_body Bd
  have e0 : s₁.heap = h0 := by rw [← hh, Bd.state]; rfl
  have N0 := Fr.nil n0
  refine Onw.of (Onw.go (fun _ k => castTop (ef_15 m r0 r1) k) ?_)
  show Onw p e below _ (s₁.setTop (mkF m 0 #[.val (.ref r0), .val (.ref r1)] []))
  refine Onw.go (fun _ kt => XS.aloadN X0.here hx rfl (hb hby d15_0) rfl rfl kt) ?_
  show Onw p e below _ (s₁.setTop (mkF m 1 #[.val (.ref r0), .val (.ref r1)] [(.ref r0)]))
  refine Onw.go (fun _ kt => XS.aloadN X0.here hx rfl (hb hby d15_1) rfl rfl kt) ?_
  show Onw p e below _ (s₁.setTop (mkF m 2 #[.val (.ref r0), .val (.ref r1)] [(.ref r1), (.ref r0)]))
  obtain ⟨_, _, ⟨T1, L1, k1, n1⟩, -, X1, ⟨Lc1, hQ1, l1, y1, z1⟩, st1⟩ := superBack X0 hx hZ (K := "java/lang/StringBuilder") (y := (⟨"java/lang/AbstractStringBuilder", "append", "(Ljava/lang/String;)Ljava/lang/AbstractStringBuilder;"⟩ : MethodName)) hown (hw _ (own_mg (i := 126) rfl)) (own_same (z := (⟨"java/lang/AbstractStringBuilder", "isLatin1", "()Z"⟩ : MethodName)) (hw _ (own_mg (i := 111) rfl)) (hw _ (own_mg (i := 127) rfl)) rfl (by decide)) (hw _ (own_mg (i := 127) rfl)) (hw _ (own_mg (i := 93) rfl)) (by decide) (backOf (W := 0) (rm16 l Z a0 hw [] r0 r1 zc t v1 k1 kt xs ss d h0 n0 MB V1 EA ne0 M0 V0 S_C hz hl hd hd2 hs2 lr lt g_r0 g1 Z0) hZ (hw _ (own_mg (i := 129) rfl)) (hw _ (own_mg (i := 78) rfl)) (by decide) (by decide)) e0 (Ins.self MB.1) (a := r0) (g := (mkF m 2 #[.val (.ref r0), .val (.ref r1)] [(.ref r1), (.ref r0)])) rfl (by rw [hml]; rfl) (hw _ (own_mg (i := 129) rfl)) (argsL := [(.ref r1)]) (rest := []) (lenOf pd_12 rfl) rfl (by show 2 * 0 + _ ≤ _; exact Nat.le_of_eq rfl) (hb hby d15_2) (fun _ _ => ⟨rfl, e0, (by decide : 0 + 1 ≤ _), (by decide : 0 + 34 ≤ _)⟩)
  dsimp only [Pt.U, Pt.locs, Pt.cells, Pt.slots] at X1 l1 y1 z1 st1 hQ1
  subst l1 y1 z1
  obtain ⟨v2, k2, xs2, rfl, N1q, K1, q1r⟩ := hQ1
  have N1 := Fr.app N0 N1q
  refine Onw.go (fun _ kt => st1.trans kt) ?_
  show Onw p e below _ (T1.setTop (mkF m 5 #[.val (.ref r0), .val (.ref r1)] [(.ref r0)]))
  refine Onw.go (fun _ kt => XS.pop X1.here hx rfl (hb hby d15_5) rfl rfl kt) ?_
  show Onw p e below _ (T1.setTop (mkF m 6 #[.val (.ref r0), .val (.ref r1)] []))
  refine Onw.go (fun _ kt => XS.aloadN X1.here hx rfl (hb hby d15_6) rfl rfl kt) ?_
  show Onw p e below _ (T1.setTop (mkF m 7 #[.val (.ref r0), .val (.ref r1)] [(.ref r0)]))
  exact Onw.ret X1 Bd.notSynchronized (fun h => by rw [Bd.returns] at h; cases h) (fun fs hr => X1.areturnOut hx rfl Bd.returns rfl (hb hby d15_7) hr) ⟨v2, k2, xs2, rfl, N1, K1, q1r⟩ (by decide) (by decide)
theorem ef_25 (m : MethodId) (x0 : Addr) : entryFrame m #[(.ref x0)] 1 = mkF m 0 #[.val (.ref x0)] [] := by first | (simp [entryFrame, mkF, argsToLocals, Value.category]; done) | rfl
def Q_rm25 (Z : State) (r0 : Addr) (v1 : Addr) (v2 v3 : Value) (h0 : Heap) (n0 : Nat) (v : Option Value) (h : Heap) (L : List Loc) : Prop := v = some (.ref v1) ∧ Fr n0 L ∧ h = h0
theorem d25_0 : decode jdk_68_method_64_code 0 = .ok (.aload_n 0, 1) := by decide +kernel
theorem d25_1 : decode jdk_68_method_64_code 1 = .ok (.getfield 15, 3) := by decide +kernel
theorem d25_4 : decode jdk_68_method_64_code 4 = .ok (.areturn, 1) := by decide +kernel
set_option maxRecDepth 65536 in
set_option maxHeartbeats 40000000 in
theorem rm25 (l : Launch) (Z : State) (a0 : Array Value) (hw : ∀ d ∈ tables_1, d.before a0 Z = true) (ws : List Jvm.Cond) (r0 : Addr) (v1 : Addr) (v2 v3 : Value) (h0 : Heap) (n0 : Nat) (M0 : own_SB Z h0 r0 (.ref v1) v2 v3) :
    MetFree l (⟨"java/lang/AbstractStringBuilder", "getValue", "()[B"⟩ : MethodName) (head1 (Jvm.Cond.code (⟨"java/lang/AbstractStringBuilder", "getValue", "()[B"⟩ : MethodName) jdk_68_method_64_code 1 (some (.array .byte)) :: ws) ({ frames := 0, cells := 0, slots := 0, locals := 0 } : Room)) (fun a U => a = #[(.ref r0)] ∧ Z.Warmed39 U.vm ∧ U.heap = h0) (fun _ _ _ _ _ => True) (fun _ U o U' => ∃ v L, o = .returned v ∧ Q_rm25 Z r0 v1 v2 v3 h0 n0 v U'.heap L ∧ FrameEnd U o U' L ({ frames := 0, cells := 0, slots := 0, locals := 0 } : Room).cells ({ frames := 0, cells := 0, slots := 0, locals := 0 } : Room).slots) := by
  refine MetFree.of_bodySF (plainFor_of_name pn_3) hisR ?_
  intro p e s m args below meth c s₁ Bd hml0 hP hK
  obtain ⟨rfl, hZ, hh⟩ := hP
  have hx := Bd.exec
  have hby := Bd.bytes
  have hml : c.maxLocals = 1 := hml0
  have hown : s.vm.findClass "java/lang/AbstractStringBuilder" = some m.cls := findClass_of_methodNamed Bd.named
  have hnm := (name_of_methodNamed Bd.named Bd.method).1
  have X0 : Stand p l e ({ frames := 0, cells := 0, slots := 0, locals := 0 } : Room) s m #[(.ref r0)] below meth c s₁ [] 0 0 := Stand.of_body Bd
  have e0 : s₁.heap = h0 := by rw [← hh, Bd.state]; rfl
  have N0 := Fr.nil n0
  refine Onw.of (Onw.go (fun _ k => castTop (ef_25 m r0) k) ?_)
  show Onw p e below _ (s₁.setTop (mkF m 0 #[.val (.ref r0)] []))
  refine Onw.go (fun _ kt => XS.aloadN X0.here hx rfl (hb hby d25_0) rfl rfl kt) ?_
  show Onw p e below _ (s₁.setTop (mkF m 1 #[.val (.ref r0)] [(.ref r0)]))
  obtain ⟨T1, X1, e1, st1⟩ := getF X0 hx hZ hown (host := "") (Or.inl (hw _ (own_mg (i := 82) rfl))) Via.refl e0 M0.2.1 (g := (mkF m 1 #[.val (.ref r0)] [(.ref r0)])) rfl rfl (hb hby d25_1)
  refine Onw.go st1 ?_
  show Onw p e below _ (T1.setTop (mkF m 4 #[.val (.ref r0)] [(.ref v1)]))
  exact Onw.ret X1 Bd.notSynchronized (fun h => by rw [Bd.returns] at h; cases h) (fun fs hr => X1.areturnOut hx rfl Bd.returns rfl (hb hby d25_4) hr) ⟨rfl, N0, e1⟩ (by decide) (by decide)
theorem ef_27 (m : MethodId) (x0 : Addr) : entryFrame m #[(.ref x0)] 1 = mkF m 0 #[.val (.ref x0)] [] := by first | (simp [entryFrame, mkF, argsToLocals, Value.category]; done) | rfl
def Q_rm27 (Z : State) (r0 : Addr) (v1 v2 : Value) (cn : Int32) (h0 : Heap) (n0 : Nat) (v : Option Value) (h : Heap) (L : List Loc) : Prop := v = some (.int cn) ∧ Fr n0 L ∧ h = h0
theorem d27_0 : decode jdk_68_method_6_code 0 = .ok (.aload_n 0, 1) := by decide +kernel
theorem d27_1 : decode jdk_68_method_6_code 1 = .ok (.getfield 79, 3) := by decide +kernel
theorem d27_4 : decode jdk_68_method_6_code 4 = .ok (.ireturn, 1) := by decide +kernel
set_option maxRecDepth 65536 in
set_option maxHeartbeats 40000000 in
theorem rm27 (l : Launch) (Z : State) (a0 : Array Value) (hw : ∀ d ∈ tables_1, d.before a0 Z = true) (ws : List Jvm.Cond) (r0 : Addr) (v1 v2 : Value) (cn : Int32) (h0 : Heap) (n0 : Nat) (M0 : own_SB Z h0 r0 v1 v2 (.int cn)) :
    MetFree l (⟨"java/lang/AbstractStringBuilder", "length", "()I"⟩ : MethodName) (head1 (Jvm.Cond.code (⟨"java/lang/AbstractStringBuilder", "length", "()I"⟩ : MethodName) jdk_68_method_6_code 1 (some .int) :: ws) ({ frames := 0, cells := 0, slots := 0, locals := 0 } : Room)) (fun a U => a = #[(.ref r0)] ∧ Z.Warmed39 U.vm ∧ U.heap = h0) (fun _ _ _ _ _ => True) (fun _ U o U' => ∃ v L, o = .returned v ∧ Q_rm27 Z r0 v1 v2 cn h0 n0 v U'.heap L ∧ FrameEnd U o U' L ({ frames := 0, cells := 0, slots := 0, locals := 0 } : Room).cells ({ frames := 0, cells := 0, slots := 0, locals := 0 } : Room).slots) := by
  refine MetFree.of_bodySF (plainFor_of_name pn_3) hisR ?_
  intro p e s m args below meth c s₁ Bd hml0 hP hK
  obtain ⟨rfl, hZ, hh⟩ := hP
  have hx := Bd.exec
  have hby := Bd.bytes
  have hml : c.maxLocals = 1 := hml0
  have hown : s.vm.findClass "java/lang/AbstractStringBuilder" = some m.cls := findClass_of_methodNamed Bd.named
  have hnm := (name_of_methodNamed Bd.named Bd.method).1
  have X0 : Stand p l e ({ frames := 0, cells := 0, slots := 0, locals := 0 } : Room) s m #[(.ref r0)] below meth c s₁ [] 0 0 := Stand.of_body Bd
  have e0 : s₁.heap = h0 := by rw [← hh, Bd.state]; rfl
  have N0 := Fr.nil n0
  refine Onw.of (Onw.go (fun _ k => castTop (ef_27 m r0) k) ?_)
  show Onw p e below _ (s₁.setTop (mkF m 0 #[.val (.ref r0)] []))
  refine Onw.go (fun _ kt => XS.aloadN X0.here hx rfl (hb hby d27_0) rfl rfl kt) ?_
  show Onw p e below _ (s₁.setTop (mkF m 1 #[.val (.ref r0)] [(.ref r0)]))
  obtain ⟨T1, X1, e1, st1⟩ := getF X0 hx hZ hown (host := "") (Or.inl (hw _ (own_mg (i := 96) rfl))) Via.refl e0 M0.2.2.2 (g := (mkF m 1 #[.val (.ref r0)] [(.ref r0)])) rfl rfl (hb hby d27_1)
  refine Onw.go st1 ?_
  show Onw p e below _ (T1.setTop (mkF m 4 #[.val (.ref r0)] [(.int cn)]))
  exact Onw.ret X1 Bd.notSynchronized (fun h => by rw [Bd.returns] at h; cases h) (fun fs hr => retI X1 hx Bd.returns (hb hby d27_4) hr) ⟨rfl, N0, e1⟩ (by decide) (by decide)
theorem ef_26 (m : MethodId) (x0 : Addr) : entryFrame m #[(.ref x0)] 1 = mkF m 0 #[.val (.ref x0)] [] := by first | (simp [entryFrame, mkF, argsToLocals, Value.category]; done) | rfl
def Q_rm26 (Z : State) (r0 : Addr) (v1 v2 : Value) (cn : Int32) (h0 : Heap) (n0 : Nat) (v : Option Value) (h : Heap) (L : List Loc) : Prop := v = some (.int cn) ∧ Fr n0 L ∧ h = h0
theorem d26_0 : decode jdk_67_method_93_code 0 = .ok (.aload_n 0, 1) := by decide +kernel
theorem d26_1 : decode jdk_67_method_93_code 1 = .ok (.invokespecial 343, 3) := by decide +kernel
theorem d26_4 : decode jdk_67_method_93_code 4 = .ok (.ireturn, 1) := by decide +kernel
set_option maxRecDepth 65536 in
set_option maxHeartbeats 40000000 in
theorem rm26 (l : Launch) (Z : State) (a0 : Array Value) (hw : ∀ d ∈ tables_1, d.before a0 Z = true) (ws : List Jvm.Cond) (r0 : Addr) (v1 v2 : Value) (cn : Int32) (h0 : Heap) (n0 : Nat) (M0 : own_SB Z h0 r0 v1 v2 (.int cn)) :
    MetFree l (⟨"java/lang/StringBuilder", "length", "()I"⟩ : MethodName) (head1 (Jvm.Cond.code (⟨"java/lang/StringBuilder", "length", "()I"⟩ : MethodName) jdk_67_method_93_code 1 (some .int) :: ws) ({ frames := 1, cells := 0, slots := 0, locals := 12 } : Room)) (fun a U => a = #[(.ref r0)] ∧ Z.Warmed39 U.vm ∧ U.heap = h0) (fun _ _ _ _ _ => True) (fun _ U o U' => ∃ v L, o = .returned v ∧ Q_rm26 Z r0 v1 v2 cn h0 n0 v U'.heap L ∧ FrameEnd U o U' L ({ frames := 1, cells := 0, slots := 0, locals := 12 } : Room).cells ({ frames := 1, cells := 0, slots := 0, locals := 12 } : Room).slots) := by
  refine MetFree.of_bodySF (plainFor_of_name pn_4) hisR ?_
  intro p e s m args below meth c s₁ Bd hml0 hP hK
  obtain ⟨rfl, hZ, hh⟩ := hP
  have hx := Bd.exec
  have hby := Bd.bytes
  have hml : c.maxLocals = 1 := hml0
  have hown : s.vm.findClass "java/lang/StringBuilder" = some m.cls := findClass_of_methodNamed Bd.named
  have hnm := (name_of_methodNamed Bd.named Bd.method).1
  have X0 : Stand p l e ({ frames := 1, cells := 0, slots := 0, locals := 12 } : Room) s m #[(.ref r0)] below meth c s₁ [] 0 0 := Stand.of_body Bd
  have e0 : s₁.heap = h0 := by rw [← hh, Bd.state]; rfl
  have N0 := Fr.nil n0
  refine Onw.of (Onw.go (fun _ k => castTop (ef_26 m r0) k) ?_)
  show Onw p e below _ (s₁.setTop (mkF m 0 #[.val (.ref r0)] []))
  refine Onw.go (fun _ kt => XS.aloadN X0.here hx rfl (hb hby d26_0) rfl rfl kt) ?_
  show Onw p e below _ (s₁.setTop (mkF m 1 #[.val (.ref r0)] [(.ref r0)]))
  obtain ⟨_, _, ⟨T1, L1, k1, n1⟩, -, X1, ⟨Lc1, hQ1, l1, y1, z1⟩, st1⟩ := superBack X0 hx hZ (K := "java/lang/StringBuilder") (y := (⟨"java/lang/AbstractStringBuilder", "length", "()I"⟩ : MethodName)) hown (hw _ (own_mg (i := 188) rfl)) (own_same (z := (⟨"java/lang/AbstractStringBuilder", "isLatin1", "()Z"⟩ : MethodName)) (hw _ (own_mg (i := 111) rfl)) (hw _ (own_mg (i := 184) rfl)) rfl (by decide)) (hw _ (own_mg (i := 184) rfl)) (hw _ (own_mg (i := 93) rfl)) (by decide) (backOf (W := 0) (rm27 l Z a0 hw [] r0 v1 v2 cn h0 n0 M0) hZ (hw _ (own_mg (i := 189) rfl)) (hw _ (own_mg (i := 78) rfl)) (by decide) (by decide)) e0 (Ins.self M0.1) (a := r0) (g := (mkF m 1 #[.val (.ref r0)] [(.ref r0)])) rfl (by rw [hml]; rfl) (hw _ (own_mg (i := 189) rfl)) (argsL := []) (rest := []) (lenOf pd_13 rfl) rfl (by show 2 * 0 + _ ≤ _; exact Nat.le_of_eq rfl) (hb hby d26_1) (fun _ _ => ⟨rfl, e0, (by decide : 0 + 0 ≤ _), (by decide : 0 + 0 ≤ _)⟩)
  dsimp only [Pt.U, Pt.locs, Pt.cells, Pt.slots] at X1 l1 y1 z1 st1 hQ1
  subst l1 y1 z1
  obtain ⟨rfl, N1q, e1q⟩ := hQ1
  have N1 := Fr.app N0 N1q
  refine Onw.go (fun _ kt => st1.trans kt) ?_
  show Onw p e below _ (T1.setTop (mkF m 4 #[.val (.ref r0)] [(.int cn)]))
  exact Onw.ret X1 Bd.notSynchronized (fun h => by rw [Bd.returns] at h; cases h) (fun fs hr => retI X1 hx Bd.returns (hb hby d26_4) hr) ⟨rfl, N1, e1q⟩ (by decide) (by decide)
theorem ef_29 (m : MethodId) (x0 : Addr) (x1 : Int32) (x2 : Int32) : entryFrame m #[(.ref x0), (.int x1), (.int x2)] 5 = mkF m 0 #[.val (.ref x0), .val (.int x1), .val (.int x2), .unset, .unset] [] := by first | (simp [entryFrame, mkF, argsToLocals, Value.category]; done) | rfl
def Q_rm29 (Z : State) (r0 : Addr) (p1 : Int32) (p2 : Int32) (k1 : ClassId) (xs : List Int32) (cn : Nat) (h0 : Heap) (n0 : Nat) (v : Option Value) (h : Heap) (L : List Loc) : Prop := ∃ (b : Addr) (kb : ClassId), v = some (.ref b) ∧ Fr n0 L ∧ Ext h0 h ∧ n0 ≤ b ∧ h0.size ≤ b ∧ Arv Z h b kb .byte (Int32.ofNat (xs.take cn).length) ((xs.take cn).map Value.int) (.int (0 : Int32)) ∧ Exa Z h b "[B"
theorem d29_0 : decode jdk_65_method_133_code 0 = .ok (.iload_n 1, 1) := by decide +kernel
theorem d29_1 : decode jdk_65_method_133_code 1 = .ok (.iload_n 2, 1) := by decide +kernel
theorem d29_2 : decode jdk_65_method_133_code 2 = .ok (.invokestatic 343, 3) := by decide +kernel
theorem d29_5 : decode jdk_65_method_133_code 5 = .ok (.iload_n 2, 1) := by decide +kernel
theorem d29_6 : decode jdk_65_method_133_code 6 = .ok (.iload_n 1, 1) := by decide +kernel
theorem d29_7 : decode jdk_65_method_133_code 7 = .ok (.isub, 1) := by decide +kernel
theorem d29_8 : decode jdk_65_method_133_code 8 = .ok (.istore_n 3, 1) := by decide +kernel
theorem d29_9 : decode jdk_65_method_133_code 9 = .ok (.iload_n 3, 1) := by decide +kernel
theorem d29_10 : decode jdk_65_method_133_code 10 = .ok (.newarray .byte, 2) := by decide +kernel
theorem d29_12 : decode jdk_65_method_133_code 12 = .ok (.astore 4, 2) := by decide +kernel
theorem d29_14 : decode jdk_65_method_133_code 14 = .ok (.aload_n 0, 1) := by decide +kernel
theorem d29_15 : decode jdk_65_method_133_code 15 = .ok (.iload_n 1, 1) := by decide +kernel
theorem d29_16 : decode jdk_65_method_133_code 16 = .ok (.aload 4, 2) := by decide +kernel
theorem d29_18 : decode jdk_65_method_133_code 18 = .ok (.iconst 0, 1) := by decide +kernel
theorem d29_19 : decode jdk_65_method_133_code 19 = .ok (.aload_n 0, 1) := by decide +kernel
theorem d29_20 : decode jdk_65_method_133_code 20 = .ok (.arraylength, 1) := by decide +kernel
theorem d29_21 : decode jdk_65_method_133_code 21 = .ok (.iload_n 1, 1) := by decide +kernel
theorem d29_22 : decode jdk_65_method_133_code 22 = .ok (.isub, 1) := by decide +kernel
theorem d29_23 : decode jdk_65_method_133_code 23 = .ok (.iload_n 3, 1) := by decide +kernel
theorem d29_24 : decode jdk_65_method_133_code 24 = .ok (.invokestatic 304, 3) := by decide +kernel
theorem d29_27 : decode jdk_65_method_133_code 27 = .ok (.invokestatic 150, 3) := by decide +kernel
theorem d29_30 : decode jdk_65_method_133_code 30 = .ok (.aload 4, 2) := by decide +kernel
theorem d29_32 : decode jdk_65_method_133_code 32 = .ok (.areturn, 1) := by decide +kernel
set_option maxRecDepth 65536 in
set_option maxHeartbeats 40000000 in
theorem rm29 (l : Launch) (Z : State) (a0 : Array Value) (hw : ∀ d ∈ tables_1, d.before a0 Z = true) (ws : List Jvm.Cond) (r0 : Addr) (p1 : Int32) (p2 : Int32) (k1 : ClassId) (xs : List Int32) (cn : Nat) (h0 : Heap) (n0 : Nat) (V0 : Arv Z h0 r0 k1 .byte (Int32.ofNat (xs).length) ((xs).map Value.int) (.int (0 : Int32))) (h1 : p1 = 0) (h2 : p2 = Int32.ofNat cn) (hc : cn ≤ xs.length) (lx : xs.length ≤ 34) (Z0 : n0 ≤ h0.size) :
    MetFree l (⟨"java/util/Arrays", "copyOfRangeByte", "([BII)[B"⟩ : MethodName) (head1 (Jvm.Cond.code (⟨"java/util/Arrays", "copyOfRangeByte", "([BII)[B"⟩ : MethodName) jdk_65_method_133_code 5 (some (.array .byte)) :: ws) ({ frames := 1, cells := 1, slots := 34, locals := 18 } : Room)) (fun a U => a = #[(.ref r0), (.int p1), (.int p2)] ∧ Z.Warmed39 U.vm ∧ U.heap = h0) (fun _ _ _ _ _ => True) (fun _ U o U' => ∃ v L, o = .returned v ∧ Q_rm29 Z r0 p1 p2 k1 xs cn h0 n0 v U'.heap L ∧ FrameEnd U o U' L ({ frames := 1, cells := 1, slots := 34, locals := 18 } : Room).cells ({ frames := 1, cells := 1, slots := 34, locals := 18 } : Room).slots) := by
  refine MetFree.of_bodySF (plainFor_of_name pn_6) hisR ?_
  intro p e s m args below meth c s₁ Bd hml0 hP hK
  obtain ⟨rfl, hZ, hh⟩ := hP
  have hx := Bd.exec
  have hby := Bd.bytes
  have hml : c.maxLocals = 5 := hml0
  have hown : s.vm.findClass "java/util/Arrays" = some m.cls := findClass_of_methodNamed Bd.named
  have hnm := (name_of_methodNamed Bd.named Bd.method).1
  have X0 : Stand p l e ({ frames := 1, cells := 1, slots := 34, locals := 18 } : Room) s m #[(.ref r0), (.int p1), (.int p2)] below meth c s₁ [] 0 0 := Stand.of_body Bd
  have e0 : s₁.heap = h0 := by rw [← hh, Bd.state]; rfl
  have N0 := Fr.nil n0
  refine Onw.of (Onw.go (fun _ k => castTop (ef_29 m r0 p1 p2) k) ?_)
  show Onw p e below _ (s₁.setTop (mkF m 0 #[.val (.ref r0), .val (.int p1), .val (.int p2), .unset, .unset] []))
  subst h1 h2
  show Onw p e below _ (s₁.setTop (mkF m 0 #[.val (.ref r0), .val (.int (0 : Int32)), .val (.int (Int32.ofNat cn)), .unset, .unset] []))
  obtain ⟨c0, A0, qa0, S0, Q0, H0, G0⟩ := id V0
  refine Onw.go (fun _ kt => XS.iloadN X0.here hx rfl (hb hby d29_0) rfl kt) ?_
  show Onw p e below _ (s₁.setTop (mkF m 1 #[.val (.ref r0), .val (.int (0 : Int32)), .val (.int (Int32.ofNat cn)), .unset, .unset] [(.int (0 : Int32))]))
  refine Onw.go (fun _ kt => XS.iloadN X0.here hx rfl (hb hby d29_1) rfl kt) ?_
  show Onw p e below _ (s₁.setTop (mkF m 2 #[.val (.ref r0), .val (.int (0 : Int32)), .val (.int (Int32.ofNat cn)), .unset, .unset] [(.int (Int32.ofNat cn)), (.int (0 : Int32))]))
  obtain ⟨_, _, ⟨T1, L1, k1, n1⟩, -, X1, ⟨Lc1, hQ1, l1, y1, z1⟩, st1⟩ := Jvm.LawKit.callS X0 hx (y := (⟨"java/util/Arrays", "checkLength", "(II)V"⟩ : MethodName)) hown (mvT hZ (hw _ (own_mg (i := 198) rfl))) (mvT hZ (hw _ (own_mg (i := 199) rfl))) (mvT hZ (hw _ (own_mg (i := 193) rfl))) (mvT hZ (hw _ (own_mg (i := 200) rfl))) (by decide) (backOf (W := 0) (rm30 l Z a0 hw [] (0 : Int32) (Int32.ofNat cn)  h0 n0 (own_nneg (by omega))) hZ (hw _ (own_mg (i := 200) rfl)) (hw _ (own_mg (i := 193) rfl)) (by decide) (by decide)) (g := (mkF m 2 #[.val (.ref r0), .val (.int (0 : Int32)), .val (.int (Int32.ofNat cn)), .unset, .unset] [(.int (Int32.ofNat cn)), (.int (0 : Int32))])) rfl (by rw [hml]; rfl) (argsL := [(.int (0 : Int32)), (.int (Int32.ofNat cn))]) (rest := []) (lenOf pd_23 rfl) rfl (by show 2 * 0 + _ ≤ _; exact Nat.le_of_eq rfl) (hb hby d29_2) (fun _ _ => ⟨rfl, e0, (by decide : 0 + 0 ≤ _), (by decide : 0 + 0 ≤ _)⟩)
  dsimp only [Pt.U, Pt.locs, Pt.cells, Pt.slots] at X1 l1 y1 z1 st1 hQ1
  subst l1 y1 z1
  obtain ⟨rfl, N1q, e1q⟩ := hQ1
  have N1 := Fr.app N0 N1q
  refine Onw.go st1 ?_
  show Onw p e below _ (T1.setTop (mkF m 5 #[.val (.ref r0), .val (.int (0 : Int32)), .val (.int (Int32.ofNat cn)), .unset, .unset] []))
  refine Onw.go (fun _ kt => XS.iloadN X1.here hx rfl (hb hby d29_5) rfl kt) ?_
  show Onw p e below _ (T1.setTop (mkF m 6 #[.val (.ref r0), .val (.int (0 : Int32)), .val (.int (Int32.ofNat cn)), .unset, .unset] [(.int (Int32.ofNat cn))]))
  refine Onw.go (fun _ kt => XS.iloadN X1.here hx rfl (hb hby d29_6) rfl kt) ?_
  show Onw p e below _ (T1.setTop (mkF m 7 #[.val (.ref r0), .val (.int (0 : Int32)), .val (.int (Int32.ofNat cn)), .unset, .unset] [(.int (0 : Int32)), (.int (Int32.ofNat cn))]))
  refine Onw.go (fun _ kt => XS.isub X1.here hx rfl (hb hby d29_7) rfl kt) ?_
  show Onw p e below _ (T1.setTop (mkF m 8 #[.val (.ref r0), .val (.int (0 : Int32)), .val (.int (Int32.ofNat cn)), .unset, .unset] [(.int ((Int32.ofNat cn) - (0 : Int32)))]))
  rw [(Int32.sub_zero _ : ((Int32.ofNat cn) - (0 : Int32)) = (Int32.ofNat cn))]
  show Onw p e below _ (T1.setTop (mkF m 8 #[.val (.ref r0), .val (.int (0 : Int32)), .val (.int (Int32.ofNat cn)), .unset, .unset] [(.int (Int32.ofNat cn))]))
  refine Onw.go (fun _ kt => XS.istoreN X1.here hx rfl (hb hby d29_8) rfl (l' := #[.val (.ref r0), .val (.int (0 : Int32)), .val (.int (Int32.ofNat cn)), .val (.int (Int32.ofNat cn)), .unset]) rfl kt) ?_
  show Onw p e below _ (T1.setTop (mkF m 9 #[.val (.ref r0), .val (.int (0 : Int32)), .val (.int (Int32.ofNat cn)), .val (.int (Int32.ofNat cn)), .unset] []))
  refine Onw.go (fun _ kt => XS.iloadN X1.here hx rfl (hb hby d29_9) rfl kt) ?_
  show Onw p e below _ (T1.setTop (mkF m 10 #[.val (.ref r0), .val (.int (0 : Int32)), .val (.int (Int32.ofNat cn)), .val (.int (Int32.ofNat cn)), .unset] [(.int (Int32.ofNat cn))]))
  obtain ⟨T2, h2, k2, X2, e2, E2, A2, EA2, st2⟩ := own_newPE X1 hx hZ (hw _ (own_mg (i := 42) rfl)) e1q (g := (mkF m 10 #[.val (.ref r0), .val (.int (0 : Int32)), .val (.int (Int32.ofNat cn)), .val (.int (Int32.ofNat cn)), .unset] [(.int (Int32.ofNat cn))])) rfl (hb hby d29_10) rfl (own_nneg (by omega)) (cap := 34) (by rw [own_clamp (by omega)]; omega) (by decide) (by decide) (by decide)
  obtain ⟨b, gg2⟩ : ∃ own_z, own_z = h0.size := ⟨_, rfl⟩
  rw [← gg2] at A2 EA2 st2
  refine Onw.go st2 ?_
  show Onw p e below _ (T2.setTop (mkF m 12 #[.val (.ref r0), .val (.int (0 : Int32)), .val (.int (Int32.ofNat cn)), .val (.int (Int32.ofNat cn)), .unset] [(.ref b)]))
  have g_b : n0 ≤ b := Nat.le_trans Z0 (Nat.le_of_eq gg2.symm)
  have V1 := own_newV A2 (by omega)
  refine Onw.go (fun _ kt => XS.astore X2.here hx rfl (hb hby d29_12) rfl rfl (l' := #[.val (.ref r0), .val (.int (0 : Int32)), .val (.int (Int32.ofNat cn)), .val (.int (Int32.ofNat cn)), .val (.ref b)]) rfl kt) ?_
  show Onw p e below _ (T2.setTop (mkF m 14 #[.val (.ref r0), .val (.int (0 : Int32)), .val (.int (Int32.ofNat cn)), .val (.int (Int32.ofNat cn)), .val (.ref b)] []))
  refine Onw.go (fun _ kt => XS.aloadN X2.here hx rfl (hb hby d29_14) rfl rfl kt) ?_
  show Onw p e below _ (T2.setTop (mkF m 15 #[.val (.ref r0), .val (.int (0 : Int32)), .val (.int (Int32.ofNat cn)), .val (.int (Int32.ofNat cn)), .val (.ref b)] [(.ref r0)]))
  refine Onw.go (fun _ kt => XS.iloadN X2.here hx rfl (hb hby d29_15) rfl kt) ?_
  show Onw p e below _ (T2.setTop (mkF m 16 #[.val (.ref r0), .val (.int (0 : Int32)), .val (.int (Int32.ofNat cn)), .val (.int (Int32.ofNat cn)), .val (.ref b)] [(.int (0 : Int32)), (.ref r0)]))
  refine Onw.go (fun _ kt => XS.aload X2.here hx rfl (hb hby d29_16) rfl rfl kt) ?_
  show Onw p e below _ (T2.setTop (mkF m 18 #[.val (.ref r0), .val (.int (0 : Int32)), .val (.int (Int32.ofNat cn)), .val (.int (Int32.ofNat cn)), .val (.ref b)] [(.ref b), (.int (0 : Int32)), (.ref r0)]))
  refine Onw.go (fun _ kt => XS.iconst X2.here hx rfl (hb hby d29_18) kt) ?_
  show Onw p e below _ (T2.setTop (mkF m 19 #[.val (.ref r0), .val (.int (0 : Int32)), .val (.int (Int32.ofNat cn)), .val (.int (Int32.ofNat cn)), .val (.ref b)] [(.int (0 : Int32)), (.ref b), (.int (0 : Int32)), (.ref r0)]))
  refine Onw.go (fun _ kt => XS.aloadN X2.here hx rfl (hb hby d29_19) rfl rfl kt) ?_
  show Onw p e below _ (T2.setTop (mkF m 20 #[.val (.ref r0), .val (.int (0 : Int32)), .val (.int (Int32.ofNat cn)), .val (.int (Int32.ofNat cn)), .val (.ref b)] [(.ref r0), (.int (0 : Int32)), (.ref b), (.int (0 : Int32)), (.ref r0)]))
  refine Onw.go (X2.arraylength hx (by rw [e2]; exact (A0.ext E2).1) (State.isArrayOf_alike hZ.alike (A0.ext E2).2.1) (g := (mkF m 20 #[.val (.ref r0), .val (.int (0 : Int32)), .val (.int (Int32.ofNat cn)), .val (.int (Int32.ofNat cn)), .val (.ref b)] [(.ref r0), (.int (0 : Int32)), (.ref b), (.int (0 : Int32)), (.ref r0)])) rfl rfl (hb hby d29_20)) ?_
  rw [len_of S0 Q0]
  show Onw p e below _ (T2.setTop (mkF m 21 #[.val (.ref r0), .val (.int (0 : Int32)), .val (.int (Int32.ofNat cn)), .val (.int (Int32.ofNat cn)), .val (.ref b)] [(.int (Int32.ofNat xs.length)), (.int (0 : Int32)), (.ref b), (.int (0 : Int32)), (.ref r0)]))
  refine Onw.go (fun _ kt => XS.iloadN X2.here hx rfl (hb hby d29_21) rfl kt) ?_
  show Onw p e below _ (T2.setTop (mkF m 22 #[.val (.ref r0), .val (.int (0 : Int32)), .val (.int (Int32.ofNat cn)), .val (.int (Int32.ofNat cn)), .val (.ref b)] [(.int (0 : Int32)), (.int (Int32.ofNat xs.length)), (.int (0 : Int32)), (.ref b), (.int (0 : Int32)), (.ref r0)]))
  refine Onw.go (fun _ kt => XS.isub X2.here hx rfl (hb hby d29_22) rfl kt) ?_
  show Onw p e below _ (T2.setTop (mkF m 23 #[.val (.ref r0), .val (.int (0 : Int32)), .val (.int (Int32.ofNat cn)), .val (.int (Int32.ofNat cn)), .val (.ref b)] [(.int ((Int32.ofNat xs.length) - (0 : Int32))), (.int (0 : Int32)), (.ref b), (.int (0 : Int32)), (.ref r0)]))
  rw [(Int32.sub_zero _ : ((Int32.ofNat xs.length) - (0 : Int32)) = (Int32.ofNat xs.length))]
  show Onw p e below _ (T2.setTop (mkF m 23 #[.val (.ref r0), .val (.int (0 : Int32)), .val (.int (Int32.ofNat cn)), .val (.int (Int32.ofNat cn)), .val (.ref b)] [(.int (Int32.ofNat xs.length)), (.int (0 : Int32)), (.ref b), (.int (0 : Int32)), (.ref r0)]))
  refine Onw.go (fun _ kt => XS.iloadN X2.here hx rfl (hb hby d29_23) rfl kt) ?_
  show Onw p e below _ (T2.setTop (mkF m 24 #[.val (.ref r0), .val (.int (0 : Int32)), .val (.int (Int32.ofNat cn)), .val (.int (Int32.ofNat cn)), .val (.ref b)] [(.int (Int32.ofNat cn)), (.int (Int32.ofNat xs.length)), (.int (0 : Int32)), (.ref b), (.int (0 : Int32)), (.ref r0)]))
  obtain ⟨_, _, ⟨T3, L3, k3, n3⟩, -, X3, ⟨Lc3, hQ3, l3, y3, z3⟩, st3⟩ := Jvm.LawKit.callS X2 hx (y := (⟨"java/lang/Math", "min", "(II)I"⟩ : MethodName)) hown (mvT hZ (hw _ (own_mg (i := 201) rfl))) (mvT hZ (hw _ (own_mg (i := 202) rfl))) (mvT hZ (hw _ (own_mg (i := 203) rfl))) (mvT hZ (hw _ (own_mg (i := 204) rfl))) (by decide) (backOf (W := 4) (rm31 l Z a0 hw [] (Int32.ofNat xs.length) (Int32.ofNat cn)  h2 n0 ) hZ (hw _ (own_mg (i := 204) rfl)) (hw _ (own_mg (i := 203) rfl)) (by decide) (by decide)) (g := (mkF m 24 #[.val (.ref r0), .val (.int (0 : Int32)), .val (.int (Int32.ofNat cn)), .val (.int (Int32.ofNat cn)), .val (.ref b)] [(.int (Int32.ofNat cn)), (.int (Int32.ofNat xs.length)), (.int (0 : Int32)), (.ref b), (.int (0 : Int32)), (.ref r0)])) rfl (by rw [hml]; rfl) (argsL := [(.int (Int32.ofNat xs.length)), (.int (Int32.ofNat cn))]) (rest := [(.int (0 : Int32)), (.ref b), (.int (0 : Int32)), (.ref r0)]) (lenOf pd_24 rfl) rfl (by show 2 * 0 + _ ≤ _; exact Nat.le_of_eq rfl) (hb hby d29_24) (fun _ _ => ⟨rfl, e2, (by decide : 1 + 0 ≤ _), (by decide : 34 + 0 ≤ _)⟩)
  dsimp only [Pt.U, Pt.locs, Pt.cells, Pt.slots] at X3 l3 y3 z3 st3 hQ3
  subst l3 y3 z3
  obtain ⟨rfl, N3q, e3q⟩ := hQ3
  have N3 := Fr.app N1 N3q
  refine Onw.go st3 ?_
  show Onw p e below _ (T3.setTop (mkF m 27 #[.val (.ref r0), .val (.int (0 : Int32)), .val (.int (Int32.ofNat cn)), .val (.int (Int32.ofNat cn)), .val (.ref b)] [(.int (own_min (Int32.ofNat xs.length) (Int32.ofNat cn))), (.int (0 : Int32)), (.ref b), (.int (0 : Int32)), (.ref r0)]))
  rw [(own_minc hc (by omega) : (own_min (Int32.ofNat xs.length) (Int32.ofNat cn)) = (Int32.ofNat cn))]
  show Onw p e below _ (T3.setTop (mkF m 27 #[.val (.ref r0), .val (.int (0 : Int32)), .val (.int (Int32.ofNat cn)), .val (.int (Int32.ofNat cn)), .val (.ref b)] [(.int (Int32.ofNat cn)), (.int (0 : Int32)), (.ref b), (.int (0 : Int32)), (.ref r0)]))
  obtain ⟨T4, h4, L4, X4, e4, N4, K4, V4, st4⟩ := own_cpB (zs := xs.take cn) (d := 0) (n := cn) X3 hx hZ hown (hw _ (own_mg (i := 205) rfl)) (hw _ (own_mg (i := 162) rfl)) (hw _ (own_mg (i := 160) rfl)) (hw _ (own_mg (i := 161) rfl)) e3q (V0.ext E2) V1 rfl rfl rfl (by omega) (by rw [List.length_replicate]; omega) (by omega) (by rw [List.length_replicate]; omega) (by simp) N3 g_b (g := (mkF m 27 #[.val (.ref r0), .val (.int (0 : Int32)), .val (.int (Int32.ofNat cn)), .val (.int (Int32.ofNat cn)), .val (.ref b)] [(.int (Int32.ofNat cn)), (.int (0 : Int32)), (.ref b), (.int (0 : Int32)), (.ref r0)])) rfl (by rw [hml]; rfl) rfl (hb hby d29_27) (by decide) (W := 0) (by show 2 * 0 + _ ≤ _; exact Nat.le_of_eq rfl) (by decide)
  refine Onw.go st4 ?_
  show Onw p e below _ (T4.setTop (mkF m 30 #[.val (.ref r0), .val (.int (0 : Int32)), .val (.int (Int32.ofNat cn)), .val (.int (Int32.ofNat cn)), .val (.ref b)] []))
  refine Onw.go (fun _ kt => XS.aload X4.here hx rfl (hb hby d29_30) rfl rfl kt) ?_
  show Onw p e below _ (T4.setTop (mkF m 32 #[.val (.ref r0), .val (.int (0 : Int32)), .val (.int (Int32.ofNat cn)), .val (.int (Int32.ofNat cn)), .val (.ref b)] [(.ref b)]))
  exact Onw.ret X4 Bd.notSynchronized (fun h => by rw [Bd.returns] at h; cases h) (fun fs hr => X4.areturnOut hx rfl Bd.returns rfl (hb hby d29_32) hr) ⟨b, k2, rfl, N4, by rw [e4]; exact own_extk E2 K4 (Nat.le_of_eq gg2.symm), g_b, Nat.le_of_eq gg2.symm, by rw [e4]; exact V4, by rw [e4]; exact EA2.keep K4⟩ (by decide) (by decide)
theorem ef_28 (m : MethodId) (x0 : Addr) (x1 : Int32) (x2 : Int32) : entryFrame m #[(.ref x0), (.int x1), (.int x2)] 3 = mkF m 0 #[.val (.ref x0), .val (.int x1), .val (.int x2)] [] := by first | (simp [entryFrame, mkF, argsToLocals, Value.category]; done) | rfl
def Q_rm28 (Z : State) (r0 : Addr) (p1 : Int32) (p2 : Int32) (k1 : ClassId) (xs : List Int32) (cn : Nat) (h0 : Heap) (n0 : Nat) (v : Option Value) (h : Heap) (L : List Loc) : Prop := ∃ (b : Addr) (kb : ClassId), v = some (.ref b) ∧ Fr n0 L ∧ Ext h0 h ∧ n0 ≤ b ∧ h0.size ≤ b ∧ Arv Z h b kb .byte (Int32.ofNat (xs.take cn).length) ((xs.take cn).map Value.int) (.int (0 : Int32)) ∧ Exa Z h b "[B"
theorem d28_0 : decode jdk_65_method_132_code 0 = .ok (.iload_n 1, 1) := by decide +kernel
theorem d28_1 : decode jdk_65_method_132_code 1 = .ok (.ifCond .ne 9, 3) := by decide +kernel
theorem d28_4 : decode jdk_65_method_132_code 4 = .ok (.iload_n 2, 1) := by decide +kernel
theorem d28_5 : decode jdk_65_method_132_code 5 = .ok (.aload_n 0, 1) := by decide +kernel
theorem d28_6 : decode jdk_65_method_132_code 6 = .ok (.arraylength, 1) := by decide +kernel
theorem d28_7 : decode jdk_65_method_132_code 7 = .ok (.if_icmp .eq 10, 3) := by decide +kernel
theorem d28_10 : decode jdk_65_method_132_code 10 = .ok (.aload_n 0, 1) := by decide +kernel
theorem d28_11 : decode jdk_65_method_132_code 11 = .ok (.iload_n 1, 1) := by decide +kernel
theorem d28_12 : decode jdk_65_method_132_code 12 = .ok (.iload_n 2, 1) := by decide +kernel
theorem d28_13 : decode jdk_65_method_132_code 13 = .ok (.invokestatic 339, 3) := by decide +kernel
theorem d28_16 : decode jdk_65_method_132_code 16 = .ok (.areturn, 1) := by decide +kernel
theorem d28_17 : decode jdk_65_method_132_code 17 = .ok (.aload_n 0, 1) := by decide +kernel
theorem d28_18 : decode jdk_65_method_132_code 18 = .ok (.invokevirtual 310, 3) := by decide +kernel
theorem d28_21 : decode jdk_65_method_132_code 21 = .ok (.checkcast 311, 3) := by decide +kernel
theorem d28_24 : decode jdk_65_method_132_code 24 = .ok (.areturn, 1) := by decide +kernel
set_option maxRecDepth 65536 in
set_option maxHeartbeats 40000000 in
theorem rm28 (l : Launch) (Z : State) (a0 : Array Value) (hw : ∀ d ∈ tables_1, d.before a0 Z = true) (ws : List Jvm.Cond) (r0 : Addr) (p1 : Int32) (p2 : Int32) (k1 : ClassId) (xs : List Int32) (cn : Nat) (h0 : Heap) (n0 : Nat) (V0 : Arv Z h0 r0 k1 .byte (Int32.ofNat (xs).length) ((xs).map Value.int) (.int (0 : Int32))) (h1 : p1 = 0) (h2 : p2 = Int32.ofNat cn) (hc : cn ≤ xs.length) (lx : xs.length ≤ 34) (Z0 : n0 ≤ h0.size) (EA : Exa Z h0 r0 "[B") :
    MetFree l (⟨"java/util/Arrays", "copyOfRange", "([BII)[B"⟩ : MethodName) (head1 (Jvm.Cond.code (⟨"java/util/Arrays", "copyOfRange", "([BII)[B"⟩ : MethodName) jdk_65_method_132_code 3 (some (.array .byte)) :: ws) ({ frames := 2, cells := 1, slots := 34, locals := 34 } : Room)) (fun a U => a = #[(.ref r0), (.int p1), (.int p2)] ∧ Z.Warmed39 U.vm ∧ U.heap = h0) (fun _ _ _ _ _ => True) (fun _ U o U' => ∃ v L, o = .returned v ∧ Q_rm28 Z r0 p1 p2 k1 xs cn h0 n0 v U'.heap L ∧ FrameEnd U o U' L ({ frames := 2, cells := 1, slots := 34, locals := 34 } : Room).cells ({ frames := 2, cells := 1, slots := 34, locals := 34 } : Room).slots) := by
  refine MetFree.of_bodySF (plainFor_of_name pn_6) hisR ?_
  intro p e s m args below meth c s₁ Bd hml0 hP hK
  obtain ⟨rfl, hZ, hh⟩ := hP
  have hx := Bd.exec
  have hby := Bd.bytes
  have hml : c.maxLocals = 3 := hml0
  have hown : s.vm.findClass "java/util/Arrays" = some m.cls := findClass_of_methodNamed Bd.named
  have hnm := (name_of_methodNamed Bd.named Bd.method).1
  have X0 : Stand p l e ({ frames := 2, cells := 1, slots := 34, locals := 34 } : Room) s m #[(.ref r0), (.int p1), (.int p2)] below meth c s₁ [] 0 0 := Stand.of_body Bd
  have e0 : s₁.heap = h0 := by rw [← hh, Bd.state]; rfl
  have N0 := Fr.nil n0
  refine Onw.of (Onw.go (fun _ k => castTop (ef_28 m r0 p1 p2) k) ?_)
  show Onw p e below _ (s₁.setTop (mkF m 0 #[.val (.ref r0), .val (.int p1), .val (.int p2)] []))
  subst h1 h2
  show Onw p e below _ (s₁.setTop (mkF m 0 #[.val (.ref r0), .val (.int (0 : Int32)), .val (.int (Int32.ofNat cn))] []))
  obtain ⟨c0, A0, qa0, S0, Q0, H0, G0⟩ := id V0
  refine Onw.go (fun _ kt => XS.iloadN X0.here hx rfl (hb hby d28_0) rfl kt) ?_
  show Onw p e below _ (s₁.setTop (mkF m 1 #[.val (.ref r0), .val (.int (0 : Int32)), .val (.int (Int32.ofNat cn))] [(.int (0 : Int32))]))
  refine Onw.go (fun _ kt => XS.ifNo X0.here hx rfl (hb hby d28_1) rfl ((if0 _ _).trans (teq (rfl : (0 : Int32) = (0 : Int32))).2) kt) ?_
  show Onw p e below _ (s₁.setTop (mkF m 4 #[.val (.ref r0), .val (.int (0 : Int32)), .val (.int (Int32.ofNat cn))] []))
  refine Onw.go (fun _ kt => XS.iloadN X0.here hx rfl (hb hby d28_4) rfl kt) ?_
  show Onw p e below _ (s₁.setTop (mkF m 5 #[.val (.ref r0), .val (.int (0 : Int32)), .val (.int (Int32.ofNat cn))] [(.int (Int32.ofNat cn))]))
  refine Onw.go (fun _ kt => XS.aloadN X0.here hx rfl (hb hby d28_5) rfl rfl kt) ?_
  show Onw p e below _ (s₁.setTop (mkF m 6 #[.val (.ref r0), .val (.int (0 : Int32)), .val (.int (Int32.ofNat cn))] [(.ref r0), (.int (Int32.ofNat cn))]))
  refine Onw.go (X0.arraylength hx (by rw [e0]; exact A0.1) (State.isArrayOf_alike hZ.alike A0.2.1) (g := (mkF m 6 #[.val (.ref r0), .val (.int (0 : Int32)), .val (.int (Int32.ofNat cn))] [(.ref r0), (.int (Int32.ofNat cn))])) rfl rfl (hb hby d28_6)) ?_
  rw [len_of S0 Q0]
  show Onw p e below _ (s₁.setTop (mkF m 7 #[.val (.ref r0), .val (.int (0 : Int32)), .val (.int (Int32.ofNat cn))] [(.int (Int32.ofNat xs.length)), (.int (Int32.ofNat cn))]))
  by_cases h1 : (Int32.ofNat cn) = (Int32.ofNat xs.length)
  · refine Onw.go (fun _ kt => XS.icmpYes X0.here hx rfl (pc0 := 7) (pc' := 17) rfl (hb hby d28_7) rfl (teq (h1 : (Int32.ofNat cn) = (Int32.ofNat xs.length))).1 (by decide) (by decide) kt) ?_
    show Onw p e below _ (s₁.setTop (mkF m 17 #[.val (.ref r0), .val (.int (0 : Int32)), .val (.int (Int32.ofNat cn))] []))
    have hcx := own_inj (by omega) (by omega) h1
    refine Onw.go (fun _ kt => XS.aloadN X0.here hx rfl (hb hby d28_17) rfl rfl kt) ?_
    show Onw p e below _ (s₁.setTop (mkF m 18 #[.val (.ref r0), .val (.int (0 : Int32)), .val (.int (Int32.ofNat cn))] [(.ref r0)]))
    obtain ⟨T1, h1, X1, e1, E1, A1, EA1, st1⟩ := cloneA X0 hx hZ hown (hw _ (own_mg (i := 258) rfl)) (hw _ (own_mg (i := 259) rfl)) (hw _ (own_mg (i := 263) rfl)) (hw _ (own_mg (i := 261) rfl)) (hw _ (own_mg (i := 262) rfl)) (hw _ (own_mg (i := 264) rfl)) e0 A0 EA (own_fitc A0 H0 G0) (g := (mkF m 18 #[.val (.ref r0), .val (.int (0 : Int32)), .val (.int (Int32.ofNat cn))] [(.ref r0)])) rfl (by rw [hml]; rfl) rfl (hb hby d28_18) (by decide) (W := 0) (cap := 34) (by show 2 * 0 + _ ≤ _; exact Nat.le_of_eq rfl) (by decide) (by rw [S0, own_clamp (by omega)]; exact lx) (by decide) (by decide)
    obtain ⟨b, gg1⟩ : ∃ own_z, own_z = h0.size := ⟨_, rfl⟩
    rw [← gg1] at A1 EA1 st1
    refine Onw.go st1 ?_
    show Onw p e below _ (T1.setTop (mkF m 21 #[.val (.ref r0), .val (.int (0 : Int32)), .val (.int (Int32.ofNat cn))] [(.ref b)]))
    obtain ⟨T2, X2, e2, st2⟩ := castY X1 hx hZ hown (hw _ (own_mg (i := 265) rfl)) e1 (Ins.self EA1) (g := (mkF m 21 #[.val (.ref r0), .val (.int (0 : Int32)), .val (.int (Int32.ofNat cn))] [(.ref b)])) rfl rfl (hb hby d28_21)
    refine Onw.go st2 ?_
    show Onw p e below _ (T2.setTop (mkF m 24 #[.val (.ref r0), .val (.int (0 : Int32)), .val (.int (Int32.ofNat cn))] [(.ref b)]))
    have V1 : Arv Z h1 b k1 .byte (Int32.ofNat (xs).length) ((xs).map Value.int) (.int (0 : Int32)) := ⟨cloneOf c0, A1, qa0, S0, Q0, H0, G0⟩
    have e5 : xs.take cn = xs := by rw [hcx]; exact List.take_length
    exact Onw.ret X2 Bd.notSynchronized (fun h => by rw [Bd.returns] at h; cases h) (fun fs hr => X2.areturnOut hx rfl Bd.returns rfl (hb hby d28_24) hr) ⟨b, k1, rfl, N0, by rw [e2]; exact E1, Nat.le_trans Z0 (Nat.le_of_eq gg1.symm), Nat.le_of_eq gg1.symm, by rw [e2, e5]; exact V1, by rw [e2]; exact EA1⟩ (by decide) (by decide)
  · refine Onw.go (fun _ kt => XS.icmpNo X0.here hx rfl (hb hby d28_7) rfl (feq (h1 : ¬ ((Int32.ofNat cn) = (Int32.ofNat xs.length)))).1 kt) ?_
    show Onw p e below _ (s₁.setTop (mkF m 10 #[.val (.ref r0), .val (.int (0 : Int32)), .val (.int (Int32.ofNat cn))] []))
    refine Onw.go (fun _ kt => XS.aloadN X0.here hx rfl (hb hby d28_10) rfl rfl kt) ?_
    show Onw p e below _ (s₁.setTop (mkF m 11 #[.val (.ref r0), .val (.int (0 : Int32)), .val (.int (Int32.ofNat cn))] [(.ref r0)]))
    refine Onw.go (fun _ kt => XS.iloadN X0.here hx rfl (hb hby d28_11) rfl kt) ?_
    show Onw p e below _ (s₁.setTop (mkF m 12 #[.val (.ref r0), .val (.int (0 : Int32)), .val (.int (Int32.ofNat cn))] [(.int (0 : Int32)), (.ref r0)]))
    refine Onw.go (fun _ kt => XS.iloadN X0.here hx rfl (hb hby d28_12) rfl kt) ?_
    show Onw p e below _ (s₁.setTop (mkF m 13 #[.val (.ref r0), .val (.int (0 : Int32)), .val (.int (Int32.ofNat cn))] [(.int (Int32.ofNat cn)), (.int (0 : Int32)), (.ref r0)]))
    obtain ⟨_, _, ⟨T3, L3, k3, n3⟩, -, X3, ⟨Lc3, hQ3, l3, y3, z3⟩, st3⟩ := Jvm.LawKit.callS X0 hx (y := (⟨"java/util/Arrays", "copyOfRangeByte", "([BII)[B"⟩ : MethodName)) hown (mvT hZ (hw _ (own_mg (i := 195) rfl))) (mvT hZ (hw _ (own_mg (i := 196) rfl))) (mvT hZ (hw _ (own_mg (i := 193) rfl))) (mvT hZ (hw _ (own_mg (i := 197) rfl))) (by decide) (backOf (W := 0) (rm29 l Z a0 hw [] r0 (0 : Int32) (Int32.ofNat cn) k1 xs cn h0 n0 V0 rfl rfl hc lx Z0) hZ (hw _ (own_mg (i := 197) rfl)) (hw _ (own_mg (i := 193) rfl)) (by decide) (by decide)) (g := (mkF m 13 #[.val (.ref r0), .val (.int (0 : Int32)), .val (.int (Int32.ofNat cn))] [(.int (Int32.ofNat cn)), (.int (0 : Int32)), (.ref r0)])) rfl (by rw [hml]; rfl) (argsL := [(.ref r0), (.int (0 : Int32)), (.int (Int32.ofNat cn))]) (rest := []) (lenOf pd_22 rfl) rfl (by show 2 * 0 + _ ≤ _; exact Nat.le_of_eq rfl) (hb hby d28_13) (fun _ _ => ⟨rfl, e0, (by decide : 0 + 1 ≤ _), (by decide : 0 + 34 ≤ _)⟩)
    dsimp only [Pt.U, Pt.locs, Pt.cells, Pt.slots] at X3 l3 y3 z3 st3 hQ3
    subst l3 y3 z3
    obtain ⟨b3, kb3, rfl, N3q, q3r⟩ := hQ3
    have N3 := Fr.app N0 N3q
    refine Onw.go st3 ?_
    show Onw p e below _ (T3.setTop (mkF m 16 #[.val (.ref r0), .val (.int (0 : Int32)), .val (.int (Int32.ofNat cn))] [(.ref b3)]))
    exact Onw.ret X3 Bd.notSynchronized (fun h => by rw [Bd.returns] at h; cases h) (fun fs hr => X3.areturnOut hx rfl Bd.returns rfl (hb hby d28_16) hr) ⟨b3, kb3, rfl, N3, q3r⟩ (by decide) (by decide)
theorem own_vc {Z : State} {a0 : Array Value} (hw : ∀ d ∈ tables_1, d.before a0 Z = true) {h h' : Heap} {a : Addr} {v w : Value} (F : Fld Z h a "java/lang/String" "coder" "B" v) (W : Wr h h' a (Jvm.RoadKit.slotOf Z "java/lang/String" "value" "[B") w) : Fld Z h' a "java/lang/String" "coder" "B" v := F.other W (Or.inr (slot_ne (Or.inr (hw _ (own_mg (i := 44) rfl))) (Or.inr (hw _ (own_mg (i := 43) rfl))) (by decide) (t := .byte) (t' := (.array .byte)) (by decide) (by decide)))
theorem own_cv {Z : State} {a0 : Array Value} (hw : ∀ d ∈ tables_1, d.before a0 Z = true) {h h' : Heap} {a : Addr} {v w : Value} (F : Fld Z h a "java/lang/String" "value" "[B" v) (W : Wr h h' a (Jvm.RoadKit.slotOf Z "java/lang/String" "coder" "B") w) : Fld Z h' a "java/lang/String" "value" "[B" v := F.other W (Or.inr (slot_ne (Or.inr (hw _ (own_mg (i := 43) rfl))) (Or.inr (hw _ (own_mg (i := 44) rfl))) (by decide) (t := (.array .byte)) (t' := .byte) (by decide) (by decide)))
theorem ef_24_2 (m : MethodId) (x0 : Addr) (x1 : Addr) : entryFrame m #[(.ref x0), (.ref x1), .null] 5 = mkF m 0 #[.val (.ref x0), .val (.ref x1), .val .null, .unset, .unset] [] := by first | (simp [entryFrame, mkF, argsToLocals, Value.category]; done) | rfl
def Q_rm24 (Z : State) (r0 : Addr) (r1 : Addr) (zc : Int32) (v1 : Addr) (k1 : ClassId) (xs : List Int32) (cn : Nat) (h0 : Heap) (n0 : Nat) (v : Option Value) (h : Heap) (L : List Loc) : Prop := v = none ∧ Fr n0 L ∧ Keep h0 h [r0] ∧ ∃ (b : Addr) (kb : ClassId), n0 ≤ b ∧ own_ST Z h r0 b ∧ Arv Z h b kb .byte (Int32.ofNat (xs.take cn).length) ((xs.take cn).map Value.int) (.int (0 : Int32))
theorem d24_0 : decode jdk_42_method_150_code 0 = .ok (.aload_n 0, 1) := by decide +kernel
theorem d24_1 : decode jdk_42_method_150_code 1 = .ok (.invokespecial 1, 3) := by decide +kernel
theorem d24_4 : decode jdk_42_method_150_code 4 = .ok (.aload_n 1, 1) := by decide +kernel
theorem d24_5 : decode jdk_42_method_150_code 5 = .ok (.invokevirtual 552, 3) := by decide +kernel
theorem d24_8 : decode jdk_42_method_150_code 8 = .ok (.astore_n 3, 1) := by decide +kernel
theorem d24_9 : decode jdk_42_method_150_code 9 = .ok (.aload_n 1, 1) := by decide +kernel
theorem d24_10 : decode jdk_42_method_150_code 10 = .ok (.invokevirtual 549, 3) := by decide +kernel
theorem d24_13 : decode jdk_42_method_150_code 13 = .ok (.istore 4, 2) := by decide +kernel
theorem d24_15 : decode jdk_42_method_150_code 15 = .ok (.aload_n 1, 1) := by decide +kernel
theorem d24_16 : decode jdk_42_method_150_code 16 = .ok (.invokevirtual 1047, 3) := by decide +kernel
theorem d24_19 : decode jdk_42_method_150_code 19 = .ok (.ifCond .eq 22, 3) := by decide +kernel
theorem d24_22 : decode jdk_42_method_150_code 22 = .ok (.aload_n 0, 1) := by decide +kernel
theorem d24_23 : decode jdk_42_method_150_code 23 = .ok (.iconst 0, 1) := by decide +kernel
theorem d24_24 : decode jdk_42_method_150_code 24 = .ok (.putfield 15, 3) := by decide +kernel
theorem d24_27 : decode jdk_42_method_150_code 27 = .ok (.aload_n 0, 1) := by decide +kernel
theorem d24_28 : decode jdk_42_method_150_code 28 = .ok (.aload_n 3, 1) := by decide +kernel
theorem d24_29 : decode jdk_42_method_150_code 29 = .ok (.iconst 0, 1) := by decide +kernel
theorem d24_30 : decode jdk_42_method_150_code 30 = .ok (.iload 4, 2) := by decide +kernel
theorem d24_32 : decode jdk_42_method_150_code 32 = .ok (.invokestatic 54, 3) := by decide +kernel
theorem d24_35 : decode jdk_42_method_150_code 35 = .ok (.putfield 9, 3) := by decide +kernel
theorem d24_38 : decode jdk_42_method_150_code 38 = .ok (.goto 59, 3) := by decide +kernel
theorem d24_97 : decode jdk_42_method_150_code 97 = .ok (.return_, 1) := by decide +kernel
set_option maxRecDepth 65536 in
set_option maxHeartbeats 40000000 in
theorem rm24 (l : Launch) (Z : State) (a0 : Array Value) (hw : ∀ d ∈ tables_1, d.before a0 Z = true) (ws : List Jvm.Cond) (r0 : Addr) (r1 : Addr) (zc : Int32) (v1 : Addr) (k1 : ClassId) (xs : List Int32) (cn : Nat) (h0 : Heap) (n0 : Nat) (E0 : Exa Z h0 r0 "java/lang/String") (F1 : Fld Z h0 r0 "java/lang/String" "value" "[B" .null) (F2 : Fld Z h0 r0 "java/lang/String" "coder" "B" (.int (0 : Int32))) (M0 : own_SB Z h0 r1 (.ref v1) (.int (0 : Int32)) (.int (Int32.ofNat cn))) (V0 : Arv Z h0 v1 k1 .byte (Int32.ofNat (xs).length) ((xs).map Value.int) (.int (0 : Int32))) (EA : Exa Z h0 v1 "[B") (S_C : Sta Z h0 "java/lang/String" "COMPACT_STRINGS" "Z" (.int zc)) (hz : ¬ zc = 0) (ne1 : v1 ≠ r0) (hc : cn ≤ xs.length) (lx : xs.length ≤ 34) (g_r0 : n0 ≤ r0) (Z0 : n0 ≤ h0.size) :
    MetFree l (⟨"java/lang/String", "<init>", "(Ljava/lang/AbstractStringBuilder;Ljava/lang/Void;)V"⟩ : MethodName) (head1 (Jvm.Cond.code (⟨"java/lang/String", "<init>", "(Ljava/lang/AbstractStringBuilder;Ljava/lang/Void;)V"⟩ : MethodName) jdk_42_method_150_code 5 none :: ws) ({ frames := 3, cells := 1, slots := 34, locals := 49 } : Room)) (fun a U => a = #[(.ref r0), (.ref r1), .null] ∧ Z.Warmed39 U.vm ∧ U.heap = h0) (fun _ _ _ _ _ => True) (fun _ U o U' => ∃ v L, o = .returned v ∧ Q_rm24 Z r0 r1 zc v1 k1 xs cn h0 n0 v U'.heap L ∧ FrameEnd U o U' L ({ frames := 3, cells := 1, slots := 34, locals := 49 } : Room).cells ({ frames := 3, cells := 1, slots := 34, locals := 49 } : Room).slots) := by
  refine MetFree.of_bodySF (plainFor_of_name pn_8) hisR ?_
  intro p e s m args below meth c s₁ Bd hml0 hP hK
  obtain ⟨rfl, hZ, hh⟩ := hP
  have hx := Bd.exec
  have hby := Bd.bytes
  have hml : c.maxLocals = 5 := hml0
  have hown : s.vm.findClass "java/lang/String" = some m.cls := findClass_of_methodNamed Bd.named
  have hnm := (name_of_methodNamed Bd.named Bd.method).1
  have X0 : Stand p l e ({ frames := 3, cells := 1, slots := 34, locals := 49 } : Room) s m #[(.ref r0), (.ref r1), .null] below meth c s₁ [] 0 0 := Stand.of_body Bd
  have e0 : s₁.heap = h0 := by rw [← hh, Bd.state]; rfl
  have N0 := Fr.nil n0
  refine Onw.of (Onw.go (fun _ k => castTop (ef_24_2 m r0 r1) k) ?_)
  show Onw p e below _ (s₁.setTop (mkF m 0 #[.val (.ref r0), .val (.ref r1), .val .null, .unset, .unset] []))
  refine Onw.go (fun _ kt => XS.aloadN X0.here hx rfl (hb hby d24_0) rfl rfl kt) ?_
  show Onw p e below _ (s₁.setTop (mkF m 1 #[.val (.ref r0), .val (.ref r1), .val .null, .unset, .unset] [(.ref r0)]))
  obtain ⟨T1, X1, e1, st1⟩ := initO X0 hx hZ hown (hw _ (own_mg (i := 176) rfl)) (hw _ (own_mg (i := 37) rfl)) (hw _ (own_mg (i := 38) rfl)) e0 (g := (mkF m 1 #[.val (.ref r0), .val (.ref r1), .val .null, .unset, .unset] [(.ref r0)])) rfl (by rw [hml]; rfl) rfl (hb hby d24_1) (by decide) (W := 0) (by show 2 * 0 + _ ≤ _; exact Nat.le_of_eq rfl) (by decide)
  refine Onw.go st1 ?_
  show Onw p e below _ (T1.setTop (mkF m 4 #[.val (.ref r0), .val (.ref r1), .val .null, .unset, .unset] []))
  refine Onw.go (fun _ kt => XS.aloadN X1.here hx rfl (hb hby d24_4) rfl rfl kt) ?_
  show Onw p e below _ (T1.setTop (mkF m 5 #[.val (.ref r0), .val (.ref r1), .val .null, .unset, .unset] [(.ref r1)]))
  obtain ⟨cq2, kq2, q2a, q2b, q2c⟩ := isOf hZ e1 M0.1
  obtain ⟨_, _, ⟨T2, L2, k2, n2⟩, -, X2, ⟨Lc2, hQ2, l2, y2, z2⟩, st2⟩ := X1.virtualBack hx (y := (⟨"java/lang/AbstractStringBuilder", "getValue", "()[B"⟩ : MethodName)) (z := (⟨"java/lang/AbstractStringBuilder", "getValue", "()[B"⟩ : MethodName)) hown (mvT hZ (hw _ (own_mg (i := 177) rfl))) (mvT hZ (hw _ (own_mg (i := 178) rfl))) (notFace_of_selects (args := #[]) (mvT hZ (hw _ (own_mg (i := 180) rfl)))) (mvT hZ (hw _ (own_mg (i := 180) rfl))) (mvT hZ (hw _ (own_mg (i := 179) rfl))) (by decide) (backOf (W := 0) (rm25 l Z a0 hw [] r1 v1 (.int (0 : Int32)) (.int (Int32.ofNat cn)) h0 n0 M0) hZ (hw _ (own_mg (i := 181) rfl)) (hw _ (own_mg (i := 78) rfl)) (by decide) (by decide)) q2a q2c (g := (mkF m 5 #[.val (.ref r0), .val (.ref r1), .val .null, .unset, .unset] [(.ref r1)])) rfl (by rw [hml]; rfl) (Steps.refl _) (argsL := []) (rest := []) (lenOf pd_21 rfl) rfl (by show 2 * 0 + _ ≤ _; exact Nat.le_of_eq rfl) (hb hby d24_5) (fun _ _ => ⟨rfl, e1, (by decide : 0 + 0 ≤ _), (by decide : 0 + 0 ≤ _)⟩)
  dsimp only [Pt.U, Pt.locs, Pt.cells, Pt.slots] at X2 l2 y2 z2 st2 hQ2
  subst l2 y2 z2
  obtain ⟨rfl, N2q, e2q⟩ := hQ2
  have N2 := Fr.app N0 N2q
  refine Onw.go (fun _ kt => st2.trans kt) ?_
  show Onw p e below _ (T2.setTop (mkF m 8 #[.val (.ref r0), .val (.ref r1), .val .null, .unset, .unset] [(.ref v1)]))
  refine Onw.go (fun _ kt => XS.astoreN X2.here hx rfl (hb hby d24_8) rfl rfl (l' := #[.val (.ref r0), .val (.ref r1), .val .null, .val (.ref v1), .unset]) rfl kt) ?_
  show Onw p e below _ (T2.setTop (mkF m 9 #[.val (.ref r0), .val (.ref r1), .val .null, .val (.ref v1), .unset] []))
  refine Onw.go (fun _ kt => XS.aloadN X2.here hx rfl (hb hby d24_9) rfl rfl kt) ?_
  show Onw p e below _ (T2.setTop (mkF m 10 #[.val (.ref r0), .val (.ref r1), .val .null, .val (.ref v1), .unset] [(.ref r1)]))
  obtain ⟨cq3, kq3, q3a, q3b, q3c⟩ := isOf hZ e2q M0.1
  obtain ⟨_, _, ⟨T3, L3, k3, n3⟩, -, X3, ⟨Lc3, hQ3, l3, y3, z3⟩, st3⟩ := X2.virtualBack hx (y := (⟨"java/lang/AbstractStringBuilder", "length", "()I"⟩ : MethodName)) (z := (⟨"java/lang/StringBuilder", "length", "()I"⟩ : MethodName)) hown (mvT hZ (hw _ (own_mg (i := 182) rfl))) (mvT hZ (hw _ (own_mg (i := 183) rfl))) (own_nf (args := #[]) (z := (⟨"java/lang/AbstractStringBuilder", "isLatin1", "()Z"⟩ : MethodName)) (mvT hZ (hw _ (own_mg (i := 111) rfl))) rfl) (mvT hZ (hw _ (own_mg (i := 185) rfl))) (mvT hZ (hw _ (own_mg (i := 186) rfl))) (by decide) (backOf (W := 0) (rm26 l Z a0 hw [] r1 (.ref v1) (.int (0 : Int32)) (Int32.ofNat cn) h0 n0 M0) hZ (hw _ (own_mg (i := 187) rfl)) (hw _ (own_mg (i := 70) rfl)) (by decide) (by decide)) q3a q3c (g := (mkF m 10 #[.val (.ref r0), .val (.ref r1), .val .null, .val (.ref v1), .unset] [(.ref r1)])) rfl (by rw [hml]; rfl) (Steps.refl _) (argsL := []) (rest := []) (lenOf pd_13 rfl) rfl (by show 2 * 0 + _ ≤ _; exact Nat.le_of_eq rfl) (hb hby d24_10) (fun _ _ => ⟨rfl, e2q, (by decide : 0 + 0 ≤ _), (by decide : 0 + 0 ≤ _)⟩)
  dsimp only [Pt.U, Pt.locs, Pt.cells, Pt.slots] at X3 l3 y3 z3 st3 hQ3
  subst l3 y3 z3
  obtain ⟨rfl, N3q, e3q⟩ := hQ3
  have N3 := Fr.app N2 N3q
  refine Onw.go (fun _ kt => st3.trans kt) ?_
  show Onw p e below _ (T3.setTop (mkF m 13 #[.val (.ref r0), .val (.ref r1), .val .null, .val (.ref v1), .unset] [(.int (Int32.ofNat cn))]))
  refine Onw.go (fun _ kt => XS.istore X3.here hx rfl (hb hby d24_13) rfl (l' := #[.val (.ref r0), .val (.ref r1), .val .null, .val (.ref v1), .val (.int (Int32.ofNat cn))]) rfl kt) ?_
  show Onw p e below _ (T3.setTop (mkF m 15 #[.val (.ref r0), .val (.ref r1), .val .null, .val (.ref v1), .val (.int (Int32.ofNat cn))] []))
  refine Onw.go (fun _ kt => XS.aloadN X3.here hx rfl (hb hby d24_15) rfl rfl kt) ?_
  show Onw p e below _ (T3.setTop (mkF m 16 #[.val (.ref r0), .val (.ref r1), .val .null, .val (.ref v1), .val (.int (Int32.ofNat cn))] [(.ref r1)]))
  obtain ⟨cq4, kq4, q4a, q4b, q4c⟩ := isOf hZ e3q M0.1
  obtain ⟨_, _, ⟨T4, L4, k4, n4⟩, -, X4, ⟨Lc4, hQ4, l4, y4, z4⟩, st4⟩ := X3.virtualBack hx (y := (⟨"java/lang/AbstractStringBuilder", "isLatin1", "()Z"⟩ : MethodName)) (z := (⟨"java/lang/AbstractStringBuilder", "isLatin1", "()Z"⟩ : MethodName)) hown (mvT hZ (hw _ (own_mg (i := 190) rfl))) (mvT hZ (hw _ (own_mg (i := 109) rfl))) (notFace_of_selects (args := #[]) (mvT hZ (hw _ (own_mg (i := 111) rfl)))) (mvT hZ (hw _ (own_mg (i := 111) rfl))) (mvT hZ (hw _ (own_mg (i := 110) rfl))) (by decide) (backOf (W := 0) (rm13 l Z a0 hw [] r1 zc (.ref v1) (.int (Int32.ofNat cn)) h0 n0 M0 S_C hz) hZ (hw _ (own_mg (i := 112) rfl)) (hw _ (own_mg (i := 78) rfl)) (by decide) (by decide)) q4a q4c (g := (mkF m 16 #[.val (.ref r0), .val (.ref r1), .val .null, .val (.ref v1), .val (.int (Int32.ofNat cn))] [(.ref r1)])) rfl (by rw [hml]; rfl) (Steps.refl _) (argsL := []) (rest := []) (lenOf pd_9 rfl) rfl (by show 2 * 0 + _ ≤ _; exact Nat.le_of_eq rfl) (hb hby d24_16) (fun _ _ => ⟨rfl, e3q, (by decide : 0 + 0 ≤ _), (by decide : 0 + 0 ≤ _)⟩)
  dsimp only [Pt.U, Pt.locs, Pt.cells, Pt.slots] at X4 l4 y4 z4 st4 hQ4
  subst l4 y4 z4
  obtain ⟨rfl, N4q, e4q⟩ := hQ4
  have N4 := Fr.app N3 N4q
  refine Onw.go (fun _ kt => st4.trans kt) ?_
  show Onw p e below _ (T4.setTop (mkF m 19 #[.val (.ref r0), .val (.ref r1), .val .null, .val (.ref v1), .val (.int (Int32.ofNat cn))] [(.int (1 : Int32))]))
  refine Onw.go (fun _ kt => XS.ifNo X4.here hx rfl (hb hby d24_19) rfl ((if0 _ _).trans (feq (by decide : ¬ ((1 : Int32) = (0 : Int32)))).1) kt) ?_
  show Onw p e below _ (T4.setTop (mkF m 22 #[.val (.ref r0), .val (.ref r1), .val .null, .val (.ref v1), .val (.int (Int32.ofNat cn))] []))
  refine Onw.go (fun _ kt => XS.aloadN X4.here hx rfl (hb hby d24_22) rfl rfl kt) ?_
  show Onw p e below _ (T4.setTop (mkF m 23 #[.val (.ref r0), .val (.ref r1), .val .null, .val (.ref v1), .val (.int (Int32.ofNat cn))] [(.ref r0)]))
  refine Onw.go (fun _ kt => XS.iconst X4.here hx rfl (hb hby d24_23) kt) ?_
  show Onw p e below _ (T4.setTop (mkF m 24 #[.val (.ref r0), .val (.ref r1), .val .null, .val (.ref v1), .val (.int (Int32.ofNat cn))] [(.int (0 : Int32)), (.ref r0)]))
  obtain ⟨T5, h5, X5, e5, W5, st5⟩ := putFN X4 hx hZ hown (hw _ (own_mg (i := 142) rfl)) Via.refl e4q F2 E0 (Or.inr ⟨(hw _ (own_mg (i := 44) rfl)), rfl, hnm⟩) (hw _ (own_mg (i := 41) rfl)) (ty := .byte) (v' := (.int (0 : Int32))) (by decide) rfl rfl (g := (mkF m 24 #[.val (.ref r0), .val (.ref r1), .val .null, .val (.ref v1), .val (.int (Int32.ofNat cn))] [(.int (0 : Int32)), (.ref r0)])) rfl rfl (hb hby d24_24)
  have N5 := Fr.snoc X5 N4 g_r0
  refine Onw.go st5 ?_
  show Onw p e below _ (T5.setTop (mkF m 27 #[.val (.ref r0), .val (.ref r1), .val .null, .val (.ref v1), .val (.int (Int32.ofNat cn))] []))
  refine Onw.go (fun _ kt => XS.aloadN X5.here hx rfl (hb hby d24_27) rfl rfl kt) ?_
  show Onw p e below _ (T5.setTop (mkF m 28 #[.val (.ref r0), .val (.ref r1), .val .null, .val (.ref v1), .val (.int (Int32.ofNat cn))] [(.ref r0)]))
  refine Onw.go (fun _ kt => XS.aloadN X5.here hx rfl (hb hby d24_28) rfl rfl kt) ?_
  show Onw p e below _ (T5.setTop (mkF m 29 #[.val (.ref r0), .val (.ref r1), .val .null, .val (.ref v1), .val (.int (Int32.ofNat cn))] [(.ref v1), (.ref r0)]))
  refine Onw.go (fun _ kt => XS.iconst X5.here hx rfl (hb hby d24_29) kt) ?_
  show Onw p e below _ (T5.setTop (mkF m 30 #[.val (.ref r0), .val (.ref r1), .val .null, .val (.ref v1), .val (.int (Int32.ofNat cn))] [(.int (0 : Int32)), (.ref v1), (.ref r0)]))
  refine Onw.go (fun _ kt => XS.iload X5.here hx rfl (hb hby d24_30) rfl kt) ?_
  show Onw p e below _ (T5.setTop (mkF m 32 #[.val (.ref r0), .val (.ref r1), .val .null, .val (.ref v1), .val (.int (Int32.ofNat cn))] [(.int (Int32.ofNat cn)), (.int (0 : Int32)), (.ref v1), (.ref r0)]))
  obtain ⟨_, _, ⟨T6, L6, k6, n6⟩, -, X6, ⟨Lc6, hQ6, l6, y6, z6⟩, st6⟩ := Jvm.LawKit.callS X5 hx (y := (⟨"java/util/Arrays", "copyOfRange", "([BII)[B"⟩ : MethodName)) hown (mvT hZ (hw _ (own_mg (i := 191) rfl))) (mvT hZ (hw _ (own_mg (i := 192) rfl))) (mvT hZ (hw _ (own_mg (i := 193) rfl))) (mvT hZ (hw _ (own_mg (i := 194) rfl))) (by decide) (backOf (W := 1) (rm28 l Z a0 hw [] v1 (0 : Int32) (Int32.ofNat cn) k1 xs cn h5 n0 (V0.other W5 ne1) rfl rfl hc lx (Nat.le_trans Z0 (Nat.le_of_eq W5.size.symm)) (EA.wr W5)) hZ (hw _ (own_mg (i := 194) rfl)) (hw _ (own_mg (i := 193) rfl)) (by decide) (by decide)) (g := (mkF m 32 #[.val (.ref r0), .val (.ref r1), .val .null, .val (.ref v1), .val (.int (Int32.ofNat cn))] [(.int (Int32.ofNat cn)), (.int (0 : Int32)), (.ref v1), (.ref r0)])) rfl (by rw [hml]; rfl) (argsL := [(.ref v1), (.int (0 : Int32)), (.int (Int32.ofNat cn))]) (rest := [(.ref r0)]) (lenOf pd_22 rfl) rfl (by show 2 * 0 + _ ≤ _; exact Nat.le_of_eq rfl) (hb hby d24_32) (fun _ _ => ⟨rfl, e5, (by decide : 0 + 1 ≤ _), (by decide : 0 + 34 ≤ _)⟩)
  dsimp only [Pt.U, Pt.locs, Pt.cells, Pt.slots] at X6 l6 y6 z6 st6 hQ6
  subst l6 y6 z6
  obtain ⟨b6, kb6, rfl, N6q, E6, g6, s6, V6, EA6⟩ := hQ6
  have N6 := Fr.app N5 N6q
  refine Onw.go st6 ?_
  show Onw p e below _ (T6.setTop (mkF m 35 #[.val (.ref r0), .val (.ref r1), .val .null, .val (.ref v1), .val (.int (Int32.ofNat cn))] [(.ref b6), (.ref r0)]))
  have E1 := (E0.wr W5).ext E6
  have F3 := (own_cv hw F1 W5).ext E6
  have F4 := (F2.same W5).ext E6
  have nb : b6 ≠ r0 := fun q => Nat.lt_irrefl _ (Nat.lt_of_lt_of_le (q ▸ (E0.wr W5).lt) s6)
  obtain ⟨T7, h7, X7, e7, W7, st7⟩ := putF X6 hx hZ hown (host := "") (Or.inl (hw _ (own_mg (i := 135) rfl))) Via.refl rfl F3 E1 (Or.inr ⟨(hw _ (own_mg (i := 43) rfl)), rfl, hnm⟩) (hw _ (own_mg (i := 41) rfl)) (ty := (.array .byte)) (by decide) rfl rfl (g := (mkF m 35 #[.val (.ref r0), .val (.ref r1), .val .null, .val (.ref v1), .val (.int (Int32.ofNat cn))] [(.ref b6), (.ref r0)])) rfl rfl (hb hby d24_35)
  have N7 := Fr.snoc X7 N6 g_r0
  refine Onw.go st7 ?_
  show Onw p e below _ (T7.setTop (mkF m 38 #[.val (.ref r0), .val (.ref r1), .val .null, .val (.ref v1), .val (.int (Int32.ofNat cn))] []))
  refine Onw.go (fun _ kt => XS.goto X7.here hx rfl (pc0 := 38) (pc' := 97) rfl (hb hby d24_38) (by decide) (by decide) kt) ?_
  show Onw p e below _ (T7.setTop (mkF m 97 #[.val (.ref r0), .val (.ref r1), .val .null, .val (.ref v1), .val (.int (Int32.ofNat cn))] []))
  have K3 : Keep h0 h7 [r0] := (((Keep.refl h0 [r0]).wr W5 (Or.inl (List.mem_of_getElem? (i := 0) rfl))).ext E6).wr W7 (Or.inl (List.mem_of_getElem? (i := 0) rfl))
  exact Onw.ret X7 Bd.notSynchronized (fun _ => rfl) (fun fs hr => X7.returnOut hx Bd.returns (hb hby d24_97) hr) ⟨rfl, N7, by rw [e7]; exact K3, b6, kb6, g6, by rw [e7]; exact ⟨E1.wr W7, own_vc hw F4 W7, F3.same W7⟩, by rw [e7]; exact V6.other W7 nb⟩ (by decide) (by decide)
theorem ef_23 (m : MethodId) (x0 : Addr) (x1 : Addr) : entryFrame m #[(.ref x0), (.ref x1)] 2 = mkF m 0 #[.val (.ref x0), .val (.ref x1)] [] := by first | (simp [entryFrame, mkF, argsToLocals, Value.category]; done) | rfl
def Q_rm23 (Z : State) (r0 : Addr) (r1 : Addr) (zc : Int32) (v1 : Addr) (k1 : ClassId) (xs : List Int32) (cn : Nat) (h0 : Heap) (n0 : Nat) (v : Option Value) (h : Heap) (L : List Loc) : Prop := v = none ∧ Fr n0 L ∧ Keep h0 h [r0] ∧ ∃ (b : Addr) (kb : ClassId), n0 ≤ b ∧ own_ST Z h r0 b ∧ Arv Z h b kb .byte (Int32.ofNat (xs.take cn).length) ((xs.take cn).map Value.int) (.int (0 : Int32))
theorem d23_0 : decode jdk_42_method_53_code 0 = .ok (.aload_n 0, 1) := by decide +kernel
theorem d23_1 : decode jdk_42_method_53_code 1 = .ok (.aload_n 1, 1) := by decide +kernel
theorem d23_2 : decode jdk_42_method_53_code 2 = .ok (.aconst_null, 1) := by decide +kernel
theorem d23_3 : decode jdk_42_method_53_code 3 = .ok (.invokespecial 489, 3) := by decide +kernel
theorem d23_6 : decode jdk_42_method_53_code 6 = .ok (.return_, 1) := by decide +kernel
set_option maxRecDepth 65536 in
set_option maxHeartbeats 40000000 in
theorem rm23 (l : Launch) (Z : State) (a0 : Array Value) (hw : ∀ d ∈ tables_1, d.before a0 Z = true) (ws : List Jvm.Cond) (r0 : Addr) (r1 : Addr) (zc : Int32) (v1 : Addr) (k1 : ClassId) (xs : List Int32) (cn : Nat) (h0 : Heap) (n0 : Nat) (E0 : Exa Z h0 r0 "java/lang/String") (F1 : Fld Z h0 r0 "java/lang/String" "value" "[B" .null) (F2 : Fld Z h0 r0 "java/lang/String" "coder" "B" (.int (0 : Int32))) (M0 : own_SB Z h0 r1 (.ref v1) (.int (0 : Int32)) (.int (Int32.ofNat cn))) (V0 : Arv Z h0 v1 k1 .byte (Int32.ofNat (xs).length) ((xs).map Value.int) (.int (0 : Int32))) (EA : Exa Z h0 v1 "[B") (S_C : Sta Z h0 "java/lang/String" "COMPACT_STRINGS" "Z" (.int zc)) (hz : ¬ zc = 0) (ne1 : v1 ≠ r0) (hc : cn ≤ xs.length) (lx : xs.length ≤ 34) (g_r0 : n0 ≤ r0) (Z0 : n0 ≤ h0.size) :
    MetFree l (⟨"java/lang/String", "<init>", "(Ljava/lang/StringBuilder;)V"⟩ : MethodName) (head1 (Jvm.Cond.code (⟨"java/lang/String", "<init>", "(Ljava/lang/StringBuilder;)V"⟩ : MethodName) jdk_42_method_53_code 2 none :: ws) ({ frames := 4, cells := 1, slots := 34, locals := 65 } : Room)) (fun a U => a = #[(.ref r0), (.ref r1)] ∧ Z.Warmed39 U.vm ∧ U.heap = h0) (fun _ _ _ _ _ => True) (fun _ U o U' => ∃ v L, o = .returned v ∧ Q_rm23 Z r0 r1 zc v1 k1 xs cn h0 n0 v U'.heap L ∧ FrameEnd U o U' L ({ frames := 4, cells := 1, slots := 34, locals := 65 } : Room).cells ({ frames := 4, cells := 1, slots := 34, locals := 65 } : Room).slots) := by
  refine MetFree.of_bodySF (plainFor_of_name pn_8) hisR ?_
  intro p e s m args below meth c s₁ Bd hml0 hP hK
  obtain ⟨rfl, hZ, hh⟩ := hP
  have hx := Bd.exec
  have hby := Bd.bytes
  have hml : c.maxLocals = 2 := hml0
  have hown : s.vm.findClass "java/lang/String" = some m.cls := findClass_of_methodNamed Bd.named
  have hnm := (name_of_methodNamed Bd.named Bd.method).1
  have X0 : Stand p l e ({ frames := 4, cells := 1, slots := 34, locals := 65 } : Room) s m #[(.ref r0), (.ref r1)] below meth c s₁ [] 0 0 := Stand.of_body Bd
  have e0 : s₁.heap = h0 := by rw [← hh, Bd.state]; rfl
  have N0 := Fr.nil n0
  refine Onw.of (Onw.go (fun _ k => castTop (ef_23 m r0 r1) k) ?_)
  show Onw p e below _ (s₁.setTop (mkF m 0 #[.val (.ref r0), .val (.ref r1)] []))
  refine Onw.go (fun _ kt => XS.aloadN X0.here hx rfl (hb hby d23_0) rfl rfl kt) ?_
  show Onw p e below _ (s₁.setTop (mkF m 1 #[.val (.ref r0), .val (.ref r1)] [(.ref r0)]))
  refine Onw.go (fun _ kt => XS.aloadN X0.here hx rfl (hb hby d23_1) rfl rfl kt) ?_
  show Onw p e below _ (s₁.setTop (mkF m 2 #[.val (.ref r0), .val (.ref r1)] [(.ref r1), (.ref r0)]))
  refine Onw.go (fun _ kt => XS.aconstNull X0.here hx rfl (hb hby d23_2) kt) ?_
  show Onw p e below _ (s₁.setTop (mkF m 3 #[.val (.ref r0), .val (.ref r1)] [.null, (.ref r1), (.ref r0)]))
  obtain ⟨_, _, ⟨T1, L1, k1, n1⟩, -, X1, ⟨Lc1, hQ1, l1, y1, z1⟩, st1⟩ := X0.specialBack hx (y := (⟨"java/lang/String", "<init>", "(Ljava/lang/AbstractStringBuilder;Ljava/lang/Void;)V"⟩ : MethodName)) rfl hown (mvT hZ (hw _ (own_mg (i := 173) rfl))) (mvT hZ (hw _ (own_mg (i := 174) rfl))) (mvT hZ (hw _ (own_mg (i := 175) rfl))) (by decide) (backOf (W := 0) (rm24 l Z a0 hw [] r0 r1 zc v1 k1 xs cn h0 n0 E0 F1 F2 M0 V0 EA S_C hz ne1 hc lx g_r0 Z0) hZ (hw _ (own_mg (i := 175) rfl)) (hw _ (own_mg (i := 40) rfl)) (by decide) (by decide)) (g := (mkF m 3 #[.val (.ref r0), .val (.ref r1)] [.null, (.ref r1), (.ref r0)])) rfl (by rw [hml]; rfl) (Steps.refl _) (a := r0) (argsL := [(.ref r1), .null]) (rest := []) (lenOf pd_20 rfl) rfl (by show 2 * 0 + _ ≤ _; exact Nat.le_of_eq rfl) (hb hby d23_3) (fun _ _ => ⟨rfl, e0, (by decide : 0 + 1 ≤ _), (by decide : 0 + 34 ≤ _)⟩)
  dsimp only [Pt.U, Pt.locs, Pt.cells, Pt.slots] at X1 l1 y1 z1 st1 hQ1
  subst l1 y1 z1
  obtain ⟨rfl, N1q, q1r⟩ := hQ1
  have N1 := Fr.app N0 N1q
  refine Onw.go (fun _ kt => st1.trans kt) ?_
  show Onw p e below _ (T1.setTop (mkF m 6 #[.val (.ref r0), .val (.ref r1)] []))
  exact Onw.ret X1 Bd.notSynchronized (fun _ => rfl) (fun fs hr => X1.returnOut hx Bd.returns (hb hby d23_6) hr) ⟨rfl, N1, q1r⟩ (by decide) (by decide)
theorem ef_22 (m : MethodId) (x0 : Addr) : entryFrame m #[(.ref x0)] 1 = mkF m 0 #[.val (.ref x0)] [] := by first | (simp [entryFrame, mkF, argsToLocals, Value.category]; done) | rfl
def Q_rm22 (Z : State) (r0 : Addr) (zc : Int32) (v1 : Addr) (k1 : ClassId) (xs : List Int32) (cn : Nat) (h0 : Heap) (n0 : Nat) (v : Option Value) (h : Heap) (L : List Loc) : Prop := ∃ (u b : Addr) (kb : ClassId), v = some (.ref u) ∧ Fr n0 L ∧ Ext h0 h ∧ own_ST Z h u b ∧ Arv Z h b kb .byte (Int32.ofNat (xs.take cn).length) ((xs.take cn).map Value.int) (.int (0 : Int32))
theorem d22_0 : decode jdk_67_method_42_code 0 = .ok (.new 18, 3) := by decide +kernel
theorem d22_3 : decode jdk_67_method_42_code 3 = .ok (.dup, 1) := by decide +kernel
theorem d22_4 : decode jdk_67_method_42_code 4 = .ok (.aload_n 0, 1) := by decide +kernel
theorem d22_5 : decode jdk_67_method_42_code 5 = .ok (.invokespecial 137, 3) := by decide +kernel
theorem d22_8 : decode jdk_67_method_42_code 8 = .ok (.areturn, 1) := by decide +kernel
set_option maxRecDepth 65536 in
set_option maxHeartbeats 40000000 in
theorem rm22 (l : Launch) (Z : State) (a0 : Array Value) (hw : ∀ d ∈ tables_1, d.before a0 Z = true) (ws : List Jvm.Cond) (r0 : Addr) (zc : Int32) (v1 : Addr) (k1 : ClassId) (xs : List Int32) (cn : Nat) (h0 : Heap) (n0 : Nat) (M0 : own_SB Z h0 r0 (.ref v1) (.int (0 : Int32)) (.int (Int32.ofNat cn))) (V0 : Arv Z h0 v1 k1 .byte (Int32.ofNat (xs).length) ((xs).map Value.int) (.int (0 : Int32))) (EA : Exa Z h0 v1 "[B") (S_C : Sta Z h0 "java/lang/String" "COMPACT_STRINGS" "Z" (.int zc)) (hz : ¬ zc = 0) (hc : cn ≤ xs.length) (lx : xs.length ≤ 34) (Z0 : n0 ≤ h0.size) :
    MetFree l (⟨"java/lang/StringBuilder", "toString", "()Ljava/lang/String;"⟩ : MethodName) (head1 (Jvm.Cond.code (⟨"java/lang/StringBuilder", "toString", "()Ljava/lang/String;"⟩ : MethodName) jdk_67_method_42_code 1 (some (.object "java/lang/String")) :: ws) ({ frames := 5, cells := 2, slots := 38, locals := 79 } : Room)) (fun a U => a = #[(.ref r0)] ∧ Z.Warmed39 U.vm ∧ U.heap = h0) (fun _ _ _ _ _ => True) (fun _ U o U' => ∃ v L, o = .returned v ∧ Q_rm22 Z r0 zc v1 k1 xs cn h0 n0 v U'.heap L ∧ FrameEnd U o U' L ({ frames := 5, cells := 2, slots := 38, locals := 79 } : Room).cells ({ frames := 5, cells := 2, slots := 38, locals := 79 } : Room).slots) := by
  refine MetFree.of_bodySF (plainFor_of_name pn_4) hisR ?_
  intro p e s m args below meth c s₁ Bd hml0 hP hK
  obtain ⟨rfl, hZ, hh⟩ := hP
  have hx := Bd.exec
  have hby := Bd.bytes
  have hml : c.maxLocals = 1 := hml0
  have hown : s.vm.findClass "java/lang/StringBuilder" = some m.cls := findClass_of_methodNamed Bd.named
  have hnm := (name_of_methodNamed Bd.named Bd.method).1
  have X0 : Stand p l e ({ frames := 5, cells := 2, slots := 38, locals := 79 } : Room) s m #[(.ref r0)] below meth c s₁ [] 0 0 := Stand.of_body Bd
  have e0 : s₁.heap = h0 := by rw [← hh, Bd.state]; rfl
  have N0 := Fr.nil n0
  refine Onw.of (Onw.go (fun _ k => castTop (ef_22 m r0) k) ?_)
  show Onw p e below _ (s₁.setTop (mkF m 0 #[.val (.ref r0)] []))
  obtain ⟨T1, h1, X1, e1, E1, A1, D1, -, st1⟩ := newO X0 hx hZ hown (hw _ (own_mg (i := 168) rfl)) (hw _ (own_mg (i := 41) rfl)) (hw _ (own_mg (i := 40) rfl)) e0 (g := (mkF m 0 #[.val (.ref r0)] [])) rfl (hb hby d22_0) (by decide) (by decide)
  obtain ⟨u, gg1⟩ : ∃ own_z, own_z = h0.size := ⟨_, rfl⟩
  rw [← gg1] at A1 D1 st1
  have F_value_u : Fld Z h1 u "java/lang/String" "value" "[B" .null := D1 (Or.inr (hw _ (List.mem_of_getElem? (i := 43) rfl))) (ty := (.array .byte)) (by decide)
  have F_coder_u : Fld Z h1 u "java/lang/String" "coder" "B" (.int (0 : Int32)) := D1 (Or.inr (hw _ (List.mem_of_getElem? (i := 44) rfl))) (ty := .byte) (by decide)
  refine Onw.go st1 ?_
  show Onw p e below _ (T1.setTop (mkF m 3 #[.val (.ref r0)] [(.ref u)]))
  have g_u : n0 ≤ u := Nat.le_trans Z0 (Nat.le_of_eq gg1.symm)
  have nu : v1 ≠ u := fun q => Nat.lt_irrefl _ (Nat.lt_of_lt_of_le (q ▸ EA.lt) (Nat.le_of_eq gg1.symm))
  refine Onw.go (fun _ kt => XS.dup X1.here hx rfl (hb hby d22_3) rfl rfl kt) ?_
  show Onw p e below _ (T1.setTop (mkF m 4 #[.val (.ref r0)] [(.ref u), (.ref u)]))
  refine Onw.go (fun _ kt => XS.aloadN X1.here hx rfl (hb hby d22_4) rfl rfl kt) ?_
  show Onw p e below _ (T1.setTop (mkF m 5 #[.val (.ref r0)] [(.ref r0), (.ref u), (.ref u)]))
  obtain ⟨_, _, ⟨T2, L2, k2, n2⟩, -, X2, ⟨Lc2, hQ2, l2, y2, z2⟩, st2⟩ := X1.specialBack hx (y := (⟨"java/lang/String", "<init>", "(Ljava/lang/StringBuilder;)V"⟩ : MethodName)) rfl hown (mvT hZ (hw _ (own_mg (i := 169) rfl))) (mvT hZ (hw _ (own_mg (i := 170) rfl))) (mvT hZ (hw _ (own_mg (i := 172) rfl))) (by decide) (backOf (W := 1) (rm23 l Z a0 hw [] u r0 zc v1 k1 xs cn h1 n0 A1 F_value_u F_coder_u (M0.ext E1) (V0.ext E1) (EA.ext E1) (S_C.ext E1) hz nu hc lx g_u (Nat.le_trans Z0 E1.1)) hZ (hw _ (own_mg (i := 172) rfl)) (hw _ (own_mg (i := 40) rfl)) (by decide) (by decide)) (g := (mkF m 5 #[.val (.ref r0)] [(.ref r0), (.ref u), (.ref u)])) rfl (by rw [hml]; rfl) (Steps.refl _) (a := u) (argsL := [(.ref r0)]) (rest := [(.ref u)]) (lenOf pd_19 rfl) rfl (by show 2 * 0 + _ ≤ _; exact Nat.le_of_eq rfl) (hb hby d22_5) (fun _ _ => ⟨rfl, e1, (by decide : 1 + 1 ≤ _), (by decide : 4 + 34 ≤ _)⟩)
  dsimp only [Pt.U, Pt.locs, Pt.cells, Pt.slots] at X2 l2 y2 z2 st2 hQ2
  subst l2 y2 z2
  obtain ⟨rfl, N2q, K2, b2, kb2, g2, M2, V2⟩ := hQ2
  have N2 := Fr.app N0 N2q
  refine Onw.go (fun _ kt => st2.trans kt) ?_
  show Onw p e below _ (T2.setTop (mkF m 8 #[.val (.ref r0)] [(.ref u)]))
  exact Onw.ret X2 Bd.notSynchronized (fun h => by rw [Bd.returns] at h; cases h) (fun fs hr => X2.areturnOut hx rfl Bd.returns rfl (hb hby d22_8) hr) ⟨u, b2, kb2, rfl, N2, own_extk E1 K2 (Nat.le_of_eq gg1.symm), M2, V2⟩ (by decide) (by decide)
theorem own_nin1 {x a n : Nat} (hx : x < n) (ha : n ≤ a) : x ∉ [a] := fun q => by
  have := List.mem_singleton.mp q; omega
theorem own_nin2 {x a b n : Nat} (hx : x < n) (ha : n ≤ a) (hb : n ≤ b) : x ∉ [a, b] := fun q => by
  rcases List.mem_cons.mp q with q | q
  · omega
  · have := List.mem_singleton.mp q; omega
theorem own_extk2 {h0 h1 h2 : Heap} {a b : Addr} (E : Ext h0 h1) (K : Keep h1 h2 [a, b]) (qa : h0.size ≤ a) (qb : h0.size ≤ b) : Ext h0 h2 :=
  ⟨Nat.le_trans E.1 K.1, fun x c hx => K.2.1 x c (E.2 x c hx) (own_nin2 (Array.getElem?_eq_some_iff.mp hx).1 qa qb)⟩
theorem own_zs {xs xs2 ss zs : List Int32} {d w : Nat} (hd : d ≤ xs.length) (hx : ∀ i, i < d → xs[i]? = some (Int32.ofNat (48 + w / 10 ^ (d - 1 - i) % 10))) (hz : zs = xs.take d ++ ss) : zs.length = d + ss.length ∧ (∀ i, i < d → zs[i]? = some (Int32.ofNat (48 + w / 10 ^ (d - 1 - i) % 10))) ∧ ∀ j, zs[d + j]? = ss[j]? := by
  have l : (xs.take d).length = d := by rw [List.length_take]; omega
  refine ⟨by rw [hz, List.length_append, l], fun i hi => ?_, fun j => ?_⟩
  · rw [hz, List.getElem?_append_left (by omega), List.getElem?_take_of_lt hi]; exact hx i hi
  · rw [hz, List.getElem?_append_right (by omega), l]; congr 1; omega
theorem own_elem {c : Cell} {xs : List Int32} {i : Nat} {x : Int32} (H : Has c (xs.map Value.int) (.int (0 : Int32))) (S : c.slots.size = (Int32.ofNat xs.length).toNatClampNeg) (lx : xs.length ≤ 1000) (hi : i < xs.length) (hx : xs[i]? = some x) :
    ¬ (Int32.ofNat i < 0 ∨ c.slots.size ≤ (Int32.ofNat i).toNatClampNeg) ∧ c.slots[(Int32.ofNat i).toNatClampNeg]? = some (.int x) := by
  have c1 := own_clamp (n := i) (by omega)
  have c2 := own_clamp lx
  have s1 : c.slots.size = xs.length := by rw [S, c2]
  refine ⟨fun q => ?_, ?_⟩
  · rcases q with q | q
    · exact own_nneg (by omega) q
    · rw [c1, s1] at q; omega
  · rw [c1, H i (by omega)]
    simp [List.getD_eq_getElem?_getD, List.getElem?_map, hx]
theorem own_ch128 : ∀ n : Fin 128, nar .char ((Int32.ofNat n.val &&& (255 : Int32)).toUInt32.toUInt16.toUInt32.toInt32) = Int32.ofNat n.val ∧ nar .char (Int32.ofNat n.val) = Int32.ofNat n.val := by decide
theorem own_ch {n : Nat} (h : n < 128) : nar .char ((Int32.ofNat n &&& (255 : Int32)).toUInt32.toUInt16.toUInt32.toInt32) = Int32.ofNat n ∧ nar .char (Int32.ofNat n) = Int32.ofNat n := own_ch128 ⟨n, h⟩
def own_TB (Z : State) (h : Heap) (o : Addr) : Prop := ∃ c1 : Cell, Arr Z h o c1 .long ∧ c1.slots.size = 19 ∧ ∀ i, i < 19 → c1.slots[i]? = some (.long (Int64.ofNat (10 ^ i)))
theorem own_TB.ext {Z : State} {h h' : Heap} {o : Addr} (D : own_TB Z h o) (E : Ext h h') : own_TB Z h' o := by
  obtain ⟨c1, A, r⟩ := D
  exact ⟨c1, A.ext E, r⟩
theorem own_TB.keep {Z : State} {h h' : Heap} {o : Addr} {ws : List Addr} (D : own_TB Z h o) (K : Keep h h' ws) (q : o ∉ ws) : own_TB Z h' o := by
  obtain ⟨c1, A, r⟩ := D
  exact ⟨c1, ⟨K.2.1 o c1 A.1 q, A.2⟩, r⟩
theorem own_TB.at {Z : State} {h : Heap} {o : Addr} (D : own_TB Z h o) {r : Nat} (hr : r < 19) : ∃ c1 : Cell, Arr Z h o c1 .long ∧ ¬ (Int32.ofNat r < 0 ∨ c1.slots.size ≤ (Int32.ofNat r).toNatClampNeg) ∧ c1.slots[(Int32.ofNat r).toNatClampNeg]? = some (.long (Int64.ofNat (10 ^ r))) := by
  obtain ⟨c1, A, s, g⟩ := D
  have e := own_clamp (n := r) (by omega)
  refine ⟨c1, A, fun q => ?_, by rw [e]; exact g r hr⟩
  rcases q with q | q
  · exact own_nneg (by omega) q
  · rw [e, s] at q; omega
theorem own_p10 {r : Nat} (h : r ≤ 18) : (Int64.ofNat (10 ^ r)).toInt = ((10 ^ r : Nat) : Int) := by
  have q : 10 ^ r ≤ 10 ^ 18 := Nat.pow_le_pow_right (by decide) h
  rw [Int64.toInt_ofNat_of_lt (by omega)]
theorem own_p10nz {r : Nat} (h : r ≤ 18) : Int64.ofNat (10 ^ r) ≠ 0 := fun q => by
  have a := own_p10 h
  rw [q] at a
  have b : 0 < 10 ^ r := Nat.pow_pos (by decide)
  have c : (0 : Int64).toInt = 0 := rfl
  omega
theorem own_cut10 : ∀ n : Fin 10, (Int32.ofNat (48 + n.val)).toUInt32.toUInt16.toUInt32.toInt32 = Int32.ofNat (48 + n.val) := by decide
theorem own_dg {q : Int64} {w r : Nat} (hq : q.toInt = (w : Int)) (hr : r ≤ 18) : ((48 : Int32) + ((q / Int64.ofNat (10 ^ r)) % (10 : Int64)).toInt32).toUInt32.toUInt16.toUInt32.toInt32 = Int32.ofNat (48 + w / 10 ^ r % 10) := by
  have b : 0 < 10 ^ r := Nat.pow_pos (by decide)
  have a := own_p10 hr
  have n1 : Int64.ofNat (10 ^ r) ≠ -1 := fun z => by
    rw [z] at a
    have c : (-1 : Int64).toInt = -1 := rfl
    omega
  have d := (c_ldiv q (Int64.ofNat (10 ^ r)) _ a n1).1 (by omega)
  rw [hq] at d
  have d2 : (q / Int64.ofNat (10 ^ r)).toInt = ((w / 10 ^ r : Nat) : Int) := by rw [d]; exact (Int.natCast_ediv w (10 ^ r)).symm
  have e := (c_lrem (q / Int64.ofNat (10 ^ r)) (10 : Int64) 10 rfl).1 (by rw [d2]; exact Int.natCast_nonneg _)
  rw [lrem_mod, d2] at e
  generalize w / 10 ^ r = z at e ⊢
  generalize (q / Int64.ofNat (10 ^ r)) % (10 : Int64) = x at e ⊢
  have f := c_l2i x
  have f2 := rng32 x.toInt32
  have g := c_iadd (48 : Int32) x.toInt32
  have g2 := rng32 ((48 : Int32) + x.toInt32)
  have g3 : (48 : Int32).toInt = 48 := rfl
  have k : (48 : Int32) + x.toInt32 = Int32.ofNat (48 + z % 10) := by
    apply Int32.toInt_inj.mp
    rw [own_toInt (n := 48 + z % 10) (by omega)]
    omega
  rw [k]
  exact own_cut10 ⟨z % 10, by omega⟩
theorem own_dsub {d i : Nat} (hi : i < d) (hd : d ≤ 19) : Int32.ofNat d - (1 : Int32) - Int32.ofNat i = Int32.ofNat (d - 1 - i) := by
  apply Int32.toInt_inj.mp
  have a := c_isub (Int32.ofNat d) 1
  have b := c_isub (Int32.ofNat d - (1 : Int32)) (Int32.ofNat i)
  have a2 := rng32 (Int32.ofNat d - (1 : Int32))
  have b2 := rng32 (Int32.ofNat d - (1 : Int32) - Int32.ofNat i)
  have e : (1 : Int32).toInt = 1 := rfl
  rw [own_toInt (n := d) (by omega), e] at a
  rw [own_toInt (n := i) (by omega)] at b
  rw [own_toInt (n := d - 1 - i) (by omega)]
  omega
theorem own_lw (x m lim lw : Int64) (L : Nat) (hm : m = 9223372036854775807) (hl : lim.toInt = (L : Int)) (h1 : 1 ≤ L) (h : lw = (1 : Int64) + ((x &&& m) % lim)) : ∃ w : Nat, lw.toInt = (w : Int) ∧ 1 ≤ w ∧ w ≤ L := by
  subst hm
  have e1 : (x &&& (9223372036854775807 : Int64)).toInt = x.toInt % (2 ^ 63 : Nat) := c_maskL x 9223372036854775807 63 (by decide) (by decide)
  have e6 := (c_lrem (x &&& (9223372036854775807 : Int64)) lim _ hl).1 (by omega)
  rw [lrem_mod] at e6
  generalize (x &&& (9223372036854775807 : Int64)) % lim = r at e6 h
  have e2 := c_ladd (1 : Int64) r
  have e3 : (1 : Int64).toInt = 1 := rfl
  have e5 := rng64 ((1 : Int64) + r)
  have e7 := rng64 lim
  rw [← h, e3] at e2
  rw [← h] at e5
  have q1 := Int.emod_nonneg (x &&& (9223372036854775807 : Int64)).toInt (show (L : Int) ≠ 0 by omega)
  have q2 := Int.emod_lt_of_pos (x &&& (9223372036854775807 : Int64)).toInt (show (0 : Int) < (L : Int) by omega)
  rw [← e6] at q1 q2
  exact ⟨lw.toInt.toNat, by omega, by omega, by omega⟩
theorem own_rq (x n : Int32) (hn : n = (1 : Int32) + ((x &&& (2147483647 : Int32)) % (2147483647 : Int32))) : ¬ n < 1 := by
  have e1 : (x &&& (2147483647 : Int32)).toInt = x.toInt % (2 ^ 31 : Nat) := c_mask x 2147483647 31 (by decide) (by decide)
  have e6 := (c_irem (x &&& (2147483647 : Int32)) (2147483647 : Int32) 2147483647 rfl).1 (by omega)
  have e2 := c_iadd (1 : Int32) ((x &&& (2147483647 : Int32)) % (2147483647 : Int32))
  have e3 : (1 : Int32).toInt = 1 := rfl
  have e5 := rng32 n
  rw [← hn, e3] at e2
  rw [Int32.lt_iff_toInt_lt, e3]
  omega
theorem own_h_requests_windowLength {Z : State} {a0 : Array Value} (hw : ∀ d ∈ tables_1, d.before a0 Z = true) {h h' : Heap} {a : Addr} {v w : Value} (F : Fld Z h a "com/example/vigil_cache/vigilcache/HotKeyRule" "requests" "I" v) (W : Wr h h' a (Jvm.RoadKit.slotOf Z "com/example/vigil_cache/vigilcache/HotKeyRule" "windowLength" "J") w) : Fld Z h' a "com/example/vigil_cache/vigilcache/HotKeyRule" "requests" "I" v := F.other W (Or.inr (slot_ne (Or.inr (hw _ (own_mg (i := 58) rfl))) (Or.inr (hw _ (own_mg (i := 60) rfl))) (by decide) (t := .int) (t' := .long) (by decide) (by decide)))
theorem own_h_requests_windowUnit {Z : State} {a0 : Array Value} (hw : ∀ d ∈ tables_1, d.before a0 Z = true) {h h' : Heap} {a : Addr} {v w : Value} (F : Fld Z h a "com/example/vigil_cache/vigilcache/HotKeyRule" "requests" "I" v) (W : Wr h h' a (Jvm.RoadKit.slotOf Z "com/example/vigil_cache/vigilcache/HotKeyRule" "windowUnit" "Lcom/example/vigil_cache/vigilcache/HotKeyRule$WindowUnit;") w) : Fld Z h' a "com/example/vigil_cache/vigilcache/HotKeyRule" "requests" "I" v := F.other W (Or.inr (slot_ne (Or.inr (hw _ (own_mg (i := 58) rfl))) (Or.inr (hw _ (own_mg (i := 62) rfl))) (by decide) (t := .int) (t' := (.object "com/example/vigil_cache/vigilcache/HotKeyRule$WindowUnit")) (by decide) (by decide)))
theorem own_h_windowLength_requests {Z : State} {a0 : Array Value} (hw : ∀ d ∈ tables_1, d.before a0 Z = true) {h h' : Heap} {a : Addr} {v w : Value} (F : Fld Z h a "com/example/vigil_cache/vigilcache/HotKeyRule" "windowLength" "J" v) (W : Wr h h' a (Jvm.RoadKit.slotOf Z "com/example/vigil_cache/vigilcache/HotKeyRule" "requests" "I") w) : Fld Z h' a "com/example/vigil_cache/vigilcache/HotKeyRule" "windowLength" "J" v := F.other W (Or.inr (slot_ne (Or.inr (hw _ (own_mg (i := 60) rfl))) (Or.inr (hw _ (own_mg (i := 58) rfl))) (by decide) (t := .long) (t' := .int) (by decide) (by decide)))
theorem own_h_windowLength_windowUnit {Z : State} {a0 : Array Value} (hw : ∀ d ∈ tables_1, d.before a0 Z = true) {h h' : Heap} {a : Addr} {v w : Value} (F : Fld Z h a "com/example/vigil_cache/vigilcache/HotKeyRule" "windowLength" "J" v) (W : Wr h h' a (Jvm.RoadKit.slotOf Z "com/example/vigil_cache/vigilcache/HotKeyRule" "windowUnit" "Lcom/example/vigil_cache/vigilcache/HotKeyRule$WindowUnit;") w) : Fld Z h' a "com/example/vigil_cache/vigilcache/HotKeyRule" "windowLength" "J" v := F.other W (Or.inr (slot_ne (Or.inr (hw _ (own_mg (i := 60) rfl))) (Or.inr (hw _ (own_mg (i := 62) rfl))) (by decide) (t := .long) (t' := (.object "com/example/vigil_cache/vigilcache/HotKeyRule$WindowUnit")) (by decide) (by decide)))
theorem own_h_windowUnit_requests {Z : State} {a0 : Array Value} (hw : ∀ d ∈ tables_1, d.before a0 Z = true) {h h' : Heap} {a : Addr} {v w : Value} (F : Fld Z h a "com/example/vigil_cache/vigilcache/HotKeyRule" "windowUnit" "Lcom/example/vigil_cache/vigilcache/HotKeyRule$WindowUnit;" v) (W : Wr h h' a (Jvm.RoadKit.slotOf Z "com/example/vigil_cache/vigilcache/HotKeyRule" "requests" "I") w) : Fld Z h' a "com/example/vigil_cache/vigilcache/HotKeyRule" "windowUnit" "Lcom/example/vigil_cache/vigilcache/HotKeyRule$WindowUnit;" v := F.other W (Or.inr (slot_ne (Or.inr (hw _ (own_mg (i := 62) rfl))) (Or.inr (hw _ (own_mg (i := 58) rfl))) (by decide) (t := (.object "com/example/vigil_cache/vigilcache/HotKeyRule$WindowUnit")) (t' := .int) (by decide) (by decide)))
theorem own_h_windowUnit_windowLength {Z : State} {a0 : Array Value} (hw : ∀ d ∈ tables_1, d.before a0 Z = true) {h h' : Heap} {a : Addr} {v w : Value} (F : Fld Z h a "com/example/vigil_cache/vigilcache/HotKeyRule" "windowUnit" "Lcom/example/vigil_cache/vigilcache/HotKeyRule$WindowUnit;" v) (W : Wr h h' a (Jvm.RoadKit.slotOf Z "com/example/vigil_cache/vigilcache/HotKeyRule" "windowLength" "J") w) : Fld Z h' a "com/example/vigil_cache/vigilcache/HotKeyRule" "windowUnit" "Lcom/example/vigil_cache/vigilcache/HotKeyRule$WindowUnit;" v := F.other W (Or.inr (slot_ne (Or.inr (hw _ (own_mg (i := 62) rfl))) (Or.inr (hw _ (own_mg (i := 60) rfl))) (by decide) (t := (.object "com/example/vigil_cache/vigilcache/HotKeyRule$WindowUnit")) (t' := .long) (by decide) (by decide)))
theorem ef_1 (m : MethodId) (x0 : Addr) (x1 : Int32) (x2 : Int64) (x3 : Addr) : entryFrame m #[(.ref x0), (.int x1), (.long x2), (.ref x3)] 5 = mkF m 0 #[.val (.ref x0), .val (.int x1), .val (.long x2), .second, .val (.ref x3)] [] := by first | (simp [entryFrame, mkF, argsToLocals, Value.category]; done) | rfl
def Q_rm1 (Z : State) (r0 : Addr) (p1 : Int32) (q2 : Int64) (r3 : Addr) (ml : Int64) (h0 : Heap) (n0 : Nat) (v : Option Value) (h : Heap) (L : List Loc) : Prop := v = none ∧ Fr n0 L ∧ Keep h0 h [r0] ∧ Fld Z h r0 "com/example/vigil_cache/vigilcache/HotKeyRule" "windowLength" "J" (.long q2) ∧ Fld Z h r0 "com/example/vigil_cache/vigilcache/HotKeyRule" "windowUnit" "Lcom/example/vigil_cache/vigilcache/HotKeyRule$WindowUnit;" (.ref r3)
theorem d1_0 : decode prog_23_method_1_code 0 = .ok (.aload_n 0, 1) := by decide +kernel
theorem d1_1 : decode prog_23_method_1_code 1 = .ok (.invokespecial 1, 3) := by decide +kernel
theorem d1_4 : decode prog_23_method_1_code 4 = .ok (.aload 4, 2) := by decide +kernel
theorem d1_6 : decode prog_23_method_1_code 6 = .ok (.ldc 7, 2) := by decide +kernel
theorem d1_8 : decode prog_23_method_1_code 8 = .ok (.invokestatic 9, 3) := by decide +kernel
theorem d1_11 : decode prog_23_method_1_code 11 = .ok (.pop, 1) := by decide +kernel
theorem d1_12 : decode prog_23_method_1_code 12 = .ok (.iload_n 1, 1) := by decide +kernel
theorem d1_13 : decode prog_23_method_1_code 13 = .ok (.iconst 1, 1) := by decide +kernel
theorem d1_14 : decode prog_23_method_1_code 14 = .ok (.if_icmp .ge 30, 3) := by decide +kernel
theorem d1_44 : decode prog_23_method_1_code 44 = .ok (.lload_n 2, 1) := by decide +kernel
theorem d1_45 : decode prog_23_method_1_code 45 = .ok (.aload 4, 2) := by decide +kernel
theorem d1_47 : decode prog_23_method_1_code 47 = .ok (.invokestatic 36, 3) := by decide +kernel
theorem d1_50 : decode prog_23_method_1_code 50 = .ok (.aload_n 0, 1) := by decide +kernel
theorem d1_51 : decode prog_23_method_1_code 51 = .ok (.iload_n 1, 1) := by decide +kernel
theorem d1_52 : decode prog_23_method_1_code 52 = .ok (.putfield 42, 3) := by decide +kernel
theorem d1_55 : decode prog_23_method_1_code 55 = .ok (.aload_n 0, 1) := by decide +kernel
theorem d1_56 : decode prog_23_method_1_code 56 = .ok (.lload_n 2, 1) := by decide +kernel
theorem d1_57 : decode prog_23_method_1_code 57 = .ok (.putfield 46, 3) := by decide +kernel
theorem d1_60 : decode prog_23_method_1_code 60 = .ok (.aload_n 0, 1) := by decide +kernel
theorem d1_61 : decode prog_23_method_1_code 61 = .ok (.aload 4, 2) := by decide +kernel
theorem d1_63 : decode prog_23_method_1_code 63 = .ok (.putfield 50, 3) := by decide +kernel
theorem d1_66 : decode prog_23_method_1_code 66 = .ok (.return_, 1) := by decide +kernel
set_option maxRecDepth 65536 in
set_option maxHeartbeats 40000000 in
theorem rm1 (l : Launch) (Z : State) (a0 : Array Value) (hw : ∀ d ∈ tables_1, d.before a0 Z = true) (ws : List Jvm.Cond) (r0 : Addr) (p1 : Int32) (q2 : Int64) (r3 : Addr) (ml : Int64) (h0 : Heap) (n0 : Nat) (E0 : Exa Z h0 r0 "com/example/vigil_cache/vigilcache/HotKeyRule") (F1 : Fld Z h0 r0 "com/example/vigil_cache/vigilcache/HotKeyRule" "requests" "I" (.int (0 : Int32))) (F2 : Fld Z h0 r0 "com/example/vigil_cache/vigilcache/HotKeyRule" "windowLength" "J" (.long (0 : Int64))) (F3 : Fld Z h0 r0 "com/example/vigil_cache/vigilcache/HotKeyRule" "windowUnit" "Lcom/example/vigil_cache/vigilcache/HotKeyRule$WindowUnit;" .null) (F0 : Fld Z h0 r3 "com/example/vigil_cache/vigilcache/HotKeyRule$WindowUnit" "millis" "J" (.long ml)) (hp : ¬ p1 < 1) (hq1 : ¬ (lcmpW q2 (1 : Int64) < 0)) (hq2 : ml ≠ 0) (hq3 : ¬ (0 < lcmpW q2 ((9223372036854775807 : Int64) / ml))) (g_r0 : n0 ≤ r0) :
    MetFree l (⟨"com/example/vigil_cache/vigilcache/HotKeyRule", "<init>", "(IJLcom/example/vigil_cache/vigilcache/HotKeyRule$WindowUnit;)V"⟩ : MethodName) (head1 (Jvm.Cond.code (⟨"com/example/vigil_cache/vigilcache/HotKeyRule", "<init>", "(IJLcom/example/vigil_cache/vigilcache/HotKeyRule$WindowUnit;)V"⟩ : MethodName) prog_23_method_1_code 5 none :: ws) ({ frames := 2, cells := 2, slots := 44, locals := 24 } : Room)) (fun a U => a = #[(.ref r0), (.int p1), (.long q2), (.ref r3)] ∧ Z.Warmed39 U.vm ∧ U.heap = h0) (fun _ _ _ _ _ => True) (fun _ U o U' => ∃ v L, o = .returned v ∧ Q_rm1 Z r0 p1 q2 r3 ml h0 n0 v U'.heap L ∧ ReturnedEndW U o U' L ({ frames := 2, cells := 2, slots := 44, locals := 24 } : Room).cells ({ frames := 2, cells := 2, slots := 44, locals := 24 } : Room).slots) := by
  refine MetFree.of_bodySF (plainFor_of_name pn_2) hisR ?_
  intro p e s m args below meth c s₁ Bd hml0 hP hK
  obtain ⟨rfl, hZ, hh⟩ := hP
  have hx := Bd.exec
  have hby := Bd.bytes
  have hml : c.maxLocals = 5 := hml0
  have hown : s.vm.findClass "com/example/vigil_cache/vigilcache/HotKeyRule" = some m.cls := findClass_of_methodNamed Bd.named
  have hnm := (name_of_methodNamed Bd.named Bd.method).1
  have X0 : Stand p l e ({ frames := 2, cells := 2, slots := 44, locals := 24 } : Room) s m #[(.ref r0), (.int p1), (.long q2), (.ref r3)] below meth c s₁ [] 0 0 := Stand.of_body Bd
  have e0 : s₁.heap = h0 := by rw [← hh, Bd.state]; rfl
  have N0 := Fr.nil n0
  refine Onw.of (Onw.go (fun _ k => castTop (ef_1 m r0 p1 q2 r3) k) ?_)
  show Onw p e below _ (s₁.setTop (mkF m 0 #[.val (.ref r0), .val (.int p1), .val (.long q2), .second, .val (.ref r3)] []))
  have hstr : ∀ d ∈ Bundle.stringAtoms, d.before a0 Z = true := fun d hd => hw d ((by decide +kernel : ∀ d ∈ Bundle.stringAtoms, d ∈ tables_1) d hd)
  refine Onw.go (fun _ kt => XS.aloadN X0.here hx rfl (hb hby d1_0) rfl rfl kt) ?_
  show Onw p e below _ (s₁.setTop (mkF m 1 #[.val (.ref r0), .val (.int p1), .val (.long q2), .second, .val (.ref r3)] [(.ref r0)]))
  obtain ⟨_, _, ⟨T1, L1, k1, n1⟩, -, X1, ⟨Lc1, hQ1, l1, y1, z1⟩, st1⟩ := X0.specialBack hx (y := (⟨"java/lang/Record", "<init>", "()V"⟩ : MethodName)) rfl hown (mvT hZ (hw _ (own_mg (i := 31) rfl))) (mvT hZ (hw _ (own_mg (i := 32) rfl))) (mvT hZ (hw _ (own_mg (i := 35) rfl))) (by decide) (backOf (W := 0) (rm2 l Z a0 hw [] r0  h0 n0 ) hZ (hw _ (own_mg (i := 35) rfl)) (hw _ (own_mg (i := 34) rfl)) (by decide) (by decide)) (g := (mkF m 1 #[.val (.ref r0), .val (.int p1), .val (.long q2), .second, .val (.ref r3)] [(.ref r0)])) rfl (by rw [hml]; rfl) (Steps.refl _) (a := r0) (argsL := []) (rest := []) (lenOf pd_1 rfl) rfl (by show 2 * 0 + _ ≤ _; exact Nat.le_of_eq rfl) (hb hby d1_1) (fun _ _ => ⟨rfl, e0, (by decide : 0 + 0 ≤ _), (by decide : 0 + 0 ≤ _)⟩)
  dsimp only [Pt.U, Pt.locs, Pt.cells, Pt.slots] at X1 l1 y1 z1 st1 hQ1
  subst l1 y1 z1
  obtain ⟨rfl, N1q, e1q⟩ := hQ1
  have N1 := Fr.app N0 N1q
  refine Onw.go (fun _ kt => st1.trans kt) ?_
  show Onw p e below _ (T1.setTop (mkF m 4 #[.val (.ref r0), .val (.int p1), .val (.long q2), .second, .val (.ref r3)] []))
  refine Onw.go (fun _ kt => XS.aload X1.here hx rfl (hb hby d1_4) rfl rfl kt) ?_
  show Onw p e below _ (T1.setTop (mkF m 6 #[.val (.ref r0), .val (.int p1), .val (.long q2), .second, .val (.ref r3)] [(.ref r3)]))
  have hS0 : s.Since s.vm 0 := (State.WarmedH.refl s).since 0
  obtain ⟨a_2, T2, h2, k2, X2, e2, E2, hS2, hk2, hZ2, hown2, st2⟩ := ldcS (s := s) (vm0 := s.vm) X1 hx hZ hown (hw _ (own_mg (i := 39) rfl)) hstr e1q hS0 (Nat.zero_le _) (g := (mkF m 6 #[.val (.ref r0), .val (.int p1), .val (.long q2), .second, .val (.ref r3)] [(.ref r3)])) rfl (hb hby d1_6) (n := 40) (by decide) (by decide) (by decide) (by decide)
  refine Onw.go st2 ?_
  show Onw p e below _ (T2.setTop (mkF m 8 #[.val (.ref r0), .val (.int p1), .val (.long q2), .second, .val (.ref r3)] [(.ref a_2), (.ref r3)]))
  obtain ⟨_, _, ⟨T3, L3, k3, n3⟩, -, X3, ⟨Lc3, hQ3, l3, y3, z3⟩, st3⟩ := Jvm.LawKit.callS X2 hx (y := (⟨"java/util/Objects", "requireNonNull", "(Ljava/lang/Object;Ljava/lang/String;)Ljava/lang/Object;"⟩ : MethodName)) hown2 (mvT hZ2 (hw _ (own_mg (i := 47) rfl))) (mvT hZ2 (hw _ (own_mg (i := 48) rfl))) (mvT hZ2 (hw _ (own_mg (i := 49) rfl))) (mvT hZ2 (hw _ (own_mg (i := 50) rfl))) (by decide) (backOf (W := 0) (rm4 l Z a0 hw [] r3 a_2  h2 n0 ) hZ2 (hw _ (own_mg (i := 50) rfl)) (hw _ (own_mg (i := 49) rfl)) (by decide) (by decide)) (g := (mkF m 8 #[.val (.ref r0), .val (.int p1), .val (.long q2), .second, .val (.ref r3)] [(.ref a_2), (.ref r3)])) rfl (by rw [hml]; rfl) (argsL := [(.ref r3), (.ref a_2)]) (rest := []) (lenOf pd_2 rfl) rfl (by show 2 * 0 + _ ≤ _; exact Nat.le_of_eq rfl) (hb hby d1_8) (fun _ _ => ⟨rfl, e2, (by decide : 2 + 0 ≤ _), (by decide : 44 + 0 ≤ _)⟩)
  dsimp only [Pt.U, Pt.locs, Pt.cells, Pt.slots] at X3 l3 y3 z3 st3 hQ3
  subst l3 y3 z3
  obtain ⟨rfl, N3q, e3q⟩ := hQ3
  have N3 := Fr.app N1 N3q
  refine Onw.go st3 ?_
  show Onw p e below _ (T3.setTop (mkF m 11 #[.val (.ref r0), .val (.int p1), .val (.long q2), .second, .val (.ref r3)] [(.ref r3)]))
  refine Onw.go (fun _ kt => XS.pop X3.here hx rfl (hb hby d1_11) rfl rfl kt) ?_
  show Onw p e below _ (T3.setTop (mkF m 12 #[.val (.ref r0), .val (.int p1), .val (.long q2), .second, .val (.ref r3)] []))
  refine Onw.go (fun _ kt => XS.iloadN X3.here hx rfl (hb hby d1_12) rfl kt) ?_
  show Onw p e below _ (T3.setTop (mkF m 13 #[.val (.ref r0), .val (.int p1), .val (.long q2), .second, .val (.ref r3)] [(.int p1)]))
  refine Onw.go (fun _ kt => XS.iconst X3.here hx rfl (hb hby d1_13) kt) ?_
  show Onw p e below _ (T3.setTop (mkF m 14 #[.val (.ref r0), .val (.int p1), .val (.long q2), .second, .val (.ref r3)] [(.int (1 : Int32)), (.int p1)]))
  refine Onw.go (fun _ kt => XS.icmpYes X3.here hx rfl (pc0 := 14) (pc' := 44) rfl (hb hby d1_14) rfl (flt (hp : ¬ (p1 < (1 : Int32)))).2.1 (by decide) (by decide) kt) ?_
  show Onw p e below _ (T3.setTop (mkF m 44 #[.val (.ref r0), .val (.int p1), .val (.long q2), .second, .val (.ref r3)] []))
  refine Onw.go (fun _ kt => XS.lloadN X3.here hx rfl (hb hby d1_44) rfl kt) ?_
  show Onw p e below _ (T3.setTop (mkF m 45 #[.val (.ref r0), .val (.int p1), .val (.long q2), .second, .val (.ref r3)] [(.long q2)]))
  refine Onw.go (fun _ kt => XS.aload X3.here hx rfl (hb hby d1_45) rfl rfl kt) ?_
  show Onw p e below _ (T3.setTop (mkF m 47 #[.val (.ref r0), .val (.int p1), .val (.long q2), .second, .val (.ref r3)] [(.ref r3), (.long q2)]))
  obtain ⟨_, _, ⟨T4, L4, k4, n4⟩, -, X4, ⟨Lc4, hQ4, l4, y4, z4⟩, st4⟩ := Jvm.LawKit.callS X3 hx (y := (⟨"com/example/vigil_cache/vigilcache/HotKeyRule", "checkWindow", "(JLcom/example/vigil_cache/vigilcache/HotKeyRule$WindowUnit;)V"⟩ : MethodName)) hown2 (mvT hZ2 (hw _ (own_mg (i := 51) rfl))) (mvT hZ2 (hw _ (own_mg (i := 52) rfl))) (mvT hZ2 (hw _ (own_mg (i := 27) rfl))) (mvT hZ2 (hw _ (own_mg (i := 53) rfl))) (by decide) (backOf (W := 0) (rm5 l Z a0 hw [] q2 r3 ml h2 n0 (F0.ext E2) hq1 hq2 hq3) hZ2 (hw _ (own_mg (i := 53) rfl)) (hw _ (own_mg (i := 27) rfl)) (by decide) (by decide)) (g := (mkF m 47 #[.val (.ref r0), .val (.int p1), .val (.long q2), .second, .val (.ref r3)] [(.ref r3), (.long q2)])) rfl (by rw [hml]; rfl) (argsL := [(.long q2), (.ref r3)]) (rest := []) (lenOf pd_3 rfl) rfl (by show 2 * 0 + _ ≤ _; exact Nat.le_of_eq rfl) (hb hby d1_47) (fun _ _ => ⟨rfl, e3q, (by decide : 2 + 0 ≤ _), (by decide : 44 + 0 ≤ _)⟩)
  dsimp only [Pt.U, Pt.locs, Pt.cells, Pt.slots] at X4 l4 y4 z4 st4 hQ4
  subst l4 y4 z4
  obtain ⟨rfl, N4q, e4q⟩ := hQ4
  have N4 := Fr.app N3 N4q
  refine Onw.go st4 ?_
  show Onw p e below _ (T4.setTop (mkF m 50 #[.val (.ref r0), .val (.int p1), .val (.long q2), .second, .val (.ref r3)] []))
  refine Onw.go (fun _ kt => XS.aloadN X4.here hx rfl (hb hby d1_50) rfl rfl kt) ?_
  show Onw p e below _ (T4.setTop (mkF m 51 #[.val (.ref r0), .val (.int p1), .val (.long q2), .second, .val (.ref r3)] [(.ref r0)]))
  refine Onw.go (fun _ kt => XS.iloadN X4.here hx rfl (hb hby d1_51) rfl kt) ?_
  show Onw p e below _ (T4.setTop (mkF m 52 #[.val (.ref r0), .val (.int p1), .val (.long q2), .second, .val (.ref r3)] [(.int p1), (.ref r0)]))
  obtain ⟨T5, h5, X5, e5, W5, st5⟩ := putF X4 hx hZ2 hown2 (host := "") (Or.inl (hw _ (own_mg (i := 57) rfl))) Via.refl e4q (F1.ext E2) (E0.ext E2) (Or.inr ⟨(hw _ (own_mg (i := 58) rfl)), rfl, hnm⟩) (hw _ (own_mg (i := 26) rfl)) (ty := .int) (by decide) rfl rfl (g := (mkF m 52 #[.val (.ref r0), .val (.int p1), .val (.long q2), .second, .val (.ref r3)] [(.int p1), (.ref r0)])) rfl rfl (hb hby d1_52)
  have N5 := Fr.snoc X5 N4 g_r0
  refine Onw.go st5 ?_
  show Onw p e below _ (T5.setTop (mkF m 55 #[.val (.ref r0), .val (.int p1), .val (.long q2), .second, .val (.ref r3)] []))
  refine Onw.go (fun _ kt => XS.aloadN X5.here hx rfl (hb hby d1_55) rfl rfl kt) ?_
  show Onw p e below _ (T5.setTop (mkF m 56 #[.val (.ref r0), .val (.int p1), .val (.long q2), .second, .val (.ref r3)] [(.ref r0)]))
  refine Onw.go (fun _ kt => XS.lloadN X5.here hx rfl (hb hby d1_56) rfl kt) ?_
  show Onw p e below _ (T5.setTop (mkF m 57 #[.val (.ref r0), .val (.int p1), .val (.long q2), .second, .val (.ref r3)] [(.long q2), (.ref r0)]))
  have G2 := own_h_windowLength_requests hw (F2.ext E2) W5
  have G3 := own_h_windowUnit_requests hw (F3.ext E2) W5
  have G0 := (E0.ext E2).wr W5
  obtain ⟨T6, h6, X6, e6, W6, st6⟩ := putF X5 hx hZ2 hown2 (host := "") (Or.inl (hw _ (own_mg (i := 59) rfl))) Via.refl e5 G2 G0 (Or.inr ⟨(hw _ (own_mg (i := 60) rfl)), rfl, hnm⟩) (hw _ (own_mg (i := 26) rfl)) (ty := .long) (by decide) rfl rfl (g := (mkF m 57 #[.val (.ref r0), .val (.int p1), .val (.long q2), .second, .val (.ref r3)] [(.long q2), (.ref r0)])) rfl rfl (hb hby d1_57)
  have N6 := Fr.snoc X6 N5 g_r0
  refine Onw.go st6 ?_
  show Onw p e below _ (T6.setTop (mkF m 60 #[.val (.ref r0), .val (.int p1), .val (.long q2), .second, .val (.ref r3)] []))
  refine Onw.go (fun _ kt => XS.aloadN X6.here hx rfl (hb hby d1_60) rfl rfl kt) ?_
  show Onw p e below _ (T6.setTop (mkF m 61 #[.val (.ref r0), .val (.int p1), .val (.long q2), .second, .val (.ref r3)] [(.ref r0)]))
  refine Onw.go (fun _ kt => XS.aload X6.here hx rfl (hb hby d1_61) rfl rfl kt) ?_
  show Onw p e below _ (T6.setTop (mkF m 63 #[.val (.ref r0), .val (.int p1), .val (.long q2), .second, .val (.ref r3)] [(.ref r3), (.ref r0)]))
  have I2 := G2.same W6
  have I3 := own_h_windowUnit_windowLength hw G3 W6
  have I0 := G0.wr W6
  obtain ⟨T7, h7, X7, e7, W7, st7⟩ := putF X6 hx hZ2 hown2 (host := "") (Or.inl (hw _ (own_mg (i := 61) rfl))) Via.refl e6 I3 I0 (Or.inr ⟨(hw _ (own_mg (i := 62) rfl)), rfl, hnm⟩) (hw _ (own_mg (i := 26) rfl)) (ty := (.object "com/example/vigil_cache/vigilcache/HotKeyRule$WindowUnit")) (by decide) rfl rfl (g := (mkF m 63 #[.val (.ref r0), .val (.int p1), .val (.long q2), .second, .val (.ref r3)] [(.ref r3), (.ref r0)])) rfl rfl (hb hby d1_63)
  have N7 := Fr.snoc X7 N6 g_r0
  refine Onw.go st7 ?_
  show Onw p e below _ (T7.setTop (mkF m 66 #[.val (.ref r0), .val (.int p1), .val (.long q2), .second, .val (.ref r3)] []))
  have J2 := own_h_windowLength_windowUnit hw I2 W7
  have J3 := I3.same W7
  have K3 : Keep h0 h7 [r0] := ((((Keep.refl h0 [r0]).ext E2).wr W5 (Or.inl (List.mem_of_getElem? (i := 0) rfl))).wr W6 (Or.inl (List.mem_of_getElem? (i := 0) rfl))).wr W7 (Or.inl (List.mem_of_getElem? (i := 0) rfl))
  have hkz := Nat.le_trans hk2 (Nat.le_of_eq ((W7.size.trans (W6.size.trans W5.size)).symm))
  exact Onw.retW X7 hS2 (by rw [e7]; exact hkz) Bd.notSynchronized (fun _ => rfl) (fun fs hr => X7.returnOut hx Bd.returns (hb hby d1_66) hr) ⟨rfl, N7, by rw [e7]; exact K3, by rw [e7]; exact J2, by rw [e7]; exact J3⟩ (by decide) (by decide)
theorem ef_6 (m : MethodId) (x0 : Addr) : entryFrame m #[(.ref x0)] 1 = mkF m 0 #[.val (.ref x0)] [] := by first | (simp [entryFrame, mkF, argsToLocals, Value.category]; done) | rfl
def Q_rm6 (Z : State) (r0 : Addr) (zc : Int32) (lw : Int64) (wu r1 t o1 o2 : Addr) (kt : ClassId) (ss : List Int32) (d w : Nat) (h0 : Heap) (n0 : Nat) (v : Option Value) (h : Heap) (L : List Loc) : Prop := ∃ (u b : Addr) (kb : ClassId) (zs : List Int32), v = some (.ref u) ∧ Fr n0 L ∧ Ext h0 h ∧ own_ST Z h u b ∧ Arv Z h b kb .byte (Int32.ofNat (zs).length) ((zs).map Value.int) (.int (0 : Int32)) ∧ zs.length = d + ss.length ∧ (∀ i, i < d → zs[i]? = some (Int32.ofNat (48 + w / 10 ^ (d - 1 - i) % 10))) ∧ ∀ j, zs[d + j]? = ss[j]?
theorem d6_0 : decode prog_23_method_6_code 0 = .ok (.new 17, 3) := by decide +kernel
theorem d6_3 : decode prog_23_method_6_code 3 = .ok (.dup, 1) := by decide +kernel
theorem d6_4 : decode prog_23_method_6_code 4 = .ok (.invokespecial 19, 3) := by decide +kernel
theorem d6_7 : decode prog_23_method_6_code 7 = .ok (.aload_n 0, 1) := by decide +kernel
theorem d6_8 : decode prog_23_method_6_code 8 = .ok (.getfield 46, 3) := by decide +kernel
theorem d6_11 : decode prog_23_method_6_code 11 = .ok (.invokevirtual 149, 3) := by decide +kernel
theorem d6_14 : decode prog_23_method_6_code 14 = .ok (.aload_n 0, 1) := by decide +kernel
theorem d6_15 : decode prog_23_method_6_code 15 = .ok (.getfield 50, 3) := by decide +kernel
theorem d6_18 : decode prog_23_method_6_code 18 = .ok (.getfield 152, 3) := by decide +kernel
theorem d6_21 : decode prog_23_method_6_code 21 = .ok (.invokevirtual 22, 3) := by decide +kernel
theorem d6_24 : decode prog_23_method_6_code 24 = .ok (.invokevirtual 29, 3) := by decide +kernel
theorem d6_27 : decode prog_23_method_6_code 27 = .ok (.areturn, 1) := by decide +kernel
set_option maxRecDepth 65536 in
set_option maxHeartbeats 40000000 in
theorem rm6 (l : Launch) (Z : State) (a0 : Array Value) (hw : ∀ d ∈ tables_1, d.before a0 Z = true) (ws : List Jvm.Cond) (r0 : Addr) (zc : Int32) (lw : Int64) (wu r1 t o1 o2 : Addr) (kt : ClassId) (ss : List Int32) (d w : Nat) (h0 : Heap) (n0 : Nat) (FL : Fld Z h0 r0 "com/example/vigil_cache/vigilcache/HotKeyRule" "windowLength" "J" (.long lw)) (FU : Fld Z h0 r0 "com/example/vigil_cache/vigilcache/HotKeyRule" "windowUnit" "Lcom/example/vigil_cache/vigilcache/HotKeyRule$WindowUnit;" (.ref wu)) (FS : Fld Z h0 wu "com/example/vigil_cache/vigilcache/HotKeyRule$WindowUnit" "suffix" "Ljava/lang/String;" (.ref r1)) (M1 : own_ST Z h0 r1 t) (VT : Arv Z h0 t kt .byte (Int32.ofNat (ss).length) ((ss).map Value.int) (.int (0 : Int32))) (hs2 : ss.length ≤ 2) (S_C : Sta Z h0 "java/lang/String" "COMPACT_STRINGS" "Z" (.int zc)) (hz : ¬ zc = 0) (S_1 : Sta Z h0 "java/lang/Integer" "DigitOnes" "[B" (.ref o1)) (S_2 : Sta Z h0 "java/lang/Integer" "DigitTens" "[B" (.ref o2)) (D_1 : own_DG Z h0 o1 (fun i => i % 10)) (D_2 : own_DG Z h0 o2 (fun i => i / 10)) (lo1 : o1 < n0) (lo2 : o2 < n0) (hq : lw.toInt = (w : Int)) (D : own_D w d) (hd : d ≤ 19) (lr : r1 < n0) (lt : t < n0) (Z0 : n0 ≤ h0.size) :
    MetFree l (⟨"com/example/vigil_cache/vigilcache/HotKeyRule", "windowAsWritten", "()Ljava/lang/String;"⟩ : MethodName) (head1 (Jvm.Cond.code (⟨"com/example/vigil_cache/vigilcache/HotKeyRule", "windowAsWritten", "()Ljava/lang/String;"⟩ : MethodName) prog_23_method_6_code 1 (some (.object "java/lang/String")) :: ws) ({ frames := 6, cells := 6, slots := 126, locals := 92 } : Room)) (fun a U => a = #[(.ref r0)] ∧ Z.Warmed39 U.vm ∧ U.heap = h0) (fun _ _ _ _ _ => True) (fun _ U o U' => ∃ v L, o = .returned v ∧ Q_rm6 Z r0 zc lw wu r1 t o1 o2 kt ss d w h0 n0 v U'.heap L ∧ FrameEnd U o U' L ({ frames := 6, cells := 6, slots := 126, locals := 92 } : Room).cells ({ frames := 6, cells := 6, slots := 126, locals := 92 } : Room).slots) := by
  refine MetFree.of_bodySF (plainFor_of_name pn_2) hisR ?_
  intro p e s m args below meth c s₁ Bd hml0 hP hK
  obtain ⟨rfl, hZ, hh⟩ := hP
  have hx := Bd.exec
  have hby := Bd.bytes
  have hml : c.maxLocals = 1 := hml0
  have hown : s.vm.findClass "com/example/vigil_cache/vigilcache/HotKeyRule" = some m.cls := findClass_of_methodNamed Bd.named
  have hnm := (name_of_methodNamed Bd.named Bd.method).1
  have X0 : Stand p l e ({ frames := 6, cells := 6, slots := 126, locals := 92 } : Room) s m #[(.ref r0)] below meth c s₁ [] 0 0 := Stand.of_body Bd
  have e0 : s₁.heap = h0 := by rw [← hh, Bd.state]; rfl
  have N0 := Fr.nil n0
  refine Onw.of (Onw.go (fun _ k => castTop (ef_6 m r0) k) ?_)
  show Onw p e below _ (s₁.setTop (mkF m 0 #[.val (.ref r0)] []))
  obtain ⟨T1, h1, X1, e1, E1, A1, D1, -, st1⟩ := newO X0 hx hZ hown (hw _ (own_mg (i := 68) rfl)) (hw _ (own_mg (i := 69) rfl)) (hw _ (own_mg (i := 70) rfl)) e0 (g := (mkF m 0 #[.val (.ref r0)] [])) rfl (hb hby d6_0) (by decide) (by decide)
  obtain ⟨sb, gg1⟩ : ∃ own_z, own_z = h0.size := ⟨_, rfl⟩
  rw [← gg1] at A1 D1 st1
  have F_value_sb : Fld Z h1 sb "java/lang/AbstractStringBuilder" "value" "[B" .null := D1 (Or.inl (hw _ (List.mem_of_getElem? (i := 83) rfl))) (ty := (.array .byte)) (by decide)
  have F_coder_sb : Fld Z h1 sb "java/lang/AbstractStringBuilder" "coder" "B" (.int (0 : Int32)) := D1 (Or.inl (hw _ (List.mem_of_getElem? (i := 85) rfl))) (ty := .byte) (by decide)
  have F_count_sb : Fld Z h1 sb "java/lang/AbstractStringBuilder" "count" "I" (.int (0 : Int32)) := D1 (Or.inl (hw _ (List.mem_of_getElem? (i := 97) rfl))) (ty := .int) (by decide)
  refine Onw.go st1 ?_
  show Onw p e below _ (T1.setTop (mkF m 3 #[.val (.ref r0)] [(.ref sb)]))
  have gs : h0.size ≤ sb := Nat.le_of_eq gg1.symm
  have g_sb : n0 ≤ sb := Nat.le_trans Z0 gs
  refine Onw.go (fun _ kt => XS.dup X1.here hx rfl (hb hby d6_3) rfl rfl kt) ?_
  show Onw p e below _ (T1.setTop (mkF m 4 #[.val (.ref r0)] [(.ref sb), (.ref sb)]))
  obtain ⟨_, _, ⟨T2, L2, k2, n2⟩, -, X2, ⟨Lc2, hQ2, l2, y2, z2⟩, st2⟩ := X1.specialBack hx (y := (⟨"java/lang/StringBuilder", "<init>", "()V"⟩ : MethodName)) rfl hown (mvT hZ (hw _ (own_mg (i := 71) rfl))) (mvT hZ (hw _ (own_mg (i := 72) rfl))) (mvT hZ (hw _ (own_mg (i := 73) rfl))) (by decide) (backOf (W := 1) (rm7 l Z a0 hw [] sb zc h1 n0 ⟨A1, F_value_sb, F_coder_sb, F_count_sb⟩ (S_C.ext E1) hz g_sb (Nat.le_trans Z0 E1.1)) hZ (hw _ (own_mg (i := 73) rfl)) (hw _ (own_mg (i := 70) rfl)) (by decide) (by decide)) (g := (mkF m 4 #[.val (.ref r0)] [(.ref sb), (.ref sb)])) rfl (by rw [hml]; rfl) (Steps.refl _) (a := sb) (argsL := []) (rest := [(.ref sb)]) (lenOf pd_1 rfl) rfl (by show 2 * 0 + _ ≤ _; exact Nat.le_of_eq rfl) (hb hby d6_4) (fun _ _ => ⟨rfl, e1, (by decide : 1 + 1 ≤ _), (by decide : 4 + 16 ≤ _)⟩)
  dsimp only [Pt.U, Pt.locs, Pt.cells, Pt.slots] at X2 l2 y2 z2 st2 hQ2
  subst l2 y2 z2
  obtain ⟨rfl, N2q, K2, v1, k1, g1, s2, MB, V1, EA1⟩ := hQ2
  have N2 := Fr.app N0 N2q
  refine Onw.go (fun _ kt => st2.trans kt) ?_
  show Onw p e below _ (T2.setTop (mkF m 7 #[.val (.ref r0)] [(.ref sb)]))
  have XB : Ext h0 T2.heap := own_extk E1 K2 gs
  have gv1 : h0.size ≤ v1 := Nat.le_trans E1.1 s2
  have ne1 : v1 ≠ sb := fun q => Nat.lt_irrefl _ (Nat.lt_of_lt_of_le (q ▸ A1.lt) s2)
  refine Onw.go (fun _ kt => XS.aloadN X2.here hx rfl (hb hby d6_7) rfl rfl kt) ?_
  show Onw p e below _ (T2.setTop (mkF m 8 #[.val (.ref r0)] [(.ref r0), (.ref sb)]))
  obtain ⟨T3, X3, e3, st3⟩ := getF X2 hx hZ hown (host := "") (Or.inl (hw _ (own_mg (i := 59) rfl))) Via.refl rfl (FL.ext XB) (g := (mkF m 8 #[.val (.ref r0)] [(.ref r0), (.ref sb)])) rfl rfl (hb hby d6_8)
  refine Onw.go st3 ?_
  show Onw p e below _ (T3.setTop (mkF m 11 #[.val (.ref r0)] [(.long lw), (.ref sb)]))
  obtain ⟨cq4, kq4, q4a, q4b, q4c⟩ := isOf hZ e3 MB.1
  obtain ⟨_, _, ⟨T4, L4, k4, n4⟩, -, X4, ⟨Lc4, hQ4, l4, y4, z4⟩, st4⟩ := X3.virtualBack hx (y := (⟨"java/lang/StringBuilder", "append", "(J)Ljava/lang/StringBuilder;"⟩ : MethodName)) (z := (⟨"java/lang/StringBuilder", "append", "(J)Ljava/lang/StringBuilder;"⟩ : MethodName)) hown (mvT hZ (hw _ (own_mg (i := 86) rfl))) (mvT hZ (hw _ (own_mg (i := 87) rfl))) (notFace_of_selects (args := #[]) (mvT hZ (hw _ (own_mg (i := 89) rfl)))) (mvT hZ (hw _ (own_mg (i := 89) rfl))) (mvT hZ (hw _ (own_mg (i := 88) rfl))) (by decide) (backOf (W := 0) (rm9 l Z a0 hw [] sb lw zc o1 o2 v1 k1 d w T2.heap n0 MB V1 EA1 ne1 (S_C.ext XB) hz (S_1.ext XB) (S_2.ext XB) (own_DG.keep D_1 ((Keep.refl h0 []).ext XB) (by simp)) (own_DG.keep D_2 ((Keep.refl h0 []).ext XB) (by simp)) lo1 lo2 hq D hd g_sb g1 (Nat.le_trans Z0 XB.1)) hZ (hw _ (own_mg (i := 90) rfl)) (hw _ (own_mg (i := 70) rfl)) (by decide) (by decide)) q4a q4c (g := (mkF m 11 #[.val (.ref r0)] [(.long lw), (.ref sb)])) rfl (by rw [hml]; rfl) (Steps.refl _) (argsL := [(.long lw)]) (rest := []) (lenOf pd_6 rfl) rfl (by show 2 * 0 + _ ≤ _; exact Nat.le_of_eq rfl) (hb hby d6_11) (fun _ _ => ⟨rfl, e3, (by decide : 2 + 1 ≤ _), (by decide : 20 + 34 ≤ _)⟩)
  dsimp only [Pt.U, Pt.locs, Pt.cells, Pt.slots] at X4 l4 y4 z4 st4 hQ4
  subst l4 y4 z4
  obtain ⟨v2, k2, xs2, rfl, N4q, K4, g2, ne2, o2x, M2, V2, EA2, l2, d2, x2⟩ := hQ4
  have N4 := Fr.app N2 N4q
  refine Onw.go (fun _ kt => st4.trans kt) ?_
  show Onw p e below _ (T4.setTop (mkF m 14 #[.val (.ref r0)] [(.ref sb)]))
  have XC : Ext h0 T4.heap := own_extk2 XB K4 gs gv1
  have gv2 : h0.size ≤ v2 := by
    rcases o2x with z | z
    · rw [z]; exact gv1
    · exact Nat.le_trans XB.1 z
  refine Onw.go (fun _ kt => XS.aloadN X4.here hx rfl (hb hby d6_14) rfl rfl kt) ?_
  show Onw p e below _ (T4.setTop (mkF m 15 #[.val (.ref r0)] [(.ref r0), (.ref sb)]))
  obtain ⟨T5, X5, e5, st5⟩ := getF X4 hx hZ hown (host := "") (Or.inl (hw _ (own_mg (i := 61) rfl))) Via.refl rfl (FU.ext XC) (g := (mkF m 15 #[.val (.ref r0)] [(.ref r0), (.ref sb)])) rfl rfl (hb hby d6_15)
  refine Onw.go st5 ?_
  show Onw p e below _ (T5.setTop (mkF m 18 #[.val (.ref r0)] [(.ref wu), (.ref sb)]))
  refine Onw.go (own_getR X5 hx hZ hown (hw _ (own_mg (i := 119) rfl)) e5 (FS.ext XC) (g := (mkF m 18 #[.val (.ref r0)] [(.ref wu), (.ref sb)])) rfl rfl (hb hby d6_18)) ?_
  show Onw p e below _ (T5.setTop (mkF m 21 #[.val (.ref r0)] [(.ref r1), (.ref sb)]))
  obtain ⟨cq6, kq6, q6a, q6b, q6c⟩ := isOf hZ e5 M2.1
  obtain ⟨_, _, ⟨T6, L6, k6, n6⟩, -, X6, ⟨Lc6, hQ6, l6, y6, z6⟩, st6⟩ := X5.virtualBack hx (y := (⟨"java/lang/StringBuilder", "append", "(Ljava/lang/String;)Ljava/lang/StringBuilder;"⟩ : MethodName)) (z := (⟨"java/lang/StringBuilder", "append", "(Ljava/lang/String;)Ljava/lang/StringBuilder;"⟩ : MethodName)) hown (mvT hZ (hw _ (own_mg (i := 121) rfl))) (mvT hZ (hw _ (own_mg (i := 122) rfl))) (notFace_of_selects (args := #[]) (mvT hZ (hw _ (own_mg (i := 124) rfl)))) (mvT hZ (hw _ (own_mg (i := 124) rfl))) (mvT hZ (hw _ (own_mg (i := 123) rfl))) (by decide) (backOf (W := 0) (rm15 l Z a0 hw [] sb r1 zc t v2 k2 kt xs2 ss d T4.heap n0 M2 V2 EA2 ne2 (M1.ext XC) (VT.ext XC) (S_C.ext XC) hz l2 d2 hd hs2 lr lt g_sb g2 (Nat.le_trans Z0 XC.1)) hZ (hw _ (own_mg (i := 125) rfl)) (hw _ (own_mg (i := 70) rfl)) (by decide) (by decide)) q6a q6c (g := (mkF m 21 #[.val (.ref r0)] [(.ref r1), (.ref sb)])) rfl (by rw [hml]; rfl) (Steps.refl _) (argsL := [(.ref r1)]) (rest := []) (lenOf pd_11 rfl) rfl (by show 2 * 0 + _ ≤ _; exact Nat.le_of_eq rfl) (hb hby d6_21) (fun _ _ => ⟨rfl, e5, (by decide : 3 + 1 ≤ _), (by decide : 54 + 34 ≤ _)⟩)
  dsimp only [Pt.U, Pt.locs, Pt.cells, Pt.slots] at X6 l6 y6 z6 st6 hQ6
  subst l6 y6 z6
  obtain ⟨v3, k3, xs3, rfl, N6q, K6, g3, ne3, M3, V3, EA3, l3, d3, x3⟩ := hQ6
  have N6 := Fr.app N4 N6q
  refine Onw.go (fun _ kt => st6.trans kt) ?_
  show Onw p e below _ (T6.setTop (mkF m 24 #[.val (.ref r0)] [(.ref sb)]))
  have XD : Ext h0 T6.heap := own_extk2 XC K6 gs gv2
  obtain ⟨cq7, kq7, q7a, q7b, q7c⟩ := isOf hZ rfl M3.1
  obtain ⟨_, _, ⟨T7, L7, k7, n7⟩, -, X7, ⟨Lc7, hQ7, l7, y7, z7⟩, st7⟩ := X6.virtualBack hx (y := (⟨"java/lang/StringBuilder", "toString", "()Ljava/lang/String;"⟩ : MethodName)) (z := (⟨"java/lang/StringBuilder", "toString", "()Ljava/lang/String;"⟩ : MethodName)) hown (mvT hZ (hw _ (own_mg (i := 163) rfl))) (mvT hZ (hw _ (own_mg (i := 164) rfl))) (notFace_of_selects (args := #[]) (mvT hZ (hw _ (own_mg (i := 166) rfl)))) (mvT hZ (hw _ (own_mg (i := 166) rfl))) (mvT hZ (hw _ (own_mg (i := 165) rfl))) (by decide) (backOf (W := 0) (rm22 l Z a0 hw [] sb zc v3 k3 xs3 (d + ss.length) T6.heap n0 M3 V3 EA3 (S_C.ext XD) hz d3 (by omega) (Nat.le_trans Z0 XD.1)) hZ (hw _ (own_mg (i := 167) rfl)) (hw _ (own_mg (i := 70) rfl)) (by decide) (by decide)) q7a q7c (g := (mkF m 24 #[.val (.ref r0)] [(.ref sb)])) rfl (by rw [hml]; rfl) (Steps.refl _) (argsL := []) (rest := []) (lenOf pd_4 rfl) rfl (by show 2 * 0 + _ ≤ _; exact Nat.le_of_eq rfl) (hb hby d6_24) (fun _ _ => ⟨rfl, rfl, (by decide : 4 + 2 ≤ _), (by decide : 88 + 38 ≤ _)⟩)
  dsimp only [Pt.U, Pt.locs, Pt.cells, Pt.slots] at X7 l7 y7 z7 st7 hQ7
  subst l7 y7 z7
  obtain ⟨u7, b7, kb7, rfl, N7q, E7, M7, V7⟩ := hQ7
  have N7 := Fr.app N6 N7q
  refine Onw.go (fun _ kt => st7.trans kt) ?_
  show Onw p e below _ (T7.setTop (mkF m 27 #[.val (.ref r0)] [(.ref u7)]))
  obtain ⟨zs, hzs⟩ : ∃ own_z, own_z = xs3.take (d + ss.length) := ⟨_, rfl⟩
  rw [← hzs] at V7
  have hc := own_zs (xs2 := []) d2 x2 (hzs.trans x3)
  exact Onw.ret X7 Bd.notSynchronized (fun h => by rw [Bd.returns] at h; cases h) (fun fs hr => X7.areturnOut hx rfl Bd.returns rfl (hb hby d6_27) hr) ⟨u7, b7, kb7, zs, rfl, N7, ⟨Nat.le_trans XD.1 E7.1, fun a c q => E7.2 a c (XD.2 a c q)⟩, M7, V7, hc⟩ (by decide) (by decide)
theorem pn_9 : plainName "jdk/internal/util/Preconditions" = true := by first | (simp [plainName, overriddenIn]; done) | decide +kernel
theorem ef_37 (m : MethodId) (x0 : Int32) (x1 : Int32) (x2 : Addr) : entryFrame m #[(.int x0), (.int x1), (.ref x2)] 3 = mkF m 0 #[.val (.int x0), .val (.int x1), .val (.ref x2)] [] := by first | (simp [entryFrame, mkF, argsToLocals, Value.category]; done) | rfl
def Q_rm37 (Z : State) (p0 : Int32) (p1 : Int32) (r2 : Addr) (h0 : Heap) (n0 : Nat) (v : Option Value) (h : Heap) (L : List Loc) : Prop := v = some (.int p0) ∧ Fr n0 L ∧ h = h0
theorem d37_0 : decode jdk_41_method_11_code 0 = .ok (.iload_n 0, 1) := by decide +kernel
theorem d37_1 : decode jdk_41_method_11_code 1 = .ok (.ifCond .lt 8, 3) := by decide +kernel
theorem d37_4 : decode jdk_41_method_11_code 4 = .ok (.iload_n 0, 1) := by decide +kernel
theorem d37_5 : decode jdk_41_method_11_code 5 = .ok (.iload_n 1, 1) := by decide +kernel
theorem d37_6 : decode jdk_41_method_11_code 6 = .ok (.if_icmp .lt 10, 3) := by decide +kernel
theorem d37_16 : decode jdk_41_method_11_code 16 = .ok (.iload_n 0, 1) := by decide +kernel
theorem d37_17 : decode jdk_41_method_11_code 17 = .ok (.ireturn, 1) := by decide +kernel
set_option maxRecDepth 65536 in
set_option maxHeartbeats 40000000 in
theorem rm37 (l : Launch) (Z : State) (a0 : Array Value) (hw : ∀ d ∈ tables_1, d.before a0 Z = true) (ws : List Jvm.Cond) (p0 : Int32) (p1 : Int32) (r2 : Addr) (h0 : Heap) (n0 : Nat) (h1 : ¬ p0 < 0) (h2 : p0 < p1) :
    MetFree l (⟨"jdk/internal/util/Preconditions", "checkIndex", "(IILjava/util/function/BiFunction;)I"⟩ : MethodName) (head1 (Jvm.Cond.code (⟨"jdk/internal/util/Preconditions", "checkIndex", "(IILjava/util/function/BiFunction;)I"⟩ : MethodName) jdk_41_method_11_code 3 (some .int) :: ws) ({ frames := 0, cells := 0, slots := 0, locals := 0 } : Room)) (fun a U => a = #[(.int p0), (.int p1), (.ref r2)] ∧ Z.Warmed39 U.vm ∧ U.heap = h0) (fun _ _ _ _ _ => True) (fun _ U o U' => ∃ v L, o = .returned v ∧ Q_rm37 Z p0 p1 r2 h0 n0 v U'.heap L ∧ FrameEnd U o U' L ({ frames := 0, cells := 0, slots := 0, locals := 0 } : Room).cells ({ frames := 0, cells := 0, slots := 0, locals := 0 } : Room).slots) := by
  refine MetFree.of_bodySF (plainFor_of_name pn_9) hisR ?_
  intro p e s m args below meth c s₁ Bd hml0 hP hK
  obtain ⟨rfl, hZ, hh⟩ := hP
  have hx := Bd.exec
  have hby := Bd.bytes
  have hml : c.maxLocals = 3 := hml0
  have hown : s.vm.findClass "jdk/internal/util/Preconditions" = some m.cls := findClass_of_methodNamed Bd.named
  have hnm := (name_of_methodNamed Bd.named Bd.method).1
  have X0 : Stand p l e ({ frames := 0, cells := 0, slots := 0, locals := 0 } : Room) s m #[(.int p0), (.int p1), (.ref r2)] below meth c s₁ [] 0 0 := Stand.of_body Bd
  have e0 : s₁.heap = h0 := by rw [← hh, Bd.state]; rfl
  have N0 := Fr.nil n0
  refine Onw.of (Onw.go (fun _ k => castTop (ef_37 m p0 p1 r2) k) ?_)
  show Onw p e below _ (s₁.setTop (mkF m 0 #[.val (.int p0), .val (.int p1), .val (.ref r2)] []))
  refine Onw.go (fun _ kt => XS.iloadN X0.here hx rfl (hb hby d37_0) rfl kt) ?_
  show Onw p e below _ (s₁.setTop (mkF m 1 #[.val (.int p0), .val (.int p1), .val (.ref r2)] [(.int p0)]))
  refine Onw.go (fun _ kt => XS.ifNo X0.here hx rfl (hb hby d37_1) rfl ((if0 _ _).trans (flt (h1 : ¬ (p0 < (0 : Int32)))).1) kt) ?_
  show Onw p e below _ (s₁.setTop (mkF m 4 #[.val (.int p0), .val (.int p1), .val (.ref r2)] []))
  refine Onw.go (fun _ kt => XS.iloadN X0.here hx rfl (hb hby d37_4) rfl kt) ?_
  show Onw p e below _ (s₁.setTop (mkF m 5 #[.val (.int p0), .val (.int p1), .val (.ref r2)] [(.int p0)]))
  refine Onw.go (fun _ kt => XS.iloadN X0.here hx rfl (hb hby d37_5) rfl kt) ?_
  show Onw p e below _ (s₁.setTop (mkF m 6 #[.val (.int p0), .val (.int p1), .val (.ref r2)] [(.int p1), (.int p0)]))
  refine Onw.go (fun _ kt => XS.icmpYes X0.here hx rfl (pc0 := 6) (pc' := 16) rfl (hb hby d37_6) rfl (tlt (h2 : p0 < p1)).1 (by decide) (by decide) kt) ?_
  show Onw p e below _ (s₁.setTop (mkF m 16 #[.val (.int p0), .val (.int p1), .val (.ref r2)] []))
  refine Onw.go (fun _ kt => XS.iloadN X0.here hx rfl (hb hby d37_16) rfl kt) ?_
  show Onw p e below _ (s₁.setTop (mkF m 17 #[.val (.int p0), .val (.int p1), .val (.ref r2)] [(.int p0)]))
  exact Onw.ret X0 Bd.notSynchronized (fun h => by rw [Bd.returns] at h; cases h) (fun fs hr => retI X0 hx Bd.returns (hb hby d37_17) hr) ⟨rfl, N0, e0⟩ (by decide) (by decide)
theorem ef_37_2 (m : MethodId) (x0 : Int32) (x1 : Int32) : entryFrame m #[(.int x0), (.int x1), .null] 3 = mkF m 0 #[.val (.int x0), .val (.int x1), .val .null] [] := by first | (simp [entryFrame, mkF, argsToLocals, Value.category]; done) | rfl
def Q_rm37n (Z : State) (p0 : Int32) (p1 : Int32) (h0 : Heap) (n0 : Nat) (v : Option Value) (h : Heap) (L : List Loc) : Prop := v = some (.int p0) ∧ Fr n0 L ∧ h = h0
set_option maxRecDepth 65536 in
set_option maxHeartbeats 40000000 in
theorem rm37n (l : Launch) (Z : State) (a0 : Array Value) (hw : ∀ d ∈ tables_1, d.before a0 Z = true) (ws : List Jvm.Cond) (p0 : Int32) (p1 : Int32) (h0 : Heap) (n0 : Nat) (h1 : ¬ p0 < 0) (h2 : p0 < p1) :
    MetFree l (⟨"jdk/internal/util/Preconditions", "checkIndex", "(IILjava/util/function/BiFunction;)I"⟩ : MethodName) (head1 (Jvm.Cond.code (⟨"jdk/internal/util/Preconditions", "checkIndex", "(IILjava/util/function/BiFunction;)I"⟩ : MethodName) jdk_41_method_11_code 3 (some .int) :: ws) ({ frames := 0, cells := 0, slots := 0, locals := 0 } : Room)) (fun a U => a = #[(.int p0), (.int p1), .null] ∧ Z.Warmed39 U.vm ∧ U.heap = h0) (fun _ _ _ _ _ => True) (fun _ U o U' => ∃ v L, o = .returned v ∧ Q_rm37n Z p0 p1 h0 n0 v U'.heap L ∧ FrameEnd U o U' L ({ frames := 0, cells := 0, slots := 0, locals := 0 } : Room).cells ({ frames := 0, cells := 0, slots := 0, locals := 0 } : Room).slots) := by
  refine MetFree.of_bodySF (plainFor_of_name pn_9) hisR ?_
  intro p e s m args below meth c s₁ Bd hml0 hP hK
  obtain ⟨rfl, hZ, hh⟩ := hP
  have hx := Bd.exec
  have hby := Bd.bytes
  have hml : c.maxLocals = 3 := hml0
  have hown : s.vm.findClass "jdk/internal/util/Preconditions" = some m.cls := findClass_of_methodNamed Bd.named
  have hnm := (name_of_methodNamed Bd.named Bd.method).1
  have X0 : Stand p l e ({ frames := 0, cells := 0, slots := 0, locals := 0 } : Room) s m #[(.int p0), (.int p1), .null] below meth c s₁ [] 0 0 := Stand.of_body Bd
  have e0 : s₁.heap = h0 := by rw [← hh, Bd.state]; rfl
  have N0 := Fr.nil n0
  refine Onw.of (Onw.go (fun _ k => castTop (ef_37_2 m p0 p1) k) ?_)
  show Onw p e below _ (s₁.setTop (mkF m 0 #[.val (.int p0), .val (.int p1), .val .null] []))
  refine Onw.go (fun _ kt => XS.iloadN X0.here hx rfl (hb hby d37_0) rfl kt) ?_
  show Onw p e below _ (s₁.setTop (mkF m 1 #[.val (.int p0), .val (.int p1), .val .null] [(.int p0)]))
  refine Onw.go (fun _ kt => XS.ifNo X0.here hx rfl (hb hby d37_1) rfl ((if0 _ _).trans (flt (h1 : ¬ (p0 < (0 : Int32)))).1) kt) ?_
  show Onw p e below _ (s₁.setTop (mkF m 4 #[.val (.int p0), .val (.int p1), .val .null] []))
  refine Onw.go (fun _ kt => XS.iloadN X0.here hx rfl (hb hby d37_4) rfl kt) ?_
  show Onw p e below _ (s₁.setTop (mkF m 5 #[.val (.int p0), .val (.int p1), .val .null] [(.int p0)]))
  refine Onw.go (fun _ kt => XS.iloadN X0.here hx rfl (hb hby d37_5) rfl kt) ?_
  show Onw p e below _ (s₁.setTop (mkF m 6 #[.val (.int p0), .val (.int p1), .val .null] [(.int p1), (.int p0)]))
  refine Onw.go (fun _ kt => XS.icmpYes X0.here hx rfl (pc0 := 6) (pc' := 16) rfl (hb hby d37_6) rfl (tlt (h2 : p0 < p1)).1 (by decide) (by decide) kt) ?_
  show Onw p e below _ (s₁.setTop (mkF m 16 #[.val (.int p0), .val (.int p1), .val .null] []))
  refine Onw.go (fun _ kt => XS.iloadN X0.here hx rfl (hb hby d37_16) rfl kt) ?_
  show Onw p e below _ (s₁.setTop (mkF m 17 #[.val (.int p0), .val (.int p1), .val .null] [(.int p0)]))
  exact Onw.ret X0 Bd.notSynchronized (fun h => by rw [Bd.returns] at h; cases h) (fun fs hr => retI X0 hx Bd.returns (hb hby d37_17) hr) ⟨rfl, N0, e0⟩ (by decide) (by decide)
theorem ef_36 (m : MethodId) (x0 : Int32) (x1 : Int32) : entryFrame m #[(.int x0), (.int x1)] 2 = mkF m 0 #[.val (.int x0), .val (.int x1)] [] := by first | (simp [entryFrame, mkF, argsToLocals, Value.category]; done) | rfl
def Q_rm36 (Z : State) (p0 : Int32) (p1 : Int32) (fm : Value) (h0 : Heap) (n0 : Nat) (v : Option Value) (h : Heap) (L : List Loc) : Prop := v = none ∧ Fr n0 L ∧ h = h0
theorem d36_0 : decode jdk_42_method_155_code 0 = .ok (.iload_n 0, 1) := by decide +kernel
theorem d36_1 : decode jdk_42_method_155_code 1 = .ok (.iload_n 1, 1) := by decide +kernel
theorem d36_2 : decode jdk_42_method_155_code 2 = .ok (.getstatic 1053, 3) := by decide +kernel
theorem d36_5 : decode jdk_42_method_155_code 5 = .ok (.invokestatic 1059, 3) := by decide +kernel
theorem d36_8 : decode jdk_42_method_155_code 8 = .ok (.pop, 1) := by decide +kernel
theorem d36_9 : decode jdk_42_method_155_code 9 = .ok (.return_, 1) := by decide +kernel
set_option maxRecDepth 65536 in
set_option maxHeartbeats 40000000 in
theorem rm36 (l : Launch) (Z : State) (a0 : Array Value) (hw : ∀ d ∈ tables_1, d.before a0 Z = true) (ws : List Jvm.Cond) (p0 : Int32) (p1 : Int32) (fm : Value) (h0 : Heap) (n0 : Nat) (S_F : Sta Z h0 "jdk/internal/util/Preconditions" "SIOOBE_FORMATTER" "Ljava/util/function/BiFunction;" fm) (rf : fm.isRef = true) (hx1 : ¬ p0 < 0) (hx2 : p0 < p1) :
    MetFree l (⟨"java/lang/String", "checkIndex", "(II)V"⟩ : MethodName) (head1 (Jvm.Cond.code (⟨"java/lang/String", "checkIndex", "(II)V"⟩ : MethodName) jdk_42_method_155_code 2 none :: ws) ({ frames := 1, cells := 0, slots := 0, locals := 14 } : Room)) (fun a U => a = #[(.int p0), (.int p1)] ∧ Z.Warmed39 U.vm ∧ U.heap = h0) (fun _ _ _ _ _ => True) (fun _ U o U' => ∃ v L, o = .returned v ∧ Q_rm36 Z p0 p1 fm h0 n0 v U'.heap L ∧ FrameEnd U o U' L ({ frames := 1, cells := 0, slots := 0, locals := 14 } : Room).cells ({ frames := 1, cells := 0, slots := 0, locals := 14 } : Room).slots) := by
  refine MetFree.of_bodySF (plainFor_of_name pn_8) hisR ?_
  intro p e s m args below meth c s₁ Bd hml0 hP hK
  obtain ⟨rfl, hZ, hh⟩ := hP
  have hx := Bd.exec
  have hby := Bd.bytes
  have hml : c.maxLocals = 2 := hml0
  have hown : s.vm.findClass "java/lang/String" = some m.cls := findClass_of_methodNamed Bd.named
  have hnm := (name_of_methodNamed Bd.named Bd.method).1
  have X0 : Stand p l e ({ frames := 1, cells := 0, slots := 0, locals := 14 } : Room) s m #[(.int p0), (.int p1)] below meth c s₁ [] 0 0 := Stand.of_body Bd
  have e0 : s₁.heap = h0 := by rw [← hh, Bd.state]; rfl
  have N0 := Fr.nil n0
  refine Onw.of (Onw.go (fun _ k => castTop (ef_36 m p0 p1) k) ?_)
  show Onw p e below _ (s₁.setTop (mkF m 0 #[.val (.int p0), .val (.int p1)] []))
  rcases ref_cases rf with rfl | ⟨af, rfl⟩
  · show Onw p e below _ (s₁.setTop (mkF m 0 #[.val (.int p0), .val (.int p1)] []))
    refine Onw.go (fun _ kt => XS.iloadN X0.here hx rfl (hb hby d36_0) rfl kt) ?_
    show Onw p e below _ (s₁.setTop (mkF m 1 #[.val (.int p0), .val (.int p1)] [(.int p0)]))
    refine Onw.go (fun _ kt => XS.iloadN X0.here hx rfl (hb hby d36_1) rfl kt) ?_
    show Onw p e below _ (s₁.setTop (mkF m 2 #[.val (.int p0), .val (.int p1)] [(.int p1), (.int p0)]))
    obtain ⟨T1, X1, e1, st1⟩ := getS2 X0 hx hZ hown (host := "") (Or.inl (hw _ (own_mg (i := 228) rfl))) Via.refl e0 S_F (g := (mkF m 2 #[.val (.int p0), .val (.int p1)] [(.int p1), (.int p0)])) rfl (hb hby d36_2)
    refine Onw.go st1 ?_
    show Onw p e below _ (T1.setTop (mkF m 5 #[.val (.int p0), .val (.int p1)] [.null, (.int p1), (.int p0)]))
    obtain ⟨_, _, ⟨T2, L2, k2, n2⟩, -, X2, ⟨Lc2, hQ2, l2, y2, z2⟩, st2⟩ := Jvm.LawKit.callS X1 hx (y := (⟨"jdk/internal/util/Preconditions", "checkIndex", "(IILjava/util/function/BiFunction;)I"⟩ : MethodName)) hown (mvT hZ (hw _ (own_mg (i := 230) rfl))) (mvT hZ (hw _ (own_mg (i := 231) rfl))) (mvT hZ (hw _ (own_mg (i := 229) rfl))) (mvT hZ (hw _ (own_mg (i := 232) rfl))) (by decide) (backOf (W := 0) (rm37n l Z a0 hw [] p0 p1  h0 n0 hx1 hx2) hZ (hw _ (own_mg (i := 232) rfl)) (hw _ (own_mg (i := 229) rfl)) (by decide) (by decide)) (g := (mkF m 5 #[.val (.int p0), .val (.int p1)] [.null, (.int p1), (.int p0)])) rfl (by rw [hml]; rfl) (argsL := [(.int p0), (.int p1), .null]) (rest := []) (lenOf pd_28 rfl) rfl (by show 2 * 0 + _ ≤ _; exact Nat.le_of_eq rfl) (hb hby d36_5) (fun _ _ => ⟨rfl, e1, (by decide : 0 + 0 ≤ _), (by decide : 0 + 0 ≤ _)⟩)
    dsimp only [Pt.U, Pt.locs, Pt.cells, Pt.slots] at X2 l2 y2 z2 st2 hQ2
    subst l2 y2 z2
    obtain ⟨rfl, N2q, e2q⟩ := hQ2
    have N2 := Fr.app N0 N2q
    refine Onw.go st2 ?_
    show Onw p e below _ (T2.setTop (mkF m 8 #[.val (.int p0), .val (.int p1)] [(.int p0)]))
    refine Onw.go (fun _ kt => XS.pop X2.here hx rfl (hb hby d36_8) rfl rfl kt) ?_
    show Onw p e below _ (T2.setTop (mkF m 9 #[.val (.int p0), .val (.int p1)] []))
    exact Onw.ret X2 Bd.notSynchronized (fun _ => rfl) (fun fs hr => X2.returnOut hx Bd.returns (hb hby d36_9) hr) ⟨rfl, N2, e2q⟩ (by decide) (by decide)
  · show Onw p e below _ (s₁.setTop (mkF m 0 #[.val (.int p0), .val (.int p1)] []))
    refine Onw.go (fun _ kt => XS.iloadN X0.here hx rfl (hb hby d36_0) rfl kt) ?_
    show Onw p e below _ (s₁.setTop (mkF m 1 #[.val (.int p0), .val (.int p1)] [(.int p0)]))
    refine Onw.go (fun _ kt => XS.iloadN X0.here hx rfl (hb hby d36_1) rfl kt) ?_
    show Onw p e below _ (s₁.setTop (mkF m 2 #[.val (.int p0), .val (.int p1)] [(.int p1), (.int p0)]))
    obtain ⟨T3, X3, e3, st3⟩ := getS2 X0 hx hZ hown (host := "") (Or.inl (hw _ (own_mg (i := 228) rfl))) Via.refl e0 S_F (g := (mkF m 2 #[.val (.int p0), .val (.int p1)] [(.int p1), (.int p0)])) rfl (hb hby d36_2)
    refine Onw.go st3 ?_
    show Onw p e below _ (T3.setTop (mkF m 5 #[.val (.int p0), .val (.int p1)] [(.ref af), (.int p1), (.int p0)]))
    obtain ⟨_, _, ⟨T4, L4, k4, n4⟩, -, X4, ⟨Lc4, hQ4, l4, y4, z4⟩, st4⟩ := Jvm.LawKit.callS X3 hx (y := (⟨"jdk/internal/util/Preconditions", "checkIndex", "(IILjava/util/function/BiFunction;)I"⟩ : MethodName)) hown (mvT hZ (hw _ (own_mg (i := 230) rfl))) (mvT hZ (hw _ (own_mg (i := 231) rfl))) (mvT hZ (hw _ (own_mg (i := 229) rfl))) (mvT hZ (hw _ (own_mg (i := 232) rfl))) (by decide) (backOf (W := 0) (rm37 l Z a0 hw [] p0 p1 af  h0 n0 hx1 hx2) hZ (hw _ (own_mg (i := 232) rfl)) (hw _ (own_mg (i := 229) rfl)) (by decide) (by decide)) (g := (mkF m 5 #[.val (.int p0), .val (.int p1)] [(.ref af), (.int p1), (.int p0)])) rfl (by rw [hml]; rfl) (argsL := [(.int p0), (.int p1), (.ref af)]) (rest := []) (lenOf pd_28 rfl) rfl (by show 2 * 0 + _ ≤ _; exact Nat.le_of_eq rfl) (hb hby d36_5) (fun _ _ => ⟨rfl, e3, (by decide : 0 + 0 ≤ _), (by decide : 0 + 0 ≤ _)⟩)
    dsimp only [Pt.U, Pt.locs, Pt.cells, Pt.slots] at X4 l4 y4 z4 st4 hQ4
    subst l4 y4 z4
    obtain ⟨rfl, N4q, e4q⟩ := hQ4
    have N4 := Fr.app N0 N4q
    refine Onw.go st4 ?_
    show Onw p e below _ (T4.setTop (mkF m 8 #[.val (.int p0), .val (.int p1)] [(.int p0)]))
    refine Onw.go (fun _ kt => XS.pop X4.here hx rfl (hb hby d36_8) rfl rfl kt) ?_
    show Onw p e below _ (T4.setTop (mkF m 9 #[.val (.int p0), .val (.int p1)] []))
    exact Onw.ret X4 Bd.notSynchronized (fun _ => rfl) (fun fs hr => X4.returnOut hx Bd.returns (hb hby d36_9) hr) ⟨rfl, N4, e4q⟩ (by decide) (by decide)
theorem ef_34 (m : MethodId) (x0 : Addr) : entryFrame m #[(.ref x0)] 1 = mkF m 0 #[.val (.ref x0)] [] := by first | (simp [entryFrame, mkF, argsToLocals, Value.category]; done) | rfl
def Q_rm34 (Z : State) (r0 : Addr) (zc : Int32) (t : Addr) (h0 : Heap) (n0 : Nat) (v : Option Value) (h : Heap) (L : List Loc) : Prop := v = some (.int (1 : Int32)) ∧ Fr n0 L ∧ h = h0
theorem d34_0 : decode jdk_42_method_154_code 0 = .ok (.getstatic 38, 3) := by decide +kernel
theorem d34_3 : decode jdk_42_method_154_code 3 = .ok (.ifCond .eq 14, 3) := by decide +kernel
theorem d34_6 : decode jdk_42_method_154_code 6 = .ok (.aload_n 0, 1) := by decide +kernel
theorem d34_7 : decode jdk_42_method_154_code 7 = .ok (.getfield 15, 3) := by decide +kernel
theorem d34_10 : decode jdk_42_method_154_code 10 = .ok (.ifCond .ne 7, 3) := by decide +kernel
theorem d34_13 : decode jdk_42_method_154_code 13 = .ok (.iconst 1, 1) := by decide +kernel
theorem d34_14 : decode jdk_42_method_154_code 14 = .ok (.goto 4, 3) := by decide +kernel
theorem d34_18 : decode jdk_42_method_154_code 18 = .ok (.ireturn, 1) := by decide +kernel
set_option maxRecDepth 65536 in
set_option maxHeartbeats 40000000 in
theorem rm34 (l : Launch) (Z : State) (a0 : Array Value) (hw : ∀ d ∈ tables_1, d.before a0 Z = true) (ws : List Jvm.Cond) (r0 : Addr) (zc : Int32) (t : Addr) (h0 : Heap) (n0 : Nat) (M0 : own_ST Z h0 r0 t) (S_C : Sta Z h0 "java/lang/String" "COMPACT_STRINGS" "Z" (.int zc)) (hz : ¬ zc = 0) :
    MetFree l (⟨"java/lang/String", "isLatin1", "()Z"⟩ : MethodName) (head1 (Jvm.Cond.code (⟨"java/lang/String", "isLatin1", "()Z"⟩ : MethodName) jdk_42_method_154_code 1 (some .boolean) :: ws) ({ frames := 0, cells := 0, slots := 0, locals := 0 } : Room)) (fun a U => a = #[(.ref r0)] ∧ Z.Warmed39 U.vm ∧ U.heap = h0) (fun _ _ _ _ _ => True) (fun _ U o U' => ∃ v L, o = .returned v ∧ Q_rm34 Z r0 zc t h0 n0 v U'.heap L ∧ FrameEnd U o U' L ({ frames := 0, cells := 0, slots := 0, locals := 0 } : Room).cells ({ frames := 0, cells := 0, slots := 0, locals := 0 } : Room).slots) := by
  refine MetFree.of_bodySF (plainFor_of_name pn_8) hisR ?_
  intro p e s m args below meth c s₁ Bd hml0 hP hK
  obtain ⟨rfl, hZ, hh⟩ := hP
  have hx := Bd.exec
  have hby := Bd.bytes
  have hml : c.maxLocals = 1 := hml0
  have hown : s.vm.findClass "java/lang/String" = some m.cls := findClass_of_methodNamed Bd.named
  have hnm := (name_of_methodNamed Bd.named Bd.method).1
  have X0 : Stand p l e ({ frames := 0, cells := 0, slots := 0, locals := 0 } : Room) s m #[(.ref r0)] below meth c s₁ [] 0 0 := Stand.of_body Bd
  have e0 : s₁.heap = h0 := by rw [← hh, Bd.state]; rfl
  have N0 := Fr.nil n0
  refine Onw.of (Onw.go (fun _ k => castTop (ef_34 m r0) k) ?_)
  show Onw p e below _ (s₁.setTop (mkF m 0 #[.val (.ref r0)] []))
  obtain ⟨T1, X1, e1, st1⟩ := getS2 X0 hx hZ hown (host := "") (Or.inl (hw _ (own_mg (i := 141) rfl))) Via.refl e0 S_C (g := (mkF m 0 #[.val (.ref r0)] [])) rfl (hb hby d34_0)
  refine Onw.go st1 ?_
  show Onw p e below _ (T1.setTop (mkF m 3 #[.val (.ref r0)] [(.int zc)]))
  refine Onw.go (fun _ kt => XS.ifNo X1.here hx rfl (hb hby d34_3) rfl ((if0 _ _).trans (feq (hz : ¬ (zc = (0 : Int32)))).1) kt) ?_
  show Onw p e below _ (T1.setTop (mkF m 6 #[.val (.ref r0)] []))
  refine Onw.go (fun _ kt => XS.aloadN X1.here hx rfl (hb hby d34_6) rfl rfl kt) ?_
  show Onw p e below _ (T1.setTop (mkF m 7 #[.val (.ref r0)] [(.ref r0)]))
  obtain ⟨T2, X2, e2, st2⟩ := getF X1 hx hZ hown (host := "") (Or.inl (hw _ (own_mg (i := 142) rfl))) Via.refl e1 M0.2.1 (g := (mkF m 7 #[.val (.ref r0)] [(.ref r0)])) rfl rfl (hb hby d34_7)
  refine Onw.go st2 ?_
  show Onw p e below _ (T2.setTop (mkF m 10 #[.val (.ref r0)] [(.int (0 : Int32))]))
  refine Onw.go (fun _ kt => XS.ifNo X2.here hx rfl (hb hby d34_10) rfl ((if0 _ _).trans (teq (rfl : (0 : Int32) = (0 : Int32))).2) kt) ?_
  show Onw p e below _ (T2.setTop (mkF m 13 #[.val (.ref r0)] []))
  refine Onw.go (fun _ kt => XS.iconst X2.here hx rfl (hb hby d34_13) kt) ?_
  show Onw p e below _ (T2.setTop (mkF m 14 #[.val (.ref r0)] [(.int (1 : Int32))]))
  refine Onw.go (fun _ kt => XS.goto X2.here hx rfl (pc0 := 14) (pc' := 18) rfl (hb hby d34_14) (by decide) (by decide) kt) ?_
  show Onw p e below _ (T2.setTop (mkF m 18 #[.val (.ref r0)] [(.int (1 : Int32))]))
  exact Onw.ret X2 Bd.notSynchronized (fun h => by rw [Bd.returns] at h; cases h) (fun fs hr => retN X2 hx (t := .boolean) Bd.returns (by simp) (hb hby d34_18) hr) ⟨rfl, N0, e2⟩ (by decide) (by decide)
theorem pn_10 : plainName "java/lang/StringLatin1" = true := by first | (simp [plainName, overriddenIn]; done) | decide +kernel
theorem ef_35 (m : MethodId) (x0 : Addr) (x1 : Int32) : entryFrame m #[(.ref x0), (.int x1)] 2 = mkF m 0 #[.val (.ref x0), .val (.int x1)] [] := by first | (simp [entryFrame, mkF, argsToLocals, Value.category]; done) | rfl
def Q_rm35 (Z : State) (r0 : Addr) (p1 : Int32) (fm : Value) (kt : ClassId) (zs : List Int32) (i cv : Nat) (h0 : Heap) (n0 : Nat) (v : Option Value) (h : Heap) (L : List Loc) : Prop := v = some (.int (Int32.ofNat cv)) ∧ Fr n0 L ∧ h = h0
theorem d35_0 : decode jdk_43_method_2_code 0 = .ok (.iload_n 1, 1) := by decide +kernel
theorem d35_1 : decode jdk_43_method_2_code 1 = .ok (.aload_n 0, 1) := by decide +kernel
theorem d35_2 : decode jdk_43_method_2_code 2 = .ok (.arraylength, 1) := by decide +kernel
theorem d35_3 : decode jdk_43_method_2_code 3 = .ok (.invokestatic 9, 3) := by decide +kernel
theorem d35_6 : decode jdk_43_method_2_code 6 = .ok (.aload_n 0, 1) := by decide +kernel
theorem d35_7 : decode jdk_43_method_2_code 7 = .ok (.iload_n 1, 1) := by decide +kernel
theorem d35_8 : decode jdk_43_method_2_code 8 = .ok (.baload, 1) := by decide +kernel
theorem d35_9 : decode jdk_43_method_2_code 9 = .ok (.sipush 255, 3) := by decide +kernel
theorem d35_12 : decode jdk_43_method_2_code 12 = .ok (.iand, 1) := by decide +kernel
theorem d35_13 : decode jdk_43_method_2_code 13 = .ok (.i2c, 1) := by decide +kernel
theorem d35_14 : decode jdk_43_method_2_code 14 = .ok (.ireturn, 1) := by decide +kernel
set_option maxRecDepth 65536 in
set_option maxHeartbeats 40000000 in
theorem rm35 (l : Launch) (Z : State) (a0 : Array Value) (hw : ∀ d ∈ tables_1, d.before a0 Z = true) (ws : List Jvm.Cond) (r0 : Addr) (p1 : Int32) (fm : Value) (kt : ClassId) (zs : List Int32) (i cv : Nat) (h0 : Heap) (n0 : Nat) (V0 : Arv Z h0 r0 kt .byte (Int32.ofNat (zs).length) ((zs).map Value.int) (.int (0 : Int32))) (lz : zs.length ≤ 1000) (hi : i < zs.length) (hp1 : p1 = Int32.ofNat i) (hv : zs[i]? = some (Int32.ofNat cv)) (hcv : cv < 128) (S_F : Sta Z h0 "jdk/internal/util/Preconditions" "SIOOBE_FORMATTER" "Ljava/util/function/BiFunction;" fm) (rf : fm.isRef = true) :
    MetFree l (⟨"java/lang/StringLatin1", "charAt", "([BI)C"⟩ : MethodName) (head1 (Jvm.Cond.code (⟨"java/lang/StringLatin1", "charAt", "([BI)C"⟩ : MethodName) jdk_43_method_2_code 2 (some .char) :: ws) ({ frames := 2, cells := 0, slots := 0, locals := 27 } : Room)) (fun a U => a = #[(.ref r0), (.int p1)] ∧ Z.Warmed39 U.vm ∧ U.heap = h0) (fun _ _ _ _ _ => True) (fun _ U o U' => ∃ v L, o = .returned v ∧ Q_rm35 Z r0 p1 fm kt zs i cv h0 n0 v U'.heap L ∧ FrameEnd U o U' L ({ frames := 2, cells := 0, slots := 0, locals := 27 } : Room).cells ({ frames := 2, cells := 0, slots := 0, locals := 27 } : Room).slots) := by
  refine MetFree.of_bodySF (plainFor_of_name pn_10) hisR ?_
  intro p e s m args below meth c s₁ Bd hml0 hP hK
  obtain ⟨rfl, hZ, hh⟩ := hP
  have hx := Bd.exec
  have hby := Bd.bytes
  have hml : c.maxLocals = 2 := hml0
  have hown : s.vm.findClass "java/lang/StringLatin1" = some m.cls := findClass_of_methodNamed Bd.named
  have hnm := (name_of_methodNamed Bd.named Bd.method).1
  have X0 : Stand p l e ({ frames := 2, cells := 0, slots := 0, locals := 27 } : Room) s m #[(.ref r0), (.int p1)] below meth c s₁ [] 0 0 := Stand.of_body Bd
  have e0 : s₁.heap = h0 := by rw [← hh, Bd.state]; rfl
  have N0 := Fr.nil n0
  refine Onw.of (Onw.go (fun _ k => castTop (ef_35 m r0 p1) k) ?_)
  show Onw p e below _ (s₁.setTop (mkF m 0 #[.val (.ref r0), .val (.int p1)] []))
  subst hp1
  show Onw p e below _ (s₁.setTop (mkF m 0 #[.val (.ref r0), .val (.int (Int32.ofNat i))] []))
  obtain ⟨c0, A0, qa0, S0, Q0, H0, G0⟩ := id V0
  obtain ⟨b1, b2⟩ := own_elem H0 S0 lz hi hv
  refine Onw.go (fun _ kt => XS.iloadN X0.here hx rfl (hb hby d35_0) rfl kt) ?_
  show Onw p e below _ (s₁.setTop (mkF m 1 #[.val (.ref r0), .val (.int (Int32.ofNat i))] [(.int (Int32.ofNat i))]))
  refine Onw.go (fun _ kt => XS.aloadN X0.here hx rfl (hb hby d35_1) rfl rfl kt) ?_
  show Onw p e below _ (s₁.setTop (mkF m 2 #[.val (.ref r0), .val (.int (Int32.ofNat i))] [(.ref r0), (.int (Int32.ofNat i))]))
  refine Onw.go (X0.arraylength hx (by rw [e0]; exact A0.1) (State.isArrayOf_alike hZ.alike A0.2.1) (g := (mkF m 2 #[.val (.ref r0), .val (.int (Int32.ofNat i))] [(.ref r0), (.int (Int32.ofNat i))])) rfl rfl (hb hby d35_2)) ?_
  rw [len_of S0 Q0]
  show Onw p e below _ (s₁.setTop (mkF m 3 #[.val (.ref r0), .val (.int (Int32.ofNat i))] [(.int (Int32.ofNat zs.length)), (.int (Int32.ofNat i))]))
  obtain ⟨_, _, ⟨T1, L1, k1, n1⟩, -, X1, ⟨Lc1, hQ1, l1, y1, z1⟩, st1⟩ := Jvm.LawKit.callS X0 hx (y := (⟨"java/lang/String", "checkIndex", "(II)V"⟩ : MethodName)) hown (mvT hZ (hw _ (own_mg (i := 225) rfl))) (mvT hZ (hw _ (own_mg (i := 226) rfl))) (mvT hZ (hw _ (own_mg (i := 40) rfl))) (mvT hZ (hw _ (own_mg (i := 227) rfl))) (by decide) (backOf (W := 0) (rm36 l Z a0 hw [] (Int32.ofNat i) (Int32.ofNat zs.length) fm h0 n0 S_F rf (own_nneg (by omega)) ((own_lt (by omega) lz).mpr hi)) hZ (hw _ (own_mg (i := 227) rfl)) (hw _ (own_mg (i := 40) rfl)) (by decide) (by decide)) (g := (mkF m 3 #[.val (.ref r0), .val (.int (Int32.ofNat i))] [(.int (Int32.ofNat zs.length)), (.int (Int32.ofNat i))])) rfl (by rw [hml]; rfl) (argsL := [(.int (Int32.ofNat i)), (.int (Int32.ofNat zs.length))]) (rest := []) (lenOf pd_23 rfl) rfl (by show 2 * 0 + _ ≤ _; exact Nat.le_of_eq rfl) (hb hby d35_3) (fun _ _ => ⟨rfl, e0, (by decide : 0 + 0 ≤ _), (by decide : 0 + 0 ≤ _)⟩)
  dsimp only [Pt.U, Pt.locs, Pt.cells, Pt.slots] at X1 l1 y1 z1 st1 hQ1
  subst l1 y1 z1
  obtain ⟨rfl, N1q, e1q⟩ := hQ1
  have N1 := Fr.app N0 N1q
  refine Onw.go st1 ?_
  show Onw p e below _ (T1.setTop (mkF m 6 #[.val (.ref r0), .val (.int (Int32.ofNat i))] []))
  refine Onw.go (fun _ kt => XS.aloadN X1.here hx rfl (hb hby d35_6) rfl rfl kt) ?_
  show Onw p e below _ (T1.setTop (mkF m 7 #[.val (.ref r0), .val (.int (Int32.ofNat i))] [(.ref r0)]))
  refine Onw.go (fun _ kt => XS.iloadN X1.here hx rfl (hb hby d35_7) rfl kt) ?_
  show Onw p e below _ (T1.setTop (mkF m 8 #[.val (.ref r0), .val (.int (Int32.ofNat i))] [(.int (Int32.ofNat i)), (.ref r0)]))
  refine Onw.go (X1.baloadBytes hx (j := (Int32.ofNat i)) (v := (.int (Int32.ofNat cv))) (by rw [e1q]; exact A0.1) (State.isArrayOf_alike hZ.alike A0.2.1) A0.2.2 b1 b2 (g := (mkF m 8 #[.val (.ref r0), .val (.int (Int32.ofNat i))] [(.int (Int32.ofNat i)), (.ref r0)])) rfl rfl (hb hby d35_8)) ?_
  show Onw p e below _ (T1.setTop (mkF m 9 #[.val (.ref r0), .val (.int (Int32.ofNat i))] [(.int (Int32.ofNat cv))]))
  refine Onw.go (fun _ kt => XS.sipush X1.here hx rfl (hb hby d35_9) kt) ?_
  show Onw p e below _ (T1.setTop (mkF m 12 #[.val (.ref r0), .val (.int (Int32.ofNat i))] [(.int (255 : Int32)), (.int (Int32.ofNat cv))]))
  refine Onw.go (fun _ kt => XS.iand X1.here hx rfl (hb hby d35_12) rfl kt) ?_
  show Onw p e below _ (T1.setTop (mkF m 13 #[.val (.ref r0), .val (.int (Int32.ofNat i))] [(.int ((Int32.ofNat cv) &&& (255 : Int32)))]))
  refine Onw.go (fun _ kt => XS.i2c X1.here hx rfl (hb hby d35_13) rfl kt) ?_
  show Onw p e below _ (T1.setTop (mkF m 14 #[.val (.ref r0), .val (.int (Int32.ofNat i))] [(.int (((Int32.ofNat cv) &&& (255 : Int32)).toUInt32.toUInt16.toUInt32.toInt32))]))
  exact Onw.ret X1 Bd.notSynchronized (fun h => by rw [Bd.returns] at h; cases h) (fun fs hr => retN X1 hx (t := .char) Bd.returns (by simp) (hb hby d35_14) hr) ⟨(congrArg (fun own_z => some (Value.int own_z)) (own_ch hcv).1), N1, e1q⟩ (by decide) (by decide)
theorem ef_33 (m : MethodId) (x0 : Addr) (x1 : Int32) : entryFrame m #[(.ref x0), (.int x1)] 2 = mkF m 0 #[.val (.ref x0), .val (.int x1)] [] := by first | (simp [entryFrame, mkF, argsToLocals, Value.category]; done) | rfl
def Q_rm33 (Z : State) (r0 : Addr) (p1 : Int32) (zc : Int32) (t : Addr) (fm : Value) (kt : ClassId) (zs : List Int32) (i cv : Nat) (h0 : Heap) (n0 : Nat) (v : Option Value) (h : Heap) (L : List Loc) : Prop := v = some (.int (Int32.ofNat cv)) ∧ Fr n0 L ∧ h = h0
theorem d33_0 : decode jdk_42_method_56_code 0 = .ok (.aload_n 0, 1) := by decide +kernel
theorem d33_1 : decode jdk_42_method_56_code 1 = .ok (.invokevirtual 492, 3) := by decide +kernel
theorem d33_4 : decode jdk_42_method_56_code 4 = .ok (.ifCond .eq 12, 3) := by decide +kernel
theorem d33_7 : decode jdk_42_method_56_code 7 = .ok (.aload_n 0, 1) := by decide +kernel
theorem d33_8 : decode jdk_42_method_56_code 8 = .ok (.getfield 9, 3) := by decide +kernel
theorem d33_11 : decode jdk_42_method_56_code 11 = .ok (.iload_n 1, 1) := by decide +kernel
theorem d33_12 : decode jdk_42_method_56_code 12 = .ok (.invokestatic 495, 3) := by decide +kernel
theorem d33_15 : decode jdk_42_method_56_code 15 = .ok (.ireturn, 1) := by decide +kernel
set_option maxRecDepth 65536 in
set_option maxHeartbeats 40000000 in
theorem rm33 (l : Launch) (Z : State) (a0 : Array Value) (hw : ∀ d ∈ tables_1, d.before a0 Z = true) (ws : List Jvm.Cond) (r0 : Addr) (p1 : Int32) (zc : Int32) (t : Addr) (fm : Value) (kt : ClassId) (zs : List Int32) (i cv : Nat) (h0 : Heap) (n0 : Nat) (M0 : own_ST Z h0 r0 t) (V0 : Arv Z h0 t kt .byte (Int32.ofNat (zs).length) ((zs).map Value.int) (.int (0 : Int32))) (lz : zs.length ≤ 1000) (hi : i < zs.length) (hp1 : p1 = Int32.ofNat i) (hv : zs[i]? = some (Int32.ofNat cv)) (hcv : cv < 128) (S_F : Sta Z h0 "jdk/internal/util/Preconditions" "SIOOBE_FORMATTER" "Ljava/util/function/BiFunction;" fm) (rf : fm.isRef = true) (S_C : Sta Z h0 "java/lang/String" "COMPACT_STRINGS" "Z" (.int zc)) (hz : ¬ zc = 0) :
    MetFree l (⟨"java/lang/String", "charAt", "(I)C"⟩ : MethodName) (head1 (Jvm.Cond.code (⟨"java/lang/String", "charAt", "(I)C"⟩ : MethodName) jdk_42_method_56_code 2 (some .char) :: ws) ({ frames := 3, cells := 0, slots := 0, locals := 40 } : Room)) (fun a U => a = #[(.ref r0), (.int p1)] ∧ Z.Warmed39 U.vm ∧ U.heap = h0) (fun _ _ _ _ _ => True) (fun _ U o U' => ∃ v L, o = .returned v ∧ Q_rm33 Z r0 p1 zc t fm kt zs i cv h0 n0 v U'.heap L ∧ FrameEnd U o U' L ({ frames := 3, cells := 0, slots := 0, locals := 40 } : Room).cells ({ frames := 3, cells := 0, slots := 0, locals := 40 } : Room).slots) := by
  refine MetFree.of_bodySF (plainFor_of_name pn_8) hisR ?_
  intro p e s m args below meth c s₁ Bd hml0 hP hK
  obtain ⟨rfl, hZ, hh⟩ := hP
  have hx := Bd.exec
  have hby := Bd.bytes
  have hml : c.maxLocals = 2 := hml0
  have hown : s.vm.findClass "java/lang/String" = some m.cls := findClass_of_methodNamed Bd.named
  have hnm := (name_of_methodNamed Bd.named Bd.method).1
  have X0 : Stand p l e ({ frames := 3, cells := 0, slots := 0, locals := 40 } : Room) s m #[(.ref r0), (.int p1)] below meth c s₁ [] 0 0 := Stand.of_body Bd
  have e0 : s₁.heap = h0 := by rw [← hh, Bd.state]; rfl
  have N0 := Fr.nil n0
  refine Onw.of (Onw.go (fun _ k => castTop (ef_33 m r0 p1) k) ?_)
  show Onw p e below _ (s₁.setTop (mkF m 0 #[.val (.ref r0), .val (.int p1)] []))
  refine Onw.go (fun _ kt => XS.aloadN X0.here hx rfl (hb hby d33_0) rfl rfl kt) ?_
  show Onw p e below _ (s₁.setTop (mkF m 1 #[.val (.ref r0), .val (.int p1)] [(.ref r0)]))
  obtain ⟨cq1, kq1, q1a, q1b, q1c⟩ := isOf hZ e0 M0.1
  obtain ⟨_, _, ⟨T1, L1, k1, n1⟩, -, X1, ⟨Lc1, hQ1, l1, y1, z1⟩, st1⟩ := X0.virtualBack hx (y := (⟨"java/lang/String", "isLatin1", "()Z"⟩ : MethodName)) (z := (⟨"java/lang/String", "isLatin1", "()Z"⟩ : MethodName)) hown (mvT hZ (hw _ (own_mg (i := 216) rfl))) (mvT hZ (hw _ (own_mg (i := 217) rfl))) (notFace_of_selects (args := #[]) (mvT hZ (hw _ (own_mg (i := 219) rfl)))) (mvT hZ (hw _ (own_mg (i := 219) rfl))) (mvT hZ (hw _ (own_mg (i := 218) rfl))) (by decide) (backOf (W := 0) (rm34 l Z a0 hw [] r0 zc t h0 n0 M0 S_C hz) hZ (hw _ (own_mg (i := 220) rfl)) (hw _ (own_mg (i := 40) rfl)) (by decide) (by decide)) q1a q1c (g := (mkF m 1 #[.val (.ref r0), .val (.int p1)] [(.ref r0)])) rfl (by rw [hml]; rfl) (Steps.refl _) (argsL := []) (rest := []) (lenOf pd_9 rfl) rfl (by show 2 * 0 + _ ≤ _; exact Nat.le_of_eq rfl) (hb hby d33_1) (fun _ _ => ⟨rfl, e0, (by decide : 0 + 0 ≤ _), (by decide : 0 + 0 ≤ _)⟩)
  dsimp only [Pt.U, Pt.locs, Pt.cells, Pt.slots] at X1 l1 y1 z1 st1 hQ1
  subst l1 y1 z1
  obtain ⟨rfl, N1q, e1q⟩ := hQ1
  have N1 := Fr.app N0 N1q
  refine Onw.go (fun _ kt => st1.trans kt) ?_
  show Onw p e below _ (T1.setTop (mkF m 4 #[.val (.ref r0), .val (.int p1)] [(.int (1 : Int32))]))
  refine Onw.go (fun _ kt => XS.ifNo X1.here hx rfl (hb hby d33_4) rfl ((if0 _ _).trans (feq (by decide : ¬ ((1 : Int32) = (0 : Int32)))).1) kt) ?_
  show Onw p e below _ (T1.setTop (mkF m 7 #[.val (.ref r0), .val (.int p1)] []))
  refine Onw.go (fun _ kt => XS.aloadN X1.here hx rfl (hb hby d33_7) rfl rfl kt) ?_
  show Onw p e below _ (T1.setTop (mkF m 8 #[.val (.ref r0), .val (.int p1)] [(.ref r0)]))
  obtain ⟨T2, X2, e2, st2⟩ := getF X1 hx hZ hown (host := "") (Or.inl (hw _ (own_mg (i := 135) rfl))) Via.refl e1q M0.2.2 (g := (mkF m 8 #[.val (.ref r0), .val (.int p1)] [(.ref r0)])) rfl rfl (hb hby d33_8)
  refine Onw.go st2 ?_
  show Onw p e below _ (T2.setTop (mkF m 11 #[.val (.ref r0), .val (.int p1)] [(.ref t)]))
  refine Onw.go (fun _ kt => XS.iloadN X2.here hx rfl (hb hby d33_11) rfl kt) ?_
  show Onw p e below _ (T2.setTop (mkF m 12 #[.val (.ref r0), .val (.int p1)] [(.int p1), (.ref t)]))
  obtain ⟨_, _, ⟨T3, L3, k3, n3⟩, -, X3, ⟨Lc3, hQ3, l3, y3, z3⟩, st3⟩ := Jvm.LawKit.callS X2 hx (y := (⟨"java/lang/StringLatin1", "charAt", "([BI)C"⟩ : MethodName)) hown (mvT hZ (hw _ (own_mg (i := 221) rfl))) (mvT hZ (hw _ (own_mg (i := 222) rfl))) (mvT hZ (hw _ (own_mg (i := 223) rfl))) (mvT hZ (hw _ (own_mg (i := 224) rfl))) (by decide) (backOf (W := 0) (rm35 l Z a0 hw [] t p1 fm kt zs i cv h0 n0 V0 lz hi hp1 hv hcv S_F rf) hZ (hw _ (own_mg (i := 224) rfl)) (hw _ (own_mg (i := 223) rfl)) (by decide) (by decide)) (g := (mkF m 12 #[.val (.ref r0), .val (.int p1)] [(.int p1), (.ref t)])) rfl (by rw [hml]; rfl) (argsL := [(.ref t), (.int p1)]) (rest := []) (lenOf pd_27 rfl) rfl (by show 2 * 0 + _ ≤ _; exact Nat.le_of_eq rfl) (hb hby d33_12) (fun _ _ => ⟨rfl, e2, (by decide : 0 + 0 ≤ _), (by decide : 0 + 0 ≤ _)⟩)
  dsimp only [Pt.U, Pt.locs, Pt.cells, Pt.slots] at X3 l3 y3 z3 st3 hQ3
  subst l3 y3 z3
  obtain ⟨rfl, N3q, e3q⟩ := hQ3
  have N3 := Fr.app N1 N3q
  refine Onw.go st3 ?_
  show Onw p e below _ (T3.setTop (mkF m 15 #[.val (.ref r0), .val (.int p1)] [(.int (Int32.ofNat cv))]))
  exact Onw.ret X3 Bd.notSynchronized (fun h => by rw [Bd.returns] at h; cases h) (fun fs hr => retN X3 hx (t := .char) Bd.returns (by simp) (hb hby d33_15) hr) ⟨(congrArg (fun own_z => some (Value.int own_z)) (own_ch hcv).2), N3, e3q⟩ (by decide) (by decide)
theorem d32_2 : decode method_3_code 2 = .ok (.iload_n 3, 1) := by decide +kernel
theorem d32_3 : decode method_3_code 3 = .ok (.lload_n 0, 1) := by decide +kernel
theorem d32_4 : decode method_3_code 4 = .ok (.aload_n 2, 1) := by decide +kernel
theorem d32_5 : decode method_3_code 5 = .ok (.iconst 1, 1) := by decide +kernel
theorem d32_6 : decode method_3_code 6 = .ok (.laload, 1) := by decide +kernel
theorem d32_7 : decode method_3_code 7 = .ok (.lcmp, 1) := by decide +kernel
theorem d32_8 : decode method_3_code 8 = .ok (.ifCond .lt 7, 3) := by decide +kernel
theorem d32_11 : decode method_3_code 11 = .ok (.iconst 1, 1) := by decide +kernel
theorem d32_12 : decode method_3_code 12 = .ok (.goto 4, 3) := by decide +kernel
theorem d32_15 : decode method_3_code 15 = .ok (.iconst 0, 1) := by decide +kernel
theorem d32_16 : decode method_3_code 16 = .ok (.iadd, 1) := by decide +kernel
theorem d32_17 : decode method_3_code 17 = .ok (.istore_n 3, 1) := by decide +kernel
set_option maxRecDepth 65536 in
set_option maxHeartbeats 40000000 in
theorem dg_1 {p : Program} {l : Launch} {e : Env} {R : Room} {s : State} {m : MethodId} {args : Array Value} {below : List Frame} {meth : Method} {c : Code} {Z : State} {a0 : Array Value} {W : Outcome → State → Prop} (hx : p.tables.exec = Jvm.exec) (hZ : Z.Warmed39 s.vm) (hw : ∀ d ∈ tables_1, d.before a0 Z = true) (hby : c.code = method_3_code) (hml : c.maxLocals = 4) (hown : s.vm.findClass "com/example/vigil_cache/vigilcache/HotKeyRuleWindowAsWrittenPinLaw" = some m.cls) {h0 : Heap} {n0 : Nat}  (q0 : Int64) (r1 : Addr) (d w : Nat)
    {T0 : State} {locs0 : List Loc} {cells slots : Nat} (X0 : Stand p l e R s m args below meth c T0 locs0 cells slots) (e0 : T0.heap = h0) (N0 : Fr n0 locs0) (TB : own_TB Z h0 r1) (hq : q0.toInt = (w : Int)) (D : own_D w d) (hK : Onw p e below W (T0.setTop (mkF m 18 #[.val (.long q0), .second, .val (.ref r1), .val (.int (Int32.ofNat (min 2 d)))] []))) :
    Onw p e below W (T0.setTop (mkF m 2 #[.val (.long q0), .second, .val (.ref r1), .val (.int (Int32.ofNat (min 1 d)))] [])) := by
  obtain ⟨c1, A1, b1, b2⟩ := TB.at (r := 1) (by decide)
  have pk := own_p10 (r := 1) (by decide)
  refine Onw.go (fun _ kt => XS.iloadN X0.here hx rfl (hb hby d32_2) rfl kt) ?_
  show Onw p e below _ (T0.setTop (mkF m 3 #[.val (.long q0), .second, .val (.ref r1), .val (.int (Int32.ofNat (min 1 d)))] [(.int (Int32.ofNat (min 1 d)))]))
  refine Onw.go (fun _ kt => XS.lloadN X0.here hx rfl (hb hby d32_3) rfl kt) ?_
  show Onw p e below _ (T0.setTop (mkF m 4 #[.val (.long q0), .second, .val (.ref r1), .val (.int (Int32.ofNat (min 1 d)))] [(.long q0), (.int (Int32.ofNat (min 1 d)))]))
  refine Onw.go (fun _ kt => XS.aloadN X0.here hx rfl (hb hby d32_4) rfl rfl kt) ?_
  show Onw p e below _ (T0.setTop (mkF m 5 #[.val (.long q0), .second, .val (.ref r1), .val (.int (Int32.ofNat (min 1 d)))] [(.ref r1), (.long q0), (.int (Int32.ofNat (min 1 d)))]))
  refine Onw.go (fun _ kt => XS.iconst X0.here hx rfl (hb hby d32_5) kt) ?_
  show Onw p e below _ (T0.setTop (mkF m 6 #[.val (.long q0), .second, .val (.ref r1), .val (.int (Int32.ofNat (min 1 d)))] [(.int (1 : Int32)), (.ref r1), (.long q0), (.int (Int32.ofNat (min 1 d)))]))
  refine Onw.go (X0.laload hx (j := (1 : Int32)) (v := (.long (Int64.ofNat (10 ^ 1)))) (by rw [e0]; exact A1.1) (State.isArrayOf_alike hZ.alike A1.2.1) A1.2.2 b1 b2 (g := (mkF m 6 #[.val (.long q0), .second, .val (.ref r1), .val (.int (Int32.ofNat (min 1 d)))] [(.int (1 : Int32)), (.ref r1), (.long q0), (.int (Int32.ofNat (min 1 d)))])) rfl rfl (hb hby d32_6)) ?_
  show Onw p e below _ (T0.setTop (mkF m 7 #[.val (.long q0), .second, .val (.ref r1), .val (.int (Int32.ofNat (min 1 d)))] [(.long (Int64.ofNat (10 ^ 1))), (.long q0), (.int (Int32.ofNat (min 1 d)))]))
  refine Onw.go (fun _ kt => XS.lcmp X0.here hx rfl (hb hby d32_7) rfl kt) ?_
  show Onw p e below _ (T0.setTop (mkF m 8 #[.val (.long q0), .second, .val (.ref r1), .val (.int (Int32.ofNat (min 1 d)))] [(.int (lcmpW q0 (Int64.ofNat (10 ^ 1)))), (.int (Int32.ofNat (min 1 d)))]))
  by_cases h1 : (lcmpW q0 (Int64.ofNat (10 ^ 1))) < (0 : Int32)
  · refine Onw.go (fun _ kt => XS.ifYes X0.here hx rfl (pc0 := 8) (pc' := 15) rfl (hb hby d32_8) rfl ((if0 _ _).trans (tlt (h1 : (lcmpW q0 (Int64.ofNat (10 ^ 1))) < (0 : Int32))).1) (by decide) (by decide) kt) ?_
    show Onw p e below _ (T0.setTop (mkF m 15 #[.val (.long q0), .second, .val (.ref r1), .val (.int (Int32.ofNat (min 1 d)))] [(.int (Int32.ofNat (min 1 d)))]))
    rw [own_lc1, hq, pk] at h1
    have dk : d ≤ 1 := own_Dlt D (by omega)
    refine Onw.go (fun _ kt => XS.iconst X0.here hx rfl (hb hby d32_15) kt) ?_
    show Onw p e below _ (T0.setTop (mkF m 16 #[.val (.long q0), .second, .val (.ref r1), .val (.int (Int32.ofNat (min 1 d)))] [(.int (0 : Int32)), (.int (Int32.ofNat (min 1 d)))]))
    refine Onw.go (fun _ kt => XS.iadd X0.here hx rfl (hb hby d32_16) rfl kt) ?_
    show Onw p e below _ (T0.setTop (mkF m 17 #[.val (.long q0), .second, .val (.ref r1), .val (.int (Int32.ofNat (min 1 d)))] [(.int ((Int32.ofNat (min 1 d)) + (0 : Int32)))]))
    refine Onw.go (fun _ kt => XS.istoreN X0.here hx rfl (hb hby d32_17) rfl (l' := #[.val (.long q0), .second, .val (.ref r1), .val (.int ((Int32.ofNat (min 1 d)) + (0 : Int32)))]) rfl kt) ?_
    show Onw p e below _ (T0.setTop (mkF m 18 #[.val (.long q0), .second, .val (.ref r1), .val (.int ((Int32.ofNat (min 1 d)) + (0 : Int32)))] []))
    rw [show Int32.ofNat (min 1 d) + (0 : Int32) = Int32.ofNat (min 2 d) from by rw [Int32.add_zero, show min 1 d = min 2 d by omega]]
    exact hK
  · refine Onw.go (fun _ kt => XS.ifNo X0.here hx rfl (hb hby d32_8) rfl ((if0 _ _).trans (flt (h1 : ¬ ((lcmpW q0 (Int64.ofNat (10 ^ 1))) < (0 : Int32)))).1) kt) ?_
    show Onw p e below _ (T0.setTop (mkF m 11 #[.val (.long q0), .second, .val (.ref r1), .val (.int (Int32.ofNat (min 1 d)))] [(.int (Int32.ofNat (min 1 d)))]))
    rw [own_lc1, hq, pk] at h1
    have dk : 1 < d := own_Dge D (by omega)
    refine Onw.go (fun _ kt => XS.iconst X0.here hx rfl (hb hby d32_11) kt) ?_
    show Onw p e below _ (T0.setTop (mkF m 12 #[.val (.long q0), .second, .val (.ref r1), .val (.int (Int32.ofNat (min 1 d)))] [(.int (1 : Int32)), (.int (Int32.ofNat (min 1 d)))]))
    refine Onw.go (fun _ kt => XS.goto X0.here hx rfl (pc0 := 12) (pc' := 16) rfl (hb hby d32_12) (by decide) (by decide) kt) ?_
    show Onw p e below _ (T0.setTop (mkF m 16 #[.val (.long q0), .second, .val (.ref r1), .val (.int (Int32.ofNat (min 1 d)))] [(.int (1 : Int32)), (.int (Int32.ofNat (min 1 d)))]))
    refine Onw.go (fun _ kt => XS.iadd X0.here hx rfl (hb hby d32_16) rfl kt) ?_
    show Onw p e below _ (T0.setTop (mkF m 17 #[.val (.long q0), .second, .val (.ref r1), .val (.int (Int32.ofNat (min 1 d)))] [(.int ((Int32.ofNat (min 1 d)) + (1 : Int32)))]))
    refine Onw.go (fun _ kt => XS.istoreN X0.here hx rfl (hb hby d32_17) rfl (l' := #[.val (.long q0), .second, .val (.ref r1), .val (.int ((Int32.ofNat (min 1 d)) + (1 : Int32)))]) rfl kt) ?_
    show Onw p e below _ (T0.setTop (mkF m 18 #[.val (.long q0), .second, .val (.ref r1), .val (.int ((Int32.ofNat (min 1 d)) + (1 : Int32)))] []))
    rw [show Int32.ofNat (min 1 d) + (1 : Int32) = Int32.ofNat (min 2 d) from by rw [show min 2 d = min 1 d + 1 by omega, Int32.ofNat_add]; rfl]
    exact hK
theorem d32_18 : decode method_3_code 18 = .ok (.iload_n 3, 1) := by decide +kernel
theorem d32_19 : decode method_3_code 19 = .ok (.lload_n 0, 1) := by decide +kernel
theorem d32_20 : decode method_3_code 20 = .ok (.aload_n 2, 1) := by decide +kernel
theorem d32_21 : decode method_3_code 21 = .ok (.iconst 2, 1) := by decide +kernel
theorem d32_22 : decode method_3_code 22 = .ok (.laload, 1) := by decide +kernel
theorem d32_23 : decode method_3_code 23 = .ok (.lcmp, 1) := by decide +kernel
theorem d32_24 : decode method_3_code 24 = .ok (.ifCond .lt 7, 3) := by decide +kernel
theorem d32_27 : decode method_3_code 27 = .ok (.iconst 1, 1) := by decide +kernel
theorem d32_28 : decode method_3_code 28 = .ok (.goto 4, 3) := by decide +kernel
theorem d32_31 : decode method_3_code 31 = .ok (.iconst 0, 1) := by decide +kernel
theorem d32_32 : decode method_3_code 32 = .ok (.iadd, 1) := by decide +kernel
theorem d32_33 : decode method_3_code 33 = .ok (.istore_n 3, 1) := by decide +kernel
set_option maxRecDepth 65536 in
set_option maxHeartbeats 40000000 in
theorem dg_2 {p : Program} {l : Launch} {e : Env} {R : Room} {s : State} {m : MethodId} {args : Array Value} {below : List Frame} {meth : Method} {c : Code} {Z : State} {a0 : Array Value} {W : Outcome → State → Prop} (hx : p.tables.exec = Jvm.exec) (hZ : Z.Warmed39 s.vm) (hw : ∀ d ∈ tables_1, d.before a0 Z = true) (hby : c.code = method_3_code) (hml : c.maxLocals = 4) (hown : s.vm.findClass "com/example/vigil_cache/vigilcache/HotKeyRuleWindowAsWrittenPinLaw" = some m.cls) {h0 : Heap} {n0 : Nat}  (q0 : Int64) (r1 : Addr) (d w : Nat)
    {T0 : State} {locs0 : List Loc} {cells slots : Nat} (X0 : Stand p l e R s m args below meth c T0 locs0 cells slots) (e0 : T0.heap = h0) (N0 : Fr n0 locs0) (TB : own_TB Z h0 r1) (hq : q0.toInt = (w : Int)) (D : own_D w d) (hK : Onw p e below W (T0.setTop (mkF m 34 #[.val (.long q0), .second, .val (.ref r1), .val (.int (Int32.ofNat (min 3 d)))] []))) :
    Onw p e below W (T0.setTop (mkF m 18 #[.val (.long q0), .second, .val (.ref r1), .val (.int (Int32.ofNat (min 2 d)))] [])) := by
  obtain ⟨c1, A1, b1, b2⟩ := TB.at (r := 2) (by decide)
  have pk := own_p10 (r := 2) (by decide)
  refine Onw.go (fun _ kt => XS.iloadN X0.here hx rfl (hb hby d32_18) rfl kt) ?_
  show Onw p e below _ (T0.setTop (mkF m 19 #[.val (.long q0), .second, .val (.ref r1), .val (.int (Int32.ofNat (min 2 d)))] [(.int (Int32.ofNat (min 2 d)))]))
  refine Onw.go (fun _ kt => XS.lloadN X0.here hx rfl (hb hby d32_19) rfl kt) ?_
  show Onw p e below _ (T0.setTop (mkF m 20 #[.val (.long q0), .second, .val (.ref r1), .val (.int (Int32.ofNat (min 2 d)))] [(.long q0), (.int (Int32.ofNat (min 2 d)))]))
  refine Onw.go (fun _ kt => XS.aloadN X0.here hx rfl (hb hby d32_20) rfl rfl kt) ?_
  show Onw p e below _ (T0.setTop (mkF m 21 #[.val (.long q0), .second, .val (.ref r1), .val (.int (Int32.ofNat (min 2 d)))] [(.ref r1), (.long q0), (.int (Int32.ofNat (min 2 d)))]))
  refine Onw.go (fun _ kt => XS.iconst X0.here hx rfl (hb hby d32_21) kt) ?_
  show Onw p e below _ (T0.setTop (mkF m 22 #[.val (.long q0), .second, .val (.ref r1), .val (.int (Int32.ofNat (min 2 d)))] [(.int (2 : Int32)), (.ref r1), (.long q0), (.int (Int32.ofNat (min 2 d)))]))
  refine Onw.go (X0.laload hx (j := (2 : Int32)) (v := (.long (Int64.ofNat (10 ^ 2)))) (by rw [e0]; exact A1.1) (State.isArrayOf_alike hZ.alike A1.2.1) A1.2.2 b1 b2 (g := (mkF m 22 #[.val (.long q0), .second, .val (.ref r1), .val (.int (Int32.ofNat (min 2 d)))] [(.int (2 : Int32)), (.ref r1), (.long q0), (.int (Int32.ofNat (min 2 d)))])) rfl rfl (hb hby d32_22)) ?_
  show Onw p e below _ (T0.setTop (mkF m 23 #[.val (.long q0), .second, .val (.ref r1), .val (.int (Int32.ofNat (min 2 d)))] [(.long (Int64.ofNat (10 ^ 2))), (.long q0), (.int (Int32.ofNat (min 2 d)))]))
  refine Onw.go (fun _ kt => XS.lcmp X0.here hx rfl (hb hby d32_23) rfl kt) ?_
  show Onw p e below _ (T0.setTop (mkF m 24 #[.val (.long q0), .second, .val (.ref r1), .val (.int (Int32.ofNat (min 2 d)))] [(.int (lcmpW q0 (Int64.ofNat (10 ^ 2)))), (.int (Int32.ofNat (min 2 d)))]))
  by_cases h1 : (lcmpW q0 (Int64.ofNat (10 ^ 2))) < (0 : Int32)
  · refine Onw.go (fun _ kt => XS.ifYes X0.here hx rfl (pc0 := 24) (pc' := 31) rfl (hb hby d32_24) rfl ((if0 _ _).trans (tlt (h1 : (lcmpW q0 (Int64.ofNat (10 ^ 2))) < (0 : Int32))).1) (by decide) (by decide) kt) ?_
    show Onw p e below _ (T0.setTop (mkF m 31 #[.val (.long q0), .second, .val (.ref r1), .val (.int (Int32.ofNat (min 2 d)))] [(.int (Int32.ofNat (min 2 d)))]))
    rw [own_lc1, hq, pk] at h1
    have dk : d ≤ 2 := own_Dlt D (by omega)
    refine Onw.go (fun _ kt => XS.iconst X0.here hx rfl (hb hby d32_31) kt) ?_
    show Onw p e below _ (T0.setTop (mkF m 32 #[.val (.long q0), .second, .val (.ref r1), .val (.int (Int32.ofNat (min 2 d)))] [(.int (0 : Int32)), (.int (Int32.ofNat (min 2 d)))]))
    refine Onw.go (fun _ kt => XS.iadd X0.here hx rfl (hb hby d32_32) rfl kt) ?_
    show Onw p e below _ (T0.setTop (mkF m 33 #[.val (.long q0), .second, .val (.ref r1), .val (.int (Int32.ofNat (min 2 d)))] [(.int ((Int32.ofNat (min 2 d)) + (0 : Int32)))]))
    refine Onw.go (fun _ kt => XS.istoreN X0.here hx rfl (hb hby d32_33) rfl (l' := #[.val (.long q0), .second, .val (.ref r1), .val (.int ((Int32.ofNat (min 2 d)) + (0 : Int32)))]) rfl kt) ?_
    show Onw p e below _ (T0.setTop (mkF m 34 #[.val (.long q0), .second, .val (.ref r1), .val (.int ((Int32.ofNat (min 2 d)) + (0 : Int32)))] []))
    rw [show Int32.ofNat (min 2 d) + (0 : Int32) = Int32.ofNat (min 3 d) from by rw [Int32.add_zero, show min 2 d = min 3 d by omega]]
    exact hK
  · refine Onw.go (fun _ kt => XS.ifNo X0.here hx rfl (hb hby d32_24) rfl ((if0 _ _).trans (flt (h1 : ¬ ((lcmpW q0 (Int64.ofNat (10 ^ 2))) < (0 : Int32)))).1) kt) ?_
    show Onw p e below _ (T0.setTop (mkF m 27 #[.val (.long q0), .second, .val (.ref r1), .val (.int (Int32.ofNat (min 2 d)))] [(.int (Int32.ofNat (min 2 d)))]))
    rw [own_lc1, hq, pk] at h1
    have dk : 2 < d := own_Dge D (by omega)
    refine Onw.go (fun _ kt => XS.iconst X0.here hx rfl (hb hby d32_27) kt) ?_
    show Onw p e below _ (T0.setTop (mkF m 28 #[.val (.long q0), .second, .val (.ref r1), .val (.int (Int32.ofNat (min 2 d)))] [(.int (1 : Int32)), (.int (Int32.ofNat (min 2 d)))]))
    refine Onw.go (fun _ kt => XS.goto X0.here hx rfl (pc0 := 28) (pc' := 32) rfl (hb hby d32_28) (by decide) (by decide) kt) ?_
    show Onw p e below _ (T0.setTop (mkF m 32 #[.val (.long q0), .second, .val (.ref r1), .val (.int (Int32.ofNat (min 2 d)))] [(.int (1 : Int32)), (.int (Int32.ofNat (min 2 d)))]))
    refine Onw.go (fun _ kt => XS.iadd X0.here hx rfl (hb hby d32_32) rfl kt) ?_
    show Onw p e below _ (T0.setTop (mkF m 33 #[.val (.long q0), .second, .val (.ref r1), .val (.int (Int32.ofNat (min 2 d)))] [(.int ((Int32.ofNat (min 2 d)) + (1 : Int32)))]))
    refine Onw.go (fun _ kt => XS.istoreN X0.here hx rfl (hb hby d32_33) rfl (l' := #[.val (.long q0), .second, .val (.ref r1), .val (.int ((Int32.ofNat (min 2 d)) + (1 : Int32)))]) rfl kt) ?_
    show Onw p e below _ (T0.setTop (mkF m 34 #[.val (.long q0), .second, .val (.ref r1), .val (.int ((Int32.ofNat (min 2 d)) + (1 : Int32)))] []))
    rw [show Int32.ofNat (min 2 d) + (1 : Int32) = Int32.ofNat (min 3 d) from by rw [show min 3 d = min 2 d + 1 by omega, Int32.ofNat_add]; rfl]
    exact hK
theorem d32_34 : decode method_3_code 34 = .ok (.iload_n 3, 1) := by decide +kernel
theorem d32_35 : decode method_3_code 35 = .ok (.lload_n 0, 1) := by decide +kernel
theorem d32_36 : decode method_3_code 36 = .ok (.aload_n 2, 1) := by decide +kernel
theorem d32_37 : decode method_3_code 37 = .ok (.iconst 3, 1) := by decide +kernel
theorem d32_38 : decode method_3_code 38 = .ok (.laload, 1) := by decide +kernel
theorem d32_39 : decode method_3_code 39 = .ok (.lcmp, 1) := by decide +kernel
theorem d32_40 : decode method_3_code 40 = .ok (.ifCond .lt 7, 3) := by decide +kernel
theorem d32_43 : decode method_3_code 43 = .ok (.iconst 1, 1) := by decide +kernel
theorem d32_44 : decode method_3_code 44 = .ok (.goto 4, 3) := by decide +kernel
theorem d32_47 : decode method_3_code 47 = .ok (.iconst 0, 1) := by decide +kernel
theorem d32_48 : decode method_3_code 48 = .ok (.iadd, 1) := by decide +kernel
theorem d32_49 : decode method_3_code 49 = .ok (.istore_n 3, 1) := by decide +kernel
set_option maxRecDepth 65536 in
set_option maxHeartbeats 40000000 in
theorem dg_3 {p : Program} {l : Launch} {e : Env} {R : Room} {s : State} {m : MethodId} {args : Array Value} {below : List Frame} {meth : Method} {c : Code} {Z : State} {a0 : Array Value} {W : Outcome → State → Prop} (hx : p.tables.exec = Jvm.exec) (hZ : Z.Warmed39 s.vm) (hw : ∀ d ∈ tables_1, d.before a0 Z = true) (hby : c.code = method_3_code) (hml : c.maxLocals = 4) (hown : s.vm.findClass "com/example/vigil_cache/vigilcache/HotKeyRuleWindowAsWrittenPinLaw" = some m.cls) {h0 : Heap} {n0 : Nat}  (q0 : Int64) (r1 : Addr) (d w : Nat)
    {T0 : State} {locs0 : List Loc} {cells slots : Nat} (X0 : Stand p l e R s m args below meth c T0 locs0 cells slots) (e0 : T0.heap = h0) (N0 : Fr n0 locs0) (TB : own_TB Z h0 r1) (hq : q0.toInt = (w : Int)) (D : own_D w d) (hK : Onw p e below W (T0.setTop (mkF m 50 #[.val (.long q0), .second, .val (.ref r1), .val (.int (Int32.ofNat (min 4 d)))] []))) :
    Onw p e below W (T0.setTop (mkF m 34 #[.val (.long q0), .second, .val (.ref r1), .val (.int (Int32.ofNat (min 3 d)))] [])) := by
  obtain ⟨c1, A1, b1, b2⟩ := TB.at (r := 3) (by decide)
  have pk := own_p10 (r := 3) (by decide)
  refine Onw.go (fun _ kt => XS.iloadN X0.here hx rfl (hb hby d32_34) rfl kt) ?_
  show Onw p e below _ (T0.setTop (mkF m 35 #[.val (.long q0), .second, .val (.ref r1), .val (.int (Int32.ofNat (min 3 d)))] [(.int (Int32.ofNat (min 3 d)))]))
  refine Onw.go (fun _ kt => XS.lloadN X0.here hx rfl (hb hby d32_35) rfl kt) ?_
  show Onw p e below _ (T0.setTop (mkF m 36 #[.val (.long q0), .second, .val (.ref r1), .val (.int (Int32.ofNat (min 3 d)))] [(.long q0), (.int (Int32.ofNat (min 3 d)))]))
  refine Onw.go (fun _ kt => XS.aloadN X0.here hx rfl (hb hby d32_36) rfl rfl kt) ?_
  show Onw p e below _ (T0.setTop (mkF m 37 #[.val (.long q0), .second, .val (.ref r1), .val (.int (Int32.ofNat (min 3 d)))] [(.ref r1), (.long q0), (.int (Int32.ofNat (min 3 d)))]))
  refine Onw.go (fun _ kt => XS.iconst X0.here hx rfl (hb hby d32_37) kt) ?_
  show Onw p e below _ (T0.setTop (mkF m 38 #[.val (.long q0), .second, .val (.ref r1), .val (.int (Int32.ofNat (min 3 d)))] [(.int (3 : Int32)), (.ref r1), (.long q0), (.int (Int32.ofNat (min 3 d)))]))
  refine Onw.go (X0.laload hx (j := (3 : Int32)) (v := (.long (Int64.ofNat (10 ^ 3)))) (by rw [e0]; exact A1.1) (State.isArrayOf_alike hZ.alike A1.2.1) A1.2.2 b1 b2 (g := (mkF m 38 #[.val (.long q0), .second, .val (.ref r1), .val (.int (Int32.ofNat (min 3 d)))] [(.int (3 : Int32)), (.ref r1), (.long q0), (.int (Int32.ofNat (min 3 d)))])) rfl rfl (hb hby d32_38)) ?_
  show Onw p e below _ (T0.setTop (mkF m 39 #[.val (.long q0), .second, .val (.ref r1), .val (.int (Int32.ofNat (min 3 d)))] [(.long (Int64.ofNat (10 ^ 3))), (.long q0), (.int (Int32.ofNat (min 3 d)))]))
  refine Onw.go (fun _ kt => XS.lcmp X0.here hx rfl (hb hby d32_39) rfl kt) ?_
  show Onw p e below _ (T0.setTop (mkF m 40 #[.val (.long q0), .second, .val (.ref r1), .val (.int (Int32.ofNat (min 3 d)))] [(.int (lcmpW q0 (Int64.ofNat (10 ^ 3)))), (.int (Int32.ofNat (min 3 d)))]))
  by_cases h1 : (lcmpW q0 (Int64.ofNat (10 ^ 3))) < (0 : Int32)
  · refine Onw.go (fun _ kt => XS.ifYes X0.here hx rfl (pc0 := 40) (pc' := 47) rfl (hb hby d32_40) rfl ((if0 _ _).trans (tlt (h1 : (lcmpW q0 (Int64.ofNat (10 ^ 3))) < (0 : Int32))).1) (by decide) (by decide) kt) ?_
    show Onw p e below _ (T0.setTop (mkF m 47 #[.val (.long q0), .second, .val (.ref r1), .val (.int (Int32.ofNat (min 3 d)))] [(.int (Int32.ofNat (min 3 d)))]))
    rw [own_lc1, hq, pk] at h1
    have dk : d ≤ 3 := own_Dlt D (by omega)
    refine Onw.go (fun _ kt => XS.iconst X0.here hx rfl (hb hby d32_47) kt) ?_
    show Onw p e below _ (T0.setTop (mkF m 48 #[.val (.long q0), .second, .val (.ref r1), .val (.int (Int32.ofNat (min 3 d)))] [(.int (0 : Int32)), (.int (Int32.ofNat (min 3 d)))]))
    refine Onw.go (fun _ kt => XS.iadd X0.here hx rfl (hb hby d32_48) rfl kt) ?_
    show Onw p e below _ (T0.setTop (mkF m 49 #[.val (.long q0), .second, .val (.ref r1), .val (.int (Int32.ofNat (min 3 d)))] [(.int ((Int32.ofNat (min 3 d)) + (0 : Int32)))]))
    refine Onw.go (fun _ kt => XS.istoreN X0.here hx rfl (hb hby d32_49) rfl (l' := #[.val (.long q0), .second, .val (.ref r1), .val (.int ((Int32.ofNat (min 3 d)) + (0 : Int32)))]) rfl kt) ?_
    show Onw p e below _ (T0.setTop (mkF m 50 #[.val (.long q0), .second, .val (.ref r1), .val (.int ((Int32.ofNat (min 3 d)) + (0 : Int32)))] []))
    rw [show Int32.ofNat (min 3 d) + (0 : Int32) = Int32.ofNat (min 4 d) from by rw [Int32.add_zero, show min 3 d = min 4 d by omega]]
    exact hK
  · refine Onw.go (fun _ kt => XS.ifNo X0.here hx rfl (hb hby d32_40) rfl ((if0 _ _).trans (flt (h1 : ¬ ((lcmpW q0 (Int64.ofNat (10 ^ 3))) < (0 : Int32)))).1) kt) ?_
    show Onw p e below _ (T0.setTop (mkF m 43 #[.val (.long q0), .second, .val (.ref r1), .val (.int (Int32.ofNat (min 3 d)))] [(.int (Int32.ofNat (min 3 d)))]))
    rw [own_lc1, hq, pk] at h1
    have dk : 3 < d := own_Dge D (by omega)
    refine Onw.go (fun _ kt => XS.iconst X0.here hx rfl (hb hby d32_43) kt) ?_
    show Onw p e below _ (T0.setTop (mkF m 44 #[.val (.long q0), .second, .val (.ref r1), .val (.int (Int32.ofNat (min 3 d)))] [(.int (1 : Int32)), (.int (Int32.ofNat (min 3 d)))]))
    refine Onw.go (fun _ kt => XS.goto X0.here hx rfl (pc0 := 44) (pc' := 48) rfl (hb hby d32_44) (by decide) (by decide) kt) ?_
    show Onw p e below _ (T0.setTop (mkF m 48 #[.val (.long q0), .second, .val (.ref r1), .val (.int (Int32.ofNat (min 3 d)))] [(.int (1 : Int32)), (.int (Int32.ofNat (min 3 d)))]))
    refine Onw.go (fun _ kt => XS.iadd X0.here hx rfl (hb hby d32_48) rfl kt) ?_
    show Onw p e below _ (T0.setTop (mkF m 49 #[.val (.long q0), .second, .val (.ref r1), .val (.int (Int32.ofNat (min 3 d)))] [(.int ((Int32.ofNat (min 3 d)) + (1 : Int32)))]))
    refine Onw.go (fun _ kt => XS.istoreN X0.here hx rfl (hb hby d32_49) rfl (l' := #[.val (.long q0), .second, .val (.ref r1), .val (.int ((Int32.ofNat (min 3 d)) + (1 : Int32)))]) rfl kt) ?_
    show Onw p e below _ (T0.setTop (mkF m 50 #[.val (.long q0), .second, .val (.ref r1), .val (.int ((Int32.ofNat (min 3 d)) + (1 : Int32)))] []))
    rw [show Int32.ofNat (min 3 d) + (1 : Int32) = Int32.ofNat (min 4 d) from by rw [show min 4 d = min 3 d + 1 by omega, Int32.ofNat_add]; rfl]
    exact hK
theorem d32_50 : decode method_3_code 50 = .ok (.iload_n 3, 1) := by decide +kernel
theorem d32_51 : decode method_3_code 51 = .ok (.lload_n 0, 1) := by decide +kernel
theorem d32_52 : decode method_3_code 52 = .ok (.aload_n 2, 1) := by decide +kernel
theorem d32_53 : decode method_3_code 53 = .ok (.iconst 4, 1) := by decide +kernel
theorem d32_54 : decode method_3_code 54 = .ok (.laload, 1) := by decide +kernel
theorem d32_55 : decode method_3_code 55 = .ok (.lcmp, 1) := by decide +kernel
theorem d32_56 : decode method_3_code 56 = .ok (.ifCond .lt 7, 3) := by decide +kernel
theorem d32_59 : decode method_3_code 59 = .ok (.iconst 1, 1) := by decide +kernel
theorem d32_60 : decode method_3_code 60 = .ok (.goto 4, 3) := by decide +kernel
theorem d32_63 : decode method_3_code 63 = .ok (.iconst 0, 1) := by decide +kernel
theorem d32_64 : decode method_3_code 64 = .ok (.iadd, 1) := by decide +kernel
theorem d32_65 : decode method_3_code 65 = .ok (.istore_n 3, 1) := by decide +kernel
set_option maxRecDepth 65536 in
set_option maxHeartbeats 40000000 in
theorem dg_4 {p : Program} {l : Launch} {e : Env} {R : Room} {s : State} {m : MethodId} {args : Array Value} {below : List Frame} {meth : Method} {c : Code} {Z : State} {a0 : Array Value} {W : Outcome → State → Prop} (hx : p.tables.exec = Jvm.exec) (hZ : Z.Warmed39 s.vm) (hw : ∀ d ∈ tables_1, d.before a0 Z = true) (hby : c.code = method_3_code) (hml : c.maxLocals = 4) (hown : s.vm.findClass "com/example/vigil_cache/vigilcache/HotKeyRuleWindowAsWrittenPinLaw" = some m.cls) {h0 : Heap} {n0 : Nat}  (q0 : Int64) (r1 : Addr) (d w : Nat)
    {T0 : State} {locs0 : List Loc} {cells slots : Nat} (X0 : Stand p l e R s m args below meth c T0 locs0 cells slots) (e0 : T0.heap = h0) (N0 : Fr n0 locs0) (TB : own_TB Z h0 r1) (hq : q0.toInt = (w : Int)) (D : own_D w d) (hK : Onw p e below W (T0.setTop (mkF m 66 #[.val (.long q0), .second, .val (.ref r1), .val (.int (Int32.ofNat (min 5 d)))] []))) :
    Onw p e below W (T0.setTop (mkF m 50 #[.val (.long q0), .second, .val (.ref r1), .val (.int (Int32.ofNat (min 4 d)))] [])) := by
  obtain ⟨c1, A1, b1, b2⟩ := TB.at (r := 4) (by decide)
  have pk := own_p10 (r := 4) (by decide)
  refine Onw.go (fun _ kt => XS.iloadN X0.here hx rfl (hb hby d32_50) rfl kt) ?_
  show Onw p e below _ (T0.setTop (mkF m 51 #[.val (.long q0), .second, .val (.ref r1), .val (.int (Int32.ofNat (min 4 d)))] [(.int (Int32.ofNat (min 4 d)))]))
  refine Onw.go (fun _ kt => XS.lloadN X0.here hx rfl (hb hby d32_51) rfl kt) ?_
  show Onw p e below _ (T0.setTop (mkF m 52 #[.val (.long q0), .second, .val (.ref r1), .val (.int (Int32.ofNat (min 4 d)))] [(.long q0), (.int (Int32.ofNat (min 4 d)))]))
  refine Onw.go (fun _ kt => XS.aloadN X0.here hx rfl (hb hby d32_52) rfl rfl kt) ?_
  show Onw p e below _ (T0.setTop (mkF m 53 #[.val (.long q0), .second, .val (.ref r1), .val (.int (Int32.ofNat (min 4 d)))] [(.ref r1), (.long q0), (.int (Int32.ofNat (min 4 d)))]))
  refine Onw.go (fun _ kt => XS.iconst X0.here hx rfl (hb hby d32_53) kt) ?_
  show Onw p e below _ (T0.setTop (mkF m 54 #[.val (.long q0), .second, .val (.ref r1), .val (.int (Int32.ofNat (min 4 d)))] [(.int (4 : Int32)), (.ref r1), (.long q0), (.int (Int32.ofNat (min 4 d)))]))
  refine Onw.go (X0.laload hx (j := (4 : Int32)) (v := (.long (Int64.ofNat (10 ^ 4)))) (by rw [e0]; exact A1.1) (State.isArrayOf_alike hZ.alike A1.2.1) A1.2.2 b1 b2 (g := (mkF m 54 #[.val (.long q0), .second, .val (.ref r1), .val (.int (Int32.ofNat (min 4 d)))] [(.int (4 : Int32)), (.ref r1), (.long q0), (.int (Int32.ofNat (min 4 d)))])) rfl rfl (hb hby d32_54)) ?_
  show Onw p e below _ (T0.setTop (mkF m 55 #[.val (.long q0), .second, .val (.ref r1), .val (.int (Int32.ofNat (min 4 d)))] [(.long (Int64.ofNat (10 ^ 4))), (.long q0), (.int (Int32.ofNat (min 4 d)))]))
  refine Onw.go (fun _ kt => XS.lcmp X0.here hx rfl (hb hby d32_55) rfl kt) ?_
  show Onw p e below _ (T0.setTop (mkF m 56 #[.val (.long q0), .second, .val (.ref r1), .val (.int (Int32.ofNat (min 4 d)))] [(.int (lcmpW q0 (Int64.ofNat (10 ^ 4)))), (.int (Int32.ofNat (min 4 d)))]))
  by_cases h1 : (lcmpW q0 (Int64.ofNat (10 ^ 4))) < (0 : Int32)
  · refine Onw.go (fun _ kt => XS.ifYes X0.here hx rfl (pc0 := 56) (pc' := 63) rfl (hb hby d32_56) rfl ((if0 _ _).trans (tlt (h1 : (lcmpW q0 (Int64.ofNat (10 ^ 4))) < (0 : Int32))).1) (by decide) (by decide) kt) ?_
    show Onw p e below _ (T0.setTop (mkF m 63 #[.val (.long q0), .second, .val (.ref r1), .val (.int (Int32.ofNat (min 4 d)))] [(.int (Int32.ofNat (min 4 d)))]))
    rw [own_lc1, hq, pk] at h1
    have dk : d ≤ 4 := own_Dlt D (by omega)
    refine Onw.go (fun _ kt => XS.iconst X0.here hx rfl (hb hby d32_63) kt) ?_
    show Onw p e below _ (T0.setTop (mkF m 64 #[.val (.long q0), .second, .val (.ref r1), .val (.int (Int32.ofNat (min 4 d)))] [(.int (0 : Int32)), (.int (Int32.ofNat (min 4 d)))]))
    refine Onw.go (fun _ kt => XS.iadd X0.here hx rfl (hb hby d32_64) rfl kt) ?_
    show Onw p e below _ (T0.setTop (mkF m 65 #[.val (.long q0), .second, .val (.ref r1), .val (.int (Int32.ofNat (min 4 d)))] [(.int ((Int32.ofNat (min 4 d)) + (0 : Int32)))]))
    refine Onw.go (fun _ kt => XS.istoreN X0.here hx rfl (hb hby d32_65) rfl (l' := #[.val (.long q0), .second, .val (.ref r1), .val (.int ((Int32.ofNat (min 4 d)) + (0 : Int32)))]) rfl kt) ?_
    show Onw p e below _ (T0.setTop (mkF m 66 #[.val (.long q0), .second, .val (.ref r1), .val (.int ((Int32.ofNat (min 4 d)) + (0 : Int32)))] []))
    rw [show Int32.ofNat (min 4 d) + (0 : Int32) = Int32.ofNat (min 5 d) from by rw [Int32.add_zero, show min 4 d = min 5 d by omega]]
    exact hK
  · refine Onw.go (fun _ kt => XS.ifNo X0.here hx rfl (hb hby d32_56) rfl ((if0 _ _).trans (flt (h1 : ¬ ((lcmpW q0 (Int64.ofNat (10 ^ 4))) < (0 : Int32)))).1) kt) ?_
    show Onw p e below _ (T0.setTop (mkF m 59 #[.val (.long q0), .second, .val (.ref r1), .val (.int (Int32.ofNat (min 4 d)))] [(.int (Int32.ofNat (min 4 d)))]))
    rw [own_lc1, hq, pk] at h1
    have dk : 4 < d := own_Dge D (by omega)
    refine Onw.go (fun _ kt => XS.iconst X0.here hx rfl (hb hby d32_59) kt) ?_
    show Onw p e below _ (T0.setTop (mkF m 60 #[.val (.long q0), .second, .val (.ref r1), .val (.int (Int32.ofNat (min 4 d)))] [(.int (1 : Int32)), (.int (Int32.ofNat (min 4 d)))]))
    refine Onw.go (fun _ kt => XS.goto X0.here hx rfl (pc0 := 60) (pc' := 64) rfl (hb hby d32_60) (by decide) (by decide) kt) ?_
    show Onw p e below _ (T0.setTop (mkF m 64 #[.val (.long q0), .second, .val (.ref r1), .val (.int (Int32.ofNat (min 4 d)))] [(.int (1 : Int32)), (.int (Int32.ofNat (min 4 d)))]))
    refine Onw.go (fun _ kt => XS.iadd X0.here hx rfl (hb hby d32_64) rfl kt) ?_
    show Onw p e below _ (T0.setTop (mkF m 65 #[.val (.long q0), .second, .val (.ref r1), .val (.int (Int32.ofNat (min 4 d)))] [(.int ((Int32.ofNat (min 4 d)) + (1 : Int32)))]))
    refine Onw.go (fun _ kt => XS.istoreN X0.here hx rfl (hb hby d32_65) rfl (l' := #[.val (.long q0), .second, .val (.ref r1), .val (.int ((Int32.ofNat (min 4 d)) + (1 : Int32)))]) rfl kt) ?_
    show Onw p e below _ (T0.setTop (mkF m 66 #[.val (.long q0), .second, .val (.ref r1), .val (.int ((Int32.ofNat (min 4 d)) + (1 : Int32)))] []))
    rw [show Int32.ofNat (min 4 d) + (1 : Int32) = Int32.ofNat (min 5 d) from by rw [show min 5 d = min 4 d + 1 by omega, Int32.ofNat_add]; rfl]
    exact hK
theorem d32_66 : decode method_3_code 66 = .ok (.iload_n 3, 1) := by decide +kernel
theorem d32_67 : decode method_3_code 67 = .ok (.lload_n 0, 1) := by decide +kernel
theorem d32_68 : decode method_3_code 68 = .ok (.aload_n 2, 1) := by decide +kernel
theorem d32_69 : decode method_3_code 69 = .ok (.iconst 5, 1) := by decide +kernel
theorem d32_70 : decode method_3_code 70 = .ok (.laload, 1) := by decide +kernel
theorem d32_71 : decode method_3_code 71 = .ok (.lcmp, 1) := by decide +kernel
theorem d32_72 : decode method_3_code 72 = .ok (.ifCond .lt 7, 3) := by decide +kernel
theorem d32_75 : decode method_3_code 75 = .ok (.iconst 1, 1) := by decide +kernel
theorem d32_76 : decode method_3_code 76 = .ok (.goto 4, 3) := by decide +kernel
theorem d32_79 : decode method_3_code 79 = .ok (.iconst 0, 1) := by decide +kernel
theorem d32_80 : decode method_3_code 80 = .ok (.iadd, 1) := by decide +kernel
theorem d32_81 : decode method_3_code 81 = .ok (.istore_n 3, 1) := by decide +kernel
set_option maxRecDepth 65536 in
set_option maxHeartbeats 40000000 in
theorem dg_5 {p : Program} {l : Launch} {e : Env} {R : Room} {s : State} {m : MethodId} {args : Array Value} {below : List Frame} {meth : Method} {c : Code} {Z : State} {a0 : Array Value} {W : Outcome → State → Prop} (hx : p.tables.exec = Jvm.exec) (hZ : Z.Warmed39 s.vm) (hw : ∀ d ∈ tables_1, d.before a0 Z = true) (hby : c.code = method_3_code) (hml : c.maxLocals = 4) (hown : s.vm.findClass "com/example/vigil_cache/vigilcache/HotKeyRuleWindowAsWrittenPinLaw" = some m.cls) {h0 : Heap} {n0 : Nat}  (q0 : Int64) (r1 : Addr) (d w : Nat)
    {T0 : State} {locs0 : List Loc} {cells slots : Nat} (X0 : Stand p l e R s m args below meth c T0 locs0 cells slots) (e0 : T0.heap = h0) (N0 : Fr n0 locs0) (TB : own_TB Z h0 r1) (hq : q0.toInt = (w : Int)) (D : own_D w d) (hK : Onw p e below W (T0.setTop (mkF m 82 #[.val (.long q0), .second, .val (.ref r1), .val (.int (Int32.ofNat (min 6 d)))] []))) :
    Onw p e below W (T0.setTop (mkF m 66 #[.val (.long q0), .second, .val (.ref r1), .val (.int (Int32.ofNat (min 5 d)))] [])) := by
  obtain ⟨c1, A1, b1, b2⟩ := TB.at (r := 5) (by decide)
  have pk := own_p10 (r := 5) (by decide)
  refine Onw.go (fun _ kt => XS.iloadN X0.here hx rfl (hb hby d32_66) rfl kt) ?_
  show Onw p e below _ (T0.setTop (mkF m 67 #[.val (.long q0), .second, .val (.ref r1), .val (.int (Int32.ofNat (min 5 d)))] [(.int (Int32.ofNat (min 5 d)))]))
  refine Onw.go (fun _ kt => XS.lloadN X0.here hx rfl (hb hby d32_67) rfl kt) ?_
  show Onw p e below _ (T0.setTop (mkF m 68 #[.val (.long q0), .second, .val (.ref r1), .val (.int (Int32.ofNat (min 5 d)))] [(.long q0), (.int (Int32.ofNat (min 5 d)))]))
  refine Onw.go (fun _ kt => XS.aloadN X0.here hx rfl (hb hby d32_68) rfl rfl kt) ?_
  show Onw p e below _ (T0.setTop (mkF m 69 #[.val (.long q0), .second, .val (.ref r1), .val (.int (Int32.ofNat (min 5 d)))] [(.ref r1), (.long q0), (.int (Int32.ofNat (min 5 d)))]))
  refine Onw.go (fun _ kt => XS.iconst X0.here hx rfl (hb hby d32_69) kt) ?_
  show Onw p e below _ (T0.setTop (mkF m 70 #[.val (.long q0), .second, .val (.ref r1), .val (.int (Int32.ofNat (min 5 d)))] [(.int (5 : Int32)), (.ref r1), (.long q0), (.int (Int32.ofNat (min 5 d)))]))
  refine Onw.go (X0.laload hx (j := (5 : Int32)) (v := (.long (Int64.ofNat (10 ^ 5)))) (by rw [e0]; exact A1.1) (State.isArrayOf_alike hZ.alike A1.2.1) A1.2.2 b1 b2 (g := (mkF m 70 #[.val (.long q0), .second, .val (.ref r1), .val (.int (Int32.ofNat (min 5 d)))] [(.int (5 : Int32)), (.ref r1), (.long q0), (.int (Int32.ofNat (min 5 d)))])) rfl rfl (hb hby d32_70)) ?_
  show Onw p e below _ (T0.setTop (mkF m 71 #[.val (.long q0), .second, .val (.ref r1), .val (.int (Int32.ofNat (min 5 d)))] [(.long (Int64.ofNat (10 ^ 5))), (.long q0), (.int (Int32.ofNat (min 5 d)))]))
  refine Onw.go (fun _ kt => XS.lcmp X0.here hx rfl (hb hby d32_71) rfl kt) ?_
  show Onw p e below _ (T0.setTop (mkF m 72 #[.val (.long q0), .second, .val (.ref r1), .val (.int (Int32.ofNat (min 5 d)))] [(.int (lcmpW q0 (Int64.ofNat (10 ^ 5)))), (.int (Int32.ofNat (min 5 d)))]))
  by_cases h1 : (lcmpW q0 (Int64.ofNat (10 ^ 5))) < (0 : Int32)
  · refine Onw.go (fun _ kt => XS.ifYes X0.here hx rfl (pc0 := 72) (pc' := 79) rfl (hb hby d32_72) rfl ((if0 _ _).trans (tlt (h1 : (lcmpW q0 (Int64.ofNat (10 ^ 5))) < (0 : Int32))).1) (by decide) (by decide) kt) ?_
    show Onw p e below _ (T0.setTop (mkF m 79 #[.val (.long q0), .second, .val (.ref r1), .val (.int (Int32.ofNat (min 5 d)))] [(.int (Int32.ofNat (min 5 d)))]))
    rw [own_lc1, hq, pk] at h1
    have dk : d ≤ 5 := own_Dlt D (by omega)
    refine Onw.go (fun _ kt => XS.iconst X0.here hx rfl (hb hby d32_79) kt) ?_
    show Onw p e below _ (T0.setTop (mkF m 80 #[.val (.long q0), .second, .val (.ref r1), .val (.int (Int32.ofNat (min 5 d)))] [(.int (0 : Int32)), (.int (Int32.ofNat (min 5 d)))]))
    refine Onw.go (fun _ kt => XS.iadd X0.here hx rfl (hb hby d32_80) rfl kt) ?_
    show Onw p e below _ (T0.setTop (mkF m 81 #[.val (.long q0), .second, .val (.ref r1), .val (.int (Int32.ofNat (min 5 d)))] [(.int ((Int32.ofNat (min 5 d)) + (0 : Int32)))]))
    refine Onw.go (fun _ kt => XS.istoreN X0.here hx rfl (hb hby d32_81) rfl (l' := #[.val (.long q0), .second, .val (.ref r1), .val (.int ((Int32.ofNat (min 5 d)) + (0 : Int32)))]) rfl kt) ?_
    show Onw p e below _ (T0.setTop (mkF m 82 #[.val (.long q0), .second, .val (.ref r1), .val (.int ((Int32.ofNat (min 5 d)) + (0 : Int32)))] []))
    rw [show Int32.ofNat (min 5 d) + (0 : Int32) = Int32.ofNat (min 6 d) from by rw [Int32.add_zero, show min 5 d = min 6 d by omega]]
    exact hK
  · refine Onw.go (fun _ kt => XS.ifNo X0.here hx rfl (hb hby d32_72) rfl ((if0 _ _).trans (flt (h1 : ¬ ((lcmpW q0 (Int64.ofNat (10 ^ 5))) < (0 : Int32)))).1) kt) ?_
    show Onw p e below _ (T0.setTop (mkF m 75 #[.val (.long q0), .second, .val (.ref r1), .val (.int (Int32.ofNat (min 5 d)))] [(.int (Int32.ofNat (min 5 d)))]))
    rw [own_lc1, hq, pk] at h1
    have dk : 5 < d := own_Dge D (by omega)
    refine Onw.go (fun _ kt => XS.iconst X0.here hx rfl (hb hby d32_75) kt) ?_
    show Onw p e below _ (T0.setTop (mkF m 76 #[.val (.long q0), .second, .val (.ref r1), .val (.int (Int32.ofNat (min 5 d)))] [(.int (1 : Int32)), (.int (Int32.ofNat (min 5 d)))]))
    refine Onw.go (fun _ kt => XS.goto X0.here hx rfl (pc0 := 76) (pc' := 80) rfl (hb hby d32_76) (by decide) (by decide) kt) ?_
    show Onw p e below _ (T0.setTop (mkF m 80 #[.val (.long q0), .second, .val (.ref r1), .val (.int (Int32.ofNat (min 5 d)))] [(.int (1 : Int32)), (.int (Int32.ofNat (min 5 d)))]))
    refine Onw.go (fun _ kt => XS.iadd X0.here hx rfl (hb hby d32_80) rfl kt) ?_
    show Onw p e below _ (T0.setTop (mkF m 81 #[.val (.long q0), .second, .val (.ref r1), .val (.int (Int32.ofNat (min 5 d)))] [(.int ((Int32.ofNat (min 5 d)) + (1 : Int32)))]))
    refine Onw.go (fun _ kt => XS.istoreN X0.here hx rfl (hb hby d32_81) rfl (l' := #[.val (.long q0), .second, .val (.ref r1), .val (.int ((Int32.ofNat (min 5 d)) + (1 : Int32)))]) rfl kt) ?_
    show Onw p e below _ (T0.setTop (mkF m 82 #[.val (.long q0), .second, .val (.ref r1), .val (.int ((Int32.ofNat (min 5 d)) + (1 : Int32)))] []))
    rw [show Int32.ofNat (min 5 d) + (1 : Int32) = Int32.ofNat (min 6 d) from by rw [show min 6 d = min 5 d + 1 by omega, Int32.ofNat_add]; rfl]
    exact hK
theorem d32_82 : decode method_3_code 82 = .ok (.iload_n 3, 1) := by decide +kernel
theorem d32_83 : decode method_3_code 83 = .ok (.lload_n 0, 1) := by decide +kernel
theorem d32_84 : decode method_3_code 84 = .ok (.aload_n 2, 1) := by decide +kernel
theorem d32_85 : decode method_3_code 85 = .ok (.bipush 6, 2) := by decide +kernel
theorem d32_87 : decode method_3_code 87 = .ok (.laload, 1) := by decide +kernel
theorem d32_88 : decode method_3_code 88 = .ok (.lcmp, 1) := by decide +kernel
theorem d32_89 : decode method_3_code 89 = .ok (.ifCond .lt 7, 3) := by decide +kernel
theorem d32_92 : decode method_3_code 92 = .ok (.iconst 1, 1) := by decide +kernel
theorem d32_93 : decode method_3_code 93 = .ok (.goto 4, 3) := by decide +kernel
theorem d32_96 : decode method_3_code 96 = .ok (.iconst 0, 1) := by decide +kernel
theorem d32_97 : decode method_3_code 97 = .ok (.iadd, 1) := by decide +kernel
theorem d32_98 : decode method_3_code 98 = .ok (.istore_n 3, 1) := by decide +kernel
set_option maxRecDepth 65536 in
set_option maxHeartbeats 40000000 in
theorem dg_6 {p : Program} {l : Launch} {e : Env} {R : Room} {s : State} {m : MethodId} {args : Array Value} {below : List Frame} {meth : Method} {c : Code} {Z : State} {a0 : Array Value} {W : Outcome → State → Prop} (hx : p.tables.exec = Jvm.exec) (hZ : Z.Warmed39 s.vm) (hw : ∀ d ∈ tables_1, d.before a0 Z = true) (hby : c.code = method_3_code) (hml : c.maxLocals = 4) (hown : s.vm.findClass "com/example/vigil_cache/vigilcache/HotKeyRuleWindowAsWrittenPinLaw" = some m.cls) {h0 : Heap} {n0 : Nat}  (q0 : Int64) (r1 : Addr) (d w : Nat)
    {T0 : State} {locs0 : List Loc} {cells slots : Nat} (X0 : Stand p l e R s m args below meth c T0 locs0 cells slots) (e0 : T0.heap = h0) (N0 : Fr n0 locs0) (TB : own_TB Z h0 r1) (hq : q0.toInt = (w : Int)) (D : own_D w d) (hK : Onw p e below W (T0.setTop (mkF m 99 #[.val (.long q0), .second, .val (.ref r1), .val (.int (Int32.ofNat (min 7 d)))] []))) :
    Onw p e below W (T0.setTop (mkF m 82 #[.val (.long q0), .second, .val (.ref r1), .val (.int (Int32.ofNat (min 6 d)))] [])) := by
  obtain ⟨c1, A1, b1, b2⟩ := TB.at (r := 6) (by decide)
  have pk := own_p10 (r := 6) (by decide)
  refine Onw.go (fun _ kt => XS.iloadN X0.here hx rfl (hb hby d32_82) rfl kt) ?_
  show Onw p e below _ (T0.setTop (mkF m 83 #[.val (.long q0), .second, .val (.ref r1), .val (.int (Int32.ofNat (min 6 d)))] [(.int (Int32.ofNat (min 6 d)))]))
  refine Onw.go (fun _ kt => XS.lloadN X0.here hx rfl (hb hby d32_83) rfl kt) ?_
  show Onw p e below _ (T0.setTop (mkF m 84 #[.val (.long q0), .second, .val (.ref r1), .val (.int (Int32.ofNat (min 6 d)))] [(.long q0), (.int (Int32.ofNat (min 6 d)))]))
  refine Onw.go (fun _ kt => XS.aloadN X0.here hx rfl (hb hby d32_84) rfl rfl kt) ?_
  show Onw p e below _ (T0.setTop (mkF m 85 #[.val (.long q0), .second, .val (.ref r1), .val (.int (Int32.ofNat (min 6 d)))] [(.ref r1), (.long q0), (.int (Int32.ofNat (min 6 d)))]))
  refine Onw.go (fun _ kt => XS.bipush X0.here hx rfl (hb hby d32_85) kt) ?_
  show Onw p e below _ (T0.setTop (mkF m 87 #[.val (.long q0), .second, .val (.ref r1), .val (.int (Int32.ofNat (min 6 d)))] [(.int (6 : Int32)), (.ref r1), (.long q0), (.int (Int32.ofNat (min 6 d)))]))
  refine Onw.go (X0.laload hx (j := (6 : Int32)) (v := (.long (Int64.ofNat (10 ^ 6)))) (by rw [e0]; exact A1.1) (State.isArrayOf_alike hZ.alike A1.2.1) A1.2.2 b1 b2 (g := (mkF m 87 #[.val (.long q0), .second, .val (.ref r1), .val (.int (Int32.ofNat (min 6 d)))] [(.int (6 : Int32)), (.ref r1), (.long q0), (.int (Int32.ofNat (min 6 d)))])) rfl rfl (hb hby d32_87)) ?_
  show Onw p e below _ (T0.setTop (mkF m 88 #[.val (.long q0), .second, .val (.ref r1), .val (.int (Int32.ofNat (min 6 d)))] [(.long (Int64.ofNat (10 ^ 6))), (.long q0), (.int (Int32.ofNat (min 6 d)))]))
  refine Onw.go (fun _ kt => XS.lcmp X0.here hx rfl (hb hby d32_88) rfl kt) ?_
  show Onw p e below _ (T0.setTop (mkF m 89 #[.val (.long q0), .second, .val (.ref r1), .val (.int (Int32.ofNat (min 6 d)))] [(.int (lcmpW q0 (Int64.ofNat (10 ^ 6)))), (.int (Int32.ofNat (min 6 d)))]))
  by_cases h1 : (lcmpW q0 (Int64.ofNat (10 ^ 6))) < (0 : Int32)
  · refine Onw.go (fun _ kt => XS.ifYes X0.here hx rfl (pc0 := 89) (pc' := 96) rfl (hb hby d32_89) rfl ((if0 _ _).trans (tlt (h1 : (lcmpW q0 (Int64.ofNat (10 ^ 6))) < (0 : Int32))).1) (by decide) (by decide) kt) ?_
    show Onw p e below _ (T0.setTop (mkF m 96 #[.val (.long q0), .second, .val (.ref r1), .val (.int (Int32.ofNat (min 6 d)))] [(.int (Int32.ofNat (min 6 d)))]))
    rw [own_lc1, hq, pk] at h1
    have dk : d ≤ 6 := own_Dlt D (by omega)
    refine Onw.go (fun _ kt => XS.iconst X0.here hx rfl (hb hby d32_96) kt) ?_
    show Onw p e below _ (T0.setTop (mkF m 97 #[.val (.long q0), .second, .val (.ref r1), .val (.int (Int32.ofNat (min 6 d)))] [(.int (0 : Int32)), (.int (Int32.ofNat (min 6 d)))]))
    refine Onw.go (fun _ kt => XS.iadd X0.here hx rfl (hb hby d32_97) rfl kt) ?_
    show Onw p e below _ (T0.setTop (mkF m 98 #[.val (.long q0), .second, .val (.ref r1), .val (.int (Int32.ofNat (min 6 d)))] [(.int ((Int32.ofNat (min 6 d)) + (0 : Int32)))]))
    refine Onw.go (fun _ kt => XS.istoreN X0.here hx rfl (hb hby d32_98) rfl (l' := #[.val (.long q0), .second, .val (.ref r1), .val (.int ((Int32.ofNat (min 6 d)) + (0 : Int32)))]) rfl kt) ?_
    show Onw p e below _ (T0.setTop (mkF m 99 #[.val (.long q0), .second, .val (.ref r1), .val (.int ((Int32.ofNat (min 6 d)) + (0 : Int32)))] []))
    rw [show Int32.ofNat (min 6 d) + (0 : Int32) = Int32.ofNat (min 7 d) from by rw [Int32.add_zero, show min 6 d = min 7 d by omega]]
    exact hK
  · refine Onw.go (fun _ kt => XS.ifNo X0.here hx rfl (hb hby d32_89) rfl ((if0 _ _).trans (flt (h1 : ¬ ((lcmpW q0 (Int64.ofNat (10 ^ 6))) < (0 : Int32)))).1) kt) ?_
    show Onw p e below _ (T0.setTop (mkF m 92 #[.val (.long q0), .second, .val (.ref r1), .val (.int (Int32.ofNat (min 6 d)))] [(.int (Int32.ofNat (min 6 d)))]))
    rw [own_lc1, hq, pk] at h1
    have dk : 6 < d := own_Dge D (by omega)
    refine Onw.go (fun _ kt => XS.iconst X0.here hx rfl (hb hby d32_92) kt) ?_
    show Onw p e below _ (T0.setTop (mkF m 93 #[.val (.long q0), .second, .val (.ref r1), .val (.int (Int32.ofNat (min 6 d)))] [(.int (1 : Int32)), (.int (Int32.ofNat (min 6 d)))]))
    refine Onw.go (fun _ kt => XS.goto X0.here hx rfl (pc0 := 93) (pc' := 97) rfl (hb hby d32_93) (by decide) (by decide) kt) ?_
    show Onw p e below _ (T0.setTop (mkF m 97 #[.val (.long q0), .second, .val (.ref r1), .val (.int (Int32.ofNat (min 6 d)))] [(.int (1 : Int32)), (.int (Int32.ofNat (min 6 d)))]))
    refine Onw.go (fun _ kt => XS.iadd X0.here hx rfl (hb hby d32_97) rfl kt) ?_
    show Onw p e below _ (T0.setTop (mkF m 98 #[.val (.long q0), .second, .val (.ref r1), .val (.int (Int32.ofNat (min 6 d)))] [(.int ((Int32.ofNat (min 6 d)) + (1 : Int32)))]))
    refine Onw.go (fun _ kt => XS.istoreN X0.here hx rfl (hb hby d32_98) rfl (l' := #[.val (.long q0), .second, .val (.ref r1), .val (.int ((Int32.ofNat (min 6 d)) + (1 : Int32)))]) rfl kt) ?_
    show Onw p e below _ (T0.setTop (mkF m 99 #[.val (.long q0), .second, .val (.ref r1), .val (.int ((Int32.ofNat (min 6 d)) + (1 : Int32)))] []))
    rw [show Int32.ofNat (min 6 d) + (1 : Int32) = Int32.ofNat (min 7 d) from by rw [show min 7 d = min 6 d + 1 by omega, Int32.ofNat_add]; rfl]
    exact hK
theorem d32_99 : decode method_3_code 99 = .ok (.iload_n 3, 1) := by decide +kernel
theorem d32_100 : decode method_3_code 100 = .ok (.lload_n 0, 1) := by decide +kernel
theorem d32_101 : decode method_3_code 101 = .ok (.aload_n 2, 1) := by decide +kernel
theorem d32_102 : decode method_3_code 102 = .ok (.bipush 7, 2) := by decide +kernel
theorem d32_104 : decode method_3_code 104 = .ok (.laload, 1) := by decide +kernel
theorem d32_105 : decode method_3_code 105 = .ok (.lcmp, 1) := by decide +kernel
theorem d32_106 : decode method_3_code 106 = .ok (.ifCond .lt 7, 3) := by decide +kernel
theorem d32_109 : decode method_3_code 109 = .ok (.iconst 1, 1) := by decide +kernel
theorem d32_110 : decode method_3_code 110 = .ok (.goto 4, 3) := by decide +kernel
theorem d32_113 : decode method_3_code 113 = .ok (.iconst 0, 1) := by decide +kernel
theorem d32_114 : decode method_3_code 114 = .ok (.iadd, 1) := by decide +kernel
theorem d32_115 : decode method_3_code 115 = .ok (.istore_n 3, 1) := by decide +kernel
set_option maxRecDepth 65536 in
set_option maxHeartbeats 40000000 in
theorem dg_7 {p : Program} {l : Launch} {e : Env} {R : Room} {s : State} {m : MethodId} {args : Array Value} {below : List Frame} {meth : Method} {c : Code} {Z : State} {a0 : Array Value} {W : Outcome → State → Prop} (hx : p.tables.exec = Jvm.exec) (hZ : Z.Warmed39 s.vm) (hw : ∀ d ∈ tables_1, d.before a0 Z = true) (hby : c.code = method_3_code) (hml : c.maxLocals = 4) (hown : s.vm.findClass "com/example/vigil_cache/vigilcache/HotKeyRuleWindowAsWrittenPinLaw" = some m.cls) {h0 : Heap} {n0 : Nat}  (q0 : Int64) (r1 : Addr) (d w : Nat)
    {T0 : State} {locs0 : List Loc} {cells slots : Nat} (X0 : Stand p l e R s m args below meth c T0 locs0 cells slots) (e0 : T0.heap = h0) (N0 : Fr n0 locs0) (TB : own_TB Z h0 r1) (hq : q0.toInt = (w : Int)) (D : own_D w d) (hK : Onw p e below W (T0.setTop (mkF m 116 #[.val (.long q0), .second, .val (.ref r1), .val (.int (Int32.ofNat (min 8 d)))] []))) :
    Onw p e below W (T0.setTop (mkF m 99 #[.val (.long q0), .second, .val (.ref r1), .val (.int (Int32.ofNat (min 7 d)))] [])) := by
  obtain ⟨c1, A1, b1, b2⟩ := TB.at (r := 7) (by decide)
  have pk := own_p10 (r := 7) (by decide)
  refine Onw.go (fun _ kt => XS.iloadN X0.here hx rfl (hb hby d32_99) rfl kt) ?_
  show Onw p e below _ (T0.setTop (mkF m 100 #[.val (.long q0), .second, .val (.ref r1), .val (.int (Int32.ofNat (min 7 d)))] [(.int (Int32.ofNat (min 7 d)))]))
  refine Onw.go (fun _ kt => XS.lloadN X0.here hx rfl (hb hby d32_100) rfl kt) ?_
  show Onw p e below _ (T0.setTop (mkF m 101 #[.val (.long q0), .second, .val (.ref r1), .val (.int (Int32.ofNat (min 7 d)))] [(.long q0), (.int (Int32.ofNat (min 7 d)))]))
  refine Onw.go (fun _ kt => XS.aloadN X0.here hx rfl (hb hby d32_101) rfl rfl kt) ?_
  show Onw p e below _ (T0.setTop (mkF m 102 #[.val (.long q0), .second, .val (.ref r1), .val (.int (Int32.ofNat (min 7 d)))] [(.ref r1), (.long q0), (.int (Int32.ofNat (min 7 d)))]))
  refine Onw.go (fun _ kt => XS.bipush X0.here hx rfl (hb hby d32_102) kt) ?_
  show Onw p e below _ (T0.setTop (mkF m 104 #[.val (.long q0), .second, .val (.ref r1), .val (.int (Int32.ofNat (min 7 d)))] [(.int (7 : Int32)), (.ref r1), (.long q0), (.int (Int32.ofNat (min 7 d)))]))
  refine Onw.go (X0.laload hx (j := (7 : Int32)) (v := (.long (Int64.ofNat (10 ^ 7)))) (by rw [e0]; exact A1.1) (State.isArrayOf_alike hZ.alike A1.2.1) A1.2.2 b1 b2 (g := (mkF m 104 #[.val (.long q0), .second, .val (.ref r1), .val (.int (Int32.ofNat (min 7 d)))] [(.int (7 : Int32)), (.ref r1), (.long q0), (.int (Int32.ofNat (min 7 d)))])) rfl rfl (hb hby d32_104)) ?_
  show Onw p e below _ (T0.setTop (mkF m 105 #[.val (.long q0), .second, .val (.ref r1), .val (.int (Int32.ofNat (min 7 d)))] [(.long (Int64.ofNat (10 ^ 7))), (.long q0), (.int (Int32.ofNat (min 7 d)))]))
  refine Onw.go (fun _ kt => XS.lcmp X0.here hx rfl (hb hby d32_105) rfl kt) ?_
  show Onw p e below _ (T0.setTop (mkF m 106 #[.val (.long q0), .second, .val (.ref r1), .val (.int (Int32.ofNat (min 7 d)))] [(.int (lcmpW q0 (Int64.ofNat (10 ^ 7)))), (.int (Int32.ofNat (min 7 d)))]))
  by_cases h1 : (lcmpW q0 (Int64.ofNat (10 ^ 7))) < (0 : Int32)
  · refine Onw.go (fun _ kt => XS.ifYes X0.here hx rfl (pc0 := 106) (pc' := 113) rfl (hb hby d32_106) rfl ((if0 _ _).trans (tlt (h1 : (lcmpW q0 (Int64.ofNat (10 ^ 7))) < (0 : Int32))).1) (by decide) (by decide) kt) ?_
    show Onw p e below _ (T0.setTop (mkF m 113 #[.val (.long q0), .second, .val (.ref r1), .val (.int (Int32.ofNat (min 7 d)))] [(.int (Int32.ofNat (min 7 d)))]))
    rw [own_lc1, hq, pk] at h1
    have dk : d ≤ 7 := own_Dlt D (by omega)
    refine Onw.go (fun _ kt => XS.iconst X0.here hx rfl (hb hby d32_113) kt) ?_
    show Onw p e below _ (T0.setTop (mkF m 114 #[.val (.long q0), .second, .val (.ref r1), .val (.int (Int32.ofNat (min 7 d)))] [(.int (0 : Int32)), (.int (Int32.ofNat (min 7 d)))]))
    refine Onw.go (fun _ kt => XS.iadd X0.here hx rfl (hb hby d32_114) rfl kt) ?_
    show Onw p e below _ (T0.setTop (mkF m 115 #[.val (.long q0), .second, .val (.ref r1), .val (.int (Int32.ofNat (min 7 d)))] [(.int ((Int32.ofNat (min 7 d)) + (0 : Int32)))]))
    refine Onw.go (fun _ kt => XS.istoreN X0.here hx rfl (hb hby d32_115) rfl (l' := #[.val (.long q0), .second, .val (.ref r1), .val (.int ((Int32.ofNat (min 7 d)) + (0 : Int32)))]) rfl kt) ?_
    show Onw p e below _ (T0.setTop (mkF m 116 #[.val (.long q0), .second, .val (.ref r1), .val (.int ((Int32.ofNat (min 7 d)) + (0 : Int32)))] []))
    rw [show Int32.ofNat (min 7 d) + (0 : Int32) = Int32.ofNat (min 8 d) from by rw [Int32.add_zero, show min 7 d = min 8 d by omega]]
    exact hK
  · refine Onw.go (fun _ kt => XS.ifNo X0.here hx rfl (hb hby d32_106) rfl ((if0 _ _).trans (flt (h1 : ¬ ((lcmpW q0 (Int64.ofNat (10 ^ 7))) < (0 : Int32)))).1) kt) ?_
    show Onw p e below _ (T0.setTop (mkF m 109 #[.val (.long q0), .second, .val (.ref r1), .val (.int (Int32.ofNat (min 7 d)))] [(.int (Int32.ofNat (min 7 d)))]))
    rw [own_lc1, hq, pk] at h1
    have dk : 7 < d := own_Dge D (by omega)
    refine Onw.go (fun _ kt => XS.iconst X0.here hx rfl (hb hby d32_109) kt) ?_
    show Onw p e below _ (T0.setTop (mkF m 110 #[.val (.long q0), .second, .val (.ref r1), .val (.int (Int32.ofNat (min 7 d)))] [(.int (1 : Int32)), (.int (Int32.ofNat (min 7 d)))]))
    refine Onw.go (fun _ kt => XS.goto X0.here hx rfl (pc0 := 110) (pc' := 114) rfl (hb hby d32_110) (by decide) (by decide) kt) ?_
    show Onw p e below _ (T0.setTop (mkF m 114 #[.val (.long q0), .second, .val (.ref r1), .val (.int (Int32.ofNat (min 7 d)))] [(.int (1 : Int32)), (.int (Int32.ofNat (min 7 d)))]))
    refine Onw.go (fun _ kt => XS.iadd X0.here hx rfl (hb hby d32_114) rfl kt) ?_
    show Onw p e below _ (T0.setTop (mkF m 115 #[.val (.long q0), .second, .val (.ref r1), .val (.int (Int32.ofNat (min 7 d)))] [(.int ((Int32.ofNat (min 7 d)) + (1 : Int32)))]))
    refine Onw.go (fun _ kt => XS.istoreN X0.here hx rfl (hb hby d32_115) rfl (l' := #[.val (.long q0), .second, .val (.ref r1), .val (.int ((Int32.ofNat (min 7 d)) + (1 : Int32)))]) rfl kt) ?_
    show Onw p e below _ (T0.setTop (mkF m 116 #[.val (.long q0), .second, .val (.ref r1), .val (.int ((Int32.ofNat (min 7 d)) + (1 : Int32)))] []))
    rw [show Int32.ofNat (min 7 d) + (1 : Int32) = Int32.ofNat (min 8 d) from by rw [show min 8 d = min 7 d + 1 by omega, Int32.ofNat_add]; rfl]
    exact hK
theorem d32_116 : decode method_3_code 116 = .ok (.iload_n 3, 1) := by decide +kernel
theorem d32_117 : decode method_3_code 117 = .ok (.lload_n 0, 1) := by decide +kernel
theorem d32_118 : decode method_3_code 118 = .ok (.aload_n 2, 1) := by decide +kernel
theorem d32_119 : decode method_3_code 119 = .ok (.bipush 8, 2) := by decide +kernel
theorem d32_121 : decode method_3_code 121 = .ok (.laload, 1) := by decide +kernel
theorem d32_122 : decode method_3_code 122 = .ok (.lcmp, 1) := by decide +kernel
theorem d32_123 : decode method_3_code 123 = .ok (.ifCond .lt 7, 3) := by decide +kernel
theorem d32_126 : decode method_3_code 126 = .ok (.iconst 1, 1) := by decide +kernel
theorem d32_127 : decode method_3_code 127 = .ok (.goto 4, 3) := by decide +kernel
theorem d32_130 : decode method_3_code 130 = .ok (.iconst 0, 1) := by decide +kernel
theorem d32_131 : decode method_3_code 131 = .ok (.iadd, 1) := by decide +kernel
theorem d32_132 : decode method_3_code 132 = .ok (.istore_n 3, 1) := by decide +kernel
set_option maxRecDepth 65536 in
set_option maxHeartbeats 40000000 in
theorem dg_8 {p : Program} {l : Launch} {e : Env} {R : Room} {s : State} {m : MethodId} {args : Array Value} {below : List Frame} {meth : Method} {c : Code} {Z : State} {a0 : Array Value} {W : Outcome → State → Prop} (hx : p.tables.exec = Jvm.exec) (hZ : Z.Warmed39 s.vm) (hw : ∀ d ∈ tables_1, d.before a0 Z = true) (hby : c.code = method_3_code) (hml : c.maxLocals = 4) (hown : s.vm.findClass "com/example/vigil_cache/vigilcache/HotKeyRuleWindowAsWrittenPinLaw" = some m.cls) {h0 : Heap} {n0 : Nat}  (q0 : Int64) (r1 : Addr) (d w : Nat)
    {T0 : State} {locs0 : List Loc} {cells slots : Nat} (X0 : Stand p l e R s m args below meth c T0 locs0 cells slots) (e0 : T0.heap = h0) (N0 : Fr n0 locs0) (TB : own_TB Z h0 r1) (hq : q0.toInt = (w : Int)) (D : own_D w d) (hK : Onw p e below W (T0.setTop (mkF m 133 #[.val (.long q0), .second, .val (.ref r1), .val (.int (Int32.ofNat (min 9 d)))] []))) :
    Onw p e below W (T0.setTop (mkF m 116 #[.val (.long q0), .second, .val (.ref r1), .val (.int (Int32.ofNat (min 8 d)))] [])) := by
  obtain ⟨c1, A1, b1, b2⟩ := TB.at (r := 8) (by decide)
  have pk := own_p10 (r := 8) (by decide)
  refine Onw.go (fun _ kt => XS.iloadN X0.here hx rfl (hb hby d32_116) rfl kt) ?_
  show Onw p e below _ (T0.setTop (mkF m 117 #[.val (.long q0), .second, .val (.ref r1), .val (.int (Int32.ofNat (min 8 d)))] [(.int (Int32.ofNat (min 8 d)))]))
  refine Onw.go (fun _ kt => XS.lloadN X0.here hx rfl (hb hby d32_117) rfl kt) ?_
  show Onw p e below _ (T0.setTop (mkF m 118 #[.val (.long q0), .second, .val (.ref r1), .val (.int (Int32.ofNat (min 8 d)))] [(.long q0), (.int (Int32.ofNat (min 8 d)))]))
  refine Onw.go (fun _ kt => XS.aloadN X0.here hx rfl (hb hby d32_118) rfl rfl kt) ?_
  show Onw p e below _ (T0.setTop (mkF m 119 #[.val (.long q0), .second, .val (.ref r1), .val (.int (Int32.ofNat (min 8 d)))] [(.ref r1), (.long q0), (.int (Int32.ofNat (min 8 d)))]))
  refine Onw.go (fun _ kt => XS.bipush X0.here hx rfl (hb hby d32_119) kt) ?_
  show Onw p e below _ (T0.setTop (mkF m 121 #[.val (.long q0), .second, .val (.ref r1), .val (.int (Int32.ofNat (min 8 d)))] [(.int (8 : Int32)), (.ref r1), (.long q0), (.int (Int32.ofNat (min 8 d)))]))
  refine Onw.go (X0.laload hx (j := (8 : Int32)) (v := (.long (Int64.ofNat (10 ^ 8)))) (by rw [e0]; exact A1.1) (State.isArrayOf_alike hZ.alike A1.2.1) A1.2.2 b1 b2 (g := (mkF m 121 #[.val (.long q0), .second, .val (.ref r1), .val (.int (Int32.ofNat (min 8 d)))] [(.int (8 : Int32)), (.ref r1), (.long q0), (.int (Int32.ofNat (min 8 d)))])) rfl rfl (hb hby d32_121)) ?_
  show Onw p e below _ (T0.setTop (mkF m 122 #[.val (.long q0), .second, .val (.ref r1), .val (.int (Int32.ofNat (min 8 d)))] [(.long (Int64.ofNat (10 ^ 8))), (.long q0), (.int (Int32.ofNat (min 8 d)))]))
  refine Onw.go (fun _ kt => XS.lcmp X0.here hx rfl (hb hby d32_122) rfl kt) ?_
  show Onw p e below _ (T0.setTop (mkF m 123 #[.val (.long q0), .second, .val (.ref r1), .val (.int (Int32.ofNat (min 8 d)))] [(.int (lcmpW q0 (Int64.ofNat (10 ^ 8)))), (.int (Int32.ofNat (min 8 d)))]))
  by_cases h1 : (lcmpW q0 (Int64.ofNat (10 ^ 8))) < (0 : Int32)
  · refine Onw.go (fun _ kt => XS.ifYes X0.here hx rfl (pc0 := 123) (pc' := 130) rfl (hb hby d32_123) rfl ((if0 _ _).trans (tlt (h1 : (lcmpW q0 (Int64.ofNat (10 ^ 8))) < (0 : Int32))).1) (by decide) (by decide) kt) ?_
    show Onw p e below _ (T0.setTop (mkF m 130 #[.val (.long q0), .second, .val (.ref r1), .val (.int (Int32.ofNat (min 8 d)))] [(.int (Int32.ofNat (min 8 d)))]))
    rw [own_lc1, hq, pk] at h1
    have dk : d ≤ 8 := own_Dlt D (by omega)
    refine Onw.go (fun _ kt => XS.iconst X0.here hx rfl (hb hby d32_130) kt) ?_
    show Onw p e below _ (T0.setTop (mkF m 131 #[.val (.long q0), .second, .val (.ref r1), .val (.int (Int32.ofNat (min 8 d)))] [(.int (0 : Int32)), (.int (Int32.ofNat (min 8 d)))]))
    refine Onw.go (fun _ kt => XS.iadd X0.here hx rfl (hb hby d32_131) rfl kt) ?_
    show Onw p e below _ (T0.setTop (mkF m 132 #[.val (.long q0), .second, .val (.ref r1), .val (.int (Int32.ofNat (min 8 d)))] [(.int ((Int32.ofNat (min 8 d)) + (0 : Int32)))]))
    refine Onw.go (fun _ kt => XS.istoreN X0.here hx rfl (hb hby d32_132) rfl (l' := #[.val (.long q0), .second, .val (.ref r1), .val (.int ((Int32.ofNat (min 8 d)) + (0 : Int32)))]) rfl kt) ?_
    show Onw p e below _ (T0.setTop (mkF m 133 #[.val (.long q0), .second, .val (.ref r1), .val (.int ((Int32.ofNat (min 8 d)) + (0 : Int32)))] []))
    rw [show Int32.ofNat (min 8 d) + (0 : Int32) = Int32.ofNat (min 9 d) from by rw [Int32.add_zero, show min 8 d = min 9 d by omega]]
    exact hK
  · refine Onw.go (fun _ kt => XS.ifNo X0.here hx rfl (hb hby d32_123) rfl ((if0 _ _).trans (flt (h1 : ¬ ((lcmpW q0 (Int64.ofNat (10 ^ 8))) < (0 : Int32)))).1) kt) ?_
    show Onw p e below _ (T0.setTop (mkF m 126 #[.val (.long q0), .second, .val (.ref r1), .val (.int (Int32.ofNat (min 8 d)))] [(.int (Int32.ofNat (min 8 d)))]))
    rw [own_lc1, hq, pk] at h1
    have dk : 8 < d := own_Dge D (by omega)
    refine Onw.go (fun _ kt => XS.iconst X0.here hx rfl (hb hby d32_126) kt) ?_
    show Onw p e below _ (T0.setTop (mkF m 127 #[.val (.long q0), .second, .val (.ref r1), .val (.int (Int32.ofNat (min 8 d)))] [(.int (1 : Int32)), (.int (Int32.ofNat (min 8 d)))]))
    refine Onw.go (fun _ kt => XS.goto X0.here hx rfl (pc0 := 127) (pc' := 131) rfl (hb hby d32_127) (by decide) (by decide) kt) ?_
    show Onw p e below _ (T0.setTop (mkF m 131 #[.val (.long q0), .second, .val (.ref r1), .val (.int (Int32.ofNat (min 8 d)))] [(.int (1 : Int32)), (.int (Int32.ofNat (min 8 d)))]))
    refine Onw.go (fun _ kt => XS.iadd X0.here hx rfl (hb hby d32_131) rfl kt) ?_
    show Onw p e below _ (T0.setTop (mkF m 132 #[.val (.long q0), .second, .val (.ref r1), .val (.int (Int32.ofNat (min 8 d)))] [(.int ((Int32.ofNat (min 8 d)) + (1 : Int32)))]))
    refine Onw.go (fun _ kt => XS.istoreN X0.here hx rfl (hb hby d32_132) rfl (l' := #[.val (.long q0), .second, .val (.ref r1), .val (.int ((Int32.ofNat (min 8 d)) + (1 : Int32)))]) rfl kt) ?_
    show Onw p e below _ (T0.setTop (mkF m 133 #[.val (.long q0), .second, .val (.ref r1), .val (.int ((Int32.ofNat (min 8 d)) + (1 : Int32)))] []))
    rw [show Int32.ofNat (min 8 d) + (1 : Int32) = Int32.ofNat (min 9 d) from by rw [show min 9 d = min 8 d + 1 by omega, Int32.ofNat_add]; rfl]
    exact hK
theorem d32_133 : decode method_3_code 133 = .ok (.iload_n 3, 1) := by decide +kernel
theorem d32_134 : decode method_3_code 134 = .ok (.lload_n 0, 1) := by decide +kernel
theorem d32_135 : decode method_3_code 135 = .ok (.aload_n 2, 1) := by decide +kernel
theorem d32_136 : decode method_3_code 136 = .ok (.bipush 9, 2) := by decide +kernel
theorem d32_138 : decode method_3_code 138 = .ok (.laload, 1) := by decide +kernel
theorem d32_139 : decode method_3_code 139 = .ok (.lcmp, 1) := by decide +kernel
theorem d32_140 : decode method_3_code 140 = .ok (.ifCond .lt 7, 3) := by decide +kernel
theorem d32_143 : decode method_3_code 143 = .ok (.iconst 1, 1) := by decide +kernel
theorem d32_144 : decode method_3_code 144 = .ok (.goto 4, 3) := by decide +kernel
theorem d32_147 : decode method_3_code 147 = .ok (.iconst 0, 1) := by decide +kernel
theorem d32_148 : decode method_3_code 148 = .ok (.iadd, 1) := by decide +kernel
theorem d32_149 : decode method_3_code 149 = .ok (.istore_n 3, 1) := by decide +kernel
set_option maxRecDepth 65536 in
set_option maxHeartbeats 40000000 in
theorem dg_9 {p : Program} {l : Launch} {e : Env} {R : Room} {s : State} {m : MethodId} {args : Array Value} {below : List Frame} {meth : Method} {c : Code} {Z : State} {a0 : Array Value} {W : Outcome → State → Prop} (hx : p.tables.exec = Jvm.exec) (hZ : Z.Warmed39 s.vm) (hw : ∀ d ∈ tables_1, d.before a0 Z = true) (hby : c.code = method_3_code) (hml : c.maxLocals = 4) (hown : s.vm.findClass "com/example/vigil_cache/vigilcache/HotKeyRuleWindowAsWrittenPinLaw" = some m.cls) {h0 : Heap} {n0 : Nat}  (q0 : Int64) (r1 : Addr) (d w : Nat)
    {T0 : State} {locs0 : List Loc} {cells slots : Nat} (X0 : Stand p l e R s m args below meth c T0 locs0 cells slots) (e0 : T0.heap = h0) (N0 : Fr n0 locs0) (TB : own_TB Z h0 r1) (hq : q0.toInt = (w : Int)) (D : own_D w d) (hK : Onw p e below W (T0.setTop (mkF m 150 #[.val (.long q0), .second, .val (.ref r1), .val (.int (Int32.ofNat (min 10 d)))] []))) :
    Onw p e below W (T0.setTop (mkF m 133 #[.val (.long q0), .second, .val (.ref r1), .val (.int (Int32.ofNat (min 9 d)))] [])) := by
  obtain ⟨c1, A1, b1, b2⟩ := TB.at (r := 9) (by decide)
  have pk := own_p10 (r := 9) (by decide)
  refine Onw.go (fun _ kt => XS.iloadN X0.here hx rfl (hb hby d32_133) rfl kt) ?_
  show Onw p e below _ (T0.setTop (mkF m 134 #[.val (.long q0), .second, .val (.ref r1), .val (.int (Int32.ofNat (min 9 d)))] [(.int (Int32.ofNat (min 9 d)))]))
  refine Onw.go (fun _ kt => XS.lloadN X0.here hx rfl (hb hby d32_134) rfl kt) ?_
  show Onw p e below _ (T0.setTop (mkF m 135 #[.val (.long q0), .second, .val (.ref r1), .val (.int (Int32.ofNat (min 9 d)))] [(.long q0), (.int (Int32.ofNat (min 9 d)))]))
  refine Onw.go (fun _ kt => XS.aloadN X0.here hx rfl (hb hby d32_135) rfl rfl kt) ?_
  show Onw p e below _ (T0.setTop (mkF m 136 #[.val (.long q0), .second, .val (.ref r1), .val (.int (Int32.ofNat (min 9 d)))] [(.ref r1), (.long q0), (.int (Int32.ofNat (min 9 d)))]))
  refine Onw.go (fun _ kt => XS.bipush X0.here hx rfl (hb hby d32_136) kt) ?_
  show Onw p e below _ (T0.setTop (mkF m 138 #[.val (.long q0), .second, .val (.ref r1), .val (.int (Int32.ofNat (min 9 d)))] [(.int (9 : Int32)), (.ref r1), (.long q0), (.int (Int32.ofNat (min 9 d)))]))
  refine Onw.go (X0.laload hx (j := (9 : Int32)) (v := (.long (Int64.ofNat (10 ^ 9)))) (by rw [e0]; exact A1.1) (State.isArrayOf_alike hZ.alike A1.2.1) A1.2.2 b1 b2 (g := (mkF m 138 #[.val (.long q0), .second, .val (.ref r1), .val (.int (Int32.ofNat (min 9 d)))] [(.int (9 : Int32)), (.ref r1), (.long q0), (.int (Int32.ofNat (min 9 d)))])) rfl rfl (hb hby d32_138)) ?_
  show Onw p e below _ (T0.setTop (mkF m 139 #[.val (.long q0), .second, .val (.ref r1), .val (.int (Int32.ofNat (min 9 d)))] [(.long (Int64.ofNat (10 ^ 9))), (.long q0), (.int (Int32.ofNat (min 9 d)))]))
  refine Onw.go (fun _ kt => XS.lcmp X0.here hx rfl (hb hby d32_139) rfl kt) ?_
  show Onw p e below _ (T0.setTop (mkF m 140 #[.val (.long q0), .second, .val (.ref r1), .val (.int (Int32.ofNat (min 9 d)))] [(.int (lcmpW q0 (Int64.ofNat (10 ^ 9)))), (.int (Int32.ofNat (min 9 d)))]))
  by_cases h1 : (lcmpW q0 (Int64.ofNat (10 ^ 9))) < (0 : Int32)
  · refine Onw.go (fun _ kt => XS.ifYes X0.here hx rfl (pc0 := 140) (pc' := 147) rfl (hb hby d32_140) rfl ((if0 _ _).trans (tlt (h1 : (lcmpW q0 (Int64.ofNat (10 ^ 9))) < (0 : Int32))).1) (by decide) (by decide) kt) ?_
    show Onw p e below _ (T0.setTop (mkF m 147 #[.val (.long q0), .second, .val (.ref r1), .val (.int (Int32.ofNat (min 9 d)))] [(.int (Int32.ofNat (min 9 d)))]))
    rw [own_lc1, hq, pk] at h1
    have dk : d ≤ 9 := own_Dlt D (by omega)
    refine Onw.go (fun _ kt => XS.iconst X0.here hx rfl (hb hby d32_147) kt) ?_
    show Onw p e below _ (T0.setTop (mkF m 148 #[.val (.long q0), .second, .val (.ref r1), .val (.int (Int32.ofNat (min 9 d)))] [(.int (0 : Int32)), (.int (Int32.ofNat (min 9 d)))]))
    refine Onw.go (fun _ kt => XS.iadd X0.here hx rfl (hb hby d32_148) rfl kt) ?_
    show Onw p e below _ (T0.setTop (mkF m 149 #[.val (.long q0), .second, .val (.ref r1), .val (.int (Int32.ofNat (min 9 d)))] [(.int ((Int32.ofNat (min 9 d)) + (0 : Int32)))]))
    refine Onw.go (fun _ kt => XS.istoreN X0.here hx rfl (hb hby d32_149) rfl (l' := #[.val (.long q0), .second, .val (.ref r1), .val (.int ((Int32.ofNat (min 9 d)) + (0 : Int32)))]) rfl kt) ?_
    show Onw p e below _ (T0.setTop (mkF m 150 #[.val (.long q0), .second, .val (.ref r1), .val (.int ((Int32.ofNat (min 9 d)) + (0 : Int32)))] []))
    rw [show Int32.ofNat (min 9 d) + (0 : Int32) = Int32.ofNat (min 10 d) from by rw [Int32.add_zero, show min 9 d = min 10 d by omega]]
    exact hK
  · refine Onw.go (fun _ kt => XS.ifNo X0.here hx rfl (hb hby d32_140) rfl ((if0 _ _).trans (flt (h1 : ¬ ((lcmpW q0 (Int64.ofNat (10 ^ 9))) < (0 : Int32)))).1) kt) ?_
    show Onw p e below _ (T0.setTop (mkF m 143 #[.val (.long q0), .second, .val (.ref r1), .val (.int (Int32.ofNat (min 9 d)))] [(.int (Int32.ofNat (min 9 d)))]))
    rw [own_lc1, hq, pk] at h1
    have dk : 9 < d := own_Dge D (by omega)
    refine Onw.go (fun _ kt => XS.iconst X0.here hx rfl (hb hby d32_143) kt) ?_
    show Onw p e below _ (T0.setTop (mkF m 144 #[.val (.long q0), .second, .val (.ref r1), .val (.int (Int32.ofNat (min 9 d)))] [(.int (1 : Int32)), (.int (Int32.ofNat (min 9 d)))]))
    refine Onw.go (fun _ kt => XS.goto X0.here hx rfl (pc0 := 144) (pc' := 148) rfl (hb hby d32_144) (by decide) (by decide) kt) ?_
    show Onw p e below _ (T0.setTop (mkF m 148 #[.val (.long q0), .second, .val (.ref r1), .val (.int (Int32.ofNat (min 9 d)))] [(.int (1 : Int32)), (.int (Int32.ofNat (min 9 d)))]))
    refine Onw.go (fun _ kt => XS.iadd X0.here hx rfl (hb hby d32_148) rfl kt) ?_
    show Onw p e below _ (T0.setTop (mkF m 149 #[.val (.long q0), .second, .val (.ref r1), .val (.int (Int32.ofNat (min 9 d)))] [(.int ((Int32.ofNat (min 9 d)) + (1 : Int32)))]))
    refine Onw.go (fun _ kt => XS.istoreN X0.here hx rfl (hb hby d32_149) rfl (l' := #[.val (.long q0), .second, .val (.ref r1), .val (.int ((Int32.ofNat (min 9 d)) + (1 : Int32)))]) rfl kt) ?_
    show Onw p e below _ (T0.setTop (mkF m 150 #[.val (.long q0), .second, .val (.ref r1), .val (.int ((Int32.ofNat (min 9 d)) + (1 : Int32)))] []))
    rw [show Int32.ofNat (min 9 d) + (1 : Int32) = Int32.ofNat (min 10 d) from by rw [show min 10 d = min 9 d + 1 by omega, Int32.ofNat_add]; rfl]
    exact hK
theorem d32_150 : decode method_3_code 150 = .ok (.iload_n 3, 1) := by decide +kernel
theorem d32_151 : decode method_3_code 151 = .ok (.lload_n 0, 1) := by decide +kernel
theorem d32_152 : decode method_3_code 152 = .ok (.aload_n 2, 1) := by decide +kernel
theorem d32_153 : decode method_3_code 153 = .ok (.bipush 10, 2) := by decide +kernel
theorem d32_155 : decode method_3_code 155 = .ok (.laload, 1) := by decide +kernel
theorem d32_156 : decode method_3_code 156 = .ok (.lcmp, 1) := by decide +kernel
theorem d32_157 : decode method_3_code 157 = .ok (.ifCond .lt 7, 3) := by decide +kernel
theorem d32_160 : decode method_3_code 160 = .ok (.iconst 1, 1) := by decide +kernel
theorem d32_161 : decode method_3_code 161 = .ok (.goto 4, 3) := by decide +kernel
theorem d32_164 : decode method_3_code 164 = .ok (.iconst 0, 1) := by decide +kernel
theorem d32_165 : decode method_3_code 165 = .ok (.iadd, 1) := by decide +kernel
theorem d32_166 : decode method_3_code 166 = .ok (.istore_n 3, 1) := by decide +kernel
set_option maxRecDepth 65536 in
set_option maxHeartbeats 40000000 in
theorem dg_10 {p : Program} {l : Launch} {e : Env} {R : Room} {s : State} {m : MethodId} {args : Array Value} {below : List Frame} {meth : Method} {c : Code} {Z : State} {a0 : Array Value} {W : Outcome → State → Prop} (hx : p.tables.exec = Jvm.exec) (hZ : Z.Warmed39 s.vm) (hw : ∀ d ∈ tables_1, d.before a0 Z = true) (hby : c.code = method_3_code) (hml : c.maxLocals = 4) (hown : s.vm.findClass "com/example/vigil_cache/vigilcache/HotKeyRuleWindowAsWrittenPinLaw" = some m.cls) {h0 : Heap} {n0 : Nat}  (q0 : Int64) (r1 : Addr) (d w : Nat)
    {T0 : State} {locs0 : List Loc} {cells slots : Nat} (X0 : Stand p l e R s m args below meth c T0 locs0 cells slots) (e0 : T0.heap = h0) (N0 : Fr n0 locs0) (TB : own_TB Z h0 r1) (hq : q0.toInt = (w : Int)) (D : own_D w d) (hK : Onw p e below W (T0.setTop (mkF m 167 #[.val (.long q0), .second, .val (.ref r1), .val (.int (Int32.ofNat (min 11 d)))] []))) :
    Onw p e below W (T0.setTop (mkF m 150 #[.val (.long q0), .second, .val (.ref r1), .val (.int (Int32.ofNat (min 10 d)))] [])) := by
  obtain ⟨c1, A1, b1, b2⟩ := TB.at (r := 10) (by decide)
  have pk := own_p10 (r := 10) (by decide)
  refine Onw.go (fun _ kt => XS.iloadN X0.here hx rfl (hb hby d32_150) rfl kt) ?_
  show Onw p e below _ (T0.setTop (mkF m 151 #[.val (.long q0), .second, .val (.ref r1), .val (.int (Int32.ofNat (min 10 d)))] [(.int (Int32.ofNat (min 10 d)))]))
  refine Onw.go (fun _ kt => XS.lloadN X0.here hx rfl (hb hby d32_151) rfl kt) ?_
  show Onw p e below _ (T0.setTop (mkF m 152 #[.val (.long q0), .second, .val (.ref r1), .val (.int (Int32.ofNat (min 10 d)))] [(.long q0), (.int (Int32.ofNat (min 10 d)))]))
  refine Onw.go (fun _ kt => XS.aloadN X0.here hx rfl (hb hby d32_152) rfl rfl kt) ?_
  show Onw p e below _ (T0.setTop (mkF m 153 #[.val (.long q0), .second, .val (.ref r1), .val (.int (Int32.ofNat (min 10 d)))] [(.ref r1), (.long q0), (.int (Int32.ofNat (min 10 d)))]))
  refine Onw.go (fun _ kt => XS.bipush X0.here hx rfl (hb hby d32_153) kt) ?_
  show Onw p e below _ (T0.setTop (mkF m 155 #[.val (.long q0), .second, .val (.ref r1), .val (.int (Int32.ofNat (min 10 d)))] [(.int (10 : Int32)), (.ref r1), (.long q0), (.int (Int32.ofNat (min 10 d)))]))
  refine Onw.go (X0.laload hx (j := (10 : Int32)) (v := (.long (Int64.ofNat (10 ^ 10)))) (by rw [e0]; exact A1.1) (State.isArrayOf_alike hZ.alike A1.2.1) A1.2.2 b1 b2 (g := (mkF m 155 #[.val (.long q0), .second, .val (.ref r1), .val (.int (Int32.ofNat (min 10 d)))] [(.int (10 : Int32)), (.ref r1), (.long q0), (.int (Int32.ofNat (min 10 d)))])) rfl rfl (hb hby d32_155)) ?_
  show Onw p e below _ (T0.setTop (mkF m 156 #[.val (.long q0), .second, .val (.ref r1), .val (.int (Int32.ofNat (min 10 d)))] [(.long (Int64.ofNat (10 ^ 10))), (.long q0), (.int (Int32.ofNat (min 10 d)))]))
  refine Onw.go (fun _ kt => XS.lcmp X0.here hx rfl (hb hby d32_156) rfl kt) ?_
  show Onw p e below _ (T0.setTop (mkF m 157 #[.val (.long q0), .second, .val (.ref r1), .val (.int (Int32.ofNat (min 10 d)))] [(.int (lcmpW q0 (Int64.ofNat (10 ^ 10)))), (.int (Int32.ofNat (min 10 d)))]))
  by_cases h1 : (lcmpW q0 (Int64.ofNat (10 ^ 10))) < (0 : Int32)
  · refine Onw.go (fun _ kt => XS.ifYes X0.here hx rfl (pc0 := 157) (pc' := 164) rfl (hb hby d32_157) rfl ((if0 _ _).trans (tlt (h1 : (lcmpW q0 (Int64.ofNat (10 ^ 10))) < (0 : Int32))).1) (by decide) (by decide) kt) ?_
    show Onw p e below _ (T0.setTop (mkF m 164 #[.val (.long q0), .second, .val (.ref r1), .val (.int (Int32.ofNat (min 10 d)))] [(.int (Int32.ofNat (min 10 d)))]))
    rw [own_lc1, hq, pk] at h1
    have dk : d ≤ 10 := own_Dlt D (by omega)
    refine Onw.go (fun _ kt => XS.iconst X0.here hx rfl (hb hby d32_164) kt) ?_
    show Onw p e below _ (T0.setTop (mkF m 165 #[.val (.long q0), .second, .val (.ref r1), .val (.int (Int32.ofNat (min 10 d)))] [(.int (0 : Int32)), (.int (Int32.ofNat (min 10 d)))]))
    refine Onw.go (fun _ kt => XS.iadd X0.here hx rfl (hb hby d32_165) rfl kt) ?_
    show Onw p e below _ (T0.setTop (mkF m 166 #[.val (.long q0), .second, .val (.ref r1), .val (.int (Int32.ofNat (min 10 d)))] [(.int ((Int32.ofNat (min 10 d)) + (0 : Int32)))]))
    refine Onw.go (fun _ kt => XS.istoreN X0.here hx rfl (hb hby d32_166) rfl (l' := #[.val (.long q0), .second, .val (.ref r1), .val (.int ((Int32.ofNat (min 10 d)) + (0 : Int32)))]) rfl kt) ?_
    show Onw p e below _ (T0.setTop (mkF m 167 #[.val (.long q0), .second, .val (.ref r1), .val (.int ((Int32.ofNat (min 10 d)) + (0 : Int32)))] []))
    rw [show Int32.ofNat (min 10 d) + (0 : Int32) = Int32.ofNat (min 11 d) from by rw [Int32.add_zero, show min 10 d = min 11 d by omega]]
    exact hK
  · refine Onw.go (fun _ kt => XS.ifNo X0.here hx rfl (hb hby d32_157) rfl ((if0 _ _).trans (flt (h1 : ¬ ((lcmpW q0 (Int64.ofNat (10 ^ 10))) < (0 : Int32)))).1) kt) ?_
    show Onw p e below _ (T0.setTop (mkF m 160 #[.val (.long q0), .second, .val (.ref r1), .val (.int (Int32.ofNat (min 10 d)))] [(.int (Int32.ofNat (min 10 d)))]))
    rw [own_lc1, hq, pk] at h1
    have dk : 10 < d := own_Dge D (by omega)
    refine Onw.go (fun _ kt => XS.iconst X0.here hx rfl (hb hby d32_160) kt) ?_
    show Onw p e below _ (T0.setTop (mkF m 161 #[.val (.long q0), .second, .val (.ref r1), .val (.int (Int32.ofNat (min 10 d)))] [(.int (1 : Int32)), (.int (Int32.ofNat (min 10 d)))]))
    refine Onw.go (fun _ kt => XS.goto X0.here hx rfl (pc0 := 161) (pc' := 165) rfl (hb hby d32_161) (by decide) (by decide) kt) ?_
    show Onw p e below _ (T0.setTop (mkF m 165 #[.val (.long q0), .second, .val (.ref r1), .val (.int (Int32.ofNat (min 10 d)))] [(.int (1 : Int32)), (.int (Int32.ofNat (min 10 d)))]))
    refine Onw.go (fun _ kt => XS.iadd X0.here hx rfl (hb hby d32_165) rfl kt) ?_
    show Onw p e below _ (T0.setTop (mkF m 166 #[.val (.long q0), .second, .val (.ref r1), .val (.int (Int32.ofNat (min 10 d)))] [(.int ((Int32.ofNat (min 10 d)) + (1 : Int32)))]))
    refine Onw.go (fun _ kt => XS.istoreN X0.here hx rfl (hb hby d32_166) rfl (l' := #[.val (.long q0), .second, .val (.ref r1), .val (.int ((Int32.ofNat (min 10 d)) + (1 : Int32)))]) rfl kt) ?_
    show Onw p e below _ (T0.setTop (mkF m 167 #[.val (.long q0), .second, .val (.ref r1), .val (.int ((Int32.ofNat (min 10 d)) + (1 : Int32)))] []))
    rw [show Int32.ofNat (min 10 d) + (1 : Int32) = Int32.ofNat (min 11 d) from by rw [show min 11 d = min 10 d + 1 by omega, Int32.ofNat_add]; rfl]
    exact hK
theorem d32_167 : decode method_3_code 167 = .ok (.iload_n 3, 1) := by decide +kernel
theorem d32_168 : decode method_3_code 168 = .ok (.lload_n 0, 1) := by decide +kernel
theorem d32_169 : decode method_3_code 169 = .ok (.aload_n 2, 1) := by decide +kernel
theorem d32_170 : decode method_3_code 170 = .ok (.bipush 11, 2) := by decide +kernel
theorem d32_172 : decode method_3_code 172 = .ok (.laload, 1) := by decide +kernel
theorem d32_173 : decode method_3_code 173 = .ok (.lcmp, 1) := by decide +kernel
theorem d32_174 : decode method_3_code 174 = .ok (.ifCond .lt 7, 3) := by decide +kernel
theorem d32_177 : decode method_3_code 177 = .ok (.iconst 1, 1) := by decide +kernel
theorem d32_178 : decode method_3_code 178 = .ok (.goto 4, 3) := by decide +kernel
theorem d32_181 : decode method_3_code 181 = .ok (.iconst 0, 1) := by decide +kernel
theorem d32_182 : decode method_3_code 182 = .ok (.iadd, 1) := by decide +kernel
theorem d32_183 : decode method_3_code 183 = .ok (.istore_n 3, 1) := by decide +kernel
set_option maxRecDepth 65536 in
set_option maxHeartbeats 40000000 in
theorem dg_11 {p : Program} {l : Launch} {e : Env} {R : Room} {s : State} {m : MethodId} {args : Array Value} {below : List Frame} {meth : Method} {c : Code} {Z : State} {a0 : Array Value} {W : Outcome → State → Prop} (hx : p.tables.exec = Jvm.exec) (hZ : Z.Warmed39 s.vm) (hw : ∀ d ∈ tables_1, d.before a0 Z = true) (hby : c.code = method_3_code) (hml : c.maxLocals = 4) (hown : s.vm.findClass "com/example/vigil_cache/vigilcache/HotKeyRuleWindowAsWrittenPinLaw" = some m.cls) {h0 : Heap} {n0 : Nat}  (q0 : Int64) (r1 : Addr) (d w : Nat)
    {T0 : State} {locs0 : List Loc} {cells slots : Nat} (X0 : Stand p l e R s m args below meth c T0 locs0 cells slots) (e0 : T0.heap = h0) (N0 : Fr n0 locs0) (TB : own_TB Z h0 r1) (hq : q0.toInt = (w : Int)) (D : own_D w d) (hK : Onw p e below W (T0.setTop (mkF m 184 #[.val (.long q0), .second, .val (.ref r1), .val (.int (Int32.ofNat (min 12 d)))] []))) :
    Onw p e below W (T0.setTop (mkF m 167 #[.val (.long q0), .second, .val (.ref r1), .val (.int (Int32.ofNat (min 11 d)))] [])) := by
  obtain ⟨c1, A1, b1, b2⟩ := TB.at (r := 11) (by decide)
  have pk := own_p10 (r := 11) (by decide)
  refine Onw.go (fun _ kt => XS.iloadN X0.here hx rfl (hb hby d32_167) rfl kt) ?_
  show Onw p e below _ (T0.setTop (mkF m 168 #[.val (.long q0), .second, .val (.ref r1), .val (.int (Int32.ofNat (min 11 d)))] [(.int (Int32.ofNat (min 11 d)))]))
  refine Onw.go (fun _ kt => XS.lloadN X0.here hx rfl (hb hby d32_168) rfl kt) ?_
  show Onw p e below _ (T0.setTop (mkF m 169 #[.val (.long q0), .second, .val (.ref r1), .val (.int (Int32.ofNat (min 11 d)))] [(.long q0), (.int (Int32.ofNat (min 11 d)))]))
  refine Onw.go (fun _ kt => XS.aloadN X0.here hx rfl (hb hby d32_169) rfl rfl kt) ?_
  show Onw p e below _ (T0.setTop (mkF m 170 #[.val (.long q0), .second, .val (.ref r1), .val (.int (Int32.ofNat (min 11 d)))] [(.ref r1), (.long q0), (.int (Int32.ofNat (min 11 d)))]))
  refine Onw.go (fun _ kt => XS.bipush X0.here hx rfl (hb hby d32_170) kt) ?_
  show Onw p e below _ (T0.setTop (mkF m 172 #[.val (.long q0), .second, .val (.ref r1), .val (.int (Int32.ofNat (min 11 d)))] [(.int (11 : Int32)), (.ref r1), (.long q0), (.int (Int32.ofNat (min 11 d)))]))
  refine Onw.go (X0.laload hx (j := (11 : Int32)) (v := (.long (Int64.ofNat (10 ^ 11)))) (by rw [e0]; exact A1.1) (State.isArrayOf_alike hZ.alike A1.2.1) A1.2.2 b1 b2 (g := (mkF m 172 #[.val (.long q0), .second, .val (.ref r1), .val (.int (Int32.ofNat (min 11 d)))] [(.int (11 : Int32)), (.ref r1), (.long q0), (.int (Int32.ofNat (min 11 d)))])) rfl rfl (hb hby d32_172)) ?_
  show Onw p e below _ (T0.setTop (mkF m 173 #[.val (.long q0), .second, .val (.ref r1), .val (.int (Int32.ofNat (min 11 d)))] [(.long (Int64.ofNat (10 ^ 11))), (.long q0), (.int (Int32.ofNat (min 11 d)))]))
  refine Onw.go (fun _ kt => XS.lcmp X0.here hx rfl (hb hby d32_173) rfl kt) ?_
  show Onw p e below _ (T0.setTop (mkF m 174 #[.val (.long q0), .second, .val (.ref r1), .val (.int (Int32.ofNat (min 11 d)))] [(.int (lcmpW q0 (Int64.ofNat (10 ^ 11)))), (.int (Int32.ofNat (min 11 d)))]))
  by_cases h1 : (lcmpW q0 (Int64.ofNat (10 ^ 11))) < (0 : Int32)
  · refine Onw.go (fun _ kt => XS.ifYes X0.here hx rfl (pc0 := 174) (pc' := 181) rfl (hb hby d32_174) rfl ((if0 _ _).trans (tlt (h1 : (lcmpW q0 (Int64.ofNat (10 ^ 11))) < (0 : Int32))).1) (by decide) (by decide) kt) ?_
    show Onw p e below _ (T0.setTop (mkF m 181 #[.val (.long q0), .second, .val (.ref r1), .val (.int (Int32.ofNat (min 11 d)))] [(.int (Int32.ofNat (min 11 d)))]))
    rw [own_lc1, hq, pk] at h1
    have dk : d ≤ 11 := own_Dlt D (by omega)
    refine Onw.go (fun _ kt => XS.iconst X0.here hx rfl (hb hby d32_181) kt) ?_
    show Onw p e below _ (T0.setTop (mkF m 182 #[.val (.long q0), .second, .val (.ref r1), .val (.int (Int32.ofNat (min 11 d)))] [(.int (0 : Int32)), (.int (Int32.ofNat (min 11 d)))]))
    refine Onw.go (fun _ kt => XS.iadd X0.here hx rfl (hb hby d32_182) rfl kt) ?_
    show Onw p e below _ (T0.setTop (mkF m 183 #[.val (.long q0), .second, .val (.ref r1), .val (.int (Int32.ofNat (min 11 d)))] [(.int ((Int32.ofNat (min 11 d)) + (0 : Int32)))]))
    refine Onw.go (fun _ kt => XS.istoreN X0.here hx rfl (hb hby d32_183) rfl (l' := #[.val (.long q0), .second, .val (.ref r1), .val (.int ((Int32.ofNat (min 11 d)) + (0 : Int32)))]) rfl kt) ?_
    show Onw p e below _ (T0.setTop (mkF m 184 #[.val (.long q0), .second, .val (.ref r1), .val (.int ((Int32.ofNat (min 11 d)) + (0 : Int32)))] []))
    rw [show Int32.ofNat (min 11 d) + (0 : Int32) = Int32.ofNat (min 12 d) from by rw [Int32.add_zero, show min 11 d = min 12 d by omega]]
    exact hK
  · refine Onw.go (fun _ kt => XS.ifNo X0.here hx rfl (hb hby d32_174) rfl ((if0 _ _).trans (flt (h1 : ¬ ((lcmpW q0 (Int64.ofNat (10 ^ 11))) < (0 : Int32)))).1) kt) ?_
    show Onw p e below _ (T0.setTop (mkF m 177 #[.val (.long q0), .second, .val (.ref r1), .val (.int (Int32.ofNat (min 11 d)))] [(.int (Int32.ofNat (min 11 d)))]))
    rw [own_lc1, hq, pk] at h1
    have dk : 11 < d := own_Dge D (by omega)
    refine Onw.go (fun _ kt => XS.iconst X0.here hx rfl (hb hby d32_177) kt) ?_
    show Onw p e below _ (T0.setTop (mkF m 178 #[.val (.long q0), .second, .val (.ref r1), .val (.int (Int32.ofNat (min 11 d)))] [(.int (1 : Int32)), (.int (Int32.ofNat (min 11 d)))]))
    refine Onw.go (fun _ kt => XS.goto X0.here hx rfl (pc0 := 178) (pc' := 182) rfl (hb hby d32_178) (by decide) (by decide) kt) ?_
    show Onw p e below _ (T0.setTop (mkF m 182 #[.val (.long q0), .second, .val (.ref r1), .val (.int (Int32.ofNat (min 11 d)))] [(.int (1 : Int32)), (.int (Int32.ofNat (min 11 d)))]))
    refine Onw.go (fun _ kt => XS.iadd X0.here hx rfl (hb hby d32_182) rfl kt) ?_
    show Onw p e below _ (T0.setTop (mkF m 183 #[.val (.long q0), .second, .val (.ref r1), .val (.int (Int32.ofNat (min 11 d)))] [(.int ((Int32.ofNat (min 11 d)) + (1 : Int32)))]))
    refine Onw.go (fun _ kt => XS.istoreN X0.here hx rfl (hb hby d32_183) rfl (l' := #[.val (.long q0), .second, .val (.ref r1), .val (.int ((Int32.ofNat (min 11 d)) + (1 : Int32)))]) rfl kt) ?_
    show Onw p e below _ (T0.setTop (mkF m 184 #[.val (.long q0), .second, .val (.ref r1), .val (.int ((Int32.ofNat (min 11 d)) + (1 : Int32)))] []))
    rw [show Int32.ofNat (min 11 d) + (1 : Int32) = Int32.ofNat (min 12 d) from by rw [show min 12 d = min 11 d + 1 by omega, Int32.ofNat_add]; rfl]
    exact hK
theorem d32_184 : decode method_3_code 184 = .ok (.iload_n 3, 1) := by decide +kernel
theorem d32_185 : decode method_3_code 185 = .ok (.lload_n 0, 1) := by decide +kernel
theorem d32_186 : decode method_3_code 186 = .ok (.aload_n 2, 1) := by decide +kernel
theorem d32_187 : decode method_3_code 187 = .ok (.bipush 12, 2) := by decide +kernel
theorem d32_189 : decode method_3_code 189 = .ok (.laload, 1) := by decide +kernel
theorem d32_190 : decode method_3_code 190 = .ok (.lcmp, 1) := by decide +kernel
theorem d32_191 : decode method_3_code 191 = .ok (.ifCond .lt 7, 3) := by decide +kernel
theorem d32_194 : decode method_3_code 194 = .ok (.iconst 1, 1) := by decide +kernel
theorem d32_195 : decode method_3_code 195 = .ok (.goto 4, 3) := by decide +kernel
theorem d32_198 : decode method_3_code 198 = .ok (.iconst 0, 1) := by decide +kernel
theorem d32_199 : decode method_3_code 199 = .ok (.iadd, 1) := by decide +kernel
theorem d32_200 : decode method_3_code 200 = .ok (.istore_n 3, 1) := by decide +kernel
set_option maxRecDepth 65536 in
set_option maxHeartbeats 40000000 in
theorem dg_12 {p : Program} {l : Launch} {e : Env} {R : Room} {s : State} {m : MethodId} {args : Array Value} {below : List Frame} {meth : Method} {c : Code} {Z : State} {a0 : Array Value} {W : Outcome → State → Prop} (hx : p.tables.exec = Jvm.exec) (hZ : Z.Warmed39 s.vm) (hw : ∀ d ∈ tables_1, d.before a0 Z = true) (hby : c.code = method_3_code) (hml : c.maxLocals = 4) (hown : s.vm.findClass "com/example/vigil_cache/vigilcache/HotKeyRuleWindowAsWrittenPinLaw" = some m.cls) {h0 : Heap} {n0 : Nat}  (q0 : Int64) (r1 : Addr) (d w : Nat)
    {T0 : State} {locs0 : List Loc} {cells slots : Nat} (X0 : Stand p l e R s m args below meth c T0 locs0 cells slots) (e0 : T0.heap = h0) (N0 : Fr n0 locs0) (TB : own_TB Z h0 r1) (hq : q0.toInt = (w : Int)) (D : own_D w d) (hK : Onw p e below W (T0.setTop (mkF m 201 #[.val (.long q0), .second, .val (.ref r1), .val (.int (Int32.ofNat (min 13 d)))] []))) :
    Onw p e below W (T0.setTop (mkF m 184 #[.val (.long q0), .second, .val (.ref r1), .val (.int (Int32.ofNat (min 12 d)))] [])) := by
  obtain ⟨c1, A1, b1, b2⟩ := TB.at (r := 12) (by decide)
  have pk := own_p10 (r := 12) (by decide)
  refine Onw.go (fun _ kt => XS.iloadN X0.here hx rfl (hb hby d32_184) rfl kt) ?_
  show Onw p e below _ (T0.setTop (mkF m 185 #[.val (.long q0), .second, .val (.ref r1), .val (.int (Int32.ofNat (min 12 d)))] [(.int (Int32.ofNat (min 12 d)))]))
  refine Onw.go (fun _ kt => XS.lloadN X0.here hx rfl (hb hby d32_185) rfl kt) ?_
  show Onw p e below _ (T0.setTop (mkF m 186 #[.val (.long q0), .second, .val (.ref r1), .val (.int (Int32.ofNat (min 12 d)))] [(.long q0), (.int (Int32.ofNat (min 12 d)))]))
  refine Onw.go (fun _ kt => XS.aloadN X0.here hx rfl (hb hby d32_186) rfl rfl kt) ?_
  show Onw p e below _ (T0.setTop (mkF m 187 #[.val (.long q0), .second, .val (.ref r1), .val (.int (Int32.ofNat (min 12 d)))] [(.ref r1), (.long q0), (.int (Int32.ofNat (min 12 d)))]))
  refine Onw.go (fun _ kt => XS.bipush X0.here hx rfl (hb hby d32_187) kt) ?_
  show Onw p e below _ (T0.setTop (mkF m 189 #[.val (.long q0), .second, .val (.ref r1), .val (.int (Int32.ofNat (min 12 d)))] [(.int (12 : Int32)), (.ref r1), (.long q0), (.int (Int32.ofNat (min 12 d)))]))
  refine Onw.go (X0.laload hx (j := (12 : Int32)) (v := (.long (Int64.ofNat (10 ^ 12)))) (by rw [e0]; exact A1.1) (State.isArrayOf_alike hZ.alike A1.2.1) A1.2.2 b1 b2 (g := (mkF m 189 #[.val (.long q0), .second, .val (.ref r1), .val (.int (Int32.ofNat (min 12 d)))] [(.int (12 : Int32)), (.ref r1), (.long q0), (.int (Int32.ofNat (min 12 d)))])) rfl rfl (hb hby d32_189)) ?_
  show Onw p e below _ (T0.setTop (mkF m 190 #[.val (.long q0), .second, .val (.ref r1), .val (.int (Int32.ofNat (min 12 d)))] [(.long (Int64.ofNat (10 ^ 12))), (.long q0), (.int (Int32.ofNat (min 12 d)))]))
  refine Onw.go (fun _ kt => XS.lcmp X0.here hx rfl (hb hby d32_190) rfl kt) ?_
  show Onw p e below _ (T0.setTop (mkF m 191 #[.val (.long q0), .second, .val (.ref r1), .val (.int (Int32.ofNat (min 12 d)))] [(.int (lcmpW q0 (Int64.ofNat (10 ^ 12)))), (.int (Int32.ofNat (min 12 d)))]))
  by_cases h1 : (lcmpW q0 (Int64.ofNat (10 ^ 12))) < (0 : Int32)
  · refine Onw.go (fun _ kt => XS.ifYes X0.here hx rfl (pc0 := 191) (pc' := 198) rfl (hb hby d32_191) rfl ((if0 _ _).trans (tlt (h1 : (lcmpW q0 (Int64.ofNat (10 ^ 12))) < (0 : Int32))).1) (by decide) (by decide) kt) ?_
    show Onw p e below _ (T0.setTop (mkF m 198 #[.val (.long q0), .second, .val (.ref r1), .val (.int (Int32.ofNat (min 12 d)))] [(.int (Int32.ofNat (min 12 d)))]))
    rw [own_lc1, hq, pk] at h1
    have dk : d ≤ 12 := own_Dlt D (by omega)
    refine Onw.go (fun _ kt => XS.iconst X0.here hx rfl (hb hby d32_198) kt) ?_
    show Onw p e below _ (T0.setTop (mkF m 199 #[.val (.long q0), .second, .val (.ref r1), .val (.int (Int32.ofNat (min 12 d)))] [(.int (0 : Int32)), (.int (Int32.ofNat (min 12 d)))]))
    refine Onw.go (fun _ kt => XS.iadd X0.here hx rfl (hb hby d32_199) rfl kt) ?_
    show Onw p e below _ (T0.setTop (mkF m 200 #[.val (.long q0), .second, .val (.ref r1), .val (.int (Int32.ofNat (min 12 d)))] [(.int ((Int32.ofNat (min 12 d)) + (0 : Int32)))]))
    refine Onw.go (fun _ kt => XS.istoreN X0.here hx rfl (hb hby d32_200) rfl (l' := #[.val (.long q0), .second, .val (.ref r1), .val (.int ((Int32.ofNat (min 12 d)) + (0 : Int32)))]) rfl kt) ?_
    show Onw p e below _ (T0.setTop (mkF m 201 #[.val (.long q0), .second, .val (.ref r1), .val (.int ((Int32.ofNat (min 12 d)) + (0 : Int32)))] []))
    rw [show Int32.ofNat (min 12 d) + (0 : Int32) = Int32.ofNat (min 13 d) from by rw [Int32.add_zero, show min 12 d = min 13 d by omega]]
    exact hK
  · refine Onw.go (fun _ kt => XS.ifNo X0.here hx rfl (hb hby d32_191) rfl ((if0 _ _).trans (flt (h1 : ¬ ((lcmpW q0 (Int64.ofNat (10 ^ 12))) < (0 : Int32)))).1) kt) ?_
    show Onw p e below _ (T0.setTop (mkF m 194 #[.val (.long q0), .second, .val (.ref r1), .val (.int (Int32.ofNat (min 12 d)))] [(.int (Int32.ofNat (min 12 d)))]))
    rw [own_lc1, hq, pk] at h1
    have dk : 12 < d := own_Dge D (by omega)
    refine Onw.go (fun _ kt => XS.iconst X0.here hx rfl (hb hby d32_194) kt) ?_
    show Onw p e below _ (T0.setTop (mkF m 195 #[.val (.long q0), .second, .val (.ref r1), .val (.int (Int32.ofNat (min 12 d)))] [(.int (1 : Int32)), (.int (Int32.ofNat (min 12 d)))]))
    refine Onw.go (fun _ kt => XS.goto X0.here hx rfl (pc0 := 195) (pc' := 199) rfl (hb hby d32_195) (by decide) (by decide) kt) ?_
    show Onw p e below _ (T0.setTop (mkF m 199 #[.val (.long q0), .second, .val (.ref r1), .val (.int (Int32.ofNat (min 12 d)))] [(.int (1 : Int32)), (.int (Int32.ofNat (min 12 d)))]))
    refine Onw.go (fun _ kt => XS.iadd X0.here hx rfl (hb hby d32_199) rfl kt) ?_
    show Onw p e below _ (T0.setTop (mkF m 200 #[.val (.long q0), .second, .val (.ref r1), .val (.int (Int32.ofNat (min 12 d)))] [(.int ((Int32.ofNat (min 12 d)) + (1 : Int32)))]))
    refine Onw.go (fun _ kt => XS.istoreN X0.here hx rfl (hb hby d32_200) rfl (l' := #[.val (.long q0), .second, .val (.ref r1), .val (.int ((Int32.ofNat (min 12 d)) + (1 : Int32)))]) rfl kt) ?_
    show Onw p e below _ (T0.setTop (mkF m 201 #[.val (.long q0), .second, .val (.ref r1), .val (.int ((Int32.ofNat (min 12 d)) + (1 : Int32)))] []))
    rw [show Int32.ofNat (min 12 d) + (1 : Int32) = Int32.ofNat (min 13 d) from by rw [show min 13 d = min 12 d + 1 by omega, Int32.ofNat_add]; rfl]
    exact hK
theorem d32_201 : decode method_3_code 201 = .ok (.iload_n 3, 1) := by decide +kernel
theorem d32_202 : decode method_3_code 202 = .ok (.lload_n 0, 1) := by decide +kernel
theorem d32_203 : decode method_3_code 203 = .ok (.aload_n 2, 1) := by decide +kernel
theorem d32_204 : decode method_3_code 204 = .ok (.bipush 13, 2) := by decide +kernel
theorem d32_206 : decode method_3_code 206 = .ok (.laload, 1) := by decide +kernel
theorem d32_207 : decode method_3_code 207 = .ok (.lcmp, 1) := by decide +kernel
theorem d32_208 : decode method_3_code 208 = .ok (.ifCond .lt 7, 3) := by decide +kernel
theorem d32_211 : decode method_3_code 211 = .ok (.iconst 1, 1) := by decide +kernel
theorem d32_212 : decode method_3_code 212 = .ok (.goto 4, 3) := by decide +kernel
theorem d32_215 : decode method_3_code 215 = .ok (.iconst 0, 1) := by decide +kernel
theorem d32_216 : decode method_3_code 216 = .ok (.iadd, 1) := by decide +kernel
theorem d32_217 : decode method_3_code 217 = .ok (.istore_n 3, 1) := by decide +kernel
set_option maxRecDepth 65536 in
set_option maxHeartbeats 40000000 in
theorem dg_13 {p : Program} {l : Launch} {e : Env} {R : Room} {s : State} {m : MethodId} {args : Array Value} {below : List Frame} {meth : Method} {c : Code} {Z : State} {a0 : Array Value} {W : Outcome → State → Prop} (hx : p.tables.exec = Jvm.exec) (hZ : Z.Warmed39 s.vm) (hw : ∀ d ∈ tables_1, d.before a0 Z = true) (hby : c.code = method_3_code) (hml : c.maxLocals = 4) (hown : s.vm.findClass "com/example/vigil_cache/vigilcache/HotKeyRuleWindowAsWrittenPinLaw" = some m.cls) {h0 : Heap} {n0 : Nat}  (q0 : Int64) (r1 : Addr) (d w : Nat)
    {T0 : State} {locs0 : List Loc} {cells slots : Nat} (X0 : Stand p l e R s m args below meth c T0 locs0 cells slots) (e0 : T0.heap = h0) (N0 : Fr n0 locs0) (TB : own_TB Z h0 r1) (hq : q0.toInt = (w : Int)) (D : own_D w d) (hK : Onw p e below W (T0.setTop (mkF m 218 #[.val (.long q0), .second, .val (.ref r1), .val (.int (Int32.ofNat (min 14 d)))] []))) :
    Onw p e below W (T0.setTop (mkF m 201 #[.val (.long q0), .second, .val (.ref r1), .val (.int (Int32.ofNat (min 13 d)))] [])) := by
  obtain ⟨c1, A1, b1, b2⟩ := TB.at (r := 13) (by decide)
  have pk := own_p10 (r := 13) (by decide)
  refine Onw.go (fun _ kt => XS.iloadN X0.here hx rfl (hb hby d32_201) rfl kt) ?_
  show Onw p e below _ (T0.setTop (mkF m 202 #[.val (.long q0), .second, .val (.ref r1), .val (.int (Int32.ofNat (min 13 d)))] [(.int (Int32.ofNat (min 13 d)))]))
  refine Onw.go (fun _ kt => XS.lloadN X0.here hx rfl (hb hby d32_202) rfl kt) ?_
  show Onw p e below _ (T0.setTop (mkF m 203 #[.val (.long q0), .second, .val (.ref r1), .val (.int (Int32.ofNat (min 13 d)))] [(.long q0), (.int (Int32.ofNat (min 13 d)))]))
  refine Onw.go (fun _ kt => XS.aloadN X0.here hx rfl (hb hby d32_203) rfl rfl kt) ?_
  show Onw p e below _ (T0.setTop (mkF m 204 #[.val (.long q0), .second, .val (.ref r1), .val (.int (Int32.ofNat (min 13 d)))] [(.ref r1), (.long q0), (.int (Int32.ofNat (min 13 d)))]))
  refine Onw.go (fun _ kt => XS.bipush X0.here hx rfl (hb hby d32_204) kt) ?_
  show Onw p e below _ (T0.setTop (mkF m 206 #[.val (.long q0), .second, .val (.ref r1), .val (.int (Int32.ofNat (min 13 d)))] [(.int (13 : Int32)), (.ref r1), (.long q0), (.int (Int32.ofNat (min 13 d)))]))
  refine Onw.go (X0.laload hx (j := (13 : Int32)) (v := (.long (Int64.ofNat (10 ^ 13)))) (by rw [e0]; exact A1.1) (State.isArrayOf_alike hZ.alike A1.2.1) A1.2.2 b1 b2 (g := (mkF m 206 #[.val (.long q0), .second, .val (.ref r1), .val (.int (Int32.ofNat (min 13 d)))] [(.int (13 : Int32)), (.ref r1), (.long q0), (.int (Int32.ofNat (min 13 d)))])) rfl rfl (hb hby d32_206)) ?_
  show Onw p e below _ (T0.setTop (mkF m 207 #[.val (.long q0), .second, .val (.ref r1), .val (.int (Int32.ofNat (min 13 d)))] [(.long (Int64.ofNat (10 ^ 13))), (.long q0), (.int (Int32.ofNat (min 13 d)))]))
  refine Onw.go (fun _ kt => XS.lcmp X0.here hx rfl (hb hby d32_207) rfl kt) ?_
  show Onw p e below _ (T0.setTop (mkF m 208 #[.val (.long q0), .second, .val (.ref r1), .val (.int (Int32.ofNat (min 13 d)))] [(.int (lcmpW q0 (Int64.ofNat (10 ^ 13)))), (.int (Int32.ofNat (min 13 d)))]))
  by_cases h1 : (lcmpW q0 (Int64.ofNat (10 ^ 13))) < (0 : Int32)
  · refine Onw.go (fun _ kt => XS.ifYes X0.here hx rfl (pc0 := 208) (pc' := 215) rfl (hb hby d32_208) rfl ((if0 _ _).trans (tlt (h1 : (lcmpW q0 (Int64.ofNat (10 ^ 13))) < (0 : Int32))).1) (by decide) (by decide) kt) ?_
    show Onw p e below _ (T0.setTop (mkF m 215 #[.val (.long q0), .second, .val (.ref r1), .val (.int (Int32.ofNat (min 13 d)))] [(.int (Int32.ofNat (min 13 d)))]))
    rw [own_lc1, hq, pk] at h1
    have dk : d ≤ 13 := own_Dlt D (by omega)
    refine Onw.go (fun _ kt => XS.iconst X0.here hx rfl (hb hby d32_215) kt) ?_
    show Onw p e below _ (T0.setTop (mkF m 216 #[.val (.long q0), .second, .val (.ref r1), .val (.int (Int32.ofNat (min 13 d)))] [(.int (0 : Int32)), (.int (Int32.ofNat (min 13 d)))]))
    refine Onw.go (fun _ kt => XS.iadd X0.here hx rfl (hb hby d32_216) rfl kt) ?_
    show Onw p e below _ (T0.setTop (mkF m 217 #[.val (.long q0), .second, .val (.ref r1), .val (.int (Int32.ofNat (min 13 d)))] [(.int ((Int32.ofNat (min 13 d)) + (0 : Int32)))]))
    refine Onw.go (fun _ kt => XS.istoreN X0.here hx rfl (hb hby d32_217) rfl (l' := #[.val (.long q0), .second, .val (.ref r1), .val (.int ((Int32.ofNat (min 13 d)) + (0 : Int32)))]) rfl kt) ?_
    show Onw p e below _ (T0.setTop (mkF m 218 #[.val (.long q0), .second, .val (.ref r1), .val (.int ((Int32.ofNat (min 13 d)) + (0 : Int32)))] []))
    rw [show Int32.ofNat (min 13 d) + (0 : Int32) = Int32.ofNat (min 14 d) from by rw [Int32.add_zero, show min 13 d = min 14 d by omega]]
    exact hK
  · refine Onw.go (fun _ kt => XS.ifNo X0.here hx rfl (hb hby d32_208) rfl ((if0 _ _).trans (flt (h1 : ¬ ((lcmpW q0 (Int64.ofNat (10 ^ 13))) < (0 : Int32)))).1) kt) ?_
    show Onw p e below _ (T0.setTop (mkF m 211 #[.val (.long q0), .second, .val (.ref r1), .val (.int (Int32.ofNat (min 13 d)))] [(.int (Int32.ofNat (min 13 d)))]))
    rw [own_lc1, hq, pk] at h1
    have dk : 13 < d := own_Dge D (by omega)
    refine Onw.go (fun _ kt => XS.iconst X0.here hx rfl (hb hby d32_211) kt) ?_
    show Onw p e below _ (T0.setTop (mkF m 212 #[.val (.long q0), .second, .val (.ref r1), .val (.int (Int32.ofNat (min 13 d)))] [(.int (1 : Int32)), (.int (Int32.ofNat (min 13 d)))]))
    refine Onw.go (fun _ kt => XS.goto X0.here hx rfl (pc0 := 212) (pc' := 216) rfl (hb hby d32_212) (by decide) (by decide) kt) ?_
    show Onw p e below _ (T0.setTop (mkF m 216 #[.val (.long q0), .second, .val (.ref r1), .val (.int (Int32.ofNat (min 13 d)))] [(.int (1 : Int32)), (.int (Int32.ofNat (min 13 d)))]))
    refine Onw.go (fun _ kt => XS.iadd X0.here hx rfl (hb hby d32_216) rfl kt) ?_
    show Onw p e below _ (T0.setTop (mkF m 217 #[.val (.long q0), .second, .val (.ref r1), .val (.int (Int32.ofNat (min 13 d)))] [(.int ((Int32.ofNat (min 13 d)) + (1 : Int32)))]))
    refine Onw.go (fun _ kt => XS.istoreN X0.here hx rfl (hb hby d32_217) rfl (l' := #[.val (.long q0), .second, .val (.ref r1), .val (.int ((Int32.ofNat (min 13 d)) + (1 : Int32)))]) rfl kt) ?_
    show Onw p e below _ (T0.setTop (mkF m 218 #[.val (.long q0), .second, .val (.ref r1), .val (.int ((Int32.ofNat (min 13 d)) + (1 : Int32)))] []))
    rw [show Int32.ofNat (min 13 d) + (1 : Int32) = Int32.ofNat (min 14 d) from by rw [show min 14 d = min 13 d + 1 by omega, Int32.ofNat_add]; rfl]
    exact hK
theorem d32_218 : decode method_3_code 218 = .ok (.iload_n 3, 1) := by decide +kernel
theorem d32_219 : decode method_3_code 219 = .ok (.lload_n 0, 1) := by decide +kernel
theorem d32_220 : decode method_3_code 220 = .ok (.aload_n 2, 1) := by decide +kernel
theorem d32_221 : decode method_3_code 221 = .ok (.bipush 14, 2) := by decide +kernel
theorem d32_223 : decode method_3_code 223 = .ok (.laload, 1) := by decide +kernel
theorem d32_224 : decode method_3_code 224 = .ok (.lcmp, 1) := by decide +kernel
theorem d32_225 : decode method_3_code 225 = .ok (.ifCond .lt 7, 3) := by decide +kernel
theorem d32_228 : decode method_3_code 228 = .ok (.iconst 1, 1) := by decide +kernel
theorem d32_229 : decode method_3_code 229 = .ok (.goto 4, 3) := by decide +kernel
theorem d32_232 : decode method_3_code 232 = .ok (.iconst 0, 1) := by decide +kernel
theorem d32_233 : decode method_3_code 233 = .ok (.iadd, 1) := by decide +kernel
theorem d32_234 : decode method_3_code 234 = .ok (.istore_n 3, 1) := by decide +kernel
set_option maxRecDepth 65536 in
set_option maxHeartbeats 40000000 in
theorem dg_14 {p : Program} {l : Launch} {e : Env} {R : Room} {s : State} {m : MethodId} {args : Array Value} {below : List Frame} {meth : Method} {c : Code} {Z : State} {a0 : Array Value} {W : Outcome → State → Prop} (hx : p.tables.exec = Jvm.exec) (hZ : Z.Warmed39 s.vm) (hw : ∀ d ∈ tables_1, d.before a0 Z = true) (hby : c.code = method_3_code) (hml : c.maxLocals = 4) (hown : s.vm.findClass "com/example/vigil_cache/vigilcache/HotKeyRuleWindowAsWrittenPinLaw" = some m.cls) {h0 : Heap} {n0 : Nat}  (q0 : Int64) (r1 : Addr) (d w : Nat)
    {T0 : State} {locs0 : List Loc} {cells slots : Nat} (X0 : Stand p l e R s m args below meth c T0 locs0 cells slots) (e0 : T0.heap = h0) (N0 : Fr n0 locs0) (TB : own_TB Z h0 r1) (hq : q0.toInt = (w : Int)) (D : own_D w d) (hK : Onw p e below W (T0.setTop (mkF m 235 #[.val (.long q0), .second, .val (.ref r1), .val (.int (Int32.ofNat (min 15 d)))] []))) :
    Onw p e below W (T0.setTop (mkF m 218 #[.val (.long q0), .second, .val (.ref r1), .val (.int (Int32.ofNat (min 14 d)))] [])) := by
  obtain ⟨c1, A1, b1, b2⟩ := TB.at (r := 14) (by decide)
  have pk := own_p10 (r := 14) (by decide)
  refine Onw.go (fun _ kt => XS.iloadN X0.here hx rfl (hb hby d32_218) rfl kt) ?_
  show Onw p e below _ (T0.setTop (mkF m 219 #[.val (.long q0), .second, .val (.ref r1), .val (.int (Int32.ofNat (min 14 d)))] [(.int (Int32.ofNat (min 14 d)))]))
  refine Onw.go (fun _ kt => XS.lloadN X0.here hx rfl (hb hby d32_219) rfl kt) ?_
  show Onw p e below _ (T0.setTop (mkF m 220 #[.val (.long q0), .second, .val (.ref r1), .val (.int (Int32.ofNat (min 14 d)))] [(.long q0), (.int (Int32.ofNat (min 14 d)))]))
  refine Onw.go (fun _ kt => XS.aloadN X0.here hx rfl (hb hby d32_220) rfl rfl kt) ?_
  show Onw p e below _ (T0.setTop (mkF m 221 #[.val (.long q0), .second, .val (.ref r1), .val (.int (Int32.ofNat (min 14 d)))] [(.ref r1), (.long q0), (.int (Int32.ofNat (min 14 d)))]))
  refine Onw.go (fun _ kt => XS.bipush X0.here hx rfl (hb hby d32_221) kt) ?_
  show Onw p e below _ (T0.setTop (mkF m 223 #[.val (.long q0), .second, .val (.ref r1), .val (.int (Int32.ofNat (min 14 d)))] [(.int (14 : Int32)), (.ref r1), (.long q0), (.int (Int32.ofNat (min 14 d)))]))
  refine Onw.go (X0.laload hx (j := (14 : Int32)) (v := (.long (Int64.ofNat (10 ^ 14)))) (by rw [e0]; exact A1.1) (State.isArrayOf_alike hZ.alike A1.2.1) A1.2.2 b1 b2 (g := (mkF m 223 #[.val (.long q0), .second, .val (.ref r1), .val (.int (Int32.ofNat (min 14 d)))] [(.int (14 : Int32)), (.ref r1), (.long q0), (.int (Int32.ofNat (min 14 d)))])) rfl rfl (hb hby d32_223)) ?_
  show Onw p e below _ (T0.setTop (mkF m 224 #[.val (.long q0), .second, .val (.ref r1), .val (.int (Int32.ofNat (min 14 d)))] [(.long (Int64.ofNat (10 ^ 14))), (.long q0), (.int (Int32.ofNat (min 14 d)))]))
  refine Onw.go (fun _ kt => XS.lcmp X0.here hx rfl (hb hby d32_224) rfl kt) ?_
  show Onw p e below _ (T0.setTop (mkF m 225 #[.val (.long q0), .second, .val (.ref r1), .val (.int (Int32.ofNat (min 14 d)))] [(.int (lcmpW q0 (Int64.ofNat (10 ^ 14)))), (.int (Int32.ofNat (min 14 d)))]))
  by_cases h1 : (lcmpW q0 (Int64.ofNat (10 ^ 14))) < (0 : Int32)
  · refine Onw.go (fun _ kt => XS.ifYes X0.here hx rfl (pc0 := 225) (pc' := 232) rfl (hb hby d32_225) rfl ((if0 _ _).trans (tlt (h1 : (lcmpW q0 (Int64.ofNat (10 ^ 14))) < (0 : Int32))).1) (by decide) (by decide) kt) ?_
    show Onw p e below _ (T0.setTop (mkF m 232 #[.val (.long q0), .second, .val (.ref r1), .val (.int (Int32.ofNat (min 14 d)))] [(.int (Int32.ofNat (min 14 d)))]))
    rw [own_lc1, hq, pk] at h1
    have dk : d ≤ 14 := own_Dlt D (by omega)
    refine Onw.go (fun _ kt => XS.iconst X0.here hx rfl (hb hby d32_232) kt) ?_
    show Onw p e below _ (T0.setTop (mkF m 233 #[.val (.long q0), .second, .val (.ref r1), .val (.int (Int32.ofNat (min 14 d)))] [(.int (0 : Int32)), (.int (Int32.ofNat (min 14 d)))]))
    refine Onw.go (fun _ kt => XS.iadd X0.here hx rfl (hb hby d32_233) rfl kt) ?_
    show Onw p e below _ (T0.setTop (mkF m 234 #[.val (.long q0), .second, .val (.ref r1), .val (.int (Int32.ofNat (min 14 d)))] [(.int ((Int32.ofNat (min 14 d)) + (0 : Int32)))]))
    refine Onw.go (fun _ kt => XS.istoreN X0.here hx rfl (hb hby d32_234) rfl (l' := #[.val (.long q0), .second, .val (.ref r1), .val (.int ((Int32.ofNat (min 14 d)) + (0 : Int32)))]) rfl kt) ?_
    show Onw p e below _ (T0.setTop (mkF m 235 #[.val (.long q0), .second, .val (.ref r1), .val (.int ((Int32.ofNat (min 14 d)) + (0 : Int32)))] []))
    rw [show Int32.ofNat (min 14 d) + (0 : Int32) = Int32.ofNat (min 15 d) from by rw [Int32.add_zero, show min 14 d = min 15 d by omega]]
    exact hK
  · refine Onw.go (fun _ kt => XS.ifNo X0.here hx rfl (hb hby d32_225) rfl ((if0 _ _).trans (flt (h1 : ¬ ((lcmpW q0 (Int64.ofNat (10 ^ 14))) < (0 : Int32)))).1) kt) ?_
    show Onw p e below _ (T0.setTop (mkF m 228 #[.val (.long q0), .second, .val (.ref r1), .val (.int (Int32.ofNat (min 14 d)))] [(.int (Int32.ofNat (min 14 d)))]))
    rw [own_lc1, hq, pk] at h1
    have dk : 14 < d := own_Dge D (by omega)
    refine Onw.go (fun _ kt => XS.iconst X0.here hx rfl (hb hby d32_228) kt) ?_
    show Onw p e below _ (T0.setTop (mkF m 229 #[.val (.long q0), .second, .val (.ref r1), .val (.int (Int32.ofNat (min 14 d)))] [(.int (1 : Int32)), (.int (Int32.ofNat (min 14 d)))]))
    refine Onw.go (fun _ kt => XS.goto X0.here hx rfl (pc0 := 229) (pc' := 233) rfl (hb hby d32_229) (by decide) (by decide) kt) ?_
    show Onw p e below _ (T0.setTop (mkF m 233 #[.val (.long q0), .second, .val (.ref r1), .val (.int (Int32.ofNat (min 14 d)))] [(.int (1 : Int32)), (.int (Int32.ofNat (min 14 d)))]))
    refine Onw.go (fun _ kt => XS.iadd X0.here hx rfl (hb hby d32_233) rfl kt) ?_
    show Onw p e below _ (T0.setTop (mkF m 234 #[.val (.long q0), .second, .val (.ref r1), .val (.int (Int32.ofNat (min 14 d)))] [(.int ((Int32.ofNat (min 14 d)) + (1 : Int32)))]))
    refine Onw.go (fun _ kt => XS.istoreN X0.here hx rfl (hb hby d32_234) rfl (l' := #[.val (.long q0), .second, .val (.ref r1), .val (.int ((Int32.ofNat (min 14 d)) + (1 : Int32)))]) rfl kt) ?_
    show Onw p e below _ (T0.setTop (mkF m 235 #[.val (.long q0), .second, .val (.ref r1), .val (.int ((Int32.ofNat (min 14 d)) + (1 : Int32)))] []))
    rw [show Int32.ofNat (min 14 d) + (1 : Int32) = Int32.ofNat (min 15 d) from by rw [show min 15 d = min 14 d + 1 by omega, Int32.ofNat_add]; rfl]
    exact hK
theorem d32_235 : decode method_3_code 235 = .ok (.iload_n 3, 1) := by decide +kernel
theorem d32_236 : decode method_3_code 236 = .ok (.lload_n 0, 1) := by decide +kernel
theorem d32_237 : decode method_3_code 237 = .ok (.aload_n 2, 1) := by decide +kernel
theorem d32_238 : decode method_3_code 238 = .ok (.bipush 15, 2) := by decide +kernel
theorem d32_240 : decode method_3_code 240 = .ok (.laload, 1) := by decide +kernel
theorem d32_241 : decode method_3_code 241 = .ok (.lcmp, 1) := by decide +kernel
theorem d32_242 : decode method_3_code 242 = .ok (.ifCond .lt 7, 3) := by decide +kernel
theorem d32_245 : decode method_3_code 245 = .ok (.iconst 1, 1) := by decide +kernel
theorem d32_246 : decode method_3_code 246 = .ok (.goto 4, 3) := by decide +kernel
theorem d32_249 : decode method_3_code 249 = .ok (.iconst 0, 1) := by decide +kernel
theorem d32_250 : decode method_3_code 250 = .ok (.iadd, 1) := by decide +kernel
theorem d32_251 : decode method_3_code 251 = .ok (.istore_n 3, 1) := by decide +kernel
set_option maxRecDepth 65536 in
set_option maxHeartbeats 40000000 in
theorem dg_15 {p : Program} {l : Launch} {e : Env} {R : Room} {s : State} {m : MethodId} {args : Array Value} {below : List Frame} {meth : Method} {c : Code} {Z : State} {a0 : Array Value} {W : Outcome → State → Prop} (hx : p.tables.exec = Jvm.exec) (hZ : Z.Warmed39 s.vm) (hw : ∀ d ∈ tables_1, d.before a0 Z = true) (hby : c.code = method_3_code) (hml : c.maxLocals = 4) (hown : s.vm.findClass "com/example/vigil_cache/vigilcache/HotKeyRuleWindowAsWrittenPinLaw" = some m.cls) {h0 : Heap} {n0 : Nat}  (q0 : Int64) (r1 : Addr) (d w : Nat)
    {T0 : State} {locs0 : List Loc} {cells slots : Nat} (X0 : Stand p l e R s m args below meth c T0 locs0 cells slots) (e0 : T0.heap = h0) (N0 : Fr n0 locs0) (TB : own_TB Z h0 r1) (hq : q0.toInt = (w : Int)) (D : own_D w d) (hK : Onw p e below W (T0.setTop (mkF m 252 #[.val (.long q0), .second, .val (.ref r1), .val (.int (Int32.ofNat (min 16 d)))] []))) :
    Onw p e below W (T0.setTop (mkF m 235 #[.val (.long q0), .second, .val (.ref r1), .val (.int (Int32.ofNat (min 15 d)))] [])) := by
  obtain ⟨c1, A1, b1, b2⟩ := TB.at (r := 15) (by decide)
  have pk := own_p10 (r := 15) (by decide)
  refine Onw.go (fun _ kt => XS.iloadN X0.here hx rfl (hb hby d32_235) rfl kt) ?_
  show Onw p e below _ (T0.setTop (mkF m 236 #[.val (.long q0), .second, .val (.ref r1), .val (.int (Int32.ofNat (min 15 d)))] [(.int (Int32.ofNat (min 15 d)))]))
  refine Onw.go (fun _ kt => XS.lloadN X0.here hx rfl (hb hby d32_236) rfl kt) ?_
  show Onw p e below _ (T0.setTop (mkF m 237 #[.val (.long q0), .second, .val (.ref r1), .val (.int (Int32.ofNat (min 15 d)))] [(.long q0), (.int (Int32.ofNat (min 15 d)))]))
  refine Onw.go (fun _ kt => XS.aloadN X0.here hx rfl (hb hby d32_237) rfl rfl kt) ?_
  show Onw p e below _ (T0.setTop (mkF m 238 #[.val (.long q0), .second, .val (.ref r1), .val (.int (Int32.ofNat (min 15 d)))] [(.ref r1), (.long q0), (.int (Int32.ofNat (min 15 d)))]))
  refine Onw.go (fun _ kt => XS.bipush X0.here hx rfl (hb hby d32_238) kt) ?_
  show Onw p e below _ (T0.setTop (mkF m 240 #[.val (.long q0), .second, .val (.ref r1), .val (.int (Int32.ofNat (min 15 d)))] [(.int (15 : Int32)), (.ref r1), (.long q0), (.int (Int32.ofNat (min 15 d)))]))
  refine Onw.go (X0.laload hx (j := (15 : Int32)) (v := (.long (Int64.ofNat (10 ^ 15)))) (by rw [e0]; exact A1.1) (State.isArrayOf_alike hZ.alike A1.2.1) A1.2.2 b1 b2 (g := (mkF m 240 #[.val (.long q0), .second, .val (.ref r1), .val (.int (Int32.ofNat (min 15 d)))] [(.int (15 : Int32)), (.ref r1), (.long q0), (.int (Int32.ofNat (min 15 d)))])) rfl rfl (hb hby d32_240)) ?_
  show Onw p e below _ (T0.setTop (mkF m 241 #[.val (.long q0), .second, .val (.ref r1), .val (.int (Int32.ofNat (min 15 d)))] [(.long (Int64.ofNat (10 ^ 15))), (.long q0), (.int (Int32.ofNat (min 15 d)))]))
  refine Onw.go (fun _ kt => XS.lcmp X0.here hx rfl (hb hby d32_241) rfl kt) ?_
  show Onw p e below _ (T0.setTop (mkF m 242 #[.val (.long q0), .second, .val (.ref r1), .val (.int (Int32.ofNat (min 15 d)))] [(.int (lcmpW q0 (Int64.ofNat (10 ^ 15)))), (.int (Int32.ofNat (min 15 d)))]))
  by_cases h1 : (lcmpW q0 (Int64.ofNat (10 ^ 15))) < (0 : Int32)
  · refine Onw.go (fun _ kt => XS.ifYes X0.here hx rfl (pc0 := 242) (pc' := 249) rfl (hb hby d32_242) rfl ((if0 _ _).trans (tlt (h1 : (lcmpW q0 (Int64.ofNat (10 ^ 15))) < (0 : Int32))).1) (by decide) (by decide) kt) ?_
    show Onw p e below _ (T0.setTop (mkF m 249 #[.val (.long q0), .second, .val (.ref r1), .val (.int (Int32.ofNat (min 15 d)))] [(.int (Int32.ofNat (min 15 d)))]))
    rw [own_lc1, hq, pk] at h1
    have dk : d ≤ 15 := own_Dlt D (by omega)
    refine Onw.go (fun _ kt => XS.iconst X0.here hx rfl (hb hby d32_249) kt) ?_
    show Onw p e below _ (T0.setTop (mkF m 250 #[.val (.long q0), .second, .val (.ref r1), .val (.int (Int32.ofNat (min 15 d)))] [(.int (0 : Int32)), (.int (Int32.ofNat (min 15 d)))]))
    refine Onw.go (fun _ kt => XS.iadd X0.here hx rfl (hb hby d32_250) rfl kt) ?_
    show Onw p e below _ (T0.setTop (mkF m 251 #[.val (.long q0), .second, .val (.ref r1), .val (.int (Int32.ofNat (min 15 d)))] [(.int ((Int32.ofNat (min 15 d)) + (0 : Int32)))]))
    refine Onw.go (fun _ kt => XS.istoreN X0.here hx rfl (hb hby d32_251) rfl (l' := #[.val (.long q0), .second, .val (.ref r1), .val (.int ((Int32.ofNat (min 15 d)) + (0 : Int32)))]) rfl kt) ?_
    show Onw p e below _ (T0.setTop (mkF m 252 #[.val (.long q0), .second, .val (.ref r1), .val (.int ((Int32.ofNat (min 15 d)) + (0 : Int32)))] []))
    rw [show Int32.ofNat (min 15 d) + (0 : Int32) = Int32.ofNat (min 16 d) from by rw [Int32.add_zero, show min 15 d = min 16 d by omega]]
    exact hK
  · refine Onw.go (fun _ kt => XS.ifNo X0.here hx rfl (hb hby d32_242) rfl ((if0 _ _).trans (flt (h1 : ¬ ((lcmpW q0 (Int64.ofNat (10 ^ 15))) < (0 : Int32)))).1) kt) ?_
    show Onw p e below _ (T0.setTop (mkF m 245 #[.val (.long q0), .second, .val (.ref r1), .val (.int (Int32.ofNat (min 15 d)))] [(.int (Int32.ofNat (min 15 d)))]))
    rw [own_lc1, hq, pk] at h1
    have dk : 15 < d := own_Dge D (by omega)
    refine Onw.go (fun _ kt => XS.iconst X0.here hx rfl (hb hby d32_245) kt) ?_
    show Onw p e below _ (T0.setTop (mkF m 246 #[.val (.long q0), .second, .val (.ref r1), .val (.int (Int32.ofNat (min 15 d)))] [(.int (1 : Int32)), (.int (Int32.ofNat (min 15 d)))]))
    refine Onw.go (fun _ kt => XS.goto X0.here hx rfl (pc0 := 246) (pc' := 250) rfl (hb hby d32_246) (by decide) (by decide) kt) ?_
    show Onw p e below _ (T0.setTop (mkF m 250 #[.val (.long q0), .second, .val (.ref r1), .val (.int (Int32.ofNat (min 15 d)))] [(.int (1 : Int32)), (.int (Int32.ofNat (min 15 d)))]))
    refine Onw.go (fun _ kt => XS.iadd X0.here hx rfl (hb hby d32_250) rfl kt) ?_
    show Onw p e below _ (T0.setTop (mkF m 251 #[.val (.long q0), .second, .val (.ref r1), .val (.int (Int32.ofNat (min 15 d)))] [(.int ((Int32.ofNat (min 15 d)) + (1 : Int32)))]))
    refine Onw.go (fun _ kt => XS.istoreN X0.here hx rfl (hb hby d32_251) rfl (l' := #[.val (.long q0), .second, .val (.ref r1), .val (.int ((Int32.ofNat (min 15 d)) + (1 : Int32)))]) rfl kt) ?_
    show Onw p e below _ (T0.setTop (mkF m 252 #[.val (.long q0), .second, .val (.ref r1), .val (.int ((Int32.ofNat (min 15 d)) + (1 : Int32)))] []))
    rw [show Int32.ofNat (min 15 d) + (1 : Int32) = Int32.ofNat (min 16 d) from by rw [show min 16 d = min 15 d + 1 by omega, Int32.ofNat_add]; rfl]
    exact hK
theorem d32_252 : decode method_3_code 252 = .ok (.iload_n 3, 1) := by decide +kernel
theorem d32_253 : decode method_3_code 253 = .ok (.lload_n 0, 1) := by decide +kernel
theorem d32_254 : decode method_3_code 254 = .ok (.aload_n 2, 1) := by decide +kernel
theorem d32_255 : decode method_3_code 255 = .ok (.bipush 16, 2) := by decide +kernel
theorem d32_257 : decode method_3_code 257 = .ok (.laload, 1) := by decide +kernel
theorem d32_258 : decode method_3_code 258 = .ok (.lcmp, 1) := by decide +kernel
theorem d32_259 : decode method_3_code 259 = .ok (.ifCond .lt 7, 3) := by decide +kernel
theorem d32_262 : decode method_3_code 262 = .ok (.iconst 1, 1) := by decide +kernel
theorem d32_263 : decode method_3_code 263 = .ok (.goto 4, 3) := by decide +kernel
theorem d32_266 : decode method_3_code 266 = .ok (.iconst 0, 1) := by decide +kernel
theorem d32_267 : decode method_3_code 267 = .ok (.iadd, 1) := by decide +kernel
theorem d32_268 : decode method_3_code 268 = .ok (.istore_n 3, 1) := by decide +kernel
set_option maxRecDepth 65536 in
set_option maxHeartbeats 40000000 in
theorem dg_16 {p : Program} {l : Launch} {e : Env} {R : Room} {s : State} {m : MethodId} {args : Array Value} {below : List Frame} {meth : Method} {c : Code} {Z : State} {a0 : Array Value} {W : Outcome → State → Prop} (hx : p.tables.exec = Jvm.exec) (hZ : Z.Warmed39 s.vm) (hw : ∀ d ∈ tables_1, d.before a0 Z = true) (hby : c.code = method_3_code) (hml : c.maxLocals = 4) (hown : s.vm.findClass "com/example/vigil_cache/vigilcache/HotKeyRuleWindowAsWrittenPinLaw" = some m.cls) {h0 : Heap} {n0 : Nat}  (q0 : Int64) (r1 : Addr) (d w : Nat)
    {T0 : State} {locs0 : List Loc} {cells slots : Nat} (X0 : Stand p l e R s m args below meth c T0 locs0 cells slots) (e0 : T0.heap = h0) (N0 : Fr n0 locs0) (TB : own_TB Z h0 r1) (hq : q0.toInt = (w : Int)) (D : own_D w d) (hK : Onw p e below W (T0.setTop (mkF m 269 #[.val (.long q0), .second, .val (.ref r1), .val (.int (Int32.ofNat (min 17 d)))] []))) :
    Onw p e below W (T0.setTop (mkF m 252 #[.val (.long q0), .second, .val (.ref r1), .val (.int (Int32.ofNat (min 16 d)))] [])) := by
  obtain ⟨c1, A1, b1, b2⟩ := TB.at (r := 16) (by decide)
  have pk := own_p10 (r := 16) (by decide)
  refine Onw.go (fun _ kt => XS.iloadN X0.here hx rfl (hb hby d32_252) rfl kt) ?_
  show Onw p e below _ (T0.setTop (mkF m 253 #[.val (.long q0), .second, .val (.ref r1), .val (.int (Int32.ofNat (min 16 d)))] [(.int (Int32.ofNat (min 16 d)))]))
  refine Onw.go (fun _ kt => XS.lloadN X0.here hx rfl (hb hby d32_253) rfl kt) ?_
  show Onw p e below _ (T0.setTop (mkF m 254 #[.val (.long q0), .second, .val (.ref r1), .val (.int (Int32.ofNat (min 16 d)))] [(.long q0), (.int (Int32.ofNat (min 16 d)))]))
  refine Onw.go (fun _ kt => XS.aloadN X0.here hx rfl (hb hby d32_254) rfl rfl kt) ?_
  show Onw p e below _ (T0.setTop (mkF m 255 #[.val (.long q0), .second, .val (.ref r1), .val (.int (Int32.ofNat (min 16 d)))] [(.ref r1), (.long q0), (.int (Int32.ofNat (min 16 d)))]))
  refine Onw.go (fun _ kt => XS.bipush X0.here hx rfl (hb hby d32_255) kt) ?_
  show Onw p e below _ (T0.setTop (mkF m 257 #[.val (.long q0), .second, .val (.ref r1), .val (.int (Int32.ofNat (min 16 d)))] [(.int (16 : Int32)), (.ref r1), (.long q0), (.int (Int32.ofNat (min 16 d)))]))
  refine Onw.go (X0.laload hx (j := (16 : Int32)) (v := (.long (Int64.ofNat (10 ^ 16)))) (by rw [e0]; exact A1.1) (State.isArrayOf_alike hZ.alike A1.2.1) A1.2.2 b1 b2 (g := (mkF m 257 #[.val (.long q0), .second, .val (.ref r1), .val (.int (Int32.ofNat (min 16 d)))] [(.int (16 : Int32)), (.ref r1), (.long q0), (.int (Int32.ofNat (min 16 d)))])) rfl rfl (hb hby d32_257)) ?_
  show Onw p e below _ (T0.setTop (mkF m 258 #[.val (.long q0), .second, .val (.ref r1), .val (.int (Int32.ofNat (min 16 d)))] [(.long (Int64.ofNat (10 ^ 16))), (.long q0), (.int (Int32.ofNat (min 16 d)))]))
  refine Onw.go (fun _ kt => XS.lcmp X0.here hx rfl (hb hby d32_258) rfl kt) ?_
  show Onw p e below _ (T0.setTop (mkF m 259 #[.val (.long q0), .second, .val (.ref r1), .val (.int (Int32.ofNat (min 16 d)))] [(.int (lcmpW q0 (Int64.ofNat (10 ^ 16)))), (.int (Int32.ofNat (min 16 d)))]))
  by_cases h1 : (lcmpW q0 (Int64.ofNat (10 ^ 16))) < (0 : Int32)
  · refine Onw.go (fun _ kt => XS.ifYes X0.here hx rfl (pc0 := 259) (pc' := 266) rfl (hb hby d32_259) rfl ((if0 _ _).trans (tlt (h1 : (lcmpW q0 (Int64.ofNat (10 ^ 16))) < (0 : Int32))).1) (by decide) (by decide) kt) ?_
    show Onw p e below _ (T0.setTop (mkF m 266 #[.val (.long q0), .second, .val (.ref r1), .val (.int (Int32.ofNat (min 16 d)))] [(.int (Int32.ofNat (min 16 d)))]))
    rw [own_lc1, hq, pk] at h1
    have dk : d ≤ 16 := own_Dlt D (by omega)
    refine Onw.go (fun _ kt => XS.iconst X0.here hx rfl (hb hby d32_266) kt) ?_
    show Onw p e below _ (T0.setTop (mkF m 267 #[.val (.long q0), .second, .val (.ref r1), .val (.int (Int32.ofNat (min 16 d)))] [(.int (0 : Int32)), (.int (Int32.ofNat (min 16 d)))]))
    refine Onw.go (fun _ kt => XS.iadd X0.here hx rfl (hb hby d32_267) rfl kt) ?_
    show Onw p e below _ (T0.setTop (mkF m 268 #[.val (.long q0), .second, .val (.ref r1), .val (.int (Int32.ofNat (min 16 d)))] [(.int ((Int32.ofNat (min 16 d)) + (0 : Int32)))]))
    refine Onw.go (fun _ kt => XS.istoreN X0.here hx rfl (hb hby d32_268) rfl (l' := #[.val (.long q0), .second, .val (.ref r1), .val (.int ((Int32.ofNat (min 16 d)) + (0 : Int32)))]) rfl kt) ?_
    show Onw p e below _ (T0.setTop (mkF m 269 #[.val (.long q0), .second, .val (.ref r1), .val (.int ((Int32.ofNat (min 16 d)) + (0 : Int32)))] []))
    rw [show Int32.ofNat (min 16 d) + (0 : Int32) = Int32.ofNat (min 17 d) from by rw [Int32.add_zero, show min 16 d = min 17 d by omega]]
    exact hK
  · refine Onw.go (fun _ kt => XS.ifNo X0.here hx rfl (hb hby d32_259) rfl ((if0 _ _).trans (flt (h1 : ¬ ((lcmpW q0 (Int64.ofNat (10 ^ 16))) < (0 : Int32)))).1) kt) ?_
    show Onw p e below _ (T0.setTop (mkF m 262 #[.val (.long q0), .second, .val (.ref r1), .val (.int (Int32.ofNat (min 16 d)))] [(.int (Int32.ofNat (min 16 d)))]))
    rw [own_lc1, hq, pk] at h1
    have dk : 16 < d := own_Dge D (by omega)
    refine Onw.go (fun _ kt => XS.iconst X0.here hx rfl (hb hby d32_262) kt) ?_
    show Onw p e below _ (T0.setTop (mkF m 263 #[.val (.long q0), .second, .val (.ref r1), .val (.int (Int32.ofNat (min 16 d)))] [(.int (1 : Int32)), (.int (Int32.ofNat (min 16 d)))]))
    refine Onw.go (fun _ kt => XS.goto X0.here hx rfl (pc0 := 263) (pc' := 267) rfl (hb hby d32_263) (by decide) (by decide) kt) ?_
    show Onw p e below _ (T0.setTop (mkF m 267 #[.val (.long q0), .second, .val (.ref r1), .val (.int (Int32.ofNat (min 16 d)))] [(.int (1 : Int32)), (.int (Int32.ofNat (min 16 d)))]))
    refine Onw.go (fun _ kt => XS.iadd X0.here hx rfl (hb hby d32_267) rfl kt) ?_
    show Onw p e below _ (T0.setTop (mkF m 268 #[.val (.long q0), .second, .val (.ref r1), .val (.int (Int32.ofNat (min 16 d)))] [(.int ((Int32.ofNat (min 16 d)) + (1 : Int32)))]))
    refine Onw.go (fun _ kt => XS.istoreN X0.here hx rfl (hb hby d32_268) rfl (l' := #[.val (.long q0), .second, .val (.ref r1), .val (.int ((Int32.ofNat (min 16 d)) + (1 : Int32)))]) rfl kt) ?_
    show Onw p e below _ (T0.setTop (mkF m 269 #[.val (.long q0), .second, .val (.ref r1), .val (.int ((Int32.ofNat (min 16 d)) + (1 : Int32)))] []))
    rw [show Int32.ofNat (min 16 d) + (1 : Int32) = Int32.ofNat (min 17 d) from by rw [show min 17 d = min 16 d + 1 by omega, Int32.ofNat_add]; rfl]
    exact hK
theorem d32_269 : decode method_3_code 269 = .ok (.iload_n 3, 1) := by decide +kernel
theorem d32_270 : decode method_3_code 270 = .ok (.lload_n 0, 1) := by decide +kernel
theorem d32_271 : decode method_3_code 271 = .ok (.aload_n 2, 1) := by decide +kernel
theorem d32_272 : decode method_3_code 272 = .ok (.bipush 17, 2) := by decide +kernel
theorem d32_274 : decode method_3_code 274 = .ok (.laload, 1) := by decide +kernel
theorem d32_275 : decode method_3_code 275 = .ok (.lcmp, 1) := by decide +kernel
theorem d32_276 : decode method_3_code 276 = .ok (.ifCond .lt 7, 3) := by decide +kernel
theorem d32_279 : decode method_3_code 279 = .ok (.iconst 1, 1) := by decide +kernel
theorem d32_280 : decode method_3_code 280 = .ok (.goto 4, 3) := by decide +kernel
theorem d32_283 : decode method_3_code 283 = .ok (.iconst 0, 1) := by decide +kernel
theorem d32_284 : decode method_3_code 284 = .ok (.iadd, 1) := by decide +kernel
theorem d32_285 : decode method_3_code 285 = .ok (.istore_n 3, 1) := by decide +kernel
set_option maxRecDepth 65536 in
set_option maxHeartbeats 40000000 in
theorem dg_17 {p : Program} {l : Launch} {e : Env} {R : Room} {s : State} {m : MethodId} {args : Array Value} {below : List Frame} {meth : Method} {c : Code} {Z : State} {a0 : Array Value} {W : Outcome → State → Prop} (hx : p.tables.exec = Jvm.exec) (hZ : Z.Warmed39 s.vm) (hw : ∀ d ∈ tables_1, d.before a0 Z = true) (hby : c.code = method_3_code) (hml : c.maxLocals = 4) (hown : s.vm.findClass "com/example/vigil_cache/vigilcache/HotKeyRuleWindowAsWrittenPinLaw" = some m.cls) {h0 : Heap} {n0 : Nat}  (q0 : Int64) (r1 : Addr) (d w : Nat)
    {T0 : State} {locs0 : List Loc} {cells slots : Nat} (X0 : Stand p l e R s m args below meth c T0 locs0 cells slots) (e0 : T0.heap = h0) (N0 : Fr n0 locs0) (TB : own_TB Z h0 r1) (hq : q0.toInt = (w : Int)) (D : own_D w d) (hK : Onw p e below W (T0.setTop (mkF m 286 #[.val (.long q0), .second, .val (.ref r1), .val (.int (Int32.ofNat (min 18 d)))] []))) :
    Onw p e below W (T0.setTop (mkF m 269 #[.val (.long q0), .second, .val (.ref r1), .val (.int (Int32.ofNat (min 17 d)))] [])) := by
  obtain ⟨c1, A1, b1, b2⟩ := TB.at (r := 17) (by decide)
  have pk := own_p10 (r := 17) (by decide)
  refine Onw.go (fun _ kt => XS.iloadN X0.here hx rfl (hb hby d32_269) rfl kt) ?_
  show Onw p e below _ (T0.setTop (mkF m 270 #[.val (.long q0), .second, .val (.ref r1), .val (.int (Int32.ofNat (min 17 d)))] [(.int (Int32.ofNat (min 17 d)))]))
  refine Onw.go (fun _ kt => XS.lloadN X0.here hx rfl (hb hby d32_270) rfl kt) ?_
  show Onw p e below _ (T0.setTop (mkF m 271 #[.val (.long q0), .second, .val (.ref r1), .val (.int (Int32.ofNat (min 17 d)))] [(.long q0), (.int (Int32.ofNat (min 17 d)))]))
  refine Onw.go (fun _ kt => XS.aloadN X0.here hx rfl (hb hby d32_271) rfl rfl kt) ?_
  show Onw p e below _ (T0.setTop (mkF m 272 #[.val (.long q0), .second, .val (.ref r1), .val (.int (Int32.ofNat (min 17 d)))] [(.ref r1), (.long q0), (.int (Int32.ofNat (min 17 d)))]))
  refine Onw.go (fun _ kt => XS.bipush X0.here hx rfl (hb hby d32_272) kt) ?_
  show Onw p e below _ (T0.setTop (mkF m 274 #[.val (.long q0), .second, .val (.ref r1), .val (.int (Int32.ofNat (min 17 d)))] [(.int (17 : Int32)), (.ref r1), (.long q0), (.int (Int32.ofNat (min 17 d)))]))
  refine Onw.go (X0.laload hx (j := (17 : Int32)) (v := (.long (Int64.ofNat (10 ^ 17)))) (by rw [e0]; exact A1.1) (State.isArrayOf_alike hZ.alike A1.2.1) A1.2.2 b1 b2 (g := (mkF m 274 #[.val (.long q0), .second, .val (.ref r1), .val (.int (Int32.ofNat (min 17 d)))] [(.int (17 : Int32)), (.ref r1), (.long q0), (.int (Int32.ofNat (min 17 d)))])) rfl rfl (hb hby d32_274)) ?_
  show Onw p e below _ (T0.setTop (mkF m 275 #[.val (.long q0), .second, .val (.ref r1), .val (.int (Int32.ofNat (min 17 d)))] [(.long (Int64.ofNat (10 ^ 17))), (.long q0), (.int (Int32.ofNat (min 17 d)))]))
  refine Onw.go (fun _ kt => XS.lcmp X0.here hx rfl (hb hby d32_275) rfl kt) ?_
  show Onw p e below _ (T0.setTop (mkF m 276 #[.val (.long q0), .second, .val (.ref r1), .val (.int (Int32.ofNat (min 17 d)))] [(.int (lcmpW q0 (Int64.ofNat (10 ^ 17)))), (.int (Int32.ofNat (min 17 d)))]))
  by_cases h1 : (lcmpW q0 (Int64.ofNat (10 ^ 17))) < (0 : Int32)
  · refine Onw.go (fun _ kt => XS.ifYes X0.here hx rfl (pc0 := 276) (pc' := 283) rfl (hb hby d32_276) rfl ((if0 _ _).trans (tlt (h1 : (lcmpW q0 (Int64.ofNat (10 ^ 17))) < (0 : Int32))).1) (by decide) (by decide) kt) ?_
    show Onw p e below _ (T0.setTop (mkF m 283 #[.val (.long q0), .second, .val (.ref r1), .val (.int (Int32.ofNat (min 17 d)))] [(.int (Int32.ofNat (min 17 d)))]))
    rw [own_lc1, hq, pk] at h1
    have dk : d ≤ 17 := own_Dlt D (by omega)
    refine Onw.go (fun _ kt => XS.iconst X0.here hx rfl (hb hby d32_283) kt) ?_
    show Onw p e below _ (T0.setTop (mkF m 284 #[.val (.long q0), .second, .val (.ref r1), .val (.int (Int32.ofNat (min 17 d)))] [(.int (0 : Int32)), (.int (Int32.ofNat (min 17 d)))]))
    refine Onw.go (fun _ kt => XS.iadd X0.here hx rfl (hb hby d32_284) rfl kt) ?_
    show Onw p e below _ (T0.setTop (mkF m 285 #[.val (.long q0), .second, .val (.ref r1), .val (.int (Int32.ofNat (min 17 d)))] [(.int ((Int32.ofNat (min 17 d)) + (0 : Int32)))]))
    refine Onw.go (fun _ kt => XS.istoreN X0.here hx rfl (hb hby d32_285) rfl (l' := #[.val (.long q0), .second, .val (.ref r1), .val (.int ((Int32.ofNat (min 17 d)) + (0 : Int32)))]) rfl kt) ?_
    show Onw p e below _ (T0.setTop (mkF m 286 #[.val (.long q0), .second, .val (.ref r1), .val (.int ((Int32.ofNat (min 17 d)) + (0 : Int32)))] []))
    rw [show Int32.ofNat (min 17 d) + (0 : Int32) = Int32.ofNat (min 18 d) from by rw [Int32.add_zero, show min 17 d = min 18 d by omega]]
    exact hK
  · refine Onw.go (fun _ kt => XS.ifNo X0.here hx rfl (hb hby d32_276) rfl ((if0 _ _).trans (flt (h1 : ¬ ((lcmpW q0 (Int64.ofNat (10 ^ 17))) < (0 : Int32)))).1) kt) ?_
    show Onw p e below _ (T0.setTop (mkF m 279 #[.val (.long q0), .second, .val (.ref r1), .val (.int (Int32.ofNat (min 17 d)))] [(.int (Int32.ofNat (min 17 d)))]))
    rw [own_lc1, hq, pk] at h1
    have dk : 17 < d := own_Dge D (by omega)
    refine Onw.go (fun _ kt => XS.iconst X0.here hx rfl (hb hby d32_279) kt) ?_
    show Onw p e below _ (T0.setTop (mkF m 280 #[.val (.long q0), .second, .val (.ref r1), .val (.int (Int32.ofNat (min 17 d)))] [(.int (1 : Int32)), (.int (Int32.ofNat (min 17 d)))]))
    refine Onw.go (fun _ kt => XS.goto X0.here hx rfl (pc0 := 280) (pc' := 284) rfl (hb hby d32_280) (by decide) (by decide) kt) ?_
    show Onw p e below _ (T0.setTop (mkF m 284 #[.val (.long q0), .second, .val (.ref r1), .val (.int (Int32.ofNat (min 17 d)))] [(.int (1 : Int32)), (.int (Int32.ofNat (min 17 d)))]))
    refine Onw.go (fun _ kt => XS.iadd X0.here hx rfl (hb hby d32_284) rfl kt) ?_
    show Onw p e below _ (T0.setTop (mkF m 285 #[.val (.long q0), .second, .val (.ref r1), .val (.int (Int32.ofNat (min 17 d)))] [(.int ((Int32.ofNat (min 17 d)) + (1 : Int32)))]))
    refine Onw.go (fun _ kt => XS.istoreN X0.here hx rfl (hb hby d32_285) rfl (l' := #[.val (.long q0), .second, .val (.ref r1), .val (.int ((Int32.ofNat (min 17 d)) + (1 : Int32)))]) rfl kt) ?_
    show Onw p e below _ (T0.setTop (mkF m 286 #[.val (.long q0), .second, .val (.ref r1), .val (.int ((Int32.ofNat (min 17 d)) + (1 : Int32)))] []))
    rw [show Int32.ofNat (min 17 d) + (1 : Int32) = Int32.ofNat (min 18 d) from by rw [show min 18 d = min 17 d + 1 by omega, Int32.ofNat_add]; rfl]
    exact hK
theorem d32_286 : decode method_3_code 286 = .ok (.iload_n 3, 1) := by decide +kernel
theorem d32_287 : decode method_3_code 287 = .ok (.lload_n 0, 1) := by decide +kernel
theorem d32_288 : decode method_3_code 288 = .ok (.aload_n 2, 1) := by decide +kernel
theorem d32_289 : decode method_3_code 289 = .ok (.bipush 18, 2) := by decide +kernel
theorem d32_291 : decode method_3_code 291 = .ok (.laload, 1) := by decide +kernel
theorem d32_292 : decode method_3_code 292 = .ok (.lcmp, 1) := by decide +kernel
theorem d32_293 : decode method_3_code 293 = .ok (.ifCond .lt 7, 3) := by decide +kernel
theorem d32_296 : decode method_3_code 296 = .ok (.iconst 1, 1) := by decide +kernel
theorem d32_297 : decode method_3_code 297 = .ok (.goto 4, 3) := by decide +kernel
theorem d32_300 : decode method_3_code 300 = .ok (.iconst 0, 1) := by decide +kernel
theorem d32_301 : decode method_3_code 301 = .ok (.iadd, 1) := by decide +kernel
theorem d32_302 : decode method_3_code 302 = .ok (.istore_n 3, 1) := by decide +kernel
set_option maxRecDepth 65536 in
set_option maxHeartbeats 40000000 in
theorem dg_18 {p : Program} {l : Launch} {e : Env} {R : Room} {s : State} {m : MethodId} {args : Array Value} {below : List Frame} {meth : Method} {c : Code} {Z : State} {a0 : Array Value} {W : Outcome → State → Prop} (hx : p.tables.exec = Jvm.exec) (hZ : Z.Warmed39 s.vm) (hw : ∀ d ∈ tables_1, d.before a0 Z = true) (hby : c.code = method_3_code) (hml : c.maxLocals = 4) (hown : s.vm.findClass "com/example/vigil_cache/vigilcache/HotKeyRuleWindowAsWrittenPinLaw" = some m.cls) {h0 : Heap} {n0 : Nat}  (q0 : Int64) (r1 : Addr) (d w : Nat)
    {T0 : State} {locs0 : List Loc} {cells slots : Nat} (X0 : Stand p l e R s m args below meth c T0 locs0 cells slots) (e0 : T0.heap = h0) (N0 : Fr n0 locs0) (TB : own_TB Z h0 r1) (hq : q0.toInt = (w : Int)) (D : own_D w d) (hK : Onw p e below W (T0.setTop (mkF m 303 #[.val (.long q0), .second, .val (.ref r1), .val (.int (Int32.ofNat (min 19 d)))] []))) :
    Onw p e below W (T0.setTop (mkF m 286 #[.val (.long q0), .second, .val (.ref r1), .val (.int (Int32.ofNat (min 18 d)))] [])) := by
  obtain ⟨c1, A1, b1, b2⟩ := TB.at (r := 18) (by decide)
  have pk := own_p10 (r := 18) (by decide)
  refine Onw.go (fun _ kt => XS.iloadN X0.here hx rfl (hb hby d32_286) rfl kt) ?_
  show Onw p e below _ (T0.setTop (mkF m 287 #[.val (.long q0), .second, .val (.ref r1), .val (.int (Int32.ofNat (min 18 d)))] [(.int (Int32.ofNat (min 18 d)))]))
  refine Onw.go (fun _ kt => XS.lloadN X0.here hx rfl (hb hby d32_287) rfl kt) ?_
  show Onw p e below _ (T0.setTop (mkF m 288 #[.val (.long q0), .second, .val (.ref r1), .val (.int (Int32.ofNat (min 18 d)))] [(.long q0), (.int (Int32.ofNat (min 18 d)))]))
  refine Onw.go (fun _ kt => XS.aloadN X0.here hx rfl (hb hby d32_288) rfl rfl kt) ?_
  show Onw p e below _ (T0.setTop (mkF m 289 #[.val (.long q0), .second, .val (.ref r1), .val (.int (Int32.ofNat (min 18 d)))] [(.ref r1), (.long q0), (.int (Int32.ofNat (min 18 d)))]))
  refine Onw.go (fun _ kt => XS.bipush X0.here hx rfl (hb hby d32_289) kt) ?_
  show Onw p e below _ (T0.setTop (mkF m 291 #[.val (.long q0), .second, .val (.ref r1), .val (.int (Int32.ofNat (min 18 d)))] [(.int (18 : Int32)), (.ref r1), (.long q0), (.int (Int32.ofNat (min 18 d)))]))
  refine Onw.go (X0.laload hx (j := (18 : Int32)) (v := (.long (Int64.ofNat (10 ^ 18)))) (by rw [e0]; exact A1.1) (State.isArrayOf_alike hZ.alike A1.2.1) A1.2.2 b1 b2 (g := (mkF m 291 #[.val (.long q0), .second, .val (.ref r1), .val (.int (Int32.ofNat (min 18 d)))] [(.int (18 : Int32)), (.ref r1), (.long q0), (.int (Int32.ofNat (min 18 d)))])) rfl rfl (hb hby d32_291)) ?_
  show Onw p e below _ (T0.setTop (mkF m 292 #[.val (.long q0), .second, .val (.ref r1), .val (.int (Int32.ofNat (min 18 d)))] [(.long (Int64.ofNat (10 ^ 18))), (.long q0), (.int (Int32.ofNat (min 18 d)))]))
  refine Onw.go (fun _ kt => XS.lcmp X0.here hx rfl (hb hby d32_292) rfl kt) ?_
  show Onw p e below _ (T0.setTop (mkF m 293 #[.val (.long q0), .second, .val (.ref r1), .val (.int (Int32.ofNat (min 18 d)))] [(.int (lcmpW q0 (Int64.ofNat (10 ^ 18)))), (.int (Int32.ofNat (min 18 d)))]))
  by_cases h1 : (lcmpW q0 (Int64.ofNat (10 ^ 18))) < (0 : Int32)
  · refine Onw.go (fun _ kt => XS.ifYes X0.here hx rfl (pc0 := 293) (pc' := 300) rfl (hb hby d32_293) rfl ((if0 _ _).trans (tlt (h1 : (lcmpW q0 (Int64.ofNat (10 ^ 18))) < (0 : Int32))).1) (by decide) (by decide) kt) ?_
    show Onw p e below _ (T0.setTop (mkF m 300 #[.val (.long q0), .second, .val (.ref r1), .val (.int (Int32.ofNat (min 18 d)))] [(.int (Int32.ofNat (min 18 d)))]))
    rw [own_lc1, hq, pk] at h1
    have dk : d ≤ 18 := own_Dlt D (by omega)
    refine Onw.go (fun _ kt => XS.iconst X0.here hx rfl (hb hby d32_300) kt) ?_
    show Onw p e below _ (T0.setTop (mkF m 301 #[.val (.long q0), .second, .val (.ref r1), .val (.int (Int32.ofNat (min 18 d)))] [(.int (0 : Int32)), (.int (Int32.ofNat (min 18 d)))]))
    refine Onw.go (fun _ kt => XS.iadd X0.here hx rfl (hb hby d32_301) rfl kt) ?_
    show Onw p e below _ (T0.setTop (mkF m 302 #[.val (.long q0), .second, .val (.ref r1), .val (.int (Int32.ofNat (min 18 d)))] [(.int ((Int32.ofNat (min 18 d)) + (0 : Int32)))]))
    refine Onw.go (fun _ kt => XS.istoreN X0.here hx rfl (hb hby d32_302) rfl (l' := #[.val (.long q0), .second, .val (.ref r1), .val (.int ((Int32.ofNat (min 18 d)) + (0 : Int32)))]) rfl kt) ?_
    show Onw p e below _ (T0.setTop (mkF m 303 #[.val (.long q0), .second, .val (.ref r1), .val (.int ((Int32.ofNat (min 18 d)) + (0 : Int32)))] []))
    rw [show Int32.ofNat (min 18 d) + (0 : Int32) = Int32.ofNat (min 19 d) from by rw [Int32.add_zero, show min 18 d = min 19 d by omega]]
    exact hK
  · refine Onw.go (fun _ kt => XS.ifNo X0.here hx rfl (hb hby d32_293) rfl ((if0 _ _).trans (flt (h1 : ¬ ((lcmpW q0 (Int64.ofNat (10 ^ 18))) < (0 : Int32)))).1) kt) ?_
    show Onw p e below _ (T0.setTop (mkF m 296 #[.val (.long q0), .second, .val (.ref r1), .val (.int (Int32.ofNat (min 18 d)))] [(.int (Int32.ofNat (min 18 d)))]))
    rw [own_lc1, hq, pk] at h1
    have dk : 18 < d := own_Dge D (by omega)
    refine Onw.go (fun _ kt => XS.iconst X0.here hx rfl (hb hby d32_296) kt) ?_
    show Onw p e below _ (T0.setTop (mkF m 297 #[.val (.long q0), .second, .val (.ref r1), .val (.int (Int32.ofNat (min 18 d)))] [(.int (1 : Int32)), (.int (Int32.ofNat (min 18 d)))]))
    refine Onw.go (fun _ kt => XS.goto X0.here hx rfl (pc0 := 297) (pc' := 301) rfl (hb hby d32_297) (by decide) (by decide) kt) ?_
    show Onw p e below _ (T0.setTop (mkF m 301 #[.val (.long q0), .second, .val (.ref r1), .val (.int (Int32.ofNat (min 18 d)))] [(.int (1 : Int32)), (.int (Int32.ofNat (min 18 d)))]))
    refine Onw.go (fun _ kt => XS.iadd X0.here hx rfl (hb hby d32_301) rfl kt) ?_
    show Onw p e below _ (T0.setTop (mkF m 302 #[.val (.long q0), .second, .val (.ref r1), .val (.int (Int32.ofNat (min 18 d)))] [(.int ((Int32.ofNat (min 18 d)) + (1 : Int32)))]))
    refine Onw.go (fun _ kt => XS.istoreN X0.here hx rfl (hb hby d32_302) rfl (l' := #[.val (.long q0), .second, .val (.ref r1), .val (.int ((Int32.ofNat (min 18 d)) + (1 : Int32)))]) rfl kt) ?_
    show Onw p e below _ (T0.setTop (mkF m 303 #[.val (.long q0), .second, .val (.ref r1), .val (.int ((Int32.ofNat (min 18 d)) + (1 : Int32)))] []))
    rw [show Int32.ofNat (min 18 d) + (1 : Int32) = Int32.ofNat (min 19 d) from by rw [show min 19 d = min 18 d + 1 by omega, Int32.ofNat_add]; rfl]
    exact hK
theorem pn_11 : plainName "com/example/vigil_cache/vigilcache/HotKeyRuleWindowAsWrittenPinLaw" = true := by first | (simp [plainName, overriddenIn]; done) | decide +kernel
theorem ef_32 (m : MethodId) (x0 : Int64) (x1 : Addr) : entryFrame m #[(.long x0), (.ref x1)] 4 = mkF m 0 #[.val (.long x0), .second, .val (.ref x1), .unset] [] := by first | (simp [entryFrame, mkF, argsToLocals, Value.category]; done) | rfl
def Q_rm32 (Z : State) (q0 : Int64) (r1 : Addr) (d w : Nat) (h0 : Heap) (n0 : Nat) (v : Option Value) (h : Heap) (L : List Loc) : Prop := v = some (.int (Int32.ofNat d)) ∧ Fr n0 L ∧ h = h0
theorem d32_0 : decode method_3_code 0 = .ok (.iconst 1, 1) := by decide +kernel
theorem d32_1 : decode method_3_code 1 = .ok (.istore_n 3, 1) := by decide +kernel
theorem d32_303 : decode method_3_code 303 = .ok (.iload_n 3, 1) := by decide +kernel
theorem d32_304 : decode method_3_code 304 = .ok (.ireturn, 1) := by decide +kernel
set_option maxRecDepth 65536 in
set_option maxHeartbeats 40000000 in
theorem rm32 (l : Launch) (Z : State) (a0 : Array Value) (hw : ∀ d ∈ tables_1, d.before a0 Z = true) (ws : List Jvm.Cond) (q0 : Int64) (r1 : Addr) (d w : Nat) (h0 : Heap) (n0 : Nat) (TB : own_TB Z h0 r1) (hq : q0.toInt = (w : Int)) (D : own_D w d) (hd : d ≤ 19) :
    MetFree l (⟨"com/example/vigil_cache/vigilcache/HotKeyRuleWindowAsWrittenPinLaw", "digits", "(J[J)I"⟩ : MethodName) (head1 (Jvm.Cond.code (⟨"com/example/vigil_cache/vigilcache/HotKeyRuleWindowAsWrittenPinLaw", "digits", "(J[J)I"⟩ : MethodName) method_3_code 4 (some .int) :: ws) ({ frames := 0, cells := 0, slots := 0, locals := 0 } : Room)) (fun a U => a = #[(.long q0), (.ref r1)] ∧ Z.Warmed39 U.vm ∧ U.heap = h0) (fun _ _ _ _ _ => True) (fun _ U o U' => ∃ v L, o = .returned v ∧ Q_rm32 Z q0 r1 d w h0 n0 v U'.heap L ∧ FrameEnd U o U' L ({ frames := 0, cells := 0, slots := 0, locals := 0 } : Room).cells ({ frames := 0, cells := 0, slots := 0, locals := 0 } : Room).slots) := by
  refine MetFree.of_bodySF (plainFor_of_name pn_11) hisR ?_
  intro p e s m args below meth c s₁ Bd hml0 hP hK
  obtain ⟨rfl, hZ, hh⟩ := hP
  have hx := Bd.exec
  have hby := Bd.bytes
  have hml : c.maxLocals = 4 := hml0
  have hown : s.vm.findClass "com/example/vigil_cache/vigilcache/HotKeyRuleWindowAsWrittenPinLaw" = some m.cls := findClass_of_methodNamed Bd.named
  have hnm := (name_of_methodNamed Bd.named Bd.method).1
  have X0 : Stand p l e ({ frames := 0, cells := 0, slots := 0, locals := 0 } : Room) s m #[(.long q0), (.ref r1)] below meth c s₁ [] 0 0 := Stand.of_body Bd
  have e0 : s₁.heap = h0 := by rw [← hh, Bd.state]; rfl
  have N0 := Fr.nil n0
  refine Onw.of (Onw.go (fun _ k => castTop (ef_32 m q0 r1) k) ?_)
  show Onw p e below _ (s₁.setTop (mkF m 0 #[.val (.long q0), .second, .val (.ref r1), .unset] []))
  refine Onw.go (fun _ kt => XS.iconst X0.here hx rfl (hb hby d32_0) kt) ?_
  show Onw p e below _ (s₁.setTop (mkF m 1 #[.val (.long q0), .second, .val (.ref r1), .unset] [(.int (1 : Int32))]))
  refine Onw.go (fun _ kt => XS.istoreN X0.here hx rfl (hb hby d32_1) rfl (l' := #[.val (.long q0), .second, .val (.ref r1), .val (.int (1 : Int32))]) rfl kt) ?_
  show Onw p e below _ (s₁.setTop (mkF m 2 #[.val (.long q0), .second, .val (.ref r1), .val (.int (1 : Int32))] []))
  rw [show (1 : Int32) = Int32.ofNat (min 1 d) from by rw [show min 1 d = 1 from by have := D.1; omega]; rfl]
  show Onw p e below _ (s₁.setTop (mkF m 2 #[.val (.long q0), .second, .val (.ref r1), .val (.int (Int32.ofNat (min 1 d)))] []))
  refine dg_1 hx hZ hw hby hml hown q0 r1 d w X0 e0 N0 TB hq D ?_
  refine dg_2 hx hZ hw hby hml hown q0 r1 d w X0 e0 N0 TB hq D ?_
  refine dg_3 hx hZ hw hby hml hown q0 r1 d w X0 e0 N0 TB hq D ?_
  refine dg_4 hx hZ hw hby hml hown q0 r1 d w X0 e0 N0 TB hq D ?_
  refine dg_5 hx hZ hw hby hml hown q0 r1 d w X0 e0 N0 TB hq D ?_
  refine dg_6 hx hZ hw hby hml hown q0 r1 d w X0 e0 N0 TB hq D ?_
  refine dg_7 hx hZ hw hby hml hown q0 r1 d w X0 e0 N0 TB hq D ?_
  refine dg_8 hx hZ hw hby hml hown q0 r1 d w X0 e0 N0 TB hq D ?_
  refine dg_9 hx hZ hw hby hml hown q0 r1 d w X0 e0 N0 TB hq D ?_
  refine dg_10 hx hZ hw hby hml hown q0 r1 d w X0 e0 N0 TB hq D ?_
  refine dg_11 hx hZ hw hby hml hown q0 r1 d w X0 e0 N0 TB hq D ?_
  refine dg_12 hx hZ hw hby hml hown q0 r1 d w X0 e0 N0 TB hq D ?_
  refine dg_13 hx hZ hw hby hml hown q0 r1 d w X0 e0 N0 TB hq D ?_
  refine dg_14 hx hZ hw hby hml hown q0 r1 d w X0 e0 N0 TB hq D ?_
  refine dg_15 hx hZ hw hby hml hown q0 r1 d w X0 e0 N0 TB hq D ?_
  refine dg_16 hx hZ hw hby hml hown q0 r1 d w X0 e0 N0 TB hq D ?_
  refine dg_17 hx hZ hw hby hml hown q0 r1 d w X0 e0 N0 TB hq D ?_
  refine dg_18 hx hZ hw hby hml hown q0 r1 d w X0 e0 N0 TB hq D ?_
  show Onw p e below _ (s₁.setTop (mkF m 303 #[.val (.long q0), .second, .val (.ref r1), .val (.int (Int32.ofNat (min 19 d)))] []))
  refine Onw.go (fun _ kt => XS.iloadN X0.here hx rfl (hb hby d32_303) rfl kt) ?_
  show Onw p e below _ (s₁.setTop (mkF m 304 #[.val (.long q0), .second, .val (.ref r1), .val (.int (Int32.ofNat (min 19 d)))] [(.int (Int32.ofNat (min 19 d)))]))
  have e9 : min 19 d = d := by omega
  exact Onw.ret X0 Bd.notSynchronized (fun h => by rw [Bd.returns] at h; cases h) (fun fs hr => retI X0 hx Bd.returns (hb hby d32_304) hr) ⟨(by rw [e9]), N0, e0⟩ (by decide) (by decide)
theorem ef_38 (m : MethodId) (x0 : Addr) (x1 : Int64) (x2 : Int32) (x3 : Int32) (x4 : Addr) : entryFrame m #[(.ref x0), (.long x1), (.int x2), (.int x3), (.ref x4)] 8 = mkF m 0 #[.val (.ref x0), .val (.long x1), .second, .val (.int x2), .val (.int x3), .val (.ref x4), .unset, .unset] [] := by first | (simp [entryFrame, mkF, argsToLocals, Value.category]; done) | rfl
def Q_rm38 (Z : State) (r0 : Addr) (q1 : Int64) (p2 : Int32) (p3 : Int32) (r4 : Addr) (zc : Int32) (t : Addr) (fm : Value) (kt : ClassId) (zs : List Int32) (i d w : Nat) (h0 : Heap) (n0 : Nat) (v : Option Value) (h : Heap) (L : List Loc) : Prop := v = some (.int (1 : Int32)) ∧ Fr n0 L ∧ h = h0
theorem d38_0 : decode method_4_code 0 = .ok (.iload 4, 2) := by decide +kernel
theorem d38_2 : decode method_4_code 2 = .ok (.iload_n 3, 1) := by decide +kernel
theorem d38_3 : decode method_4_code 3 = .ok (.if_icmp .lt 5, 3) := by decide +kernel
theorem d38_6 : decode method_4_code 6 = .ok (.iconst 1, 1) := by decide +kernel
theorem d38_7 : decode method_4_code 7 = .ok (.ireturn, 1) := by decide +kernel
theorem d38_8 : decode method_4_code 8 = .ok (.lload_n 1, 1) := by decide +kernel
theorem d38_9 : decode method_4_code 9 = .ok (.aload 5, 2) := by decide +kernel
theorem d38_11 : decode method_4_code 11 = .ok (.iload_n 3, 1) := by decide +kernel
theorem d38_12 : decode method_4_code 12 = .ok (.iconst 1, 1) := by decide +kernel
theorem d38_13 : decode method_4_code 13 = .ok (.isub, 1) := by decide +kernel
theorem d38_14 : decode method_4_code 14 = .ok (.iload 4, 2) := by decide +kernel
theorem d38_16 : decode method_4_code 16 = .ok (.isub, 1) := by decide +kernel
theorem d38_17 : decode method_4_code 17 = .ok (.laload, 1) := by decide +kernel
theorem d38_18 : decode method_4_code 18 = .ok (.ldiv, 1) := by decide +kernel
theorem d38_19 : decode method_4_code 19 = .ok (.ldc2_w 23, 3) := by decide +kernel
theorem d38_22 : decode method_4_code 22 = .ok (.lrem, 1) := by decide +kernel
theorem d38_23 : decode method_4_code 23 = .ok (.lstore 6, 2) := by decide +kernel
theorem d38_25 : decode method_4_code 25 = .ok (.aload_n 0, 1) := by decide +kernel
theorem d38_26 : decode method_4_code 26 = .ok (.iload 4, 2) := by decide +kernel
theorem d38_28 : decode method_4_code 28 = .ok (.invokevirtual 80, 3) := by decide +kernel
theorem d38_31 : decode method_4_code 31 = .ok (.bipush 48, 2) := by decide +kernel
theorem d38_33 : decode method_4_code 33 = .ok (.lload 6, 2) := by decide +kernel
theorem d38_35 : decode method_4_code 35 = .ok (.l2i, 1) := by decide +kernel
theorem d38_36 : decode method_4_code 36 = .ok (.iadd, 1) := by decide +kernel
theorem d38_37 : decode method_4_code 37 = .ok (.i2c, 1) := by decide +kernel
theorem d38_38 : decode method_4_code 38 = .ok (.if_icmp .ne 7, 3) := by decide +kernel
theorem d38_41 : decode method_4_code 41 = .ok (.iconst 1, 1) := by decide +kernel
theorem d38_42 : decode method_4_code 42 = .ok (.goto 4, 3) := by decide +kernel
theorem d38_46 : decode method_4_code 46 = .ok (.ireturn, 1) := by decide +kernel
set_option maxRecDepth 65536 in
set_option maxHeartbeats 40000000 in
theorem rm38 (l : Launch) (Z : State) (a0 : Array Value) (hw : ∀ d ∈ tables_1, d.before a0 Z = true) (ws : List Jvm.Cond) (r0 : Addr) (q1 : Int64) (p2 : Int32) (p3 : Int32) (r4 : Addr) (zc : Int32) (t : Addr) (fm : Value) (kt : ClassId) (zs : List Int32) (i d w : Nat) (h0 : Heap) (n0 : Nat) (M0 : own_ST Z h0 r0 t) (V0 : Arv Z h0 t kt .byte (Int32.ofNat (zs).length) ((zs).map Value.int) (.int (0 : Int32))) (lz : zs.length ≤ 1000) (hz1 : d ≤ zs.length) (hv : ∀ i, i < d → zs[i]? = some (Int32.ofNat (48 + w / 10 ^ (d - 1 - i) % 10))) (TB : own_TB Z h0 r4) (hq : q1.toInt = (w : Int)) (hd : d ≤ 19) (hp2 : p2 = Int32.ofNat d) (hp3 : p3 = Int32.ofNat i) (hi19 : i < 19) (S_F : Sta Z h0 "jdk/internal/util/Preconditions" "SIOOBE_FORMATTER" "Ljava/util/function/BiFunction;" fm) (rf : fm.isRef = true) (S_C : Sta Z h0 "java/lang/String" "COMPACT_STRINGS" "Z" (.int zc)) (hz : ¬ zc = 0) :
    MetFree l (⟨"com/example/vigil_cache/vigilcache/HotKeyRuleWindowAsWrittenPinLaw", "digitOk", "(Ljava/lang/String;JII[J)Z"⟩ : MethodName) (head1 (Jvm.Cond.code (⟨"com/example/vigil_cache/vigilcache/HotKeyRuleWindowAsWrittenPinLaw", "digitOk", "(Ljava/lang/String;JII[J)Z"⟩ : MethodName) method_4_code 8 (some .boolean) :: ws) ({ frames := 4, cells := 0, slots := 0, locals := 53 } : Room)) (fun a U => a = #[(.ref r0), (.long q1), (.int p2), (.int p3), (.ref r4)] ∧ Z.Warmed39 U.vm ∧ U.heap = h0) (fun _ _ _ _ _ => True) (fun _ U o U' => ∃ v L, o = .returned v ∧ Q_rm38 Z r0 q1 p2 p3 r4 zc t fm kt zs i d w h0 n0 v U'.heap L ∧ FrameEnd U o U' L ({ frames := 4, cells := 0, slots := 0, locals := 53 } : Room).cells ({ frames := 4, cells := 0, slots := 0, locals := 53 } : Room).slots) := by
  refine MetFree.of_bodySF (plainFor_of_name pn_11) hisR ?_
  intro p e s m args below meth c s₁ Bd hml0 hP hK
  obtain ⟨rfl, hZ, hh⟩ := hP
  have hx := Bd.exec
  have hby := Bd.bytes
  have hml : c.maxLocals = 8 := hml0
  have hown : s.vm.findClass "com/example/vigil_cache/vigilcache/HotKeyRuleWindowAsWrittenPinLaw" = some m.cls := findClass_of_methodNamed Bd.named
  have hnm := (name_of_methodNamed Bd.named Bd.method).1
  have X0 : Stand p l e ({ frames := 4, cells := 0, slots := 0, locals := 53 } : Room) s m #[(.ref r0), (.long q1), (.int p2), (.int p3), (.ref r4)] below meth c s₁ [] 0 0 := Stand.of_body Bd
  have e0 : s₁.heap = h0 := by rw [← hh, Bd.state]; rfl
  have N0 := Fr.nil n0
  refine Onw.of (Onw.go (fun _ k => castTop (ef_38 m r0 q1 p2 p3 r4) k) ?_)
  show Onw p e below _ (s₁.setTop (mkF m 0 #[.val (.ref r0), .val (.long q1), .second, .val (.int p2), .val (.int p3), .val (.ref r4), .unset, .unset] []))
  subst hp2 hp3
  show Onw p e below _ (s₁.setTop (mkF m 0 #[.val (.ref r0), .val (.long q1), .second, .val (.int (Int32.ofNat d)), .val (.int (Int32.ofNat i)), .val (.ref r4), .unset, .unset] []))
  refine Onw.go (fun _ kt => XS.iload X0.here hx rfl (hb hby d38_0) rfl kt) ?_
  show Onw p e below _ (s₁.setTop (mkF m 2 #[.val (.ref r0), .val (.long q1), .second, .val (.int (Int32.ofNat d)), .val (.int (Int32.ofNat i)), .val (.ref r4), .unset, .unset] [(.int (Int32.ofNat i))]))
  refine Onw.go (fun _ kt => XS.iloadN X0.here hx rfl (hb hby d38_2) rfl kt) ?_
  show Onw p e below _ (s₁.setTop (mkF m 3 #[.val (.ref r0), .val (.long q1), .second, .val (.int (Int32.ofNat d)), .val (.int (Int32.ofNat i)), .val (.ref r4), .unset, .unset] [(.int (Int32.ofNat d)), (.int (Int32.ofNat i))]))
  by_cases h1 : (Int32.ofNat i) < (Int32.ofNat d)
  · refine Onw.go (fun _ kt => XS.icmpYes X0.here hx rfl (pc0 := 3) (pc' := 8) rfl (hb hby d38_3) rfl (tlt (h1 : (Int32.ofNat i) < (Int32.ofNat d))).1 (by decide) (by decide) kt) ?_
    show Onw p e below _ (s₁.setTop (mkF m 8 #[.val (.ref r0), .val (.long q1), .second, .val (.int (Int32.ofNat d)), .val (.int (Int32.ofNat i)), .val (.ref r4), .unset, .unset] []))
    have hi := (own_lt (i := i) (n := d) (by omega) (by omega)).mp h1
    obtain ⟨c1, A1, b1, b2⟩ := TB.at (r := d - 1 - i) (by omega)
    refine Onw.go (fun _ kt => XS.lloadN X0.here hx rfl (hb hby d38_8) rfl kt) ?_
    show Onw p e below _ (s₁.setTop (mkF m 9 #[.val (.ref r0), .val (.long q1), .second, .val (.int (Int32.ofNat d)), .val (.int (Int32.ofNat i)), .val (.ref r4), .unset, .unset] [(.long q1)]))
    refine Onw.go (fun _ kt => XS.aload X0.here hx rfl (hb hby d38_9) rfl rfl kt) ?_
    show Onw p e below _ (s₁.setTop (mkF m 11 #[.val (.ref r0), .val (.long q1), .second, .val (.int (Int32.ofNat d)), .val (.int (Int32.ofNat i)), .val (.ref r4), .unset, .unset] [(.ref r4), (.long q1)]))
    refine Onw.go (fun _ kt => XS.iloadN X0.here hx rfl (hb hby d38_11) rfl kt) ?_
    show Onw p e below _ (s₁.setTop (mkF m 12 #[.val (.ref r0), .val (.long q1), .second, .val (.int (Int32.ofNat d)), .val (.int (Int32.ofNat i)), .val (.ref r4), .unset, .unset] [(.int (Int32.ofNat d)), (.ref r4), (.long q1)]))
    refine Onw.go (fun _ kt => XS.iconst X0.here hx rfl (hb hby d38_12) kt) ?_
    show Onw p e below _ (s₁.setTop (mkF m 13 #[.val (.ref r0), .val (.long q1), .second, .val (.int (Int32.ofNat d)), .val (.int (Int32.ofNat i)), .val (.ref r4), .unset, .unset] [(.int (1 : Int32)), (.int (Int32.ofNat d)), (.ref r4), (.long q1)]))
    refine Onw.go (fun _ kt => XS.isub X0.here hx rfl (hb hby d38_13) rfl kt) ?_
    show Onw p e below _ (s₁.setTop (mkF m 14 #[.val (.ref r0), .val (.long q1), .second, .val (.int (Int32.ofNat d)), .val (.int (Int32.ofNat i)), .val (.ref r4), .unset, .unset] [(.int ((Int32.ofNat d) - (1 : Int32))), (.ref r4), (.long q1)]))
    refine Onw.go (fun _ kt => XS.iload X0.here hx rfl (hb hby d38_14) rfl kt) ?_
    show Onw p e below _ (s₁.setTop (mkF m 16 #[.val (.ref r0), .val (.long q1), .second, .val (.int (Int32.ofNat d)), .val (.int (Int32.ofNat i)), .val (.ref r4), .unset, .unset] [(.int (Int32.ofNat i)), (.int ((Int32.ofNat d) - (1 : Int32))), (.ref r4), (.long q1)]))
    refine Onw.go (fun _ kt => XS.isub X0.here hx rfl (hb hby d38_16) rfl kt) ?_
    show Onw p e below _ (s₁.setTop (mkF m 17 #[.val (.ref r0), .val (.long q1), .second, .val (.int (Int32.ofNat d)), .val (.int (Int32.ofNat i)), .val (.ref r4), .unset, .unset] [(.int (((Int32.ofNat d) - (1 : Int32)) - (Int32.ofNat i))), (.ref r4), (.long q1)]))
    rw [(own_dsub hi hd : (((Int32.ofNat d) - (1 : Int32)) - (Int32.ofNat i)) = (Int32.ofNat (d - 1 - i)))]
    show Onw p e below _ (s₁.setTop (mkF m 17 #[.val (.ref r0), .val (.long q1), .second, .val (.int (Int32.ofNat d)), .val (.int (Int32.ofNat i)), .val (.ref r4), .unset, .unset] [(.int (Int32.ofNat (d - 1 - i))), (.ref r4), (.long q1)]))
    refine Onw.go (X0.laload hx (j := (Int32.ofNat (d - 1 - i))) (v := (.long (Int64.ofNat (10 ^ (d - 1 - i))))) (by rw [e0]; exact A1.1) (State.isArrayOf_alike hZ.alike A1.2.1) A1.2.2 b1 b2 (g := (mkF m 17 #[.val (.ref r0), .val (.long q1), .second, .val (.int (Int32.ofNat d)), .val (.int (Int32.ofNat i)), .val (.ref r4), .unset, .unset] [(.int (Int32.ofNat (d - 1 - i))), (.ref r4), (.long q1)])) rfl rfl (hb hby d38_17)) ?_
    show Onw p e below _ (s₁.setTop (mkF m 18 #[.val (.ref r0), .val (.long q1), .second, .val (.int (Int32.ofNat d)), .val (.int (Int32.ofNat i)), .val (.ref r4), .unset, .unset] [(.long (Int64.ofNat (10 ^ (d - 1 - i)))), (.long q1)]))
    refine Onw.go (fun _ kt => XS.ldiv X0.here hx rfl (hb hby d38_18) rfl (own_p10nz (by omega)) kt) ?_
    show Onw p e below _ (s₁.setTop (mkF m 19 #[.val (.ref r0), .val (.long q1), .second, .val (.int (Int32.ofNat d)), .val (.int (Int32.ofNat i)), .val (.ref r4), .unset, .unset] [(.long (q1 / (Int64.ofNat (10 ^ (d - 1 - i)))))]))
    refine Onw.go (X0.ldc2Long hx hown (mvT hZ (hw _ (own_mg (i := 7) rfl))) (g := (mkF m 19 #[.val (.ref r0), .val (.long q1), .second, .val (.int (Int32.ofNat d)), .val (.int (Int32.ofNat i)), .val (.ref r4), .unset, .unset] [(.long (q1 / (Int64.ofNat (10 ^ (d - 1 - i)))))])) rfl (hb hby d38_19)) ?_
    show Onw p e below _ (s₁.setTop (mkF m 22 #[.val (.ref r0), .val (.long q1), .second, .val (.int (Int32.ofNat d)), .val (.int (Int32.ofNat i)), .val (.ref r4), .unset, .unset] [(.long (10 : Int64)), (.long (q1 / (Int64.ofNat (10 ^ (d - 1 - i)))))]))
    refine Onw.go (fun _ kt => XS.lrem X0.here hx rfl (hb hby d38_22) rfl (by decide) (by rw [lrem_mod]; exact kt)) ?_
    show Onw p e below _ (s₁.setTop (mkF m 23 #[.val (.ref r0), .val (.long q1), .second, .val (.int (Int32.ofNat d)), .val (.int (Int32.ofNat i)), .val (.ref r4), .unset, .unset] [(.long ((q1 / (Int64.ofNat (10 ^ (d - 1 - i)))) % (10 : Int64)))]))
    refine Onw.go (fun _ kt => XS.lstore X0.here hx rfl (hb hby d38_23) rfl (l' := #[.val (.ref r0), .val (.long q1), .second, .val (.int (Int32.ofNat d)), .val (.int (Int32.ofNat i)), .val (.ref r4), .val (.long ((q1 / (Int64.ofNat (10 ^ (d - 1 - i)))) % (10 : Int64))), .second]) rfl kt) ?_
    show Onw p e below _ (s₁.setTop (mkF m 25 #[.val (.ref r0), .val (.long q1), .second, .val (.int (Int32.ofNat d)), .val (.int (Int32.ofNat i)), .val (.ref r4), .val (.long ((q1 / (Int64.ofNat (10 ^ (d - 1 - i)))) % (10 : Int64))), .second] []))
    refine Onw.go (fun _ kt => XS.aloadN X0.here hx rfl (hb hby d38_25) rfl rfl kt) ?_
    show Onw p e below _ (s₁.setTop (mkF m 26 #[.val (.ref r0), .val (.long q1), .second, .val (.int (Int32.ofNat d)), .val (.int (Int32.ofNat i)), .val (.ref r4), .val (.long ((q1 / (Int64.ofNat (10 ^ (d - 1 - i)))) % (10 : Int64))), .second] [(.ref r0)]))
    refine Onw.go (fun _ kt => XS.iload X0.here hx rfl (hb hby d38_26) rfl kt) ?_
    show Onw p e below _ (s₁.setTop (mkF m 28 #[.val (.ref r0), .val (.long q1), .second, .val (.int (Int32.ofNat d)), .val (.int (Int32.ofNat i)), .val (.ref r4), .val (.long ((q1 / (Int64.ofNat (10 ^ (d - 1 - i)))) % (10 : Int64))), .second] [(.int (Int32.ofNat i)), (.ref r0)]))
    obtain ⟨cq1, kq1, q1a, q1b, q1c⟩ := isOf hZ e0 M0.1
    obtain ⟨_, _, ⟨T1, L1, k1, n1⟩, -, X1, ⟨Lc1, hQ1, l1, y1, z1⟩, st1⟩ := X0.virtualBack hx (y := (⟨"java/lang/String", "charAt", "(I)C"⟩ : MethodName)) (z := (⟨"java/lang/String", "charAt", "(I)C"⟩ : MethodName)) hown (mvT hZ (hw _ (own_mg (i := 211) rfl))) (mvT hZ (hw _ (own_mg (i := 212) rfl))) (notFace_of_selects (args := #[]) (mvT hZ (hw _ (own_mg (i := 214) rfl)))) (mvT hZ (hw _ (own_mg (i := 214) rfl))) (mvT hZ (hw _ (own_mg (i := 213) rfl))) (by decide) (backOf (W := 0) (rm33 l Z a0 hw [] r0 (Int32.ofNat i) zc t fm kt zs i (48 + w / 10 ^ (d - 1 - i) % 10) h0 n0 M0 V0 lz (by omega) rfl (hv i hi) (by omega) S_F rf S_C hz) hZ (hw _ (own_mg (i := 215) rfl)) (hw _ (own_mg (i := 40) rfl)) (by decide) (by decide)) q1a q1c (g := (mkF m 28 #[.val (.ref r0), .val (.long q1), .second, .val (.int (Int32.ofNat d)), .val (.int (Int32.ofNat i)), .val (.ref r4), .val (.long ((q1 / (Int64.ofNat (10 ^ (d - 1 - i)))) % (10 : Int64))), .second] [(.int (Int32.ofNat i)), (.ref r0)])) rfl (by rw [hml]; rfl) (Steps.refl _) (argsL := [(.int (Int32.ofNat i))]) (rest := []) (lenOf pd_26 rfl) rfl (by show 2 * 0 + _ ≤ _; exact Nat.le_of_eq rfl) (hb hby d38_28) (fun _ _ => ⟨rfl, e0, (by decide : 0 + 0 ≤ _), (by decide : 0 + 0 ≤ _)⟩)
    dsimp only [Pt.U, Pt.locs, Pt.cells, Pt.slots] at X1 l1 y1 z1 st1 hQ1
    subst l1 y1 z1
    obtain ⟨rfl, N1q, e1q⟩ := hQ1
    have N1 := Fr.app N0 N1q
    refine Onw.go (fun _ kt => st1.trans kt) ?_
    show Onw p e below _ (T1.setTop (mkF m 31 #[.val (.ref r0), .val (.long q1), .second, .val (.int (Int32.ofNat d)), .val (.int (Int32.ofNat i)), .val (.ref r4), .val (.long ((q1 / (Int64.ofNat (10 ^ (d - 1 - i)))) % (10 : Int64))), .second] [(.int (Int32.ofNat (48 + w / 10 ^ (d - 1 - i) % 10)))]))
    refine Onw.go (fun _ kt => XS.bipush X1.here hx rfl (hb hby d38_31) kt) ?_
    show Onw p e below _ (T1.setTop (mkF m 33 #[.val (.ref r0), .val (.long q1), .second, .val (.int (Int32.ofNat d)), .val (.int (Int32.ofNat i)), .val (.ref r4), .val (.long ((q1 / (Int64.ofNat (10 ^ (d - 1 - i)))) % (10 : Int64))), .second] [(.int (48 : Int32)), (.int (Int32.ofNat (48 + w / 10 ^ (d - 1 - i) % 10)))]))
    refine Onw.go (fun _ kt => XS.lload X1.here hx rfl (hb hby d38_33) rfl kt) ?_
    show Onw p e below _ (T1.setTop (mkF m 35 #[.val (.ref r0), .val (.long q1), .second, .val (.int (Int32.ofNat d)), .val (.int (Int32.ofNat i)), .val (.ref r4), .val (.long ((q1 / (Int64.ofNat (10 ^ (d - 1 - i)))) % (10 : Int64))), .second] [(.long ((q1 / (Int64.ofNat (10 ^ (d - 1 - i)))) % (10 : Int64))), (.int (48 : Int32)), (.int (Int32.ofNat (48 + w / 10 ^ (d - 1 - i) % 10)))]))
    refine Onw.go (fun _ kt => XS.l2i X1.here hx rfl (hb hby d38_35) rfl kt) ?_
    show Onw p e below _ (T1.setTop (mkF m 36 #[.val (.ref r0), .val (.long q1), .second, .val (.int (Int32.ofNat d)), .val (.int (Int32.ofNat i)), .val (.ref r4), .val (.long ((q1 / (Int64.ofNat (10 ^ (d - 1 - i)))) % (10 : Int64))), .second] [(.int (((q1 / (Int64.ofNat (10 ^ (d - 1 - i)))) % (10 : Int64)).toInt32)), (.int (48 : Int32)), (.int (Int32.ofNat (48 + w / 10 ^ (d - 1 - i) % 10)))]))
    refine Onw.go (fun _ kt => XS.iadd X1.here hx rfl (hb hby d38_36) rfl kt) ?_
    show Onw p e below _ (T1.setTop (mkF m 37 #[.val (.ref r0), .val (.long q1), .second, .val (.int (Int32.ofNat d)), .val (.int (Int32.ofNat i)), .val (.ref r4), .val (.long ((q1 / (Int64.ofNat (10 ^ (d - 1 - i)))) % (10 : Int64))), .second] [(.int ((48 : Int32) + (((q1 / (Int64.ofNat (10 ^ (d - 1 - i)))) % (10 : Int64)).toInt32))), (.int (Int32.ofNat (48 + w / 10 ^ (d - 1 - i) % 10)))]))
    refine Onw.go (fun _ kt => XS.i2c X1.here hx rfl (hb hby d38_37) rfl kt) ?_
    show Onw p e below _ (T1.setTop (mkF m 38 #[.val (.ref r0), .val (.long q1), .second, .val (.int (Int32.ofNat d)), .val (.int (Int32.ofNat i)), .val (.ref r4), .val (.long ((q1 / (Int64.ofNat (10 ^ (d - 1 - i)))) % (10 : Int64))), .second] [(.int (((48 : Int32) + (((q1 / (Int64.ofNat (10 ^ (d - 1 - i)))) % (10 : Int64)).toInt32)).toUInt32.toUInt16.toUInt32.toInt32)), (.int (Int32.ofNat (48 + w / 10 ^ (d - 1 - i) % 10)))]))
    rw [(own_dg hq (by omega) : (((48 : Int32) + (((q1 / (Int64.ofNat (10 ^ (d - 1 - i)))) % (10 : Int64)).toInt32)).toUInt32.toUInt16.toUInt32.toInt32) = (Int32.ofNat (48 + w / 10 ^ (d - 1 - i) % 10)))]
    show Onw p e below _ (T1.setTop (mkF m 38 #[.val (.ref r0), .val (.long q1), .second, .val (.int (Int32.ofNat d)), .val (.int (Int32.ofNat i)), .val (.ref r4), .val (.long ((q1 / (Int64.ofNat (10 ^ (d - 1 - i)))) % (10 : Int64))), .second] [(.int (Int32.ofNat (48 + w / 10 ^ (d - 1 - i) % 10))), (.int (Int32.ofNat (48 + w / 10 ^ (d - 1 - i) % 10)))]))
    refine Onw.go (fun _ kt => XS.icmpNo X1.here hx rfl (hb hby d38_38) rfl (teq (rfl : (Int32.ofNat (48 + w / 10 ^ (d - 1 - i) % 10)) = (Int32.ofNat (48 + w / 10 ^ (d - 1 - i) % 10)))).2 kt) ?_
    show Onw p e below _ (T1.setTop (mkF m 41 #[.val (.ref r0), .val (.long q1), .second, .val (.int (Int32.ofNat d)), .val (.int (Int32.ofNat i)), .val (.ref r4), .val (.long ((q1 / (Int64.ofNat (10 ^ (d - 1 - i)))) % (10 : Int64))), .second] []))
    refine Onw.go (fun _ kt => XS.iconst X1.here hx rfl (hb hby d38_41) kt) ?_
    show Onw p e below _ (T1.setTop (mkF m 42 #[.val (.ref r0), .val (.long q1), .second, .val (.int (Int32.ofNat d)), .val (.int (Int32.ofNat i)), .val (.ref r4), .val (.long ((q1 / (Int64.ofNat (10 ^ (d - 1 - i)))) % (10 : Int64))), .second] [(.int (1 : Int32))]))
    refine Onw.go (fun _ kt => XS.goto X1.here hx rfl (pc0 := 42) (pc' := 46) rfl (hb hby d38_42) (by decide) (by decide) kt) ?_
    show Onw p e below _ (T1.setTop (mkF m 46 #[.val (.ref r0), .val (.long q1), .second, .val (.int (Int32.ofNat d)), .val (.int (Int32.ofNat i)), .val (.ref r4), .val (.long ((q1 / (Int64.ofNat (10 ^ (d - 1 - i)))) % (10 : Int64))), .second] [(.int (1 : Int32))]))
    exact Onw.ret X1 Bd.notSynchronized (fun h => by rw [Bd.returns] at h; cases h) (fun fs hr => retN X1 hx (t := .boolean) Bd.returns (by simp) (hb hby d38_46) hr) ⟨rfl, N1, e1q⟩ (by decide) (by decide)
  · refine Onw.go (fun _ kt => XS.icmpNo X0.here hx rfl (hb hby d38_3) rfl (flt (h1 : ¬ ((Int32.ofNat i) < (Int32.ofNat d)))).1 kt) ?_
    show Onw p e below _ (s₁.setTop (mkF m 6 #[.val (.ref r0), .val (.long q1), .second, .val (.int (Int32.ofNat d)), .val (.int (Int32.ofNat i)), .val (.ref r4), .unset, .unset] []))
    refine Onw.go (fun _ kt => XS.iconst X0.here hx rfl (hb hby d38_6) kt) ?_
    show Onw p e below _ (s₁.setTop (mkF m 7 #[.val (.ref r0), .val (.long q1), .second, .val (.int (Int32.ofNat d)), .val (.int (Int32.ofNat i)), .val (.ref r4), .unset, .unset] [(.int (1 : Int32))]))
    exact Onw.ret X0 Bd.notSynchronized (fun h => by rw [Bd.returns] at h; cases h) (fun fs hr => retN X0 hx (t := .boolean) Bd.returns (by simp) (hb hby d38_7) hr) ⟨rfl, N0, e0⟩ (by decide) (by decide)
theorem own_o100 : ∀ i : Fin 100, (48 : Int32) + Int32.ofNat i.val % (10 : Int32) = Int32.ofNat (48 + i.val % 10) := by decide +kernel
theorem own_t100 : ∀ i : Fin 100, (48 : Int32) + Int32.ofNat i.val / (10 : Int32) = Int32.ofNat (48 + i.val / 10) := by decide +kernel
theorem own_dgstart {s : State} {args : Array Value} {T E : Term} {f : Nat → Nat} (hT : ∀ idx, T.eval args s none idx s = T.eval args s none [] s) (hE : ∀ i, i < 100 → E.eval args s none [i] s = some (.int (Int32.ofNat (48 + f i)))) (wB : (Jvm.Cond.arrayClass .byte).before args s = true)
    (he : (Jvm.Cond.exactly T "[B").value args s none s [] = some true) (hl : (Jvm.Cond.eq (.length T) (.int 100)).value args s none s [] = some true) (ha : (Jvm.Cond.all T (.eq (.elem T (.index 0)) E)).value args s none s [] = some true) :
    ∃ o, T.eval args s none [] s = some (.ref o) ∧ own_DG s s.heap o f ∧ o < s.heap.size := by
  obtain ⟨o, c, cell, k, ev, hc, hcell, hk, hst, hcls, -⟩ := Cond.exactly_spec (beq_iff_eq.mpr he : (Jvm.Cond.exactly T "[B").holds args s none s [] = true)
  have hlen := Cond.eq_int (Cond.before_iff.mpr hl) rfl
  have hA : ∃ cl, s.arrayAt? o = some cl := by
    cases q : s.arrayAt? o with
    | none => simp [Term.eval, ev, q] at hlen
    | some cl => exact ⟨cl, rfl⟩
  obtain ⟨cl, hA⟩ := hA
  have h31 := SBG.length_lt ev hA hlen
  have hl2 := (len_f ev hA h31).symm.trans hlen
  have hl3 : cl.slots.size.toInt32 = 100 := Value.int.inj (Option.some.inj hl2)
  have hsz : cl.slots.size = 100 := by
    have q := congrArg Int32.toInt hl3
    rw [len_toInt h31] at q
    have : (100 : Int32).toInt = 100 := rfl
    omega
  have hsp := State.arrayAt?_spec hA
  have hc1 : s.heap[o]? = some cl := hsp.1
  have e1 : cell = cl := Option.some.inj (hcell.symm.trans hc1)
  subst e1
  have hun : cell.vm ≠ .unknown := fun q => by simp [State.arrayAt?, hcell, q] at hA
  obtain ⟨c2, k2, comp, b1, b2, b3⟩ := Cond.arrayClass_spec wB
  have e2 : c2 = cell.cls := by
    have z : s.vm.findClass "[B" = some c2 := b1
    rw [hcls]
    exact Option.some.inj (z.symm.trans hc)
  have hAr : Arr s s.heap o cell .byte := ⟨hcell, ⟨fun q z => (by rw [z] at hst; cases hst), k2, by rw [← e2]; exact b2, comp, b3⟩, hun⟩
  refine ⟨o, ev, ⟨cell, hAr, hsz, fun i hi => ?_⟩, (Array.getElem?_eq_some_iff.mp hcell).1⟩
  have a1 := Cond.all_elim ev hA ha i (by omega)
  have a2 := Cond.eq_int (beq_iff_eq.mpr a1 : (Jvm.Cond.eq (.elem T (.index 0)) E).holds args s none s [i] = true) (hE i hi)
  have a3 := elem_f (a := .index 0) (j := Int32.ofNat i) ((hT [i]).trans ev) (Term.index_eval _) hA (own_nneg (by omega))
  rw [own_clamp (by omega)] at a3
  exact a3.symm.trans a2
theorem own_ee {a b c : Heap} (E : Ext a b) (F : Ext b c) : Ext a c := ⟨Nat.le_trans E.1 F.1, fun x y q => F.2 x y (E.2 x y q)⟩
theorem own_tbl (i : Nat) (h : i < 19) : ([.long 1, .long 10, .long 100, .long 1000, .long 10000, .long 100000, .long 1000000, .long 10000000, .long 100000000, .long 1000000000, .long 10000000000, .long 100000000000, .long 1000000000000, .long 10000000000000, .long 100000000000000, .long 1000000000000000, .long 10000000000000000, .long 100000000000000000, .long 1000000000000000000] : List Value).getD i (.long (0 : Int64)) = .long (Int64.ofNat (10 ^ i)) := by
  match i, h with
  | 0, _ => rfl
  | 1, _ => rfl
  | 2, _ => rfl
  | 3, _ => rfl
  | 4, _ => rfl
  | 5, _ => rfl
  | 6, _ => rfl
  | 7, _ => rfl
  | 8, _ => rfl
  | 9, _ => rfl
  | 10, _ => rfl
  | 11, _ => rfl
  | 12, _ => rfl
  | 13, _ => rfl
  | 14, _ => rfl
  | 15, _ => rfl
  | 16, _ => rfl
  | 17, _ => rfl
  | 18, _ => rfl
  | n + 19, h => exact absurd h (by omega)
theorem own_TBof {Z : State} {h : Heap} {o : Addr} {k : ClassId} (V : Arv Z h o k .long (19 : Int32) [.long 1, .long 10, .long 100, .long 1000, .long 10000, .long 100000, .long 1000000, .long 10000000, .long 100000000, .long 1000000000, .long 10000000000, .long 100000000000, .long 1000000000000, .long 10000000000000, .long 100000000000000, .long 1000000000000000, .long 10000000000000000, .long 100000000000000000, .long 1000000000000000000] (.long (0 : Int64))) : own_TB Z h o := by
  obtain ⟨c, A, q, S, Nn, H, G⟩ := V
  have hs : c.slots.size = 19 := S.trans (by decide)
  exact ⟨c, A, hs, fun i hi => by rw [H i (by omega), own_tbl i hi]⟩
set_option maxRecDepth 65536 in
set_option maxHeartbeats 40000000 in
theorem law_304 {p : Program} {l : Launch} {e : Env} {s : State} {m : MethodId} {args : Array Value} {below : List Frame} {meth : Method} {c : Code} {Z : State} {a0 : Array Value} {W : Outcome → State → Prop} (hx : p.tables.exec = Jvm.exec) (hZ : Z.Warmed39 s.vm) (hw : ∀ d ∈ tables_1, d.before a0 Z = true) (hby : c.code = code) (hml : c.maxLocals = 16) (hown : s.vm.findClass "com/example/vigil_cache/vigilcache/HotKeyRuleWindowAsWrittenPinLaw" = some m.cls) {h0 : Heap} {n0 : Nat}  (p0 p2 sc rq sl : Int32) (q1 lim lw : Int64) (ux tb hk uu bb : Addr) (kb : ClassId) (zs : List Int32) (dd ww : Nat) (zc : Int32) (fm : Value)
    {T0 : State} {locs0 : List Loc} (X0 : Stand p l e room_1 s m args below meth c T0 locs0 10 192) (e0 : T0.heap = h0) (N0 : Fr n0 locs0) (MM : own_ST Z h0 uu bb) (VV : Arv Z h0 bb kb .byte (Int32.ofNat (zs).length) ((zs).map Value.int) (.int (0 : Int32))) (lz : zs.length ≤ 1000) (lz2 : dd ≤ zs.length) (zd : ∀ i, i < dd → zs[i]? = some (Int32.ofNat (48 + ww / 10 ^ (dd - 1 - i) % 10))) (TB : own_TB Z h0 tb) (ww1 : lw.toInt = (ww : Int)) (hdd : dd ≤ 19) (S_F : Sta Z h0 "jdk/internal/util/Preconditions" "SIOOBE_FORMATTER" "Ljava/util/function/BiFunction;" fm) (rf : fm.isRef = true) (S_C : Sta Z h0 "java/lang/String" "COMPACT_STRINGS" "Z" (.int zc)) (hz : ¬ zc = 0) (hK : ∀ (T' : State) (locs' : List Loc), Stand p l e room_1 s m args below meth c T' locs' 10 192 → T'.heap = h0 → Fr n0 locs' → Onw p e below W (T'.setTop (mkF m 607 #[.val (.int p0), .val (.long q1), .second, .val (.int p2), .val (.int sc), .val (.ref ux), .val (.long lim), .second, .val (.long lw), .second, .val (.int rq), .val (.ref tb), .val (.ref hk), .val (.ref uu), .val (.int (Int32.ofNat dd)), .val (.int sl)] [(.int (1 : Int32))]))) :
    Onw p e below W (T0.setTop (mkF m 304 #[.val (.int p0), .val (.long q1), .second, .val (.int p2), .val (.int sc), .val (.ref ux), .val (.long lim), .second, .val (.long lw), .second, .val (.int rq), .val (.ref tb), .val (.ref hk), .val (.ref uu), .val (.int (Int32.ofNat dd)), .val (.int sl)] [])) := by
  refine Onw.go (fun _ kt => XS.aload X0.here hx rfl (hb hby at_304) rfl rfl kt) ?_
  show Onw p e below _ (T0.setTop (mkF m 306 #[.val (.int p0), .val (.long q1), .second, .val (.int p2), .val (.int sc), .val (.ref ux), .val (.long lim), .second, .val (.long lw), .second, .val (.int rq), .val (.ref tb), .val (.ref hk), .val (.ref uu), .val (.int (Int32.ofNat dd)), .val (.int sl)] [(.ref uu)]))
  refine Onw.go (fun _ kt => XS.lload X0.here hx rfl (hb hby at_306) rfl kt) ?_
  show Onw p e below _ (T0.setTop (mkF m 308 #[.val (.int p0), .val (.long q1), .second, .val (.int p2), .val (.int sc), .val (.ref ux), .val (.long lim), .second, .val (.long lw), .second, .val (.int rq), .val (.ref tb), .val (.ref hk), .val (.ref uu), .val (.int (Int32.ofNat dd)), .val (.int sl)] [(.long lw), (.ref uu)]))
  refine Onw.go (fun _ kt => XS.iload X0.here hx rfl (hb hby at_308) rfl kt) ?_
  show Onw p e below _ (T0.setTop (mkF m 310 #[.val (.int p0), .val (.long q1), .second, .val (.int p2), .val (.int sc), .val (.ref ux), .val (.long lim), .second, .val (.long lw), .second, .val (.int rq), .val (.ref tb), .val (.ref hk), .val (.ref uu), .val (.int (Int32.ofNat dd)), .val (.int sl)] [(.int (Int32.ofNat dd)), (.long lw), (.ref uu)]))
  refine Onw.go (fun _ kt => XS.iconst X0.here hx rfl (hb hby at_310) kt) ?_
  show Onw p e below _ (T0.setTop (mkF m 311 #[.val (.int p0), .val (.long q1), .second, .val (.int p2), .val (.int sc), .val (.ref ux), .val (.long lim), .second, .val (.long lw), .second, .val (.int rq), .val (.ref tb), .val (.ref hk), .val (.ref uu), .val (.int (Int32.ofNat dd)), .val (.int sl)] [(.int (0 : Int32)), (.int (Int32.ofNat dd)), (.long lw), (.ref uu)]))
  refine Onw.go (fun _ kt => XS.aload X0.here hx rfl (hb hby at_311) rfl rfl kt) ?_
  show Onw p e below _ (T0.setTop (mkF m 313 #[.val (.int p0), .val (.long q1), .second, .val (.int p2), .val (.int sc), .val (.ref ux), .val (.long lim), .second, .val (.long lw), .second, .val (.int rq), .val (.ref tb), .val (.ref hk), .val (.ref uu), .val (.int (Int32.ofNat dd)), .val (.int sl)] [(.ref tb), (.int (0 : Int32)), (.int (Int32.ofNat dd)), (.long lw), (.ref uu)]))
  obtain ⟨_, _, ⟨T1, L1, k1, n1⟩, -, X1, ⟨Lc1, hQ1, l1, y1, z1⟩, st1⟩ := Jvm.LawKit.callS X0 hx (y := (⟨"com/example/vigil_cache/vigilcache/HotKeyRuleWindowAsWrittenPinLaw", "digitOk", "(Ljava/lang/String;JII[J)Z"⟩ : MethodName)) hown (mvT hZ (hw _ (own_mg (i := 233) rfl))) (mvT hZ (hw _ (own_mg (i := 234) rfl))) (mvT hZ (hw _ (own_mg (i := 208) rfl))) (mvT hZ (hw _ (own_mg (i := 235) rfl))) (by decide) (backOf (W := 0) (rm38 l Z a0 hw [] uu lw (Int32.ofNat dd) (0 : Int32) tb zc bb fm kb zs 0 dd ww h0 n0 MM VV lz lz2 zd TB ww1 hdd rfl rfl (by decide) S_F rf S_C hz) hZ (hw _ (own_mg (i := 235) rfl)) (hw _ (own_mg (i := 208) rfl)) (by decide) (by decide)) (g := (mkF m 313 #[.val (.int p0), .val (.long q1), .second, .val (.int p2), .val (.int sc), .val (.ref ux), .val (.long lim), .second, .val (.long lw), .second, .val (.int rq), .val (.ref tb), .val (.ref hk), .val (.ref uu), .val (.int (Int32.ofNat dd)), .val (.int sl)] [(.ref tb), (.int (0 : Int32)), (.int (Int32.ofNat dd)), (.long lw), (.ref uu)])) rfl (by rw [hml]; rfl) (argsL := [(.ref uu), (.long lw), (.int (Int32.ofNat dd)), (.int (0 : Int32)), (.ref tb)]) (rest := []) (lenOf pd_29 rfl) rfl (by show 2 * 0 + _ ≤ _; exact Nat.le_of_eq rfl) (hb hby at_313) (fun _ _ => ⟨rfl, e0, (by decide : 10 + 0 ≤ _), (by decide : 192 + 0 ≤ _)⟩)
  dsimp only [Pt.U, Pt.locs, Pt.cells, Pt.slots] at X1 l1 y1 z1 st1 hQ1
  subst l1 y1 z1
  obtain ⟨rfl, N1q, e1q⟩ := hQ1
  have N1 := Fr.app N0 N1q
  refine Onw.go st1 ?_
  show Onw p e below _ (T1.setTop (mkF m 316 #[.val (.int p0), .val (.long q1), .second, .val (.int p2), .val (.int sc), .val (.ref ux), .val (.long lim), .second, .val (.long lw), .second, .val (.int rq), .val (.ref tb), .val (.ref hk), .val (.ref uu), .val (.int (Int32.ofNat dd)), .val (.int sl)] [(.int (1 : Int32))]))
  refine Onw.go (fun _ kt => XS.ifNo X1.here hx rfl (hb hby at_316) rfl ((if0 _ _).trans (feq (by decide : ¬ ((1 : Int32) = (0 : Int32)))).1) kt) ?_
  show Onw p e below _ (T1.setTop (mkF m 319 #[.val (.int p0), .val (.long q1), .second, .val (.int p2), .val (.int sc), .val (.ref ux), .val (.long lim), .second, .val (.long lw), .second, .val (.int rq), .val (.ref tb), .val (.ref hk), .val (.ref uu), .val (.int (Int32.ofNat dd)), .val (.int sl)] []))
  refine Onw.go (fun _ kt => XS.aload X1.here hx rfl (hb hby at_319) rfl rfl kt) ?_
  show Onw p e below _ (T1.setTop (mkF m 321 #[.val (.int p0), .val (.long q1), .second, .val (.int p2), .val (.int sc), .val (.ref ux), .val (.long lim), .second, .val (.long lw), .second, .val (.int rq), .val (.ref tb), .val (.ref hk), .val (.ref uu), .val (.int (Int32.ofNat dd)), .val (.int sl)] [(.ref uu)]))
  refine Onw.go (fun _ kt => XS.lload X1.here hx rfl (hb hby at_321) rfl kt) ?_
  show Onw p e below _ (T1.setTop (mkF m 323 #[.val (.int p0), .val (.long q1), .second, .val (.int p2), .val (.int sc), .val (.ref ux), .val (.long lim), .second, .val (.long lw), .second, .val (.int rq), .val (.ref tb), .val (.ref hk), .val (.ref uu), .val (.int (Int32.ofNat dd)), .val (.int sl)] [(.long lw), (.ref uu)]))
  refine Onw.go (fun _ kt => XS.iload X1.here hx rfl (hb hby at_323) rfl kt) ?_
  show Onw p e below _ (T1.setTop (mkF m 325 #[.val (.int p0), .val (.long q1), .second, .val (.int p2), .val (.int sc), .val (.ref ux), .val (.long lim), .second, .val (.long lw), .second, .val (.int rq), .val (.ref tb), .val (.ref hk), .val (.ref uu), .val (.int (Int32.ofNat dd)), .val (.int sl)] [(.int (Int32.ofNat dd)), (.long lw), (.ref uu)]))
  refine Onw.go (fun _ kt => XS.iconst X1.here hx rfl (hb hby at_325) kt) ?_
  show Onw p e below _ (T1.setTop (mkF m 326 #[.val (.int p0), .val (.long q1), .second, .val (.int p2), .val (.int sc), .val (.ref ux), .val (.long lim), .second, .val (.long lw), .second, .val (.int rq), .val (.ref tb), .val (.ref hk), .val (.ref uu), .val (.int (Int32.ofNat dd)), .val (.int sl)] [(.int (1 : Int32)), (.int (Int32.ofNat dd)), (.long lw), (.ref uu)]))
  refine Onw.go (fun _ kt => XS.aload X1.here hx rfl (hb hby at_326) rfl rfl kt) ?_
  show Onw p e below _ (T1.setTop (mkF m 328 #[.val (.int p0), .val (.long q1), .second, .val (.int p2), .val (.int sc), .val (.ref ux), .val (.long lim), .second, .val (.long lw), .second, .val (.int rq), .val (.ref tb), .val (.ref hk), .val (.ref uu), .val (.int (Int32.ofNat dd)), .val (.int sl)] [(.ref tb), (.int (1 : Int32)), (.int (Int32.ofNat dd)), (.long lw), (.ref uu)]))
  obtain ⟨_, _, ⟨T2, L2, k2, n2⟩, -, X2, ⟨Lc2, hQ2, l2, y2, z2⟩, st2⟩ := Jvm.LawKit.callS X1 hx (y := (⟨"com/example/vigil_cache/vigilcache/HotKeyRuleWindowAsWrittenPinLaw", "digitOk", "(Ljava/lang/String;JII[J)Z"⟩ : MethodName)) hown (mvT hZ (hw _ (own_mg (i := 233) rfl))) (mvT hZ (hw _ (own_mg (i := 234) rfl))) (mvT hZ (hw _ (own_mg (i := 208) rfl))) (mvT hZ (hw _ (own_mg (i := 235) rfl))) (by decide) (backOf (W := 0) (rm38 l Z a0 hw [] uu lw (Int32.ofNat dd) (1 : Int32) tb zc bb fm kb zs 1 dd ww h0 n0 MM VV lz lz2 zd TB ww1 hdd rfl rfl (by decide) S_F rf S_C hz) hZ (hw _ (own_mg (i := 235) rfl)) (hw _ (own_mg (i := 208) rfl)) (by decide) (by decide)) (g := (mkF m 328 #[.val (.int p0), .val (.long q1), .second, .val (.int p2), .val (.int sc), .val (.ref ux), .val (.long lim), .second, .val (.long lw), .second, .val (.int rq), .val (.ref tb), .val (.ref hk), .val (.ref uu), .val (.int (Int32.ofNat dd)), .val (.int sl)] [(.ref tb), (.int (1 : Int32)), (.int (Int32.ofNat dd)), (.long lw), (.ref uu)])) rfl (by rw [hml]; rfl) (argsL := [(.ref uu), (.long lw), (.int (Int32.ofNat dd)), (.int (1 : Int32)), (.ref tb)]) (rest := []) (lenOf pd_29 rfl) rfl (by show 2 * 0 + _ ≤ _; exact Nat.le_of_eq rfl) (hb hby at_328) (fun _ _ => ⟨rfl, e1q, (by decide : 10 + 0 ≤ _), (by decide : 192 + 0 ≤ _)⟩)
  dsimp only [Pt.U, Pt.locs, Pt.cells, Pt.slots] at X2 l2 y2 z2 st2 hQ2
  subst l2 y2 z2
  obtain ⟨rfl, N2q, e2q⟩ := hQ2
  have N2 := Fr.app N1 N2q
  refine Onw.go st2 ?_
  show Onw p e below _ (T2.setTop (mkF m 331 #[.val (.int p0), .val (.long q1), .second, .val (.int p2), .val (.int sc), .val (.ref ux), .val (.long lim), .second, .val (.long lw), .second, .val (.int rq), .val (.ref tb), .val (.ref hk), .val (.ref uu), .val (.int (Int32.ofNat dd)), .val (.int sl)] [(.int (1 : Int32))]))
  refine Onw.go (fun _ kt => XS.ifNo X2.here hx rfl (hb hby at_331) rfl ((if0 _ _).trans (feq (by decide : ¬ ((1 : Int32) = (0 : Int32)))).1) kt) ?_
  show Onw p e below _ (T2.setTop (mkF m 334 #[.val (.int p0), .val (.long q1), .second, .val (.int p2), .val (.int sc), .val (.ref ux), .val (.long lim), .second, .val (.long lw), .second, .val (.int rq), .val (.ref tb), .val (.ref hk), .val (.ref uu), .val (.int (Int32.ofNat dd)), .val (.int sl)] []))
  refine Onw.go (fun _ kt => XS.aload X2.here hx rfl (hb hby at_334) rfl rfl kt) ?_
  show Onw p e below _ (T2.setTop (mkF m 336 #[.val (.int p0), .val (.long q1), .second, .val (.int p2), .val (.int sc), .val (.ref ux), .val (.long lim), .second, .val (.long lw), .second, .val (.int rq), .val (.ref tb), .val (.ref hk), .val (.ref uu), .val (.int (Int32.ofNat dd)), .val (.int sl)] [(.ref uu)]))
  refine Onw.go (fun _ kt => XS.lload X2.here hx rfl (hb hby at_336) rfl kt) ?_
  show Onw p e below _ (T2.setTop (mkF m 338 #[.val (.int p0), .val (.long q1), .second, .val (.int p2), .val (.int sc), .val (.ref ux), .val (.long lim), .second, .val (.long lw), .second, .val (.int rq), .val (.ref tb), .val (.ref hk), .val (.ref uu), .val (.int (Int32.ofNat dd)), .val (.int sl)] [(.long lw), (.ref uu)]))
  refine Onw.go (fun _ kt => XS.iload X2.here hx rfl (hb hby at_338) rfl kt) ?_
  show Onw p e below _ (T2.setTop (mkF m 340 #[.val (.int p0), .val (.long q1), .second, .val (.int p2), .val (.int sc), .val (.ref ux), .val (.long lim), .second, .val (.long lw), .second, .val (.int rq), .val (.ref tb), .val (.ref hk), .val (.ref uu), .val (.int (Int32.ofNat dd)), .val (.int sl)] [(.int (Int32.ofNat dd)), (.long lw), (.ref uu)]))
  refine Onw.go (fun _ kt => XS.iconst X2.here hx rfl (hb hby at_340) kt) ?_
  show Onw p e below _ (T2.setTop (mkF m 341 #[.val (.int p0), .val (.long q1), .second, .val (.int p2), .val (.int sc), .val (.ref ux), .val (.long lim), .second, .val (.long lw), .second, .val (.int rq), .val (.ref tb), .val (.ref hk), .val (.ref uu), .val (.int (Int32.ofNat dd)), .val (.int sl)] [(.int (2 : Int32)), (.int (Int32.ofNat dd)), (.long lw), (.ref uu)]))
  refine Onw.go (fun _ kt => XS.aload X2.here hx rfl (hb hby at_341) rfl rfl kt) ?_
  show Onw p e below _ (T2.setTop (mkF m 343 #[.val (.int p0), .val (.long q1), .second, .val (.int p2), .val (.int sc), .val (.ref ux), .val (.long lim), .second, .val (.long lw), .second, .val (.int rq), .val (.ref tb), .val (.ref hk), .val (.ref uu), .val (.int (Int32.ofNat dd)), .val (.int sl)] [(.ref tb), (.int (2 : Int32)), (.int (Int32.ofNat dd)), (.long lw), (.ref uu)]))
  obtain ⟨_, _, ⟨T3, L3, k3, n3⟩, -, X3, ⟨Lc3, hQ3, l3, y3, z3⟩, st3⟩ := Jvm.LawKit.callS X2 hx (y := (⟨"com/example/vigil_cache/vigilcache/HotKeyRuleWindowAsWrittenPinLaw", "digitOk", "(Ljava/lang/String;JII[J)Z"⟩ : MethodName)) hown (mvT hZ (hw _ (own_mg (i := 233) rfl))) (mvT hZ (hw _ (own_mg (i := 234) rfl))) (mvT hZ (hw _ (own_mg (i := 208) rfl))) (mvT hZ (hw _ (own_mg (i := 235) rfl))) (by decide) (backOf (W := 0) (rm38 l Z a0 hw [] uu lw (Int32.ofNat dd) (2 : Int32) tb zc bb fm kb zs 2 dd ww h0 n0 MM VV lz lz2 zd TB ww1 hdd rfl rfl (by decide) S_F rf S_C hz) hZ (hw _ (own_mg (i := 235) rfl)) (hw _ (own_mg (i := 208) rfl)) (by decide) (by decide)) (g := (mkF m 343 #[.val (.int p0), .val (.long q1), .second, .val (.int p2), .val (.int sc), .val (.ref ux), .val (.long lim), .second, .val (.long lw), .second, .val (.int rq), .val (.ref tb), .val (.ref hk), .val (.ref uu), .val (.int (Int32.ofNat dd)), .val (.int sl)] [(.ref tb), (.int (2 : Int32)), (.int (Int32.ofNat dd)), (.long lw), (.ref uu)])) rfl (by rw [hml]; rfl) (argsL := [(.ref uu), (.long lw), (.int (Int32.ofNat dd)), (.int (2 : Int32)), (.ref tb)]) (rest := []) (lenOf pd_29 rfl) rfl (by show 2 * 0 + _ ≤ _; exact Nat.le_of_eq rfl) (hb hby at_343) (fun _ _ => ⟨rfl, e2q, (by decide : 10 + 0 ≤ _), (by decide : 192 + 0 ≤ _)⟩)
  dsimp only [Pt.U, Pt.locs, Pt.cells, Pt.slots] at X3 l3 y3 z3 st3 hQ3
  subst l3 y3 z3
  obtain ⟨rfl, N3q, e3q⟩ := hQ3
  have N3 := Fr.app N2 N3q
  refine Onw.go st3 ?_
  show Onw p e below _ (T3.setTop (mkF m 346 #[.val (.int p0), .val (.long q1), .second, .val (.int p2), .val (.int sc), .val (.ref ux), .val (.long lim), .second, .val (.long lw), .second, .val (.int rq), .val (.ref tb), .val (.ref hk), .val (.ref uu), .val (.int (Int32.ofNat dd)), .val (.int sl)] [(.int (1 : Int32))]))
  refine Onw.go (fun _ kt => XS.ifNo X3.here hx rfl (hb hby at_346) rfl ((if0 _ _).trans (feq (by decide : ¬ ((1 : Int32) = (0 : Int32)))).1) kt) ?_
  show Onw p e below _ (T3.setTop (mkF m 349 #[.val (.int p0), .val (.long q1), .second, .val (.int p2), .val (.int sc), .val (.ref ux), .val (.long lim), .second, .val (.long lw), .second, .val (.int rq), .val (.ref tb), .val (.ref hk), .val (.ref uu), .val (.int (Int32.ofNat dd)), .val (.int sl)] []))
  refine Onw.go (fun _ kt => XS.aload X3.here hx rfl (hb hby at_349) rfl rfl kt) ?_
  show Onw p e below _ (T3.setTop (mkF m 351 #[.val (.int p0), .val (.long q1), .second, .val (.int p2), .val (.int sc), .val (.ref ux), .val (.long lim), .second, .val (.long lw), .second, .val (.int rq), .val (.ref tb), .val (.ref hk), .val (.ref uu), .val (.int (Int32.ofNat dd)), .val (.int sl)] [(.ref uu)]))
  refine Onw.go (fun _ kt => XS.lload X3.here hx rfl (hb hby at_351) rfl kt) ?_
  show Onw p e below _ (T3.setTop (mkF m 353 #[.val (.int p0), .val (.long q1), .second, .val (.int p2), .val (.int sc), .val (.ref ux), .val (.long lim), .second, .val (.long lw), .second, .val (.int rq), .val (.ref tb), .val (.ref hk), .val (.ref uu), .val (.int (Int32.ofNat dd)), .val (.int sl)] [(.long lw), (.ref uu)]))
  refine Onw.go (fun _ kt => XS.iload X3.here hx rfl (hb hby at_353) rfl kt) ?_
  show Onw p e below _ (T3.setTop (mkF m 355 #[.val (.int p0), .val (.long q1), .second, .val (.int p2), .val (.int sc), .val (.ref ux), .val (.long lim), .second, .val (.long lw), .second, .val (.int rq), .val (.ref tb), .val (.ref hk), .val (.ref uu), .val (.int (Int32.ofNat dd)), .val (.int sl)] [(.int (Int32.ofNat dd)), (.long lw), (.ref uu)]))
  refine Onw.go (fun _ kt => XS.iconst X3.here hx rfl (hb hby at_355) kt) ?_
  show Onw p e below _ (T3.setTop (mkF m 356 #[.val (.int p0), .val (.long q1), .second, .val (.int p2), .val (.int sc), .val (.ref ux), .val (.long lim), .second, .val (.long lw), .second, .val (.int rq), .val (.ref tb), .val (.ref hk), .val (.ref uu), .val (.int (Int32.ofNat dd)), .val (.int sl)] [(.int (3 : Int32)), (.int (Int32.ofNat dd)), (.long lw), (.ref uu)]))
  refine Onw.go (fun _ kt => XS.aload X3.here hx rfl (hb hby at_356) rfl rfl kt) ?_
  show Onw p e below _ (T3.setTop (mkF m 358 #[.val (.int p0), .val (.long q1), .second, .val (.int p2), .val (.int sc), .val (.ref ux), .val (.long lim), .second, .val (.long lw), .second, .val (.int rq), .val (.ref tb), .val (.ref hk), .val (.ref uu), .val (.int (Int32.ofNat dd)), .val (.int sl)] [(.ref tb), (.int (3 : Int32)), (.int (Int32.ofNat dd)), (.long lw), (.ref uu)]))
  obtain ⟨_, _, ⟨T4, L4, k4, n4⟩, -, X4, ⟨Lc4, hQ4, l4, y4, z4⟩, st4⟩ := Jvm.LawKit.callS X3 hx (y := (⟨"com/example/vigil_cache/vigilcache/HotKeyRuleWindowAsWrittenPinLaw", "digitOk", "(Ljava/lang/String;JII[J)Z"⟩ : MethodName)) hown (mvT hZ (hw _ (own_mg (i := 233) rfl))) (mvT hZ (hw _ (own_mg (i := 234) rfl))) (mvT hZ (hw _ (own_mg (i := 208) rfl))) (mvT hZ (hw _ (own_mg (i := 235) rfl))) (by decide) (backOf (W := 0) (rm38 l Z a0 hw [] uu lw (Int32.ofNat dd) (3 : Int32) tb zc bb fm kb zs 3 dd ww h0 n0 MM VV lz lz2 zd TB ww1 hdd rfl rfl (by decide) S_F rf S_C hz) hZ (hw _ (own_mg (i := 235) rfl)) (hw _ (own_mg (i := 208) rfl)) (by decide) (by decide)) (g := (mkF m 358 #[.val (.int p0), .val (.long q1), .second, .val (.int p2), .val (.int sc), .val (.ref ux), .val (.long lim), .second, .val (.long lw), .second, .val (.int rq), .val (.ref tb), .val (.ref hk), .val (.ref uu), .val (.int (Int32.ofNat dd)), .val (.int sl)] [(.ref tb), (.int (3 : Int32)), (.int (Int32.ofNat dd)), (.long lw), (.ref uu)])) rfl (by rw [hml]; rfl) (argsL := [(.ref uu), (.long lw), (.int (Int32.ofNat dd)), (.int (3 : Int32)), (.ref tb)]) (rest := []) (lenOf pd_29 rfl) rfl (by show 2 * 0 + _ ≤ _; exact Nat.le_of_eq rfl) (hb hby at_358) (fun _ _ => ⟨rfl, e3q, (by decide : 10 + 0 ≤ _), (by decide : 192 + 0 ≤ _)⟩)
  dsimp only [Pt.U, Pt.locs, Pt.cells, Pt.slots] at X4 l4 y4 z4 st4 hQ4
  subst l4 y4 z4
  obtain ⟨rfl, N4q, e4q⟩ := hQ4
  have N4 := Fr.app N3 N4q
  refine Onw.go st4 ?_
  show Onw p e below _ (T4.setTop (mkF m 361 #[.val (.int p0), .val (.long q1), .second, .val (.int p2), .val (.int sc), .val (.ref ux), .val (.long lim), .second, .val (.long lw), .second, .val (.int rq), .val (.ref tb), .val (.ref hk), .val (.ref uu), .val (.int (Int32.ofNat dd)), .val (.int sl)] [(.int (1 : Int32))]))
  refine Onw.go (fun _ kt => XS.ifNo X4.here hx rfl (hb hby at_361) rfl ((if0 _ _).trans (feq (by decide : ¬ ((1 : Int32) = (0 : Int32)))).1) kt) ?_
  show Onw p e below _ (T4.setTop (mkF m 364 #[.val (.int p0), .val (.long q1), .second, .val (.int p2), .val (.int sc), .val (.ref ux), .val (.long lim), .second, .val (.long lw), .second, .val (.int rq), .val (.ref tb), .val (.ref hk), .val (.ref uu), .val (.int (Int32.ofNat dd)), .val (.int sl)] []))
  refine Onw.go (fun _ kt => XS.aload X4.here hx rfl (hb hby at_364) rfl rfl kt) ?_
  show Onw p e below _ (T4.setTop (mkF m 366 #[.val (.int p0), .val (.long q1), .second, .val (.int p2), .val (.int sc), .val (.ref ux), .val (.long lim), .second, .val (.long lw), .second, .val (.int rq), .val (.ref tb), .val (.ref hk), .val (.ref uu), .val (.int (Int32.ofNat dd)), .val (.int sl)] [(.ref uu)]))
  refine Onw.go (fun _ kt => XS.lload X4.here hx rfl (hb hby at_366) rfl kt) ?_
  show Onw p e below _ (T4.setTop (mkF m 368 #[.val (.int p0), .val (.long q1), .second, .val (.int p2), .val (.int sc), .val (.ref ux), .val (.long lim), .second, .val (.long lw), .second, .val (.int rq), .val (.ref tb), .val (.ref hk), .val (.ref uu), .val (.int (Int32.ofNat dd)), .val (.int sl)] [(.long lw), (.ref uu)]))
  refine Onw.go (fun _ kt => XS.iload X4.here hx rfl (hb hby at_368) rfl kt) ?_
  show Onw p e below _ (T4.setTop (mkF m 370 #[.val (.int p0), .val (.long q1), .second, .val (.int p2), .val (.int sc), .val (.ref ux), .val (.long lim), .second, .val (.long lw), .second, .val (.int rq), .val (.ref tb), .val (.ref hk), .val (.ref uu), .val (.int (Int32.ofNat dd)), .val (.int sl)] [(.int (Int32.ofNat dd)), (.long lw), (.ref uu)]))
  refine Onw.go (fun _ kt => XS.iconst X4.here hx rfl (hb hby at_370) kt) ?_
  show Onw p e below _ (T4.setTop (mkF m 371 #[.val (.int p0), .val (.long q1), .second, .val (.int p2), .val (.int sc), .val (.ref ux), .val (.long lim), .second, .val (.long lw), .second, .val (.int rq), .val (.ref tb), .val (.ref hk), .val (.ref uu), .val (.int (Int32.ofNat dd)), .val (.int sl)] [(.int (4 : Int32)), (.int (Int32.ofNat dd)), (.long lw), (.ref uu)]))
  refine Onw.go (fun _ kt => XS.aload X4.here hx rfl (hb hby at_371) rfl rfl kt) ?_
  show Onw p e below _ (T4.setTop (mkF m 373 #[.val (.int p0), .val (.long q1), .second, .val (.int p2), .val (.int sc), .val (.ref ux), .val (.long lim), .second, .val (.long lw), .second, .val (.int rq), .val (.ref tb), .val (.ref hk), .val (.ref uu), .val (.int (Int32.ofNat dd)), .val (.int sl)] [(.ref tb), (.int (4 : Int32)), (.int (Int32.ofNat dd)), (.long lw), (.ref uu)]))
  obtain ⟨_, _, ⟨T5, L5, k5, n5⟩, -, X5, ⟨Lc5, hQ5, l5, y5, z5⟩, st5⟩ := Jvm.LawKit.callS X4 hx (y := (⟨"com/example/vigil_cache/vigilcache/HotKeyRuleWindowAsWrittenPinLaw", "digitOk", "(Ljava/lang/String;JII[J)Z"⟩ : MethodName)) hown (mvT hZ (hw _ (own_mg (i := 233) rfl))) (mvT hZ (hw _ (own_mg (i := 234) rfl))) (mvT hZ (hw _ (own_mg (i := 208) rfl))) (mvT hZ (hw _ (own_mg (i := 235) rfl))) (by decide) (backOf (W := 0) (rm38 l Z a0 hw [] uu lw (Int32.ofNat dd) (4 : Int32) tb zc bb fm kb zs 4 dd ww h0 n0 MM VV lz lz2 zd TB ww1 hdd rfl rfl (by decide) S_F rf S_C hz) hZ (hw _ (own_mg (i := 235) rfl)) (hw _ (own_mg (i := 208) rfl)) (by decide) (by decide)) (g := (mkF m 373 #[.val (.int p0), .val (.long q1), .second, .val (.int p2), .val (.int sc), .val (.ref ux), .val (.long lim), .second, .val (.long lw), .second, .val (.int rq), .val (.ref tb), .val (.ref hk), .val (.ref uu), .val (.int (Int32.ofNat dd)), .val (.int sl)] [(.ref tb), (.int (4 : Int32)), (.int (Int32.ofNat dd)), (.long lw), (.ref uu)])) rfl (by rw [hml]; rfl) (argsL := [(.ref uu), (.long lw), (.int (Int32.ofNat dd)), (.int (4 : Int32)), (.ref tb)]) (rest := []) (lenOf pd_29 rfl) rfl (by show 2 * 0 + _ ≤ _; exact Nat.le_of_eq rfl) (hb hby at_373) (fun _ _ => ⟨rfl, e4q, (by decide : 10 + 0 ≤ _), (by decide : 192 + 0 ≤ _)⟩)
  dsimp only [Pt.U, Pt.locs, Pt.cells, Pt.slots] at X5 l5 y5 z5 st5 hQ5
  subst l5 y5 z5
  obtain ⟨rfl, N5q, e5q⟩ := hQ5
  have N5 := Fr.app N4 N5q
  refine Onw.go st5 ?_
  show Onw p e below _ (T5.setTop (mkF m 376 #[.val (.int p0), .val (.long q1), .second, .val (.int p2), .val (.int sc), .val (.ref ux), .val (.long lim), .second, .val (.long lw), .second, .val (.int rq), .val (.ref tb), .val (.ref hk), .val (.ref uu), .val (.int (Int32.ofNat dd)), .val (.int sl)] [(.int (1 : Int32))]))
  refine Onw.go (fun _ kt => XS.ifNo X5.here hx rfl (hb hby at_376) rfl ((if0 _ _).trans (feq (by decide : ¬ ((1 : Int32) = (0 : Int32)))).1) kt) ?_
  show Onw p e below _ (T5.setTop (mkF m 379 #[.val (.int p0), .val (.long q1), .second, .val (.int p2), .val (.int sc), .val (.ref ux), .val (.long lim), .second, .val (.long lw), .second, .val (.int rq), .val (.ref tb), .val (.ref hk), .val (.ref uu), .val (.int (Int32.ofNat dd)), .val (.int sl)] []))
  refine Onw.go (fun _ kt => XS.aload X5.here hx rfl (hb hby at_379) rfl rfl kt) ?_
  show Onw p e below _ (T5.setTop (mkF m 381 #[.val (.int p0), .val (.long q1), .second, .val (.int p2), .val (.int sc), .val (.ref ux), .val (.long lim), .second, .val (.long lw), .second, .val (.int rq), .val (.ref tb), .val (.ref hk), .val (.ref uu), .val (.int (Int32.ofNat dd)), .val (.int sl)] [(.ref uu)]))
  refine Onw.go (fun _ kt => XS.lload X5.here hx rfl (hb hby at_381) rfl kt) ?_
  show Onw p e below _ (T5.setTop (mkF m 383 #[.val (.int p0), .val (.long q1), .second, .val (.int p2), .val (.int sc), .val (.ref ux), .val (.long lim), .second, .val (.long lw), .second, .val (.int rq), .val (.ref tb), .val (.ref hk), .val (.ref uu), .val (.int (Int32.ofNat dd)), .val (.int sl)] [(.long lw), (.ref uu)]))
  refine Onw.go (fun _ kt => XS.iload X5.here hx rfl (hb hby at_383) rfl kt) ?_
  show Onw p e below _ (T5.setTop (mkF m 385 #[.val (.int p0), .val (.long q1), .second, .val (.int p2), .val (.int sc), .val (.ref ux), .val (.long lim), .second, .val (.long lw), .second, .val (.int rq), .val (.ref tb), .val (.ref hk), .val (.ref uu), .val (.int (Int32.ofNat dd)), .val (.int sl)] [(.int (Int32.ofNat dd)), (.long lw), (.ref uu)]))
  refine Onw.go (fun _ kt => XS.iconst X5.here hx rfl (hb hby at_385) kt) ?_
  show Onw p e below _ (T5.setTop (mkF m 386 #[.val (.int p0), .val (.long q1), .second, .val (.int p2), .val (.int sc), .val (.ref ux), .val (.long lim), .second, .val (.long lw), .second, .val (.int rq), .val (.ref tb), .val (.ref hk), .val (.ref uu), .val (.int (Int32.ofNat dd)), .val (.int sl)] [(.int (5 : Int32)), (.int (Int32.ofNat dd)), (.long lw), (.ref uu)]))
  refine Onw.go (fun _ kt => XS.aload X5.here hx rfl (hb hby at_386) rfl rfl kt) ?_
  show Onw p e below _ (T5.setTop (mkF m 388 #[.val (.int p0), .val (.long q1), .second, .val (.int p2), .val (.int sc), .val (.ref ux), .val (.long lim), .second, .val (.long lw), .second, .val (.int rq), .val (.ref tb), .val (.ref hk), .val (.ref uu), .val (.int (Int32.ofNat dd)), .val (.int sl)] [(.ref tb), (.int (5 : Int32)), (.int (Int32.ofNat dd)), (.long lw), (.ref uu)]))
  obtain ⟨_, _, ⟨T6, L6, k6, n6⟩, -, X6, ⟨Lc6, hQ6, l6, y6, z6⟩, st6⟩ := Jvm.LawKit.callS X5 hx (y := (⟨"com/example/vigil_cache/vigilcache/HotKeyRuleWindowAsWrittenPinLaw", "digitOk", "(Ljava/lang/String;JII[J)Z"⟩ : MethodName)) hown (mvT hZ (hw _ (own_mg (i := 233) rfl))) (mvT hZ (hw _ (own_mg (i := 234) rfl))) (mvT hZ (hw _ (own_mg (i := 208) rfl))) (mvT hZ (hw _ (own_mg (i := 235) rfl))) (by decide) (backOf (W := 0) (rm38 l Z a0 hw [] uu lw (Int32.ofNat dd) (5 : Int32) tb zc bb fm kb zs 5 dd ww h0 n0 MM VV lz lz2 zd TB ww1 hdd rfl rfl (by decide) S_F rf S_C hz) hZ (hw _ (own_mg (i := 235) rfl)) (hw _ (own_mg (i := 208) rfl)) (by decide) (by decide)) (g := (mkF m 388 #[.val (.int p0), .val (.long q1), .second, .val (.int p2), .val (.int sc), .val (.ref ux), .val (.long lim), .second, .val (.long lw), .second, .val (.int rq), .val (.ref tb), .val (.ref hk), .val (.ref uu), .val (.int (Int32.ofNat dd)), .val (.int sl)] [(.ref tb), (.int (5 : Int32)), (.int (Int32.ofNat dd)), (.long lw), (.ref uu)])) rfl (by rw [hml]; rfl) (argsL := [(.ref uu), (.long lw), (.int (Int32.ofNat dd)), (.int (5 : Int32)), (.ref tb)]) (rest := []) (lenOf pd_29 rfl) rfl (by show 2 * 0 + _ ≤ _; exact Nat.le_of_eq rfl) (hb hby at_388) (fun _ _ => ⟨rfl, e5q, (by decide : 10 + 0 ≤ _), (by decide : 192 + 0 ≤ _)⟩)
  dsimp only [Pt.U, Pt.locs, Pt.cells, Pt.slots] at X6 l6 y6 z6 st6 hQ6
  subst l6 y6 z6
  obtain ⟨rfl, N6q, e6q⟩ := hQ6
  have N6 := Fr.app N5 N6q
  refine Onw.go st6 ?_
  show Onw p e below _ (T6.setTop (mkF m 391 #[.val (.int p0), .val (.long q1), .second, .val (.int p2), .val (.int sc), .val (.ref ux), .val (.long lim), .second, .val (.long lw), .second, .val (.int rq), .val (.ref tb), .val (.ref hk), .val (.ref uu), .val (.int (Int32.ofNat dd)), .val (.int sl)] [(.int (1 : Int32))]))
  refine Onw.go (fun _ kt => XS.ifNo X6.here hx rfl (hb hby at_391) rfl ((if0 _ _).trans (feq (by decide : ¬ ((1 : Int32) = (0 : Int32)))).1) kt) ?_
  show Onw p e below _ (T6.setTop (mkF m 394 #[.val (.int p0), .val (.long q1), .second, .val (.int p2), .val (.int sc), .val (.ref ux), .val (.long lim), .second, .val (.long lw), .second, .val (.int rq), .val (.ref tb), .val (.ref hk), .val (.ref uu), .val (.int (Int32.ofNat dd)), .val (.int sl)] []))
  refine Onw.go (fun _ kt => XS.aload X6.here hx rfl (hb hby at_394) rfl rfl kt) ?_
  show Onw p e below _ (T6.setTop (mkF m 396 #[.val (.int p0), .val (.long q1), .second, .val (.int p2), .val (.int sc), .val (.ref ux), .val (.long lim), .second, .val (.long lw), .second, .val (.int rq), .val (.ref tb), .val (.ref hk), .val (.ref uu), .val (.int (Int32.ofNat dd)), .val (.int sl)] [(.ref uu)]))
  refine Onw.go (fun _ kt => XS.lload X6.here hx rfl (hb hby at_396) rfl kt) ?_
  show Onw p e below _ (T6.setTop (mkF m 398 #[.val (.int p0), .val (.long q1), .second, .val (.int p2), .val (.int sc), .val (.ref ux), .val (.long lim), .second, .val (.long lw), .second, .val (.int rq), .val (.ref tb), .val (.ref hk), .val (.ref uu), .val (.int (Int32.ofNat dd)), .val (.int sl)] [(.long lw), (.ref uu)]))
  refine Onw.go (fun _ kt => XS.iload X6.here hx rfl (hb hby at_398) rfl kt) ?_
  show Onw p e below _ (T6.setTop (mkF m 400 #[.val (.int p0), .val (.long q1), .second, .val (.int p2), .val (.int sc), .val (.ref ux), .val (.long lim), .second, .val (.long lw), .second, .val (.int rq), .val (.ref tb), .val (.ref hk), .val (.ref uu), .val (.int (Int32.ofNat dd)), .val (.int sl)] [(.int (Int32.ofNat dd)), (.long lw), (.ref uu)]))
  refine Onw.go (fun _ kt => XS.bipush X6.here hx rfl (hb hby at_400) kt) ?_
  show Onw p e below _ (T6.setTop (mkF m 402 #[.val (.int p0), .val (.long q1), .second, .val (.int p2), .val (.int sc), .val (.ref ux), .val (.long lim), .second, .val (.long lw), .second, .val (.int rq), .val (.ref tb), .val (.ref hk), .val (.ref uu), .val (.int (Int32.ofNat dd)), .val (.int sl)] [(.int (6 : Int32)), (.int (Int32.ofNat dd)), (.long lw), (.ref uu)]))
  refine Onw.go (fun _ kt => XS.aload X6.here hx rfl (hb hby at_402) rfl rfl kt) ?_
  show Onw p e below _ (T6.setTop (mkF m 404 #[.val (.int p0), .val (.long q1), .second, .val (.int p2), .val (.int sc), .val (.ref ux), .val (.long lim), .second, .val (.long lw), .second, .val (.int rq), .val (.ref tb), .val (.ref hk), .val (.ref uu), .val (.int (Int32.ofNat dd)), .val (.int sl)] [(.ref tb), (.int (6 : Int32)), (.int (Int32.ofNat dd)), (.long lw), (.ref uu)]))
  obtain ⟨_, _, ⟨T7, L7, k7, n7⟩, -, X7, ⟨Lc7, hQ7, l7, y7, z7⟩, st7⟩ := Jvm.LawKit.callS X6 hx (y := (⟨"com/example/vigil_cache/vigilcache/HotKeyRuleWindowAsWrittenPinLaw", "digitOk", "(Ljava/lang/String;JII[J)Z"⟩ : MethodName)) hown (mvT hZ (hw _ (own_mg (i := 233) rfl))) (mvT hZ (hw _ (own_mg (i := 234) rfl))) (mvT hZ (hw _ (own_mg (i := 208) rfl))) (mvT hZ (hw _ (own_mg (i := 235) rfl))) (by decide) (backOf (W := 0) (rm38 l Z a0 hw [] uu lw (Int32.ofNat dd) (6 : Int32) tb zc bb fm kb zs 6 dd ww h0 n0 MM VV lz lz2 zd TB ww1 hdd rfl rfl (by decide) S_F rf S_C hz) hZ (hw _ (own_mg (i := 235) rfl)) (hw _ (own_mg (i := 208) rfl)) (by decide) (by decide)) (g := (mkF m 404 #[.val (.int p0), .val (.long q1), .second, .val (.int p2), .val (.int sc), .val (.ref ux), .val (.long lim), .second, .val (.long lw), .second, .val (.int rq), .val (.ref tb), .val (.ref hk), .val (.ref uu), .val (.int (Int32.ofNat dd)), .val (.int sl)] [(.ref tb), (.int (6 : Int32)), (.int (Int32.ofNat dd)), (.long lw), (.ref uu)])) rfl (by rw [hml]; rfl) (argsL := [(.ref uu), (.long lw), (.int (Int32.ofNat dd)), (.int (6 : Int32)), (.ref tb)]) (rest := []) (lenOf pd_29 rfl) rfl (by show 2 * 0 + _ ≤ _; exact Nat.le_of_eq rfl) (hb hby at_404) (fun _ _ => ⟨rfl, e6q, (by decide : 10 + 0 ≤ _), (by decide : 192 + 0 ≤ _)⟩)
  dsimp only [Pt.U, Pt.locs, Pt.cells, Pt.slots] at X7 l7 y7 z7 st7 hQ7
  subst l7 y7 z7
  obtain ⟨rfl, N7q, e7q⟩ := hQ7
  have N7 := Fr.app N6 N7q
  refine Onw.go st7 ?_
  show Onw p e below _ (T7.setTop (mkF m 407 #[.val (.int p0), .val (.long q1), .second, .val (.int p2), .val (.int sc), .val (.ref ux), .val (.long lim), .second, .val (.long lw), .second, .val (.int rq), .val (.ref tb), .val (.ref hk), .val (.ref uu), .val (.int (Int32.ofNat dd)), .val (.int sl)] [(.int (1 : Int32))]))
  refine Onw.go (fun _ kt => XS.ifNo X7.here hx rfl (hb hby at_407) rfl ((if0 _ _).trans (feq (by decide : ¬ ((1 : Int32) = (0 : Int32)))).1) kt) ?_
  show Onw p e below _ (T7.setTop (mkF m 410 #[.val (.int p0), .val (.long q1), .second, .val (.int p2), .val (.int sc), .val (.ref ux), .val (.long lim), .second, .val (.long lw), .second, .val (.int rq), .val (.ref tb), .val (.ref hk), .val (.ref uu), .val (.int (Int32.ofNat dd)), .val (.int sl)] []))
  refine Onw.go (fun _ kt => XS.aload X7.here hx rfl (hb hby at_410) rfl rfl kt) ?_
  show Onw p e below _ (T7.setTop (mkF m 412 #[.val (.int p0), .val (.long q1), .second, .val (.int p2), .val (.int sc), .val (.ref ux), .val (.long lim), .second, .val (.long lw), .second, .val (.int rq), .val (.ref tb), .val (.ref hk), .val (.ref uu), .val (.int (Int32.ofNat dd)), .val (.int sl)] [(.ref uu)]))
  refine Onw.go (fun _ kt => XS.lload X7.here hx rfl (hb hby at_412) rfl kt) ?_
  show Onw p e below _ (T7.setTop (mkF m 414 #[.val (.int p0), .val (.long q1), .second, .val (.int p2), .val (.int sc), .val (.ref ux), .val (.long lim), .second, .val (.long lw), .second, .val (.int rq), .val (.ref tb), .val (.ref hk), .val (.ref uu), .val (.int (Int32.ofNat dd)), .val (.int sl)] [(.long lw), (.ref uu)]))
  refine Onw.go (fun _ kt => XS.iload X7.here hx rfl (hb hby at_414) rfl kt) ?_
  show Onw p e below _ (T7.setTop (mkF m 416 #[.val (.int p0), .val (.long q1), .second, .val (.int p2), .val (.int sc), .val (.ref ux), .val (.long lim), .second, .val (.long lw), .second, .val (.int rq), .val (.ref tb), .val (.ref hk), .val (.ref uu), .val (.int (Int32.ofNat dd)), .val (.int sl)] [(.int (Int32.ofNat dd)), (.long lw), (.ref uu)]))
  refine Onw.go (fun _ kt => XS.bipush X7.here hx rfl (hb hby at_416) kt) ?_
  show Onw p e below _ (T7.setTop (mkF m 418 #[.val (.int p0), .val (.long q1), .second, .val (.int p2), .val (.int sc), .val (.ref ux), .val (.long lim), .second, .val (.long lw), .second, .val (.int rq), .val (.ref tb), .val (.ref hk), .val (.ref uu), .val (.int (Int32.ofNat dd)), .val (.int sl)] [(.int (7 : Int32)), (.int (Int32.ofNat dd)), (.long lw), (.ref uu)]))
  refine Onw.go (fun _ kt => XS.aload X7.here hx rfl (hb hby at_418) rfl rfl kt) ?_
  show Onw p e below _ (T7.setTop (mkF m 420 #[.val (.int p0), .val (.long q1), .second, .val (.int p2), .val (.int sc), .val (.ref ux), .val (.long lim), .second, .val (.long lw), .second, .val (.int rq), .val (.ref tb), .val (.ref hk), .val (.ref uu), .val (.int (Int32.ofNat dd)), .val (.int sl)] [(.ref tb), (.int (7 : Int32)), (.int (Int32.ofNat dd)), (.long lw), (.ref uu)]))
  obtain ⟨_, _, ⟨T8, L8, k8, n8⟩, -, X8, ⟨Lc8, hQ8, l8, y8, z8⟩, st8⟩ := Jvm.LawKit.callS X7 hx (y := (⟨"com/example/vigil_cache/vigilcache/HotKeyRuleWindowAsWrittenPinLaw", "digitOk", "(Ljava/lang/String;JII[J)Z"⟩ : MethodName)) hown (mvT hZ (hw _ (own_mg (i := 233) rfl))) (mvT hZ (hw _ (own_mg (i := 234) rfl))) (mvT hZ (hw _ (own_mg (i := 208) rfl))) (mvT hZ (hw _ (own_mg (i := 235) rfl))) (by decide) (backOf (W := 0) (rm38 l Z a0 hw [] uu lw (Int32.ofNat dd) (7 : Int32) tb zc bb fm kb zs 7 dd ww h0 n0 MM VV lz lz2 zd TB ww1 hdd rfl rfl (by decide) S_F rf S_C hz) hZ (hw _ (own_mg (i := 235) rfl)) (hw _ (own_mg (i := 208) rfl)) (by decide) (by decide)) (g := (mkF m 420 #[.val (.int p0), .val (.long q1), .second, .val (.int p2), .val (.int sc), .val (.ref ux), .val (.long lim), .second, .val (.long lw), .second, .val (.int rq), .val (.ref tb), .val (.ref hk), .val (.ref uu), .val (.int (Int32.ofNat dd)), .val (.int sl)] [(.ref tb), (.int (7 : Int32)), (.int (Int32.ofNat dd)), (.long lw), (.ref uu)])) rfl (by rw [hml]; rfl) (argsL := [(.ref uu), (.long lw), (.int (Int32.ofNat dd)), (.int (7 : Int32)), (.ref tb)]) (rest := []) (lenOf pd_29 rfl) rfl (by show 2 * 0 + _ ≤ _; exact Nat.le_of_eq rfl) (hb hby at_420) (fun _ _ => ⟨rfl, e7q, (by decide : 10 + 0 ≤ _), (by decide : 192 + 0 ≤ _)⟩)
  dsimp only [Pt.U, Pt.locs, Pt.cells, Pt.slots] at X8 l8 y8 z8 st8 hQ8
  subst l8 y8 z8
  obtain ⟨rfl, N8q, e8q⟩ := hQ8
  have N8 := Fr.app N7 N8q
  refine Onw.go st8 ?_
  show Onw p e below _ (T8.setTop (mkF m 423 #[.val (.int p0), .val (.long q1), .second, .val (.int p2), .val (.int sc), .val (.ref ux), .val (.long lim), .second, .val (.long lw), .second, .val (.int rq), .val (.ref tb), .val (.ref hk), .val (.ref uu), .val (.int (Int32.ofNat dd)), .val (.int sl)] [(.int (1 : Int32))]))
  refine Onw.go (fun _ kt => XS.ifNo X8.here hx rfl (hb hby at_423) rfl ((if0 _ _).trans (feq (by decide : ¬ ((1 : Int32) = (0 : Int32)))).1) kt) ?_
  show Onw p e below _ (T8.setTop (mkF m 426 #[.val (.int p0), .val (.long q1), .second, .val (.int p2), .val (.int sc), .val (.ref ux), .val (.long lim), .second, .val (.long lw), .second, .val (.int rq), .val (.ref tb), .val (.ref hk), .val (.ref uu), .val (.int (Int32.ofNat dd)), .val (.int sl)] []))
  refine Onw.go (fun _ kt => XS.aload X8.here hx rfl (hb hby at_426) rfl rfl kt) ?_
  show Onw p e below _ (T8.setTop (mkF m 428 #[.val (.int p0), .val (.long q1), .second, .val (.int p2), .val (.int sc), .val (.ref ux), .val (.long lim), .second, .val (.long lw), .second, .val (.int rq), .val (.ref tb), .val (.ref hk), .val (.ref uu), .val (.int (Int32.ofNat dd)), .val (.int sl)] [(.ref uu)]))
  refine Onw.go (fun _ kt => XS.lload X8.here hx rfl (hb hby at_428) rfl kt) ?_
  show Onw p e below _ (T8.setTop (mkF m 430 #[.val (.int p0), .val (.long q1), .second, .val (.int p2), .val (.int sc), .val (.ref ux), .val (.long lim), .second, .val (.long lw), .second, .val (.int rq), .val (.ref tb), .val (.ref hk), .val (.ref uu), .val (.int (Int32.ofNat dd)), .val (.int sl)] [(.long lw), (.ref uu)]))
  refine Onw.go (fun _ kt => XS.iload X8.here hx rfl (hb hby at_430) rfl kt) ?_
  show Onw p e below _ (T8.setTop (mkF m 432 #[.val (.int p0), .val (.long q1), .second, .val (.int p2), .val (.int sc), .val (.ref ux), .val (.long lim), .second, .val (.long lw), .second, .val (.int rq), .val (.ref tb), .val (.ref hk), .val (.ref uu), .val (.int (Int32.ofNat dd)), .val (.int sl)] [(.int (Int32.ofNat dd)), (.long lw), (.ref uu)]))
  refine Onw.go (fun _ kt => XS.bipush X8.here hx rfl (hb hby at_432) kt) ?_
  show Onw p e below _ (T8.setTop (mkF m 434 #[.val (.int p0), .val (.long q1), .second, .val (.int p2), .val (.int sc), .val (.ref ux), .val (.long lim), .second, .val (.long lw), .second, .val (.int rq), .val (.ref tb), .val (.ref hk), .val (.ref uu), .val (.int (Int32.ofNat dd)), .val (.int sl)] [(.int (8 : Int32)), (.int (Int32.ofNat dd)), (.long lw), (.ref uu)]))
  refine Onw.go (fun _ kt => XS.aload X8.here hx rfl (hb hby at_434) rfl rfl kt) ?_
  show Onw p e below _ (T8.setTop (mkF m 436 #[.val (.int p0), .val (.long q1), .second, .val (.int p2), .val (.int sc), .val (.ref ux), .val (.long lim), .second, .val (.long lw), .second, .val (.int rq), .val (.ref tb), .val (.ref hk), .val (.ref uu), .val (.int (Int32.ofNat dd)), .val (.int sl)] [(.ref tb), (.int (8 : Int32)), (.int (Int32.ofNat dd)), (.long lw), (.ref uu)]))
  obtain ⟨_, _, ⟨T9, L9, k9, n9⟩, -, X9, ⟨Lc9, hQ9, l9, y9, z9⟩, st9⟩ := Jvm.LawKit.callS X8 hx (y := (⟨"com/example/vigil_cache/vigilcache/HotKeyRuleWindowAsWrittenPinLaw", "digitOk", "(Ljava/lang/String;JII[J)Z"⟩ : MethodName)) hown (mvT hZ (hw _ (own_mg (i := 233) rfl))) (mvT hZ (hw _ (own_mg (i := 234) rfl))) (mvT hZ (hw _ (own_mg (i := 208) rfl))) (mvT hZ (hw _ (own_mg (i := 235) rfl))) (by decide) (backOf (W := 0) (rm38 l Z a0 hw [] uu lw (Int32.ofNat dd) (8 : Int32) tb zc bb fm kb zs 8 dd ww h0 n0 MM VV lz lz2 zd TB ww1 hdd rfl rfl (by decide) S_F rf S_C hz) hZ (hw _ (own_mg (i := 235) rfl)) (hw _ (own_mg (i := 208) rfl)) (by decide) (by decide)) (g := (mkF m 436 #[.val (.int p0), .val (.long q1), .second, .val (.int p2), .val (.int sc), .val (.ref ux), .val (.long lim), .second, .val (.long lw), .second, .val (.int rq), .val (.ref tb), .val (.ref hk), .val (.ref uu), .val (.int (Int32.ofNat dd)), .val (.int sl)] [(.ref tb), (.int (8 : Int32)), (.int (Int32.ofNat dd)), (.long lw), (.ref uu)])) rfl (by rw [hml]; rfl) (argsL := [(.ref uu), (.long lw), (.int (Int32.ofNat dd)), (.int (8 : Int32)), (.ref tb)]) (rest := []) (lenOf pd_29 rfl) rfl (by show 2 * 0 + _ ≤ _; exact Nat.le_of_eq rfl) (hb hby at_436) (fun _ _ => ⟨rfl, e8q, (by decide : 10 + 0 ≤ _), (by decide : 192 + 0 ≤ _)⟩)
  dsimp only [Pt.U, Pt.locs, Pt.cells, Pt.slots] at X9 l9 y9 z9 st9 hQ9
  subst l9 y9 z9
  obtain ⟨rfl, N9q, e9q⟩ := hQ9
  have N9 := Fr.app N8 N9q
  refine Onw.go st9 ?_
  show Onw p e below _ (T9.setTop (mkF m 439 #[.val (.int p0), .val (.long q1), .second, .val (.int p2), .val (.int sc), .val (.ref ux), .val (.long lim), .second, .val (.long lw), .second, .val (.int rq), .val (.ref tb), .val (.ref hk), .val (.ref uu), .val (.int (Int32.ofNat dd)), .val (.int sl)] [(.int (1 : Int32))]))
  refine Onw.go (fun _ kt => XS.ifNo X9.here hx rfl (hb hby at_439) rfl ((if0 _ _).trans (feq (by decide : ¬ ((1 : Int32) = (0 : Int32)))).1) kt) ?_
  show Onw p e below _ (T9.setTop (mkF m 442 #[.val (.int p0), .val (.long q1), .second, .val (.int p2), .val (.int sc), .val (.ref ux), .val (.long lim), .second, .val (.long lw), .second, .val (.int rq), .val (.ref tb), .val (.ref hk), .val (.ref uu), .val (.int (Int32.ofNat dd)), .val (.int sl)] []))
  refine Onw.go (fun _ kt => XS.aload X9.here hx rfl (hb hby at_442) rfl rfl kt) ?_
  show Onw p e below _ (T9.setTop (mkF m 444 #[.val (.int p0), .val (.long q1), .second, .val (.int p2), .val (.int sc), .val (.ref ux), .val (.long lim), .second, .val (.long lw), .second, .val (.int rq), .val (.ref tb), .val (.ref hk), .val (.ref uu), .val (.int (Int32.ofNat dd)), .val (.int sl)] [(.ref uu)]))
  refine Onw.go (fun _ kt => XS.lload X9.here hx rfl (hb hby at_444) rfl kt) ?_
  show Onw p e below _ (T9.setTop (mkF m 446 #[.val (.int p0), .val (.long q1), .second, .val (.int p2), .val (.int sc), .val (.ref ux), .val (.long lim), .second, .val (.long lw), .second, .val (.int rq), .val (.ref tb), .val (.ref hk), .val (.ref uu), .val (.int (Int32.ofNat dd)), .val (.int sl)] [(.long lw), (.ref uu)]))
  refine Onw.go (fun _ kt => XS.iload X9.here hx rfl (hb hby at_446) rfl kt) ?_
  show Onw p e below _ (T9.setTop (mkF m 448 #[.val (.int p0), .val (.long q1), .second, .val (.int p2), .val (.int sc), .val (.ref ux), .val (.long lim), .second, .val (.long lw), .second, .val (.int rq), .val (.ref tb), .val (.ref hk), .val (.ref uu), .val (.int (Int32.ofNat dd)), .val (.int sl)] [(.int (Int32.ofNat dd)), (.long lw), (.ref uu)]))
  refine Onw.go (fun _ kt => XS.bipush X9.here hx rfl (hb hby at_448) kt) ?_
  show Onw p e below _ (T9.setTop (mkF m 450 #[.val (.int p0), .val (.long q1), .second, .val (.int p2), .val (.int sc), .val (.ref ux), .val (.long lim), .second, .val (.long lw), .second, .val (.int rq), .val (.ref tb), .val (.ref hk), .val (.ref uu), .val (.int (Int32.ofNat dd)), .val (.int sl)] [(.int (9 : Int32)), (.int (Int32.ofNat dd)), (.long lw), (.ref uu)]))
  refine Onw.go (fun _ kt => XS.aload X9.here hx rfl (hb hby at_450) rfl rfl kt) ?_
  show Onw p e below _ (T9.setTop (mkF m 452 #[.val (.int p0), .val (.long q1), .second, .val (.int p2), .val (.int sc), .val (.ref ux), .val (.long lim), .second, .val (.long lw), .second, .val (.int rq), .val (.ref tb), .val (.ref hk), .val (.ref uu), .val (.int (Int32.ofNat dd)), .val (.int sl)] [(.ref tb), (.int (9 : Int32)), (.int (Int32.ofNat dd)), (.long lw), (.ref uu)]))
  obtain ⟨_, _, ⟨T10, L10, k10, n10⟩, -, X10, ⟨Lc10, hQ10, l10, y10, z10⟩, st10⟩ := Jvm.LawKit.callS X9 hx (y := (⟨"com/example/vigil_cache/vigilcache/HotKeyRuleWindowAsWrittenPinLaw", "digitOk", "(Ljava/lang/String;JII[J)Z"⟩ : MethodName)) hown (mvT hZ (hw _ (own_mg (i := 233) rfl))) (mvT hZ (hw _ (own_mg (i := 234) rfl))) (mvT hZ (hw _ (own_mg (i := 208) rfl))) (mvT hZ (hw _ (own_mg (i := 235) rfl))) (by decide) (backOf (W := 0) (rm38 l Z a0 hw [] uu lw (Int32.ofNat dd) (9 : Int32) tb zc bb fm kb zs 9 dd ww h0 n0 MM VV lz lz2 zd TB ww1 hdd rfl rfl (by decide) S_F rf S_C hz) hZ (hw _ (own_mg (i := 235) rfl)) (hw _ (own_mg (i := 208) rfl)) (by decide) (by decide)) (g := (mkF m 452 #[.val (.int p0), .val (.long q1), .second, .val (.int p2), .val (.int sc), .val (.ref ux), .val (.long lim), .second, .val (.long lw), .second, .val (.int rq), .val (.ref tb), .val (.ref hk), .val (.ref uu), .val (.int (Int32.ofNat dd)), .val (.int sl)] [(.ref tb), (.int (9 : Int32)), (.int (Int32.ofNat dd)), (.long lw), (.ref uu)])) rfl (by rw [hml]; rfl) (argsL := [(.ref uu), (.long lw), (.int (Int32.ofNat dd)), (.int (9 : Int32)), (.ref tb)]) (rest := []) (lenOf pd_29 rfl) rfl (by show 2 * 0 + _ ≤ _; exact Nat.le_of_eq rfl) (hb hby at_452) (fun _ _ => ⟨rfl, e9q, (by decide : 10 + 0 ≤ _), (by decide : 192 + 0 ≤ _)⟩)
  dsimp only [Pt.U, Pt.locs, Pt.cells, Pt.slots] at X10 l10 y10 z10 st10 hQ10
  subst l10 y10 z10
  obtain ⟨rfl, N10q, e10q⟩ := hQ10
  have N10 := Fr.app N9 N10q
  refine Onw.go st10 ?_
  show Onw p e below _ (T10.setTop (mkF m 455 #[.val (.int p0), .val (.long q1), .second, .val (.int p2), .val (.int sc), .val (.ref ux), .val (.long lim), .second, .val (.long lw), .second, .val (.int rq), .val (.ref tb), .val (.ref hk), .val (.ref uu), .val (.int (Int32.ofNat dd)), .val (.int sl)] [(.int (1 : Int32))]))
  refine Onw.go (fun _ kt => XS.ifNo X10.here hx rfl (hb hby at_455) rfl ((if0 _ _).trans (feq (by decide : ¬ ((1 : Int32) = (0 : Int32)))).1) kt) ?_
  show Onw p e below _ (T10.setTop (mkF m 458 #[.val (.int p0), .val (.long q1), .second, .val (.int p2), .val (.int sc), .val (.ref ux), .val (.long lim), .second, .val (.long lw), .second, .val (.int rq), .val (.ref tb), .val (.ref hk), .val (.ref uu), .val (.int (Int32.ofNat dd)), .val (.int sl)] []))
  refine Onw.go (fun _ kt => XS.aload X10.here hx rfl (hb hby at_458) rfl rfl kt) ?_
  show Onw p e below _ (T10.setTop (mkF m 460 #[.val (.int p0), .val (.long q1), .second, .val (.int p2), .val (.int sc), .val (.ref ux), .val (.long lim), .second, .val (.long lw), .second, .val (.int rq), .val (.ref tb), .val (.ref hk), .val (.ref uu), .val (.int (Int32.ofNat dd)), .val (.int sl)] [(.ref uu)]))
  refine Onw.go (fun _ kt => XS.lload X10.here hx rfl (hb hby at_460) rfl kt) ?_
  show Onw p e below _ (T10.setTop (mkF m 462 #[.val (.int p0), .val (.long q1), .second, .val (.int p2), .val (.int sc), .val (.ref ux), .val (.long lim), .second, .val (.long lw), .second, .val (.int rq), .val (.ref tb), .val (.ref hk), .val (.ref uu), .val (.int (Int32.ofNat dd)), .val (.int sl)] [(.long lw), (.ref uu)]))
  refine Onw.go (fun _ kt => XS.iload X10.here hx rfl (hb hby at_462) rfl kt) ?_
  show Onw p e below _ (T10.setTop (mkF m 464 #[.val (.int p0), .val (.long q1), .second, .val (.int p2), .val (.int sc), .val (.ref ux), .val (.long lim), .second, .val (.long lw), .second, .val (.int rq), .val (.ref tb), .val (.ref hk), .val (.ref uu), .val (.int (Int32.ofNat dd)), .val (.int sl)] [(.int (Int32.ofNat dd)), (.long lw), (.ref uu)]))
  refine Onw.go (fun _ kt => XS.bipush X10.here hx rfl (hb hby at_464) kt) ?_
  show Onw p e below _ (T10.setTop (mkF m 466 #[.val (.int p0), .val (.long q1), .second, .val (.int p2), .val (.int sc), .val (.ref ux), .val (.long lim), .second, .val (.long lw), .second, .val (.int rq), .val (.ref tb), .val (.ref hk), .val (.ref uu), .val (.int (Int32.ofNat dd)), .val (.int sl)] [(.int (10 : Int32)), (.int (Int32.ofNat dd)), (.long lw), (.ref uu)]))
  refine Onw.go (fun _ kt => XS.aload X10.here hx rfl (hb hby at_466) rfl rfl kt) ?_
  show Onw p e below _ (T10.setTop (mkF m 468 #[.val (.int p0), .val (.long q1), .second, .val (.int p2), .val (.int sc), .val (.ref ux), .val (.long lim), .second, .val (.long lw), .second, .val (.int rq), .val (.ref tb), .val (.ref hk), .val (.ref uu), .val (.int (Int32.ofNat dd)), .val (.int sl)] [(.ref tb), (.int (10 : Int32)), (.int (Int32.ofNat dd)), (.long lw), (.ref uu)]))
  obtain ⟨_, _, ⟨T11, L11, k11, n11⟩, -, X11, ⟨Lc11, hQ11, l11, y11, z11⟩, st11⟩ := Jvm.LawKit.callS X10 hx (y := (⟨"com/example/vigil_cache/vigilcache/HotKeyRuleWindowAsWrittenPinLaw", "digitOk", "(Ljava/lang/String;JII[J)Z"⟩ : MethodName)) hown (mvT hZ (hw _ (own_mg (i := 233) rfl))) (mvT hZ (hw _ (own_mg (i := 234) rfl))) (mvT hZ (hw _ (own_mg (i := 208) rfl))) (mvT hZ (hw _ (own_mg (i := 235) rfl))) (by decide) (backOf (W := 0) (rm38 l Z a0 hw [] uu lw (Int32.ofNat dd) (10 : Int32) tb zc bb fm kb zs 10 dd ww h0 n0 MM VV lz lz2 zd TB ww1 hdd rfl rfl (by decide) S_F rf S_C hz) hZ (hw _ (own_mg (i := 235) rfl)) (hw _ (own_mg (i := 208) rfl)) (by decide) (by decide)) (g := (mkF m 468 #[.val (.int p0), .val (.long q1), .second, .val (.int p2), .val (.int sc), .val (.ref ux), .val (.long lim), .second, .val (.long lw), .second, .val (.int rq), .val (.ref tb), .val (.ref hk), .val (.ref uu), .val (.int (Int32.ofNat dd)), .val (.int sl)] [(.ref tb), (.int (10 : Int32)), (.int (Int32.ofNat dd)), (.long lw), (.ref uu)])) rfl (by rw [hml]; rfl) (argsL := [(.ref uu), (.long lw), (.int (Int32.ofNat dd)), (.int (10 : Int32)), (.ref tb)]) (rest := []) (lenOf pd_29 rfl) rfl (by show 2 * 0 + _ ≤ _; exact Nat.le_of_eq rfl) (hb hby at_468) (fun _ _ => ⟨rfl, e10q, (by decide : 10 + 0 ≤ _), (by decide : 192 + 0 ≤ _)⟩)
  dsimp only [Pt.U, Pt.locs, Pt.cells, Pt.slots] at X11 l11 y11 z11 st11 hQ11
  subst l11 y11 z11
  obtain ⟨rfl, N11q, e11q⟩ := hQ11
  have N11 := Fr.app N10 N11q
  refine Onw.go st11 ?_
  show Onw p e below _ (T11.setTop (mkF m 471 #[.val (.int p0), .val (.long q1), .second, .val (.int p2), .val (.int sc), .val (.ref ux), .val (.long lim), .second, .val (.long lw), .second, .val (.int rq), .val (.ref tb), .val (.ref hk), .val (.ref uu), .val (.int (Int32.ofNat dd)), .val (.int sl)] [(.int (1 : Int32))]))
  refine Onw.go (fun _ kt => XS.ifNo X11.here hx rfl (hb hby at_471) rfl ((if0 _ _).trans (feq (by decide : ¬ ((1 : Int32) = (0 : Int32)))).1) kt) ?_
  show Onw p e below _ (T11.setTop (mkF m 474 #[.val (.int p0), .val (.long q1), .second, .val (.int p2), .val (.int sc), .val (.ref ux), .val (.long lim), .second, .val (.long lw), .second, .val (.int rq), .val (.ref tb), .val (.ref hk), .val (.ref uu), .val (.int (Int32.ofNat dd)), .val (.int sl)] []))
  refine Onw.go (fun _ kt => XS.aload X11.here hx rfl (hb hby at_474) rfl rfl kt) ?_
  show Onw p e below _ (T11.setTop (mkF m 476 #[.val (.int p0), .val (.long q1), .second, .val (.int p2), .val (.int sc), .val (.ref ux), .val (.long lim), .second, .val (.long lw), .second, .val (.int rq), .val (.ref tb), .val (.ref hk), .val (.ref uu), .val (.int (Int32.ofNat dd)), .val (.int sl)] [(.ref uu)]))
  refine Onw.go (fun _ kt => XS.lload X11.here hx rfl (hb hby at_476) rfl kt) ?_
  show Onw p e below _ (T11.setTop (mkF m 478 #[.val (.int p0), .val (.long q1), .second, .val (.int p2), .val (.int sc), .val (.ref ux), .val (.long lim), .second, .val (.long lw), .second, .val (.int rq), .val (.ref tb), .val (.ref hk), .val (.ref uu), .val (.int (Int32.ofNat dd)), .val (.int sl)] [(.long lw), (.ref uu)]))
  refine Onw.go (fun _ kt => XS.iload X11.here hx rfl (hb hby at_478) rfl kt) ?_
  show Onw p e below _ (T11.setTop (mkF m 480 #[.val (.int p0), .val (.long q1), .second, .val (.int p2), .val (.int sc), .val (.ref ux), .val (.long lim), .second, .val (.long lw), .second, .val (.int rq), .val (.ref tb), .val (.ref hk), .val (.ref uu), .val (.int (Int32.ofNat dd)), .val (.int sl)] [(.int (Int32.ofNat dd)), (.long lw), (.ref uu)]))
  refine Onw.go (fun _ kt => XS.bipush X11.here hx rfl (hb hby at_480) kt) ?_
  show Onw p e below _ (T11.setTop (mkF m 482 #[.val (.int p0), .val (.long q1), .second, .val (.int p2), .val (.int sc), .val (.ref ux), .val (.long lim), .second, .val (.long lw), .second, .val (.int rq), .val (.ref tb), .val (.ref hk), .val (.ref uu), .val (.int (Int32.ofNat dd)), .val (.int sl)] [(.int (11 : Int32)), (.int (Int32.ofNat dd)), (.long lw), (.ref uu)]))
  refine Onw.go (fun _ kt => XS.aload X11.here hx rfl (hb hby at_482) rfl rfl kt) ?_
  show Onw p e below _ (T11.setTop (mkF m 484 #[.val (.int p0), .val (.long q1), .second, .val (.int p2), .val (.int sc), .val (.ref ux), .val (.long lim), .second, .val (.long lw), .second, .val (.int rq), .val (.ref tb), .val (.ref hk), .val (.ref uu), .val (.int (Int32.ofNat dd)), .val (.int sl)] [(.ref tb), (.int (11 : Int32)), (.int (Int32.ofNat dd)), (.long lw), (.ref uu)]))
  obtain ⟨_, _, ⟨T12, L12, k12, n12⟩, -, X12, ⟨Lc12, hQ12, l12, y12, z12⟩, st12⟩ := Jvm.LawKit.callS X11 hx (y := (⟨"com/example/vigil_cache/vigilcache/HotKeyRuleWindowAsWrittenPinLaw", "digitOk", "(Ljava/lang/String;JII[J)Z"⟩ : MethodName)) hown (mvT hZ (hw _ (own_mg (i := 233) rfl))) (mvT hZ (hw _ (own_mg (i := 234) rfl))) (mvT hZ (hw _ (own_mg (i := 208) rfl))) (mvT hZ (hw _ (own_mg (i := 235) rfl))) (by decide) (backOf (W := 0) (rm38 l Z a0 hw [] uu lw (Int32.ofNat dd) (11 : Int32) tb zc bb fm kb zs 11 dd ww h0 n0 MM VV lz lz2 zd TB ww1 hdd rfl rfl (by decide) S_F rf S_C hz) hZ (hw _ (own_mg (i := 235) rfl)) (hw _ (own_mg (i := 208) rfl)) (by decide) (by decide)) (g := (mkF m 484 #[.val (.int p0), .val (.long q1), .second, .val (.int p2), .val (.int sc), .val (.ref ux), .val (.long lim), .second, .val (.long lw), .second, .val (.int rq), .val (.ref tb), .val (.ref hk), .val (.ref uu), .val (.int (Int32.ofNat dd)), .val (.int sl)] [(.ref tb), (.int (11 : Int32)), (.int (Int32.ofNat dd)), (.long lw), (.ref uu)])) rfl (by rw [hml]; rfl) (argsL := [(.ref uu), (.long lw), (.int (Int32.ofNat dd)), (.int (11 : Int32)), (.ref tb)]) (rest := []) (lenOf pd_29 rfl) rfl (by show 2 * 0 + _ ≤ _; exact Nat.le_of_eq rfl) (hb hby at_484) (fun _ _ => ⟨rfl, e11q, (by decide : 10 + 0 ≤ _), (by decide : 192 + 0 ≤ _)⟩)
  dsimp only [Pt.U, Pt.locs, Pt.cells, Pt.slots] at X12 l12 y12 z12 st12 hQ12
  subst l12 y12 z12
  obtain ⟨rfl, N12q, e12q⟩ := hQ12
  have N12 := Fr.app N11 N12q
  refine Onw.go st12 ?_
  show Onw p e below _ (T12.setTop (mkF m 487 #[.val (.int p0), .val (.long q1), .second, .val (.int p2), .val (.int sc), .val (.ref ux), .val (.long lim), .second, .val (.long lw), .second, .val (.int rq), .val (.ref tb), .val (.ref hk), .val (.ref uu), .val (.int (Int32.ofNat dd)), .val (.int sl)] [(.int (1 : Int32))]))
  refine Onw.go (fun _ kt => XS.ifNo X12.here hx rfl (hb hby at_487) rfl ((if0 _ _).trans (feq (by decide : ¬ ((1 : Int32) = (0 : Int32)))).1) kt) ?_
  show Onw p e below _ (T12.setTop (mkF m 490 #[.val (.int p0), .val (.long q1), .second, .val (.int p2), .val (.int sc), .val (.ref ux), .val (.long lim), .second, .val (.long lw), .second, .val (.int rq), .val (.ref tb), .val (.ref hk), .val (.ref uu), .val (.int (Int32.ofNat dd)), .val (.int sl)] []))
  refine Onw.go (fun _ kt => XS.aload X12.here hx rfl (hb hby at_490) rfl rfl kt) ?_
  show Onw p e below _ (T12.setTop (mkF m 492 #[.val (.int p0), .val (.long q1), .second, .val (.int p2), .val (.int sc), .val (.ref ux), .val (.long lim), .second, .val (.long lw), .second, .val (.int rq), .val (.ref tb), .val (.ref hk), .val (.ref uu), .val (.int (Int32.ofNat dd)), .val (.int sl)] [(.ref uu)]))
  refine Onw.go (fun _ kt => XS.lload X12.here hx rfl (hb hby at_492) rfl kt) ?_
  show Onw p e below _ (T12.setTop (mkF m 494 #[.val (.int p0), .val (.long q1), .second, .val (.int p2), .val (.int sc), .val (.ref ux), .val (.long lim), .second, .val (.long lw), .second, .val (.int rq), .val (.ref tb), .val (.ref hk), .val (.ref uu), .val (.int (Int32.ofNat dd)), .val (.int sl)] [(.long lw), (.ref uu)]))
  refine Onw.go (fun _ kt => XS.iload X12.here hx rfl (hb hby at_494) rfl kt) ?_
  show Onw p e below _ (T12.setTop (mkF m 496 #[.val (.int p0), .val (.long q1), .second, .val (.int p2), .val (.int sc), .val (.ref ux), .val (.long lim), .second, .val (.long lw), .second, .val (.int rq), .val (.ref tb), .val (.ref hk), .val (.ref uu), .val (.int (Int32.ofNat dd)), .val (.int sl)] [(.int (Int32.ofNat dd)), (.long lw), (.ref uu)]))
  refine Onw.go (fun _ kt => XS.bipush X12.here hx rfl (hb hby at_496) kt) ?_
  show Onw p e below _ (T12.setTop (mkF m 498 #[.val (.int p0), .val (.long q1), .second, .val (.int p2), .val (.int sc), .val (.ref ux), .val (.long lim), .second, .val (.long lw), .second, .val (.int rq), .val (.ref tb), .val (.ref hk), .val (.ref uu), .val (.int (Int32.ofNat dd)), .val (.int sl)] [(.int (12 : Int32)), (.int (Int32.ofNat dd)), (.long lw), (.ref uu)]))
  refine Onw.go (fun _ kt => XS.aload X12.here hx rfl (hb hby at_498) rfl rfl kt) ?_
  show Onw p e below _ (T12.setTop (mkF m 500 #[.val (.int p0), .val (.long q1), .second, .val (.int p2), .val (.int sc), .val (.ref ux), .val (.long lim), .second, .val (.long lw), .second, .val (.int rq), .val (.ref tb), .val (.ref hk), .val (.ref uu), .val (.int (Int32.ofNat dd)), .val (.int sl)] [(.ref tb), (.int (12 : Int32)), (.int (Int32.ofNat dd)), (.long lw), (.ref uu)]))
  obtain ⟨_, _, ⟨T13, L13, k13, n13⟩, -, X13, ⟨Lc13, hQ13, l13, y13, z13⟩, st13⟩ := Jvm.LawKit.callS X12 hx (y := (⟨"com/example/vigil_cache/vigilcache/HotKeyRuleWindowAsWrittenPinLaw", "digitOk", "(Ljava/lang/String;JII[J)Z"⟩ : MethodName)) hown (mvT hZ (hw _ (own_mg (i := 233) rfl))) (mvT hZ (hw _ (own_mg (i := 234) rfl))) (mvT hZ (hw _ (own_mg (i := 208) rfl))) (mvT hZ (hw _ (own_mg (i := 235) rfl))) (by decide) (backOf (W := 0) (rm38 l Z a0 hw [] uu lw (Int32.ofNat dd) (12 : Int32) tb zc bb fm kb zs 12 dd ww h0 n0 MM VV lz lz2 zd TB ww1 hdd rfl rfl (by decide) S_F rf S_C hz) hZ (hw _ (own_mg (i := 235) rfl)) (hw _ (own_mg (i := 208) rfl)) (by decide) (by decide)) (g := (mkF m 500 #[.val (.int p0), .val (.long q1), .second, .val (.int p2), .val (.int sc), .val (.ref ux), .val (.long lim), .second, .val (.long lw), .second, .val (.int rq), .val (.ref tb), .val (.ref hk), .val (.ref uu), .val (.int (Int32.ofNat dd)), .val (.int sl)] [(.ref tb), (.int (12 : Int32)), (.int (Int32.ofNat dd)), (.long lw), (.ref uu)])) rfl (by rw [hml]; rfl) (argsL := [(.ref uu), (.long lw), (.int (Int32.ofNat dd)), (.int (12 : Int32)), (.ref tb)]) (rest := []) (lenOf pd_29 rfl) rfl (by show 2 * 0 + _ ≤ _; exact Nat.le_of_eq rfl) (hb hby at_500) (fun _ _ => ⟨rfl, e12q, (by decide : 10 + 0 ≤ _), (by decide : 192 + 0 ≤ _)⟩)
  dsimp only [Pt.U, Pt.locs, Pt.cells, Pt.slots] at X13 l13 y13 z13 st13 hQ13
  subst l13 y13 z13
  obtain ⟨rfl, N13q, e13q⟩ := hQ13
  have N13 := Fr.app N12 N13q
  refine Onw.go st13 ?_
  show Onw p e below _ (T13.setTop (mkF m 503 #[.val (.int p0), .val (.long q1), .second, .val (.int p2), .val (.int sc), .val (.ref ux), .val (.long lim), .second, .val (.long lw), .second, .val (.int rq), .val (.ref tb), .val (.ref hk), .val (.ref uu), .val (.int (Int32.ofNat dd)), .val (.int sl)] [(.int (1 : Int32))]))
  refine Onw.go (fun _ kt => XS.ifNo X13.here hx rfl (hb hby at_503) rfl ((if0 _ _).trans (feq (by decide : ¬ ((1 : Int32) = (0 : Int32)))).1) kt) ?_
  show Onw p e below _ (T13.setTop (mkF m 506 #[.val (.int p0), .val (.long q1), .second, .val (.int p2), .val (.int sc), .val (.ref ux), .val (.long lim), .second, .val (.long lw), .second, .val (.int rq), .val (.ref tb), .val (.ref hk), .val (.ref uu), .val (.int (Int32.ofNat dd)), .val (.int sl)] []))
  refine Onw.go (fun _ kt => XS.aload X13.here hx rfl (hb hby at_506) rfl rfl kt) ?_
  show Onw p e below _ (T13.setTop (mkF m 508 #[.val (.int p0), .val (.long q1), .second, .val (.int p2), .val (.int sc), .val (.ref ux), .val (.long lim), .second, .val (.long lw), .second, .val (.int rq), .val (.ref tb), .val (.ref hk), .val (.ref uu), .val (.int (Int32.ofNat dd)), .val (.int sl)] [(.ref uu)]))
  refine Onw.go (fun _ kt => XS.lload X13.here hx rfl (hb hby at_508) rfl kt) ?_
  show Onw p e below _ (T13.setTop (mkF m 510 #[.val (.int p0), .val (.long q1), .second, .val (.int p2), .val (.int sc), .val (.ref ux), .val (.long lim), .second, .val (.long lw), .second, .val (.int rq), .val (.ref tb), .val (.ref hk), .val (.ref uu), .val (.int (Int32.ofNat dd)), .val (.int sl)] [(.long lw), (.ref uu)]))
  refine Onw.go (fun _ kt => XS.iload X13.here hx rfl (hb hby at_510) rfl kt) ?_
  show Onw p e below _ (T13.setTop (mkF m 512 #[.val (.int p0), .val (.long q1), .second, .val (.int p2), .val (.int sc), .val (.ref ux), .val (.long lim), .second, .val (.long lw), .second, .val (.int rq), .val (.ref tb), .val (.ref hk), .val (.ref uu), .val (.int (Int32.ofNat dd)), .val (.int sl)] [(.int (Int32.ofNat dd)), (.long lw), (.ref uu)]))
  refine Onw.go (fun _ kt => XS.bipush X13.here hx rfl (hb hby at_512) kt) ?_
  show Onw p e below _ (T13.setTop (mkF m 514 #[.val (.int p0), .val (.long q1), .second, .val (.int p2), .val (.int sc), .val (.ref ux), .val (.long lim), .second, .val (.long lw), .second, .val (.int rq), .val (.ref tb), .val (.ref hk), .val (.ref uu), .val (.int (Int32.ofNat dd)), .val (.int sl)] [(.int (13 : Int32)), (.int (Int32.ofNat dd)), (.long lw), (.ref uu)]))
  refine Onw.go (fun _ kt => XS.aload X13.here hx rfl (hb hby at_514) rfl rfl kt) ?_
  show Onw p e below _ (T13.setTop (mkF m 516 #[.val (.int p0), .val (.long q1), .second, .val (.int p2), .val (.int sc), .val (.ref ux), .val (.long lim), .second, .val (.long lw), .second, .val (.int rq), .val (.ref tb), .val (.ref hk), .val (.ref uu), .val (.int (Int32.ofNat dd)), .val (.int sl)] [(.ref tb), (.int (13 : Int32)), (.int (Int32.ofNat dd)), (.long lw), (.ref uu)]))
  obtain ⟨_, _, ⟨T14, L14, k14, n14⟩, -, X14, ⟨Lc14, hQ14, l14, y14, z14⟩, st14⟩ := Jvm.LawKit.callS X13 hx (y := (⟨"com/example/vigil_cache/vigilcache/HotKeyRuleWindowAsWrittenPinLaw", "digitOk", "(Ljava/lang/String;JII[J)Z"⟩ : MethodName)) hown (mvT hZ (hw _ (own_mg (i := 233) rfl))) (mvT hZ (hw _ (own_mg (i := 234) rfl))) (mvT hZ (hw _ (own_mg (i := 208) rfl))) (mvT hZ (hw _ (own_mg (i := 235) rfl))) (by decide) (backOf (W := 0) (rm38 l Z a0 hw [] uu lw (Int32.ofNat dd) (13 : Int32) tb zc bb fm kb zs 13 dd ww h0 n0 MM VV lz lz2 zd TB ww1 hdd rfl rfl (by decide) S_F rf S_C hz) hZ (hw _ (own_mg (i := 235) rfl)) (hw _ (own_mg (i := 208) rfl)) (by decide) (by decide)) (g := (mkF m 516 #[.val (.int p0), .val (.long q1), .second, .val (.int p2), .val (.int sc), .val (.ref ux), .val (.long lim), .second, .val (.long lw), .second, .val (.int rq), .val (.ref tb), .val (.ref hk), .val (.ref uu), .val (.int (Int32.ofNat dd)), .val (.int sl)] [(.ref tb), (.int (13 : Int32)), (.int (Int32.ofNat dd)), (.long lw), (.ref uu)])) rfl (by rw [hml]; rfl) (argsL := [(.ref uu), (.long lw), (.int (Int32.ofNat dd)), (.int (13 : Int32)), (.ref tb)]) (rest := []) (lenOf pd_29 rfl) rfl (by show 2 * 0 + _ ≤ _; exact Nat.le_of_eq rfl) (hb hby at_516) (fun _ _ => ⟨rfl, e13q, (by decide : 10 + 0 ≤ _), (by decide : 192 + 0 ≤ _)⟩)
  dsimp only [Pt.U, Pt.locs, Pt.cells, Pt.slots] at X14 l14 y14 z14 st14 hQ14
  subst l14 y14 z14
  obtain ⟨rfl, N14q, e14q⟩ := hQ14
  have N14 := Fr.app N13 N14q
  refine Onw.go st14 ?_
  show Onw p e below _ (T14.setTop (mkF m 519 #[.val (.int p0), .val (.long q1), .second, .val (.int p2), .val (.int sc), .val (.ref ux), .val (.long lim), .second, .val (.long lw), .second, .val (.int rq), .val (.ref tb), .val (.ref hk), .val (.ref uu), .val (.int (Int32.ofNat dd)), .val (.int sl)] [(.int (1 : Int32))]))
  refine Onw.go (fun _ kt => XS.ifNo X14.here hx rfl (hb hby at_519) rfl ((if0 _ _).trans (feq (by decide : ¬ ((1 : Int32) = (0 : Int32)))).1) kt) ?_
  show Onw p e below _ (T14.setTop (mkF m 522 #[.val (.int p0), .val (.long q1), .second, .val (.int p2), .val (.int sc), .val (.ref ux), .val (.long lim), .second, .val (.long lw), .second, .val (.int rq), .val (.ref tb), .val (.ref hk), .val (.ref uu), .val (.int (Int32.ofNat dd)), .val (.int sl)] []))
  refine Onw.go (fun _ kt => XS.aload X14.here hx rfl (hb hby at_522) rfl rfl kt) ?_
  show Onw p e below _ (T14.setTop (mkF m 524 #[.val (.int p0), .val (.long q1), .second, .val (.int p2), .val (.int sc), .val (.ref ux), .val (.long lim), .second, .val (.long lw), .second, .val (.int rq), .val (.ref tb), .val (.ref hk), .val (.ref uu), .val (.int (Int32.ofNat dd)), .val (.int sl)] [(.ref uu)]))
  refine Onw.go (fun _ kt => XS.lload X14.here hx rfl (hb hby at_524) rfl kt) ?_
  show Onw p e below _ (T14.setTop (mkF m 526 #[.val (.int p0), .val (.long q1), .second, .val (.int p2), .val (.int sc), .val (.ref ux), .val (.long lim), .second, .val (.long lw), .second, .val (.int rq), .val (.ref tb), .val (.ref hk), .val (.ref uu), .val (.int (Int32.ofNat dd)), .val (.int sl)] [(.long lw), (.ref uu)]))
  refine Onw.go (fun _ kt => XS.iload X14.here hx rfl (hb hby at_526) rfl kt) ?_
  show Onw p e below _ (T14.setTop (mkF m 528 #[.val (.int p0), .val (.long q1), .second, .val (.int p2), .val (.int sc), .val (.ref ux), .val (.long lim), .second, .val (.long lw), .second, .val (.int rq), .val (.ref tb), .val (.ref hk), .val (.ref uu), .val (.int (Int32.ofNat dd)), .val (.int sl)] [(.int (Int32.ofNat dd)), (.long lw), (.ref uu)]))
  refine Onw.go (fun _ kt => XS.bipush X14.here hx rfl (hb hby at_528) kt) ?_
  show Onw p e below _ (T14.setTop (mkF m 530 #[.val (.int p0), .val (.long q1), .second, .val (.int p2), .val (.int sc), .val (.ref ux), .val (.long lim), .second, .val (.long lw), .second, .val (.int rq), .val (.ref tb), .val (.ref hk), .val (.ref uu), .val (.int (Int32.ofNat dd)), .val (.int sl)] [(.int (14 : Int32)), (.int (Int32.ofNat dd)), (.long lw), (.ref uu)]))
  refine Onw.go (fun _ kt => XS.aload X14.here hx rfl (hb hby at_530) rfl rfl kt) ?_
  show Onw p e below _ (T14.setTop (mkF m 532 #[.val (.int p0), .val (.long q1), .second, .val (.int p2), .val (.int sc), .val (.ref ux), .val (.long lim), .second, .val (.long lw), .second, .val (.int rq), .val (.ref tb), .val (.ref hk), .val (.ref uu), .val (.int (Int32.ofNat dd)), .val (.int sl)] [(.ref tb), (.int (14 : Int32)), (.int (Int32.ofNat dd)), (.long lw), (.ref uu)]))
  obtain ⟨_, _, ⟨T15, L15, k15, n15⟩, -, X15, ⟨Lc15, hQ15, l15, y15, z15⟩, st15⟩ := Jvm.LawKit.callS X14 hx (y := (⟨"com/example/vigil_cache/vigilcache/HotKeyRuleWindowAsWrittenPinLaw", "digitOk", "(Ljava/lang/String;JII[J)Z"⟩ : MethodName)) hown (mvT hZ (hw _ (own_mg (i := 233) rfl))) (mvT hZ (hw _ (own_mg (i := 234) rfl))) (mvT hZ (hw _ (own_mg (i := 208) rfl))) (mvT hZ (hw _ (own_mg (i := 235) rfl))) (by decide) (backOf (W := 0) (rm38 l Z a0 hw [] uu lw (Int32.ofNat dd) (14 : Int32) tb zc bb fm kb zs 14 dd ww h0 n0 MM VV lz lz2 zd TB ww1 hdd rfl rfl (by decide) S_F rf S_C hz) hZ (hw _ (own_mg (i := 235) rfl)) (hw _ (own_mg (i := 208) rfl)) (by decide) (by decide)) (g := (mkF m 532 #[.val (.int p0), .val (.long q1), .second, .val (.int p2), .val (.int sc), .val (.ref ux), .val (.long lim), .second, .val (.long lw), .second, .val (.int rq), .val (.ref tb), .val (.ref hk), .val (.ref uu), .val (.int (Int32.ofNat dd)), .val (.int sl)] [(.ref tb), (.int (14 : Int32)), (.int (Int32.ofNat dd)), (.long lw), (.ref uu)])) rfl (by rw [hml]; rfl) (argsL := [(.ref uu), (.long lw), (.int (Int32.ofNat dd)), (.int (14 : Int32)), (.ref tb)]) (rest := []) (lenOf pd_29 rfl) rfl (by show 2 * 0 + _ ≤ _; exact Nat.le_of_eq rfl) (hb hby at_532) (fun _ _ => ⟨rfl, e14q, (by decide : 10 + 0 ≤ _), (by decide : 192 + 0 ≤ _)⟩)
  dsimp only [Pt.U, Pt.locs, Pt.cells, Pt.slots] at X15 l15 y15 z15 st15 hQ15
  subst l15 y15 z15
  obtain ⟨rfl, N15q, e15q⟩ := hQ15
  have N15 := Fr.app N14 N15q
  refine Onw.go st15 ?_
  show Onw p e below _ (T15.setTop (mkF m 535 #[.val (.int p0), .val (.long q1), .second, .val (.int p2), .val (.int sc), .val (.ref ux), .val (.long lim), .second, .val (.long lw), .second, .val (.int rq), .val (.ref tb), .val (.ref hk), .val (.ref uu), .val (.int (Int32.ofNat dd)), .val (.int sl)] [(.int (1 : Int32))]))
  refine Onw.go (fun _ kt => XS.ifNo X15.here hx rfl (hb hby at_535) rfl ((if0 _ _).trans (feq (by decide : ¬ ((1 : Int32) = (0 : Int32)))).1) kt) ?_
  show Onw p e below _ (T15.setTop (mkF m 538 #[.val (.int p0), .val (.long q1), .second, .val (.int p2), .val (.int sc), .val (.ref ux), .val (.long lim), .second, .val (.long lw), .second, .val (.int rq), .val (.ref tb), .val (.ref hk), .val (.ref uu), .val (.int (Int32.ofNat dd)), .val (.int sl)] []))
  refine Onw.go (fun _ kt => XS.aload X15.here hx rfl (hb hby at_538) rfl rfl kt) ?_
  show Onw p e below _ (T15.setTop (mkF m 540 #[.val (.int p0), .val (.long q1), .second, .val (.int p2), .val (.int sc), .val (.ref ux), .val (.long lim), .second, .val (.long lw), .second, .val (.int rq), .val (.ref tb), .val (.ref hk), .val (.ref uu), .val (.int (Int32.ofNat dd)), .val (.int sl)] [(.ref uu)]))
  refine Onw.go (fun _ kt => XS.lload X15.here hx rfl (hb hby at_540) rfl kt) ?_
  show Onw p e below _ (T15.setTop (mkF m 542 #[.val (.int p0), .val (.long q1), .second, .val (.int p2), .val (.int sc), .val (.ref ux), .val (.long lim), .second, .val (.long lw), .second, .val (.int rq), .val (.ref tb), .val (.ref hk), .val (.ref uu), .val (.int (Int32.ofNat dd)), .val (.int sl)] [(.long lw), (.ref uu)]))
  refine Onw.go (fun _ kt => XS.iload X15.here hx rfl (hb hby at_542) rfl kt) ?_
  show Onw p e below _ (T15.setTop (mkF m 544 #[.val (.int p0), .val (.long q1), .second, .val (.int p2), .val (.int sc), .val (.ref ux), .val (.long lim), .second, .val (.long lw), .second, .val (.int rq), .val (.ref tb), .val (.ref hk), .val (.ref uu), .val (.int (Int32.ofNat dd)), .val (.int sl)] [(.int (Int32.ofNat dd)), (.long lw), (.ref uu)]))
  refine Onw.go (fun _ kt => XS.bipush X15.here hx rfl (hb hby at_544) kt) ?_
  show Onw p e below _ (T15.setTop (mkF m 546 #[.val (.int p0), .val (.long q1), .second, .val (.int p2), .val (.int sc), .val (.ref ux), .val (.long lim), .second, .val (.long lw), .second, .val (.int rq), .val (.ref tb), .val (.ref hk), .val (.ref uu), .val (.int (Int32.ofNat dd)), .val (.int sl)] [(.int (15 : Int32)), (.int (Int32.ofNat dd)), (.long lw), (.ref uu)]))
  refine Onw.go (fun _ kt => XS.aload X15.here hx rfl (hb hby at_546) rfl rfl kt) ?_
  show Onw p e below _ (T15.setTop (mkF m 548 #[.val (.int p0), .val (.long q1), .second, .val (.int p2), .val (.int sc), .val (.ref ux), .val (.long lim), .second, .val (.long lw), .second, .val (.int rq), .val (.ref tb), .val (.ref hk), .val (.ref uu), .val (.int (Int32.ofNat dd)), .val (.int sl)] [(.ref tb), (.int (15 : Int32)), (.int (Int32.ofNat dd)), (.long lw), (.ref uu)]))
  obtain ⟨_, _, ⟨T16, L16, k16, n16⟩, -, X16, ⟨Lc16, hQ16, l16, y16, z16⟩, st16⟩ := Jvm.LawKit.callS X15 hx (y := (⟨"com/example/vigil_cache/vigilcache/HotKeyRuleWindowAsWrittenPinLaw", "digitOk", "(Ljava/lang/String;JII[J)Z"⟩ : MethodName)) hown (mvT hZ (hw _ (own_mg (i := 233) rfl))) (mvT hZ (hw _ (own_mg (i := 234) rfl))) (mvT hZ (hw _ (own_mg (i := 208) rfl))) (mvT hZ (hw _ (own_mg (i := 235) rfl))) (by decide) (backOf (W := 0) (rm38 l Z a0 hw [] uu lw (Int32.ofNat dd) (15 : Int32) tb zc bb fm kb zs 15 dd ww h0 n0 MM VV lz lz2 zd TB ww1 hdd rfl rfl (by decide) S_F rf S_C hz) hZ (hw _ (own_mg (i := 235) rfl)) (hw _ (own_mg (i := 208) rfl)) (by decide) (by decide)) (g := (mkF m 548 #[.val (.int p0), .val (.long q1), .second, .val (.int p2), .val (.int sc), .val (.ref ux), .val (.long lim), .second, .val (.long lw), .second, .val (.int rq), .val (.ref tb), .val (.ref hk), .val (.ref uu), .val (.int (Int32.ofNat dd)), .val (.int sl)] [(.ref tb), (.int (15 : Int32)), (.int (Int32.ofNat dd)), (.long lw), (.ref uu)])) rfl (by rw [hml]; rfl) (argsL := [(.ref uu), (.long lw), (.int (Int32.ofNat dd)), (.int (15 : Int32)), (.ref tb)]) (rest := []) (lenOf pd_29 rfl) rfl (by show 2 * 0 + _ ≤ _; exact Nat.le_of_eq rfl) (hb hby at_548) (fun _ _ => ⟨rfl, e15q, (by decide : 10 + 0 ≤ _), (by decide : 192 + 0 ≤ _)⟩)
  dsimp only [Pt.U, Pt.locs, Pt.cells, Pt.slots] at X16 l16 y16 z16 st16 hQ16
  subst l16 y16 z16
  obtain ⟨rfl, N16q, e16q⟩ := hQ16
  have N16 := Fr.app N15 N16q
  refine Onw.go st16 ?_
  show Onw p e below _ (T16.setTop (mkF m 551 #[.val (.int p0), .val (.long q1), .second, .val (.int p2), .val (.int sc), .val (.ref ux), .val (.long lim), .second, .val (.long lw), .second, .val (.int rq), .val (.ref tb), .val (.ref hk), .val (.ref uu), .val (.int (Int32.ofNat dd)), .val (.int sl)] [(.int (1 : Int32))]))
  refine Onw.go (fun _ kt => XS.ifNo X16.here hx rfl (hb hby at_551) rfl ((if0 _ _).trans (feq (by decide : ¬ ((1 : Int32) = (0 : Int32)))).1) kt) ?_
  show Onw p e below _ (T16.setTop (mkF m 554 #[.val (.int p0), .val (.long q1), .second, .val (.int p2), .val (.int sc), .val (.ref ux), .val (.long lim), .second, .val (.long lw), .second, .val (.int rq), .val (.ref tb), .val (.ref hk), .val (.ref uu), .val (.int (Int32.ofNat dd)), .val (.int sl)] []))
  refine Onw.go (fun _ kt => XS.aload X16.here hx rfl (hb hby at_554) rfl rfl kt) ?_
  show Onw p e below _ (T16.setTop (mkF m 556 #[.val (.int p0), .val (.long q1), .second, .val (.int p2), .val (.int sc), .val (.ref ux), .val (.long lim), .second, .val (.long lw), .second, .val (.int rq), .val (.ref tb), .val (.ref hk), .val (.ref uu), .val (.int (Int32.ofNat dd)), .val (.int sl)] [(.ref uu)]))
  refine Onw.go (fun _ kt => XS.lload X16.here hx rfl (hb hby at_556) rfl kt) ?_
  show Onw p e below _ (T16.setTop (mkF m 558 #[.val (.int p0), .val (.long q1), .second, .val (.int p2), .val (.int sc), .val (.ref ux), .val (.long lim), .second, .val (.long lw), .second, .val (.int rq), .val (.ref tb), .val (.ref hk), .val (.ref uu), .val (.int (Int32.ofNat dd)), .val (.int sl)] [(.long lw), (.ref uu)]))
  refine Onw.go (fun _ kt => XS.iload X16.here hx rfl (hb hby at_558) rfl kt) ?_
  show Onw p e below _ (T16.setTop (mkF m 560 #[.val (.int p0), .val (.long q1), .second, .val (.int p2), .val (.int sc), .val (.ref ux), .val (.long lim), .second, .val (.long lw), .second, .val (.int rq), .val (.ref tb), .val (.ref hk), .val (.ref uu), .val (.int (Int32.ofNat dd)), .val (.int sl)] [(.int (Int32.ofNat dd)), (.long lw), (.ref uu)]))
  refine Onw.go (fun _ kt => XS.bipush X16.here hx rfl (hb hby at_560) kt) ?_
  show Onw p e below _ (T16.setTop (mkF m 562 #[.val (.int p0), .val (.long q1), .second, .val (.int p2), .val (.int sc), .val (.ref ux), .val (.long lim), .second, .val (.long lw), .second, .val (.int rq), .val (.ref tb), .val (.ref hk), .val (.ref uu), .val (.int (Int32.ofNat dd)), .val (.int sl)] [(.int (16 : Int32)), (.int (Int32.ofNat dd)), (.long lw), (.ref uu)]))
  refine Onw.go (fun _ kt => XS.aload X16.here hx rfl (hb hby at_562) rfl rfl kt) ?_
  show Onw p e below _ (T16.setTop (mkF m 564 #[.val (.int p0), .val (.long q1), .second, .val (.int p2), .val (.int sc), .val (.ref ux), .val (.long lim), .second, .val (.long lw), .second, .val (.int rq), .val (.ref tb), .val (.ref hk), .val (.ref uu), .val (.int (Int32.ofNat dd)), .val (.int sl)] [(.ref tb), (.int (16 : Int32)), (.int (Int32.ofNat dd)), (.long lw), (.ref uu)]))
  obtain ⟨_, _, ⟨T17, L17, k17, n17⟩, -, X17, ⟨Lc17, hQ17, l17, y17, z17⟩, st17⟩ := Jvm.LawKit.callS X16 hx (y := (⟨"com/example/vigil_cache/vigilcache/HotKeyRuleWindowAsWrittenPinLaw", "digitOk", "(Ljava/lang/String;JII[J)Z"⟩ : MethodName)) hown (mvT hZ (hw _ (own_mg (i := 233) rfl))) (mvT hZ (hw _ (own_mg (i := 234) rfl))) (mvT hZ (hw _ (own_mg (i := 208) rfl))) (mvT hZ (hw _ (own_mg (i := 235) rfl))) (by decide) (backOf (W := 0) (rm38 l Z a0 hw [] uu lw (Int32.ofNat dd) (16 : Int32) tb zc bb fm kb zs 16 dd ww h0 n0 MM VV lz lz2 zd TB ww1 hdd rfl rfl (by decide) S_F rf S_C hz) hZ (hw _ (own_mg (i := 235) rfl)) (hw _ (own_mg (i := 208) rfl)) (by decide) (by decide)) (g := (mkF m 564 #[.val (.int p0), .val (.long q1), .second, .val (.int p2), .val (.int sc), .val (.ref ux), .val (.long lim), .second, .val (.long lw), .second, .val (.int rq), .val (.ref tb), .val (.ref hk), .val (.ref uu), .val (.int (Int32.ofNat dd)), .val (.int sl)] [(.ref tb), (.int (16 : Int32)), (.int (Int32.ofNat dd)), (.long lw), (.ref uu)])) rfl (by rw [hml]; rfl) (argsL := [(.ref uu), (.long lw), (.int (Int32.ofNat dd)), (.int (16 : Int32)), (.ref tb)]) (rest := []) (lenOf pd_29 rfl) rfl (by show 2 * 0 + _ ≤ _; exact Nat.le_of_eq rfl) (hb hby at_564) (fun _ _ => ⟨rfl, e16q, (by decide : 10 + 0 ≤ _), (by decide : 192 + 0 ≤ _)⟩)
  dsimp only [Pt.U, Pt.locs, Pt.cells, Pt.slots] at X17 l17 y17 z17 st17 hQ17
  subst l17 y17 z17
  obtain ⟨rfl, N17q, e17q⟩ := hQ17
  have N17 := Fr.app N16 N17q
  refine Onw.go st17 ?_
  show Onw p e below _ (T17.setTop (mkF m 567 #[.val (.int p0), .val (.long q1), .second, .val (.int p2), .val (.int sc), .val (.ref ux), .val (.long lim), .second, .val (.long lw), .second, .val (.int rq), .val (.ref tb), .val (.ref hk), .val (.ref uu), .val (.int (Int32.ofNat dd)), .val (.int sl)] [(.int (1 : Int32))]))
  refine Onw.go (fun _ kt => XS.ifNo X17.here hx rfl (hb hby at_567) rfl ((if0 _ _).trans (feq (by decide : ¬ ((1 : Int32) = (0 : Int32)))).1) kt) ?_
  show Onw p e below _ (T17.setTop (mkF m 570 #[.val (.int p0), .val (.long q1), .second, .val (.int p2), .val (.int sc), .val (.ref ux), .val (.long lim), .second, .val (.long lw), .second, .val (.int rq), .val (.ref tb), .val (.ref hk), .val (.ref uu), .val (.int (Int32.ofNat dd)), .val (.int sl)] []))
  refine Onw.go (fun _ kt => XS.aload X17.here hx rfl (hb hby at_570) rfl rfl kt) ?_
  show Onw p e below _ (T17.setTop (mkF m 572 #[.val (.int p0), .val (.long q1), .second, .val (.int p2), .val (.int sc), .val (.ref ux), .val (.long lim), .second, .val (.long lw), .second, .val (.int rq), .val (.ref tb), .val (.ref hk), .val (.ref uu), .val (.int (Int32.ofNat dd)), .val (.int sl)] [(.ref uu)]))
  refine Onw.go (fun _ kt => XS.lload X17.here hx rfl (hb hby at_572) rfl kt) ?_
  show Onw p e below _ (T17.setTop (mkF m 574 #[.val (.int p0), .val (.long q1), .second, .val (.int p2), .val (.int sc), .val (.ref ux), .val (.long lim), .second, .val (.long lw), .second, .val (.int rq), .val (.ref tb), .val (.ref hk), .val (.ref uu), .val (.int (Int32.ofNat dd)), .val (.int sl)] [(.long lw), (.ref uu)]))
  refine Onw.go (fun _ kt => XS.iload X17.here hx rfl (hb hby at_574) rfl kt) ?_
  show Onw p e below _ (T17.setTop (mkF m 576 #[.val (.int p0), .val (.long q1), .second, .val (.int p2), .val (.int sc), .val (.ref ux), .val (.long lim), .second, .val (.long lw), .second, .val (.int rq), .val (.ref tb), .val (.ref hk), .val (.ref uu), .val (.int (Int32.ofNat dd)), .val (.int sl)] [(.int (Int32.ofNat dd)), (.long lw), (.ref uu)]))
  refine Onw.go (fun _ kt => XS.bipush X17.here hx rfl (hb hby at_576) kt) ?_
  show Onw p e below _ (T17.setTop (mkF m 578 #[.val (.int p0), .val (.long q1), .second, .val (.int p2), .val (.int sc), .val (.ref ux), .val (.long lim), .second, .val (.long lw), .second, .val (.int rq), .val (.ref tb), .val (.ref hk), .val (.ref uu), .val (.int (Int32.ofNat dd)), .val (.int sl)] [(.int (17 : Int32)), (.int (Int32.ofNat dd)), (.long lw), (.ref uu)]))
  refine Onw.go (fun _ kt => XS.aload X17.here hx rfl (hb hby at_578) rfl rfl kt) ?_
  show Onw p e below _ (T17.setTop (mkF m 580 #[.val (.int p0), .val (.long q1), .second, .val (.int p2), .val (.int sc), .val (.ref ux), .val (.long lim), .second, .val (.long lw), .second, .val (.int rq), .val (.ref tb), .val (.ref hk), .val (.ref uu), .val (.int (Int32.ofNat dd)), .val (.int sl)] [(.ref tb), (.int (17 : Int32)), (.int (Int32.ofNat dd)), (.long lw), (.ref uu)]))
  obtain ⟨_, _, ⟨T18, L18, k18, n18⟩, -, X18, ⟨Lc18, hQ18, l18, y18, z18⟩, st18⟩ := Jvm.LawKit.callS X17 hx (y := (⟨"com/example/vigil_cache/vigilcache/HotKeyRuleWindowAsWrittenPinLaw", "digitOk", "(Ljava/lang/String;JII[J)Z"⟩ : MethodName)) hown (mvT hZ (hw _ (own_mg (i := 233) rfl))) (mvT hZ (hw _ (own_mg (i := 234) rfl))) (mvT hZ (hw _ (own_mg (i := 208) rfl))) (mvT hZ (hw _ (own_mg (i := 235) rfl))) (by decide) (backOf (W := 0) (rm38 l Z a0 hw [] uu lw (Int32.ofNat dd) (17 : Int32) tb zc bb fm kb zs 17 dd ww h0 n0 MM VV lz lz2 zd TB ww1 hdd rfl rfl (by decide) S_F rf S_C hz) hZ (hw _ (own_mg (i := 235) rfl)) (hw _ (own_mg (i := 208) rfl)) (by decide) (by decide)) (g := (mkF m 580 #[.val (.int p0), .val (.long q1), .second, .val (.int p2), .val (.int sc), .val (.ref ux), .val (.long lim), .second, .val (.long lw), .second, .val (.int rq), .val (.ref tb), .val (.ref hk), .val (.ref uu), .val (.int (Int32.ofNat dd)), .val (.int sl)] [(.ref tb), (.int (17 : Int32)), (.int (Int32.ofNat dd)), (.long lw), (.ref uu)])) rfl (by rw [hml]; rfl) (argsL := [(.ref uu), (.long lw), (.int (Int32.ofNat dd)), (.int (17 : Int32)), (.ref tb)]) (rest := []) (lenOf pd_29 rfl) rfl (by show 2 * 0 + _ ≤ _; exact Nat.le_of_eq rfl) (hb hby at_580) (fun _ _ => ⟨rfl, e17q, (by decide : 10 + 0 ≤ _), (by decide : 192 + 0 ≤ _)⟩)
  dsimp only [Pt.U, Pt.locs, Pt.cells, Pt.slots] at X18 l18 y18 z18 st18 hQ18
  subst l18 y18 z18
  obtain ⟨rfl, N18q, e18q⟩ := hQ18
  have N18 := Fr.app N17 N18q
  refine Onw.go st18 ?_
  show Onw p e below _ (T18.setTop (mkF m 583 #[.val (.int p0), .val (.long q1), .second, .val (.int p2), .val (.int sc), .val (.ref ux), .val (.long lim), .second, .val (.long lw), .second, .val (.int rq), .val (.ref tb), .val (.ref hk), .val (.ref uu), .val (.int (Int32.ofNat dd)), .val (.int sl)] [(.int (1 : Int32))]))
  refine Onw.go (fun _ kt => XS.ifNo X18.here hx rfl (hb hby at_583) rfl ((if0 _ _).trans (feq (by decide : ¬ ((1 : Int32) = (0 : Int32)))).1) kt) ?_
  show Onw p e below _ (T18.setTop (mkF m 586 #[.val (.int p0), .val (.long q1), .second, .val (.int p2), .val (.int sc), .val (.ref ux), .val (.long lim), .second, .val (.long lw), .second, .val (.int rq), .val (.ref tb), .val (.ref hk), .val (.ref uu), .val (.int (Int32.ofNat dd)), .val (.int sl)] []))
  refine Onw.go (fun _ kt => XS.aload X18.here hx rfl (hb hby at_586) rfl rfl kt) ?_
  show Onw p e below _ (T18.setTop (mkF m 588 #[.val (.int p0), .val (.long q1), .second, .val (.int p2), .val (.int sc), .val (.ref ux), .val (.long lim), .second, .val (.long lw), .second, .val (.int rq), .val (.ref tb), .val (.ref hk), .val (.ref uu), .val (.int (Int32.ofNat dd)), .val (.int sl)] [(.ref uu)]))
  refine Onw.go (fun _ kt => XS.lload X18.here hx rfl (hb hby at_588) rfl kt) ?_
  show Onw p e below _ (T18.setTop (mkF m 590 #[.val (.int p0), .val (.long q1), .second, .val (.int p2), .val (.int sc), .val (.ref ux), .val (.long lim), .second, .val (.long lw), .second, .val (.int rq), .val (.ref tb), .val (.ref hk), .val (.ref uu), .val (.int (Int32.ofNat dd)), .val (.int sl)] [(.long lw), (.ref uu)]))
  refine Onw.go (fun _ kt => XS.iload X18.here hx rfl (hb hby at_590) rfl kt) ?_
  show Onw p e below _ (T18.setTop (mkF m 592 #[.val (.int p0), .val (.long q1), .second, .val (.int p2), .val (.int sc), .val (.ref ux), .val (.long lim), .second, .val (.long lw), .second, .val (.int rq), .val (.ref tb), .val (.ref hk), .val (.ref uu), .val (.int (Int32.ofNat dd)), .val (.int sl)] [(.int (Int32.ofNat dd)), (.long lw), (.ref uu)]))
  refine Onw.go (fun _ kt => XS.bipush X18.here hx rfl (hb hby at_592) kt) ?_
  show Onw p e below _ (T18.setTop (mkF m 594 #[.val (.int p0), .val (.long q1), .second, .val (.int p2), .val (.int sc), .val (.ref ux), .val (.long lim), .second, .val (.long lw), .second, .val (.int rq), .val (.ref tb), .val (.ref hk), .val (.ref uu), .val (.int (Int32.ofNat dd)), .val (.int sl)] [(.int (18 : Int32)), (.int (Int32.ofNat dd)), (.long lw), (.ref uu)]))
  refine Onw.go (fun _ kt => XS.aload X18.here hx rfl (hb hby at_594) rfl rfl kt) ?_
  show Onw p e below _ (T18.setTop (mkF m 596 #[.val (.int p0), .val (.long q1), .second, .val (.int p2), .val (.int sc), .val (.ref ux), .val (.long lim), .second, .val (.long lw), .second, .val (.int rq), .val (.ref tb), .val (.ref hk), .val (.ref uu), .val (.int (Int32.ofNat dd)), .val (.int sl)] [(.ref tb), (.int (18 : Int32)), (.int (Int32.ofNat dd)), (.long lw), (.ref uu)]))
  obtain ⟨_, _, ⟨T19, L19, k19, n19⟩, -, X19, ⟨Lc19, hQ19, l19, y19, z19⟩, st19⟩ := Jvm.LawKit.callS X18 hx (y := (⟨"com/example/vigil_cache/vigilcache/HotKeyRuleWindowAsWrittenPinLaw", "digitOk", "(Ljava/lang/String;JII[J)Z"⟩ : MethodName)) hown (mvT hZ (hw _ (own_mg (i := 233) rfl))) (mvT hZ (hw _ (own_mg (i := 234) rfl))) (mvT hZ (hw _ (own_mg (i := 208) rfl))) (mvT hZ (hw _ (own_mg (i := 235) rfl))) (by decide) (backOf (W := 0) (rm38 l Z a0 hw [] uu lw (Int32.ofNat dd) (18 : Int32) tb zc bb fm kb zs 18 dd ww h0 n0 MM VV lz lz2 zd TB ww1 hdd rfl rfl (by decide) S_F rf S_C hz) hZ (hw _ (own_mg (i := 235) rfl)) (hw _ (own_mg (i := 208) rfl)) (by decide) (by decide)) (g := (mkF m 596 #[.val (.int p0), .val (.long q1), .second, .val (.int p2), .val (.int sc), .val (.ref ux), .val (.long lim), .second, .val (.long lw), .second, .val (.int rq), .val (.ref tb), .val (.ref hk), .val (.ref uu), .val (.int (Int32.ofNat dd)), .val (.int sl)] [(.ref tb), (.int (18 : Int32)), (.int (Int32.ofNat dd)), (.long lw), (.ref uu)])) rfl (by rw [hml]; rfl) (argsL := [(.ref uu), (.long lw), (.int (Int32.ofNat dd)), (.int (18 : Int32)), (.ref tb)]) (rest := []) (lenOf pd_29 rfl) rfl (by show 2 * 0 + _ ≤ _; exact Nat.le_of_eq rfl) (hb hby at_596) (fun _ _ => ⟨rfl, e18q, (by decide : 10 + 0 ≤ _), (by decide : 192 + 0 ≤ _)⟩)
  dsimp only [Pt.U, Pt.locs, Pt.cells, Pt.slots] at X19 l19 y19 z19 st19 hQ19
  subst l19 y19 z19
  obtain ⟨rfl, N19q, e19q⟩ := hQ19
  have N19 := Fr.app N18 N19q
  refine Onw.go st19 ?_
  show Onw p e below _ (T19.setTop (mkF m 599 #[.val (.int p0), .val (.long q1), .second, .val (.int p2), .val (.int sc), .val (.ref ux), .val (.long lim), .second, .val (.long lw), .second, .val (.int rq), .val (.ref tb), .val (.ref hk), .val (.ref uu), .val (.int (Int32.ofNat dd)), .val (.int sl)] [(.int (1 : Int32))]))
  refine Onw.go (fun _ kt => XS.ifNo X19.here hx rfl (hb hby at_599) rfl ((if0 _ _).trans (feq (by decide : ¬ ((1 : Int32) = (0 : Int32)))).1) kt) ?_
  show Onw p e below _ (T19.setTop (mkF m 602 #[.val (.int p0), .val (.long q1), .second, .val (.int p2), .val (.int sc), .val (.ref ux), .val (.long lim), .second, .val (.long lw), .second, .val (.int rq), .val (.ref tb), .val (.ref hk), .val (.ref uu), .val (.int (Int32.ofNat dd)), .val (.int sl)] []))
  refine Onw.go (fun _ kt => XS.iconst X19.here hx rfl (hb hby at_602) kt) ?_
  show Onw p e below _ (T19.setTop (mkF m 603 #[.val (.int p0), .val (.long q1), .second, .val (.int p2), .val (.int sc), .val (.ref ux), .val (.long lim), .second, .val (.long lw), .second, .val (.int rq), .val (.ref tb), .val (.ref hk), .val (.ref uu), .val (.int (Int32.ofNat dd)), .val (.int sl)] [(.int (1 : Int32))]))
  refine Onw.go (fun _ kt => XS.goto X19.here hx rfl (pc0 := 603) (pc' := 607) rfl (hb hby at_603) (by decide) (by decide) kt) ?_
  show Onw p e below _ (T19.setTop (mkF m 607 #[.val (.int p0), .val (.long q1), .second, .val (.int p2), .val (.int sc), .val (.ref ux), .val (.long lim), .second, .val (.long lw), .second, .val (.int rq), .val (.ref tb), .val (.ref hk), .val (.ref uu), .val (.int (Int32.ofNat dd)), .val (.int sl)] [(.int (1 : Int32))]))
  exact hK _ _ X19 e19q N19
set_option maxRecDepth 65536 in
set_option maxHeartbeats 40000000 in
theorem law_199S {p : Program} {l : Launch} {e : Env} {s : State} {m : MethodId} {args : Array Value} {below : List Frame} {meth : Method} {c : Code} {Z : State} {a0 : Array Value} {W : Outcome → State → Prop} (hx : p.tables.exec = Jvm.exec) (hZ : Z.Warmed39 s.vm) (hw : ∀ d ∈ tables_1, d.before a0 Z = true) (hby : c.code = code) (hml : c.maxLocals = 16) (hown : s.vm.findClass "com/example/vigil_cache/vigilcache/HotKeyRuleWindowAsWrittenPinLaw" = some m.cls) {h0 : Heap} {n0 : Nat}  (p0 p2 rq : Int32) (q1 lw : Int64) (tb : Addr) (dd ww : Nat) (zc : Int32) (fm : Value) (o1 o2 : Addr) (uS rS tS : Addr) (kS : ClassId)
    {T0 : State} {locs0 : List Loc} (X0 : Stand p l e room_1 s m args below meth c T0 locs0 1 19) (e0 : T0.heap = h0) (N0 : Fr n0 locs0) (Z0 : n0 ≤ h0.size) (S_C : Sta Z h0 "java/lang/String" "COMPACT_STRINGS" "Z" (.int zc)) (hz : ¬ zc = 0) (S_F : Sta Z h0 "jdk/internal/util/Preconditions" "SIOOBE_FORMATTER" "Ljava/util/function/BiFunction;" fm) (rf : fm.isRef = true) (S_1 : Sta Z h0 "java/lang/Integer" "DigitOnes" "[B" (.ref o1)) (S_2 : Sta Z h0 "java/lang/Integer" "DigitTens" "[B" (.ref o2)) (D_1 : own_DG Z h0 o1 (fun i => i % 10)) (D_2 : own_DG Z h0 o2 (fun i => i / 10)) (lo1 : o1 < n0) (lo2 : o2 < n0) (S_S : Sta Z h0 "com/example/vigil_cache/vigilcache/HotKeyRule$WindowUnit" "SECONDS" "Lcom/example/vigil_cache/vigilcache/HotKeyRule$WindowUnit;" (.ref uS)) (FM_S : Fld Z h0 uS "com/example/vigil_cache/vigilcache/HotKeyRule$WindowUnit" "millis" "J" (.long (1000 : Int64))) (FS_S : Fld Z h0 uS "com/example/vigil_cache/vigilcache/HotKeyRule$WindowUnit" "suffix" "Ljava/lang/String;" (.ref rS)) (ST_S : own_ST Z h0 rS tS) (VT_S : Arv Z h0 tS kS .byte (Int32.ofNat ([(115 : Int32)]).length) (([(115 : Int32)]).map Value.int) (.int (0 : Int32))) (lr_S : rS < n0) (lt_S : tS < n0) (TB0 : own_TB Z h0 tb) (ww1 : lw.toInt = (ww : Int)) (ww2 : 1 ≤ ww) (ww3 : ww ≤ 9223372036854775) (DD : own_D ww dd) (hdd : dd ≤ 19) (hrq1 : ¬ rq < 1) (hK : ∀ (vm1 : Vm) (T' : State) (locs' : List Loc) (j : Nat) (Ls : Array Slot), Stand p l e room_1 (s.setVm vm1) m args below meth c T' locs' 10 192 → s.Since vm1 j → j ≤ T'.heap.size → Fr n0 locs' → Onw p e below W (T'.setTop (mkF m 607 Ls [(.int (1 : Int32))]))) :
    Onw p e below W (T0.setTop (mkF m 199 #[.val (.int p0), .val (.long q1), .second, .val (.int p2), .val (.int (1 : Int32)), .val (.ref uS), .val (.long (9223372036854775 : Int64)), .second, .val (.long lw), .second, .val (.int rq), .val (.ref tb), .unset, .unset, .unset, .unset] [])) := by
  obtain ⟨T1, h1, X1, e1, E1, A1, D1, -, st1⟩ := newO X0 hx hZ hown (hw _ (own_mg (i := 25) rfl)) (hw _ (own_mg (i := 26) rfl)) (hw _ (own_mg (i := 27) rfl)) e0 (g := (mkF m 199 #[.val (.int p0), .val (.long q1), .second, .val (.int p2), .val (.int (1 : Int32)), .val (.ref uS), .val (.long (9223372036854775 : Int64)), .second, .val (.long lw), .second, .val (.int rq), .val (.ref tb), .unset, .unset, .unset, .unset] [])) rfl (hb hby at_199) (by decide) (by decide)
  obtain ⟨hk, gg1⟩ : ∃ own_z, own_z = h0.size := ⟨_, rfl⟩
  rw [← gg1] at A1 D1 st1
  have F_requests_hk : Fld Z h1 hk "com/example/vigil_cache/vigilcache/HotKeyRule" "requests" "I" (.int (0 : Int32)) := D1 (Or.inr (hw _ (List.mem_of_getElem? (i := 58) rfl))) (ty := .int) (by decide)
  have F_windowLength_hk : Fld Z h1 hk "com/example/vigil_cache/vigilcache/HotKeyRule" "windowLength" "J" (.long (0 : Int64)) := D1 (Or.inr (hw _ (List.mem_of_getElem? (i := 60) rfl))) (ty := .long) (by decide)
  have F_windowUnit_hk : Fld Z h1 hk "com/example/vigil_cache/vigilcache/HotKeyRule" "windowUnit" "Lcom/example/vigil_cache/vigilcache/HotKeyRule$WindowUnit;" .null := D1 (Or.inr (hw _ (List.mem_of_getElem? (i := 62) rfl))) (ty := (.object "com/example/vigil_cache/vigilcache/HotKeyRule$WindowUnit")) (by decide)
  refine Onw.go st1 ?_
  show Onw p e below _ (T1.setTop (mkF m 202 #[.val (.int p0), .val (.long q1), .second, .val (.int p2), .val (.int (1 : Int32)), .val (.ref uS), .val (.long (9223372036854775 : Int64)), .second, .val (.long lw), .second, .val (.int rq), .val (.ref tb), .unset, .unset, .unset, .unset] [(.ref hk)]))
  have ghk : h0.size ≤ hk := Nat.le_of_eq gg1.symm
  obtain ⟨cT, aT, -⟩ := id TB0
  have ntb : tb ∉ [hk] := own_nin1 aT.lt ghk
  clear aT
  refine Onw.go (fun _ kt => XS.dup X1.here hx rfl (hb hby at_202) rfl rfl kt) ?_
  show Onw p e below _ (T1.setTop (mkF m 203 #[.val (.int p0), .val (.long q1), .second, .val (.int p2), .val (.int (1 : Int32)), .val (.ref uS), .val (.long (9223372036854775 : Int64)), .second, .val (.long lw), .second, .val (.int rq), .val (.ref tb), .unset, .unset, .unset, .unset] [(.ref hk), (.ref hk)]))
  refine Onw.go (fun _ kt => XS.iload X1.here hx rfl (hb hby at_203) rfl kt) ?_
  show Onw p e below _ (T1.setTop (mkF m 205 #[.val (.int p0), .val (.long q1), .second, .val (.int p2), .val (.int (1 : Int32)), .val (.ref uS), .val (.long (9223372036854775 : Int64)), .second, .val (.long lw), .second, .val (.int rq), .val (.ref tb), .unset, .unset, .unset, .unset] [(.int rq), (.ref hk), (.ref hk)]))
  refine Onw.go (fun _ kt => XS.lload X1.here hx rfl (hb hby at_205) rfl kt) ?_
  show Onw p e below _ (T1.setTop (mkF m 207 #[.val (.int p0), .val (.long q1), .second, .val (.int p2), .val (.int (1 : Int32)), .val (.ref uS), .val (.long (9223372036854775 : Int64)), .second, .val (.long lw), .second, .val (.int rq), .val (.ref tb), .unset, .unset, .unset, .unset] [(.long lw), (.int rq), (.ref hk), (.ref hk)]))
  refine Onw.go (fun _ kt => XS.aload X1.here hx rfl (hb hby at_207) rfl rfl kt) ?_
  show Onw p e below _ (T1.setTop (mkF m 209 #[.val (.int p0), .val (.long q1), .second, .val (.int p2), .val (.int (1 : Int32)), .val (.ref uS), .val (.long (9223372036854775 : Int64)), .second, .val (.long lw), .second, .val (.int rq), .val (.ref tb), .unset, .unset, .unset, .unset] [(.ref uS), (.long lw), (.int rq), (.ref hk), (.ref hk)]))
  have cw1 : ¬ (lcmpW lw (1 : Int64) < 0) := fun own_z => by
    rw [own_lc1, ww1] at own_z
    have own_e : (1 : Int64).toInt = 1 := rfl
    omega
  have cw3 : ¬ (0 < lcmpW lw ((9223372036854775807 : Int64) / (1000 : Int64))) := fun own_z => by
    rw [own_lc0, ww1] at own_z
    have own_e : ((9223372036854775807 : Int64) / (1000 : Int64)).toInt = 9223372036854775 := by decide +kernel
    omega
  obtain ⟨_, _, ⟨T2, L2, k2, n2⟩, -, X2, hS2, hg2, ⟨Lc2, hQ2, l2, y2, z2⟩, st2⟩ := Jvm.Stand.specialBackS X1 hx (y := (⟨"com/example/vigil_cache/vigilcache/HotKeyRule", "<init>", "(IJLcom/example/vigil_cache/vigilcache/HotKeyRule$WindowUnit;)V"⟩ : MethodName)) rfl hown (mvT hZ (hw _ (own_mg (i := 28) rfl))) (mvT hZ (hw _ (own_mg (i := 29) rfl))) (mvT hZ (hw _ (own_mg (i := 30) rfl))) (by decide) (backOfS (W := 1) (rm1 l Z a0 hw [] hk rq lw uS (1000 : Int64) h1 n0 A1 F_requests_hk F_windowLength_hk F_windowUnit_hk (FM_S.ext E1) hrq1 cw1 (by decide) cw3 (Nat.le_trans Z0 ghk)) hZ (hw _ (own_mg (i := 30) rfl)) (hw _ (own_mg (i := 27) rfl)) (by decide) (by decide)) (g := (mkF m 209 #[.val (.int p0), .val (.long q1), .second, .val (.int p2), .val (.int (1 : Int32)), .val (.ref uS), .val (.long (9223372036854775 : Int64)), .second, .val (.long lw), .second, .val (.int rq), .val (.ref tb), .unset, .unset, .unset, .unset] [(.ref uS), (.long lw), (.int rq), (.ref hk), (.ref hk)])) rfl (by rw [hml]; rfl) (Steps.refl _) (a := hk) (argsL := [(.int rq), (.long lw), (.ref uS)]) (rest := [(.ref hk)]) (lenOf pd_0 rfl) rfl (by show 2 * 0 + _ ≤ _; exact Nat.le_of_eq rfl) (hb hby at_209) (fun _ _ => ⟨rfl, e1, (by decide : 2 + 2 ≤ _), (by decide : 22 + 44 ≤ _)⟩)
  dsimp only [Pt.U, Pt.locs, Pt.cells, Pt.slots] at X2 l2 y2 z2 st2 hQ2 hS2 hg2
  subst l2 y2 z2
  obtain ⟨rfl, N2q, K2, FL2, FU2⟩ := hQ2
  have N2 := Fr.app N0 N2q
  have hZ2 : Z.Warmed39 T2.vm := State.Warmed39.trans (t := s) hZ hS2.1
  have hown2 : T2.vm.findClass "com/example/vigil_cache/vigilcache/HotKeyRuleWindowAsWrittenPinLaw" = some m.cls := by rw [hS2.1.alike.findClass]; exact hown
  refine Onw.go (fun own_u kt => st2.trans kt) ?_
  show Onw p e below _ (T2.setTop (mkF m 212 #[.val (.int p0), .val (.long q1), .second, .val (.int p2), .val (.int (1 : Int32)), .val (.ref uS), .val (.long (9223372036854775 : Int64)), .second, .val (.long lw), .second, .val (.int rq), .val (.ref tb), .unset, .unset, .unset, .unset] [(.ref hk)]))
  have XI := own_extk E1 K2 ghk
  have TB1 := (TB0.ext E1).keep K2 ntb
  refine Onw.go (fun _ kt => XS.astore X2.here hx rfl (hb hby at_212) rfl rfl (l' := #[.val (.int p0), .val (.long q1), .second, .val (.int p2), .val (.int (1 : Int32)), .val (.ref uS), .val (.long (9223372036854775 : Int64)), .second, .val (.long lw), .second, .val (.int rq), .val (.ref tb), .val (.ref hk), .unset, .unset, .unset]) rfl kt) ?_
  show Onw p e below _ (T2.setTop (mkF m 214 #[.val (.int p0), .val (.long q1), .second, .val (.int p2), .val (.int (1 : Int32)), .val (.ref uS), .val (.long (9223372036854775 : Int64)), .second, .val (.long lw), .second, .val (.int rq), .val (.ref tb), .val (.ref hk), .unset, .unset, .unset] []))
  refine Onw.go (fun _ kt => XS.aload X2.here hx rfl (hb hby at_214) rfl rfl kt) ?_
  show Onw p e below _ (T2.setTop (mkF m 216 #[.val (.int p0), .val (.long q1), .second, .val (.int p2), .val (.int (1 : Int32)), .val (.ref uS), .val (.long (9223372036854775 : Int64)), .second, .val (.long lw), .second, .val (.int rq), .val (.ref tb), .val (.ref hk), .unset, .unset, .unset] [(.ref hk)]))
  obtain ⟨cq3, kq3, q3a, q3b, q3c⟩ := isOf hZ2 rfl (A1.keep K2)
  obtain ⟨_, _, ⟨T3, L3, k3, n3⟩, -, X3, ⟨Lc3, hQ3, l3, y3, z3⟩, st3⟩ := X2.virtualBack hx (y := (⟨"com/example/vigil_cache/vigilcache/HotKeyRule", "windowAsWritten", "()Ljava/lang/String;"⟩ : MethodName)) (z := (⟨"com/example/vigil_cache/vigilcache/HotKeyRule", "windowAsWritten", "()Ljava/lang/String;"⟩ : MethodName)) hown2 (mvT hZ2 (hw _ (own_mg (i := 63) rfl))) (mvT hZ2 (hw _ (own_mg (i := 64) rfl))) (notFace_of_selects (args := #[]) (mvT hZ2 (hw _ (own_mg (i := 66) rfl)))) (mvT hZ2 (hw _ (own_mg (i := 66) rfl))) (mvT hZ2 (hw _ (own_mg (i := 65) rfl))) (by decide) (backOf (W := 0) (rm6 l Z a0 hw [] hk zc lw uS rS tS o1 o2 kS [(115 : Int32)] dd ww T2.heap n0 FL2 FU2 (FS_S.ext XI) (ST_S.ext XI) (VT_S.ext XI) (by decide) (S_C.ext XI) hz (S_1.ext XI) (S_2.ext XI) (own_DG.keep D_1 ((Keep.refl h0 []).ext XI) (by simp)) (own_DG.keep D_2 ((Keep.refl h0 []).ext XI) (by simp)) lo1 lo2 ww1 DD hdd lr_S lt_S (Nat.le_trans Z0 XI.1)) hZ2 (hw _ (own_mg (i := 67) rfl)) (hw _ (own_mg (i := 27) rfl)) (by decide) (by decide)) q3a q3c (g := (mkF m 216 #[.val (.int p0), .val (.long q1), .second, .val (.int p2), .val (.int (1 : Int32)), .val (.ref uS), .val (.long (9223372036854775 : Int64)), .second, .val (.long lw), .second, .val (.int rq), .val (.ref tb), .val (.ref hk), .unset, .unset, .unset] [(.ref hk)])) rfl (by rw [hml]; rfl) (Steps.refl _) (argsL := []) (rest := []) (lenOf pd_4 rfl) rfl (by show 2 * 0 + _ ≤ _; exact Nat.le_of_eq rfl) (hb hby at_216) (fun _ _ => ⟨rfl, rfl, (by decide : 4 + 6 ≤ _), (by decide : 66 + 126 ≤ _)⟩)
  dsimp only [Pt.U, Pt.locs, Pt.cells, Pt.slots] at X3 l3 y3 z3 st3 hQ3
  subst l3 y3 z3
  obtain ⟨u3, b3, kb3, zs, rfl, N3q, E3, M3, V3, zl, zd, zt⟩ := hQ3
  have N3 := Fr.app N2 N3q
  refine Onw.go (fun _ kt => st3.trans kt) ?_
  show Onw p e below _ (T3.setTop (mkF m 219 #[.val (.int p0), .val (.long q1), .second, .val (.int p2), .val (.int (1 : Int32)), .val (.ref uS), .val (.long (9223372036854775 : Int64)), .second, .val (.long lw), .second, .val (.int rq), .val (.ref tb), .val (.ref hk), .unset, .unset, .unset] [(.ref u3)]))
  have XW := own_ee XI E3
  have TB2 := TB1.ext E3
  have S_C2 := S_C.ext XW
  have S_F2 := S_F.ext XW
  have zl2 : zs.length = dd + 1 := zl
  have zt0 : zs[dd]? = some (Int32.ofNat 115) := zt 0
  refine Onw.go (fun _ kt => XS.astore X3.here hx rfl (hb hby at_219) rfl rfl (l' := #[.val (.int p0), .val (.long q1), .second, .val (.int p2), .val (.int (1 : Int32)), .val (.ref uS), .val (.long (9223372036854775 : Int64)), .second, .val (.long lw), .second, .val (.int rq), .val (.ref tb), .val (.ref hk), .val (.ref u3), .unset, .unset]) rfl kt) ?_
  show Onw p e below _ (T3.setTop (mkF m 221 #[.val (.int p0), .val (.long q1), .second, .val (.int p2), .val (.int (1 : Int32)), .val (.ref uS), .val (.long (9223372036854775 : Int64)), .second, .val (.long lw), .second, .val (.int rq), .val (.ref tb), .val (.ref hk), .val (.ref u3), .unset, .unset] []))
  refine Onw.go (fun _ kt => XS.lload X3.here hx rfl (hb hby at_221) rfl kt) ?_
  show Onw p e below _ (T3.setTop (mkF m 223 #[.val (.int p0), .val (.long q1), .second, .val (.int p2), .val (.int (1 : Int32)), .val (.ref uS), .val (.long (9223372036854775 : Int64)), .second, .val (.long lw), .second, .val (.int rq), .val (.ref tb), .val (.ref hk), .val (.ref u3), .unset, .unset] [(.long lw)]))
  refine Onw.go (fun _ kt => XS.aload X3.here hx rfl (hb hby at_223) rfl rfl kt) ?_
  show Onw p e below _ (T3.setTop (mkF m 225 #[.val (.int p0), .val (.long q1), .second, .val (.int p2), .val (.int (1 : Int32)), .val (.ref uS), .val (.long (9223372036854775 : Int64)), .second, .val (.long lw), .second, .val (.int rq), .val (.ref tb), .val (.ref hk), .val (.ref u3), .unset, .unset] [(.ref tb), (.long lw)]))
  obtain ⟨_, _, ⟨T4, L4, k4, n4⟩, -, X4, ⟨Lc4, hQ4, l4, y4, z4⟩, st4⟩ := Jvm.LawKit.callS X3 hx (y := (⟨"com/example/vigil_cache/vigilcache/HotKeyRuleWindowAsWrittenPinLaw", "digits", "(J[J)I"⟩ : MethodName)) hown2 (mvT hZ2 (hw _ (own_mg (i := 206) rfl))) (mvT hZ2 (hw _ (own_mg (i := 207) rfl))) (mvT hZ2 (hw _ (own_mg (i := 208) rfl))) (mvT hZ2 (hw _ (own_mg (i := 209) rfl))) (by decide) (backOf (W := 0) (rm32 l Z a0 hw [] lw tb dd ww T3.heap n0 TB2 ww1 DD hdd) hZ2 (hw _ (own_mg (i := 209) rfl)) (hw _ (own_mg (i := 208) rfl)) (by decide) (by decide)) (g := (mkF m 225 #[.val (.int p0), .val (.long q1), .second, .val (.int p2), .val (.int (1 : Int32)), .val (.ref uS), .val (.long (9223372036854775 : Int64)), .second, .val (.long lw), .second, .val (.int rq), .val (.ref tb), .val (.ref hk), .val (.ref u3), .unset, .unset] [(.ref tb), (.long lw)])) rfl (by rw [hml]; rfl) (argsL := [(.long lw), (.ref tb)]) (rest := []) (lenOf pd_25 rfl) rfl (by show 2 * 0 + _ ≤ _; exact Nat.le_of_eq rfl) (hb hby at_225) (fun _ _ => ⟨rfl, rfl, (by decide : 10 + 0 ≤ _), (by decide : 192 + 0 ≤ _)⟩)
  dsimp only [Pt.U, Pt.locs, Pt.cells, Pt.slots] at X4 l4 y4 z4 st4 hQ4
  subst l4 y4 z4
  obtain ⟨rfl, N4q, e4q⟩ := hQ4
  have N4 := Fr.app N3 N4q
  refine Onw.go st4 ?_
  show Onw p e below _ (T4.setTop (mkF m 228 #[.val (.int p0), .val (.long q1), .second, .val (.int p2), .val (.int (1 : Int32)), .val (.ref uS), .val (.long (9223372036854775 : Int64)), .second, .val (.long lw), .second, .val (.int rq), .val (.ref tb), .val (.ref hk), .val (.ref u3), .unset, .unset] [(.int (Int32.ofNat dd))]))
  refine Onw.go (fun _ kt => XS.istore X4.here hx rfl (hb hby at_228) rfl (l' := #[.val (.int p0), .val (.long q1), .second, .val (.int p2), .val (.int (1 : Int32)), .val (.ref uS), .val (.long (9223372036854775 : Int64)), .second, .val (.long lw), .second, .val (.int rq), .val (.ref tb), .val (.ref hk), .val (.ref u3), .val (.int (Int32.ofNat dd)), .unset]) rfl kt) ?_
  show Onw p e below _ (T4.setTop (mkF m 230 #[.val (.int p0), .val (.long q1), .second, .val (.int p2), .val (.int (1 : Int32)), .val (.ref uS), .val (.long (9223372036854775 : Int64)), .second, .val (.long lw), .second, .val (.int rq), .val (.ref tb), .val (.ref hk), .val (.ref u3), .val (.int (Int32.ofNat dd)), .unset] []))
  refine Onw.go (fun _ kt => XS.iload X4.here hx rfl (hb hby at_230) rfl kt) ?_
  show Onw p e below _ (T4.setTop (mkF m 232 #[.val (.int p0), .val (.long q1), .second, .val (.int p2), .val (.int (1 : Int32)), .val (.ref uS), .val (.long (9223372036854775 : Int64)), .second, .val (.long lw), .second, .val (.int rq), .val (.ref tb), .val (.ref hk), .val (.ref u3), .val (.int (Int32.ofNat dd)), .unset] [(.int (1 : Int32))]))
  refine Onw.go (fun _ kt => XS.ifNo X4.here hx rfl (hb hby at_232) rfl ((if0 _ _).trans (feq (by decide : ¬ ((1 : Int32) = (0 : Int32)))).1) kt) ?_
  show Onw p e below _ (T4.setTop (mkF m 235 #[.val (.int p0), .val (.long q1), .second, .val (.int p2), .val (.int (1 : Int32)), .val (.ref uS), .val (.long (9223372036854775 : Int64)), .second, .val (.long lw), .second, .val (.int rq), .val (.ref tb), .val (.ref hk), .val (.ref u3), .val (.int (Int32.ofNat dd)), .unset] []))
  refine Onw.go (fun _ kt => XS.iconst X4.here hx rfl (hb hby at_235) kt) ?_
  show Onw p e below _ (T4.setTop (mkF m 236 #[.val (.int p0), .val (.long q1), .second, .val (.int p2), .val (.int (1 : Int32)), .val (.ref uS), .val (.long (9223372036854775 : Int64)), .second, .val (.long lw), .second, .val (.int rq), .val (.ref tb), .val (.ref hk), .val (.ref u3), .val (.int (Int32.ofNat dd)), .unset] [(.int (1 : Int32))]))
  refine Onw.go (fun _ kt => XS.goto X4.here hx rfl (pc0 := 236) (pc' := 240) rfl (hb hby at_236) (by decide) (by decide) kt) ?_
  show Onw p e below _ (T4.setTop (mkF m 240 #[.val (.int p0), .val (.long q1), .second, .val (.int p2), .val (.int (1 : Int32)), .val (.ref uS), .val (.long (9223372036854775 : Int64)), .second, .val (.long lw), .second, .val (.int rq), .val (.ref tb), .val (.ref hk), .val (.ref u3), .val (.int (Int32.ofNat dd)), .unset] [(.int (1 : Int32))]))
  refine Onw.go (fun _ kt => XS.istore X4.here hx rfl (hb hby at_240) rfl (l' := #[.val (.int p0), .val (.long q1), .second, .val (.int p2), .val (.int (1 : Int32)), .val (.ref uS), .val (.long (9223372036854775 : Int64)), .second, .val (.long lw), .second, .val (.int rq), .val (.ref tb), .val (.ref hk), .val (.ref u3), .val (.int (Int32.ofNat dd)), .val (.int (1 : Int32))]) rfl kt) ?_
  show Onw p e below _ (T4.setTop (mkF m 242 #[.val (.int p0), .val (.long q1), .second, .val (.int p2), .val (.int (1 : Int32)), .val (.ref uS), .val (.long (9223372036854775 : Int64)), .second, .val (.long lw), .second, .val (.int rq), .val (.ref tb), .val (.ref hk), .val (.ref u3), .val (.int (Int32.ofNat dd)), .val (.int (1 : Int32))] []))
  refine Onw.go (fun _ kt => XS.aload X4.here hx rfl (hb hby at_242) rfl rfl kt) ?_
  show Onw p e below _ (T4.setTop (mkF m 244 #[.val (.int p0), .val (.long q1), .second, .val (.int p2), .val (.int (1 : Int32)), .val (.ref uS), .val (.long (9223372036854775 : Int64)), .second, .val (.long lw), .second, .val (.int rq), .val (.ref tb), .val (.ref hk), .val (.ref u3), .val (.int (Int32.ofNat dd)), .val (.int (1 : Int32))] [(.ref u3)]))
  obtain ⟨cq5, kq5, q5a, q5b, q5c⟩ := isOf hZ2 e4q M3.1
  obtain ⟨_, _, ⟨T5, L5, k5, n5⟩, -, X5, ⟨Lc5, hQ5, l5, y5, z5⟩, st5⟩ := X4.virtualBack hx (y := (⟨"java/lang/String", "length", "()I"⟩ : MethodName)) (z := (⟨"java/lang/String", "length", "()I"⟩ : MethodName)) hown2 (mvT hZ2 (hw _ (own_mg (i := 210) rfl))) (mvT hZ2 (hw _ (own_mg (i := 131) rfl))) (notFace_of_selects (args := #[]) (mvT hZ2 (hw _ (own_mg (i := 133) rfl)))) (mvT hZ2 (hw _ (own_mg (i := 133) rfl))) (mvT hZ2 (hw _ (own_mg (i := 132) rfl))) (by decide) (backOf (W := 0) (rm17 l Z a0 hw [] u3 zc b3 kb3 zs T3.heap n0 M3 V3 S_C2 hz) hZ2 (hw _ (own_mg (i := 134) rfl)) (hw _ (own_mg (i := 40) rfl)) (by decide) (by decide)) q5a q5c (g := (mkF m 244 #[.val (.int p0), .val (.long q1), .second, .val (.int p2), .val (.int (1 : Int32)), .val (.ref uS), .val (.long (9223372036854775 : Int64)), .second, .val (.long lw), .second, .val (.int rq), .val (.ref tb), .val (.ref hk), .val (.ref u3), .val (.int (Int32.ofNat dd)), .val (.int (1 : Int32))] [(.ref u3)])) rfl (by rw [hml]; rfl) (Steps.refl _) (argsL := []) (rest := []) (lenOf pd_13 rfl) rfl (by show 2 * 0 + _ ≤ _; exact Nat.le_of_eq rfl) (hb hby at_244) (fun _ _ => ⟨rfl, e4q, (by decide : 10 + 0 ≤ _), (by decide : 192 + 0 ≤ _)⟩)
  dsimp only [Pt.U, Pt.locs, Pt.cells, Pt.slots] at X5 l5 y5 z5 st5 hQ5
  subst l5 y5 z5
  obtain ⟨rfl, N5q, e5q⟩ := hQ5
  have N5 := Fr.app N4 N5q
  refine Onw.go (fun _ kt => st5.trans kt) ?_
  show Onw p e below _ (T5.setTop (mkF m 247 #[.val (.int p0), .val (.long q1), .second, .val (.int p2), .val (.int (1 : Int32)), .val (.ref uS), .val (.long (9223372036854775 : Int64)), .second, .val (.long lw), .second, .val (.int rq), .val (.ref tb), .val (.ref hk), .val (.ref u3), .val (.int (Int32.ofNat dd)), .val (.int (1 : Int32))] [(.int (Int32.ofNat zs.length))]))
  refine Onw.go (fun _ kt => XS.iload X5.here hx rfl (hb hby at_247) rfl kt) ?_
  show Onw p e below _ (T5.setTop (mkF m 249 #[.val (.int p0), .val (.long q1), .second, .val (.int p2), .val (.int (1 : Int32)), .val (.ref uS), .val (.long (9223372036854775 : Int64)), .second, .val (.long lw), .second, .val (.int rq), .val (.ref tb), .val (.ref hk), .val (.ref u3), .val (.int (Int32.ofNat dd)), .val (.int (1 : Int32))] [(.int (Int32.ofNat dd)), (.int (Int32.ofNat zs.length))]))
  refine Onw.go (fun _ kt => XS.iload X5.here hx rfl (hb hby at_249) rfl kt) ?_
  show Onw p e below _ (T5.setTop (mkF m 251 #[.val (.int p0), .val (.long q1), .second, .val (.int p2), .val (.int (1 : Int32)), .val (.ref uS), .val (.long (9223372036854775 : Int64)), .second, .val (.long lw), .second, .val (.int rq), .val (.ref tb), .val (.ref hk), .val (.ref u3), .val (.int (Int32.ofNat dd)), .val (.int (1 : Int32))] [(.int (1 : Int32)), (.int (Int32.ofNat dd)), (.int (Int32.ofNat zs.length))]))
  refine Onw.go (fun _ kt => XS.iadd X5.here hx rfl (hb hby at_251) rfl kt) ?_
  show Onw p e below _ (T5.setTop (mkF m 252 #[.val (.int p0), .val (.long q1), .second, .val (.int p2), .val (.int (1 : Int32)), .val (.ref uS), .val (.long (9223372036854775 : Int64)), .second, .val (.long lw), .second, .val (.int rq), .val (.ref tb), .val (.ref hk), .val (.ref u3), .val (.int (Int32.ofNat dd)), .val (.int (1 : Int32))] [(.int ((Int32.ofNat dd) + (1 : Int32))), (.int (Int32.ofNat zs.length))]))
  refine Onw.go (fun _ kt => XS.icmpYes X5.here hx rfl (pc0 := 252) (pc' := 257) rfl (hb hby at_252) rfl (teq ((by rw [zl2, Int32.ofNat_add]; rfl) : (Int32.ofNat zs.length) = ((Int32.ofNat dd) + (1 : Int32)))).1 (by decide) (by decide) kt) ?_
  show Onw p e below _ (T5.setTop (mkF m 257 #[.val (.int p0), .val (.long q1), .second, .val (.int p2), .val (.int (1 : Int32)), .val (.ref uS), .val (.long (9223372036854775 : Int64)), .second, .val (.long lw), .second, .val (.int rq), .val (.ref tb), .val (.ref hk), .val (.ref u3), .val (.int (Int32.ofNat dd)), .val (.int (1 : Int32))] []))
  refine Onw.go (fun _ kt => XS.iload X5.here hx rfl (hb hby at_257) rfl kt) ?_
  show Onw p e below _ (T5.setTop (mkF m 259 #[.val (.int p0), .val (.long q1), .second, .val (.int p2), .val (.int (1 : Int32)), .val (.ref uS), .val (.long (9223372036854775 : Int64)), .second, .val (.long lw), .second, .val (.int rq), .val (.ref tb), .val (.ref hk), .val (.ref u3), .val (.int (Int32.ofNat dd)), .val (.int (1 : Int32))] [(.int (1 : Int32))]))
  refine Onw.go (fun _ kt => XS.ifNo X5.here hx rfl (hb hby at_259) rfl ((if0 _ _).trans (feq (by decide : ¬ ((1 : Int32) = (0 : Int32)))).1) kt) ?_
  show Onw p e below _ (T5.setTop (mkF m 262 #[.val (.int p0), .val (.long q1), .second, .val (.int p2), .val (.int (1 : Int32)), .val (.ref uS), .val (.long (9223372036854775 : Int64)), .second, .val (.long lw), .second, .val (.int rq), .val (.ref tb), .val (.ref hk), .val (.ref u3), .val (.int (Int32.ofNat dd)), .val (.int (1 : Int32))] []))
  refine Onw.go (fun _ kt => XS.aload X5.here hx rfl (hb hby at_262) rfl rfl kt) ?_
  show Onw p e below _ (T5.setTop (mkF m 264 #[.val (.int p0), .val (.long q1), .second, .val (.int p2), .val (.int (1 : Int32)), .val (.ref uS), .val (.long (9223372036854775 : Int64)), .second, .val (.long lw), .second, .val (.int rq), .val (.ref tb), .val (.ref hk), .val (.ref u3), .val (.int (Int32.ofNat dd)), .val (.int (1 : Int32))] [(.ref u3)]))
  refine Onw.go (fun _ kt => XS.iload X5.here hx rfl (hb hby at_264) rfl kt) ?_
  show Onw p e below _ (T5.setTop (mkF m 266 #[.val (.int p0), .val (.long q1), .second, .val (.int p2), .val (.int (1 : Int32)), .val (.ref uS), .val (.long (9223372036854775 : Int64)), .second, .val (.long lw), .second, .val (.int rq), .val (.ref tb), .val (.ref hk), .val (.ref u3), .val (.int (Int32.ofNat dd)), .val (.int (1 : Int32))] [(.int (Int32.ofNat dd)), (.ref u3)]))
  obtain ⟨cq6, kq6, q6a, q6b, q6c⟩ := isOf hZ2 e5q M3.1
  obtain ⟨_, _, ⟨T6, L6, k6, n6⟩, -, X6, ⟨Lc6, hQ6, l6, y6, z6⟩, st6⟩ := X5.virtualBack hx (y := (⟨"java/lang/String", "charAt", "(I)C"⟩ : MethodName)) (z := (⟨"java/lang/String", "charAt", "(I)C"⟩ : MethodName)) hown2 (mvT hZ2 (hw _ (own_mg (i := 211) rfl))) (mvT hZ2 (hw _ (own_mg (i := 212) rfl))) (notFace_of_selects (args := #[]) (mvT hZ2 (hw _ (own_mg (i := 214) rfl)))) (mvT hZ2 (hw _ (own_mg (i := 214) rfl))) (mvT hZ2 (hw _ (own_mg (i := 213) rfl))) (by decide) (backOf (W := 0) (rm33 l Z a0 hw [] u3 (Int32.ofNat dd) zc b3 fm kb3 zs dd 115 T3.heap n0 M3 V3 (by omega) (by omega) rfl zt0 (by decide) S_F2 rf S_C2 hz) hZ2 (hw _ (own_mg (i := 215) rfl)) (hw _ (own_mg (i := 40) rfl)) (by decide) (by decide)) q6a q6c (g := (mkF m 266 #[.val (.int p0), .val (.long q1), .second, .val (.int p2), .val (.int (1 : Int32)), .val (.ref uS), .val (.long (9223372036854775 : Int64)), .second, .val (.long lw), .second, .val (.int rq), .val (.ref tb), .val (.ref hk), .val (.ref u3), .val (.int (Int32.ofNat dd)), .val (.int (1 : Int32))] [(.int (Int32.ofNat dd)), (.ref u3)])) rfl (by rw [hml]; rfl) (Steps.refl _) (argsL := [(.int (Int32.ofNat dd))]) (rest := []) (lenOf pd_26 rfl) rfl (by show 2 * 0 + _ ≤ _; exact Nat.le_of_eq rfl) (hb hby at_266) (fun _ _ => ⟨rfl, e5q, (by decide : 10 + 0 ≤ _), (by decide : 192 + 0 ≤ _)⟩)
  dsimp only [Pt.U, Pt.locs, Pt.cells, Pt.slots] at X6 l6 y6 z6 st6 hQ6
  subst l6 y6 z6
  obtain ⟨rfl, N6q, e6q⟩ := hQ6
  have N6 := Fr.app N5 N6q
  refine Onw.go (fun _ kt => st6.trans kt) ?_
  show Onw p e below _ (T6.setTop (mkF m 269 #[.val (.int p0), .val (.long q1), .second, .val (.int p2), .val (.int (1 : Int32)), .val (.ref uS), .val (.long (9223372036854775 : Int64)), .second, .val (.long lw), .second, .val (.int rq), .val (.ref tb), .val (.ref hk), .val (.ref u3), .val (.int (Int32.ofNat dd)), .val (.int (1 : Int32))] [(.int (Int32.ofNat 115))]))
  refine Onw.go (fun _ kt => XS.bipush X6.here hx rfl (hb hby at_269) kt) ?_
  show Onw p e below _ (T6.setTop (mkF m 271 #[.val (.int p0), .val (.long q1), .second, .val (.int p2), .val (.int (1 : Int32)), .val (.ref uS), .val (.long (9223372036854775 : Int64)), .second, .val (.long lw), .second, .val (.int rq), .val (.ref tb), .val (.ref hk), .val (.ref u3), .val (.int (Int32.ofNat dd)), .val (.int (1 : Int32))] [(.int (115 : Int32)), (.int (Int32.ofNat 115))]))
  refine Onw.go (fun _ kt => XS.icmpYes X6.here hx rfl (pc0 := 271) (pc' := 304) rfl (hb hby at_271) rfl (teq (rfl : (Int32.ofNat 115) = (115 : Int32))).1 (by decide) (by decide) kt) ?_
  show Onw p e below _ (T6.setTop (mkF m 304 #[.val (.int p0), .val (.long q1), .second, .val (.int p2), .val (.int (1 : Int32)), .val (.ref uS), .val (.long (9223372036854775 : Int64)), .second, .val (.long lw), .second, .val (.int rq), .val (.ref tb), .val (.ref hk), .val (.ref u3), .val (.int (Int32.ofNat dd)), .val (.int (1 : Int32))] []))
  exact law_304 (s := s.setVm T2.vm) hx hZ2 hw hby hml hown2 p0 p2 (1 : Int32) rq (1 : Int32) q1 _ lw uS tb hk u3 b3 kb3 zs dd ww zc fm X6 e6q N6 M3 V3 (by omega) (by omega) zd TB2 ww1 hdd S_F2 rf S_C2 hz (fun T' locs' X' e' N' => hK T2.vm T' locs' _ _ X' hS2 (by rw [e']; exact E3.1) N')
set_option maxRecDepth 65536 in
set_option maxHeartbeats 40000000 in
theorem law_199M {p : Program} {l : Launch} {e : Env} {s : State} {m : MethodId} {args : Array Value} {below : List Frame} {meth : Method} {c : Code} {Z : State} {a0 : Array Value} {W : Outcome → State → Prop} (hx : p.tables.exec = Jvm.exec) (hZ : Z.Warmed39 s.vm) (hw : ∀ d ∈ tables_1, d.before a0 Z = true) (hby : c.code = code) (hml : c.maxLocals = 16) (hown : s.vm.findClass "com/example/vigil_cache/vigilcache/HotKeyRuleWindowAsWrittenPinLaw" = some m.cls) {h0 : Heap} {n0 : Nat}  (p0 p2 rq : Int32) (q1 lw : Int64) (tb : Addr) (dd ww : Nat) (zc : Int32) (fm : Value) (o1 o2 : Addr) (uM rM tM : Addr) (kM : ClassId)
    {T0 : State} {locs0 : List Loc} (X0 : Stand p l e room_1 s m args below meth c T0 locs0 1 19) (e0 : T0.heap = h0) (N0 : Fr n0 locs0) (Z0 : n0 ≤ h0.size) (S_C : Sta Z h0 "java/lang/String" "COMPACT_STRINGS" "Z" (.int zc)) (hz : ¬ zc = 0) (S_F : Sta Z h0 "jdk/internal/util/Preconditions" "SIOOBE_FORMATTER" "Ljava/util/function/BiFunction;" fm) (rf : fm.isRef = true) (S_1 : Sta Z h0 "java/lang/Integer" "DigitOnes" "[B" (.ref o1)) (S_2 : Sta Z h0 "java/lang/Integer" "DigitTens" "[B" (.ref o2)) (D_1 : own_DG Z h0 o1 (fun i => i % 10)) (D_2 : own_DG Z h0 o2 (fun i => i / 10)) (lo1 : o1 < n0) (lo2 : o2 < n0) (S_M : Sta Z h0 "com/example/vigil_cache/vigilcache/HotKeyRule$WindowUnit" "MILLISECONDS" "Lcom/example/vigil_cache/vigilcache/HotKeyRule$WindowUnit;" (.ref uM)) (FM_M : Fld Z h0 uM "com/example/vigil_cache/vigilcache/HotKeyRule$WindowUnit" "millis" "J" (.long (1 : Int64))) (FS_M : Fld Z h0 uM "com/example/vigil_cache/vigilcache/HotKeyRule$WindowUnit" "suffix" "Ljava/lang/String;" (.ref rM)) (ST_M : own_ST Z h0 rM tM) (VT_M : Arv Z h0 tM kM .byte (Int32.ofNat ([(109 : Int32), (115 : Int32)]).length) (([(109 : Int32), (115 : Int32)]).map Value.int) (.int (0 : Int32))) (lr_M : rM < n0) (lt_M : tM < n0) (TB0 : own_TB Z h0 tb) (ww1 : lw.toInt = (ww : Int)) (ww2 : 1 ≤ ww) (ww3 : ww ≤ 9223372036854775807) (DD : own_D ww dd) (hdd : dd ≤ 19) (hrq1 : ¬ rq < 1) (hK : ∀ (vm1 : Vm) (T' : State) (locs' : List Loc) (j : Nat) (Ls : Array Slot), Stand p l e room_1 (s.setVm vm1) m args below meth c T' locs' 10 192 → s.Since vm1 j → j ≤ T'.heap.size → Fr n0 locs' → Onw p e below W (T'.setTop (mkF m 607 Ls [(.int (1 : Int32))]))) :
    Onw p e below W (T0.setTop (mkF m 199 #[.val (.int p0), .val (.long q1), .second, .val (.int p2), .val (.int (0 : Int32)), .val (.ref uM), .val (.long (9223372036854775807 : Int64)), .second, .val (.long lw), .second, .val (.int rq), .val (.ref tb), .unset, .unset, .unset, .unset] [])) := by
  obtain ⟨T1, h1, X1, e1, E1, A1, D1, -, st1⟩ := newO X0 hx hZ hown (hw _ (own_mg (i := 25) rfl)) (hw _ (own_mg (i := 26) rfl)) (hw _ (own_mg (i := 27) rfl)) e0 (g := (mkF m 199 #[.val (.int p0), .val (.long q1), .second, .val (.int p2), .val (.int (0 : Int32)), .val (.ref uM), .val (.long (9223372036854775807 : Int64)), .second, .val (.long lw), .second, .val (.int rq), .val (.ref tb), .unset, .unset, .unset, .unset] [])) rfl (hb hby at_199) (by decide) (by decide)
  obtain ⟨hk, gg1⟩ : ∃ own_z, own_z = h0.size := ⟨_, rfl⟩
  rw [← gg1] at A1 D1 st1
  have F_requests_hk : Fld Z h1 hk "com/example/vigil_cache/vigilcache/HotKeyRule" "requests" "I" (.int (0 : Int32)) := D1 (Or.inr (hw _ (List.mem_of_getElem? (i := 58) rfl))) (ty := .int) (by decide)
  have F_windowLength_hk : Fld Z h1 hk "com/example/vigil_cache/vigilcache/HotKeyRule" "windowLength" "J" (.long (0 : Int64)) := D1 (Or.inr (hw _ (List.mem_of_getElem? (i := 60) rfl))) (ty := .long) (by decide)
  have F_windowUnit_hk : Fld Z h1 hk "com/example/vigil_cache/vigilcache/HotKeyRule" "windowUnit" "Lcom/example/vigil_cache/vigilcache/HotKeyRule$WindowUnit;" .null := D1 (Or.inr (hw _ (List.mem_of_getElem? (i := 62) rfl))) (ty := (.object "com/example/vigil_cache/vigilcache/HotKeyRule$WindowUnit")) (by decide)
  refine Onw.go st1 ?_
  show Onw p e below _ (T1.setTop (mkF m 202 #[.val (.int p0), .val (.long q1), .second, .val (.int p2), .val (.int (0 : Int32)), .val (.ref uM), .val (.long (9223372036854775807 : Int64)), .second, .val (.long lw), .second, .val (.int rq), .val (.ref tb), .unset, .unset, .unset, .unset] [(.ref hk)]))
  have ghk : h0.size ≤ hk := Nat.le_of_eq gg1.symm
  obtain ⟨cT, aT, -⟩ := id TB0
  have ntb : tb ∉ [hk] := own_nin1 aT.lt ghk
  clear aT
  refine Onw.go (fun _ kt => XS.dup X1.here hx rfl (hb hby at_202) rfl rfl kt) ?_
  show Onw p e below _ (T1.setTop (mkF m 203 #[.val (.int p0), .val (.long q1), .second, .val (.int p2), .val (.int (0 : Int32)), .val (.ref uM), .val (.long (9223372036854775807 : Int64)), .second, .val (.long lw), .second, .val (.int rq), .val (.ref tb), .unset, .unset, .unset, .unset] [(.ref hk), (.ref hk)]))
  refine Onw.go (fun _ kt => XS.iload X1.here hx rfl (hb hby at_203) rfl kt) ?_
  show Onw p e below _ (T1.setTop (mkF m 205 #[.val (.int p0), .val (.long q1), .second, .val (.int p2), .val (.int (0 : Int32)), .val (.ref uM), .val (.long (9223372036854775807 : Int64)), .second, .val (.long lw), .second, .val (.int rq), .val (.ref tb), .unset, .unset, .unset, .unset] [(.int rq), (.ref hk), (.ref hk)]))
  refine Onw.go (fun _ kt => XS.lload X1.here hx rfl (hb hby at_205) rfl kt) ?_
  show Onw p e below _ (T1.setTop (mkF m 207 #[.val (.int p0), .val (.long q1), .second, .val (.int p2), .val (.int (0 : Int32)), .val (.ref uM), .val (.long (9223372036854775807 : Int64)), .second, .val (.long lw), .second, .val (.int rq), .val (.ref tb), .unset, .unset, .unset, .unset] [(.long lw), (.int rq), (.ref hk), (.ref hk)]))
  refine Onw.go (fun _ kt => XS.aload X1.here hx rfl (hb hby at_207) rfl rfl kt) ?_
  show Onw p e below _ (T1.setTop (mkF m 209 #[.val (.int p0), .val (.long q1), .second, .val (.int p2), .val (.int (0 : Int32)), .val (.ref uM), .val (.long (9223372036854775807 : Int64)), .second, .val (.long lw), .second, .val (.int rq), .val (.ref tb), .unset, .unset, .unset, .unset] [(.ref uM), (.long lw), (.int rq), (.ref hk), (.ref hk)]))
  have cw1 : ¬ (lcmpW lw (1 : Int64) < 0) := fun own_z => by
    rw [own_lc1, ww1] at own_z
    have own_e : (1 : Int64).toInt = 1 := rfl
    omega
  have cw3 : ¬ (0 < lcmpW lw ((9223372036854775807 : Int64) / (1 : Int64))) := fun own_z => by
    rw [own_lc0, ww1] at own_z
    have own_e : ((9223372036854775807 : Int64) / (1 : Int64)).toInt = 9223372036854775807 := by decide +kernel
    omega
  obtain ⟨_, _, ⟨T2, L2, k2, n2⟩, -, X2, hS2, hg2, ⟨Lc2, hQ2, l2, y2, z2⟩, st2⟩ := Jvm.Stand.specialBackS X1 hx (y := (⟨"com/example/vigil_cache/vigilcache/HotKeyRule", "<init>", "(IJLcom/example/vigil_cache/vigilcache/HotKeyRule$WindowUnit;)V"⟩ : MethodName)) rfl hown (mvT hZ (hw _ (own_mg (i := 28) rfl))) (mvT hZ (hw _ (own_mg (i := 29) rfl))) (mvT hZ (hw _ (own_mg (i := 30) rfl))) (by decide) (backOfS (W := 1) (rm1 l Z a0 hw [] hk rq lw uM (1 : Int64) h1 n0 A1 F_requests_hk F_windowLength_hk F_windowUnit_hk (FM_M.ext E1) hrq1 cw1 (by decide) cw3 (Nat.le_trans Z0 ghk)) hZ (hw _ (own_mg (i := 30) rfl)) (hw _ (own_mg (i := 27) rfl)) (by decide) (by decide)) (g := (mkF m 209 #[.val (.int p0), .val (.long q1), .second, .val (.int p2), .val (.int (0 : Int32)), .val (.ref uM), .val (.long (9223372036854775807 : Int64)), .second, .val (.long lw), .second, .val (.int rq), .val (.ref tb), .unset, .unset, .unset, .unset] [(.ref uM), (.long lw), (.int rq), (.ref hk), (.ref hk)])) rfl (by rw [hml]; rfl) (Steps.refl _) (a := hk) (argsL := [(.int rq), (.long lw), (.ref uM)]) (rest := [(.ref hk)]) (lenOf pd_0 rfl) rfl (by show 2 * 0 + _ ≤ _; exact Nat.le_of_eq rfl) (hb hby at_209) (fun _ _ => ⟨rfl, e1, (by decide : 2 + 2 ≤ _), (by decide : 22 + 44 ≤ _)⟩)
  dsimp only [Pt.U, Pt.locs, Pt.cells, Pt.slots] at X2 l2 y2 z2 st2 hQ2 hS2 hg2
  subst l2 y2 z2
  obtain ⟨rfl, N2q, K2, FL2, FU2⟩ := hQ2
  have N2 := Fr.app N0 N2q
  have hZ2 : Z.Warmed39 T2.vm := State.Warmed39.trans (t := s) hZ hS2.1
  have hown2 : T2.vm.findClass "com/example/vigil_cache/vigilcache/HotKeyRuleWindowAsWrittenPinLaw" = some m.cls := by rw [hS2.1.alike.findClass]; exact hown
  refine Onw.go (fun own_u kt => st2.trans kt) ?_
  show Onw p e below _ (T2.setTop (mkF m 212 #[.val (.int p0), .val (.long q1), .second, .val (.int p2), .val (.int (0 : Int32)), .val (.ref uM), .val (.long (9223372036854775807 : Int64)), .second, .val (.long lw), .second, .val (.int rq), .val (.ref tb), .unset, .unset, .unset, .unset] [(.ref hk)]))
  have XI := own_extk E1 K2 ghk
  have TB1 := (TB0.ext E1).keep K2 ntb
  refine Onw.go (fun _ kt => XS.astore X2.here hx rfl (hb hby at_212) rfl rfl (l' := #[.val (.int p0), .val (.long q1), .second, .val (.int p2), .val (.int (0 : Int32)), .val (.ref uM), .val (.long (9223372036854775807 : Int64)), .second, .val (.long lw), .second, .val (.int rq), .val (.ref tb), .val (.ref hk), .unset, .unset, .unset]) rfl kt) ?_
  show Onw p e below _ (T2.setTop (mkF m 214 #[.val (.int p0), .val (.long q1), .second, .val (.int p2), .val (.int (0 : Int32)), .val (.ref uM), .val (.long (9223372036854775807 : Int64)), .second, .val (.long lw), .second, .val (.int rq), .val (.ref tb), .val (.ref hk), .unset, .unset, .unset] []))
  refine Onw.go (fun _ kt => XS.aload X2.here hx rfl (hb hby at_214) rfl rfl kt) ?_
  show Onw p e below _ (T2.setTop (mkF m 216 #[.val (.int p0), .val (.long q1), .second, .val (.int p2), .val (.int (0 : Int32)), .val (.ref uM), .val (.long (9223372036854775807 : Int64)), .second, .val (.long lw), .second, .val (.int rq), .val (.ref tb), .val (.ref hk), .unset, .unset, .unset] [(.ref hk)]))
  obtain ⟨cq3, kq3, q3a, q3b, q3c⟩ := isOf hZ2 rfl (A1.keep K2)
  obtain ⟨_, _, ⟨T3, L3, k3, n3⟩, -, X3, ⟨Lc3, hQ3, l3, y3, z3⟩, st3⟩ := X2.virtualBack hx (y := (⟨"com/example/vigil_cache/vigilcache/HotKeyRule", "windowAsWritten", "()Ljava/lang/String;"⟩ : MethodName)) (z := (⟨"com/example/vigil_cache/vigilcache/HotKeyRule", "windowAsWritten", "()Ljava/lang/String;"⟩ : MethodName)) hown2 (mvT hZ2 (hw _ (own_mg (i := 63) rfl))) (mvT hZ2 (hw _ (own_mg (i := 64) rfl))) (notFace_of_selects (args := #[]) (mvT hZ2 (hw _ (own_mg (i := 66) rfl)))) (mvT hZ2 (hw _ (own_mg (i := 66) rfl))) (mvT hZ2 (hw _ (own_mg (i := 65) rfl))) (by decide) (backOf (W := 0) (rm6 l Z a0 hw [] hk zc lw uM rM tM o1 o2 kM [(109 : Int32), (115 : Int32)] dd ww T2.heap n0 FL2 FU2 (FS_M.ext XI) (ST_M.ext XI) (VT_M.ext XI) (by decide) (S_C.ext XI) hz (S_1.ext XI) (S_2.ext XI) (own_DG.keep D_1 ((Keep.refl h0 []).ext XI) (by simp)) (own_DG.keep D_2 ((Keep.refl h0 []).ext XI) (by simp)) lo1 lo2 ww1 DD hdd lr_M lt_M (Nat.le_trans Z0 XI.1)) hZ2 (hw _ (own_mg (i := 67) rfl)) (hw _ (own_mg (i := 27) rfl)) (by decide) (by decide)) q3a q3c (g := (mkF m 216 #[.val (.int p0), .val (.long q1), .second, .val (.int p2), .val (.int (0 : Int32)), .val (.ref uM), .val (.long (9223372036854775807 : Int64)), .second, .val (.long lw), .second, .val (.int rq), .val (.ref tb), .val (.ref hk), .unset, .unset, .unset] [(.ref hk)])) rfl (by rw [hml]; rfl) (Steps.refl _) (argsL := []) (rest := []) (lenOf pd_4 rfl) rfl (by show 2 * 0 + _ ≤ _; exact Nat.le_of_eq rfl) (hb hby at_216) (fun _ _ => ⟨rfl, rfl, (by decide : 4 + 6 ≤ _), (by decide : 66 + 126 ≤ _)⟩)
  dsimp only [Pt.U, Pt.locs, Pt.cells, Pt.slots] at X3 l3 y3 z3 st3 hQ3
  subst l3 y3 z3
  obtain ⟨u3, b3, kb3, zs, rfl, N3q, E3, M3, V3, zl, zd, zt⟩ := hQ3
  have N3 := Fr.app N2 N3q
  refine Onw.go (fun _ kt => st3.trans kt) ?_
  show Onw p e below _ (T3.setTop (mkF m 219 #[.val (.int p0), .val (.long q1), .second, .val (.int p2), .val (.int (0 : Int32)), .val (.ref uM), .val (.long (9223372036854775807 : Int64)), .second, .val (.long lw), .second, .val (.int rq), .val (.ref tb), .val (.ref hk), .unset, .unset, .unset] [(.ref u3)]))
  have XW := own_ee XI E3
  have TB2 := TB1.ext E3
  have S_C2 := S_C.ext XW
  have S_F2 := S_F.ext XW
  have zl2 : zs.length = dd + 2 := zl
  have zt0 : zs[dd]? = some (Int32.ofNat 109) := zt 0
  have zt1 : zs[dd + 1]? = some (Int32.ofNat 115) := zt 1
  refine Onw.go (fun _ kt => XS.astore X3.here hx rfl (hb hby at_219) rfl rfl (l' := #[.val (.int p0), .val (.long q1), .second, .val (.int p2), .val (.int (0 : Int32)), .val (.ref uM), .val (.long (9223372036854775807 : Int64)), .second, .val (.long lw), .second, .val (.int rq), .val (.ref tb), .val (.ref hk), .val (.ref u3), .unset, .unset]) rfl kt) ?_
  show Onw p e below _ (T3.setTop (mkF m 221 #[.val (.int p0), .val (.long q1), .second, .val (.int p2), .val (.int (0 : Int32)), .val (.ref uM), .val (.long (9223372036854775807 : Int64)), .second, .val (.long lw), .second, .val (.int rq), .val (.ref tb), .val (.ref hk), .val (.ref u3), .unset, .unset] []))
  refine Onw.go (fun _ kt => XS.lload X3.here hx rfl (hb hby at_221) rfl kt) ?_
  show Onw p e below _ (T3.setTop (mkF m 223 #[.val (.int p0), .val (.long q1), .second, .val (.int p2), .val (.int (0 : Int32)), .val (.ref uM), .val (.long (9223372036854775807 : Int64)), .second, .val (.long lw), .second, .val (.int rq), .val (.ref tb), .val (.ref hk), .val (.ref u3), .unset, .unset] [(.long lw)]))
  refine Onw.go (fun _ kt => XS.aload X3.here hx rfl (hb hby at_223) rfl rfl kt) ?_
  show Onw p e below _ (T3.setTop (mkF m 225 #[.val (.int p0), .val (.long q1), .second, .val (.int p2), .val (.int (0 : Int32)), .val (.ref uM), .val (.long (9223372036854775807 : Int64)), .second, .val (.long lw), .second, .val (.int rq), .val (.ref tb), .val (.ref hk), .val (.ref u3), .unset, .unset] [(.ref tb), (.long lw)]))
  obtain ⟨_, _, ⟨T4, L4, k4, n4⟩, -, X4, ⟨Lc4, hQ4, l4, y4, z4⟩, st4⟩ := Jvm.LawKit.callS X3 hx (y := (⟨"com/example/vigil_cache/vigilcache/HotKeyRuleWindowAsWrittenPinLaw", "digits", "(J[J)I"⟩ : MethodName)) hown2 (mvT hZ2 (hw _ (own_mg (i := 206) rfl))) (mvT hZ2 (hw _ (own_mg (i := 207) rfl))) (mvT hZ2 (hw _ (own_mg (i := 208) rfl))) (mvT hZ2 (hw _ (own_mg (i := 209) rfl))) (by decide) (backOf (W := 0) (rm32 l Z a0 hw [] lw tb dd ww T3.heap n0 TB2 ww1 DD hdd) hZ2 (hw _ (own_mg (i := 209) rfl)) (hw _ (own_mg (i := 208) rfl)) (by decide) (by decide)) (g := (mkF m 225 #[.val (.int p0), .val (.long q1), .second, .val (.int p2), .val (.int (0 : Int32)), .val (.ref uM), .val (.long (9223372036854775807 : Int64)), .second, .val (.long lw), .second, .val (.int rq), .val (.ref tb), .val (.ref hk), .val (.ref u3), .unset, .unset] [(.ref tb), (.long lw)])) rfl (by rw [hml]; rfl) (argsL := [(.long lw), (.ref tb)]) (rest := []) (lenOf pd_25 rfl) rfl (by show 2 * 0 + _ ≤ _; exact Nat.le_of_eq rfl) (hb hby at_225) (fun _ _ => ⟨rfl, rfl, (by decide : 10 + 0 ≤ _), (by decide : 192 + 0 ≤ _)⟩)
  dsimp only [Pt.U, Pt.locs, Pt.cells, Pt.slots] at X4 l4 y4 z4 st4 hQ4
  subst l4 y4 z4
  obtain ⟨rfl, N4q, e4q⟩ := hQ4
  have N4 := Fr.app N3 N4q
  refine Onw.go st4 ?_
  show Onw p e below _ (T4.setTop (mkF m 228 #[.val (.int p0), .val (.long q1), .second, .val (.int p2), .val (.int (0 : Int32)), .val (.ref uM), .val (.long (9223372036854775807 : Int64)), .second, .val (.long lw), .second, .val (.int rq), .val (.ref tb), .val (.ref hk), .val (.ref u3), .unset, .unset] [(.int (Int32.ofNat dd))]))
  refine Onw.go (fun _ kt => XS.istore X4.here hx rfl (hb hby at_228) rfl (l' := #[.val (.int p0), .val (.long q1), .second, .val (.int p2), .val (.int (0 : Int32)), .val (.ref uM), .val (.long (9223372036854775807 : Int64)), .second, .val (.long lw), .second, .val (.int rq), .val (.ref tb), .val (.ref hk), .val (.ref u3), .val (.int (Int32.ofNat dd)), .unset]) rfl kt) ?_
  show Onw p e below _ (T4.setTop (mkF m 230 #[.val (.int p0), .val (.long q1), .second, .val (.int p2), .val (.int (0 : Int32)), .val (.ref uM), .val (.long (9223372036854775807 : Int64)), .second, .val (.long lw), .second, .val (.int rq), .val (.ref tb), .val (.ref hk), .val (.ref u3), .val (.int (Int32.ofNat dd)), .unset] []))
  refine Onw.go (fun _ kt => XS.iload X4.here hx rfl (hb hby at_230) rfl kt) ?_
  show Onw p e below _ (T4.setTop (mkF m 232 #[.val (.int p0), .val (.long q1), .second, .val (.int p2), .val (.int (0 : Int32)), .val (.ref uM), .val (.long (9223372036854775807 : Int64)), .second, .val (.long lw), .second, .val (.int rq), .val (.ref tb), .val (.ref hk), .val (.ref u3), .val (.int (Int32.ofNat dd)), .unset] [(.int (0 : Int32))]))
  refine Onw.go (fun _ kt => XS.ifYes X4.here hx rfl (pc0 := 232) (pc' := 239) rfl (hb hby at_232) rfl ((if0 _ _).trans (teq (rfl : (0 : Int32) = (0 : Int32))).1) (by decide) (by decide) kt) ?_
  show Onw p e below _ (T4.setTop (mkF m 239 #[.val (.int p0), .val (.long q1), .second, .val (.int p2), .val (.int (0 : Int32)), .val (.ref uM), .val (.long (9223372036854775807 : Int64)), .second, .val (.long lw), .second, .val (.int rq), .val (.ref tb), .val (.ref hk), .val (.ref u3), .val (.int (Int32.ofNat dd)), .unset] []))
  refine Onw.go (fun _ kt => XS.iconst X4.here hx rfl (hb hby at_239) kt) ?_
  show Onw p e below _ (T4.setTop (mkF m 240 #[.val (.int p0), .val (.long q1), .second, .val (.int p2), .val (.int (0 : Int32)), .val (.ref uM), .val (.long (9223372036854775807 : Int64)), .second, .val (.long lw), .second, .val (.int rq), .val (.ref tb), .val (.ref hk), .val (.ref u3), .val (.int (Int32.ofNat dd)), .unset] [(.int (2 : Int32))]))
  refine Onw.go (fun _ kt => XS.istore X4.here hx rfl (hb hby at_240) rfl (l' := #[.val (.int p0), .val (.long q1), .second, .val (.int p2), .val (.int (0 : Int32)), .val (.ref uM), .val (.long (9223372036854775807 : Int64)), .second, .val (.long lw), .second, .val (.int rq), .val (.ref tb), .val (.ref hk), .val (.ref u3), .val (.int (Int32.ofNat dd)), .val (.int (2 : Int32))]) rfl kt) ?_
  show Onw p e below _ (T4.setTop (mkF m 242 #[.val (.int p0), .val (.long q1), .second, .val (.int p2), .val (.int (0 : Int32)), .val (.ref uM), .val (.long (9223372036854775807 : Int64)), .second, .val (.long lw), .second, .val (.int rq), .val (.ref tb), .val (.ref hk), .val (.ref u3), .val (.int (Int32.ofNat dd)), .val (.int (2 : Int32))] []))
  refine Onw.go (fun _ kt => XS.aload X4.here hx rfl (hb hby at_242) rfl rfl kt) ?_
  show Onw p e below _ (T4.setTop (mkF m 244 #[.val (.int p0), .val (.long q1), .second, .val (.int p2), .val (.int (0 : Int32)), .val (.ref uM), .val (.long (9223372036854775807 : Int64)), .second, .val (.long lw), .second, .val (.int rq), .val (.ref tb), .val (.ref hk), .val (.ref u3), .val (.int (Int32.ofNat dd)), .val (.int (2 : Int32))] [(.ref u3)]))
  obtain ⟨cq5, kq5, q5a, q5b, q5c⟩ := isOf hZ2 e4q M3.1
  obtain ⟨_, _, ⟨T5, L5, k5, n5⟩, -, X5, ⟨Lc5, hQ5, l5, y5, z5⟩, st5⟩ := X4.virtualBack hx (y := (⟨"java/lang/String", "length", "()I"⟩ : MethodName)) (z := (⟨"java/lang/String", "length", "()I"⟩ : MethodName)) hown2 (mvT hZ2 (hw _ (own_mg (i := 210) rfl))) (mvT hZ2 (hw _ (own_mg (i := 131) rfl))) (notFace_of_selects (args := #[]) (mvT hZ2 (hw _ (own_mg (i := 133) rfl)))) (mvT hZ2 (hw _ (own_mg (i := 133) rfl))) (mvT hZ2 (hw _ (own_mg (i := 132) rfl))) (by decide) (backOf (W := 0) (rm17 l Z a0 hw [] u3 zc b3 kb3 zs T3.heap n0 M3 V3 S_C2 hz) hZ2 (hw _ (own_mg (i := 134) rfl)) (hw _ (own_mg (i := 40) rfl)) (by decide) (by decide)) q5a q5c (g := (mkF m 244 #[.val (.int p0), .val (.long q1), .second, .val (.int p2), .val (.int (0 : Int32)), .val (.ref uM), .val (.long (9223372036854775807 : Int64)), .second, .val (.long lw), .second, .val (.int rq), .val (.ref tb), .val (.ref hk), .val (.ref u3), .val (.int (Int32.ofNat dd)), .val (.int (2 : Int32))] [(.ref u3)])) rfl (by rw [hml]; rfl) (Steps.refl _) (argsL := []) (rest := []) (lenOf pd_13 rfl) rfl (by show 2 * 0 + _ ≤ _; exact Nat.le_of_eq rfl) (hb hby at_244) (fun _ _ => ⟨rfl, e4q, (by decide : 10 + 0 ≤ _), (by decide : 192 + 0 ≤ _)⟩)
  dsimp only [Pt.U, Pt.locs, Pt.cells, Pt.slots] at X5 l5 y5 z5 st5 hQ5
  subst l5 y5 z5
  obtain ⟨rfl, N5q, e5q⟩ := hQ5
  have N5 := Fr.app N4 N5q
  refine Onw.go (fun _ kt => st5.trans kt) ?_
  show Onw p e below _ (T5.setTop (mkF m 247 #[.val (.int p0), .val (.long q1), .second, .val (.int p2), .val (.int (0 : Int32)), .val (.ref uM), .val (.long (9223372036854775807 : Int64)), .second, .val (.long lw), .second, .val (.int rq), .val (.ref tb), .val (.ref hk), .val (.ref u3), .val (.int (Int32.ofNat dd)), .val (.int (2 : Int32))] [(.int (Int32.ofNat zs.length))]))
  refine Onw.go (fun _ kt => XS.iload X5.here hx rfl (hb hby at_247) rfl kt) ?_
  show Onw p e below _ (T5.setTop (mkF m 249 #[.val (.int p0), .val (.long q1), .second, .val (.int p2), .val (.int (0 : Int32)), .val (.ref uM), .val (.long (9223372036854775807 : Int64)), .second, .val (.long lw), .second, .val (.int rq), .val (.ref tb), .val (.ref hk), .val (.ref u3), .val (.int (Int32.ofNat dd)), .val (.int (2 : Int32))] [(.int (Int32.ofNat dd)), (.int (Int32.ofNat zs.length))]))
  refine Onw.go (fun _ kt => XS.iload X5.here hx rfl (hb hby at_249) rfl kt) ?_
  show Onw p e below _ (T5.setTop (mkF m 251 #[.val (.int p0), .val (.long q1), .second, .val (.int p2), .val (.int (0 : Int32)), .val (.ref uM), .val (.long (9223372036854775807 : Int64)), .second, .val (.long lw), .second, .val (.int rq), .val (.ref tb), .val (.ref hk), .val (.ref u3), .val (.int (Int32.ofNat dd)), .val (.int (2 : Int32))] [(.int (2 : Int32)), (.int (Int32.ofNat dd)), (.int (Int32.ofNat zs.length))]))
  refine Onw.go (fun _ kt => XS.iadd X5.here hx rfl (hb hby at_251) rfl kt) ?_
  show Onw p e below _ (T5.setTop (mkF m 252 #[.val (.int p0), .val (.long q1), .second, .val (.int p2), .val (.int (0 : Int32)), .val (.ref uM), .val (.long (9223372036854775807 : Int64)), .second, .val (.long lw), .second, .val (.int rq), .val (.ref tb), .val (.ref hk), .val (.ref u3), .val (.int (Int32.ofNat dd)), .val (.int (2 : Int32))] [(.int ((Int32.ofNat dd) + (2 : Int32))), (.int (Int32.ofNat zs.length))]))
  refine Onw.go (fun _ kt => XS.icmpYes X5.here hx rfl (pc0 := 252) (pc' := 257) rfl (hb hby at_252) rfl (teq ((by rw [zl2, Int32.ofNat_add]; rfl) : (Int32.ofNat zs.length) = ((Int32.ofNat dd) + (2 : Int32)))).1 (by decide) (by decide) kt) ?_
  show Onw p e below _ (T5.setTop (mkF m 257 #[.val (.int p0), .val (.long q1), .second, .val (.int p2), .val (.int (0 : Int32)), .val (.ref uM), .val (.long (9223372036854775807 : Int64)), .second, .val (.long lw), .second, .val (.int rq), .val (.ref tb), .val (.ref hk), .val (.ref u3), .val (.int (Int32.ofNat dd)), .val (.int (2 : Int32))] []))
  refine Onw.go (fun _ kt => XS.iload X5.here hx rfl (hb hby at_257) rfl kt) ?_
  show Onw p e below _ (T5.setTop (mkF m 259 #[.val (.int p0), .val (.long q1), .second, .val (.int p2), .val (.int (0 : Int32)), .val (.ref uM), .val (.long (9223372036854775807 : Int64)), .second, .val (.long lw), .second, .val (.int rq), .val (.ref tb), .val (.ref hk), .val (.ref u3), .val (.int (Int32.ofNat dd)), .val (.int (2 : Int32))] [(.int (0 : Int32))]))
  refine Onw.go (fun _ kt => XS.ifYes X5.here hx rfl (pc0 := 259) (pc' := 276) rfl (hb hby at_259) rfl ((if0 _ _).trans (teq (rfl : (0 : Int32) = (0 : Int32))).1) (by decide) (by decide) kt) ?_
  show Onw p e below _ (T5.setTop (mkF m 276 #[.val (.int p0), .val (.long q1), .second, .val (.int p2), .val (.int (0 : Int32)), .val (.ref uM), .val (.long (9223372036854775807 : Int64)), .second, .val (.long lw), .second, .val (.int rq), .val (.ref tb), .val (.ref hk), .val (.ref u3), .val (.int (Int32.ofNat dd)), .val (.int (2 : Int32))] []))
  refine Onw.go (fun _ kt => XS.aload X5.here hx rfl (hb hby at_276) rfl rfl kt) ?_
  show Onw p e below _ (T5.setTop (mkF m 278 #[.val (.int p0), .val (.long q1), .second, .val (.int p2), .val (.int (0 : Int32)), .val (.ref uM), .val (.long (9223372036854775807 : Int64)), .second, .val (.long lw), .second, .val (.int rq), .val (.ref tb), .val (.ref hk), .val (.ref u3), .val (.int (Int32.ofNat dd)), .val (.int (2 : Int32))] [(.ref u3)]))
  refine Onw.go (fun _ kt => XS.iload X5.here hx rfl (hb hby at_278) rfl kt) ?_
  show Onw p e below _ (T5.setTop (mkF m 280 #[.val (.int p0), .val (.long q1), .second, .val (.int p2), .val (.int (0 : Int32)), .val (.ref uM), .val (.long (9223372036854775807 : Int64)), .second, .val (.long lw), .second, .val (.int rq), .val (.ref tb), .val (.ref hk), .val (.ref u3), .val (.int (Int32.ofNat dd)), .val (.int (2 : Int32))] [(.int (Int32.ofNat dd)), (.ref u3)]))
  obtain ⟨cq6, kq6, q6a, q6b, q6c⟩ := isOf hZ2 e5q M3.1
  obtain ⟨_, _, ⟨T6, L6, k6, n6⟩, -, X6, ⟨Lc6, hQ6, l6, y6, z6⟩, st6⟩ := X5.virtualBack hx (y := (⟨"java/lang/String", "charAt", "(I)C"⟩ : MethodName)) (z := (⟨"java/lang/String", "charAt", "(I)C"⟩ : MethodName)) hown2 (mvT hZ2 (hw _ (own_mg (i := 211) rfl))) (mvT hZ2 (hw _ (own_mg (i := 212) rfl))) (notFace_of_selects (args := #[]) (mvT hZ2 (hw _ (own_mg (i := 214) rfl)))) (mvT hZ2 (hw _ (own_mg (i := 214) rfl))) (mvT hZ2 (hw _ (own_mg (i := 213) rfl))) (by decide) (backOf (W := 0) (rm33 l Z a0 hw [] u3 (Int32.ofNat dd) zc b3 fm kb3 zs dd 109 T3.heap n0 M3 V3 (by omega) (by omega) rfl zt0 (by decide) S_F2 rf S_C2 hz) hZ2 (hw _ (own_mg (i := 215) rfl)) (hw _ (own_mg (i := 40) rfl)) (by decide) (by decide)) q6a q6c (g := (mkF m 280 #[.val (.int p0), .val (.long q1), .second, .val (.int p2), .val (.int (0 : Int32)), .val (.ref uM), .val (.long (9223372036854775807 : Int64)), .second, .val (.long lw), .second, .val (.int rq), .val (.ref tb), .val (.ref hk), .val (.ref u3), .val (.int (Int32.ofNat dd)), .val (.int (2 : Int32))] [(.int (Int32.ofNat dd)), (.ref u3)])) rfl (by rw [hml]; rfl) (Steps.refl _) (argsL := [(.int (Int32.ofNat dd))]) (rest := []) (lenOf pd_26 rfl) rfl (by show 2 * 0 + _ ≤ _; exact Nat.le_of_eq rfl) (hb hby at_280) (fun _ _ => ⟨rfl, e5q, (by decide : 10 + 0 ≤ _), (by decide : 192 + 0 ≤ _)⟩)
  dsimp only [Pt.U, Pt.locs, Pt.cells, Pt.slots] at X6 l6 y6 z6 st6 hQ6
  subst l6 y6 z6
  obtain ⟨rfl, N6q, e6q⟩ := hQ6
  have N6 := Fr.app N5 N6q
  refine Onw.go (fun _ kt => st6.trans kt) ?_
  show Onw p e below _ (T6.setTop (mkF m 283 #[.val (.int p0), .val (.long q1), .second, .val (.int p2), .val (.int (0 : Int32)), .val (.ref uM), .val (.long (9223372036854775807 : Int64)), .second, .val (.long lw), .second, .val (.int rq), .val (.ref tb), .val (.ref hk), .val (.ref u3), .val (.int (Int32.ofNat dd)), .val (.int (2 : Int32))] [(.int (Int32.ofNat 109))]))
  refine Onw.go (fun _ kt => XS.bipush X6.here hx rfl (hb hby at_283) kt) ?_
  show Onw p e below _ (T6.setTop (mkF m 285 #[.val (.int p0), .val (.long q1), .second, .val (.int p2), .val (.int (0 : Int32)), .val (.ref uM), .val (.long (9223372036854775807 : Int64)), .second, .val (.long lw), .second, .val (.int rq), .val (.ref tb), .val (.ref hk), .val (.ref u3), .val (.int (Int32.ofNat dd)), .val (.int (2 : Int32))] [(.int (109 : Int32)), (.int (Int32.ofNat 109))]))
  refine Onw.go (fun _ kt => XS.icmpNo X6.here hx rfl (hb hby at_285) rfl (teq (rfl : (Int32.ofNat 109) = (109 : Int32))).2 kt) ?_
  show Onw p e below _ (T6.setTop (mkF m 288 #[.val (.int p0), .val (.long q1), .second, .val (.int p2), .val (.int (0 : Int32)), .val (.ref uM), .val (.long (9223372036854775807 : Int64)), .second, .val (.long lw), .second, .val (.int rq), .val (.ref tb), .val (.ref hk), .val (.ref u3), .val (.int (Int32.ofNat dd)), .val (.int (2 : Int32))] []))
  refine Onw.go (fun _ kt => XS.aload X6.here hx rfl (hb hby at_288) rfl rfl kt) ?_
  show Onw p e below _ (T6.setTop (mkF m 290 #[.val (.int p0), .val (.long q1), .second, .val (.int p2), .val (.int (0 : Int32)), .val (.ref uM), .val (.long (9223372036854775807 : Int64)), .second, .val (.long lw), .second, .val (.int rq), .val (.ref tb), .val (.ref hk), .val (.ref u3), .val (.int (Int32.ofNat dd)), .val (.int (2 : Int32))] [(.ref u3)]))
  refine Onw.go (fun _ kt => XS.iload X6.here hx rfl (hb hby at_290) rfl kt) ?_
  show Onw p e below _ (T6.setTop (mkF m 292 #[.val (.int p0), .val (.long q1), .second, .val (.int p2), .val (.int (0 : Int32)), .val (.ref uM), .val (.long (9223372036854775807 : Int64)), .second, .val (.long lw), .second, .val (.int rq), .val (.ref tb), .val (.ref hk), .val (.ref u3), .val (.int (Int32.ofNat dd)), .val (.int (2 : Int32))] [(.int (Int32.ofNat dd)), (.ref u3)]))
  refine Onw.go (fun _ kt => XS.iconst X6.here hx rfl (hb hby at_292) kt) ?_
  show Onw p e below _ (T6.setTop (mkF m 293 #[.val (.int p0), .val (.long q1), .second, .val (.int p2), .val (.int (0 : Int32)), .val (.ref uM), .val (.long (9223372036854775807 : Int64)), .second, .val (.long lw), .second, .val (.int rq), .val (.ref tb), .val (.ref hk), .val (.ref u3), .val (.int (Int32.ofNat dd)), .val (.int (2 : Int32))] [(.int (1 : Int32)), (.int (Int32.ofNat dd)), (.ref u3)]))
  refine Onw.go (fun _ kt => XS.iadd X6.here hx rfl (hb hby at_293) rfl kt) ?_
  show Onw p e below _ (T6.setTop (mkF m 294 #[.val (.int p0), .val (.long q1), .second, .val (.int p2), .val (.int (0 : Int32)), .val (.ref uM), .val (.long (9223372036854775807 : Int64)), .second, .val (.long lw), .second, .val (.int rq), .val (.ref tb), .val (.ref hk), .val (.ref u3), .val (.int (Int32.ofNat dd)), .val (.int (2 : Int32))] [(.int ((Int32.ofNat dd) + (1 : Int32))), (.ref u3)]))
  rw [(by rw [Int32.ofNat_add]; rfl : ((Int32.ofNat dd) + (1 : Int32)) = (Int32.ofNat (dd + 1)))]
  show Onw p e below _ (T6.setTop (mkF m 294 #[.val (.int p0), .val (.long q1), .second, .val (.int p2), .val (.int (0 : Int32)), .val (.ref uM), .val (.long (9223372036854775807 : Int64)), .second, .val (.long lw), .second, .val (.int rq), .val (.ref tb), .val (.ref hk), .val (.ref u3), .val (.int (Int32.ofNat dd)), .val (.int (2 : Int32))] [(.int (Int32.ofNat (dd + 1))), (.ref u3)]))
  obtain ⟨cq7, kq7, q7a, q7b, q7c⟩ := isOf hZ2 e6q M3.1
  obtain ⟨_, _, ⟨T7, L7, k7, n7⟩, -, X7, ⟨Lc7, hQ7, l7, y7, z7⟩, st7⟩ := X6.virtualBack hx (y := (⟨"java/lang/String", "charAt", "(I)C"⟩ : MethodName)) (z := (⟨"java/lang/String", "charAt", "(I)C"⟩ : MethodName)) hown2 (mvT hZ2 (hw _ (own_mg (i := 211) rfl))) (mvT hZ2 (hw _ (own_mg (i := 212) rfl))) (notFace_of_selects (args := #[]) (mvT hZ2 (hw _ (own_mg (i := 214) rfl)))) (mvT hZ2 (hw _ (own_mg (i := 214) rfl))) (mvT hZ2 (hw _ (own_mg (i := 213) rfl))) (by decide) (backOf (W := 0) (rm33 l Z a0 hw [] u3 (Int32.ofNat (dd + 1)) zc b3 fm kb3 zs (dd + 1) 115 T3.heap n0 M3 V3 (by omega) (by omega) rfl zt1 (by decide) S_F2 rf S_C2 hz) hZ2 (hw _ (own_mg (i := 215) rfl)) (hw _ (own_mg (i := 40) rfl)) (by decide) (by decide)) q7a q7c (g := (mkF m 294 #[.val (.int p0), .val (.long q1), .second, .val (.int p2), .val (.int (0 : Int32)), .val (.ref uM), .val (.long (9223372036854775807 : Int64)), .second, .val (.long lw), .second, .val (.int rq), .val (.ref tb), .val (.ref hk), .val (.ref u3), .val (.int (Int32.ofNat dd)), .val (.int (2 : Int32))] [(.int (Int32.ofNat (dd + 1))), (.ref u3)])) rfl (by rw [hml]; rfl) (Steps.refl _) (argsL := [(.int (Int32.ofNat (dd + 1)))]) (rest := []) (lenOf pd_26 rfl) rfl (by show 2 * 0 + _ ≤ _; exact Nat.le_of_eq rfl) (hb hby at_294) (fun _ _ => ⟨rfl, e6q, (by decide : 10 + 0 ≤ _), (by decide : 192 + 0 ≤ _)⟩)
  dsimp only [Pt.U, Pt.locs, Pt.cells, Pt.slots] at X7 l7 y7 z7 st7 hQ7
  subst l7 y7 z7
  obtain ⟨rfl, N7q, e7q⟩ := hQ7
  have N7 := Fr.app N6 N7q
  refine Onw.go (fun _ kt => st7.trans kt) ?_
  show Onw p e below _ (T7.setTop (mkF m 297 #[.val (.int p0), .val (.long q1), .second, .val (.int p2), .val (.int (0 : Int32)), .val (.ref uM), .val (.long (9223372036854775807 : Int64)), .second, .val (.long lw), .second, .val (.int rq), .val (.ref tb), .val (.ref hk), .val (.ref u3), .val (.int (Int32.ofNat dd)), .val (.int (2 : Int32))] [(.int (Int32.ofNat 115))]))
  refine Onw.go (fun _ kt => XS.bipush X7.here hx rfl (hb hby at_297) kt) ?_
  show Onw p e below _ (T7.setTop (mkF m 299 #[.val (.int p0), .val (.long q1), .second, .val (.int p2), .val (.int (0 : Int32)), .val (.ref uM), .val (.long (9223372036854775807 : Int64)), .second, .val (.long lw), .second, .val (.int rq), .val (.ref tb), .val (.ref hk), .val (.ref u3), .val (.int (Int32.ofNat dd)), .val (.int (2 : Int32))] [(.int (115 : Int32)), (.int (Int32.ofNat 115))]))
  refine Onw.go (fun _ kt => XS.icmpYes X7.here hx rfl (pc0 := 299) (pc' := 304) rfl (hb hby at_299) rfl (teq (rfl : (Int32.ofNat 115) = (115 : Int32))).1 (by decide) (by decide) kt) ?_
  show Onw p e below _ (T7.setTop (mkF m 304 #[.val (.int p0), .val (.long q1), .second, .val (.int p2), .val (.int (0 : Int32)), .val (.ref uM), .val (.long (9223372036854775807 : Int64)), .second, .val (.long lw), .second, .val (.int rq), .val (.ref tb), .val (.ref hk), .val (.ref u3), .val (.int (Int32.ofNat dd)), .val (.int (2 : Int32))] []))
  exact law_304 (s := s.setVm T2.vm) hx hZ2 hw hby hml hown2 p0 p2 (0 : Int32) rq (2 : Int32) q1 _ lw uM tb hk u3 b3 kb3 zs dd ww zc fm X7 e7q N7 M3 V3 (by omega) (by omega) zd TB2 ww1 hdd S_F2 rf S_C2 hz (fun T' locs' X' e' N' => hK T2.vm T' locs' _ _ X' hS2 (by rw [e']; exact E3.1) N')
set_option maxRecDepth 65536 in
set_option maxHeartbeats 40000000 in
theorem law_68 {p : Program} {l : Launch} {e : Env} {s : State} {m : MethodId} {args : Array Value} {below : List Frame} {meth : Method} {c : Code} {Z : State} {a0 : Array Value} {W : Outcome → State → Prop} (hx : p.tables.exec = Jvm.exec) (hZ : Z.Warmed39 s.vm) (hw : ∀ d ∈ tables_1, d.before a0 Z = true) (hby : c.code = code) (hml : c.maxLocals = 16) (hown : s.vm.findClass "com/example/vigil_cache/vigilcache/HotKeyRuleWindowAsWrittenPinLaw" = some m.cls) {h0 : Heap} {n0 : Nat}  (p0 p2 sc rq : Int32) (q1 lim lw : Int64) (ux : Addr)
    {T0 : State} {locs0 : List Loc} (X0 : Stand p l e room_1 s m args below meth c T0 locs0 0 0) (e0 : T0.heap = h0) (N0 : Fr n0 locs0) (Z0 : n0 ≤ h0.size) (hK : ∀ (T' : State) (h' : Heap) (locs' : List Loc) (tb : Addr), Stand p l e room_1 s m args below meth c T' locs' 1 19 → T'.heap = h' → Fr n0 locs' → Ext h0 h' → own_TB Z h' tb → Onw p e below W (T'.setTop (mkF m 199 #[.val (.int p0), .val (.long q1), .second, .val (.int p2), .val (.int sc), .val (.ref ux), .val (.long lim), .second, .val (.long lw), .second, .val (.int rq), .val (.ref tb), .unset, .unset, .unset, .unset] []))) :
    Onw p e below W (T0.setTop (mkF m 68 #[.val (.int p0), .val (.long q1), .second, .val (.int p2), .val (.int sc), .val (.ref ux), .val (.long lim), .second, .val (.long lw), .second, .val (.int rq), .unset, .unset, .unset, .unset, .unset] [])) := by
  refine Onw.go (fun _ kt => XS.bipush X0.here hx rfl (hb hby at_68) kt) ?_
  show Onw p e below _ (T0.setTop (mkF m 70 #[.val (.int p0), .val (.long q1), .second, .val (.int p2), .val (.int sc), .val (.ref ux), .val (.long lim), .second, .val (.long lw), .second, .val (.int rq), .unset, .unset, .unset, .unset, .unset] [(.int (19 : Int32))]))
  obtain ⟨T1, h1, k1, X1, e1, E1, A1, st1⟩ := newP X0 hx hZ (hw _ (own_mg (i := 6) rfl)) e0 (g := (mkF m 70 #[.val (.int p0), .val (.long q1), .second, .val (.int p2), .val (.int sc), .val (.ref ux), .val (.long lim), .second, .val (.long lw), .second, .val (.int rq), .unset, .unset, .unset, .unset, .unset] [(.int (19 : Int32))])) rfl (hb hby at_70) rfl (by decide) (cap := 19) (by decide) (by decide) (by decide) (by decide)
  obtain ⟨tb, gg1⟩ : ∃ own_z, own_z = h0.size := ⟨_, rfl⟩
  rw [← gg1] at A1 st1
  have V_tb : Arv Z h1 tb k1 .long (19 : Int32) [(.long (0 : Int64)), (.long (0 : Int64)), (.long (0 : Int64)), (.long (0 : Int64)), (.long (0 : Int64)), (.long (0 : Int64)), (.long (0 : Int64)), (.long (0 : Int64)), (.long (0 : Int64)), (.long (0 : Int64)), (.long (0 : Int64)), (.long (0 : Int64)), (.long (0 : Int64)), (.long (0 : Int64)), (.long (0 : Int64)), (.long (0 : Int64)), (.long (0 : Int64)), (.long (0 : Int64)), (.long (0 : Int64))] (.long (0 : Int64)) := (Arv.new A1 (by decide)).pad (pad_rep [] (.long (0 : Int64)) 19)
  refine Onw.go st1 ?_
  show Onw p e below _ (T1.setTop (mkF m 72 #[.val (.int p0), .val (.long q1), .second, .val (.int p2), .val (.int sc), .val (.ref ux), .val (.long lim), .second, .val (.long lw), .second, .val (.int rq), .unset, .unset, .unset, .unset, .unset] [(.ref tb)]))
  have gtb : h0.size ≤ tb := Nat.le_of_eq gg1.symm
  have g_tb : n0 ≤ tb := Nat.le_trans Z0 gtb
  have XX0 : Ext h0 h1 := E1
  refine Onw.go (fun _ kt => XS.dup X1.here hx rfl (hb hby at_72) rfl rfl kt) ?_
  show Onw p e below _ (T1.setTop (mkF m 73 #[.val (.int p0), .val (.long q1), .second, .val (.int p2), .val (.int sc), .val (.ref ux), .val (.long lim), .second, .val (.long lw), .second, .val (.int rq), .unset, .unset, .unset, .unset, .unset] [(.ref tb), (.ref tb)]))
  refine Onw.go (fun _ kt => XS.iconst X1.here hx rfl (hb hby at_73) kt) ?_
  show Onw p e below _ (T1.setTop (mkF m 74 #[.val (.int p0), .val (.long q1), .second, .val (.int p2), .val (.int sc), .val (.ref ux), .val (.long lim), .second, .val (.long lw), .second, .val (.int rq), .unset, .unset, .unset, .unset, .unset] [(.int (0 : Int32)), (.ref tb), (.ref tb)]))
  refine Onw.go (fun _ kt => XS.lconst X1.here hx rfl (hb hby at_74) kt) ?_
  show Onw p e below _ (T1.setTop (mkF m 75 #[.val (.int p0), .val (.long q1), .second, .val (.int p2), .val (.int sc), .val (.ref ux), .val (.long lim), .second, .val (.long lw), .second, .val (.int rq), .unset, .unset, .unset, .unset, .unset] [(.long (1 : Int64)), (.int (0 : Int32)), (.ref tb), (.ref tb)]))
  obtain ⟨cl2, Ar2, qa2, Sa2, Na2, Ha2, Ga2⟩ := V_tb
  have hin2 : ¬ ((0 : Int32) < 0 ∨ cl2.slots.size ≤ ((0 : Int32)).toNatClampNeg) := inb_of Sa2 ⟨by decide, by decide⟩
  obtain ⟨T2, h2, X2, e2, W2, st2⟩ := stJ X1 hx hZ e1 Ar2 (j := (0 : Int32)) hin2 (g := (mkF m 75 #[.val (.int p0), .val (.long q1), .second, .val (.int p2), .val (.int sc), .val (.ref ux), .val (.long lim), .second, .val (.long lw), .second, .val (.int rq), .unset, .unset, .unset, .unset, .unset] [(.long (1 : Int64)), (.int (0 : Int32)), (.ref tb), (.ref tb)])) rfl rfl (hb hby at_75)
  have V2 := Arv.set Ar2 qa2 Sa2 Na2 Ha2 Ga2 rfl W2 0 rfl (Nat.le_of_ble_eq_true rfl)
  have N2 := Fr.snoc X2 N0 g_tb
  refine Onw.go st2 ?_
  show Onw p e below _ (T2.setTop (mkF m 76 #[.val (.int p0), .val (.long q1), .second, .val (.int p2), .val (.int sc), .val (.ref ux), .val (.long lim), .second, .val (.long lw), .second, .val (.int rq), .unset, .unset, .unset, .unset, .unset] [(.ref tb)]))
  have XX1 := own_extk XX0 (Keep.of_wr W2) gtb
  refine Onw.go (fun _ kt => XS.dup X2.here hx rfl (hb hby at_76) rfl rfl kt) ?_
  show Onw p e below _ (T2.setTop (mkF m 77 #[.val (.int p0), .val (.long q1), .second, .val (.int p2), .val (.int sc), .val (.ref ux), .val (.long lim), .second, .val (.long lw), .second, .val (.int rq), .unset, .unset, .unset, .unset, .unset] [(.ref tb), (.ref tb)]))
  refine Onw.go (fun _ kt => XS.iconst X2.here hx rfl (hb hby at_77) kt) ?_
  show Onw p e below _ (T2.setTop (mkF m 78 #[.val (.int p0), .val (.long q1), .second, .val (.int p2), .val (.int sc), .val (.ref ux), .val (.long lim), .second, .val (.long lw), .second, .val (.int rq), .unset, .unset, .unset, .unset, .unset] [(.int (1 : Int32)), (.ref tb), (.ref tb)]))
  refine Onw.go (X2.ldc2Long hx hown (mvT hZ (hw _ (own_mg (i := 7) rfl))) (g := (mkF m 78 #[.val (.int p0), .val (.long q1), .second, .val (.int p2), .val (.int sc), .val (.ref ux), .val (.long lim), .second, .val (.long lw), .second, .val (.int rq), .unset, .unset, .unset, .unset, .unset] [(.int (1 : Int32)), (.ref tb), (.ref tb)])) rfl (hb hby at_78)) ?_
  show Onw p e below _ (T2.setTop (mkF m 81 #[.val (.int p0), .val (.long q1), .second, .val (.int p2), .val (.int sc), .val (.ref ux), .val (.long lim), .second, .val (.long lw), .second, .val (.int rq), .unset, .unset, .unset, .unset, .unset] [(.long (10 : Int64)), (.int (1 : Int32)), (.ref tb), (.ref tb)]))
  obtain ⟨cl3, Ar3, qa3, Sa3, Na3, Ha3, Ga3⟩ := V2
  have hin3 : ¬ ((1 : Int32) < 0 ∨ cl3.slots.size ≤ ((1 : Int32)).toNatClampNeg) := inb_of Sa3 ⟨by decide, by decide⟩
  obtain ⟨T3, h3, X3, e3, W3, st3⟩ := stJ X2 hx hZ e2 Ar3 (j := (1 : Int32)) hin3 (g := (mkF m 81 #[.val (.int p0), .val (.long q1), .second, .val (.int p2), .val (.int sc), .val (.ref ux), .val (.long lim), .second, .val (.long lw), .second, .val (.int rq), .unset, .unset, .unset, .unset, .unset] [(.long (10 : Int64)), (.int (1 : Int32)), (.ref tb), (.ref tb)])) rfl rfl (hb hby at_81)
  have V3 := Arv.set Ar3 qa3 Sa3 Na3 Ha3 Ga3 rfl W3 1 rfl (Nat.le_of_ble_eq_true rfl)
  have N3 := Fr.snoc X3 N2 g_tb
  refine Onw.go st3 ?_
  show Onw p e below _ (T3.setTop (mkF m 82 #[.val (.int p0), .val (.long q1), .second, .val (.int p2), .val (.int sc), .val (.ref ux), .val (.long lim), .second, .val (.long lw), .second, .val (.int rq), .unset, .unset, .unset, .unset, .unset] [(.ref tb)]))
  have XX2 := own_extk XX1 (Keep.of_wr W3) gtb
  refine Onw.go (fun _ kt => XS.dup X3.here hx rfl (hb hby at_82) rfl rfl kt) ?_
  show Onw p e below _ (T3.setTop (mkF m 83 #[.val (.int p0), .val (.long q1), .second, .val (.int p2), .val (.int sc), .val (.ref ux), .val (.long lim), .second, .val (.long lw), .second, .val (.int rq), .unset, .unset, .unset, .unset, .unset] [(.ref tb), (.ref tb)]))
  refine Onw.go (fun _ kt => XS.iconst X3.here hx rfl (hb hby at_83) kt) ?_
  show Onw p e below _ (T3.setTop (mkF m 84 #[.val (.int p0), .val (.long q1), .second, .val (.int p2), .val (.int sc), .val (.ref ux), .val (.long lim), .second, .val (.long lw), .second, .val (.int rq), .unset, .unset, .unset, .unset, .unset] [(.int (2 : Int32)), (.ref tb), (.ref tb)]))
  refine Onw.go (X3.ldc2Long hx hown (mvT hZ (hw _ (own_mg (i := 8) rfl))) (g := (mkF m 84 #[.val (.int p0), .val (.long q1), .second, .val (.int p2), .val (.int sc), .val (.ref ux), .val (.long lim), .second, .val (.long lw), .second, .val (.int rq), .unset, .unset, .unset, .unset, .unset] [(.int (2 : Int32)), (.ref tb), (.ref tb)])) rfl (hb hby at_84)) ?_
  show Onw p e below _ (T3.setTop (mkF m 87 #[.val (.int p0), .val (.long q1), .second, .val (.int p2), .val (.int sc), .val (.ref ux), .val (.long lim), .second, .val (.long lw), .second, .val (.int rq), .unset, .unset, .unset, .unset, .unset] [(.long (100 : Int64)), (.int (2 : Int32)), (.ref tb), (.ref tb)]))
  obtain ⟨cl4, Ar4, qa4, Sa4, Na4, Ha4, Ga4⟩ := V3
  have hin4 : ¬ ((2 : Int32) < 0 ∨ cl4.slots.size ≤ ((2 : Int32)).toNatClampNeg) := inb_of Sa4 ⟨by decide, by decide⟩
  obtain ⟨T4, h4, X4, e4, W4, st4⟩ := stJ X3 hx hZ e3 Ar4 (j := (2 : Int32)) hin4 (g := (mkF m 87 #[.val (.int p0), .val (.long q1), .second, .val (.int p2), .val (.int sc), .val (.ref ux), .val (.long lim), .second, .val (.long lw), .second, .val (.int rq), .unset, .unset, .unset, .unset, .unset] [(.long (100 : Int64)), (.int (2 : Int32)), (.ref tb), (.ref tb)])) rfl rfl (hb hby at_87)
  have V4 := Arv.set Ar4 qa4 Sa4 Na4 Ha4 Ga4 rfl W4 2 rfl (Nat.le_of_ble_eq_true rfl)
  have N4 := Fr.snoc X4 N3 g_tb
  refine Onw.go st4 ?_
  show Onw p e below _ (T4.setTop (mkF m 88 #[.val (.int p0), .val (.long q1), .second, .val (.int p2), .val (.int sc), .val (.ref ux), .val (.long lim), .second, .val (.long lw), .second, .val (.int rq), .unset, .unset, .unset, .unset, .unset] [(.ref tb)]))
  have XX3 := own_extk XX2 (Keep.of_wr W4) gtb
  refine Onw.go (fun _ kt => XS.dup X4.here hx rfl (hb hby at_88) rfl rfl kt) ?_
  show Onw p e below _ (T4.setTop (mkF m 89 #[.val (.int p0), .val (.long q1), .second, .val (.int p2), .val (.int sc), .val (.ref ux), .val (.long lim), .second, .val (.long lw), .second, .val (.int rq), .unset, .unset, .unset, .unset, .unset] [(.ref tb), (.ref tb)]))
  refine Onw.go (fun _ kt => XS.iconst X4.here hx rfl (hb hby at_89) kt) ?_
  show Onw p e below _ (T4.setTop (mkF m 90 #[.val (.int p0), .val (.long q1), .second, .val (.int p2), .val (.int sc), .val (.ref ux), .val (.long lim), .second, .val (.long lw), .second, .val (.int rq), .unset, .unset, .unset, .unset, .unset] [(.int (3 : Int32)), (.ref tb), (.ref tb)]))
  refine Onw.go (X4.ldc2Long hx hown (mvT hZ (hw _ (own_mg (i := 9) rfl))) (g := (mkF m 90 #[.val (.int p0), .val (.long q1), .second, .val (.int p2), .val (.int sc), .val (.ref ux), .val (.long lim), .second, .val (.long lw), .second, .val (.int rq), .unset, .unset, .unset, .unset, .unset] [(.int (3 : Int32)), (.ref tb), (.ref tb)])) rfl (hb hby at_90)) ?_
  show Onw p e below _ (T4.setTop (mkF m 93 #[.val (.int p0), .val (.long q1), .second, .val (.int p2), .val (.int sc), .val (.ref ux), .val (.long lim), .second, .val (.long lw), .second, .val (.int rq), .unset, .unset, .unset, .unset, .unset] [(.long (1000 : Int64)), (.int (3 : Int32)), (.ref tb), (.ref tb)]))
  obtain ⟨cl5, Ar5, qa5, Sa5, Na5, Ha5, Ga5⟩ := V4
  have hin5 : ¬ ((3 : Int32) < 0 ∨ cl5.slots.size ≤ ((3 : Int32)).toNatClampNeg) := inb_of Sa5 ⟨by decide, by decide⟩
  obtain ⟨T5, h5, X5, e5, W5, st5⟩ := stJ X4 hx hZ e4 Ar5 (j := (3 : Int32)) hin5 (g := (mkF m 93 #[.val (.int p0), .val (.long q1), .second, .val (.int p2), .val (.int sc), .val (.ref ux), .val (.long lim), .second, .val (.long lw), .second, .val (.int rq), .unset, .unset, .unset, .unset, .unset] [(.long (1000 : Int64)), (.int (3 : Int32)), (.ref tb), (.ref tb)])) rfl rfl (hb hby at_93)
  have V5 := Arv.set Ar5 qa5 Sa5 Na5 Ha5 Ga5 rfl W5 3 rfl (Nat.le_of_ble_eq_true rfl)
  have N5 := Fr.snoc X5 N4 g_tb
  refine Onw.go st5 ?_
  show Onw p e below _ (T5.setTop (mkF m 94 #[.val (.int p0), .val (.long q1), .second, .val (.int p2), .val (.int sc), .val (.ref ux), .val (.long lim), .second, .val (.long lw), .second, .val (.int rq), .unset, .unset, .unset, .unset, .unset] [(.ref tb)]))
  have XX4 := own_extk XX3 (Keep.of_wr W5) gtb
  refine Onw.go (fun _ kt => XS.dup X5.here hx rfl (hb hby at_94) rfl rfl kt) ?_
  show Onw p e below _ (T5.setTop (mkF m 95 #[.val (.int p0), .val (.long q1), .second, .val (.int p2), .val (.int sc), .val (.ref ux), .val (.long lim), .second, .val (.long lw), .second, .val (.int rq), .unset, .unset, .unset, .unset, .unset] [(.ref tb), (.ref tb)]))
  refine Onw.go (fun _ kt => XS.iconst X5.here hx rfl (hb hby at_95) kt) ?_
  show Onw p e below _ (T5.setTop (mkF m 96 #[.val (.int p0), .val (.long q1), .second, .val (.int p2), .val (.int sc), .val (.ref ux), .val (.long lim), .second, .val (.long lw), .second, .val (.int rq), .unset, .unset, .unset, .unset, .unset] [(.int (4 : Int32)), (.ref tb), (.ref tb)]))
  refine Onw.go (X5.ldc2Long hx hown (mvT hZ (hw _ (own_mg (i := 10) rfl))) (g := (mkF m 96 #[.val (.int p0), .val (.long q1), .second, .val (.int p2), .val (.int sc), .val (.ref ux), .val (.long lim), .second, .val (.long lw), .second, .val (.int rq), .unset, .unset, .unset, .unset, .unset] [(.int (4 : Int32)), (.ref tb), (.ref tb)])) rfl (hb hby at_96)) ?_
  show Onw p e below _ (T5.setTop (mkF m 99 #[.val (.int p0), .val (.long q1), .second, .val (.int p2), .val (.int sc), .val (.ref ux), .val (.long lim), .second, .val (.long lw), .second, .val (.int rq), .unset, .unset, .unset, .unset, .unset] [(.long (10000 : Int64)), (.int (4 : Int32)), (.ref tb), (.ref tb)]))
  obtain ⟨cl6, Ar6, qa6, Sa6, Na6, Ha6, Ga6⟩ := V5
  have hin6 : ¬ ((4 : Int32) < 0 ∨ cl6.slots.size ≤ ((4 : Int32)).toNatClampNeg) := inb_of Sa6 ⟨by decide, by decide⟩
  obtain ⟨T6, h6, X6, e6, W6, st6⟩ := stJ X5 hx hZ e5 Ar6 (j := (4 : Int32)) hin6 (g := (mkF m 99 #[.val (.int p0), .val (.long q1), .second, .val (.int p2), .val (.int sc), .val (.ref ux), .val (.long lim), .second, .val (.long lw), .second, .val (.int rq), .unset, .unset, .unset, .unset, .unset] [(.long (10000 : Int64)), (.int (4 : Int32)), (.ref tb), (.ref tb)])) rfl rfl (hb hby at_99)
  have V6 := Arv.set Ar6 qa6 Sa6 Na6 Ha6 Ga6 rfl W6 4 rfl (Nat.le_of_ble_eq_true rfl)
  have N6 := Fr.snoc X6 N5 g_tb
  refine Onw.go st6 ?_
  show Onw p e below _ (T6.setTop (mkF m 100 #[.val (.int p0), .val (.long q1), .second, .val (.int p2), .val (.int sc), .val (.ref ux), .val (.long lim), .second, .val (.long lw), .second, .val (.int rq), .unset, .unset, .unset, .unset, .unset] [(.ref tb)]))
  have XX5 := own_extk XX4 (Keep.of_wr W6) gtb
  refine Onw.go (fun _ kt => XS.dup X6.here hx rfl (hb hby at_100) rfl rfl kt) ?_
  show Onw p e below _ (T6.setTop (mkF m 101 #[.val (.int p0), .val (.long q1), .second, .val (.int p2), .val (.int sc), .val (.ref ux), .val (.long lim), .second, .val (.long lw), .second, .val (.int rq), .unset, .unset, .unset, .unset, .unset] [(.ref tb), (.ref tb)]))
  refine Onw.go (fun _ kt => XS.iconst X6.here hx rfl (hb hby at_101) kt) ?_
  show Onw p e below _ (T6.setTop (mkF m 102 #[.val (.int p0), .val (.long q1), .second, .val (.int p2), .val (.int sc), .val (.ref ux), .val (.long lim), .second, .val (.long lw), .second, .val (.int rq), .unset, .unset, .unset, .unset, .unset] [(.int (5 : Int32)), (.ref tb), (.ref tb)]))
  refine Onw.go (X6.ldc2Long hx hown (mvT hZ (hw _ (own_mg (i := 11) rfl))) (g := (mkF m 102 #[.val (.int p0), .val (.long q1), .second, .val (.int p2), .val (.int sc), .val (.ref ux), .val (.long lim), .second, .val (.long lw), .second, .val (.int rq), .unset, .unset, .unset, .unset, .unset] [(.int (5 : Int32)), (.ref tb), (.ref tb)])) rfl (hb hby at_102)) ?_
  show Onw p e below _ (T6.setTop (mkF m 105 #[.val (.int p0), .val (.long q1), .second, .val (.int p2), .val (.int sc), .val (.ref ux), .val (.long lim), .second, .val (.long lw), .second, .val (.int rq), .unset, .unset, .unset, .unset, .unset] [(.long (100000 : Int64)), (.int (5 : Int32)), (.ref tb), (.ref tb)]))
  obtain ⟨cl7, Ar7, qa7, Sa7, Na7, Ha7, Ga7⟩ := V6
  have hin7 : ¬ ((5 : Int32) < 0 ∨ cl7.slots.size ≤ ((5 : Int32)).toNatClampNeg) := inb_of Sa7 ⟨by decide, by decide⟩
  obtain ⟨T7, h7, X7, e7, W7, st7⟩ := stJ X6 hx hZ e6 Ar7 (j := (5 : Int32)) hin7 (g := (mkF m 105 #[.val (.int p0), .val (.long q1), .second, .val (.int p2), .val (.int sc), .val (.ref ux), .val (.long lim), .second, .val (.long lw), .second, .val (.int rq), .unset, .unset, .unset, .unset, .unset] [(.long (100000 : Int64)), (.int (5 : Int32)), (.ref tb), (.ref tb)])) rfl rfl (hb hby at_105)
  have V7 := Arv.set Ar7 qa7 Sa7 Na7 Ha7 Ga7 rfl W7 5 rfl (Nat.le_of_ble_eq_true rfl)
  have N7 := Fr.snoc X7 N6 g_tb
  refine Onw.go st7 ?_
  show Onw p e below _ (T7.setTop (mkF m 106 #[.val (.int p0), .val (.long q1), .second, .val (.int p2), .val (.int sc), .val (.ref ux), .val (.long lim), .second, .val (.long lw), .second, .val (.int rq), .unset, .unset, .unset, .unset, .unset] [(.ref tb)]))
  have XX6 := own_extk XX5 (Keep.of_wr W7) gtb
  refine Onw.go (fun _ kt => XS.dup X7.here hx rfl (hb hby at_106) rfl rfl kt) ?_
  show Onw p e below _ (T7.setTop (mkF m 107 #[.val (.int p0), .val (.long q1), .second, .val (.int p2), .val (.int sc), .val (.ref ux), .val (.long lim), .second, .val (.long lw), .second, .val (.int rq), .unset, .unset, .unset, .unset, .unset] [(.ref tb), (.ref tb)]))
  refine Onw.go (fun _ kt => XS.bipush X7.here hx rfl (hb hby at_107) kt) ?_
  show Onw p e below _ (T7.setTop (mkF m 109 #[.val (.int p0), .val (.long q1), .second, .val (.int p2), .val (.int sc), .val (.ref ux), .val (.long lim), .second, .val (.long lw), .second, .val (.int rq), .unset, .unset, .unset, .unset, .unset] [(.int (6 : Int32)), (.ref tb), (.ref tb)]))
  refine Onw.go (X7.ldc2Long hx hown (mvT hZ (hw _ (own_mg (i := 12) rfl))) (g := (mkF m 109 #[.val (.int p0), .val (.long q1), .second, .val (.int p2), .val (.int sc), .val (.ref ux), .val (.long lim), .second, .val (.long lw), .second, .val (.int rq), .unset, .unset, .unset, .unset, .unset] [(.int (6 : Int32)), (.ref tb), (.ref tb)])) rfl (hb hby at_109)) ?_
  show Onw p e below _ (T7.setTop (mkF m 112 #[.val (.int p0), .val (.long q1), .second, .val (.int p2), .val (.int sc), .val (.ref ux), .val (.long lim), .second, .val (.long lw), .second, .val (.int rq), .unset, .unset, .unset, .unset, .unset] [(.long (1000000 : Int64)), (.int (6 : Int32)), (.ref tb), (.ref tb)]))
  obtain ⟨cl8, Ar8, qa8, Sa8, Na8, Ha8, Ga8⟩ := V7
  have hin8 : ¬ ((6 : Int32) < 0 ∨ cl8.slots.size ≤ ((6 : Int32)).toNatClampNeg) := inb_of Sa8 ⟨by decide, by decide⟩
  obtain ⟨T8, h8, X8, e8, W8, st8⟩ := stJ X7 hx hZ e7 Ar8 (j := (6 : Int32)) hin8 (g := (mkF m 112 #[.val (.int p0), .val (.long q1), .second, .val (.int p2), .val (.int sc), .val (.ref ux), .val (.long lim), .second, .val (.long lw), .second, .val (.int rq), .unset, .unset, .unset, .unset, .unset] [(.long (1000000 : Int64)), (.int (6 : Int32)), (.ref tb), (.ref tb)])) rfl rfl (hb hby at_112)
  have V8 := Arv.set Ar8 qa8 Sa8 Na8 Ha8 Ga8 rfl W8 6 rfl (Nat.le_of_ble_eq_true rfl)
  have N8 := Fr.snoc X8 N7 g_tb
  refine Onw.go st8 ?_
  show Onw p e below _ (T8.setTop (mkF m 113 #[.val (.int p0), .val (.long q1), .second, .val (.int p2), .val (.int sc), .val (.ref ux), .val (.long lim), .second, .val (.long lw), .second, .val (.int rq), .unset, .unset, .unset, .unset, .unset] [(.ref tb)]))
  have XX7 := own_extk XX6 (Keep.of_wr W8) gtb
  refine Onw.go (fun _ kt => XS.dup X8.here hx rfl (hb hby at_113) rfl rfl kt) ?_
  show Onw p e below _ (T8.setTop (mkF m 114 #[.val (.int p0), .val (.long q1), .second, .val (.int p2), .val (.int sc), .val (.ref ux), .val (.long lim), .second, .val (.long lw), .second, .val (.int rq), .unset, .unset, .unset, .unset, .unset] [(.ref tb), (.ref tb)]))
  refine Onw.go (fun _ kt => XS.bipush X8.here hx rfl (hb hby at_114) kt) ?_
  show Onw p e below _ (T8.setTop (mkF m 116 #[.val (.int p0), .val (.long q1), .second, .val (.int p2), .val (.int sc), .val (.ref ux), .val (.long lim), .second, .val (.long lw), .second, .val (.int rq), .unset, .unset, .unset, .unset, .unset] [(.int (7 : Int32)), (.ref tb), (.ref tb)]))
  refine Onw.go (X8.ldc2Long hx hown (mvT hZ (hw _ (own_mg (i := 13) rfl))) (g := (mkF m 116 #[.val (.int p0), .val (.long q1), .second, .val (.int p2), .val (.int sc), .val (.ref ux), .val (.long lim), .second, .val (.long lw), .second, .val (.int rq), .unset, .unset, .unset, .unset, .unset] [(.int (7 : Int32)), (.ref tb), (.ref tb)])) rfl (hb hby at_116)) ?_
  show Onw p e below _ (T8.setTop (mkF m 119 #[.val (.int p0), .val (.long q1), .second, .val (.int p2), .val (.int sc), .val (.ref ux), .val (.long lim), .second, .val (.long lw), .second, .val (.int rq), .unset, .unset, .unset, .unset, .unset] [(.long (10000000 : Int64)), (.int (7 : Int32)), (.ref tb), (.ref tb)]))
  obtain ⟨cl9, Ar9, qa9, Sa9, Na9, Ha9, Ga9⟩ := V8
  have hin9 : ¬ ((7 : Int32) < 0 ∨ cl9.slots.size ≤ ((7 : Int32)).toNatClampNeg) := inb_of Sa9 ⟨by decide, by decide⟩
  obtain ⟨T9, h9, X9, e9, W9, st9⟩ := stJ X8 hx hZ e8 Ar9 (j := (7 : Int32)) hin9 (g := (mkF m 119 #[.val (.int p0), .val (.long q1), .second, .val (.int p2), .val (.int sc), .val (.ref ux), .val (.long lim), .second, .val (.long lw), .second, .val (.int rq), .unset, .unset, .unset, .unset, .unset] [(.long (10000000 : Int64)), (.int (7 : Int32)), (.ref tb), (.ref tb)])) rfl rfl (hb hby at_119)
  have V9 := Arv.set Ar9 qa9 Sa9 Na9 Ha9 Ga9 rfl W9 7 rfl (Nat.le_of_ble_eq_true rfl)
  have N9 := Fr.snoc X9 N8 g_tb
  refine Onw.go st9 ?_
  show Onw p e below _ (T9.setTop (mkF m 120 #[.val (.int p0), .val (.long q1), .second, .val (.int p2), .val (.int sc), .val (.ref ux), .val (.long lim), .second, .val (.long lw), .second, .val (.int rq), .unset, .unset, .unset, .unset, .unset] [(.ref tb)]))
  have XX8 := own_extk XX7 (Keep.of_wr W9) gtb
  refine Onw.go (fun _ kt => XS.dup X9.here hx rfl (hb hby at_120) rfl rfl kt) ?_
  show Onw p e below _ (T9.setTop (mkF m 121 #[.val (.int p0), .val (.long q1), .second, .val (.int p2), .val (.int sc), .val (.ref ux), .val (.long lim), .second, .val (.long lw), .second, .val (.int rq), .unset, .unset, .unset, .unset, .unset] [(.ref tb), (.ref tb)]))
  refine Onw.go (fun _ kt => XS.bipush X9.here hx rfl (hb hby at_121) kt) ?_
  show Onw p e below _ (T9.setTop (mkF m 123 #[.val (.int p0), .val (.long q1), .second, .val (.int p2), .val (.int sc), .val (.ref ux), .val (.long lim), .second, .val (.long lw), .second, .val (.int rq), .unset, .unset, .unset, .unset, .unset] [(.int (8 : Int32)), (.ref tb), (.ref tb)]))
  refine Onw.go (X9.ldc2Long hx hown (mvT hZ (hw _ (own_mg (i := 14) rfl))) (g := (mkF m 123 #[.val (.int p0), .val (.long q1), .second, .val (.int p2), .val (.int sc), .val (.ref ux), .val (.long lim), .second, .val (.long lw), .second, .val (.int rq), .unset, .unset, .unset, .unset, .unset] [(.int (8 : Int32)), (.ref tb), (.ref tb)])) rfl (hb hby at_123)) ?_
  show Onw p e below _ (T9.setTop (mkF m 126 #[.val (.int p0), .val (.long q1), .second, .val (.int p2), .val (.int sc), .val (.ref ux), .val (.long lim), .second, .val (.long lw), .second, .val (.int rq), .unset, .unset, .unset, .unset, .unset] [(.long (100000000 : Int64)), (.int (8 : Int32)), (.ref tb), (.ref tb)]))
  obtain ⟨cl10, Ar10, qa10, Sa10, Na10, Ha10, Ga10⟩ := V9
  have hin10 : ¬ ((8 : Int32) < 0 ∨ cl10.slots.size ≤ ((8 : Int32)).toNatClampNeg) := inb_of Sa10 ⟨by decide, by decide⟩
  obtain ⟨T10, h10, X10, e10, W10, st10⟩ := stJ X9 hx hZ e9 Ar10 (j := (8 : Int32)) hin10 (g := (mkF m 126 #[.val (.int p0), .val (.long q1), .second, .val (.int p2), .val (.int sc), .val (.ref ux), .val (.long lim), .second, .val (.long lw), .second, .val (.int rq), .unset, .unset, .unset, .unset, .unset] [(.long (100000000 : Int64)), (.int (8 : Int32)), (.ref tb), (.ref tb)])) rfl rfl (hb hby at_126)
  have V10 := Arv.set Ar10 qa10 Sa10 Na10 Ha10 Ga10 rfl W10 8 rfl (Nat.le_of_ble_eq_true rfl)
  have N10 := Fr.snoc X10 N9 g_tb
  refine Onw.go st10 ?_
  show Onw p e below _ (T10.setTop (mkF m 127 #[.val (.int p0), .val (.long q1), .second, .val (.int p2), .val (.int sc), .val (.ref ux), .val (.long lim), .second, .val (.long lw), .second, .val (.int rq), .unset, .unset, .unset, .unset, .unset] [(.ref tb)]))
  have XX9 := own_extk XX8 (Keep.of_wr W10) gtb
  refine Onw.go (fun _ kt => XS.dup X10.here hx rfl (hb hby at_127) rfl rfl kt) ?_
  show Onw p e below _ (T10.setTop (mkF m 128 #[.val (.int p0), .val (.long q1), .second, .val (.int p2), .val (.int sc), .val (.ref ux), .val (.long lim), .second, .val (.long lw), .second, .val (.int rq), .unset, .unset, .unset, .unset, .unset] [(.ref tb), (.ref tb)]))
  refine Onw.go (fun _ kt => XS.bipush X10.here hx rfl (hb hby at_128) kt) ?_
  show Onw p e below _ (T10.setTop (mkF m 130 #[.val (.int p0), .val (.long q1), .second, .val (.int p2), .val (.int sc), .val (.ref ux), .val (.long lim), .second, .val (.long lw), .second, .val (.int rq), .unset, .unset, .unset, .unset, .unset] [(.int (9 : Int32)), (.ref tb), (.ref tb)]))
  refine Onw.go (X10.ldc2Long hx hown (mvT hZ (hw _ (own_mg (i := 15) rfl))) (g := (mkF m 130 #[.val (.int p0), .val (.long q1), .second, .val (.int p2), .val (.int sc), .val (.ref ux), .val (.long lim), .second, .val (.long lw), .second, .val (.int rq), .unset, .unset, .unset, .unset, .unset] [(.int (9 : Int32)), (.ref tb), (.ref tb)])) rfl (hb hby at_130)) ?_
  show Onw p e below _ (T10.setTop (mkF m 133 #[.val (.int p0), .val (.long q1), .second, .val (.int p2), .val (.int sc), .val (.ref ux), .val (.long lim), .second, .val (.long lw), .second, .val (.int rq), .unset, .unset, .unset, .unset, .unset] [(.long (1000000000 : Int64)), (.int (9 : Int32)), (.ref tb), (.ref tb)]))
  obtain ⟨cl11, Ar11, qa11, Sa11, Na11, Ha11, Ga11⟩ := V10
  have hin11 : ¬ ((9 : Int32) < 0 ∨ cl11.slots.size ≤ ((9 : Int32)).toNatClampNeg) := inb_of Sa11 ⟨by decide, by decide⟩
  obtain ⟨T11, h11, X11, e11, W11, st11⟩ := stJ X10 hx hZ e10 Ar11 (j := (9 : Int32)) hin11 (g := (mkF m 133 #[.val (.int p0), .val (.long q1), .second, .val (.int p2), .val (.int sc), .val (.ref ux), .val (.long lim), .second, .val (.long lw), .second, .val (.int rq), .unset, .unset, .unset, .unset, .unset] [(.long (1000000000 : Int64)), (.int (9 : Int32)), (.ref tb), (.ref tb)])) rfl rfl (hb hby at_133)
  have V11 := Arv.set Ar11 qa11 Sa11 Na11 Ha11 Ga11 rfl W11 9 rfl (Nat.le_of_ble_eq_true rfl)
  have N11 := Fr.snoc X11 N10 g_tb
  refine Onw.go st11 ?_
  show Onw p e below _ (T11.setTop (mkF m 134 #[.val (.int p0), .val (.long q1), .second, .val (.int p2), .val (.int sc), .val (.ref ux), .val (.long lim), .second, .val (.long lw), .second, .val (.int rq), .unset, .unset, .unset, .unset, .unset] [(.ref tb)]))
  have XX10 := own_extk XX9 (Keep.of_wr W11) gtb
  refine Onw.go (fun _ kt => XS.dup X11.here hx rfl (hb hby at_134) rfl rfl kt) ?_
  show Onw p e below _ (T11.setTop (mkF m 135 #[.val (.int p0), .val (.long q1), .second, .val (.int p2), .val (.int sc), .val (.ref ux), .val (.long lim), .second, .val (.long lw), .second, .val (.int rq), .unset, .unset, .unset, .unset, .unset] [(.ref tb), (.ref tb)]))
  refine Onw.go (fun _ kt => XS.bipush X11.here hx rfl (hb hby at_135) kt) ?_
  show Onw p e below _ (T11.setTop (mkF m 137 #[.val (.int p0), .val (.long q1), .second, .val (.int p2), .val (.int sc), .val (.ref ux), .val (.long lim), .second, .val (.long lw), .second, .val (.int rq), .unset, .unset, .unset, .unset, .unset] [(.int (10 : Int32)), (.ref tb), (.ref tb)]))
  refine Onw.go (X11.ldc2Long hx hown (mvT hZ (hw _ (own_mg (i := 16) rfl))) (g := (mkF m 137 #[.val (.int p0), .val (.long q1), .second, .val (.int p2), .val (.int sc), .val (.ref ux), .val (.long lim), .second, .val (.long lw), .second, .val (.int rq), .unset, .unset, .unset, .unset, .unset] [(.int (10 : Int32)), (.ref tb), (.ref tb)])) rfl (hb hby at_137)) ?_
  show Onw p e below _ (T11.setTop (mkF m 140 #[.val (.int p0), .val (.long q1), .second, .val (.int p2), .val (.int sc), .val (.ref ux), .val (.long lim), .second, .val (.long lw), .second, .val (.int rq), .unset, .unset, .unset, .unset, .unset] [(.long (10000000000 : Int64)), (.int (10 : Int32)), (.ref tb), (.ref tb)]))
  obtain ⟨cl12, Ar12, qa12, Sa12, Na12, Ha12, Ga12⟩ := V11
  have hin12 : ¬ ((10 : Int32) < 0 ∨ cl12.slots.size ≤ ((10 : Int32)).toNatClampNeg) := inb_of Sa12 ⟨by decide, by decide⟩
  obtain ⟨T12, h12, X12, e12, W12, st12⟩ := stJ X11 hx hZ e11 Ar12 (j := (10 : Int32)) hin12 (g := (mkF m 140 #[.val (.int p0), .val (.long q1), .second, .val (.int p2), .val (.int sc), .val (.ref ux), .val (.long lim), .second, .val (.long lw), .second, .val (.int rq), .unset, .unset, .unset, .unset, .unset] [(.long (10000000000 : Int64)), (.int (10 : Int32)), (.ref tb), (.ref tb)])) rfl rfl (hb hby at_140)
  have V12 := Arv.set Ar12 qa12 Sa12 Na12 Ha12 Ga12 rfl W12 10 rfl (Nat.le_of_ble_eq_true rfl)
  have N12 := Fr.snoc X12 N11 g_tb
  refine Onw.go st12 ?_
  show Onw p e below _ (T12.setTop (mkF m 141 #[.val (.int p0), .val (.long q1), .second, .val (.int p2), .val (.int sc), .val (.ref ux), .val (.long lim), .second, .val (.long lw), .second, .val (.int rq), .unset, .unset, .unset, .unset, .unset] [(.ref tb)]))
  have XX11 := own_extk XX10 (Keep.of_wr W12) gtb
  refine Onw.go (fun _ kt => XS.dup X12.here hx rfl (hb hby at_141) rfl rfl kt) ?_
  show Onw p e below _ (T12.setTop (mkF m 142 #[.val (.int p0), .val (.long q1), .second, .val (.int p2), .val (.int sc), .val (.ref ux), .val (.long lim), .second, .val (.long lw), .second, .val (.int rq), .unset, .unset, .unset, .unset, .unset] [(.ref tb), (.ref tb)]))
  refine Onw.go (fun _ kt => XS.bipush X12.here hx rfl (hb hby at_142) kt) ?_
  show Onw p e below _ (T12.setTop (mkF m 144 #[.val (.int p0), .val (.long q1), .second, .val (.int p2), .val (.int sc), .val (.ref ux), .val (.long lim), .second, .val (.long lw), .second, .val (.int rq), .unset, .unset, .unset, .unset, .unset] [(.int (11 : Int32)), (.ref tb), (.ref tb)]))
  refine Onw.go (X12.ldc2Long hx hown (mvT hZ (hw _ (own_mg (i := 17) rfl))) (g := (mkF m 144 #[.val (.int p0), .val (.long q1), .second, .val (.int p2), .val (.int sc), .val (.ref ux), .val (.long lim), .second, .val (.long lw), .second, .val (.int rq), .unset, .unset, .unset, .unset, .unset] [(.int (11 : Int32)), (.ref tb), (.ref tb)])) rfl (hb hby at_144)) ?_
  show Onw p e below _ (T12.setTop (mkF m 147 #[.val (.int p0), .val (.long q1), .second, .val (.int p2), .val (.int sc), .val (.ref ux), .val (.long lim), .second, .val (.long lw), .second, .val (.int rq), .unset, .unset, .unset, .unset, .unset] [(.long (100000000000 : Int64)), (.int (11 : Int32)), (.ref tb), (.ref tb)]))
  obtain ⟨cl13, Ar13, qa13, Sa13, Na13, Ha13, Ga13⟩ := V12
  have hin13 : ¬ ((11 : Int32) < 0 ∨ cl13.slots.size ≤ ((11 : Int32)).toNatClampNeg) := inb_of Sa13 ⟨by decide, by decide⟩
  obtain ⟨T13, h13, X13, e13, W13, st13⟩ := stJ X12 hx hZ e12 Ar13 (j := (11 : Int32)) hin13 (g := (mkF m 147 #[.val (.int p0), .val (.long q1), .second, .val (.int p2), .val (.int sc), .val (.ref ux), .val (.long lim), .second, .val (.long lw), .second, .val (.int rq), .unset, .unset, .unset, .unset, .unset] [(.long (100000000000 : Int64)), (.int (11 : Int32)), (.ref tb), (.ref tb)])) rfl rfl (hb hby at_147)
  have V13 := Arv.set Ar13 qa13 Sa13 Na13 Ha13 Ga13 rfl W13 11 rfl (Nat.le_of_ble_eq_true rfl)
  have N13 := Fr.snoc X13 N12 g_tb
  refine Onw.go st13 ?_
  show Onw p e below _ (T13.setTop (mkF m 148 #[.val (.int p0), .val (.long q1), .second, .val (.int p2), .val (.int sc), .val (.ref ux), .val (.long lim), .second, .val (.long lw), .second, .val (.int rq), .unset, .unset, .unset, .unset, .unset] [(.ref tb)]))
  have XX12 := own_extk XX11 (Keep.of_wr W13) gtb
  refine Onw.go (fun _ kt => XS.dup X13.here hx rfl (hb hby at_148) rfl rfl kt) ?_
  show Onw p e below _ (T13.setTop (mkF m 149 #[.val (.int p0), .val (.long q1), .second, .val (.int p2), .val (.int sc), .val (.ref ux), .val (.long lim), .second, .val (.long lw), .second, .val (.int rq), .unset, .unset, .unset, .unset, .unset] [(.ref tb), (.ref tb)]))
  refine Onw.go (fun _ kt => XS.bipush X13.here hx rfl (hb hby at_149) kt) ?_
  show Onw p e below _ (T13.setTop (mkF m 151 #[.val (.int p0), .val (.long q1), .second, .val (.int p2), .val (.int sc), .val (.ref ux), .val (.long lim), .second, .val (.long lw), .second, .val (.int rq), .unset, .unset, .unset, .unset, .unset] [(.int (12 : Int32)), (.ref tb), (.ref tb)]))
  refine Onw.go (X13.ldc2Long hx hown (mvT hZ (hw _ (own_mg (i := 18) rfl))) (g := (mkF m 151 #[.val (.int p0), .val (.long q1), .second, .val (.int p2), .val (.int sc), .val (.ref ux), .val (.long lim), .second, .val (.long lw), .second, .val (.int rq), .unset, .unset, .unset, .unset, .unset] [(.int (12 : Int32)), (.ref tb), (.ref tb)])) rfl (hb hby at_151)) ?_
  show Onw p e below _ (T13.setTop (mkF m 154 #[.val (.int p0), .val (.long q1), .second, .val (.int p2), .val (.int sc), .val (.ref ux), .val (.long lim), .second, .val (.long lw), .second, .val (.int rq), .unset, .unset, .unset, .unset, .unset] [(.long (1000000000000 : Int64)), (.int (12 : Int32)), (.ref tb), (.ref tb)]))
  obtain ⟨cl14, Ar14, qa14, Sa14, Na14, Ha14, Ga14⟩ := V13
  have hin14 : ¬ ((12 : Int32) < 0 ∨ cl14.slots.size ≤ ((12 : Int32)).toNatClampNeg) := inb_of Sa14 ⟨by decide, by decide⟩
  obtain ⟨T14, h14, X14, e14, W14, st14⟩ := stJ X13 hx hZ e13 Ar14 (j := (12 : Int32)) hin14 (g := (mkF m 154 #[.val (.int p0), .val (.long q1), .second, .val (.int p2), .val (.int sc), .val (.ref ux), .val (.long lim), .second, .val (.long lw), .second, .val (.int rq), .unset, .unset, .unset, .unset, .unset] [(.long (1000000000000 : Int64)), (.int (12 : Int32)), (.ref tb), (.ref tb)])) rfl rfl (hb hby at_154)
  have V14 := Arv.set Ar14 qa14 Sa14 Na14 Ha14 Ga14 rfl W14 12 rfl (Nat.le_of_ble_eq_true rfl)
  have N14 := Fr.snoc X14 N13 g_tb
  refine Onw.go st14 ?_
  show Onw p e below _ (T14.setTop (mkF m 155 #[.val (.int p0), .val (.long q1), .second, .val (.int p2), .val (.int sc), .val (.ref ux), .val (.long lim), .second, .val (.long lw), .second, .val (.int rq), .unset, .unset, .unset, .unset, .unset] [(.ref tb)]))
  have XX13 := own_extk XX12 (Keep.of_wr W14) gtb
  refine Onw.go (fun _ kt => XS.dup X14.here hx rfl (hb hby at_155) rfl rfl kt) ?_
  show Onw p e below _ (T14.setTop (mkF m 156 #[.val (.int p0), .val (.long q1), .second, .val (.int p2), .val (.int sc), .val (.ref ux), .val (.long lim), .second, .val (.long lw), .second, .val (.int rq), .unset, .unset, .unset, .unset, .unset] [(.ref tb), (.ref tb)]))
  refine Onw.go (fun _ kt => XS.bipush X14.here hx rfl (hb hby at_156) kt) ?_
  show Onw p e below _ (T14.setTop (mkF m 158 #[.val (.int p0), .val (.long q1), .second, .val (.int p2), .val (.int sc), .val (.ref ux), .val (.long lim), .second, .val (.long lw), .second, .val (.int rq), .unset, .unset, .unset, .unset, .unset] [(.int (13 : Int32)), (.ref tb), (.ref tb)]))
  refine Onw.go (X14.ldc2Long hx hown (mvT hZ (hw _ (own_mg (i := 19) rfl))) (g := (mkF m 158 #[.val (.int p0), .val (.long q1), .second, .val (.int p2), .val (.int sc), .val (.ref ux), .val (.long lim), .second, .val (.long lw), .second, .val (.int rq), .unset, .unset, .unset, .unset, .unset] [(.int (13 : Int32)), (.ref tb), (.ref tb)])) rfl (hb hby at_158)) ?_
  show Onw p e below _ (T14.setTop (mkF m 161 #[.val (.int p0), .val (.long q1), .second, .val (.int p2), .val (.int sc), .val (.ref ux), .val (.long lim), .second, .val (.long lw), .second, .val (.int rq), .unset, .unset, .unset, .unset, .unset] [(.long (10000000000000 : Int64)), (.int (13 : Int32)), (.ref tb), (.ref tb)]))
  obtain ⟨cl15, Ar15, qa15, Sa15, Na15, Ha15, Ga15⟩ := V14
  have hin15 : ¬ ((13 : Int32) < 0 ∨ cl15.slots.size ≤ ((13 : Int32)).toNatClampNeg) := inb_of Sa15 ⟨by decide, by decide⟩
  obtain ⟨T15, h15, X15, e15, W15, st15⟩ := stJ X14 hx hZ e14 Ar15 (j := (13 : Int32)) hin15 (g := (mkF m 161 #[.val (.int p0), .val (.long q1), .second, .val (.int p2), .val (.int sc), .val (.ref ux), .val (.long lim), .second, .val (.long lw), .second, .val (.int rq), .unset, .unset, .unset, .unset, .unset] [(.long (10000000000000 : Int64)), (.int (13 : Int32)), (.ref tb), (.ref tb)])) rfl rfl (hb hby at_161)
  have V15 := Arv.set Ar15 qa15 Sa15 Na15 Ha15 Ga15 rfl W15 13 rfl (Nat.le_of_ble_eq_true rfl)
  have N15 := Fr.snoc X15 N14 g_tb
  refine Onw.go st15 ?_
  show Onw p e below _ (T15.setTop (mkF m 162 #[.val (.int p0), .val (.long q1), .second, .val (.int p2), .val (.int sc), .val (.ref ux), .val (.long lim), .second, .val (.long lw), .second, .val (.int rq), .unset, .unset, .unset, .unset, .unset] [(.ref tb)]))
  have XX14 := own_extk XX13 (Keep.of_wr W15) gtb
  refine Onw.go (fun _ kt => XS.dup X15.here hx rfl (hb hby at_162) rfl rfl kt) ?_
  show Onw p e below _ (T15.setTop (mkF m 163 #[.val (.int p0), .val (.long q1), .second, .val (.int p2), .val (.int sc), .val (.ref ux), .val (.long lim), .second, .val (.long lw), .second, .val (.int rq), .unset, .unset, .unset, .unset, .unset] [(.ref tb), (.ref tb)]))
  refine Onw.go (fun _ kt => XS.bipush X15.here hx rfl (hb hby at_163) kt) ?_
  show Onw p e below _ (T15.setTop (mkF m 165 #[.val (.int p0), .val (.long q1), .second, .val (.int p2), .val (.int sc), .val (.ref ux), .val (.long lim), .second, .val (.long lw), .second, .val (.int rq), .unset, .unset, .unset, .unset, .unset] [(.int (14 : Int32)), (.ref tb), (.ref tb)]))
  refine Onw.go (X15.ldc2Long hx hown (mvT hZ (hw _ (own_mg (i := 20) rfl))) (g := (mkF m 165 #[.val (.int p0), .val (.long q1), .second, .val (.int p2), .val (.int sc), .val (.ref ux), .val (.long lim), .second, .val (.long lw), .second, .val (.int rq), .unset, .unset, .unset, .unset, .unset] [(.int (14 : Int32)), (.ref tb), (.ref tb)])) rfl (hb hby at_165)) ?_
  show Onw p e below _ (T15.setTop (mkF m 168 #[.val (.int p0), .val (.long q1), .second, .val (.int p2), .val (.int sc), .val (.ref ux), .val (.long lim), .second, .val (.long lw), .second, .val (.int rq), .unset, .unset, .unset, .unset, .unset] [(.long (100000000000000 : Int64)), (.int (14 : Int32)), (.ref tb), (.ref tb)]))
  obtain ⟨cl16, Ar16, qa16, Sa16, Na16, Ha16, Ga16⟩ := V15
  have hin16 : ¬ ((14 : Int32) < 0 ∨ cl16.slots.size ≤ ((14 : Int32)).toNatClampNeg) := inb_of Sa16 ⟨by decide, by decide⟩
  obtain ⟨T16, h16, X16, e16, W16, st16⟩ := stJ X15 hx hZ e15 Ar16 (j := (14 : Int32)) hin16 (g := (mkF m 168 #[.val (.int p0), .val (.long q1), .second, .val (.int p2), .val (.int sc), .val (.ref ux), .val (.long lim), .second, .val (.long lw), .second, .val (.int rq), .unset, .unset, .unset, .unset, .unset] [(.long (100000000000000 : Int64)), (.int (14 : Int32)), (.ref tb), (.ref tb)])) rfl rfl (hb hby at_168)
  have V16 := Arv.set Ar16 qa16 Sa16 Na16 Ha16 Ga16 rfl W16 14 rfl (Nat.le_of_ble_eq_true rfl)
  have N16 := Fr.snoc X16 N15 g_tb
  refine Onw.go st16 ?_
  show Onw p e below _ (T16.setTop (mkF m 169 #[.val (.int p0), .val (.long q1), .second, .val (.int p2), .val (.int sc), .val (.ref ux), .val (.long lim), .second, .val (.long lw), .second, .val (.int rq), .unset, .unset, .unset, .unset, .unset] [(.ref tb)]))
  have XX15 := own_extk XX14 (Keep.of_wr W16) gtb
  refine Onw.go (fun _ kt => XS.dup X16.here hx rfl (hb hby at_169) rfl rfl kt) ?_
  show Onw p e below _ (T16.setTop (mkF m 170 #[.val (.int p0), .val (.long q1), .second, .val (.int p2), .val (.int sc), .val (.ref ux), .val (.long lim), .second, .val (.long lw), .second, .val (.int rq), .unset, .unset, .unset, .unset, .unset] [(.ref tb), (.ref tb)]))
  refine Onw.go (fun _ kt => XS.bipush X16.here hx rfl (hb hby at_170) kt) ?_
  show Onw p e below _ (T16.setTop (mkF m 172 #[.val (.int p0), .val (.long q1), .second, .val (.int p2), .val (.int sc), .val (.ref ux), .val (.long lim), .second, .val (.long lw), .second, .val (.int rq), .unset, .unset, .unset, .unset, .unset] [(.int (15 : Int32)), (.ref tb), (.ref tb)]))
  refine Onw.go (X16.ldc2Long hx hown (mvT hZ (hw _ (own_mg (i := 21) rfl))) (g := (mkF m 172 #[.val (.int p0), .val (.long q1), .second, .val (.int p2), .val (.int sc), .val (.ref ux), .val (.long lim), .second, .val (.long lw), .second, .val (.int rq), .unset, .unset, .unset, .unset, .unset] [(.int (15 : Int32)), (.ref tb), (.ref tb)])) rfl (hb hby at_172)) ?_
  show Onw p e below _ (T16.setTop (mkF m 175 #[.val (.int p0), .val (.long q1), .second, .val (.int p2), .val (.int sc), .val (.ref ux), .val (.long lim), .second, .val (.long lw), .second, .val (.int rq), .unset, .unset, .unset, .unset, .unset] [(.long (1000000000000000 : Int64)), (.int (15 : Int32)), (.ref tb), (.ref tb)]))
  obtain ⟨cl17, Ar17, qa17, Sa17, Na17, Ha17, Ga17⟩ := V16
  have hin17 : ¬ ((15 : Int32) < 0 ∨ cl17.slots.size ≤ ((15 : Int32)).toNatClampNeg) := inb_of Sa17 ⟨by decide, by decide⟩
  obtain ⟨T17, h17, X17, e17, W17, st17⟩ := stJ X16 hx hZ e16 Ar17 (j := (15 : Int32)) hin17 (g := (mkF m 175 #[.val (.int p0), .val (.long q1), .second, .val (.int p2), .val (.int sc), .val (.ref ux), .val (.long lim), .second, .val (.long lw), .second, .val (.int rq), .unset, .unset, .unset, .unset, .unset] [(.long (1000000000000000 : Int64)), (.int (15 : Int32)), (.ref tb), (.ref tb)])) rfl rfl (hb hby at_175)
  have V17 := Arv.set Ar17 qa17 Sa17 Na17 Ha17 Ga17 rfl W17 15 rfl (Nat.le_of_ble_eq_true rfl)
  have N17 := Fr.snoc X17 N16 g_tb
  refine Onw.go st17 ?_
  show Onw p e below _ (T17.setTop (mkF m 176 #[.val (.int p0), .val (.long q1), .second, .val (.int p2), .val (.int sc), .val (.ref ux), .val (.long lim), .second, .val (.long lw), .second, .val (.int rq), .unset, .unset, .unset, .unset, .unset] [(.ref tb)]))
  have XX16 := own_extk XX15 (Keep.of_wr W17) gtb
  refine Onw.go (fun _ kt => XS.dup X17.here hx rfl (hb hby at_176) rfl rfl kt) ?_
  show Onw p e below _ (T17.setTop (mkF m 177 #[.val (.int p0), .val (.long q1), .second, .val (.int p2), .val (.int sc), .val (.ref ux), .val (.long lim), .second, .val (.long lw), .second, .val (.int rq), .unset, .unset, .unset, .unset, .unset] [(.ref tb), (.ref tb)]))
  refine Onw.go (fun _ kt => XS.bipush X17.here hx rfl (hb hby at_177) kt) ?_
  show Onw p e below _ (T17.setTop (mkF m 179 #[.val (.int p0), .val (.long q1), .second, .val (.int p2), .val (.int sc), .val (.ref ux), .val (.long lim), .second, .val (.long lw), .second, .val (.int rq), .unset, .unset, .unset, .unset, .unset] [(.int (16 : Int32)), (.ref tb), (.ref tb)]))
  refine Onw.go (X17.ldc2Long hx hown (mvT hZ (hw _ (own_mg (i := 22) rfl))) (g := (mkF m 179 #[.val (.int p0), .val (.long q1), .second, .val (.int p2), .val (.int sc), .val (.ref ux), .val (.long lim), .second, .val (.long lw), .second, .val (.int rq), .unset, .unset, .unset, .unset, .unset] [(.int (16 : Int32)), (.ref tb), (.ref tb)])) rfl (hb hby at_179)) ?_
  show Onw p e below _ (T17.setTop (mkF m 182 #[.val (.int p0), .val (.long q1), .second, .val (.int p2), .val (.int sc), .val (.ref ux), .val (.long lim), .second, .val (.long lw), .second, .val (.int rq), .unset, .unset, .unset, .unset, .unset] [(.long (10000000000000000 : Int64)), (.int (16 : Int32)), (.ref tb), (.ref tb)]))
  obtain ⟨cl18, Ar18, qa18, Sa18, Na18, Ha18, Ga18⟩ := V17
  have hin18 : ¬ ((16 : Int32) < 0 ∨ cl18.slots.size ≤ ((16 : Int32)).toNatClampNeg) := inb_of Sa18 ⟨by decide, by decide⟩
  obtain ⟨T18, h18, X18, e18, W18, st18⟩ := stJ X17 hx hZ e17 Ar18 (j := (16 : Int32)) hin18 (g := (mkF m 182 #[.val (.int p0), .val (.long q1), .second, .val (.int p2), .val (.int sc), .val (.ref ux), .val (.long lim), .second, .val (.long lw), .second, .val (.int rq), .unset, .unset, .unset, .unset, .unset] [(.long (10000000000000000 : Int64)), (.int (16 : Int32)), (.ref tb), (.ref tb)])) rfl rfl (hb hby at_182)
  have V18 := Arv.set Ar18 qa18 Sa18 Na18 Ha18 Ga18 rfl W18 16 rfl (Nat.le_of_ble_eq_true rfl)
  have N18 := Fr.snoc X18 N17 g_tb
  refine Onw.go st18 ?_
  show Onw p e below _ (T18.setTop (mkF m 183 #[.val (.int p0), .val (.long q1), .second, .val (.int p2), .val (.int sc), .val (.ref ux), .val (.long lim), .second, .val (.long lw), .second, .val (.int rq), .unset, .unset, .unset, .unset, .unset] [(.ref tb)]))
  have XX17 := own_extk XX16 (Keep.of_wr W18) gtb
  refine Onw.go (fun _ kt => XS.dup X18.here hx rfl (hb hby at_183) rfl rfl kt) ?_
  show Onw p e below _ (T18.setTop (mkF m 184 #[.val (.int p0), .val (.long q1), .second, .val (.int p2), .val (.int sc), .val (.ref ux), .val (.long lim), .second, .val (.long lw), .second, .val (.int rq), .unset, .unset, .unset, .unset, .unset] [(.ref tb), (.ref tb)]))
  refine Onw.go (fun _ kt => XS.bipush X18.here hx rfl (hb hby at_184) kt) ?_
  show Onw p e below _ (T18.setTop (mkF m 186 #[.val (.int p0), .val (.long q1), .second, .val (.int p2), .val (.int sc), .val (.ref ux), .val (.long lim), .second, .val (.long lw), .second, .val (.int rq), .unset, .unset, .unset, .unset, .unset] [(.int (17 : Int32)), (.ref tb), (.ref tb)]))
  refine Onw.go (X18.ldc2Long hx hown (mvT hZ (hw _ (own_mg (i := 23) rfl))) (g := (mkF m 186 #[.val (.int p0), .val (.long q1), .second, .val (.int p2), .val (.int sc), .val (.ref ux), .val (.long lim), .second, .val (.long lw), .second, .val (.int rq), .unset, .unset, .unset, .unset, .unset] [(.int (17 : Int32)), (.ref tb), (.ref tb)])) rfl (hb hby at_186)) ?_
  show Onw p e below _ (T18.setTop (mkF m 189 #[.val (.int p0), .val (.long q1), .second, .val (.int p2), .val (.int sc), .val (.ref ux), .val (.long lim), .second, .val (.long lw), .second, .val (.int rq), .unset, .unset, .unset, .unset, .unset] [(.long (100000000000000000 : Int64)), (.int (17 : Int32)), (.ref tb), (.ref tb)]))
  obtain ⟨cl19, Ar19, qa19, Sa19, Na19, Ha19, Ga19⟩ := V18
  have hin19 : ¬ ((17 : Int32) < 0 ∨ cl19.slots.size ≤ ((17 : Int32)).toNatClampNeg) := inb_of Sa19 ⟨by decide, by decide⟩
  obtain ⟨T19, h19, X19, e19, W19, st19⟩ := stJ X18 hx hZ e18 Ar19 (j := (17 : Int32)) hin19 (g := (mkF m 189 #[.val (.int p0), .val (.long q1), .second, .val (.int p2), .val (.int sc), .val (.ref ux), .val (.long lim), .second, .val (.long lw), .second, .val (.int rq), .unset, .unset, .unset, .unset, .unset] [(.long (100000000000000000 : Int64)), (.int (17 : Int32)), (.ref tb), (.ref tb)])) rfl rfl (hb hby at_189)
  have V19 := Arv.set Ar19 qa19 Sa19 Na19 Ha19 Ga19 rfl W19 17 rfl (Nat.le_of_ble_eq_true rfl)
  have N19 := Fr.snoc X19 N18 g_tb
  refine Onw.go st19 ?_
  show Onw p e below _ (T19.setTop (mkF m 190 #[.val (.int p0), .val (.long q1), .second, .val (.int p2), .val (.int sc), .val (.ref ux), .val (.long lim), .second, .val (.long lw), .second, .val (.int rq), .unset, .unset, .unset, .unset, .unset] [(.ref tb)]))
  have XX18 := own_extk XX17 (Keep.of_wr W19) gtb
  refine Onw.go (fun _ kt => XS.dup X19.here hx rfl (hb hby at_190) rfl rfl kt) ?_
  show Onw p e below _ (T19.setTop (mkF m 191 #[.val (.int p0), .val (.long q1), .second, .val (.int p2), .val (.int sc), .val (.ref ux), .val (.long lim), .second, .val (.long lw), .second, .val (.int rq), .unset, .unset, .unset, .unset, .unset] [(.ref tb), (.ref tb)]))
  refine Onw.go (fun _ kt => XS.bipush X19.here hx rfl (hb hby at_191) kt) ?_
  show Onw p e below _ (T19.setTop (mkF m 193 #[.val (.int p0), .val (.long q1), .second, .val (.int p2), .val (.int sc), .val (.ref ux), .val (.long lim), .second, .val (.long lw), .second, .val (.int rq), .unset, .unset, .unset, .unset, .unset] [(.int (18 : Int32)), (.ref tb), (.ref tb)]))
  refine Onw.go (X19.ldc2Long hx hown (mvT hZ (hw _ (own_mg (i := 24) rfl))) (g := (mkF m 193 #[.val (.int p0), .val (.long q1), .second, .val (.int p2), .val (.int sc), .val (.ref ux), .val (.long lim), .second, .val (.long lw), .second, .val (.int rq), .unset, .unset, .unset, .unset, .unset] [(.int (18 : Int32)), (.ref tb), (.ref tb)])) rfl (hb hby at_193)) ?_
  show Onw p e below _ (T19.setTop (mkF m 196 #[.val (.int p0), .val (.long q1), .second, .val (.int p2), .val (.int sc), .val (.ref ux), .val (.long lim), .second, .val (.long lw), .second, .val (.int rq), .unset, .unset, .unset, .unset, .unset] [(.long (1000000000000000000 : Int64)), (.int (18 : Int32)), (.ref tb), (.ref tb)]))
  obtain ⟨cl20, Ar20, qa20, Sa20, Na20, Ha20, Ga20⟩ := V19
  have hin20 : ¬ ((18 : Int32) < 0 ∨ cl20.slots.size ≤ ((18 : Int32)).toNatClampNeg) := inb_of Sa20 ⟨by decide, by decide⟩
  obtain ⟨T20, h20, X20, e20, W20, st20⟩ := stJ X19 hx hZ e19 Ar20 (j := (18 : Int32)) hin20 (g := (mkF m 196 #[.val (.int p0), .val (.long q1), .second, .val (.int p2), .val (.int sc), .val (.ref ux), .val (.long lim), .second, .val (.long lw), .second, .val (.int rq), .unset, .unset, .unset, .unset, .unset] [(.long (1000000000000000000 : Int64)), (.int (18 : Int32)), (.ref tb), (.ref tb)])) rfl rfl (hb hby at_196)
  have V20 := Arv.set Ar20 qa20 Sa20 Na20 Ha20 Ga20 rfl W20 18 rfl (Nat.le_of_ble_eq_true rfl)
  have N20 := Fr.snoc X20 N19 g_tb
  refine Onw.go st20 ?_
  show Onw p e below _ (T20.setTop (mkF m 197 #[.val (.int p0), .val (.long q1), .second, .val (.int p2), .val (.int sc), .val (.ref ux), .val (.long lim), .second, .val (.long lw), .second, .val (.int rq), .unset, .unset, .unset, .unset, .unset] [(.ref tb)]))
  have XX19 := own_extk XX18 (Keep.of_wr W20) gtb
  have TB0 : own_TB Z h20 tb := own_TBof (k := k1) V20
  refine Onw.go (fun _ kt => XS.astore X20.here hx rfl (hb hby at_197) rfl rfl (l' := #[.val (.int p0), .val (.long q1), .second, .val (.int p2), .val (.int sc), .val (.ref ux), .val (.long lim), .second, .val (.long lw), .second, .val (.int rq), .val (.ref tb), .unset, .unset, .unset, .unset]) rfl kt) ?_
  show Onw p e below _ (T20.setTop (mkF m 199 #[.val (.int p0), .val (.long q1), .second, .val (.int p2), .val (.int sc), .val (.ref ux), .val (.long lim), .second, .val (.long lw), .second, .val (.int rq), .val (.ref tb), .unset, .unset, .unset, .unset] []))
  exact hK _ _ _ tb X20 e20 N20 XX19 TB0
theorem ef_0 (m : MethodId) (x0 : Int32) (x1 : Int64) (x2 : Int32) : entryFrame m #[(.int x0), (.long x1), (.int x2)] maxLocals = mkF m 0 #[.val (.int x0), .val (.long x1), .second, .val (.int x2), .unset, .unset, .unset, .unset, .unset, .unset, .unset, .unset, .unset, .unset, .unset, .unset] [] := by first | (simp [entryFrame, mkF, argsToLocals, Value.category, maxLocals]; done) | rfl
def Q_rm0 (Z : State) (p0 : Int32) (q1 : Int64) (p2 : Int32) (zc : Int32) (fm : Value) (o1 o2 : Addr) (uS rS tS : Addr) (kS : ClassId) (uM rM tM : Addr) (kM : ClassId) (h0 : Heap) (n0 : Nat) (v : Option Value) (h : Heap) (L : List Loc) : Prop := v = some (.int (1 : Int32)) ∧ Fr n0 L
set_option maxRecDepth 65536 in
set_option maxHeartbeats 40000000 in
theorem rm0 (l : Launch) (Z : State) (a0 : Array Value) (hw : ∀ d ∈ tables_1, d.before a0 Z = true) (ws : List Jvm.Cond) (p0 : Int32) (q1 : Int64) (p2 : Int32) (zc : Int32) (fm : Value) (o1 o2 : Addr) (uS rS tS : Addr) (kS : ClassId) (uM rM tM : Addr) (kM : ClassId) (h0 : Heap) (n0 : Nat) (Z0 : n0 ≤ h0.size) (S_C : Sta Z h0 "java/lang/String" "COMPACT_STRINGS" "Z" (.int zc)) (hz : ¬ zc = 0) (S_F : Sta Z h0 "jdk/internal/util/Preconditions" "SIOOBE_FORMATTER" "Ljava/util/function/BiFunction;" fm) (rf : fm.isRef = true) (S_1 : Sta Z h0 "java/lang/Integer" "DigitOnes" "[B" (.ref o1)) (S_2 : Sta Z h0 "java/lang/Integer" "DigitTens" "[B" (.ref o2)) (D_1 : own_DG Z h0 o1 (fun i => i % 10)) (D_2 : own_DG Z h0 o2 (fun i => i / 10)) (lo1 : o1 < n0) (lo2 : o2 < n0) (S_S : Sta Z h0 "com/example/vigil_cache/vigilcache/HotKeyRule$WindowUnit" "SECONDS" "Lcom/example/vigil_cache/vigilcache/HotKeyRule$WindowUnit;" (.ref uS)) (FM_S : Fld Z h0 uS "com/example/vigil_cache/vigilcache/HotKeyRule$WindowUnit" "millis" "J" (.long (1000 : Int64))) (FS_S : Fld Z h0 uS "com/example/vigil_cache/vigilcache/HotKeyRule$WindowUnit" "suffix" "Ljava/lang/String;" (.ref rS)) (ST_S : own_ST Z h0 rS tS) (VT_S : Arv Z h0 tS kS .byte (Int32.ofNat ([(115 : Int32)]).length) (([(115 : Int32)]).map Value.int) (.int (0 : Int32))) (lr_S : rS < n0) (lt_S : tS < n0) (S_M : Sta Z h0 "com/example/vigil_cache/vigilcache/HotKeyRule$WindowUnit" "MILLISECONDS" "Lcom/example/vigil_cache/vigilcache/HotKeyRule$WindowUnit;" (.ref uM)) (FM_M : Fld Z h0 uM "com/example/vigil_cache/vigilcache/HotKeyRule$WindowUnit" "millis" "J" (.long (1 : Int64))) (FS_M : Fld Z h0 uM "com/example/vigil_cache/vigilcache/HotKeyRule$WindowUnit" "suffix" "Ljava/lang/String;" (.ref rM)) (ST_M : own_ST Z h0 rM tM) (VT_M : Arv Z h0 tM kM .byte (Int32.ofNat ([(109 : Int32), (115 : Int32)]).length) (([(109 : Int32), (115 : Int32)]).map Value.int) (.int (0 : Int32))) (lr_M : rM < n0) (lt_M : tM < n0) :
    MetFree l x (head1 (Jvm.Cond.code x code maxLocals ret :: ws) room_1) (fun a U => a = #[(.int p0), (.long q1), (.int p2)] ∧ Z.Warmed39 U.vm ∧ U.heap = h0 ∧ U = Z) (fun _ _ _ _ _ => True) (fun _ U o U' => ∃ v L, o = .returned v ∧ Q_rm0 Z p0 q1 p2 zc fm o1 o2 uS rS tS kS uM rM tM kM h0 n0 v U'.heap L ∧ ReturnedEndW U o U' L room_1.cells room_1.slots) := by
  refine MetFree.of_bodySF (plainFor_of_name pn_11) hisR ?_
  intro p e s m args below meth c s₁ Bd hml0 hP hK
  obtain ⟨rfl, hZ, hh, hUZ⟩ := hP
  have hx := Bd.exec
  have hby := Bd.bytes
  have hml : c.maxLocals = 16 := hml0
  have hown : s.vm.findClass "com/example/vigil_cache/vigilcache/HotKeyRuleWindowAsWrittenPinLaw" = some m.cls := findClass_of_methodNamed Bd.named
  have hnm := (name_of_methodNamed Bd.named Bd.method).1
  have X0 : Stand p l e room_1 s m #[(.int p0), (.long q1), (.int p2)] below meth c s₁ [] 0 0 := Stand.of_body Bd
  have e0 : s₁.heap = h0 := by rw [← hh, Bd.state]; rfl
  have N0 := Fr.nil n0
  refine Onw.of (Onw.go (fun _ k => castTop (ef_0 m p0 q1 p2) k) ?_)
  show Onw p e below _ (s₁.setTop (mkF m 0 #[.val (.int p0), .val (.long q1), .second, .val (.int p2), .unset, .unset, .unset, .unset, .unset, .unset, .unset, .unset, .unset, .unset, .unset, .unset] []))
  refine Onw.go (fun _ kt => XS.iloadN X0.here hx rfl (hb hby at_0) rfl kt) ?_
  show Onw p e below _ (s₁.setTop (mkF m 1 #[.val (.int p0), .val (.long q1), .second, .val (.int p2), .unset, .unset, .unset, .unset, .unset, .unset, .unset, .unset, .unset, .unset, .unset, .unset] [(.int p2)]))
  refine Onw.go (fun _ kt => XS.iconst X0.here hx rfl (hb hby at_1) kt) ?_
  show Onw p e below _ (s₁.setTop (mkF m 2 #[.val (.int p0), .val (.long q1), .second, .val (.int p2), .unset, .unset, .unset, .unset, .unset, .unset, .unset, .unset, .unset, .unset, .unset, .unset] [(.int (1 : Int32)), (.int p2)]))
  refine Onw.go (fun _ kt => XS.iand X0.here hx rfl (hb hby at_2) rfl kt) ?_
  show Onw p e below _ (s₁.setTop (mkF m 3 #[.val (.int p0), .val (.long q1), .second, .val (.int p2), .unset, .unset, .unset, .unset, .unset, .unset, .unset, .unset, .unset, .unset, .unset, .unset] [(.int (p2 &&& (1 : Int32)))]))
  by_cases hu : (p2 &&& (1 : Int32)) = (0 : Int32)
  · refine Onw.go (fun _ kt => XS.ifYes X0.here hx rfl (pc0 := 3) (pc' := 10) rfl (hb hby at_3) rfl ((if0 _ _).trans (teq (hu : (p2 &&& (1 : Int32)) = (0 : Int32))).1) (by decide) (by decide) kt) ?_
    show Onw p e below _ (s₁.setTop (mkF m 10 #[.val (.int p0), .val (.long q1), .second, .val (.int p2), .unset, .unset, .unset, .unset, .unset, .unset, .unset, .unset, .unset, .unset, .unset, .unset] []))
    refine Onw.go (fun _ kt => XS.iconst X0.here hx rfl (hb hby at_10) kt) ?_
    show Onw p e below _ (s₁.setTop (mkF m 11 #[.val (.int p0), .val (.long q1), .second, .val (.int p2), .unset, .unset, .unset, .unset, .unset, .unset, .unset, .unset, .unset, .unset, .unset, .unset] [(.int (0 : Int32))]))
    refine Onw.go (fun _ kt => XS.istore X0.here hx rfl (hb hby at_11) rfl (l' := #[.val (.int p0), .val (.long q1), .second, .val (.int p2), .val (.int (0 : Int32)), .unset, .unset, .unset, .unset, .unset, .unset, .unset, .unset, .unset, .unset, .unset]) rfl kt) ?_
    show Onw p e below _ (s₁.setTop (mkF m 13 #[.val (.int p0), .val (.long q1), .second, .val (.int p2), .val (.int (0 : Int32)), .unset, .unset, .unset, .unset, .unset, .unset, .unset, .unset, .unset, .unset, .unset] []))
    refine Onw.go (fun _ kt => XS.iload X0.here hx rfl (hb hby at_13) rfl kt) ?_
    show Onw p e below _ (s₁.setTop (mkF m 15 #[.val (.int p0), .val (.long q1), .second, .val (.int p2), .val (.int (0 : Int32)), .unset, .unset, .unset, .unset, .unset, .unset, .unset, .unset, .unset, .unset, .unset] [(.int (0 : Int32))]))
    refine Onw.go (fun _ kt => XS.ifYes X0.here hx rfl (pc0 := 15) (pc' := 24) rfl (hb hby at_15) rfl ((if0 _ _).trans (teq (rfl : (0 : Int32) = (0 : Int32))).1) (by decide) (by decide) kt) ?_
    show Onw p e below _ (s₁.setTop (mkF m 24 #[.val (.int p0), .val (.long q1), .second, .val (.int p2), .val (.int (0 : Int32)), .unset, .unset, .unset, .unset, .unset, .unset, .unset, .unset, .unset, .unset, .unset] []))
    obtain ⟨T1, X1, e1, st1⟩ := getS2 X0 hx hZ hown (host := "") (Or.inl (hw _ (own_mg (i := 236) rfl))) Via.refl e0 S_M (g := (mkF m 24 #[.val (.int p0), .val (.long q1), .second, .val (.int p2), .val (.int (0 : Int32)), .unset, .unset, .unset, .unset, .unset, .unset, .unset, .unset, .unset, .unset, .unset] [])) rfl (hb hby at_24)
    refine Onw.go st1 ?_
    show Onw p e below _ (T1.setTop (mkF m 27 #[.val (.int p0), .val (.long q1), .second, .val (.int p2), .val (.int (0 : Int32)), .unset, .unset, .unset, .unset, .unset, .unset, .unset, .unset, .unset, .unset, .unset] [(.ref uM)]))
    refine Onw.go (fun _ kt => XS.astore X1.here hx rfl (hb hby at_27) rfl rfl (l' := #[.val (.int p0), .val (.long q1), .second, .val (.int p2), .val (.int (0 : Int32)), .val (.ref uM), .unset, .unset, .unset, .unset, .unset, .unset, .unset, .unset, .unset, .unset]) rfl kt) ?_
    show Onw p e below _ (T1.setTop (mkF m 29 #[.val (.int p0), .val (.long q1), .second, .val (.int p2), .val (.int (0 : Int32)), .val (.ref uM), .unset, .unset, .unset, .unset, .unset, .unset, .unset, .unset, .unset, .unset] []))
    refine Onw.go (fun _ kt => XS.iload X1.here hx rfl (hb hby at_29) rfl kt) ?_
    show Onw p e below _ (T1.setTop (mkF m 31 #[.val (.int p0), .val (.long q1), .second, .val (.int p2), .val (.int (0 : Int32)), .val (.ref uM), .unset, .unset, .unset, .unset, .unset, .unset, .unset, .unset, .unset, .unset] [(.int (0 : Int32))]))
    refine Onw.go (fun _ kt => XS.ifYes X1.here hx rfl (pc0 := 31) (pc' := 40) rfl (hb hby at_31) rfl ((if0 _ _).trans (teq (rfl : (0 : Int32) = (0 : Int32))).1) (by decide) (by decide) kt) ?_
    show Onw p e below _ (T1.setTop (mkF m 40 #[.val (.int p0), .val (.long q1), .second, .val (.int p2), .val (.int (0 : Int32)), .val (.ref uM), .unset, .unset, .unset, .unset, .unset, .unset, .unset, .unset, .unset, .unset] []))
    refine Onw.go (X1.ldc2Long hx hown (mvT hZ (hw _ (own_mg (i := 4) rfl))) (g := (mkF m 40 #[.val (.int p0), .val (.long q1), .second, .val (.int p2), .val (.int (0 : Int32)), .val (.ref uM), .unset, .unset, .unset, .unset, .unset, .unset, .unset, .unset, .unset, .unset] [])) rfl (hb hby at_40)) ?_
    show Onw p e below _ (T1.setTop (mkF m 43 #[.val (.int p0), .val (.long q1), .second, .val (.int p2), .val (.int (0 : Int32)), .val (.ref uM), .unset, .unset, .unset, .unset, .unset, .unset, .unset, .unset, .unset, .unset] [(.long (9223372036854775807 : Int64))]))
    refine Onw.go (fun _ kt => XS.lstore X1.here hx rfl (hb hby at_43) rfl (l' := #[.val (.int p0), .val (.long q1), .second, .val (.int p2), .val (.int (0 : Int32)), .val (.ref uM), .val (.long (9223372036854775807 : Int64)), .second, .unset, .unset, .unset, .unset, .unset, .unset, .unset, .unset]) rfl kt) ?_
    show Onw p e below _ (T1.setTop (mkF m 45 #[.val (.int p0), .val (.long q1), .second, .val (.int p2), .val (.int (0 : Int32)), .val (.ref uM), .val (.long (9223372036854775807 : Int64)), .second, .unset, .unset, .unset, .unset, .unset, .unset, .unset, .unset] []))
    refine Onw.go (fun _ kt => XS.lconst X1.here hx rfl (hb hby at_45) kt) ?_
    show Onw p e below _ (T1.setTop (mkF m 46 #[.val (.int p0), .val (.long q1), .second, .val (.int p2), .val (.int (0 : Int32)), .val (.ref uM), .val (.long (9223372036854775807 : Int64)), .second, .unset, .unset, .unset, .unset, .unset, .unset, .unset, .unset] [(.long (1 : Int64))]))
    refine Onw.go (fun _ kt => XS.lloadN X1.here hx rfl (hb hby at_46) rfl kt) ?_
    show Onw p e below _ (T1.setTop (mkF m 47 #[.val (.int p0), .val (.long q1), .second, .val (.int p2), .val (.int (0 : Int32)), .val (.ref uM), .val (.long (9223372036854775807 : Int64)), .second, .unset, .unset, .unset, .unset, .unset, .unset, .unset, .unset] [(.long q1), (.long (1 : Int64))]))
    refine Onw.go (X1.ldc2Long hx hown (mvT hZ (hw _ (own_mg (i := 4) rfl))) (g := (mkF m 47 #[.val (.int p0), .val (.long q1), .second, .val (.int p2), .val (.int (0 : Int32)), .val (.ref uM), .val (.long (9223372036854775807 : Int64)), .second, .unset, .unset, .unset, .unset, .unset, .unset, .unset, .unset] [(.long q1), (.long (1 : Int64))])) rfl (hb hby at_47)) ?_
    show Onw p e below _ (T1.setTop (mkF m 50 #[.val (.int p0), .val (.long q1), .second, .val (.int p2), .val (.int (0 : Int32)), .val (.ref uM), .val (.long (9223372036854775807 : Int64)), .second, .unset, .unset, .unset, .unset, .unset, .unset, .unset, .unset] [(.long (9223372036854775807 : Int64)), (.long q1), (.long (1 : Int64))]))
    refine Onw.go (fun _ kt => XS.land X1.here hx rfl (hb hby at_50) rfl kt) ?_
    show Onw p e below _ (T1.setTop (mkF m 51 #[.val (.int p0), .val (.long q1), .second, .val (.int p2), .val (.int (0 : Int32)), .val (.ref uM), .val (.long (9223372036854775807 : Int64)), .second, .unset, .unset, .unset, .unset, .unset, .unset, .unset, .unset] [(.long (q1 &&& (9223372036854775807 : Int64))), (.long (1 : Int64))]))
    refine Onw.go (fun _ kt => XS.lload X1.here hx rfl (hb hby at_51) rfl kt) ?_
    show Onw p e below _ (T1.setTop (mkF m 53 #[.val (.int p0), .val (.long q1), .second, .val (.int p2), .val (.int (0 : Int32)), .val (.ref uM), .val (.long (9223372036854775807 : Int64)), .second, .unset, .unset, .unset, .unset, .unset, .unset, .unset, .unset] [(.long (9223372036854775807 : Int64)), (.long (q1 &&& (9223372036854775807 : Int64))), (.long (1 : Int64))]))
    refine Onw.go (fun _ kt => XS.lrem X1.here hx rfl (hb hby at_53) rfl (by decide) (by rw [lrem_mod]; exact kt)) ?_
    show Onw p e below _ (T1.setTop (mkF m 54 #[.val (.int p0), .val (.long q1), .second, .val (.int p2), .val (.int (0 : Int32)), .val (.ref uM), .val (.long (9223372036854775807 : Int64)), .second, .unset, .unset, .unset, .unset, .unset, .unset, .unset, .unset] [(.long ((q1 &&& (9223372036854775807 : Int64)) % (9223372036854775807 : Int64))), (.long (1 : Int64))]))
    refine Onw.go (fun _ kt => XS.ladd X1.here hx rfl (hb hby at_54) rfl kt) ?_
    show Onw p e below _ (T1.setTop (mkF m 55 #[.val (.int p0), .val (.long q1), .second, .val (.int p2), .val (.int (0 : Int32)), .val (.ref uM), .val (.long (9223372036854775807 : Int64)), .second, .unset, .unset, .unset, .unset, .unset, .unset, .unset, .unset] [(.long ((1 : Int64) + ((q1 &&& (9223372036854775807 : Int64)) % (9223372036854775807 : Int64))))]))
    obtain ⟨lw, hlw⟩ : ∃ own_z, own_z = ((1 : Int64) + ((q1 &&& (9223372036854775807 : Int64)) % (9223372036854775807 : Int64))) := ⟨_, rfl⟩
    rw [← hlw]
    show Onw p e below _ (T1.setTop (mkF m 55 #[.val (.int p0), .val (.long q1), .second, .val (.int p2), .val (.int (0 : Int32)), .val (.ref uM), .val (.long (9223372036854775807 : Int64)), .second, .unset, .unset, .unset, .unset, .unset, .unset, .unset, .unset] [(.long lw)]))
    refine Onw.go (fun _ kt => XS.lstore X1.here hx rfl (hb hby at_55) rfl (l' := #[.val (.int p0), .val (.long q1), .second, .val (.int p2), .val (.int (0 : Int32)), .val (.ref uM), .val (.long (9223372036854775807 : Int64)), .second, .val (.long lw), .second, .unset, .unset, .unset, .unset, .unset, .unset]) rfl kt) ?_
    show Onw p e below _ (T1.setTop (mkF m 57 #[.val (.int p0), .val (.long q1), .second, .val (.int p2), .val (.int (0 : Int32)), .val (.ref uM), .val (.long (9223372036854775807 : Int64)), .second, .val (.long lw), .second, .unset, .unset, .unset, .unset, .unset, .unset] []))
    refine Onw.go (fun _ kt => XS.iconst X1.here hx rfl (hb hby at_57) kt) ?_
    show Onw p e below _ (T1.setTop (mkF m 58 #[.val (.int p0), .val (.long q1), .second, .val (.int p2), .val (.int (0 : Int32)), .val (.ref uM), .val (.long (9223372036854775807 : Int64)), .second, .val (.long lw), .second, .unset, .unset, .unset, .unset, .unset, .unset] [(.int (1 : Int32))]))
    refine Onw.go (fun _ kt => XS.iloadN X1.here hx rfl (hb hby at_58) rfl kt) ?_
    show Onw p e below _ (T1.setTop (mkF m 59 #[.val (.int p0), .val (.long q1), .second, .val (.int p2), .val (.int (0 : Int32)), .val (.ref uM), .val (.long (9223372036854775807 : Int64)), .second, .val (.long lw), .second, .unset, .unset, .unset, .unset, .unset, .unset] [(.int p0), (.int (1 : Int32))]))
    refine Onw.go (X1.ldcInt hx hown (mvT hZ (hw _ (own_mg (i := 5) rfl))) (g := (mkF m 59 #[.val (.int p0), .val (.long q1), .second, .val (.int p2), .val (.int (0 : Int32)), .val (.ref uM), .val (.long (9223372036854775807 : Int64)), .second, .val (.long lw), .second, .unset, .unset, .unset, .unset, .unset, .unset] [(.int p0), (.int (1 : Int32))])) rfl (hb hby at_59)) ?_
    show Onw p e below _ (T1.setTop (mkF m 61 #[.val (.int p0), .val (.long q1), .second, .val (.int p2), .val (.int (0 : Int32)), .val (.ref uM), .val (.long (9223372036854775807 : Int64)), .second, .val (.long lw), .second, .unset, .unset, .unset, .unset, .unset, .unset] [(.int (2147483647 : Int32)), (.int p0), (.int (1 : Int32))]))
    refine Onw.go (fun _ kt => XS.iand X1.here hx rfl (hb hby at_61) rfl kt) ?_
    show Onw p e below _ (T1.setTop (mkF m 62 #[.val (.int p0), .val (.long q1), .second, .val (.int p2), .val (.int (0 : Int32)), .val (.ref uM), .val (.long (9223372036854775807 : Int64)), .second, .val (.long lw), .second, .unset, .unset, .unset, .unset, .unset, .unset] [(.int (p0 &&& (2147483647 : Int32))), (.int (1 : Int32))]))
    refine Onw.go (X1.ldcInt hx hown (mvT hZ (hw _ (own_mg (i := 5) rfl))) (g := (mkF m 62 #[.val (.int p0), .val (.long q1), .second, .val (.int p2), .val (.int (0 : Int32)), .val (.ref uM), .val (.long (9223372036854775807 : Int64)), .second, .val (.long lw), .second, .unset, .unset, .unset, .unset, .unset, .unset] [(.int (p0 &&& (2147483647 : Int32))), (.int (1 : Int32))])) rfl (hb hby at_62)) ?_
    show Onw p e below _ (T1.setTop (mkF m 64 #[.val (.int p0), .val (.long q1), .second, .val (.int p2), .val (.int (0 : Int32)), .val (.ref uM), .val (.long (9223372036854775807 : Int64)), .second, .val (.long lw), .second, .unset, .unset, .unset, .unset, .unset, .unset] [(.int (2147483647 : Int32)), (.int (p0 &&& (2147483647 : Int32))), (.int (1 : Int32))]))
    refine Onw.go (fun _ kt => iremM X1 hx rfl (hb hby at_64) rfl (by decide) kt) ?_
    show Onw p e below _ (T1.setTop (mkF m 65 #[.val (.int p0), .val (.long q1), .second, .val (.int p2), .val (.int (0 : Int32)), .val (.ref uM), .val (.long (9223372036854775807 : Int64)), .second, .val (.long lw), .second, .unset, .unset, .unset, .unset, .unset, .unset] [(.int ((p0 &&& (2147483647 : Int32)) % (2147483647 : Int32))), (.int (1 : Int32))]))
    refine Onw.go (fun _ kt => XS.iadd X1.here hx rfl (hb hby at_65) rfl kt) ?_
    show Onw p e below _ (T1.setTop (mkF m 66 #[.val (.int p0), .val (.long q1), .second, .val (.int p2), .val (.int (0 : Int32)), .val (.ref uM), .val (.long (9223372036854775807 : Int64)), .second, .val (.long lw), .second, .unset, .unset, .unset, .unset, .unset, .unset] [(.int ((1 : Int32) + ((p0 &&& (2147483647 : Int32)) % (2147483647 : Int32))))]))
    obtain ⟨rq, hrq⟩ : ∃ own_z, own_z = ((1 : Int32) + ((p0 &&& (2147483647 : Int32)) % (2147483647 : Int32))) := ⟨_, rfl⟩
    rw [← hrq]
    show Onw p e below _ (T1.setTop (mkF m 66 #[.val (.int p0), .val (.long q1), .second, .val (.int p2), .val (.int (0 : Int32)), .val (.ref uM), .val (.long (9223372036854775807 : Int64)), .second, .val (.long lw), .second, .unset, .unset, .unset, .unset, .unset, .unset] [(.int rq)]))
    obtain ⟨ww, ww1, ww2, ww3⟩ := own_lw q1 _ _ lw 9223372036854775807 rfl (by decide +kernel) (by decide) hlw
    obtain ⟨dd, DD, hdd⟩ := own_Dex 19 ww ww2 (by omega)
    have hrq1 := own_rq p0 rq hrq
    refine Onw.go (fun _ kt => XS.istore X1.here hx rfl (hb hby at_66) rfl (l' := #[.val (.int p0), .val (.long q1), .second, .val (.int p2), .val (.int (0 : Int32)), .val (.ref uM), .val (.long (9223372036854775807 : Int64)), .second, .val (.long lw), .second, .val (.int rq), .unset, .unset, .unset, .unset, .unset]) rfl kt) ?_
    show Onw p e below _ (T1.setTop (mkF m 68 #[.val (.int p0), .val (.long q1), .second, .val (.int p2), .val (.int (0 : Int32)), .val (.ref uM), .val (.long (9223372036854775807 : Int64)), .second, .val (.long lw), .second, .val (.int rq), .unset, .unset, .unset, .unset, .unset] []))
    refine law_68 hx hZ hw hby hml hown p0 p2 _ rq q1 _ lw _ X1 e1 N0 Z0 (fun T' h' locs' tb X' e' N' XX TB0 => ?_)
    exact law_199M hx hZ hw hby hml hown p0 p2 rq q1 lw tb dd ww zc fm o1 o2 uM rM tM kM X' e' N' (Nat.le_trans Z0 XX.1) (S_C.ext XX) hz (S_F.ext XX) rf (S_1.ext XX) (S_2.ext XX) (own_DG.keep D_1 ((Keep.refl h0 []).ext XX) (by simp)) (own_DG.keep D_2 ((Keep.refl h0 []).ext XX) (by simp)) lo1 lo2 (S_M.ext XX) (FM_M.ext XX) (FS_M.ext XX) (ST_M.ext XX) (VT_M.ext XX) lr_M lt_M TB0 ww1 ww2 ww3 DD hdd hrq1 (fun vm1 T' locs' j Ls X' hS' hj' N' => Onw.retW X' hS' hj' Bd.notSynchronized (fun h => by rw [Bd.returns] at h; cases h) (fun fs hr => retN X' hx (t := .boolean) Bd.returns (by simp) (hb hby at_607) hr) ⟨rfl, N'⟩ (by decide) (by decide))
  · refine Onw.go (fun _ kt => XS.ifNo X0.here hx rfl (hb hby at_3) rfl ((if0 _ _).trans (feq (hu : ¬ ((p2 &&& (1 : Int32)) = (0 : Int32)))).1) kt) ?_
    show Onw p e below _ (s₁.setTop (mkF m 6 #[.val (.int p0), .val (.long q1), .second, .val (.int p2), .unset, .unset, .unset, .unset, .unset, .unset, .unset, .unset, .unset, .unset, .unset, .unset] []))
    refine Onw.go (fun _ kt => XS.iconst X0.here hx rfl (hb hby at_6) kt) ?_
    show Onw p e below _ (s₁.setTop (mkF m 7 #[.val (.int p0), .val (.long q1), .second, .val (.int p2), .unset, .unset, .unset, .unset, .unset, .unset, .unset, .unset, .unset, .unset, .unset, .unset] [(.int (1 : Int32))]))
    refine Onw.go (fun _ kt => XS.goto X0.here hx rfl (pc0 := 7) (pc' := 11) rfl (hb hby at_7) (by decide) (by decide) kt) ?_
    show Onw p e below _ (s₁.setTop (mkF m 11 #[.val (.int p0), .val (.long q1), .second, .val (.int p2), .unset, .unset, .unset, .unset, .unset, .unset, .unset, .unset, .unset, .unset, .unset, .unset] [(.int (1 : Int32))]))
    refine Onw.go (fun _ kt => XS.istore X0.here hx rfl (hb hby at_11) rfl (l' := #[.val (.int p0), .val (.long q1), .second, .val (.int p2), .val (.int (1 : Int32)), .unset, .unset, .unset, .unset, .unset, .unset, .unset, .unset, .unset, .unset, .unset]) rfl kt) ?_
    show Onw p e below _ (s₁.setTop (mkF m 13 #[.val (.int p0), .val (.long q1), .second, .val (.int p2), .val (.int (1 : Int32)), .unset, .unset, .unset, .unset, .unset, .unset, .unset, .unset, .unset, .unset, .unset] []))
    refine Onw.go (fun _ kt => XS.iload X0.here hx rfl (hb hby at_13) rfl kt) ?_
    show Onw p e below _ (s₁.setTop (mkF m 15 #[.val (.int p0), .val (.long q1), .second, .val (.int p2), .val (.int (1 : Int32)), .unset, .unset, .unset, .unset, .unset, .unset, .unset, .unset, .unset, .unset, .unset] [(.int (1 : Int32))]))
    refine Onw.go (fun _ kt => XS.ifNo X0.here hx rfl (hb hby at_15) rfl ((if0 _ _).trans (feq (by decide : ¬ ((1 : Int32) = (0 : Int32)))).1) kt) ?_
    show Onw p e below _ (s₁.setTop (mkF m 18 #[.val (.int p0), .val (.long q1), .second, .val (.int p2), .val (.int (1 : Int32)), .unset, .unset, .unset, .unset, .unset, .unset, .unset, .unset, .unset, .unset, .unset] []))
    obtain ⟨T2, X2, e2, st2⟩ := getS2 X0 hx hZ hown (host := "") (Or.inl (hw _ (own_mg (i := 0) rfl))) Via.refl e0 S_S (g := (mkF m 18 #[.val (.int p0), .val (.long q1), .second, .val (.int p2), .val (.int (1 : Int32)), .unset, .unset, .unset, .unset, .unset, .unset, .unset, .unset, .unset, .unset, .unset] [])) rfl (hb hby at_18)
    refine Onw.go st2 ?_
    show Onw p e below _ (T2.setTop (mkF m 21 #[.val (.int p0), .val (.long q1), .second, .val (.int p2), .val (.int (1 : Int32)), .unset, .unset, .unset, .unset, .unset, .unset, .unset, .unset, .unset, .unset, .unset] [(.ref uS)]))
    refine Onw.go (fun _ kt => XS.goto X2.here hx rfl (pc0 := 21) (pc' := 27) rfl (hb hby at_21) (by decide) (by decide) kt) ?_
    show Onw p e below _ (T2.setTop (mkF m 27 #[.val (.int p0), .val (.long q1), .second, .val (.int p2), .val (.int (1 : Int32)), .unset, .unset, .unset, .unset, .unset, .unset, .unset, .unset, .unset, .unset, .unset] [(.ref uS)]))
    refine Onw.go (fun _ kt => XS.astore X2.here hx rfl (hb hby at_27) rfl rfl (l' := #[.val (.int p0), .val (.long q1), .second, .val (.int p2), .val (.int (1 : Int32)), .val (.ref uS), .unset, .unset, .unset, .unset, .unset, .unset, .unset, .unset, .unset, .unset]) rfl kt) ?_
    show Onw p e below _ (T2.setTop (mkF m 29 #[.val (.int p0), .val (.long q1), .second, .val (.int p2), .val (.int (1 : Int32)), .val (.ref uS), .unset, .unset, .unset, .unset, .unset, .unset, .unset, .unset, .unset, .unset] []))
    refine Onw.go (fun _ kt => XS.iload X2.here hx rfl (hb hby at_29) rfl kt) ?_
    show Onw p e below _ (T2.setTop (mkF m 31 #[.val (.int p0), .val (.long q1), .second, .val (.int p2), .val (.int (1 : Int32)), .val (.ref uS), .unset, .unset, .unset, .unset, .unset, .unset, .unset, .unset, .unset, .unset] [(.int (1 : Int32))]))
    refine Onw.go (fun _ kt => XS.ifNo X2.here hx rfl (hb hby at_31) rfl ((if0 _ _).trans (feq (by decide : ¬ ((1 : Int32) = (0 : Int32)))).1) kt) ?_
    show Onw p e below _ (T2.setTop (mkF m 34 #[.val (.int p0), .val (.long q1), .second, .val (.int p2), .val (.int (1 : Int32)), .val (.ref uS), .unset, .unset, .unset, .unset, .unset, .unset, .unset, .unset, .unset, .unset] []))
    refine Onw.go (X2.ldc2Long hx hown (mvT hZ (hw _ (own_mg (i := 3) rfl))) (g := (mkF m 34 #[.val (.int p0), .val (.long q1), .second, .val (.int p2), .val (.int (1 : Int32)), .val (.ref uS), .unset, .unset, .unset, .unset, .unset, .unset, .unset, .unset, .unset, .unset] [])) rfl (hb hby at_34)) ?_
    show Onw p e below _ (T2.setTop (mkF m 37 #[.val (.int p0), .val (.long q1), .second, .val (.int p2), .val (.int (1 : Int32)), .val (.ref uS), .unset, .unset, .unset, .unset, .unset, .unset, .unset, .unset, .unset, .unset] [(.long (9223372036854775 : Int64))]))
    refine Onw.go (fun _ kt => XS.goto X2.here hx rfl (pc0 := 37) (pc' := 43) rfl (hb hby at_37) (by decide) (by decide) kt) ?_
    show Onw p e below _ (T2.setTop (mkF m 43 #[.val (.int p0), .val (.long q1), .second, .val (.int p2), .val (.int (1 : Int32)), .val (.ref uS), .unset, .unset, .unset, .unset, .unset, .unset, .unset, .unset, .unset, .unset] [(.long (9223372036854775 : Int64))]))
    refine Onw.go (fun _ kt => XS.lstore X2.here hx rfl (hb hby at_43) rfl (l' := #[.val (.int p0), .val (.long q1), .second, .val (.int p2), .val (.int (1 : Int32)), .val (.ref uS), .val (.long (9223372036854775 : Int64)), .second, .unset, .unset, .unset, .unset, .unset, .unset, .unset, .unset]) rfl kt) ?_
    show Onw p e below _ (T2.setTop (mkF m 45 #[.val (.int p0), .val (.long q1), .second, .val (.int p2), .val (.int (1 : Int32)), .val (.ref uS), .val (.long (9223372036854775 : Int64)), .second, .unset, .unset, .unset, .unset, .unset, .unset, .unset, .unset] []))
    refine Onw.go (fun _ kt => XS.lconst X2.here hx rfl (hb hby at_45) kt) ?_
    show Onw p e below _ (T2.setTop (mkF m 46 #[.val (.int p0), .val (.long q1), .second, .val (.int p2), .val (.int (1 : Int32)), .val (.ref uS), .val (.long (9223372036854775 : Int64)), .second, .unset, .unset, .unset, .unset, .unset, .unset, .unset, .unset] [(.long (1 : Int64))]))
    refine Onw.go (fun _ kt => XS.lloadN X2.here hx rfl (hb hby at_46) rfl kt) ?_
    show Onw p e below _ (T2.setTop (mkF m 47 #[.val (.int p0), .val (.long q1), .second, .val (.int p2), .val (.int (1 : Int32)), .val (.ref uS), .val (.long (9223372036854775 : Int64)), .second, .unset, .unset, .unset, .unset, .unset, .unset, .unset, .unset] [(.long q1), (.long (1 : Int64))]))
    refine Onw.go (X2.ldc2Long hx hown (mvT hZ (hw _ (own_mg (i := 4) rfl))) (g := (mkF m 47 #[.val (.int p0), .val (.long q1), .second, .val (.int p2), .val (.int (1 : Int32)), .val (.ref uS), .val (.long (9223372036854775 : Int64)), .second, .unset, .unset, .unset, .unset, .unset, .unset, .unset, .unset] [(.long q1), (.long (1 : Int64))])) rfl (hb hby at_47)) ?_
    show Onw p e below _ (T2.setTop (mkF m 50 #[.val (.int p0), .val (.long q1), .second, .val (.int p2), .val (.int (1 : Int32)), .val (.ref uS), .val (.long (9223372036854775 : Int64)), .second, .unset, .unset, .unset, .unset, .unset, .unset, .unset, .unset] [(.long (9223372036854775807 : Int64)), (.long q1), (.long (1 : Int64))]))
    refine Onw.go (fun _ kt => XS.land X2.here hx rfl (hb hby at_50) rfl kt) ?_
    show Onw p e below _ (T2.setTop (mkF m 51 #[.val (.int p0), .val (.long q1), .second, .val (.int p2), .val (.int (1 : Int32)), .val (.ref uS), .val (.long (9223372036854775 : Int64)), .second, .unset, .unset, .unset, .unset, .unset, .unset, .unset, .unset] [(.long (q1 &&& (9223372036854775807 : Int64))), (.long (1 : Int64))]))
    refine Onw.go (fun _ kt => XS.lload X2.here hx rfl (hb hby at_51) rfl kt) ?_
    show Onw p e below _ (T2.setTop (mkF m 53 #[.val (.int p0), .val (.long q1), .second, .val (.int p2), .val (.int (1 : Int32)), .val (.ref uS), .val (.long (9223372036854775 : Int64)), .second, .unset, .unset, .unset, .unset, .unset, .unset, .unset, .unset] [(.long (9223372036854775 : Int64)), (.long (q1 &&& (9223372036854775807 : Int64))), (.long (1 : Int64))]))
    refine Onw.go (fun _ kt => XS.lrem X2.here hx rfl (hb hby at_53) rfl (by decide) (by rw [lrem_mod]; exact kt)) ?_
    show Onw p e below _ (T2.setTop (mkF m 54 #[.val (.int p0), .val (.long q1), .second, .val (.int p2), .val (.int (1 : Int32)), .val (.ref uS), .val (.long (9223372036854775 : Int64)), .second, .unset, .unset, .unset, .unset, .unset, .unset, .unset, .unset] [(.long ((q1 &&& (9223372036854775807 : Int64)) % (9223372036854775 : Int64))), (.long (1 : Int64))]))
    refine Onw.go (fun _ kt => XS.ladd X2.here hx rfl (hb hby at_54) rfl kt) ?_
    show Onw p e below _ (T2.setTop (mkF m 55 #[.val (.int p0), .val (.long q1), .second, .val (.int p2), .val (.int (1 : Int32)), .val (.ref uS), .val (.long (9223372036854775 : Int64)), .second, .unset, .unset, .unset, .unset, .unset, .unset, .unset, .unset] [(.long ((1 : Int64) + ((q1 &&& (9223372036854775807 : Int64)) % (9223372036854775 : Int64))))]))
    obtain ⟨lw, hlw⟩ : ∃ own_z, own_z = ((1 : Int64) + ((q1 &&& (9223372036854775807 : Int64)) % (9223372036854775 : Int64))) := ⟨_, rfl⟩
    rw [← hlw]
    show Onw p e below _ (T2.setTop (mkF m 55 #[.val (.int p0), .val (.long q1), .second, .val (.int p2), .val (.int (1 : Int32)), .val (.ref uS), .val (.long (9223372036854775 : Int64)), .second, .unset, .unset, .unset, .unset, .unset, .unset, .unset, .unset] [(.long lw)]))
    refine Onw.go (fun _ kt => XS.lstore X2.here hx rfl (hb hby at_55) rfl (l' := #[.val (.int p0), .val (.long q1), .second, .val (.int p2), .val (.int (1 : Int32)), .val (.ref uS), .val (.long (9223372036854775 : Int64)), .second, .val (.long lw), .second, .unset, .unset, .unset, .unset, .unset, .unset]) rfl kt) ?_
    show Onw p e below _ (T2.setTop (mkF m 57 #[.val (.int p0), .val (.long q1), .second, .val (.int p2), .val (.int (1 : Int32)), .val (.ref uS), .val (.long (9223372036854775 : Int64)), .second, .val (.long lw), .second, .unset, .unset, .unset, .unset, .unset, .unset] []))
    refine Onw.go (fun _ kt => XS.iconst X2.here hx rfl (hb hby at_57) kt) ?_
    show Onw p e below _ (T2.setTop (mkF m 58 #[.val (.int p0), .val (.long q1), .second, .val (.int p2), .val (.int (1 : Int32)), .val (.ref uS), .val (.long (9223372036854775 : Int64)), .second, .val (.long lw), .second, .unset, .unset, .unset, .unset, .unset, .unset] [(.int (1 : Int32))]))
    refine Onw.go (fun _ kt => XS.iloadN X2.here hx rfl (hb hby at_58) rfl kt) ?_
    show Onw p e below _ (T2.setTop (mkF m 59 #[.val (.int p0), .val (.long q1), .second, .val (.int p2), .val (.int (1 : Int32)), .val (.ref uS), .val (.long (9223372036854775 : Int64)), .second, .val (.long lw), .second, .unset, .unset, .unset, .unset, .unset, .unset] [(.int p0), (.int (1 : Int32))]))
    refine Onw.go (X2.ldcInt hx hown (mvT hZ (hw _ (own_mg (i := 5) rfl))) (g := (mkF m 59 #[.val (.int p0), .val (.long q1), .second, .val (.int p2), .val (.int (1 : Int32)), .val (.ref uS), .val (.long (9223372036854775 : Int64)), .second, .val (.long lw), .second, .unset, .unset, .unset, .unset, .unset, .unset] [(.int p0), (.int (1 : Int32))])) rfl (hb hby at_59)) ?_
    show Onw p e below _ (T2.setTop (mkF m 61 #[.val (.int p0), .val (.long q1), .second, .val (.int p2), .val (.int (1 : Int32)), .val (.ref uS), .val (.long (9223372036854775 : Int64)), .second, .val (.long lw), .second, .unset, .unset, .unset, .unset, .unset, .unset] [(.int (2147483647 : Int32)), (.int p0), (.int (1 : Int32))]))
    refine Onw.go (fun _ kt => XS.iand X2.here hx rfl (hb hby at_61) rfl kt) ?_
    show Onw p e below _ (T2.setTop (mkF m 62 #[.val (.int p0), .val (.long q1), .second, .val (.int p2), .val (.int (1 : Int32)), .val (.ref uS), .val (.long (9223372036854775 : Int64)), .second, .val (.long lw), .second, .unset, .unset, .unset, .unset, .unset, .unset] [(.int (p0 &&& (2147483647 : Int32))), (.int (1 : Int32))]))
    refine Onw.go (X2.ldcInt hx hown (mvT hZ (hw _ (own_mg (i := 5) rfl))) (g := (mkF m 62 #[.val (.int p0), .val (.long q1), .second, .val (.int p2), .val (.int (1 : Int32)), .val (.ref uS), .val (.long (9223372036854775 : Int64)), .second, .val (.long lw), .second, .unset, .unset, .unset, .unset, .unset, .unset] [(.int (p0 &&& (2147483647 : Int32))), (.int (1 : Int32))])) rfl (hb hby at_62)) ?_
    show Onw p e below _ (T2.setTop (mkF m 64 #[.val (.int p0), .val (.long q1), .second, .val (.int p2), .val (.int (1 : Int32)), .val (.ref uS), .val (.long (9223372036854775 : Int64)), .second, .val (.long lw), .second, .unset, .unset, .unset, .unset, .unset, .unset] [(.int (2147483647 : Int32)), (.int (p0 &&& (2147483647 : Int32))), (.int (1 : Int32))]))
    refine Onw.go (fun _ kt => iremM X2 hx rfl (hb hby at_64) rfl (by decide) kt) ?_
    show Onw p e below _ (T2.setTop (mkF m 65 #[.val (.int p0), .val (.long q1), .second, .val (.int p2), .val (.int (1 : Int32)), .val (.ref uS), .val (.long (9223372036854775 : Int64)), .second, .val (.long lw), .second, .unset, .unset, .unset, .unset, .unset, .unset] [(.int ((p0 &&& (2147483647 : Int32)) % (2147483647 : Int32))), (.int (1 : Int32))]))
    refine Onw.go (fun _ kt => XS.iadd X2.here hx rfl (hb hby at_65) rfl kt) ?_
    show Onw p e below _ (T2.setTop (mkF m 66 #[.val (.int p0), .val (.long q1), .second, .val (.int p2), .val (.int (1 : Int32)), .val (.ref uS), .val (.long (9223372036854775 : Int64)), .second, .val (.long lw), .second, .unset, .unset, .unset, .unset, .unset, .unset] [(.int ((1 : Int32) + ((p0 &&& (2147483647 : Int32)) % (2147483647 : Int32))))]))
    obtain ⟨rq, hrq⟩ : ∃ own_z, own_z = ((1 : Int32) + ((p0 &&& (2147483647 : Int32)) % (2147483647 : Int32))) := ⟨_, rfl⟩
    rw [← hrq]
    show Onw p e below _ (T2.setTop (mkF m 66 #[.val (.int p0), .val (.long q1), .second, .val (.int p2), .val (.int (1 : Int32)), .val (.ref uS), .val (.long (9223372036854775 : Int64)), .second, .val (.long lw), .second, .unset, .unset, .unset, .unset, .unset, .unset] [(.int rq)]))
    obtain ⟨ww, ww1, ww2, ww3⟩ := own_lw q1 _ _ lw 9223372036854775 rfl (by decide +kernel) (by decide) hlw
    obtain ⟨dd, DD, hdd⟩ := own_Dex 19 ww ww2 (by omega)
    have hrq1 := own_rq p0 rq hrq
    refine Onw.go (fun _ kt => XS.istore X2.here hx rfl (hb hby at_66) rfl (l' := #[.val (.int p0), .val (.long q1), .second, .val (.int p2), .val (.int (1 : Int32)), .val (.ref uS), .val (.long (9223372036854775 : Int64)), .second, .val (.long lw), .second, .val (.int rq), .unset, .unset, .unset, .unset, .unset]) rfl kt) ?_
    show Onw p e below _ (T2.setTop (mkF m 68 #[.val (.int p0), .val (.long q1), .second, .val (.int p2), .val (.int (1 : Int32)), .val (.ref uS), .val (.long (9223372036854775 : Int64)), .second, .val (.long lw), .second, .val (.int rq), .unset, .unset, .unset, .unset, .unset] []))
    refine law_68 hx hZ hw hby hml hown p0 p2 _ rq q1 _ lw _ X2 e2 N0 Z0 (fun T' h' locs' tb X' e' N' XX TB0 => ?_)
    exact law_199S hx hZ hw hby hml hown p0 p2 rq q1 lw tb dd ww zc fm o1 o2 uS rS tS kS X' e' N' (Nat.le_trans Z0 XX.1) (S_C.ext XX) hz (S_F.ext XX) rf (S_1.ext XX) (S_2.ext XX) (own_DG.keep D_1 ((Keep.refl h0 []).ext XX) (by simp)) (own_DG.keep D_2 ((Keep.refl h0 []).ext XX) (by simp)) lo1 lo2 (S_S.ext XX) (FM_S.ext XX) (FS_S.ext XX) (ST_S.ext XX) (VT_S.ext XX) lr_S lt_S TB0 ww1 ww2 ww3 DD hdd hrq1 (fun vm1 T' locs' j Ls X' hS' hj' N' => Onw.retW X' hS' hj' Bd.notSynchronized (fun h => by rw [Bd.returns] at h; cases h) (fun fs hr => retN X' hx (t := .boolean) Bd.returns (by simp) (hb hby at_607) hr) ⟨rfl, N'⟩ (by decide) (by decide))
set_option maxRecDepth 65536 in
set_option maxHeartbeats 40000000 in
theorem comes_1 {Post : Tables → Env → Array Value → State → Outcome → State → Prop} (hpost : ∀ tb e args s v u, (limb_1_1.after args s (.returned v) u = true ∧ limb_1_2.after args s (.returned v) u = true ∧ True) → ReturnedEndW s (.returned v) u (Jvm.fieldLocs frame_1_writes args s ++ Jvm.arrayLocs frame_1_arrays args s ++ Jvm.staticLocs frame_1_statics s) 24 1344 → Post tb e args s (.returned v) u) :
    ArmFor flags0 classFile x code maxLocals ret World_1 tables_1 room_1 Calls_1 rest_1 Pre_1 Post := by
  intro l hfl _ _ p e ha hc hk s m args below hf hA hF happ hP
  obtain ⟨hcalls, hrest, hpre⟩ := hP
  obtain ⟨-, -, -, hnamed, -, -, -, hat⟩ := (Spec.applies_iff hf).mp happ
  obtain ⟨hg, hn⟩ := and_e (Cond.before_iff.mp (show (Jvm.Cond.and given_1 narrow_1).before args s = true from hpre))
  obtain ⟨g1, g2⟩ := and_e hg
  obtain ⟨g3, g4⟩ := and_e g2
  obtain ⟨g5, g6⟩ := and_e g4
  obtain ⟨w0, w1, w2, rfl⟩ : ∃ w0 w1 w2 : Value, args = #[w0, w1, w2] := by
    have hs : args.size = 3 := by simpa [Cond.value, given_1] using g1
    obtain ⟨L⟩ := args
    match L, hs with
    | [w0, w1, w2], _ => exact ⟨w0, w1, w2, rfl⟩
  have hw := fun d (hd : d ∈ tables_1) => atoms_spec (ws := Jvm.Cond.code x code maxLocals ret :: tables_1) hat d (List.mem_cons_of_mem _ hd)
  have hfit : Fit s := fun {y c} hc i hi => by
    obtain ⟨ha, rfl⟩ := Array.getElem?_eq_some_iff.mp hc
    have q := List.all_eq_true.mp ((Array.all_eq_true_iff_forall_mem.mp hF) _ (Array.getElem_mem ha)) i (List.mem_range.mpr hi)
    simpa [Array.getElem?_eq_getElem hi] using q
  obtain ⟨hsets, hown0⟩ := atoms_of _ (rest_1_c_eq ▸ (show rest_1_c.before _ s = true from hrest))
  have hr0 := Cond.before_iff.mp hown0
  obtain ⟨i0, ei0⟩ := is_v g3
  obtain rfl : w0 = (.int i0) := Option.some.inj ei0
  obtain ⟨i1, ei1⟩ := isL_v g5
  obtain rfl : w1 = (.long i1) := Option.some.inj ei1
  obtain ⟨i2, ei2⟩ := is_v g6
  obtain rfl : w2 = (.int i2) := Option.some.inj ei2
  obtain ⟨u1, u2⟩ := and_e hn
  obtain ⟨u3, u4⟩ := and_e u2
  obtain ⟨u5, u6⟩ := and_e u4
  obtain ⟨u7, u8⟩ := and_e u6
  obtain ⟨u9, u10⟩ := and_e u8
  obtain ⟨u11, u12⟩ := and_e u10
  obtain ⟨u13, u14⟩ := and_e u12
  obtain ⟨u15, u16⟩ := and_e u14
  obtain ⟨u17, u18⟩ := and_e u16
  obtain ⟨u19, u20⟩ := and_e u18
  obtain ⟨u21, u22⟩ := and_e u20
  obtain ⟨u23, u24⟩ := and_e u22
  obtain ⟨u25, u26⟩ := and_e u24
  obtain ⟨u27, u28⟩ := and_e u26
  obtain ⟨u29, u30⟩ := and_e u28
  obtain ⟨u31, u32⟩ := and_e u30
  have n3 := not_v (Cond.before_iff.mp (hsets _ (List.mem_of_getElem? (i := 2) rfl)))
  obtain ⟨zc, ezc⟩ := is_v (Cond.before_iff.mp (hsets _ (List.mem_of_getElem? (i := 1) rfl)))
  have S_C := Sta.start ezc (Or.inl (hsets _ (List.mem_of_getElem? (i := 0) rfl)))
  have hz : ¬ (zc = (0 : Int32)) := gotF (Cond.eq_ints ezc (Term.int_eval (0))) n3
  obtain ⟨fm, efm, rf⟩ := isR_v (Cond.before_iff.mp (hsets _ (List.mem_of_getElem? (i := 8) rfl)))
  have S_F := Sta.start efm (Or.inl (hsets _ (List.mem_of_getElem? (i := 7) rfl)))
  obtain ⟨o1, ev1, D_1, lo1⟩ := own_dgstart (T := .static "java/lang/Integer" "DigitOnes" "[B") (E := .add (.int 48) (.rem (.index 0) (.int 10))) (f := fun i => i % 10) (fun _ => rfl) (fun i hi => (Term.add_int (Term.int_eval 48) (rem_f (Term.index_eval _) (Term.int_eval 10) (by decide))).trans (congrArg (fun own_z => some (Value.int own_z)) (own_o100 ⟨i, hi⟩))) (hw _ (own_mg (i := 42) rfl)) (Cond.before_iff.mp (hsets _ (List.mem_of_getElem? (i := 12) rfl))) (Cond.before_iff.mp (hsets _ (List.mem_of_getElem? (i := 13) rfl))) (Cond.before_iff.mp (hsets _ (List.mem_of_getElem? (i := 14) rfl)))
  have S_1 := Sta.start ev1 (Or.inl (hsets _ (List.mem_of_getElem? (i := 11) rfl)))
  obtain ⟨o2, ev2, D_2, lo2⟩ := own_dgstart (T := .static "java/lang/Integer" "DigitTens" "[B") (E := .add (.int 48) (.div (.index 0) (.int 10))) (f := fun i => i / 10) (fun _ => rfl) (fun i hi => (Term.add_int (Term.int_eval 48) (div_f (Term.index_eval _) (Term.int_eval 10) (by decide))).trans (congrArg (fun own_z => some (Value.int own_z)) (own_t100 ⟨i, hi⟩))) (hw _ (own_mg (i := 42) rfl)) (Cond.before_iff.mp (hsets _ (List.mem_of_getElem? (i := 17) rfl))) (Cond.before_iff.mp (hsets _ (List.mem_of_getElem? (i := 18) rfl))) (Cond.before_iff.mp (hsets _ (List.mem_of_getElem? (i := 19) rfl)))
  have S_2 := Sta.start ev2 (Or.inl (hsets _ (List.mem_of_getElem? (i := 16) rfl)))
  obtain ⟨uS, ev_S⟩ := exa_v u1
  have S_S := Sta.start ev_S (Or.inr ⟨(hw _ (own_mg (i := 1) rfl)), (hw _ (own_mg (i := 2) rfl))⟩)
  have FM_S := Fld.start ((fld_at ev_S).symm.trans (Cond.eq_long (Cond.before_iff.mpr u3) rfl))
  obtain ⟨rS, es_S⟩ := exa_v u5
  have FS_S := Fld.start ((fld_at ev_S).symm.trans es_S)
  have ES_S := Exa.start es_S u5
  have FC_S := Fld.start ((fld_at es_S).symm.trans (Cond.eq_int (Cond.before_iff.mpr u13) rfl))
  obtain ⟨tS, et_S⟩ := arr_v u7
  have FV_S := Fld.start ((fld_at es_S).symm.trans et_S)
  obtain ⟨cl_S, Ar_S⟩ := Arr.start et_S u7
  have hA_S := Ar_S.fin (Vm.Alike.refl _)
  have hl_S := Cond.eq_int (Cond.before_iff.mpr u11) rfl
  have h31_S := SBG.length_lt et_S hA_S hl_S
  have VT_S : Arv s s.heap tS cl_S.cls .byte (1 : Int32) [Value.int (115 : Int32)] (.int (0 : Int32)) := Arv.start hfit Ar_S h31_S (Value.int.inj (Option.some.inj ((len_f et_S hA_S h31_S).symm.trans hl_S))) (by decide) rfl ⟨((elem_f et_S (Term.int_eval 0) hA_S (by decide)).symm.trans (Cond.eq_int (Cond.before_iff.mpr u15) rfl)), trivial⟩
  obtain ⟨uM, ev_M⟩ := exa_v u17
  have S_M := Sta.start ev_M (Or.inr ⟨(hw _ (own_mg (i := 1) rfl)), (hw _ (own_mg (i := 237) rfl))⟩)
  have FM_M := Fld.start ((fld_at ev_M).symm.trans (Cond.eq_long (Cond.before_iff.mpr u19) rfl))
  obtain ⟨rM, es_M⟩ := exa_v u21
  have FS_M := Fld.start ((fld_at ev_M).symm.trans es_M)
  have ES_M := Exa.start es_M u21
  have FC_M := Fld.start ((fld_at es_M).symm.trans (Cond.eq_int (Cond.before_iff.mpr u29) rfl))
  obtain ⟨tM, et_M⟩ := arr_v u23
  have FV_M := Fld.start ((fld_at es_M).symm.trans et_M)
  obtain ⟨cl_M, Ar_M⟩ := Arr.start et_M u23
  have hA_M := Ar_M.fin (Vm.Alike.refl _)
  have hl_M := Cond.eq_int (Cond.before_iff.mpr u27) rfl
  have h31_M := SBG.length_lt et_M hA_M hl_M
  have VT_M : Arv s s.heap tM cl_M.cls .byte (2 : Int32) [Value.int (109 : Int32), Value.int (115 : Int32)] (.int (0 : Int32)) := Arv.start hfit Ar_M h31_M (Value.int.inj (Option.some.inj ((len_f et_M hA_M h31_M).symm.trans hl_M))) (by decide) rfl ⟨((elem_f et_M (Term.int_eval 0) hA_M (by decide)).symm.trans (Cond.eq_int (Cond.before_iff.mpr u31) rfl)), ((elem_f et_M (Term.int_eval 1) hA_M (by decide)).symm.trans (Cond.eq_int (Cond.before_iff.mpr u32) rfl)), trivial⟩
  obtain ⟨n, o, h1, h2, h3, _, L, rfl, ⟨rfl, N⟩, hq⟩ := rm0 l s _ hw tables_1 i0 i1 i2 zc fm o1 o2 uS rS tS cl_S.cls uM rM tM cl_M.cls s.heap s.heap.size (Nat.le_refl _) S_C hz S_F rf S_1 S_2 D_1 D_2 lo1 lo2 S_S FM_S FS_S ⟨ES_S, FC_S, FV_S⟩ VT_S ES_S.lt VT_S.lt S_M FM_M FS_M ⟨ES_M, FC_M, FV_M⟩ VT_M ES_M.lt VT_M.lt p e ha hc hk s m _ below hf ((Spec.applies_iff_loose hf).mp happ).1 ⟨rfl, State.Warmed39.refl s, rfl, rfl⟩ trivial
  refine ⟨n, _, h1, h2, h3, hpost _ _ _ _ _ _ ⟨Cond.after_iff.mpr rfl, Cond.after_iff.mpr (eq_i res_at (Term.int_eval (1)) rfl), trivial⟩ ⟨hq.1, hq.2.1, hq.2.2.1, (hq.2.2.2.sift fun y hy => Or.inr (N y hy)).mono (by decide) (by decide)⟩⟩
theorem main_1_1 : Claimed_1_1 := comes_1 fun _ _ _ _ _ _ h hF => ⟨h.1, hF⟩
theorem main_1_2 : Claimed_1_2 := comes_1 fun _ _ _ _ _ _ h hF => ⟨h.2.1, hF⟩
end Jvm.Pilot.@@N@@
namespace Jvm.Pilot.@@N@@
open Jvm Jvm.ClassFile Sem Op Lib Jvm.Free Jvm.Stand Jvm.Pilot.@@N@@.Jvm.D
/-! MADE BY PROGRAM (witnessworld.py) out of the Statement's table words and the real class files: 32 classes; the members and pool entries that the words name. The judged class is class 1, her method 1. -/
namespace start1
open Jvm.ClassFile
def u (s : String) : CpInfo := .utf8 (stringToUtf16 s)
/-- a pool by its gaps: so many unusable entries, then the entry; so many at the end -/
def gap : Nat → List CpInfo → List CpInfo
  | 0, r => r
  | n + 1, r => .unusable :: gap n r
def poolList (es : List (Nat × CpInfo)) (last : Nat) : List CpInfo := es.foldr (fun e r => gap e.1 (e.2 :: r)) (gap last [])
def pool (es : List (Nat × CpInfo)) (last : Nat) : Array CpInfo := ⟨poolList es last⟩
def fileOf (pool : Array CpInfo) (this : Nat) (attrs : Array Attribute := #[]) (ms : Array MethodInfo := #[]) (fl : Nat := 33) (sup : Nat := 0) (ifs : Array Nat := #[]) (fds : Array FieldInfo := #[]) : ClassFile where
  minorVersion := 0
  majorVersion := 65
  constantPool := pool
  accessFlags := fl
  thisClass := this
  superClass := sup
  interfaces := ifs
  fields := fds
  methods := ms
  attributes := attrs
def plain (name : String) (sup : Option ClassId) : Class where
  name := name
  kind := .ordinary
  loader := none
  accessFlags := 33
  super := sup
  interfaces := #[]
  cf := none
  fields := #[]
  methods := #[]
  instanceTypes := #[]
  staticTypes := #[]
  resolved := #[]
  callSites := []
  init := .initialized
  statics := none
  mirror := none

def pool0 : Array CpInfo := pool [(5, u "<init>"), (0, u "()V"), (1, .class_ 10), (1, u "java/lang/Object"), (85, u "clone"), (0, u "()Ljava/lang/Object;")] 26

def k0c0 : Code := { maxStack := 0, maxLocals := 1, code := object_method_1_code, exceptionTable := #[], attributes := #[] }
def k0m0 : Method := { name := "<init>", desc := "()V", sig := { parameters := [], returnType := none }, accessFlags := 1, code := some k0c0 }
def k0m1 : Method := { name := "clone", desc := "()Ljava/lang/Object;", sig := { parameters := [], returnType := some (.object "java/lang/Object") }, accessFlags := 260, code := none }
/-- java/lang/Object -/
def k0 : Class := { plain "java/lang/Object" none with
  accessFlags := 33
  interfaces := #[]
  cf := some (fileOf pool0 8 #[] #[{ accessFlags := 1, nameIndex := 5, descriptorIndex := 6, attributes := #[] }, { accessFlags := 260, nameIndex := 96, descriptorIndex := 97, attributes := #[] }] 33 0 #[] #[])
  fields := #[]
  methods := #[k0m0, k0m1]
  instanceTypes := #[]
  staticTypes := #[]
  resolved := Array.replicate 124 none
  statics := none }

def pool1 : Array CpInfo := pool [(2, .class_ 4), (1, u "java/lang/Object"), (0, u "<init>"), (0, u "()V"), (0, .fieldref 8 9), (0, .class_ 10), (0, .nameAndType 11 12), (0, u "com/example/vigil_cache/vigilcache/HotKeyRule$WindowUnit"), (0, u "SECONDS"), (0, u "Lcom/example/vigil_cache/vigilcache/HotKeyRule$WindowUnit;"), (0, .fieldref 8 14), (0, .nameAndType 15 12), (0, u "MILLISECONDS"), (2, .long 9223372036854775), (1, .long 9223372036854775807), (1, .integer 2147483647), (0, .long 10), (1, .long 100), (1, .long 1000), (1, .long 10000), (1, .long 100000), (1, .long 1000000), (1, .long 10000000), (1, .long 100000000), (1, .long 1000000000), (1, .long 10000000000), (1, .long 100000000000), (1, .long 1000000000000), (1, .long 10000000000000), (1, .long 100000000000000), (1, .long 1000000000000000), (1, .long 10000000000000000), (1, .long 100000000000000000), (1, .long 1000000000000000000), (1, .class_ 60), (0, u "com/example/vigil_cache/vigilcache/HotKeyRule"), (0, .methodref 59 62), (0, .nameAndType 5 63), (0, u "(IJLcom/example/vigil_cache/vigilcache/HotKeyRule$WindowUnit;)V"), (0, .methodref 59 65), (0, .nameAndType 66 67), (0, u "windowAsWritten"), (0, u "()Ljava/lang/String;"), (0, .methodref 69 70), (0, .class_ 71), (0, .nameAndType 72 73), (0, u "com/example/vigil_cache/vigilcache/HotKeyRuleWindowAsWrittenPinLaw"), (0, u "digits"), (0, u "(J[J)I"), (0, .methodref 75 76), (0, .class_ 77), (0, .nameAndType 78 79), (0, u "java/lang/String"), (0, u "length"), (0, u "()I"), (0, .methodref 75 81), (0, .nameAndType 82 83), (0, u "charAt"), (0, u "(I)C"), (0, .methodref 69 85), (0, .nameAndType 86 87), (0, u "digitOk"), (0, u "(Ljava/lang/String;JII[J)Z"), (2, u "law"), (0, u "(IJI)Z")] 7

def k1m0 : Method := { name := "<init>", desc := "()V", sig := { parameters := [], returnType := none }, accessFlags := 1, code := none }
def k1c1 : Code := { maxStack := 6, maxLocals := 16, code := code, exceptionTable := #[], attributes := #[] }
def k1m1 : Method := { name := "law", desc := "(IJI)Z", sig := { parameters := [.int, .long, .int], returnType := some .boolean }, accessFlags := 9, code := some k1c1 }
def k1c2 : Code := { maxStack := 5, maxLocals := 4, code := method_3_code, exceptionTable := #[], attributes := #[] }
def k1m2 : Method := { name := "digits", desc := "(J[J)I", sig := { parameters := [.long, (.array .long)], returnType := some .int }, accessFlags := 10, code := some k1c2 }
def k1c3 : Code := { maxStack := 5, maxLocals := 8, code := method_4_code, exceptionTable := #[], attributes := #[] }
def k1m3 : Method := { name := "digitOk", desc := "(Ljava/lang/String;JII[J)Z", sig := { parameters := [(.object "java/lang/String"), .long, .int, .int, (.array .long)], returnType := some .boolean }, accessFlags := 10, code := some k1c3 }
/-- com/example/vigil_cache/vigilcache/HotKeyRuleWindowAsWrittenPinLaw -/
def k1 : Class := { plain "com/example/vigil_cache/vigilcache/HotKeyRuleWindowAsWrittenPinLaw" (some 0) with
  accessFlags := 49
  interfaces := #[]
  cf := some (fileOf pool1 69 #[] #[{ accessFlags := 1, nameIndex := 5, descriptorIndex := 6, attributes := #[] }, { accessFlags := 9, nameIndex := 90, descriptorIndex := 91, attributes := #[] }, { accessFlags := 10, nameIndex := 72, descriptorIndex := 73, attributes := #[] }, { accessFlags := 10, nameIndex := 86, descriptorIndex := 87, attributes := #[] }] 49 2 #[] #[])
  fields := #[]
  methods := #[k1m0, k1m1, k1m2, k1m3]
  instanceTypes := #[]
  staticTypes := #[]
  resolved := Array.replicate 99 none
  statics := none }

def pool2 : Array CpInfo := pool [(1, .class_ 2), (0, u "java/lang/constant/Constable"), (0, .class_ 4), (0, u "java/lang/Object")] 6

/-- java/lang/constant/Constable -/
def k2 : Class := { plain "java/lang/constant/Constable" (some 0) with
  accessFlags := 1537
  interfaces := #[]
  cf := some (fileOf pool2 1 #[] #[] 1537 3 #[] #[])
  fields := #[]
  methods := #[]
  instanceTypes := #[]
  staticTypes := #[]
  resolved := Array.replicate 11 none
  statics := none }

def pool3 : Array CpInfo := pool [(1, .class_ 2), (0, u "java/lang/Comparable"), (0, .class_ 4), (0, u "java/lang/Object")] 7

/-- java/lang/Comparable -/
def k3 : Class := { plain "java/lang/Comparable" (some 0) with
  accessFlags := 1537
  interfaces := #[]
  cf := some (fileOf pool3 1 #[] #[] 1537 3 #[] #[])
  fields := #[]
  methods := #[]
  instanceTypes := #[]
  staticTypes := #[]
  resolved := Array.replicate 12 none
  statics := none }

def pool4 : Array CpInfo := pool [(1, .class_ 2), (0, u "java/io/Serializable"), (0, .class_ 4), (0, u "java/lang/Object")] 2

/-- java/io/Serializable -/
def k4 : Class := { plain "java/io/Serializable" (some 0) with
  accessFlags := 1537
  interfaces := #[]
  cf := some (fileOf pool4 1 #[] #[] 1537 3 #[] #[])
  fields := #[]
  methods := #[]
  instanceTypes := #[]
  staticTypes := #[]
  resolved := Array.replicate 7 none
  statics := none }

def pool5 : Array CpInfo := pool [(2, .class_ 4), (1, u "java/lang/Enum"), (0, u "name"), (0, u "Ljava/lang/String;"), (2, u "ordinal"), (0, u "I"), (1, .class_ 14), (1, u "java/lang/Object"), (4, u "hash"), (86, .class_ 108), (1, u "java/lang/Enum$EnumDesc"), (2, .class_ 112), (0, u "java/lang/constant/Constable"), (0, .class_ 114), (0, u "java/lang/Comparable"), (0, .class_ 116), (0, u "java/io/Serializable")] 87

/-- java/lang/Enum -/
def k5 : Class := { plain "java/lang/Enum" (some 0) with
  accessFlags := 1057
  interfaces := #[2, 3, 4]
  cf := some (fileOf pool5 2 #[.nestMembers #[106]] #[] 1057 12 #[111, 113, 115] #[{ accessFlags := 18, nameIndex := 5, descriptorIndex := 6, attributes := #[] }, { accessFlags := 18, nameIndex := 9, descriptorIndex := 10, attributes := #[] }, { accessFlags := 2, nameIndex := 19, descriptorIndex := 10, attributes := #[] }])
  fields := #[{ name := "name", type := (.object "java/lang/String"), accessFlags := 18, slot := 0, constantValue := 0 }, { name := "ordinal", type := .int, accessFlags := 18, slot := 1, constantValue := 0 }, { name := "hash", type := .int, accessFlags := 2, slot := 2, constantValue := 0 }]
  methods := #[]
  instanceTypes := #[(.object "java/lang/String"), .int, .int]
  staticTypes := #[]
  resolved := Array.replicate 204 none
  statics := none }

def pool6 : Array CpInfo := pool [(1, .class_ 2), (0, u "com/example/vigil_cache/vigilcache/HotKeyRule$WindowUnit"), (2, u "SECONDS"), (0, u "Lcom/example/vigil_cache/vigilcache/HotKeyRule$WindowUnit;"), (2, u "MILLISECONDS"), (2, u "$VALUES"), (0, u "[Lcom/example/vigil_cache/vigilcache/HotKeyRule$WindowUnit;"), (6, .class_ 22), (1, u "java/lang/Enum"), (8, u "suffix"), (0, u "Ljava/lang/String;"), (2, u "millis"), (0, u "J"), (36, .class_ 74), (0, u "com/example/vigil_cache/vigilcache/HotKeyRule")] 2

/-- com/example/vigil_cache/vigilcache/HotKeyRule$WindowUnit -/
def k6 : Class := { plain "com/example/vigil_cache/vigilcache/HotKeyRule$WindowUnit" (some 5) with
  accessFlags := 16433
  interfaces := #[]
  cf := some (fileOf pool6 1 #[.nestHost 73] #[] 16433 20 #[] #[{ accessFlags := 16409, nameIndex := 5, descriptorIndex := 6, attributes := #[] }, { accessFlags := 16409, nameIndex := 9, descriptorIndex := 6, attributes := #[] }, { accessFlags := 18, nameIndex := 31, descriptorIndex := 32, attributes := #[] }, { accessFlags := 18, nameIndex := 35, descriptorIndex := 36, attributes := #[] }, { accessFlags := 4122, nameIndex := 12, descriptorIndex := 13, attributes := #[] }])
  fields := #[{ name := "SECONDS", type := (.object "com/example/vigil_cache/vigilcache/HotKeyRule$WindowUnit"), accessFlags := 16409, slot := 0, constantValue := 0 }, { name := "MILLISECONDS", type := (.object "com/example/vigil_cache/vigilcache/HotKeyRule$WindowUnit"), accessFlags := 16409, slot := 1, constantValue := 0 }, { name := "suffix", type := (.object "java/lang/String"), accessFlags := 18, slot := 3, constantValue := 0 }, { name := "millis", type := .long, accessFlags := 18, slot := 4, constantValue := 0 }, { name := "$VALUES", type := (.array (.object "com/example/vigil_cache/vigilcache/HotKeyRule$WindowUnit")), accessFlags := 4122, slot := 2, constantValue := 0 }]
  methods := #[]
  instanceTypes := #[(.object "java/lang/String"), .int, .int, (.object "java/lang/String"), .long]
  staticTypes := #[(.object "com/example/vigil_cache/vigilcache/HotKeyRule$WindowUnit"), (.object "com/example/vigil_cache/vigilcache/HotKeyRule$WindowUnit"), (.array (.object "com/example/vigil_cache/vigilcache/HotKeyRule$WindowUnit"))]
  resolved := Array.replicate 77 none
  statics := some 0 }

def pool7 : Array CpInfo := pool [(1, .methodref 2 3), (0, .class_ 4), (0, .nameAndType 5 6), (0, u "java/lang/Object"), (0, u "<init>"), (0, u "()V"), (0, .class_ 8), (0, u "java/lang/Record")] 13

def k7c0 : Code := { maxStack := 1, maxLocals := 1, code := jdk_30_method_1_code, exceptionTable := #[], attributes := #[] }
def k7m0 : Method := { name := "<init>", desc := "()V", sig := { parameters := [], returnType := none }, accessFlags := 4, code := some k7c0 }
/-- java/lang/Record -/
def k7 : Class := { plain "java/lang/Record" (some 0) with
  accessFlags := 1057
  interfaces := #[]
  cf := some (fileOf pool7 7 #[] #[{ accessFlags := 4, nameIndex := 5, descriptorIndex := 6, attributes := #[] }] 1057 2 #[] #[])
  fields := #[]
  methods := #[k7m0]
  instanceTypes := #[]
  staticTypes := #[]
  resolved := Array.replicate 22 none
  statics := none }

def pool8 : Array CpInfo := pool [(1, .methodref 2 3), (0, .class_ 4), (0, .nameAndType 5 6), (0, u "java/lang/Record"), (0, u "<init>"), (0, u "()V"), (0, .string 8), (0, u "windowUnit"), (0, .methodref 10 11), (0, .class_ 12), (0, .nameAndType 13 14), (0, u "java/util/Objects"), (0, u "requireNonNull"), (0, u "(Ljava/lang/Object;Ljava/lang/String;)Ljava/lang/Object;"), (2, .class_ 18), (0, u "java/lang/StringBuilder"), (0, .methodref 17 3), (2, .methodref 17 23), (0, .nameAndType 24 25), (0, u "append"), (0, u "(Ljava/lang/String;)Ljava/lang/StringBuilder;"), (3, .methodref 17 30), (0, .nameAndType 31 32), (0, u "toString"), (0, u "()Ljava/lang/String;"), (3, .methodref 37 38), (0, .class_ 39), (0, .nameAndType 40 41), (0, u "com/example/vigil_cache/vigilcache/HotKeyRule"), (0, u "checkWindow"), (0, u "(JLcom/example/vigil_cache/vigilcache/HotKeyRule$WindowUnit;)V"), (0, .fieldref 37 43), (0, .nameAndType 44 45), (0, u "requests"), (0, u "I"), (0, .fieldref 37 47), (0, .nameAndType 48 49), (0, u "windowLength"), (0, u "J"), (0, .fieldref 37 51), (0, .nameAndType 8 52), (0, u "Lcom/example/vigil_cache/vigilcache/HotKeyRule$WindowUnit;"), (12, u "FORM"), (0, u "Ljava/util/regex/Pattern;"), (22, u "FORMS"), (0, u "Ljava/lang/String;"), (23, u "(IJLcom/example/vigil_cache/vigilcache/HotKeyRule$WindowUnit;)V"), (9, u "WINDOW_FORM"), (2, u "WINDOW_FORMS"), (1, .class_ 131), (1, u "com/example/vigil_cache/vigilcache/HotKeyRule$WindowUnit"), (11, .fieldref 129 144), (0, .nameAndType 145 49), (0, u "millis"), (3, .methodref 17 150), (0, .nameAndType 24 151), (0, u "(J)Ljava/lang/StringBuilder;"), (0, .fieldref 129 153), (0, .nameAndType 154 90), (0, u "suffix"), (4, u "windowAsWritten"), (22, .long 9223372036854775807), (37, u "WINDOW"), (1, u "TOO_LONG")] 41

def k8c0 : Code := { maxStack := 4, maxLocals := 5, code := prog_23_method_1_code, exceptionTable := #[], attributes := #[] }
def k8m0 : Method := { name := "<init>", desc := "(IJLcom/example/vigil_cache/vigilcache/HotKeyRule$WindowUnit;)V", sig := { parameters := [.int, .long, (.object "com/example/vigil_cache/vigilcache/HotKeyRule$WindowUnit")], returnType := none }, accessFlags := 1, code := some k8c0 }
def k8c1 : Code := { maxStack := 3, maxLocals := 1, code := prog_23_method_6_code, exceptionTable := #[], attributes := #[] }
def k8m1 : Method := { name := "windowAsWritten", desc := "()Ljava/lang/String;", sig := { parameters := [], returnType := some (.object "java/lang/String") }, accessFlags := 0, code := some k8c1 }
def k8c2 : Code := { maxStack := 6, maxLocals := 3, code := prog_23_method_11_code, exceptionTable := #[], attributes := #[] }
def k8m2 : Method := { name := "checkWindow", desc := "(JLcom/example/vigil_cache/vigilcache/HotKeyRule$WindowUnit;)V", sig := { parameters := [.long, (.object "com/example/vigil_cache/vigilcache/HotKeyRule$WindowUnit")], returnType := none }, accessFlags := 10, code := some k8c2 }
/-- com/example/vigil_cache/vigilcache/HotKeyRule -/
def k8 : Class := { plain "com/example/vigil_cache/vigilcache/HotKeyRule" (some 7) with
  accessFlags := 49
  interfaces := #[]
  cf := some (fileOf pool8 37 #[.nestMembers #[129]] #[{ accessFlags := 1, nameIndex := 5, descriptorIndex := 114, attributes := #[] }, { accessFlags := 0, nameIndex := 159, descriptorIndex := 32, attributes := #[] }, { accessFlags := 10, nameIndex := 40, descriptorIndex := 41, attributes := #[] }] 49 2 #[] #[{ accessFlags := 18, nameIndex := 44, descriptorIndex := 45, attributes := #[] }, { accessFlags := 18, nameIndex := 48, descriptorIndex := 49, attributes := #[] }, { accessFlags := 18, nameIndex := 8, descriptorIndex := 52, attributes := #[] }, { accessFlags := 26, nameIndex := 220, descriptorIndex := 90, attributes := #[] }, { accessFlags := 26, nameIndex := 65, descriptorIndex := 66, attributes := #[] }, { accessFlags := 26, nameIndex := 124, descriptorIndex := 66, attributes := #[] }, { accessFlags := 26, nameIndex := 89, descriptorIndex := 90, attributes := #[] }, { accessFlags := 26, nameIndex := 127, descriptorIndex := 90, attributes := #[] }, { accessFlags := 26, nameIndex := 222, descriptorIndex := 90, attributes := #[] }])
  fields := #[{ name := "requests", type := .int, accessFlags := 18, slot := 0, constantValue := 0 }, { name := "windowLength", type := .long, accessFlags := 18, slot := 1, constantValue := 0 }, { name := "windowUnit", type := (.object "com/example/vigil_cache/vigilcache/HotKeyRule$WindowUnit"), accessFlags := 18, slot := 2, constantValue := 0 }, { name := "WINDOW", type := (.object "java/lang/String"), accessFlags := 26, slot := 0, constantValue := 0 }, { name := "FORM", type := (.object "java/util/regex/Pattern"), accessFlags := 26, slot := 1, constantValue := 0 }, { name := "WINDOW_FORM", type := (.object "java/util/regex/Pattern"), accessFlags := 26, slot := 2, constantValue := 0 }, { name := "FORMS", type := (.object "java/lang/String"), accessFlags := 26, slot := 3, constantValue := 0 }, { name := "WINDOW_FORMS", type := (.object "java/lang/String"), accessFlags := 26, slot := 4, constantValue := 0 }, { name := "TOO_LONG", type := (.object "java/lang/String"), accessFlags := 26, slot := 5, constantValue := 0 }]
  methods := #[k8m0, k8m1, k8m2]
  instanceTypes := #[.int, .long, (.object "com/example/vigil_cache/vigilcache/HotKeyRule$WindowUnit")]
  staticTypes := #[(.object "java/lang/String"), (.object "java/util/regex/Pattern"), (.object "java/util/regex/Pattern"), (.object "java/lang/String"), (.object "java/lang/String"), (.object "java/lang/String")]
  resolved := Array.replicate 143 none ++ #[some (.field 6 3)] ++ Array.replicate 8 none ++ #[some (.field 6 2)] ++ Array.replicate 111 none
  statics := none }

def pool9 : Array CpInfo := pool [(2, .class_ 4), (1, u "java/lang/CharSequence"), (42, .class_ 48), (0, u "java/lang/CharSequence$1CodePointIterator"), (10, .class_ 60), (0, u "java/lang/CharSequence$1CharIterator"), (5, .class_ 67), (0, u "java/lang/Object")] 63

/-- java/lang/CharSequence -/
def k9 : Class := { plain "java/lang/CharSequence" (some 0) with
  accessFlags := 1537
  interfaces := #[]
  cf := some (fileOf pool9 2 #[.nestMembers #[47, 59]] #[] 1537 66 #[] #[])
  fields := #[]
  methods := #[]
  instanceTypes := #[]
  staticTypes := #[]
  resolved := Array.replicate 131 none
  statics := none }

def pool10 : Array CpInfo := pool [(1, .class_ 2), (0, u "java/lang/constant/ConstantDesc"), (0, .class_ 4), (0, u "java/lang/Object")] 32

/-- java/lang/constant/ConstantDesc -/
def k10 : Class := { plain "java/lang/constant/ConstantDesc" (some 0) with
  accessFlags := 1537
  interfaces := #[]
  cf := some (fileOf pool10 1 #[] #[] 1537 3 #[] #[])
  fields := #[]
  methods := #[]
  instanceTypes := #[]
  staticTypes := #[]
  resolved := Array.replicate 37 none
  statics := none }

def pool11 : Array CpInfo := pool [(1, .methodref 2 3), (0, .class_ 4), (0, .nameAndType 5 6), (0, u "java/lang/Object"), (0, u "<init>"), (0, u "()V"), (2, .fieldref 10 11), (0, .class_ 12), (0, .nameAndType 13 14), (0, u "java/lang/String"), (0, u "value"), (0, u "[B"), (0, .fieldref 10 16), (0, .nameAndType 17 18), (0, u "coder"), (0, u "B"), (2, u "hash"), (0, u "I"), (2, u "hashIsZero"), (0, u "Z"), (11, .fieldref 10 39), (0, .nameAndType 40 26), (0, u "COMPACT_STRINGS"), (13, .methodref 55 56), (0, .class_ 57), (0, .nameAndType 58 59), (0, u "java/util/Arrays"), (0, u "copyOfRange"), (0, u "([BII)[B"), (47, .class_ 109), (1, u "java/lang/StringLatin1"), (32, u "()Z"), (50, .class_ 195), (1, u "java/lang/System"), (16, .methodref 193 213), (0, .nameAndType 214 215), (0, u "arraycopy"), (0, u "(Ljava/lang/Object;ILjava/lang/Object;II)V"), (118, u "()I"), (0, .methodref 10 336), (0, .nameAndType 17 337), (0, u "()B"), (2, u "()[B"), (22, u "([BI)C"), (27, u "(II)V"), (35, u "(I)C"), (61, .methodref 10 490), (0, .nameAndType 5 491), (0, u "(Ljava/lang/AbstractStringBuilder;Ljava/lang/Void;)V"), (0, .methodref 10 493), (0, .nameAndType 494 142), (0, u "isLatin1"), (0, .methodref 107 496), (0, .nameAndType 497 363), (0, u "charAt"), (3, u "checkIndex"), (4, .nameAndType 507 334), (0, u "length"), (24, u "getBytes"), (16, .methodref 550 506), (0, .class_ 551), (0, u "java/lang/AbstractStringBuilder"), (0, .methodref 550 553), (0, .nameAndType 554 340), (0, u "getValue"), (20, .class_ 576), (0, u "java/lang/CharSequence"), (22, u "CASE_INSENSITIVE_ORDER"), (0, u "Ljava/util/Comparator;"), (220, u "([BIB)V"), (225, .methodref 550 493), (5, .fieldref 1054 1055), (0, .class_ 1056), (0, .nameAndType 1057 1058), (0, u "jdk/internal/util/Preconditions"), (0, u "SIOOBE_FORMATTER"), (0, u "Ljava/util/function/BiFunction;"), (0, .methodref 1054 1060), (0, .nameAndType 501 1061), (0, u "(IILjava/util/function/BiFunction;)I"), (39, u "serialPersistentFields"), (0, u "[Ljava/io/ObjectStreamField;"), (0, .class_ 1104), (0, u "java/lang/String$CaseInsensitiveComparator"), (1, .class_ 1107), (0, u "java/io/Serializable"), (0, .class_ 1109), (0, u "java/lang/Comparable"), (0, .class_ 1111), (0, u "java/lang/constant/Constable"), (0, .class_ 1113), (0, u "java/lang/constant/ConstantDesc"), (2, u "serialVersionUID"), (0, u "J"), (3, u "REPL"), (0, u "C"), (2, u "LATIN1"), (1, u "UTF16"), (105, u "(Ljava/lang/StringBuilder;)V")] 217

def k11m0 : Method := { name := "<init>", desc := "()V", sig := { parameters := [], returnType := none }, accessFlags := 1, code := none }
def k11c1 : Code := { maxStack := 3, maxLocals := 2, code := jdk_42_method_53_code, exceptionTable := #[], attributes := #[] }
def k11m1 : Method := { name := "<init>", desc := "(Ljava/lang/StringBuilder;)V", sig := { parameters := [(.object "java/lang/StringBuilder")], returnType := none }, accessFlags := 1, code := some k11c1 }
def k11c2 : Code := { maxStack := 2, maxLocals := 1, code := jdk_42_method_54_code, exceptionTable := #[], attributes := #[] }
def k11m2 : Method := { name := "length", desc := "()I", sig := { parameters := [], returnType := some .int }, accessFlags := 1, code := some k11c2 }
def k11c3 : Code := { maxStack := 2, maxLocals := 2, code := jdk_42_method_56_code, exceptionTable := #[], attributes := #[] }
def k11m3 : Method := { name := "charAt", desc := "(I)C", sig := { parameters := [.int], returnType := some .char }, accessFlags := 1, code := some k11c3 }
def k11c4 : Code := { maxStack := 5, maxLocals := 4, code := jdk_42_method_147_code, exceptionTable := #[], attributes := #[] }
def k11m4 : Method := { name := "getBytes", desc := "([BIB)V", sig := { parameters := [(.array .byte), .int, .byte], returnType := none }, accessFlags := 0, code := some k11c4 }
def k11c5 : Code := { maxStack := 5, maxLocals := 5, code := jdk_42_method_150_code, exceptionTable := #[], attributes := #[] }
def k11m5 : Method := { name := "<init>", desc := "(Ljava/lang/AbstractStringBuilder;Ljava/lang/Void;)V", sig := { parameters := [(.object "java/lang/AbstractStringBuilder"), (.object "java/lang/Void")], returnType := none }, accessFlags := 0, code := some k11c5 }
def k11c6 : Code := { maxStack := 1, maxLocals := 1, code := jdk_42_method_152_code, exceptionTable := #[], attributes := #[] }
def k11m6 : Method := { name := "coder", desc := "()B", sig := { parameters := [], returnType := some .byte }, accessFlags := 0, code := some k11c6 }
def k11c7 : Code := { maxStack := 1, maxLocals := 1, code := jdk_42_method_154_code, exceptionTable := #[], attributes := #[] }
def k11m7 : Method := { name := "isLatin1", desc := "()Z", sig := { parameters := [], returnType := some .boolean }, accessFlags := 0, code := some k11c7 }
def k11c8 : Code := { maxStack := 3, maxLocals := 2, code := jdk_42_method_155_code, exceptionTable := #[], attributes := #[] }
def k11m8 : Method := { name := "checkIndex", desc := "(II)V", sig := { parameters := [.int, .int], returnType := none }, accessFlags := 8, code := some k11c8 }
/-- java/lang/String -/
def k11 : Class := { plain "java/lang/String" (some 0) with
  accessFlags := 49
  interfaces := #[4, 3, 9, 2, 10]
  cf := some (fileOf pool11 10 #[.nestMembers #[1103]] #[{ accessFlags := 1, nameIndex := 5, descriptorIndex := 6, attributes := #[] }, { accessFlags := 1, nameIndex := 5, descriptorIndex := 1233, attributes := #[] }, { accessFlags := 1, nameIndex := 507, descriptorIndex := 334, attributes := #[] }, { accessFlags := 1, nameIndex := 497, descriptorIndex := 427, attributes := #[] }, { accessFlags := 0, nameIndex := 532, descriptorIndex := 821, attributes := #[] }, { accessFlags := 0, nameIndex := 5, descriptorIndex := 491, attributes := #[] }, { accessFlags := 0, nameIndex := 17, descriptorIndex := 337, attributes := #[] }, { accessFlags := 0, nameIndex := 494, descriptorIndex := 142, attributes := #[] }, { accessFlags := 8, nameIndex := 501, descriptorIndex := 391, attributes := #[] }] 49 2 #[1106, 1108, 575, 1110, 1112] #[{ accessFlags := 18, nameIndex := 13, descriptorIndex := 14, attributes := #[] }, { accessFlags := 18, nameIndex := 17, descriptorIndex := 18, attributes := #[] }, { accessFlags := 2, nameIndex := 21, descriptorIndex := 22, attributes := #[] }, { accessFlags := 2, nameIndex := 25, descriptorIndex := 26, attributes := #[] }, { accessFlags := 26, nameIndex := 1116, descriptorIndex := 1117, attributes := #[] }, { accessFlags := 24, nameIndex := 40, descriptorIndex := 26, attributes := #[] }, { accessFlags := 26, nameIndex := 1101, descriptorIndex := 1102, attributes := #[] }, { accessFlags := 26, nameIndex := 1121, descriptorIndex := 1122, attributes := #[] }, { accessFlags := 25, nameIndex := 599, descriptorIndex := 600, attributes := #[] }, { accessFlags := 24, nameIndex := 1125, descriptorIndex := 18, attributes := #[] }, { accessFlags := 24, nameIndex := 1127, descriptorIndex := 18, attributes := #[] }])
  fields := #[{ name := "value", type := (.array .byte), accessFlags := 18, slot := 0, constantValue := 0 }, { name := "coder", type := .byte, accessFlags := 18, slot := 1, constantValue := 0 }, { name := "hash", type := .int, accessFlags := 2, slot := 2, constantValue := 0 }, { name := "hashIsZero", type := .boolean, accessFlags := 2, slot := 3, constantValue := 0 }, { name := "serialVersionUID", type := .long, accessFlags := 26, slot := 0, constantValue := 0 }, { name := "COMPACT_STRINGS", type := .boolean, accessFlags := 24, slot := 1, constantValue := 0 }, { name := "serialPersistentFields", type := (.array (.object "java/io/ObjectStreamField")), accessFlags := 26, slot := 2, constantValue := 0 }, { name := "REPL", type := .char, accessFlags := 26, slot := 3, constantValue := 0 }, { name := "CASE_INSENSITIVE_ORDER", type := (.object "java/util/Comparator"), accessFlags := 25, slot := 4, constantValue := 0 }, { name := "LATIN1", type := .byte, accessFlags := 24, slot := 5, constantValue := 0 }, { name := "UTF16", type := .byte, accessFlags := 24, slot := 6, constantValue := 0 }]
  methods := #[k11m0, k11m1, k11m2, k11m3, k11m4, k11m5, k11m6, k11m7, k11m8]
  instanceTypes := #[(.array .byte), .byte, .int, .boolean]
  staticTypes := #[.long, .boolean, (.array (.object "java/io/ObjectStreamField")), .char, (.object "java/util/Comparator"), .byte, .byte]
  resolved := Array.replicate 1451 none
  statics := some 1 }

def pool12 : Array CpInfo := pool [(2, .class_ 4), (1, u "java/lang/Object"), (0, u "<init>"), (0, u "()V"), (35, .class_ 44), (1, u "java/util/Objects"), (0, u "requireNonNull"), (48, u "(Ljava/lang/Object;Ljava/lang/String;)Ljava/lang/Object;")] 89

def k12m0 : Method := { name := "<init>", desc := "()V", sig := { parameters := [], returnType := none }, accessFlags := 2, code := none }
def k12c1 : Code := { maxStack := 3, maxLocals := 2, code := jdk_31_method_11_code, exceptionTable := #[], attributes := #[] }
def k12m1 : Method := { name := "requireNonNull", desc := "(Ljava/lang/Object;Ljava/lang/String;)Ljava/lang/Object;", sig := { parameters := [(.object "java/lang/Object"), (.object "java/lang/String")], returnType := some (.object "java/lang/Object") }, accessFlags := 9, code := some k12c1 }
/-- java/util/Objects -/
def k12 : Class := { plain "java/util/Objects" (some 0) with
  accessFlags := 49
  interfaces := #[]
  cf := some (fileOf pool12 42 #[] #[{ accessFlags := 2, nameIndex := 5, descriptorIndex := 6, attributes := #[] }, { accessFlags := 9, nameIndex := 45, descriptorIndex := 94, attributes := #[] }] 49 2 #[] #[])
  fields := #[]
  methods := #[k12m0, k12m1]
  instanceTypes := #[]
  staticTypes := #[]
  resolved := Array.replicate 184 none
  statics := none }

def pool13 : Array CpInfo := pool [(1, .class_ 2), (0, u "java/lang/Appendable"), (0, .class_ 4), (0, u "java/lang/Object")] 9

/-- java/lang/Appendable -/
def k13 : Class := { plain "java/lang/Appendable" (some 0) with
  accessFlags := 1537
  interfaces := #[]
  cf := some (fileOf pool13 1 #[] #[] 1537 3 #[] #[])
  fields := #[]
  methods := #[]
  instanceTypes := #[]
  staticTypes := #[]
  resolved := Array.replicate 14 none
  statics := none }

def pool14 : Array CpInfo := pool [(1, .class_ 2), (0, u "java/lang/String"), (0, .methodref 4 5), (0, .class_ 6), (0, .nameAndType 7 8), (0, u "java/lang/Object"), (0, u "<init>"), (0, u "()V"), (1, .class_ 12), (1, u "java/lang/AbstractStringBuilder"), (0, u "EMPTYVALUE"), (0, u "[B"), (0, .fieldref 10 16), (0, .nameAndType 17 14), (0, u "value"), (0, .fieldref 1 19), (0, .nameAndType 20 21), (0, u "COMPACT_STRINGS"), (0, u "Z"), (0, .fieldref 10 23), (0, .nameAndType 24 25), (0, u "coder"), (0, u "B"), (6, .methodref 1 33), (0, .nameAndType 34 35), (0, u "length"), (0, u "()I"), (3, .integer 2147483647), (0, .methodref 1 41), (0, .nameAndType 24 42), (0, u "()B"), (2, u "append"), (0, u "(Ljava/lang/String;)Ljava/lang/AbstractStringBuilder;"), (1, .class_ 49), (0, u "java/lang/CharSequence"), (19, u "(Ljava/lang/String;)V"), (5, u "maybeLatin1"), (3, .fieldref 10 80), (0, .nameAndType 81 82), (0, u "count"), (0, u "I"), (0, .methodref 10 84), (0, .nameAndType 85 86), (0, u "isLatin1"), (0, u "()Z"), (13, .methodref 10 101), (0, .nameAndType 102 103), (0, u "ensureCapacityInternal"), (0, u "(I)V"), (0, .methodref 10 105), (0, .nameAndType 106 107), (0, u "newCapacity"), (0, u "(I)I"), (0, .methodref 109 110), (0, .class_ 111), (0, .nameAndType 112 113), (0, u "java/util/Arrays"), (0, u "copyOf"), (0, u "([BI)[B"), (0, .methodref 115 116), (0, .class_ 117), (0, .nameAndType 118 119), (0, u "jdk/internal/util/ArraysSupport"), (0, u "newLength"), (0, u "(III)I"), (68, u "getChars"), (19, .methodref 10 209), (0, .nameAndType 210 211), (0, u "putStringAt"), (0, u "(ILjava/lang/String;)V"), (5, u "inflateIfNeededFor"), (2, .nameAndType 221 222), (0, u "getBytes"), (0, u "([BIB)V"), (24, u "stringSize"), (6, .methodref 255 256), (0, .class_ 257), (0, .nameAndType 247 258), (0, u "java/lang/Long"), (0, u "(J)I"), (0, .methodref 255 260), (0, .nameAndType 188 261), (0, u "(JI[B)I"), (135, .methodref 10 398), (0, .nameAndType 217 69), (0, .methodref 1 220), (3, u "()[B"), (40, .class_ 445), (0, u "java/lang/Appendable"), (67, u "(J)Ljava/lang/AbstractStringBuilder;"), (38, u "getValue")] 56

def k14m0 : Method := { name := "<init>", desc := "()V", sig := { parameters := [], returnType := none }, accessFlags := 0, code := none }
def k14c1 : Code := { maxStack := 2, maxLocals := 2, code := jdk_68_method_2_code, exceptionTable := #[], attributes := #[] }
def k14m1 : Method := { name := "<init>", desc := "(I)V", sig := { parameters := [.int], returnType := none }, accessFlags := 0, code := some k14c1 }
def k14c2 : Code := { maxStack := 1, maxLocals := 1, code := jdk_68_method_6_code, exceptionTable := #[], attributes := #[] }
def k14m2 : Method := { name := "length", desc := "()I", sig := { parameters := [], returnType := some .int }, accessFlags := 1, code := some k14c2 }
def k14c3 : Code := { maxStack := 4, maxLocals := 3, code := jdk_68_method_9_code, exceptionTable := #[], attributes := #[] }
def k14m3 : Method := { name := "ensureCapacityInternal", desc := "(I)V", sig := { parameters := [.int], returnType := none }, accessFlags := 2, code := some k14c3 }
def k14c4 : Code := { maxStack := 5, maxLocals := 6, code := jdk_68_method_10_code, exceptionTable := #[], attributes := #[] }
def k14m4 : Method := { name := "newCapacity", desc := "(I)I", sig := { parameters := [.int], returnType := some .int }, accessFlags := 2, code := some k14c4 }
def k14c5 : Code := { maxStack := 3, maxLocals := 3, code := jdk_68_method_22_code, exceptionTable := #[], attributes := #[] }
def k14m5 : Method := { name := "append", desc := "(Ljava/lang/String;)Ljava/lang/AbstractStringBuilder;", sig := { parameters := [(.object "java/lang/String")], returnType := some (.object "java/lang/AbstractStringBuilder") }, accessFlags := 1, code := some k14c5 }
def k14c6 : Code := { maxStack := 5, maxLocals := 5, code := jdk_68_method_33_code, exceptionTable := #[], attributes := #[] }
def k14m6 : Method := { name := "append", desc := "(J)Ljava/lang/AbstractStringBuilder;", sig := { parameters := [.long], returnType := some (.object "java/lang/AbstractStringBuilder") }, accessFlags := 1, code := some k14c6 }
def k14c7 : Code := { maxStack := 1, maxLocals := 1, code := jdk_68_method_64_code, exceptionTable := #[], attributes := #[] }
def k14m7 : Method := { name := "getValue", desc := "()[B", sig := { parameters := [], returnType := some (.array .byte) }, accessFlags := 16, code := some k14c7 }
def k14c8 : Code := { maxStack := 1, maxLocals := 1, code := jdk_68_method_68_code, exceptionTable := #[], attributes := #[] }
def k14m8 : Method := { name := "isLatin1", desc := "()Z", sig := { parameters := [], returnType := some .boolean }, accessFlags := 16, code := some k14c8 }
def k14c9 : Code := { maxStack := 2, maxLocals := 2, code := jdk_68_method_71_code, exceptionTable := #[], attributes := #[] }
def k14m9 : Method := { name := "inflateIfNeededFor", desc := "(Ljava/lang/String;)V", sig := { parameters := [(.object "java/lang/String")], returnType := none }, accessFlags := 2, code := some k14c9 }
def k14c10 : Code := { maxStack := 4, maxLocals := 3, code := jdk_68_method_73_code, exceptionTable := #[], attributes := #[] }
def k14m10 : Method := { name := "putStringAt", desc := "(ILjava/lang/String;)V", sig := { parameters := [.int, (.object "java/lang/String")], returnType := none }, accessFlags := 2, code := some k14c10 }
/-- java/lang/AbstractStringBuilder -/
def k14 : Class := { plain "java/lang/AbstractStringBuilder" (some 0) with
  accessFlags := 1056
  interfaces := #[13, 9]
  cf := some (fileOf pool14 10 #[] #[{ accessFlags := 0, nameIndex := 7, descriptorIndex := 8, attributes := #[] }, { accessFlags := 0, nameIndex := 7, descriptorIndex := 103, attributes := #[] }, { accessFlags := 1, nameIndex := 34, descriptorIndex := 35, attributes := #[] }, { accessFlags := 2, nameIndex := 102, descriptorIndex := 103, attributes := #[] }, { accessFlags := 2, nameIndex := 106, descriptorIndex := 107, attributes := #[] }, { accessFlags := 1, nameIndex := 45, descriptorIndex := 46, attributes := #[] }, { accessFlags := 1, nameIndex := 45, descriptorIndex := 513, attributes := #[] }, { accessFlags := 16, nameIndex := 552, descriptorIndex := 403, attributes := #[] }, { accessFlags := 16, nameIndex := 85, descriptorIndex := 86, attributes := #[] }, { accessFlags := 2, nameIndex := 217, descriptorIndex := 69, attributes := #[] }, { accessFlags := 2, nameIndex := 210, descriptorIndex := 211, attributes := #[] }] 1056 4 #[444, 48] #[{ accessFlags := 0, nameIndex := 17, descriptorIndex := 14, attributes := #[] }, { accessFlags := 0, nameIndex := 24, descriptorIndex := 25, attributes := #[] }, { accessFlags := 0, nameIndex := 75, descriptorIndex := 21, attributes := #[] }, { accessFlags := 0, nameIndex := 81, descriptorIndex := 82, attributes := #[] }, { accessFlags := 26, nameIndex := 13, descriptorIndex := 14, attributes := #[] }])
  fields := #[{ name := "value", type := (.array .byte), accessFlags := 0, slot := 0, constantValue := 0 }, { name := "coder", type := .byte, accessFlags := 0, slot := 1, constantValue := 0 }, { name := "maybeLatin1", type := .boolean, accessFlags := 0, slot := 2, constantValue := 0 }, { name := "count", type := .int, accessFlags := 0, slot := 3, constantValue := 0 }, { name := "EMPTYVALUE", type := (.array .byte), accessFlags := 26, slot := 0, constantValue := 0 }]
  methods := #[k14m0, k14m1, k14m2, k14m3, k14m4, k14m5, k14m6, k14m7, k14m8, k14m9, k14m10]
  instanceTypes := #[(.array .byte), .byte, .boolean, .int]
  staticTypes := #[(.array .byte)]
  resolved := Array.replicate 609 none
  statics := none }

def pool15 : Array CpInfo := pool [(1, .methodref 2 3), (0, .class_ 4), (0, .nameAndType 5 6), (0, u "java/lang/AbstractStringBuilder"), (0, u "<init>"), (0, u "(I)V"), (11, .class_ 20), (1, u "java/lang/String"), (3, .class_ 26), (1, u "java/lang/StringBuilder"), (0, u "append"), (0, u "(Ljava/lang/String;)Ljava/lang/StringBuilder;"), (0, .methodref 2 30), (0, .nameAndType 27 31), (0, u "(Ljava/lang/String;)Ljava/lang/AbstractStringBuilder;"), (24, .methodref 2 57), (0, .nameAndType 27 58), (0, u "(J)Ljava/lang/AbstractStringBuilder;"), (78, .methodref 18 138), (0, .nameAndType 5 139), (0, u "(Ljava/lang/StringBuilder;)V"), (5, u "()V"), (10, u "()I"), (124, u "(J)Ljava/lang/StringBuilder;"), (61, .methodref 2 344), (0, .nameAndType 345 156), (0, u "length"), (3, .class_ 350), (0, u "java/lang/Appendable"), (0, .class_ 352), (0, u "java/io/Serializable"), (0, .class_ 354), (0, u "java/lang/Comparable"), (0, .class_ 356), (0, u "java/lang/CharSequence"), (0, u "serialVersionUID"), (0, u "J"), (40, u "toString"), (0, u "()Ljava/lang/String;")] 21

def k15c0 : Code := { maxStack := 2, maxLocals := 1, code := jdk_67_method_1_code, exceptionTable := #[], attributes := #[] }
def k15m0 : Method := { name := "<init>", desc := "()V", sig := { parameters := [], returnType := none }, accessFlags := 1, code := some k15c0 }
def k15c1 : Code := { maxStack := 2, maxLocals := 2, code := jdk_67_method_7_code, exceptionTable := #[], attributes := #[] }
def k15m1 : Method := { name := "append", desc := "(Ljava/lang/String;)Ljava/lang/StringBuilder;", sig := { parameters := [(.object "java/lang/String")], returnType := some (.object "java/lang/StringBuilder") }, accessFlags := 1, code := some k15c1 }
def k15c2 : Code := { maxStack := 3, maxLocals := 3, code := jdk_67_method_16_code, exceptionTable := #[], attributes := #[] }
def k15m2 : Method := { name := "append", desc := "(J)Ljava/lang/StringBuilder;", sig := { parameters := [.long], returnType := some (.object "java/lang/StringBuilder") }, accessFlags := 1, code := some k15c2 }
def k15c3 : Code := { maxStack := 3, maxLocals := 1, code := jdk_67_method_42_code, exceptionTable := #[], attributes := #[] }
def k15m3 : Method := { name := "toString", desc := "()Ljava/lang/String;", sig := { parameters := [], returnType := some (.object "java/lang/String") }, accessFlags := 1, code := some k15c3 }
def k15c4 : Code := { maxStack := 1, maxLocals := 1, code := jdk_67_method_93_code, exceptionTable := #[], attributes := #[] }
def k15m4 : Method := { name := "length", desc := "()I", sig := { parameters := [], returnType := some .int }, accessFlags := 4161, code := some k15c4 }
/-- java/lang/StringBuilder -/
def k15 : Class := { plain "java/lang/StringBuilder" (some 14) with
  accessFlags := 49
  interfaces := #[13, 4, 3, 9]
  cf := some (fileOf pool15 24 #[] #[{ accessFlags := 1, nameIndex := 5, descriptorIndex := 145, attributes := #[] }, { accessFlags := 1, nameIndex := 27, descriptorIndex := 28, attributes := #[] }, { accessFlags := 1, nameIndex := 27, descriptorIndex := 281, attributes := #[] }, { accessFlags := 1, nameIndex := 399, descriptorIndex := 400, attributes := #[] }, { accessFlags := 4161, nameIndex := 345, descriptorIndex := 156, attributes := #[] }] 49 2 #[349, 351, 353, 355] #[{ accessFlags := 24, nameIndex := 357, descriptorIndex := 358, attributes := #[] }])
  fields := #[{ name := "serialVersionUID", type := .long, accessFlags := 24, slot := 0, constantValue := 0 }]
  methods := #[k15m0, k15m1, k15m2, k15m3, k15m4]
  instanceTypes := #[(.array .byte), .byte, .boolean, .int]
  staticTypes := #[.long]
  resolved := Array.replicate 422 none
  statics := none }

def pool16 : Array CpInfo := pool [(2, .class_ 4), (1, u "java/lang/Object"), (0, u "<init>"), (0, u "()V"), (1, .class_ 10), (1, u "java/lang/Number"), (2, .class_ 14), (0, u "java/io/Serializable"), (0, u "serialVersionUID"), (0, u "J")] 20

def k16m0 : Method := { name := "<init>", desc := "()V", sig := { parameters := [], returnType := none }, accessFlags := 1, code := none }
/-- java/lang/Number -/
def k16 : Class := { plain "java/lang/Number" (some 0) with
  accessFlags := 1057
  interfaces := #[4]
  cf := some (fileOf pool16 8 #[] #[{ accessFlags := 1, nameIndex := 5, descriptorIndex := 6, attributes := #[] }] 1057 2 #[13] #[{ accessFlags := 26, nameIndex := 15, descriptorIndex := 16, attributes := #[] }])
  fields := #[{ name := "serialVersionUID", type := .long, accessFlags := 26, slot := 0, constantValue := 0 }]
  methods := #[k16m0]
  instanceTypes := #[]
  staticTypes := #[.long]
  resolved := Array.replicate 37 none
  statics := none }

def pool17 : Array CpInfo := pool [(1, .class_ 2), (0, u "java/lang/Long"), (15, .class_ 20), (1, u "java/lang/Integer"), (32, .long 10), (47, u "(J)I"), (18, u "stringSize"), (2, u "getChars"), (0, u "(JI[B)I"), (4, .long 18446744071562067968), (1, .long 100), (1, .fieldref 18 134), (0, .nameAndType 135 136), (0, u "DigitOnes"), (0, u "[B"), (0, .fieldref 18 138), (0, .nameAndType 139 136), (0, u "DigitTens"), (0, .long 18446744073709551606), (94, .class_ 237), (1, u "java/lang/Long$LongCache"), (33, .class_ 272), (0, u "java/lang/Number"), (2, u "value"), (0, u "J"), (84, u "TYPE"), (0, u "Ljava/lang/Class;"), (0, .class_ 364), (0, u "java/lang/Comparable"), (0, .class_ 366), (0, u "java/lang/constant/Constable"), (0, .class_ 368), (0, u "java/lang/constant/ConstantDesc"), (0, u "MIN_VALUE"), (1, u "MAX_VALUE"), (4, u "SIZE"), (0, u "I"), (1, u "BYTES"), (1, u "serialVersionUID")] 142

def k17c0 : Code := { maxStack := 4, maxLocals := 11, code := jdk_35_method_14_code, exceptionTable := #[], attributes := #[] }
def k17m0 : Method := { name := "getChars", desc := "(JI[B)I", sig := { parameters := [.long, .int, (.array .byte)], returnType := some .int }, accessFlags := 8, code := some k17c0 }
def k17c1 : Code := { maxStack := 4, maxLocals := 6, code := jdk_35_method_15_code, exceptionTable := #[], attributes := #[] }
def k17m1 : Method := { name := "stringSize", desc := "(J)I", sig := { parameters := [.long], returnType := some .int }, accessFlags := 8, code := some k17c1 }
/-- java/lang/Long -/
def k17 : Class := { plain "java/lang/Long" (some 16) with
  accessFlags := 49
  interfaces := #[3, 2, 10]
  cf := some (fileOf pool17 1 #[.nestMembers #[235]] #[{ accessFlags := 8, nameIndex := 123, descriptorIndex := 124, attributes := #[] }, { accessFlags := 8, nameIndex := 120, descriptorIndex := 101, attributes := #[] }] 49 271 #[363, 365, 367] #[{ accessFlags := 25, nameIndex := 369, descriptorIndex := 276, attributes := #[] }, { accessFlags := 25, nameIndex := 371, descriptorIndex := 276, attributes := #[] }, { accessFlags := 25, nameIndex := 361, descriptorIndex := 362, attributes := #[] }, { accessFlags := 18, nameIndex := 275, descriptorIndex := 276, attributes := #[] }, { accessFlags := 25, nameIndex := 376, descriptorIndex := 377, attributes := #[] }, { accessFlags := 25, nameIndex := 379, descriptorIndex := 377, attributes := #[] }, { accessFlags := 26, nameIndex := 381, descriptorIndex := 276, attributes := #[] }])
  fields := #[{ name := "MIN_VALUE", type := .long, accessFlags := 25, slot := 0, constantValue := 0 }, { name := "MAX_VALUE", type := .long, accessFlags := 25, slot := 1, constantValue := 0 }, { name := "TYPE", type := (.object "java/lang/Class"), accessFlags := 25, slot := 2, constantValue := 0 }, { name := "value", type := .long, accessFlags := 18, slot := 0, constantValue := 0 }, { name := "SIZE", type := .int, accessFlags := 25, slot := 3, constantValue := 0 }, { name := "BYTES", type := .int, accessFlags := 25, slot := 4, constantValue := 0 }, { name := "serialVersionUID", type := .long, accessFlags := 26, slot := 5, constantValue := 0 }]
  methods := #[k17m0, k17m1]
  instanceTypes := #[.long]
  staticTypes := #[.long, .long, (.object "java/lang/Class"), .int, .int, .long]
  resolved := Array.replicate 524 none
  statics := none }

def pool18 : Array CpInfo := pool [(1, .class_ 2), (0, u "java/lang/Integer"), (16, u "digits"), (0, u "[C"), (64, u "DigitOnes"), (0, u "[B"), (2, u "DigitTens"), (99, .class_ 190), (0, u "java/lang/Integer$IntegerCache"), (3, u "I"), (8, .class_ 204), (0, u "java/lang/Number"), (2, u "value"), (94, u "TYPE"), (0, u "Ljava/lang/Class;"), (0, .class_ 305), (0, u "java/lang/Comparable"), (0, .class_ 307), (0, u "java/lang/constant/Constable"), (0, .class_ 309), (0, u "java/lang/constant/ConstantDesc"), (0, u "MIN_VALUE"), (1, u "MAX_VALUE"), (3, u "SIZE"), (1, u "BYTES"), (1, u "serialVersionUID"), (0, u "J")] 131

/-- java/lang/Integer -/
def k18 : Class := { plain "java/lang/Integer" (some 16) with
  accessFlags := 49
  interfaces := #[3, 2, 10]
  cf := some (fileOf pool18 1 #[.nestMembers #[189]] #[] 49 203 #[304, 306, 308] #[{ accessFlags := 25, nameIndex := 310, descriptorIndex := 194, attributes := #[] }, { accessFlags := 25, nameIndex := 312, descriptorIndex := 194, attributes := #[] }, { accessFlags := 25, nameIndex := 302, descriptorIndex := 303, attributes := #[] }, { accessFlags := 24, nameIndex := 19, descriptorIndex := 20, attributes := #[] }, { accessFlags := 24, nameIndex := 89, descriptorIndex := 86, attributes := #[] }, { accessFlags := 24, nameIndex := 85, descriptorIndex := 86, attributes := #[] }, { accessFlags := 18, nameIndex := 207, descriptorIndex := 194, attributes := #[] }, { accessFlags := 25, nameIndex := 316, descriptorIndex := 194, attributes := #[] }, { accessFlags := 25, nameIndex := 318, descriptorIndex := 194, attributes := #[] }, { accessFlags := 26, nameIndex := 320, descriptorIndex := 321, attributes := #[] }])
  fields := #[{ name := "MIN_VALUE", type := .int, accessFlags := 25, slot := 0, constantValue := 0 }, { name := "MAX_VALUE", type := .int, accessFlags := 25, slot := 1, constantValue := 0 }, { name := "TYPE", type := (.object "java/lang/Class"), accessFlags := 25, slot := 2, constantValue := 0 }, { name := "digits", type := (.array .char), accessFlags := 24, slot := 3, constantValue := 0 }, { name := "DigitTens", type := (.array .byte), accessFlags := 24, slot := 4, constantValue := 0 }, { name := "DigitOnes", type := (.array .byte), accessFlags := 24, slot := 5, constantValue := 0 }, { name := "value", type := .int, accessFlags := 18, slot := 0, constantValue := 0 }, { name := "SIZE", type := .int, accessFlags := 25, slot := 6, constantValue := 0 }, { name := "BYTES", type := .int, accessFlags := 25, slot := 7, constantValue := 0 }, { name := "serialVersionUID", type := .long, accessFlags := 26, slot := 8, constantValue := 0 }]
  methods := #[]
  instanceTypes := #[.int]
  staticTypes := #[.int, .int, (.object "java/lang/Class"), (.array .char), (.array .byte), (.array .byte), .int, .int, .long]
  resolved := Array.replicate 453 none
  statics := some 2 }

def pool19 : Array CpInfo := pool [(2, .class_ 4), (1, u "java/lang/Object"), (0, u "<init>"), (0, u "()V"), (1, .class_ 10), (1, u "java/lang/System"), (0, u "allowSecurityManager"), (0, u "I"), (16, u "cons"), (0, u "Ljava/io/Console;"), (77, .class_ 110), (1, u "java/lang/System$CallersHolder"), (43, u "initialErrStream"), (0, u "Ljava/io/PrintStream;"), (19, u "security"), (0, u "Ljava/lang/SecurityManager;"), (31, .class_ 209), (0, u "java/lang/System$1"), (7, u "props"), (0, u "Ljava/util/Properties;"), (2, u "lineSeparator"), (0, u "Ljava/lang/String;"), (96, .class_ 321), (1, u "java/lang/System$LoggerFinder"), (5, .class_ 328), (0, u "java/lang/System$Logger"), (67, u "err"), (2, u "out"), (91, u "notSupportedJnuEncoding"), (15, u "in"), (17, u "initialIn"), (0, u "Ljava/io/InputStream;"), (35, u "bootLayer"), (0, u "Ljava/lang/ModuleLayer;"), (99, .class_ 664), (0, u "java/lang/System$2"), (9, u "NEVER"), (2, u "MAYBE"), (49, u "arraycopy"), (0, u "(Ljava/lang/Object;ILjava/lang/Object;II)V"), (72, .class_ 802), (0, u "java/lang/System$Logger$Level")] 31

def k19m0 : Method := { name := "<init>", desc := "()V", sig := { parameters := [], returnType := none }, accessFlags := 2, code := none }
def k19m1 : Method := { name := "arraycopy", desc := "(Ljava/lang/Object;ILjava/lang/Object;II)V", sig := { parameters := [(.object "java/lang/Object"), .int, (.object "java/lang/Object"), .int, .int], returnType := none }, accessFlags := 265, code := none }
/-- java/lang/System -/
def k19 : Class := { plain "java/lang/System" (some 0) with
  accessFlags := 49
  interfaces := #[]
  cf := some (fileOf pool19 8 #[.nestMembers #[319, 327, 801, 108, 663, 208]] #[{ accessFlags := 2, nameIndex := 5, descriptorIndex := 6, attributes := #[] }, { accessFlags := 265, nameIndex := 727, descriptorIndex := 728, attributes := #[] }] 49 2 #[] #[{ accessFlags := 25, nameIndex := 507, descriptorIndex := 526, attributes := #[] }, { accessFlags := 25, nameIndex := 399, descriptorIndex := 155, attributes := #[] }, { accessFlags := 25, nameIndex := 396, descriptorIndex := 155, attributes := #[] }, { accessFlags := 10, nameIndex := 525, descriptorIndex := 526, attributes := #[] }, { accessFlags := 26, nameIndex := 674, descriptorIndex := 12, attributes := #[] }, { accessFlags := 26, nameIndex := 677, descriptorIndex := 12, attributes := #[] }, { accessFlags := 10, nameIndex := 11, descriptorIndex := 12, attributes := #[] }, { accessFlags := 74, nameIndex := 175, descriptorIndex := 176, attributes := #[] }, { accessFlags := 10, nameIndex := 491, descriptorIndex := 222, attributes := #[] }, { accessFlags := 74, nameIndex := 29, descriptorIndex := 30, attributes := #[] }, { accessFlags := 74, nameIndex := 154, descriptorIndex := 155, attributes := #[] }, { accessFlags := 10, nameIndex := 217, descriptorIndex := 218, attributes := #[] }, { accessFlags := 10, nameIndex := 221, descriptorIndex := 222, attributes := #[] }, { accessFlags := 8, nameIndex := 562, descriptorIndex := 563, attributes := #[] }])
  fields := #[{ name := "in", type := (.object "java/io/InputStream"), accessFlags := 25, slot := 0, constantValue := 0 }, { name := "out", type := (.object "java/io/PrintStream"), accessFlags := 25, slot := 1, constantValue := 0 }, { name := "err", type := (.object "java/io/PrintStream"), accessFlags := 25, slot := 2, constantValue := 0 }, { name := "initialIn", type := (.object "java/io/InputStream"), accessFlags := 10, slot := 3, constantValue := 0 }, { name := "NEVER", type := .int, accessFlags := 26, slot := 4, constantValue := 0 }, { name := "MAYBE", type := .int, accessFlags := 26, slot := 5, constantValue := 0 }, { name := "allowSecurityManager", type := .int, accessFlags := 10, slot := 6, constantValue := 0 }, { name := "security", type := (.object "java/lang/SecurityManager"), accessFlags := 74, slot := 7, constantValue := 0 }, { name := "notSupportedJnuEncoding", type := (.object "java/lang/String"), accessFlags := 10, slot := 8, constantValue := 0 }, { name := "cons", type := (.object "java/io/Console"), accessFlags := 74, slot := 9, constantValue := 0 }, { name := "initialErrStream", type := (.object "java/io/PrintStream"), accessFlags := 74, slot := 10, constantValue := 0 }, { name := "props", type := (.object "java/util/Properties"), accessFlags := 10, slot := 11, constantValue := 0 }, { name := "lineSeparator", type := (.object "java/lang/String"), accessFlags := 10, slot := 12, constantValue := 0 }, { name := "bootLayer", type := (.object "java/lang/ModuleLayer"), accessFlags := 8, slot := 13, constantValue := 0 }]
  methods := #[k19m0, k19m1]
  instanceTypes := #[]
  staticTypes := #[(.object "java/io/InputStream"), (.object "java/io/PrintStream"), (.object "java/io/PrintStream"), (.object "java/io/InputStream"), .int, .int, .int, (.object "java/lang/SecurityManager"), (.object "java/lang/String"), (.object "java/io/Console"), (.object "java/io/PrintStream"), (.object "java/util/Properties"), (.object "java/lang/String"), (.object "java/lang/ModuleLayer")]
  resolved := Array.replicate 834 none
  statics := none }

def pool20 : Array CpInfo := pool [(2, .class_ 4), (1, u "java/lang/Object"), (0, u "<init>"), (0, u "()V"), (7, .class_ 16), (1, u "java/util/Arrays"), (57, .class_ 76), (1, u "java/util/Arrays$NaturalOrder"), (32, u "()Ljava/lang/Object;"), (3, .class_ 115), (1, u "java/util/Arrays$LegacyMergeSort"), (1, u "Z"), (10, .nameAndType 129 109), (0, u "clone"), (9, u "copyOfRange"), (10, .methodref 151 152), (0, .class_ 153), (0, .nameAndType 154 155), (0, u "java/lang/System"), (0, u "arraycopy"), (0, u "(Ljava/lang/Object;ILjava/lang/Object;II)V"), (146, u "copyOf"), (1, .methodref 305 306), (0, .class_ 307), (0, .nameAndType 308 309), (0, u "java/lang/Math"), (0, u "min"), (0, u "(II)I"), (0, .methodref 311 128), (0, .class_ 312), (0, u "[B"), (26, .methodref 14 340), (0, .nameAndType 341 342), (0, u "copyOfRangeByte"), (0, u "([BII)[B"), (0, .methodref 14 344), (0, .nameAndType 345 346), (0, u "checkLength"), (0, u "(II)V"), (28, .class_ 376), (0, u "java/util/Arrays$ArrayList"), (68, u "$assertionsDisabled"), (269, u "MIN_ARRAY_SORT_GRAN"), (0, u "I"), (2, u "INSERTIONSORT_THRESHOLD"), (149, u "([BI)[B"), (105, .class_ 976), (0, u "java/util/Arrays$ArrayItr")] 52

def k20m0 : Method := { name := "<init>", desc := "()V", sig := { parameters := [], returnType := none }, accessFlags := 2, code := none }
def k20c1 : Code := { maxStack := 6, maxLocals := 3, code := jdk_65_method_121_code, exceptionTable := #[], attributes := #[] }
def k20m1 : Method := { name := "copyOf", desc := "([BI)[B", sig := { parameters := [(.array .byte), .int], returnType := some (.array .byte) }, accessFlags := 9, code := some k20c1 }
def k20c2 : Code := { maxStack := 4, maxLocals := 2, code := jdk_65_method_131_code, exceptionTable := #[], attributes := #[] }
def k20m2 : Method := { name := "checkLength", desc := "(II)V", sig := { parameters := [.int, .int], returnType := none }, accessFlags := 10, code := some k20c2 }
def k20c3 : Code := { maxStack := 3, maxLocals := 3, code := jdk_65_method_132_code, exceptionTable := #[], attributes := #[] }
def k20m3 : Method := { name := "copyOfRange", desc := "([BII)[B", sig := { parameters := [(.array .byte), .int, .int], returnType := some (.array .byte) }, accessFlags := 9, code := some k20c3 }
def k20c4 : Code := { maxStack := 6, maxLocals := 5, code := jdk_65_method_133_code, exceptionTable := #[], attributes := #[] }
def k20m4 : Method := { name := "copyOfRangeByte", desc := "([BII)[B", sig := { parameters := [(.array .byte), .int, .int], returnType := some (.array .byte) }, accessFlags := 10, code := some k20c4 }
/-- java/util/Arrays -/
def k20 : Class := { plain "java/util/Arrays" (some 0) with
  accessFlags := 49
  interfaces := #[]
  cf := some (fileOf pool20 14 #[.nestMembers #[975, 375, 113, 74]] #[{ accessFlags := 2, nameIndex := 5, descriptorIndex := 6, attributes := #[] }, { accessFlags := 9, nameIndex := 302, descriptorIndex := 869, attributes := #[] }, { accessFlags := 10, nameIndex := 345, descriptorIndex := 346, attributes := #[] }, { accessFlags := 9, nameIndex := 139, descriptorIndex := 342, attributes := #[] }, { accessFlags := 10, nameIndex := 341, descriptorIndex := 342, attributes := #[] }] 49 2 #[] #[{ accessFlags := 26, nameIndex := 715, descriptorIndex := 716, attributes := #[] }, { accessFlags := 26, nameIndex := 719, descriptorIndex := 716, attributes := #[] }, { accessFlags := 4120, nameIndex := 445, descriptorIndex := 117, attributes := #[] }])
  fields := #[{ name := "MIN_ARRAY_SORT_GRAN", type := .int, accessFlags := 26, slot := 0, constantValue := 0 }, { name := "INSERTIONSORT_THRESHOLD", type := .int, accessFlags := 26, slot := 1, constantValue := 0 }, { name := "$assertionsDisabled", type := .boolean, accessFlags := 4120, slot := 2, constantValue := 0 }]
  methods := #[k20m0, k20m1, k20m2, k20m3, k20m4]
  instanceTypes := #[]
  staticTypes := #[.int, .int, .boolean]
  resolved := Array.replicate 1029 none
  statics := none }

def pool21 : Array CpInfo := pool [(1, .class_ 2), (0, u "java/lang/Math"), (1, .class_ 6), (1, u "java/lang/Object"), (0, u "<init>"), (0, u "()V"), (89, .class_ 100), (1, u "java/lang/Math$RandomNumberGeneratorHolder"), (71, u "negativeZeroFloatBits"), (0, u "J"), (2, u "negativeZeroDoubleBits"), (21, u "max"), (2, u "min"), (43, u "$assertionsDisabled"), (0, u "Z"), (88, u "(II)I"), (2, u "twoToTheDoubleScaleDown"), (0, u "D"), (4, u "twoToTheDoubleScaleUp"), (9, u "E"), (3, u "PI"), (2, u "TAU"), (2, u "DEGREES_TO_RADIANS"), (0, u "RADIANS_TO_DEGREES")] 94

def k21m0 : Method := { name := "<init>", desc := "()V", sig := { parameters := [], returnType := none }, accessFlags := 2, code := none }
def k21c1 : Code := { maxStack := 2, maxLocals := 2, code := jdk_29_method_65_code, exceptionTable := #[], attributes := #[] }
def k21m1 : Method := { name := "max", desc := "(II)I", sig := { parameters := [.int, .int], returnType := some .int }, accessFlags := 9, code := some k21c1 }
def k21c2 : Code := { maxStack := 2, maxLocals := 2, code := jdk_29_method_69_code, exceptionTable := #[], attributes := #[] }
def k21m2 : Method := { name := "min", desc := "(II)I", sig := { parameters := [.int, .int], returnType := some .int }, accessFlags := 9, code := some k21c2 }
/-- java/lang/Math -/
def k21 : Class := { plain "java/lang/Math" (some 0) with
  accessFlags := 49
  interfaces := #[]
  cf := some (fileOf pool21 1 #[.nestMembers #[98]] #[{ accessFlags := 2, nameIndex := 7, descriptorIndex := 8, attributes := #[] }, { accessFlags := 9, nameIndex := 198, descriptorIndex := 335, attributes := #[] }, { accessFlags := 9, nameIndex := 201, descriptorIndex := 335, attributes := #[] }] 49 4 #[] #[{ accessFlags := 25, nameIndex := 354, descriptorIndex := 339, attributes := #[] }, { accessFlags := 25, nameIndex := 358, descriptorIndex := 339, attributes := #[] }, { accessFlags := 25, nameIndex := 361, descriptorIndex := 339, attributes := #[] }, { accessFlags := 26, nameIndex := 364, descriptorIndex := 339, attributes := #[] }, { accessFlags := 26, nameIndex := 365, descriptorIndex := 339, attributes := #[] }, { accessFlags := 26, nameIndex := 172, descriptorIndex := 173, attributes := #[] }, { accessFlags := 26, nameIndex := 176, descriptorIndex := 173, attributes := #[] }, { accessFlags := 8, nameIndex := 344, descriptorIndex := 339, attributes := #[] }, { accessFlags := 8, nameIndex := 338, descriptorIndex := 339, attributes := #[] }, { accessFlags := 4120, nameIndex := 245, descriptorIndex := 246, attributes := #[] }])
  fields := #[{ name := "E", type := .double, accessFlags := 25, slot := 0, constantValue := 0 }, { name := "PI", type := .double, accessFlags := 25, slot := 1, constantValue := 0 }, { name := "TAU", type := .double, accessFlags := 25, slot := 2, constantValue := 0 }, { name := "DEGREES_TO_RADIANS", type := .double, accessFlags := 26, slot := 3, constantValue := 0 }, { name := "RADIANS_TO_DEGREES", type := .double, accessFlags := 26, slot := 4, constantValue := 0 }, { name := "negativeZeroFloatBits", type := .long, accessFlags := 26, slot := 5, constantValue := 0 }, { name := "negativeZeroDoubleBits", type := .long, accessFlags := 26, slot := 6, constantValue := 0 }, { name := "twoToTheDoubleScaleUp", type := .double, accessFlags := 8, slot := 7, constantValue := 0 }, { name := "twoToTheDoubleScaleDown", type := .double, accessFlags := 8, slot := 8, constantValue := 0 }, { name := "$assertionsDisabled", type := .boolean, accessFlags := 4120, slot := 9, constantValue := 0 }]
  methods := #[k21m0, k21m1, k21m2]
  instanceTypes := #[]
  staticTypes := #[.double, .double, .double, .double, .double, .long, .long, .double, .double, .boolean]
  resolved := Array.replicate 460 none
  statics := none }

def pool22 : Array CpInfo := pool [(1, .class_ 2), (0, u "java/lang/String"), (1, .class_ 6), (1, u "java/lang/Object"), (0, u "<init>"), (0, u "()V"), (0, .methodref 1 10), (0, .nameAndType 11 12), (0, u "checkIndex"), (0, u "(II)V"), (1, .class_ 16), (1, u "java/lang/StringLatin1"), (36, u "([BI)C"), (67, u "$assertionsDisabled"), (0, u "Z"), (98, .class_ 223), (1, u "java/lang/StringLatin1$LinesSpliterator"), (28, u "charAt"), (137, .class_ 391), (0, u "java/lang/StringLatin1$CharsSpliterator")] 3

def k22m0 : Method := { name := "<init>", desc := "()V", sig := { parameters := [], returnType := none }, accessFlags := 0, code := none }
def k22c1 : Code := { maxStack := 2, maxLocals := 2, code := jdk_43_method_2_code, exceptionTable := #[], attributes := #[] }
def k22m1 : Method := { name := "charAt", desc := "([BI)C", sig := { parameters := [(.array .byte), .int], returnType := some .char }, accessFlags := 9, code := some k22c1 }
/-- java/lang/StringLatin1 -/
def k22 : Class := { plain "java/lang/StringLatin1" (some 0) with
  accessFlags := 48
  interfaces := #[]
  cf := some (fileOf pool22 14 #[.nestMembers #[390, 221]] #[{ accessFlags := 0, nameIndex := 7, descriptorIndex := 8, attributes := #[] }, { accessFlags := 9, nameIndex := 252, descriptorIndex := 53, attributes := #[] }] 48 4 #[] #[{ accessFlags := 4120, nameIndex := 121, descriptorIndex := 122, attributes := #[] }])
  fields := #[{ name := "$assertionsDisabled", type := .boolean, accessFlags := 4120, slot := 0, constantValue := 0 }]
  methods := #[k22m0, k22m1]
  instanceTypes := #[]
  staticTypes := #[.boolean]
  resolved := Array.replicate 395 none
  statics := none }

def pool23 : Array CpInfo := pool [(2, .class_ 4), (1, u "java/lang/Object"), (0, u "<init>"), (0, u "()V"), (17, .class_ 26), (1, u "jdk/internal/util/Preconditions"), (6, u "checkIndex"), (21, .class_ 56), (0, u "jdk/internal/util/Preconditions$4"), (57, .class_ 115), (0, u "jdk/internal/util/Preconditions$1"), (7, u "SIOOBE_FORMATTER"), (0, u "Ljava/util/function/BiFunction;"), (0, .class_ 126), (0, u "jdk/internal/util/Preconditions$2"), (3, u "AIOOBE_FORMATTER"), (0, .class_ 132), (0, u "jdk/internal/util/Preconditions$3"), (3, u "IOOBE_FORMATTER"), (41, u "(IILjava/util/function/BiFunction;)I")] 15

def k23m0 : Method := { name := "<init>", desc := "()V", sig := { parameters := [], returnType := none }, accessFlags := 1, code := none }
def k23c1 : Code := { maxStack := 3, maxLocals := 3, code := jdk_41_method_11_code, exceptionTable := #[], attributes := #[] }
def k23m1 : Method := { name := "checkIndex", desc := "(IILjava/util/function/BiFunction;)I", sig := { parameters := [.int, .int, (.object "java/util/function/BiFunction")], returnType := some .int }, accessFlags := 9, code := some k23c1 }
/-- jdk/internal/util/Preconditions -/
def k23 : Class := { plain "jdk/internal/util/Preconditions" (some 0) with
  accessFlags := 33
  interfaces := #[]
  cf := some (fileOf pool23 24 #[.nestMembers #[55, 131, 125, 114]] #[{ accessFlags := 1, nameIndex := 5, descriptorIndex := 6, attributes := #[] }, { accessFlags := 9, nameIndex := 33, descriptorIndex := 178, attributes := #[] }] 33 2 #[] #[{ accessFlags := 25, nameIndex := 123, descriptorIndex := 124, attributes := #[] }, { accessFlags := 25, nameIndex := 130, descriptorIndex := 124, attributes := #[] }, { accessFlags := 25, nameIndex := 136, descriptorIndex := 124, attributes := #[] }])
  fields := #[{ name := "SIOOBE_FORMATTER", type := (.object "java/util/function/BiFunction"), accessFlags := 25, slot := 0, constantValue := 0 }, { name := "AIOOBE_FORMATTER", type := (.object "java/util/function/BiFunction"), accessFlags := 25, slot := 1, constantValue := 0 }, { name := "IOOBE_FORMATTER", type := (.object "java/util/function/BiFunction"), accessFlags := 25, slot := 2, constantValue := 0 }]
  methods := #[k23m0, k23m1]
  instanceTypes := #[]
  staticTypes := #[(.object "java/util/function/BiFunction"), (.object "java/util/function/BiFunction"), (.object "java/util/function/BiFunction")]
  resolved := Array.replicate 194 none
  statics := some 3 }

def pool24 : Array CpInfo := pool [(9, u "<init>"), (6, .class_ 18), (1, u "java/lang/Object"), (0, u "()V"), (1, .class_ 23), (1, u "jdk/internal/util/ArraysSupport"), (0, u "LOG2_ARRAY_LONG_INDEX_SCALE"), (0, u "I"), (2, u "U"), (0, u "Ljdk/internal/misc/Unsafe;"), (8, u "BIG_ENDIAN"), (0, u "Z"), (8, u "LOG2_BYTE_BIT_SIZE"), (4, u "LOG2_ARRAY_INT_INDEX_SCALE"), (54, u "JLA"), (0, u "Ljdk/internal/access/JavaLangAccess;"), (11, u "LOG2_ARRAY_BOOLEAN_INDEX_SCALE"), (9, u "LOG2_ARRAY_BYTE_INDEX_SCALE"), (5, u "LOG2_ARRAY_CHAR_INDEX_SCALE"), (5, u "LOG2_ARRAY_SHORT_INDEX_SCALE"), (18, u "LOG2_ARRAY_FLOAT_INDEX_SCALE"), (24, u "LOG2_ARRAY_DOUBLE_INDEX_SCALE"), (6, .methodref 195 196), (0, .class_ 197), (0, .nameAndType 198 199), (0, u "java/lang/Math"), (0, u "max"), (0, u "(II)I"), (0, .integer 2147483639), (76, u "T_BOOLEAN"), (2, u "T_CHAR"), (1, u "T_FLOAT"), (1, u "T_DOUBLE"), (1, u "T_BYTE"), (1, u "T_SHORT"), (1, u "T_INT"), (1, u "T_LONG"), (1, u "SOFT_MAX_ARRAY_LENGTH"), (56, u "newLength"), (0, u "(III)I")] 25

def k24m0 : Method := { name := "<init>", desc := "()V", sig := { parameters := [], returnType := none }, accessFlags := 2, code := none }
def k24c1 : Code := { maxStack := 3, maxLocals := 4, code := jdk_48_method_27_code, exceptionTable := #[], attributes := #[] }
def k24m1 : Method := { name := "newLength", desc := "(III)I", sig := { parameters := [.int, .int, .int], returnType := some .int }, accessFlags := 9, code := some k24c1 }
/-- jdk/internal/util/ArraysSupport -/
def k24 : Class := { plain "jdk/internal/util/ArraysSupport" (some 0) with
  accessFlags := 33
  interfaces := #[]
  cf := some (fileOf pool24 21 #[] #[{ accessFlags := 2, nameIndex := 9, descriptorIndex := 19, attributes := #[] }, { accessFlags := 9, nameIndex := 351, descriptorIndex := 352, attributes := #[] }] 33 16 #[] #[{ accessFlags := 24, nameIndex := 28, descriptorIndex := 29, attributes := #[] }, { accessFlags := 26, nameIndex := 38, descriptorIndex := 39, attributes := #[] }, { accessFlags := 25, nameIndex := 121, descriptorIndex := 25, attributes := #[] }, { accessFlags := 25, nameIndex := 131, descriptorIndex := 25, attributes := #[] }, { accessFlags := 25, nameIndex := 137, descriptorIndex := 25, attributes := #[] }, { accessFlags := 25, nameIndex := 143, descriptorIndex := 25, attributes := #[] }, { accessFlags := 25, nameIndex := 53, descriptorIndex := 25, attributes := #[] }, { accessFlags := 25, nameIndex := 24, descriptorIndex := 25, attributes := #[] }, { accessFlags := 25, nameIndex := 162, descriptorIndex := 25, attributes := #[] }, { accessFlags := 25, nameIndex := 187, descriptorIndex := 25, attributes := #[] }, { accessFlags := 26, nameIndex := 48, descriptorIndex := 25, attributes := #[] }, { accessFlags := 25, nameIndex := 277, descriptorIndex := 25, attributes := #[] }, { accessFlags := 25, nameIndex := 280, descriptorIndex := 25, attributes := #[] }, { accessFlags := 25, nameIndex := 282, descriptorIndex := 25, attributes := #[] }, { accessFlags := 25, nameIndex := 284, descriptorIndex := 25, attributes := #[] }, { accessFlags := 25, nameIndex := 286, descriptorIndex := 25, attributes := #[] }, { accessFlags := 25, nameIndex := 288, descriptorIndex := 25, attributes := #[] }, { accessFlags := 25, nameIndex := 290, descriptorIndex := 25, attributes := #[] }, { accessFlags := 25, nameIndex := 292, descriptorIndex := 25, attributes := #[] }, { accessFlags := 26, nameIndex := 108, descriptorIndex := 109, attributes := #[] }, { accessFlags := 25, nameIndex := 294, descriptorIndex := 25, attributes := #[] }])
  fields := #[{ name := "U", type := (.object "jdk/internal/misc/Unsafe"), accessFlags := 24, slot := 0, constantValue := 0 }, { name := "BIG_ENDIAN", type := .boolean, accessFlags := 26, slot := 1, constantValue := 0 }, { name := "LOG2_ARRAY_BOOLEAN_INDEX_SCALE", type := .int, accessFlags := 25, slot := 2, constantValue := 0 }, { name := "LOG2_ARRAY_BYTE_INDEX_SCALE", type := .int, accessFlags := 25, slot := 3, constantValue := 0 }, { name := "LOG2_ARRAY_CHAR_INDEX_SCALE", type := .int, accessFlags := 25, slot := 4, constantValue := 0 }, { name := "LOG2_ARRAY_SHORT_INDEX_SCALE", type := .int, accessFlags := 25, slot := 5, constantValue := 0 }, { name := "LOG2_ARRAY_INT_INDEX_SCALE", type := .int, accessFlags := 25, slot := 6, constantValue := 0 }, { name := "LOG2_ARRAY_LONG_INDEX_SCALE", type := .int, accessFlags := 25, slot := 7, constantValue := 0 }, { name := "LOG2_ARRAY_FLOAT_INDEX_SCALE", type := .int, accessFlags := 25, slot := 8, constantValue := 0 }, { name := "LOG2_ARRAY_DOUBLE_INDEX_SCALE", type := .int, accessFlags := 25, slot := 9, constantValue := 0 }, { name := "LOG2_BYTE_BIT_SIZE", type := .int, accessFlags := 26, slot := 10, constantValue := 0 }, { name := "T_BOOLEAN", type := .int, accessFlags := 25, slot := 11, constantValue := 0 }, { name := "T_CHAR", type := .int, accessFlags := 25, slot := 12, constantValue := 0 }, { name := "T_FLOAT", type := .int, accessFlags := 25, slot := 13, constantValue := 0 }, { name := "T_DOUBLE", type := .int, accessFlags := 25, slot := 14, constantValue := 0 }, { name := "T_BYTE", type := .int, accessFlags := 25, slot := 15, constantValue := 0 }, { name := "T_SHORT", type := .int, accessFlags := 25, slot := 16, constantValue := 0 }, { name := "T_INT", type := .int, accessFlags := 25, slot := 17, constantValue := 0 }, { name := "T_LONG", type := .int, accessFlags := 25, slot := 18, constantValue := 0 }, { name := "JLA", type := (.object "jdk/internal/access/JavaLangAccess"), accessFlags := 26, slot := 19, constantValue := 0 }, { name := "SOFT_MAX_ARRAY_LENGTH", type := .int, accessFlags := 25, slot := 20, constantValue := 0 }]
  methods := #[k24m0, k24m1]
  instanceTypes := #[]
  staticTypes := #[(.object "jdk/internal/misc/Unsafe"), .boolean, .int, .int, .int, .int, .int, .int, .int, .int, .int, .int, .int, .int, .int, .int, .int, .int, .int, (.object "jdk/internal/access/JavaLangAccess"), .int]
  resolved := Array.replicate 378 none
  statics := none }

def pool25 : Array CpInfo := pool [(1, .class_ 2), (0, u "java/lang/Cloneable"), (0, .class_ 4), (0, u "java/lang/Object")] 2

/-- java/lang/Cloneable -/
def k25 : Class := { plain "java/lang/Cloneable" (some 0) with
  accessFlags := 1537
  interfaces := #[]
  cf := some (fileOf pool25 1 #[] #[] 1537 3 #[] #[])
  fields := #[]
  methods := #[]
  instanceTypes := #[]
  staticTypes := #[]
  resolved := Array.replicate 7 none
  statics := none }

/-- the primitive byte -/
def k26 : Class := { plain "byte" none with kind := .primitive 'B', accessFlags := 0x411 }
/-- [B -/
def k27 : Class := { plain "[B" (some 0) with kind := .array 26 .byte, interfaces := #[25, 4], accessFlags := 1041 }

/-- the primitive int -/
def k28 : Class := { plain "int" none with kind := .primitive 'I', accessFlags := 0x411 }
/-- [I -/
def k29 : Class := { plain "[I" (some 0) with kind := .array 28 .int, interfaces := #[25, 4], accessFlags := 1041 }

/-- the primitive long -/
def k30 : Class := { plain "long" none with kind := .primitive 'J', accessFlags := 0x411 }
/-- [J -/
def k31 : Class := { plain "[J" (some 0) with kind := .array 30 .long, interfaces := #[25, 4], accessFlags := 1041 }

def heap : Heap := #[{ cls := 6, slots := #[.ref 8, .ref 9, .null], vm := .statics 6 },
  { cls := 11, slots := #[.long 0, .int 1, .null, .int 0, .null, .int 0, .int 0], vm := .statics 11 },
  { cls := 18, slots := #[.int 0, .int 0, .null, .null, .ref 11, .ref 10, .int 0, .int 0, .long 0], vm := .statics 18 },
  { cls := 23, slots := #[.null, .null, .null], vm := .statics 23 },
  { cls := 27, slots := #[.int 115], vm := .none },
  { cls := 27, slots := #[.int 109, .int 115], vm := .none },
  { cls := 11, slots := #[.ref 4, .int 0, .int 0, .int 0], vm := .none },
  { cls := 11, slots := #[.ref 5, .int 0, .int 0, .int 0], vm := .none },
  { cls := 6, slots := #[.null, .int 0, .int 0, .ref 6, .long 1000], vm := .none },
  { cls := 6, slots := #[.null, .int 1, .int 0, .ref 7, .long 1], vm := .none },
  { cls := 27, slots := #[.int 48, .int 49, .int 50, .int 51, .int 52, .int 53, .int 54, .int 55, .int 56, .int 57, .int 48, .int 49, .int 50, .int 51, .int 52, .int 53, .int 54, .int 55, .int 56, .int 57, .int 48, .int 49, .int 50, .int 51, .int 52, .int 53, .int 54, .int 55, .int 56, .int 57, .int 48, .int 49, .int 50, .int 51, .int 52, .int 53, .int 54, .int 55, .int 56, .int 57, .int 48, .int 49, .int 50, .int 51, .int 52, .int 53, .int 54, .int 55, .int 56, .int 57, .int 48, .int 49, .int 50, .int 51, .int 52, .int 53, .int 54, .int 55, .int 56, .int 57, .int 48, .int 49, .int 50, .int 51, .int 52, .int 53, .int 54, .int 55, .int 56, .int 57, .int 48, .int 49, .int 50, .int 51, .int 52, .int 53, .int 54, .int 55, .int 56, .int 57, .int 48, .int 49, .int 50, .int 51, .int 52, .int 53, .int 54, .int 55, .int 56, .int 57, .int 48, .int 49, .int 50, .int 51, .int 52, .int 53, .int 54, .int 55, .int 56, .int 57], vm := .none },
  { cls := 27, slots := #[.int 48, .int 48, .int 48, .int 48, .int 48, .int 48, .int 48, .int 48, .int 48, .int 48, .int 49, .int 49, .int 49, .int 49, .int 49, .int 49, .int 49, .int 49, .int 49, .int 49, .int 50, .int 50, .int 50, .int 50, .int 50, .int 50, .int 50, .int 50, .int 50, .int 50, .int 51, .int 51, .int 51, .int 51, .int 51, .int 51, .int 51, .int 51, .int 51, .int 51, .int 52, .int 52, .int 52, .int 52, .int 52, .int 52, .int 52, .int 52, .int 52, .int 52, .int 53, .int 53, .int 53, .int 53, .int 53, .int 53, .int 53, .int 53, .int 53, .int 53, .int 54, .int 54, .int 54, .int 54, .int 54, .int 54, .int 54, .int 54, .int 54, .int 54, .int 55, .int 55, .int 55, .int 55, .int 55, .int 55, .int 55, .int 55, .int 55, .int 55, .int 56, .int 56, .int 56, .int 56, .int 56, .int 56, .int 56, .int 56, .int 56, .int 56, .int 57, .int 57, .int 57, .int 57, .int 57, .int 57, .int 57, .int 57, .int 57, .int 57], vm := .none }]
def classes : Array Class := #[k0, k1, k2, k3, k4, k5, k6, k7, k8, k9, k10, k11, k12, k13, k14, k15, k16, k17, k18, k19, k20, k21, k22, k23, k24, k25, k26, k27, k28, k29, k30, k31]
def interned : List (Array UInt16 × Addr) := []
def slotsUsed : Nat := 243
def theMethod : MethodId := ⟨1, 1⟩
def args0 : Array Value := #[.int 5, .long 7, .int 1]
def aboutOver (below : List Frame) : State where
  vm := { classes := classes, interned := interned.toArray }
  heap := heap
  slotsUsed := slotsUsed
  threads := #[{ frames := .invoking theMethod args0 :: below }]
def below0 : List Frame := [.native { method := ⟨0, 0⟩, args := #[] }]
def about1 : State := aboutOver below0
def p0 : Program := .bare "" "" ""
def e0 : Env := launch0.env 0 0 0
theorem w_frames : about1.frames = Frame.invoking theMethod args0 :: below0 := rfl
set_option maxRecDepth 65536 in
theorem w_args : argsFit about1.vm theMethod args0 = true := by decide +kernel
set_option maxRecDepth 65536 in
theorem w_heap : heapFits about1 = true := by decide +kernel
set_option maxRecDepth 65536 in
theorem w_runnable : about1.curStatus? = some .runnable := by decide +kernel
set_option maxRecDepth 65536 in
theorem w_alone : about1.alone = true := by decide +kernel
set_option maxRecDepth 65536 in
theorem w_named : about1.methodNamed? x = some theMethod := by decide +kernel
set_option maxRecDepth 65536 in
theorem w_hears : about1.hears theMethod below0 = true := by decide +kernel
set_option maxRecDepth 65536 in
theorem w_ripe : about1.ripe theMethod args0 below0 = true := by decide +kernel
theorem w_running : about1.status = .running := rfl
set_option maxRecDepth 65536 in
theorem w_room : about1.hasRoom e0.platform room_1 = true :=
  launch0.hasRoom_least _ room_1 (by decide +kernel) (by decide +kernel) (by decide +kernel) (by decide +kernel) (by decide +kernel) (by decide +kernel)
theorem allAtoms_all (ts : List Jvm.Cond) (a : Array Jvm.Value) (st : Jvm.State) : (allAtoms ts).before a st = ts.all (fun c => c.before a st) := by
  induction ts with
  | nil => rfl
  | cons c t ih =>
    show (Jvm.Cond.and c (allAtoms t)).before a st = _
    rw [Jvm.Cond.before_and, ih, List.all_cons]
def words1 : List Jvm.Cond := Jvm.Cond.code x code maxLocals ret :: tables_1
/-- a 'code' word, met by the world's own term for the bytes: nothing is compared byte by byte -/
theorem code_word {y : MethodName} {bytes : ByteArray} {mx : Nat} {rt : Option FieldType} {a : Array Value} {s : State} {m : MethodId} {meth : Method} {c : Code} (h1 : s.methodNamed? y = some m) (h2 : s.vm.method? m = some meth) (h3 : meth.code = some c) (h4 : c.code = bytes)
    (h5 : (c.maxLocals == mx && c.exceptionTable.isEmpty && decide (c.maxStack ≤ mostOperands) && decide (meth.sig.returnType = rt) && !meth.locks && decide (parseMethodDescriptor y.desc = some meth.sig)) = true) : (Jvm.Cond.code y bytes mx rt).before a s = true := by
  simp only [Bool.and_eq_true, beq_iff_eq, Bool.not_eq_true', decide_eq_true_eq] at h5
  obtain ⟨⟨⟨⟨⟨g1, g2⟩, g3⟩, g4⟩, g5⟩, g6⟩ := h5
  simp [Cond.before, Cond.holds, Cond.value, h1, h2, h3, h4, g1, g2, g3, g4, g5, g6]
def isCode : Jvm.Cond → Bool
  | .code _ _ _ _ => true
  | _ => false
theorem all_split {L : List Jvm.Cond} {P : Jvm.Cond → Bool} (h1 : L.all (fun c => isCode c || P c) = true) (h2 : ∀ c ∈ L.filter isCode, P c = true) : L.all P = true := by
  refine List.all_eq_true.mpr fun c hc => ?_
  have h := List.all_eq_true.mp h1 c hc
  rcases Bool.eq_false_or_eq_true (isCode c) with hi | hi
  · exact h2 c (List.mem_filter.mpr ⟨hc, hi⟩)
  · simpa [hi] using h
set_option maxRecDepth 65536 in
theorem w_c0 : (Jvm.Cond.code x code maxLocals ret).before args0 about1 = true := code_word (m := ⟨1, 1⟩) (meth := k1m1) (c := k1c1) (by decide +kernel) rfl rfl rfl (by decide +kernel)
set_option maxRecDepth 65536 in
theorem w_c1 : (Jvm.Cond.code ({ cls := "com/example/vigil_cache/vigilcache/HotKeyRule", name := "<init>", desc := "(IJLcom/example/vigil_cache/vigilcache/HotKeyRule$WindowUnit;)V" } : Jvm.MethodName) prog_23_method_1_code (5 : Nat) (Option.none : Option Jvm.ClassFile.FieldType)).before args0 about1 = true := code_word (m := ⟨8, 0⟩) (meth := k8m0) (c := k8c0) (by decide +kernel) rfl rfl rfl (by decide +kernel)
set_option maxRecDepth 65536 in
theorem w_c2 : (Jvm.Cond.code ({ cls := "java/lang/Record", name := "<init>", desc := "()V" } : Jvm.MethodName) jdk_30_method_1_code (1 : Nat) (Option.none : Option Jvm.ClassFile.FieldType)).before args0 about1 = true := code_word (m := ⟨7, 0⟩) (meth := k7m0) (c := k7c0) (by decide +kernel) rfl rfl rfl (by decide +kernel)
set_option maxRecDepth 65536 in
theorem w_c3 : (Jvm.Cond.code ({ cls := "java/lang/Object", name := "<init>", desc := "()V" } : Jvm.MethodName) object_method_1_code (1 : Nat) (Option.none : Option Jvm.ClassFile.FieldType)).before args0 about1 = true := code_word (m := ⟨0, 0⟩) (meth := k0m0) (c := k0c0) (by decide +kernel) rfl rfl rfl (by decide +kernel)
set_option maxRecDepth 65536 in
theorem w_c4 : (Jvm.Cond.code ({ cls := "java/util/Objects", name := "requireNonNull", desc := "(Ljava/lang/Object;Ljava/lang/String;)Ljava/lang/Object;" } : Jvm.MethodName) jdk_31_method_11_code (2 : Nat) (Option.some (Jvm.ClassFile.FieldType.object "java/lang/Object"))).before args0 about1 = true := code_word (m := ⟨12, 1⟩) (meth := k12m1) (c := k12c1) (by decide +kernel) rfl rfl rfl (by decide +kernel)
set_option maxRecDepth 65536 in
theorem w_c5 : (Jvm.Cond.code ({ cls := "com/example/vigil_cache/vigilcache/HotKeyRule", name := "checkWindow", desc := "(JLcom/example/vigil_cache/vigilcache/HotKeyRule$WindowUnit;)V" } : Jvm.MethodName) prog_23_method_11_code (3 : Nat) (Option.none : Option Jvm.ClassFile.FieldType)).before args0 about1 = true := code_word (m := ⟨8, 2⟩) (meth := k8m2) (c := k8c2) (by decide +kernel) rfl rfl rfl (by decide +kernel)
set_option maxRecDepth 65536 in
theorem w_c6 : (Jvm.Cond.code ({ cls := "com/example/vigil_cache/vigilcache/HotKeyRule", name := "windowAsWritten", desc := "()Ljava/lang/String;" } : Jvm.MethodName) prog_23_method_6_code (1 : Nat) (Option.some (Jvm.ClassFile.FieldType.object "java/lang/String"))).before args0 about1 = true := code_word (m := ⟨8, 1⟩) (meth := k8m1) (c := k8c1) (by decide +kernel) rfl rfl rfl (by decide +kernel)
set_option maxRecDepth 65536 in
theorem w_c7 : (Jvm.Cond.code ({ cls := "java/lang/StringBuilder", name := "<init>", desc := "()V" } : Jvm.MethodName) jdk_67_method_1_code (1 : Nat) (Option.none : Option Jvm.ClassFile.FieldType)).before args0 about1 = true := code_word (m := ⟨15, 0⟩) (meth := k15m0) (c := k15c0) (by decide +kernel) rfl rfl rfl (by decide +kernel)
set_option maxRecDepth 65536 in
theorem w_c8 : (Jvm.Cond.code ({ cls := "java/lang/AbstractStringBuilder", name := "<init>", desc := "(I)V" } : Jvm.MethodName) jdk_68_method_2_code (2 : Nat) (Option.none : Option Jvm.ClassFile.FieldType)).before args0 about1 = true := code_word (m := ⟨14, 1⟩) (meth := k14m1) (c := k14c1) (by decide +kernel) rfl rfl rfl (by decide +kernel)
set_option maxRecDepth 65536 in
theorem w_c9 : (Jvm.Cond.code ({ cls := "java/lang/StringBuilder", name := "append", desc := "(J)Ljava/lang/StringBuilder;" } : Jvm.MethodName) jdk_67_method_16_code (3 : Nat) (Option.some (Jvm.ClassFile.FieldType.object "java/lang/StringBuilder"))).before args0 about1 = true := code_word (m := ⟨15, 2⟩) (meth := k15m2) (c := k15c2) (by decide +kernel) rfl rfl rfl (by decide +kernel)
set_option maxRecDepth 65536 in
theorem w_c10 : (Jvm.Cond.code ({ cls := "java/lang/AbstractStringBuilder", name := "append", desc := "(J)Ljava/lang/AbstractStringBuilder;" } : Jvm.MethodName) jdk_68_method_33_code (5 : Nat) (Option.some (Jvm.ClassFile.FieldType.object "java/lang/AbstractStringBuilder"))).before args0 about1 = true := code_word (m := ⟨14, 6⟩) (meth := k14m6) (c := k14c6) (by decide +kernel) rfl rfl rfl (by decide +kernel)
set_option maxRecDepth 65536 in
theorem w_c11 : (Jvm.Cond.code ({ cls := "java/lang/Long", name := "stringSize", desc := "(J)I" } : Jvm.MethodName) jdk_35_method_15_code (6 : Nat) (Option.some Jvm.ClassFile.FieldType.int)).before args0 about1 = true := code_word (m := ⟨17, 1⟩) (meth := k17m1) (c := k17c1) (by decide +kernel) rfl rfl rfl (by decide +kernel)
set_option maxRecDepth 65536 in
theorem w_c12 : (Jvm.Cond.code ({ cls := "java/lang/AbstractStringBuilder", name := "ensureCapacityInternal", desc := "(I)V" } : Jvm.MethodName) jdk_68_method_9_code (3 : Nat) (Option.none : Option Jvm.ClassFile.FieldType)).before args0 about1 = true := code_word (m := ⟨14, 3⟩) (meth := k14m3) (c := k14c3) (by decide +kernel) rfl rfl rfl (by decide +kernel)
set_option maxRecDepth 65536 in
theorem w_c13 : (Jvm.Cond.code ({ cls := "java/lang/AbstractStringBuilder", name := "isLatin1", desc := "()Z" } : Jvm.MethodName) jdk_68_method_68_code (1 : Nat) (Option.some Jvm.ClassFile.FieldType.boolean)).before args0 about1 = true := code_word (m := ⟨14, 8⟩) (meth := k14m8) (c := k14c8) (by decide +kernel) rfl rfl rfl (by decide +kernel)
set_option maxRecDepth 65536 in
theorem w_c14 : (Jvm.Cond.code ({ cls := "java/lang/Long", name := "getChars", desc := "(JI[B)I" } : Jvm.MethodName) jdk_35_method_14_code (11 : Nat) (Option.some Jvm.ClassFile.FieldType.int)).before args0 about1 = true := code_word (m := ⟨17, 0⟩) (meth := k17m0) (c := k17c0) (by decide +kernel) rfl rfl rfl (by decide +kernel)
set_option maxRecDepth 65536 in
theorem w_c15 : (Jvm.Cond.code ({ cls := "java/lang/StringBuilder", name := "append", desc := "(Ljava/lang/String;)Ljava/lang/StringBuilder;" } : Jvm.MethodName) jdk_67_method_7_code (2 : Nat) (Option.some (Jvm.ClassFile.FieldType.object "java/lang/StringBuilder"))).before args0 about1 = true := code_word (m := ⟨15, 1⟩) (meth := k15m1) (c := k15c1) (by decide +kernel) rfl rfl rfl (by decide +kernel)
set_option maxRecDepth 65536 in
theorem w_c16 : (Jvm.Cond.code ({ cls := "java/lang/AbstractStringBuilder", name := "append", desc := "(Ljava/lang/String;)Ljava/lang/AbstractStringBuilder;" } : Jvm.MethodName) jdk_68_method_22_code (3 : Nat) (Option.some (Jvm.ClassFile.FieldType.object "java/lang/AbstractStringBuilder"))).before args0 about1 = true := code_word (m := ⟨14, 5⟩) (meth := k14m5) (c := k14c5) (by decide +kernel) rfl rfl rfl (by decide +kernel)
set_option maxRecDepth 65536 in
theorem w_c17 : (Jvm.Cond.code ({ cls := "java/lang/String", name := "length", desc := "()I" } : Jvm.MethodName) jdk_42_method_54_code (1 : Nat) (Option.some Jvm.ClassFile.FieldType.int)).before args0 about1 = true := code_word (m := ⟨11, 2⟩) (meth := k11m2) (c := k11c2) (by decide +kernel) rfl rfl rfl (by decide +kernel)
set_option maxRecDepth 65536 in
theorem w_c18 : (Jvm.Cond.code ({ cls := "java/lang/String", name := "coder", desc := "()B" } : Jvm.MethodName) jdk_42_method_152_code (1 : Nat) (Option.some Jvm.ClassFile.FieldType.byte)).before args0 about1 = true := code_word (m := ⟨11, 6⟩) (meth := k11m6) (c := k11c6) (by decide +kernel) rfl rfl rfl (by decide +kernel)
set_option maxRecDepth 65536 in
theorem w_c19 : (Jvm.Cond.code ({ cls := "java/lang/AbstractStringBuilder", name := "putStringAt", desc := "(ILjava/lang/String;)V" } : Jvm.MethodName) jdk_68_method_73_code (3 : Nat) (Option.none : Option Jvm.ClassFile.FieldType)).before args0 about1 = true := code_word (m := ⟨14, 10⟩) (meth := k14m10) (c := k14c10) (by decide +kernel) rfl rfl rfl (by decide +kernel)
set_option maxRecDepth 65536 in
theorem w_c20 : (Jvm.Cond.code ({ cls := "java/lang/AbstractStringBuilder", name := "inflateIfNeededFor", desc := "(Ljava/lang/String;)V" } : Jvm.MethodName) jdk_68_method_71_code (2 : Nat) (Option.none : Option Jvm.ClassFile.FieldType)).before args0 about1 = true := code_word (m := ⟨14, 9⟩) (meth := k14m9) (c := k14c9) (by decide +kernel) rfl rfl rfl (by decide +kernel)
set_option maxRecDepth 65536 in
theorem w_c21 : (Jvm.Cond.code ({ cls := "java/lang/String", name := "getBytes", desc := "([BIB)V" } : Jvm.MethodName) jdk_42_method_147_code (4 : Nat) (Option.none : Option Jvm.ClassFile.FieldType)).before args0 about1 = true := code_word (m := ⟨11, 4⟩) (meth := k11m4) (c := k11c4) (by decide +kernel) rfl rfl rfl (by decide +kernel)
set_option maxRecDepth 65536 in
theorem w_c22 : (Jvm.Cond.code ({ cls := "java/lang/StringBuilder", name := "toString", desc := "()Ljava/lang/String;" } : Jvm.MethodName) jdk_67_method_42_code (1 : Nat) (Option.some (Jvm.ClassFile.FieldType.object "java/lang/String"))).before args0 about1 = true := code_word (m := ⟨15, 3⟩) (meth := k15m3) (c := k15c3) (by decide +kernel) rfl rfl rfl (by decide +kernel)
set_option maxRecDepth 65536 in
theorem w_c23 : (Jvm.Cond.code ({ cls := "java/lang/String", name := "<init>", desc := "(Ljava/lang/StringBuilder;)V" } : Jvm.MethodName) jdk_42_method_53_code (2 : Nat) (Option.none : Option Jvm.ClassFile.FieldType)).before args0 about1 = true := code_word (m := ⟨11, 1⟩) (meth := k11m1) (c := k11c1) (by decide +kernel) rfl rfl rfl (by decide +kernel)
set_option maxRecDepth 65536 in
theorem w_c24 : (Jvm.Cond.code ({ cls := "java/lang/String", name := "<init>", desc := "(Ljava/lang/AbstractStringBuilder;Ljava/lang/Void;)V" } : Jvm.MethodName) jdk_42_method_150_code (5 : Nat) (Option.none : Option Jvm.ClassFile.FieldType)).before args0 about1 = true := code_word (m := ⟨11, 5⟩) (meth := k11m5) (c := k11c5) (by decide +kernel) rfl rfl rfl (by decide +kernel)
set_option maxRecDepth 65536 in
theorem w_c25 : (Jvm.Cond.code ({ cls := "java/lang/AbstractStringBuilder", name := "getValue", desc := "()[B" } : Jvm.MethodName) jdk_68_method_64_code (1 : Nat) (Option.some (Jvm.ClassFile.FieldType.array Jvm.ClassFile.FieldType.byte))).before args0 about1 = true := code_word (m := ⟨14, 7⟩) (meth := k14m7) (c := k14c7) (by decide +kernel) rfl rfl rfl (by decide +kernel)
set_option maxRecDepth 65536 in
theorem w_c26 : (Jvm.Cond.code ({ cls := "java/lang/StringBuilder", name := "length", desc := "()I" } : Jvm.MethodName) jdk_67_method_93_code (1 : Nat) (Option.some Jvm.ClassFile.FieldType.int)).before args0 about1 = true := code_word (m := ⟨15, 4⟩) (meth := k15m4) (c := k15c4) (by decide +kernel) rfl rfl rfl (by decide +kernel)
set_option maxRecDepth 65536 in
theorem w_c27 : (Jvm.Cond.code ({ cls := "java/lang/AbstractStringBuilder", name := "length", desc := "()I" } : Jvm.MethodName) jdk_68_method_6_code (1 : Nat) (Option.some Jvm.ClassFile.FieldType.int)).before args0 about1 = true := code_word (m := ⟨14, 2⟩) (meth := k14m2) (c := k14c2) (by decide +kernel) rfl rfl rfl (by decide +kernel)
set_option maxRecDepth 65536 in
theorem w_c28 : (Jvm.Cond.code ({ cls := "java/util/Arrays", name := "copyOfRange", desc := "([BII)[B" } : Jvm.MethodName) jdk_65_method_132_code (3 : Nat) (Option.some (Jvm.ClassFile.FieldType.array Jvm.ClassFile.FieldType.byte))).before args0 about1 = true := code_word (m := ⟨20, 3⟩) (meth := k20m3) (c := k20c3) (by decide +kernel) rfl rfl rfl (by decide +kernel)
set_option maxRecDepth 65536 in
theorem w_c29 : (Jvm.Cond.code ({ cls := "java/util/Arrays", name := "copyOfRangeByte", desc := "([BII)[B" } : Jvm.MethodName) jdk_65_method_133_code (5 : Nat) (Option.some (Jvm.ClassFile.FieldType.array Jvm.ClassFile.FieldType.byte))).before args0 about1 = true := code_word (m := ⟨20, 4⟩) (meth := k20m4) (c := k20c4) (by decide +kernel) rfl rfl rfl (by decide +kernel)
set_option maxRecDepth 65536 in
theorem w_c30 : (Jvm.Cond.code ({ cls := "java/util/Arrays", name := "checkLength", desc := "(II)V" } : Jvm.MethodName) jdk_65_method_131_code (2 : Nat) (Option.none : Option Jvm.ClassFile.FieldType)).before args0 about1 = true := code_word (m := ⟨20, 2⟩) (meth := k20m2) (c := k20c2) (by decide +kernel) rfl rfl rfl (by decide +kernel)
set_option maxRecDepth 65536 in
theorem w_c31 : (Jvm.Cond.code ({ cls := "java/lang/Math", name := "min", desc := "(II)I" } : Jvm.MethodName) jdk_29_method_69_code (2 : Nat) (Option.some Jvm.ClassFile.FieldType.int)).before args0 about1 = true := code_word (m := ⟨21, 2⟩) (meth := k21m2) (c := k21c2) (by decide +kernel) rfl rfl rfl (by decide +kernel)
set_option maxRecDepth 65536 in
theorem w_c32 : (Jvm.Cond.code ({ cls := "com/example/vigil_cache/vigilcache/HotKeyRuleWindowAsWrittenPinLaw", name := "digits", desc := "(J[J)I" } : Jvm.MethodName) method_3_code (4 : Nat) (Option.some Jvm.ClassFile.FieldType.int)).before args0 about1 = true := code_word (m := ⟨1, 2⟩) (meth := k1m2) (c := k1c2) (by decide +kernel) rfl rfl rfl (by decide +kernel)
set_option maxRecDepth 65536 in
theorem w_c33 : (Jvm.Cond.code ({ cls := "java/lang/String", name := "charAt", desc := "(I)C" } : Jvm.MethodName) jdk_42_method_56_code (2 : Nat) (Option.some Jvm.ClassFile.FieldType.char)).before args0 about1 = true := code_word (m := ⟨11, 3⟩) (meth := k11m3) (c := k11c3) (by decide +kernel) rfl rfl rfl (by decide +kernel)
set_option maxRecDepth 65536 in
theorem w_c34 : (Jvm.Cond.code ({ cls := "java/lang/String", name := "isLatin1", desc := "()Z" } : Jvm.MethodName) jdk_42_method_154_code (1 : Nat) (Option.some Jvm.ClassFile.FieldType.boolean)).before args0 about1 = true := code_word (m := ⟨11, 7⟩) (meth := k11m7) (c := k11c7) (by decide +kernel) rfl rfl rfl (by decide +kernel)
set_option maxRecDepth 65536 in
theorem w_c35 : (Jvm.Cond.code ({ cls := "java/lang/StringLatin1", name := "charAt", desc := "([BI)C" } : Jvm.MethodName) jdk_43_method_2_code (2 : Nat) (Option.some Jvm.ClassFile.FieldType.char)).before args0 about1 = true := code_word (m := ⟨22, 1⟩) (meth := k22m1) (c := k22c1) (by decide +kernel) rfl rfl rfl (by decide +kernel)
set_option maxRecDepth 65536 in
theorem w_c36 : (Jvm.Cond.code ({ cls := "java/lang/String", name := "checkIndex", desc := "(II)V" } : Jvm.MethodName) jdk_42_method_155_code (2 : Nat) (Option.none : Option Jvm.ClassFile.FieldType)).before args0 about1 = true := code_word (m := ⟨11, 8⟩) (meth := k11m8) (c := k11c8) (by decide +kernel) rfl rfl rfl (by decide +kernel)
set_option maxRecDepth 65536 in
theorem w_c37 : (Jvm.Cond.code ({ cls := "jdk/internal/util/Preconditions", name := "checkIndex", desc := "(IILjava/util/function/BiFunction;)I" } : Jvm.MethodName) jdk_41_method_11_code (3 : Nat) (Option.some Jvm.ClassFile.FieldType.int)).before args0 about1 = true := code_word (m := ⟨23, 1⟩) (meth := k23m1) (c := k23c1) (by decide +kernel) rfl rfl rfl (by decide +kernel)
set_option maxRecDepth 65536 in
theorem w_c38 : (Jvm.Cond.code ({ cls := "com/example/vigil_cache/vigilcache/HotKeyRuleWindowAsWrittenPinLaw", name := "digitOk", desc := "(Ljava/lang/String;JII[J)Z" } : Jvm.MethodName) method_4_code (8 : Nat) (Option.some Jvm.ClassFile.FieldType.boolean)).before args0 about1 = true := code_word (m := ⟨1, 3⟩) (meth := k1m3) (c := k1c3) (by decide +kernel) rfl rfl rfl (by decide +kernel)
set_option maxRecDepth 65536 in
theorem w_c39 : (Jvm.Cond.code ({ cls := "java/lang/AbstractStringBuilder", name := "newCapacity", desc := "(I)I" } : Jvm.MethodName) jdk_68_method_10_code (6 : Nat) (Option.some Jvm.ClassFile.FieldType.int)).before args0 about1 = true := code_word (m := ⟨14, 4⟩) (meth := k14m4) (c := k14c4) (by decide +kernel) rfl rfl rfl (by decide +kernel)
set_option maxRecDepth 65536 in
theorem w_c40 : (Jvm.Cond.code ({ cls := "jdk/internal/util/ArraysSupport", name := "newLength", desc := "(III)I" } : Jvm.MethodName) jdk_48_method_27_code (4 : Nat) (Option.some Jvm.ClassFile.FieldType.int)).before args0 about1 = true := code_word (m := ⟨24, 1⟩) (meth := k24m1) (c := k24c1) (by decide +kernel) rfl rfl rfl (by decide +kernel)
set_option maxRecDepth 65536 in
theorem w_c41 : (Jvm.Cond.code ({ cls := "java/lang/Math", name := "max", desc := "(II)I" } : Jvm.MethodName) jdk_29_method_65_code (2 : Nat) (Option.some Jvm.ClassFile.FieldType.int)).before args0 about1 = true := code_word (m := ⟨21, 1⟩) (meth := k21m1) (c := k21c1) (by decide +kernel) rfl rfl rfl (by decide +kernel)
set_option maxRecDepth 65536 in
theorem w_c42 : (Jvm.Cond.code ({ cls := "java/util/Arrays", name := "copyOf", desc := "([BI)[B" } : Jvm.MethodName) jdk_65_method_121_code (3 : Nat) (Option.some (Jvm.ClassFile.FieldType.array Jvm.ClassFile.FieldType.byte))).before args0 about1 = true := code_word (m := ⟨20, 1⟩) (meth := k20m1) (c := k20c1) (by decide +kernel) rfl rfl rfl (by decide +kernel)
def codes1 : List Jvm.Cond := [Jvm.Cond.code x code maxLocals ret, Jvm.Cond.code ({ cls := "com/example/vigil_cache/vigilcache/HotKeyRule", name := "<init>", desc := "(IJLcom/example/vigil_cache/vigilcache/HotKeyRule$WindowUnit;)V" } : Jvm.MethodName) prog_23_method_1_code (5 : Nat) (Option.none : Option Jvm.ClassFile.FieldType), Jvm.Cond.code ({ cls := "java/lang/Record", name := "<init>", desc := "()V" } : Jvm.MethodName) jdk_30_method_1_code (1 : Nat) (Option.none : Option Jvm.ClassFile.FieldType), Jvm.Cond.code ({ cls := "java/lang/Object", name := "<init>", desc := "()V" } : Jvm.MethodName) object_method_1_code (1 : Nat) (Option.none : Option Jvm.ClassFile.FieldType), Jvm.Cond.code ({ cls := "java/util/Objects", name := "requireNonNull", desc := "(Ljava/lang/Object;Ljava/lang/String;)Ljava/lang/Object;" } : Jvm.MethodName) jdk_31_method_11_code (2 : Nat) (Option.some (Jvm.ClassFile.FieldType.object "java/lang/Object")), Jvm.Cond.code ({ cls := "com/example/vigil_cache/vigilcache/HotKeyRule", name := "checkWindow", desc := "(JLcom/example/vigil_cache/vigilcache/HotKeyRule$WindowUnit;)V" } : Jvm.MethodName) prog_23_method_11_code (3 : Nat) (Option.none : Option Jvm.ClassFile.FieldType), Jvm.Cond.code ({ cls := "com/example/vigil_cache/vigilcache/HotKeyRule", name := "windowAsWritten", desc := "()Ljava/lang/String;" } : Jvm.MethodName) prog_23_method_6_code (1 : Nat) (Option.some (Jvm.ClassFile.FieldType.object "java/lang/String")), Jvm.Cond.code ({ cls := "java/lang/StringBuilder", name := "<init>", desc := "()V" } : Jvm.MethodName) jdk_67_method_1_code (1 : Nat) (Option.none : Option Jvm.ClassFile.FieldType), Jvm.Cond.code ({ cls := "java/lang/AbstractStringBuilder", name := "<init>", desc := "(I)V" } : Jvm.MethodName) jdk_68_method_2_code (2 : Nat) (Option.none : Option Jvm.ClassFile.FieldType), Jvm.Cond.code ({ cls := "java/lang/StringBuilder", name := "append", desc := "(J)Ljava/lang/StringBuilder;" } : Jvm.MethodName) jdk_67_method_16_code (3 : Nat) (Option.some (Jvm.ClassFile.FieldType.object "java/lang/StringBuilder")), Jvm.Cond.code ({ cls := "java/lang/AbstractStringBuilder", name := "append", desc := "(J)Ljava/lang/AbstractStringBuilder;" } : Jvm.MethodName) jdk_68_method_33_code (5 : Nat) (Option.some (Jvm.ClassFile.FieldType.object "java/lang/AbstractStringBuilder")), Jvm.Cond.code ({ cls := "java/lang/Long", name := "stringSize", desc := "(J)I" } : Jvm.MethodName) jdk_35_method_15_code (6 : Nat) (Option.some Jvm.ClassFile.FieldType.int), Jvm.Cond.code ({ cls := "java/lang/AbstractStringBuilder", name := "ensureCapacityInternal", desc := "(I)V" } : Jvm.MethodName) jdk_68_method_9_code (3 : Nat) (Option.none : Option Jvm.ClassFile.FieldType), Jvm.Cond.code ({ cls := "java/lang/AbstractStringBuilder", name := "isLatin1", desc := "()Z" } : Jvm.MethodName) jdk_68_method_68_code (1 : Nat) (Option.some Jvm.ClassFile.FieldType.boolean), Jvm.Cond.code ({ cls := "java/lang/Long", name := "getChars", desc := "(JI[B)I" } : Jvm.MethodName) jdk_35_method_14_code (11 : Nat) (Option.some Jvm.ClassFile.FieldType.int), Jvm.Cond.code ({ cls := "java/lang/StringBuilder", name := "append", desc := "(Ljava/lang/String;)Ljava/lang/StringBuilder;" } : Jvm.MethodName) jdk_67_method_7_code (2 : Nat) (Option.some (Jvm.ClassFile.FieldType.object "java/lang/StringBuilder")), Jvm.Cond.code ({ cls := "java/lang/AbstractStringBuilder", name := "append", desc := "(Ljava/lang/String;)Ljava/lang/AbstractStringBuilder;" } : Jvm.MethodName) jdk_68_method_22_code (3 : Nat) (Option.some (Jvm.ClassFile.FieldType.object "java/lang/AbstractStringBuilder")), Jvm.Cond.code ({ cls := "java/lang/String", name := "length", desc := "()I" } : Jvm.MethodName) jdk_42_method_54_code (1 : Nat) (Option.some Jvm.ClassFile.FieldType.int), Jvm.Cond.code ({ cls := "java/lang/String", name := "coder", desc := "()B" } : Jvm.MethodName) jdk_42_method_152_code (1 : Nat) (Option.some Jvm.ClassFile.FieldType.byte), Jvm.Cond.code ({ cls := "java/lang/AbstractStringBuilder", name := "putStringAt", desc := "(ILjava/lang/String;)V" } : Jvm.MethodName) jdk_68_method_73_code (3 : Nat) (Option.none : Option Jvm.ClassFile.FieldType), Jvm.Cond.code ({ cls := "java/lang/AbstractStringBuilder", name := "inflateIfNeededFor", desc := "(Ljava/lang/String;)V" } : Jvm.MethodName) jdk_68_method_71_code (2 : Nat) (Option.none : Option Jvm.ClassFile.FieldType), Jvm.Cond.code ({ cls := "java/lang/String", name := "getBytes", desc := "([BIB)V" } : Jvm.MethodName) jdk_42_method_147_code (4 : Nat) (Option.none : Option Jvm.ClassFile.FieldType), Jvm.Cond.code ({ cls := "java/lang/StringBuilder", name := "toString", desc := "()Ljava/lang/String;" } : Jvm.MethodName) jdk_67_method_42_code (1 : Nat) (Option.some (Jvm.ClassFile.FieldType.object "java/lang/String")), Jvm.Cond.code ({ cls := "java/lang/String", name := "<init>", desc := "(Ljava/lang/StringBuilder;)V" } : Jvm.MethodName) jdk_42_method_53_code (2 : Nat) (Option.none : Option Jvm.ClassFile.FieldType), Jvm.Cond.code ({ cls := "java/lang/String", name := "<init>", desc := "(Ljava/lang/AbstractStringBuilder;Ljava/lang/Void;)V" } : Jvm.MethodName) jdk_42_method_150_code (5 : Nat) (Option.none : Option Jvm.ClassFile.FieldType), Jvm.Cond.code ({ cls := "java/lang/AbstractStringBuilder", name := "getValue", desc := "()[B" } : Jvm.MethodName) jdk_68_method_64_code (1 : Nat) (Option.some (Jvm.ClassFile.FieldType.array Jvm.ClassFile.FieldType.byte)), Jvm.Cond.code ({ cls := "java/lang/StringBuilder", name := "length", desc := "()I" } : Jvm.MethodName) jdk_67_method_93_code (1 : Nat) (Option.some Jvm.ClassFile.FieldType.int), Jvm.Cond.code ({ cls := "java/lang/AbstractStringBuilder", name := "length", desc := "()I" } : Jvm.MethodName) jdk_68_method_6_code (1 : Nat) (Option.some Jvm.ClassFile.FieldType.int), Jvm.Cond.code ({ cls := "java/util/Arrays", name := "copyOfRange", desc := "([BII)[B" } : Jvm.MethodName) jdk_65_method_132_code (3 : Nat) (Option.some (Jvm.ClassFile.FieldType.array Jvm.ClassFile.FieldType.byte)), Jvm.Cond.code ({ cls := "java/util/Arrays", name := "copyOfRangeByte", desc := "([BII)[B" } : Jvm.MethodName) jdk_65_method_133_code (5 : Nat) (Option.some (Jvm.ClassFile.FieldType.array Jvm.ClassFile.FieldType.byte)), Jvm.Cond.code ({ cls := "java/util/Arrays", name := "checkLength", desc := "(II)V" } : Jvm.MethodName) jdk_65_method_131_code (2 : Nat) (Option.none : Option Jvm.ClassFile.FieldType), Jvm.Cond.code ({ cls := "java/lang/Math", name := "min", desc := "(II)I" } : Jvm.MethodName) jdk_29_method_69_code (2 : Nat) (Option.some Jvm.ClassFile.FieldType.int), Jvm.Cond.code ({ cls := "com/example/vigil_cache/vigilcache/HotKeyRuleWindowAsWrittenPinLaw", name := "digits", desc := "(J[J)I" } : Jvm.MethodName) method_3_code (4 : Nat) (Option.some Jvm.ClassFile.FieldType.int), Jvm.Cond.code ({ cls := "java/lang/String", name := "charAt", desc := "(I)C" } : Jvm.MethodName) jdk_42_method_56_code (2 : Nat) (Option.some Jvm.ClassFile.FieldType.char), Jvm.Cond.code ({ cls := "java/lang/String", name := "isLatin1", desc := "()Z" } : Jvm.MethodName) jdk_42_method_154_code (1 : Nat) (Option.some Jvm.ClassFile.FieldType.boolean), Jvm.Cond.code ({ cls := "java/lang/StringLatin1", name := "charAt", desc := "([BI)C" } : Jvm.MethodName) jdk_43_method_2_code (2 : Nat) (Option.some Jvm.ClassFile.FieldType.char), Jvm.Cond.code ({ cls := "java/lang/String", name := "checkIndex", desc := "(II)V" } : Jvm.MethodName) jdk_42_method_155_code (2 : Nat) (Option.none : Option Jvm.ClassFile.FieldType), Jvm.Cond.code ({ cls := "jdk/internal/util/Preconditions", name := "checkIndex", desc := "(IILjava/util/function/BiFunction;)I" } : Jvm.MethodName) jdk_41_method_11_code (3 : Nat) (Option.some Jvm.ClassFile.FieldType.int), Jvm.Cond.code ({ cls := "com/example/vigil_cache/vigilcache/HotKeyRuleWindowAsWrittenPinLaw", name := "digitOk", desc := "(Ljava/lang/String;JII[J)Z" } : Jvm.MethodName) method_4_code (8 : Nat) (Option.some Jvm.ClassFile.FieldType.boolean), Jvm.Cond.code ({ cls := "java/lang/AbstractStringBuilder", name := "newCapacity", desc := "(I)I" } : Jvm.MethodName) jdk_68_method_10_code (6 : Nat) (Option.some Jvm.ClassFile.FieldType.int), Jvm.Cond.code ({ cls := "jdk/internal/util/ArraysSupport", name := "newLength", desc := "(III)I" } : Jvm.MethodName) jdk_48_method_27_code (4 : Nat) (Option.some Jvm.ClassFile.FieldType.int), Jvm.Cond.code ({ cls := "java/lang/Math", name := "max", desc := "(II)I" } : Jvm.MethodName) jdk_29_method_65_code (2 : Nat) (Option.some Jvm.ClassFile.FieldType.int), Jvm.Cond.code ({ cls := "java/util/Arrays", name := "copyOf", desc := "([BI)[B" } : Jvm.MethodName) jdk_65_method_121_code (3 : Nat) (Option.some (Jvm.ClassFile.FieldType.array Jvm.ClassFile.FieldType.byte))]
set_option maxRecDepth 65536 in
theorem codes_eq : words1.filter isCode = codes1 := rfl
theorem w_codes : ∀ c ∈ words1.filter isCode, c.before args0 about1 = true := by
  rw [codes_eq]
  intro c hc
  simp only [codes1, List.mem_cons, List.not_mem_nil, or_false] at hc
  rcases hc with rfl | rfl | rfl | rfl | rfl | rfl | rfl | rfl | rfl | rfl | rfl | rfl | rfl | rfl | rfl | rfl | rfl | rfl | rfl | rfl | rfl | rfl | rfl | rfl | rfl | rfl | rfl | rfl | rfl | rfl | rfl | rfl | rfl | rfl | rfl | rfl | rfl | rfl | rfl | rfl | rfl | rfl | rfl
  · exact w_c0
  · exact w_c1
  · exact w_c2
  · exact w_c3
  · exact w_c4
  · exact w_c5
  · exact w_c6
  · exact w_c7
  · exact w_c8
  · exact w_c9
  · exact w_c10
  · exact w_c11
  · exact w_c12
  · exact w_c13
  · exact w_c14
  · exact w_c15
  · exact w_c16
  · exact w_c17
  · exact w_c18
  · exact w_c19
  · exact w_c20
  · exact w_c21
  · exact w_c22
  · exact w_c23
  · exact w_c24
  · exact w_c25
  · exact w_c26
  · exact w_c27
  · exact w_c28
  · exact w_c29
  · exact w_c30
  · exact w_c31
  · exact w_c32
  · exact w_c33
  · exact w_c34
  · exact w_c35
  · exact w_c36
  · exact w_c37
  · exact w_c38
  · exact w_c39
  · exact w_c40
  · exact w_c41
  · exact w_c42
set_option maxRecDepth 65536 in
theorem w_t1 : (words1.take 24).all (fun c => isCode c || c.before args0 about1) = true := by decide +kernel
set_option maxRecDepth 65536 in
theorem w_t2 : ((words1.drop 24).take 24).all (fun c => isCode c || c.before args0 about1) = true := by decide +kernel
set_option maxRecDepth 65536 in
theorem w_t3 : (((words1.drop 24).drop 24).take 24).all (fun c => isCode c || c.before args0 about1) = true := by decide +kernel
set_option maxRecDepth 65536 in
theorem w_t4 : ((((words1.drop 24).drop 24).drop 24).take 24).all (fun c => isCode c || c.before args0 about1) = true := by decide +kernel
set_option maxRecDepth 65536 in
theorem w_t5 : (((((words1.drop 24).drop 24).drop 24).drop 24).take 24).all (fun c => isCode c || c.before args0 about1) = true := by decide +kernel
set_option maxRecDepth 65536 in
theorem w_t6 : ((((((words1.drop 24).drop 24).drop 24).drop 24).drop 24).take 24).all (fun c => isCode c || c.before args0 about1) = true := by decide +kernel
set_option maxRecDepth 65536 in
theorem w_t7 : (((((((words1.drop 24).drop 24).drop 24).drop 24).drop 24).drop 24).take 24).all (fun c => isCode c || c.before args0 about1) = true := by decide +kernel
set_option maxRecDepth 65536 in
theorem w_t8 : ((((((((words1.drop 24).drop 24).drop 24).drop 24).drop 24).drop 24).drop 24).take 24).all (fun c => isCode c || c.before args0 about1) = true := by decide +kernel
set_option maxRecDepth 65536 in
theorem w_t9 : (((((((((words1.drop 24).drop 24).drop 24).drop 24).drop 24).drop 24).drop 24).drop 24).take 24).all (fun c => isCode c || c.before args0 about1) = true := by decide +kernel
set_option maxRecDepth 65536 in
theorem w_t10 : ((((((((((words1.drop 24).drop 24).drop 24).drop 24).drop 24).drop 24).drop 24).drop 24).drop 24).take 24).all (fun c => isCode c || c.before args0 about1) = true := by decide +kernel
set_option maxRecDepth 65536 in
theorem w_t11 : (((((((((((words1.drop 24).drop 24).drop 24).drop 24).drop 24).drop 24).drop 24).drop 24).drop 24).drop 24).take 24).all (fun c => isCode c || c.before args0 about1) = true := by decide +kernel
set_option maxRecDepth 65536 in
theorem w_t12 : (((((((((((words1.drop 24).drop 24).drop 24).drop 24).drop 24).drop 24).drop 24).drop 24).drop 24).drop 24).drop 24).all (fun c => isCode c || c.before args0 about1) = true := by decide +kernel
theorem w_tables : (allAtoms (Jvm.Cond.code x code maxLocals ret :: tables_1)).before args0 about1 = true := by
  rw [allAtoms_all]
  show words1.all (fun c => c.before args0 about1) = true
  refine all_split ?_ w_codes
  rw [← List.take_append_drop 24 words1, List.all_append, w_t1, ← List.take_append_drop 24 (words1.drop 24), List.all_append, w_t2, ← List.take_append_drop 24 ((words1.drop 24).drop 24), List.all_append, w_t3, ← List.take_append_drop 24 (((words1.drop 24).drop 24).drop 24), List.all_append, w_t4, ← List.take_append_drop 24 ((((words1.drop 24).drop 24).drop 24).drop 24), List.all_append, w_t5, ← List.take_append_drop 24 (((((words1.drop 24).drop 24).drop 24).drop 24).drop 24), List.all_append, w_t6, ← List.take_append_drop 24 ((((((words1.drop 24).drop 24).drop 24).drop 24).drop 24).drop 24), List.all_append, w_t7, ← List.take_append_drop 24 (((((((words1.drop 24).drop 24).drop 24).drop 24).drop 24).drop 24).drop 24), List.all_append, w_t8, ← List.take_append_drop 24 ((((((((words1.drop 24).drop 24).drop 24).drop 24).drop 24).drop 24).drop 24).drop 24), List.all_append, w_t9, ← List.take_append_drop 24 (((((((((words1.drop 24).drop 24).drop 24).drop 24).drop 24).drop 24).drop 24).drop 24).drop 24), List.all_append, w_t10, ← List.take_append_drop 24 ((((((((((words1.drop 24).drop 24).drop 24).drop 24).drop 24).drop 24).drop 24).drop 24).drop 24).drop 24), List.all_append, w_t11, w_t12]
  rfl
set_option maxRecDepth 65536 in
theorem w_rest : rest_1_c.before args0 about1 = true := by decide +kernel
set_option maxRecDepth 65536 in
theorem w_case : (Jvm.Cond.and given_1 narrow_1).before args0 about1 = true := by decide +kernel
theorem w_applies : (headSpec (Jvm.Cond.code x code maxLocals ret :: tables_1) room_1).applies x e0.platform about1 = true :=
  (Spec.applies_iff w_frames).mpr ⟨w_running, w_runnable, w_alone, w_named, w_hears, w_ripe, w_room, w_tables⟩
theorem atStart : AtStart classFile x code maxLocals ret World_1 tables_1 room_1 Calls_1 rest_1 Pre_1 launch0 p0 e0 about1 theMethod args0 below0 :=
  ⟨lists_1, trivial, launch0.admits_env _ _ _, launch0.least_env, fairChoices_fair.cas, fairChoices_fair.clock, w_frames, w_args, w_heap, w_applies, trivial, w_rest, w_case⟩
end start1
theorem witness_1 : WitnessClaimed_1 := ⟨start1.p0, start1.e0, start1.about1, start1.theMethod, start1.args0, start1.below0, start1.atStart⟩
end Jvm.Pilot.@@N@@
