import JvmDerived
import JvmDerived.Pilot.@@N@@Statement
import JvmDerived.Pilot.@@N@@Code
set_option linter.unusedVariables false
set_option linter.unusedSimpArgs false
namespace Jvm.RoadKit
open Sem ClassFile Op Lib Jvm.Stand Jvm.Free Jvm.LawKit
section New
variable {p : Program} {l : Launch} {e : Env} {R : Room} {s : State} {m : MethodId} {args : Array Value} {below : List Frame} {meth : Method} {c : Code} {T : State} {locs : List Loc} {cells slots : Nat}
theorem retI (X : Stand p l e R s m args below meth c T locs cells slots) (hx : p.tables.exec = Jvm.exec) {pc : Nat} {Ls : Array Slot} {z : Int32} {rest : List Value} (hret : meth.sig.returnType = some .int) (hd : decode c.code pc = .ok (.ireturn, 1)) {fs : List Frame}
    (hl : ∀ (f : JFrame) (acts : List Action), f.method = m → f.locked = none → f.entered = [] → (doReturn e (T.setTop f) acts (some (.int z))).1 = T.setFrames fs) : Steps p.tables e below (T.setTop (mkF m pc Ls (.int z :: rest))) (T.setFrames fs) := by
  have hm' : T.vm.method? m = some meth := X.method'
  have hn : narrow .int (.int z) = .int z := rfl
  show Steps p.tables e below (T.setTop { method := m, pc := pc, locals := Ls, stack := _ :: rest, locked := none }) _
  jvm_step X.here [X.here.top, hx, hd, hm', hret, hn]
  first | (intro acts; rw [hl _ acts rfl rfl rfl]) | rw [hl _ _ rfl rfl rfl]
  exact Steps.refl _
end New
end Jvm.RoadKit
namespace Jvm.Pilot.@@N@@
open Jvm Jvm.ClassFile Sem Op Lib Jvm.Free Jvm.Stand Jvm.LawKit Jvm.RoadKit Bundle Jvm.Pilot.@@N@@.Jvm.D
theorem M {d : Jvm.Cond} (i : Nat) (h : tables_1[i]? = some d := by rfl) : d ∈ tables_1 := List.mem_of_getElem? h
def QR (r : Value) (h0 : Heap) (n0 : Nat) (v : Option Value) (h : Heap) (L : List Loc) : Prop := v = some r ∧ Fr n0 L ∧ h = h0
def RO (l : Launch) (Z : State) (y : MethodName) (bytes : ByteArray) (ml : Nat) (rt : Option FieldType) (R : Room) (as : Array Value) (h0 : Heap) (n0 : Nat) (r : Value) : Prop :=
  ∀ ws : List Jvm.Cond, MetFree l y (head1 (Jvm.Cond.code y bytes ml rt :: ws) R) (fun a U => a = as ∧ Z.Warmed39 U.vm ∧ U.heap = h0) (fun _ _ _ _ _ => True) (fun _ U o U' => ∃ v L, o = .returned v ∧ QR r h0 n0 v U'.heap L ∧ FrameEnd U o U' L R.cells R.slots)
def MQ (l : Launch) (Z : State) (y : MethodName) (bytes : ByteArray) (ml : Nat) (rt : Option FieldType) (R : Room) (as : Array Value) (h0 : Heap) (Q : Option Value → Heap → List Loc → Prop) : Prop :=
  ∀ ws : List Jvm.Cond, MetFree l y (head1 (Jvm.Cond.code y bytes ml rt :: ws) R) (fun a U => a = as ∧ Z.Warmed39 U.vm ∧ U.heap = h0) (fun _ _ _ _ _ => True) (fun _ U o U' => ∃ v L, o = .returned v ∧ Q v U'.heap L ∧ FrameEnd U o U' L R.cells R.slots)
def MW (l : Launch) (Z : State) (y : MethodName) (bytes : ByteArray) (ml : Nat) (rt : Option FieldType) (R : Room) (as : Array Value) (h0 : Heap) (Q : Option Value → Heap → List Loc → Prop) : Prop :=
  ∀ ws : List Jvm.Cond, MetFree l y (head1 (Jvm.Cond.code y bytes ml rt :: ws) R) (fun a U => a = as ∧ Z.Warmed39 U.vm ∧ U.heap = h0) (fun _ _ _ _ _ => True) (fun _ U o U' => ∃ v L, o = .returned v ∧ Q v U'.heap L ∧ ReturnedEndW U o U' L R.cells R.slots)
def QN (h0 : Heap) (n0 : Nat) (v : Option Value) (h : Heap) (L : List Loc) : Prop := v = none ∧ Fr n0 L ∧ h = h0
theorem own_sta_keepN {Z : State} {h h' : Heap} {C n d : String} {v : Value} {ws : List Addr} (F : Sta Z h C n d v) (K : Keep h h' ws) (hns : ∀ x ∈ ws, ∀ cell : Cell, h[x]? = some cell → cell.vm.isStatics = false) : Sta Z h' C n d v := by
  obtain ⟨cf, i, k, f, st, cell, h1, h2, h3, h4, h5, h6, h7⟩ := F
  refine ⟨cf, i, k, f, st, cell, h1, h2, h3, h4, K.2.1 st cell h5 (fun q => ?_), h6, h7⟩
  have := hns st q cell h5
  rw [h6] at this; cases this
theorem own_shr0 (x : Int32) : x >>> ((0 : Int32) &&& 31) = x := by
  have e : ((0 : Int32) &&& 31) = 0 := by decide
  rw [e]; exact Int32.shiftRight_zero
theorem own_shl0 (x : Int32) : x <<< ((0 : Int32) &&& 31) = x := by
  have e : ((0 : Int32) &&& 31) = 0 := by decide
  rw [e]; exact Int32.shiftLeft_zero
def own_cp (vs : List Value) (dv : Value) (sp : Int32) (vd : List Value) (dp nn : Int32) : List Value := vd.take dp.toNatClampNeg ++ ((List.range nn.toNatClampNeg).map fun i => vs.getD (sp.toNatClampNeg + i) dv) ++ vd.drop (dp.toNatClampNeg + nn.toNatClampNeg)
theorem own_declares {Z : State} {a0 : Array Value} {y : MethodName} {bytes : ByteArray} {ml : Nat} {rt : Option FieldType} (hi : (Jvm.Cond.instanceMethod y).before a0 Z = true) (hc : (Jvm.Cond.code y bytes ml rt).before a0 Z = true) : (Jvm.Cond.declares y).before a0 Z = true := by
  obtain ⟨mk, me, hn, hm, hs, -⟩ := Cond.instanceMethod_spec hi
  obtain ⟨me', c, q1, -, -, -, -, -, -, hsig⟩ := Cond.code_spec hn hc
  cases hm.symm.trans q1
  simp [Cond.before, Cond.holds, Cond.value, hn, hm, hs, hsig]
theorem own_nf {s : State} {args : Array Value} {C : String} {y y' : MethodName} (hc : y'.cls = y.cls) (hsel : (Jvm.Cond.selects C y' y').before args s = true) : NotFace s y := fun r0 h0 => by
  obtain ⟨c2, r2, m2, q1, q2, q3, q4, kP, hkP, hkPi⟩ := Cond.selects_spec hsel
  have e1 := findClass_of_methodNamed q3
  have e2 := findClass_of_methodNamed h0
  rw [hc] at e1
  have e : m2.cls = r0.cls := Option.some.inj (e1.symm.trans e2)
  exact ⟨kP, e ▸ hkP, hkPi⟩
theorem own_same {Z : State} {a0 : Array Value} {C : String} {y y' : MethodName} (hc : y'.cls = y.cls) (hy : y.cls ≠ "java/lang/invoke/MethodHandle" ∧ y.cls ≠ "java/lang/invoke/VarHandle") (hd : (Jvm.Cond.declares y).before a0 Z = true) (hsel : (Jvm.Cond.selects C y' y').before a0 Z = true) : (Jvm.Cond.sameMethod y.cls y.cls y.name y.desc).before a0 Z = true := by
  obtain ⟨m, me, hn, hm, -, -⟩ := Cond.declares_spec hd
  have hf := State.methodFound?_of_named hn hy
  have hcl := findClass_of_methodNamed hn
  obtain ⟨k, hk, hi⟩ := own_nf hc hsel m hn
  have hn' : Z.methodNamed? ⟨y.cls, y.name, y.desc⟩ = some m := hn
  simp [Cond.before, Cond.holds, Cond.value, hcl, hf, hn', hk, hi]
def BdS (Z : State) (h : Heap) (ob va : Addr) (kA : ClassId) (cap cnt : Int32) (vs : List Value) : Prop := Exa Z h ob "java/lang/StringBuilder" ∧ Fld Z h ob "java/lang/AbstractStringBuilder" "value" "[B" (.ref va) ∧ Fld Z h ob "java/lang/AbstractStringBuilder" "coder" "B" (.int (0 : Int32)) ∧ Fld Z h ob "java/lang/AbstractStringBuilder" "count" "I" (.int cnt) ∧ Arv Z h va kA .byte cap vs (.int (0 : Int32))
def StS (Z : State) (h : Heap) (os sa : Addr) (kS : ClassId) (zs : Int32) (ss : List Value) : Prop := Exa Z h os "java/lang/String" ∧ Fld Z h os "java/lang/String" "coder" "B" (.int (0 : Int32)) ∧ Fld Z h os "java/lang/String" "value" "[B" (.ref sa) ∧ Arv Z h sa kS .byte zs ss (.int (0 : Int32))
def QP (va : Addr) (Z : State) (kA : ClassId) (cap : Int32) (vs : List Value) (h0 : Heap) (n0 : Nat) (r : Option Value) (v : Option Value) (h : Heap) (L : List Loc) : Prop := v = r ∧ Fr n0 L ∧ Keep h0 h [va] ∧ Arv Z h va kA .byte cap vs (.int (0 : Int32))
def QA (Z : State) (z : Int32) (vs : List Value) (h0 : Heap) (n0 : Nat) (v : Option Value) (h : Heap) (L : List Loc) : Prop := ∃ (b : Addr) (kB : ClassId), v = some (.ref b) ∧ Fr n0 L ∧ Keep h0 h [] ∧ h0.size ≤ b ∧ Arv Z h b kB .byte z vs (.int (0 : Int32))
def QE (Z : State) (ob va : Addr) (cap cnt : Int32) (vs : List Value) (r : Option Value) (h0 : Heap) (n0 : Nat) (v : Option Value) (h : Heap) (L : List Loc) : Prop := ∃ (vb : Addr) (kB : ClassId), v = r ∧ Fr n0 L ∧ Keep h0 h [ob, va] ∧ (vb = va ∨ h0.size ≤ vb) ∧ n0 ≤ vb ∧ BdS Z h ob vb kB cap cnt vs
theorem d14_0 : decode jdk_42_method_152_code 0 = .ok (.getstatic 38, 3) := by decide +kernel
theorem d14_3 : decode jdk_42_method_152_code 3 = .ok (.ifCond .eq 10, 3) := by decide +kernel
theorem d14_6 : decode jdk_42_method_152_code 6 = .ok (.aload_n 0, 1) := by decide +kernel
theorem d14_7 : decode jdk_42_method_152_code 7 = .ok (.getfield 15, 3) := by decide +kernel
theorem d14_10 : decode jdk_42_method_152_code 10 = .ok (.goto 4, 3) := by decide +kernel
theorem d14_14 : decode jdk_42_method_152_code 14 = .ok (.ireturn, 1) := by decide +kernel
theorem pn_14 : plainName "java/lang/String" = true := by first | (simp [plainName, overriddenIn]; done) | decide +kernel
theorem ef_14 (m : MethodId) (x0 : Addr) : entryFrame m #[(.ref x0)] 1 = mkF m 0 #[.val (.ref x0)] [] := by first | (simp [entryFrame, mkF, argsToLocals, Value.category]; done) | rfl
set_option maxRecDepth 65536 in
set_option maxHeartbeats 40000000 in
theorem sCoder (l : Launch) (Z : State) (a0 : Array Value) (hw : ∀ d ∈ tables_1, d.before a0 Z = true) (os sa : Addr) (kS : ClassId) (zs : Int32) (ss : List Value) (zc : Int32)  (h0 : Heap) (n0 : Nat) (Z0 : n0 ≤ h0.size) (Ts : StS Z h0 os sa kS zs ss) (S_CS : Sta Z h0 "java/lang/String" "COMPACT_STRINGS" "Z" (.int zc)) (hz : ¬ (zc = (0 : Int32))) :
    MQ l Z (⟨"java/lang/String", "coder", "()B"⟩ : MethodName) jdk_42_method_152_code 1 (some .byte) ({ frames := 0, cells := 0, slots := 0, locals := 0 } : Room) #[(.ref os)] h0 (QR (.int (0 : Int32)) h0 n0) := by
  intro ws
  refine MetFree.of_bodySF (plainFor_of_name pn_14) hisR ?_
  intro p e s m args below meth c s₁ Bd hml0 hP hK
  obtain ⟨rfl, hZ, hh⟩ := hP
  have hx := Bd.exec
  have hby := Bd.bytes
  have hml : c.maxLocals = 1 := hml0
  have hown : s.vm.findClass "java/lang/String" = some m.cls := findClass_of_methodNamed Bd.named
  have hnm := (name_of_methodNamed Bd.named Bd.method).1
  have X0 : Stand p l e ({ frames := 0, cells := 0, slots := 0, locals := 0 } : Room) s m #[(.ref os)] below meth c s₁ [] 0 0 := Stand.of_body Bd
  have e0 : s₁.heap = h0 := by rw [← hh, Bd.state]; rfl
  have N0 := Fr.nil n0
  have pre0 : ∀ t_, Steps p.tables e below (s₁.setTop (mkF m 0 #[.val (.ref os)] [])) t_ → Steps p.tables e below (s₁.setTop (entryFrame m #[(.ref os)] 1)) t_ := fun t_ k_ => castTop (ef_14 m os) k_
  obtain ⟨T1, X1, e1, st1⟩ := getS2 X0 hx hZ hown (host := "") (Or.inl (hw _ (M 98))) Via.refl e0 S_CS (g := (mkF m 0 #[.val (.ref os)] [])) rfl (hb hby d14_0)
  obtain ⟨T2, X2, e2, st2⟩ := getF X1 hx hZ hown (host := "") (Or.inl (hw _ (M 99))) Via.refl e1 Ts.2.1 (g := (mkF m 7 #[.val (.ref os)] [(.ref os)])) rfl rfl (hb hby d14_7)
  obtain ⟨fs, hr, hrun, hended, hW, hsame⟩ := X2.leave (v := some (.int (0 : Int32))) (fun h => by rw [Bd.returns] at h; cases h)
  refine ⟨_, _, pre0 _ ?_, hrun, hended, _, _, rfl, ?_, ⟨_, rfl⟩, hW, hsame.mono (by decide) (by decide)⟩
  · show Steps p.tables e below (s₁.setTop (mkF m 0 #[.val (.ref os)] [])) _
    refine st1 _ ?_
    show Steps p.tables e below (T1.setTop (mkF m 3 #[.val (.ref os)] [(.int zc)])) _
    refine XS.ifNo X1.here hx rfl (hb hby d14_3) rfl ((if0 _ _).trans (feq hz).1) ?_
    show Steps p.tables e below (T1.setTop (mkF m 6 #[.val (.ref os)] [])) _
    refine XS.aloadN X1.here hx rfl (hb hby d14_6) rfl rfl ?_
    refine st2 _ ?_
    show Steps p.tables e below (T2.setTop (mkF m 10 #[.val (.ref os)] [(.int (0 : Int32))])) _
    refine XS.goto X2.here hx rfl (pc0 := 10) (pc' := 14) rfl (hb hby d14_10) (by decide) (by decide) ?_
    show Steps p.tables e below (T2.setTop (mkF m 14 #[.val (.ref os)] [(.int (0 : Int32))])) _
    exact retN X2 hx (t := .byte) Bd.returns (by simp) (hb hby d14_14) hr
  · show (QR (.int (0 : Int32)) h0 n0) _ T2.heap _
    rw [e2]
    exact ⟨rfl, N0, rfl⟩
theorem d13_0 : decode jdk_42_method_54_code 0 = .ok (.aload_n 0, 1) := by decide +kernel
theorem d13_1 : decode jdk_42_method_54_code 1 = .ok (.getfield 9, 3) := by decide +kernel
theorem d13_4 : decode jdk_42_method_54_code 4 = .ok (.arraylength, 1) := by decide +kernel
theorem d13_5 : decode jdk_42_method_54_code 5 = .ok (.aload_n 0, 1) := by decide +kernel
theorem pd_ocB : parseMethodDescriptor "()B" = some ⟨[], some .byte⟩ := by decide +kernel
theorem d13_6 : decode jdk_42_method_54_code 6 = .ok (.invokevirtual 335, 3) := by decide +kernel
theorem d13_9 : decode jdk_42_method_54_code 9 = .ok (.ishr, 1) := by decide +kernel
theorem d13_10 : decode jdk_42_method_54_code 10 = .ok (.ireturn, 1) := by decide +kernel
theorem pn_13 : plainName "java/lang/String" = true := by first | (simp [plainName, overriddenIn]; done) | decide +kernel
theorem ef_13 (m : MethodId) (x0 : Addr) : entryFrame m #[(.ref x0)] 1 = mkF m 0 #[.val (.ref x0)] [] := by first | (simp [entryFrame, mkF, argsToLocals, Value.category]; done) | rfl
set_option maxRecDepth 65536 in
set_option maxHeartbeats 40000000 in
theorem sLength (l : Launch) (Z : State) (a0 : Array Value) (hw : ∀ d ∈ tables_1, d.before a0 Z = true) (os sa : Addr) (kS : ClassId) (zs : Int32) (ss : List Value) (zc : Int32)  (h0 : Heap) (n0 : Nat) (Z0 : n0 ≤ h0.size) (Ts : StS Z h0 os sa kS zs ss) (S_CS : Sta Z h0 "java/lang/String" "COMPACT_STRINGS" "Z" (.int zc)) (hz : ¬ (zc = (0 : Int32))) :
    MQ l Z (⟨"java/lang/String", "length", "()I"⟩ : MethodName) jdk_42_method_54_code 1 (some .int) ({ frames := 1, cells := 0, slots := 0, locals := 13 } : Room) #[(.ref os)] h0 (QR (.int zs) h0 n0) := by
  intro ws
  refine MetFree.of_bodySF (plainFor_of_name pn_13) hisR ?_
  intro p e s m args below meth c s₁ Bd hml0 hP hK
  obtain ⟨rfl, hZ, hh⟩ := hP
  have hx := Bd.exec
  have hby := Bd.bytes
  have hml : c.maxLocals = 1 := hml0
  have hown : s.vm.findClass "java/lang/String" = some m.cls := findClass_of_methodNamed Bd.named
  have hnm := (name_of_methodNamed Bd.named Bd.method).1
  have X0 : Stand p l e ({ frames := 1, cells := 0, slots := 0, locals := 13 } : Room) s m #[(.ref os)] below meth c s₁ [] 0 0 := Stand.of_body Bd
  have e0 : s₁.heap = h0 := by rw [← hh, Bd.state]; rfl
  have N0 := Fr.nil n0
  have pre0 : ∀ t_, Steps p.tables e below (s₁.setTop (mkF m 0 #[.val (.ref os)] [])) t_ → Steps p.tables e below (s₁.setTop (entryFrame m #[(.ref os)] 1)) t_ := fun t_ k_ => castTop (ef_13 m os) k_
  obtain ⟨T1, X1, e1, st1⟩ := getF X0 hx hZ hown (host := "") (Or.inl (hw _ (M 92))) Via.refl e0 Ts.2.2.1 (g := (mkF m 1 #[.val (.ref os)] [(.ref os)])) rfl rfl (hb hby d13_1)
  obtain ⟨clv2, Arv2, qv2, Sv2, Ng2, Hv2, Gv2⟩ := id Ts.2.2.2
  obtain ⟨cq3, kq3, q3a, q3b, q3c⟩ := isOf hZ e1 Ts.1
  obtain ⟨_, _, ⟨T3, L3, k3, n3⟩, -, X3, ⟨Lc3, hQ3, l3, y3, z3⟩, st3⟩ := X1.virtualBack hx (y := (⟨"java/lang/String", "coder", "()B"⟩ : MethodName)) (z := (⟨"java/lang/String", "coder", "()B"⟩ : MethodName)) hown (mvT hZ (hw _ (M 93))) (mvT hZ (hw _ (M 94))) (notFace_of_selects (args := #[]) (mvT hZ (hw _ (M 96)))) (mvT hZ (hw _ (M 96))) (mvT hZ (hw _ (M 95))) (by decide) (backOf (W := 1) ((sCoder l Z a0 hw os sa kS zs ss zc h0 n0 (Nat.le_trans Z0 (Keep.refl h0 []).1) ⟨Ts.1, Ts.2.1, Ts.2.2.1, Ts.2.2.2⟩ S_CS hz) []) hZ (hw _ (M 97)) (hw _ (M 46)) (by decide) (by decide)) q3a q3c (g := (mkF m 6 #[.val (.ref os)] [(.ref os), (.int zs)])) rfl (by rw [hml]; rfl) (Steps.refl _) (argsL := []) (rest := [(.int zs)]) (lenOf pd_ocB rfl) rfl (by show 2 * 0 + _ ≤ _; exact Nat.le_of_eq rfl) (hb hby d13_6) (fun _ _ => ⟨rfl, e1, (by decide : 0 + 0 ≤ _), (by decide : 0 + 0 ≤ _)⟩)
  dsimp only [Pt.U, Pt.locs, Pt.cells, Pt.slots] at X3 l3 y3 z3 st3 hQ3
  subst l3 y3 z3
  obtain ⟨rfl, N3q, e3⟩ := hQ3
  have N3 := Fr.app N0 N3q
  obtain ⟨fs, hr, hrun, hended, hW, hsame⟩ := X3.leave (v := some (.int zs)) (fun h => by rw [Bd.returns] at h; cases h)
  refine ⟨_, _, pre0 _ ?_, hrun, hended, _, _, rfl, ?_, ⟨_, rfl⟩, hW, hsame.mono (by decide) (by decide)⟩
  · show Steps p.tables e below (s₁.setTop (mkF m 0 #[.val (.ref os)] [])) _
    refine XS.aloadN X0.here hx rfl (hb hby d13_0) rfl rfl ?_
    refine st1 _ ?_
    show Steps p.tables e below (T1.setTop (mkF m 4 #[.val (.ref os)] [(.ref sa)])) _
    refine X1.arraylength hx (by rw [e1]; exact Arv2.1) (State.isArrayOf_alike hZ.alike Arv2.2.1) (g := (mkF m 4 #[.val (.ref os)] [(.ref sa)])) rfl rfl (hb hby d13_4) _ ?_
    rw [len_of Sv2 Ng2]
    show Steps p.tables e below (T1.setTop (mkF m 5 #[.val (.ref os)] [(.int zs)])) _
    refine XS.aloadN X1.here hx rfl (hb hby d13_5) rfl rfl ?_
    refine st3.trans ?_
    show Steps p.tables e below (T3.setTop (mkF m 9 #[.val (.ref os)] [(.int (0 : Int32)), (.int zs)])) _
    refine XS.ishr X3.here hx rfl (hb hby d13_9) rfl ?_
    show Steps p.tables e below (T3.setTop (mkF m 10 #[.val (.ref os)] [(.int (zs >>> ((0 : Int32) &&& 31)))])) _
    rw [(own_shr0 zs)]
    show Steps p.tables e below (T3.setTop (mkF m 10 #[.val (.ref os)] [(.int zs)])) _
    exact retI X3 hx Bd.returns (hb hby d13_10) hr
  · show (QR (.int zs) h0 n0) _ T3.heap _
    rw [e3]
    exact ⟨rfl, N3, rfl⟩
theorem d22_0 : decode jdk_68_method_68_code 0 = .ok (.getstatic 18, 3) := by decide +kernel
theorem d22_3 : decode jdk_68_method_68_code 3 = .ok (.ifCond .eq 14, 3) := by decide +kernel
theorem d22_6 : decode jdk_68_method_68_code 6 = .ok (.aload_n 0, 1) := by decide +kernel
theorem d22_7 : decode jdk_68_method_68_code 7 = .ok (.getfield 22, 3) := by decide +kernel
theorem d22_10 : decode jdk_68_method_68_code 10 = .ok (.ifCond .ne 7, 3) := by decide +kernel
theorem d22_13 : decode jdk_68_method_68_code 13 = .ok (.iconst 1, 1) := by decide +kernel
theorem d22_14 : decode jdk_68_method_68_code 14 = .ok (.goto 4, 3) := by decide +kernel
theorem d22_18 : decode jdk_68_method_68_code 18 = .ok (.ireturn, 1) := by decide +kernel
theorem pn_22 : plainName "java/lang/AbstractStringBuilder" = true := by first | (simp [plainName, overriddenIn]; done) | decide +kernel
theorem ef_22 (m : MethodId) (x0 : Addr) : entryFrame m #[(.ref x0)] 1 = mkF m 0 #[.val (.ref x0)] [] := by first | (simp [entryFrame, mkF, argsToLocals, Value.category]; done) | rfl
set_option maxRecDepth 65536 in
set_option maxHeartbeats 40000000 in
theorem bLatin (l : Launch) (Z : State) (a0 : Array Value) (hw : ∀ d ∈ tables_1, d.before a0 Z = true) (ob va : Addr) (kA : ClassId) (cap cnt : Int32) (vs : List Value) (zc : Int32)  (h0 : Heap) (n0 : Nat) (Z0 : n0 ≤ h0.size) (B : BdS Z h0 ob va kA cap cnt vs) (S_CS : Sta Z h0 "java/lang/String" "COMPACT_STRINGS" "Z" (.int zc)) (hz : ¬ (zc = (0 : Int32))) :
    MQ l Z (⟨"java/lang/AbstractStringBuilder", "isLatin1", "()Z"⟩ : MethodName) jdk_68_method_68_code 1 (some .boolean) ({ frames := 0, cells := 0, slots := 0, locals := 0 } : Room) #[(.ref ob)] h0 (QR (.int (1 : Int32)) h0 n0) := by
  intro ws
  refine MetFree.of_bodySF (plainFor_of_name pn_22) hisR ?_
  intro p e s m args below meth c s₁ Bd hml0 hP hK
  obtain ⟨rfl, hZ, hh⟩ := hP
  have hx := Bd.exec
  have hby := Bd.bytes
  have hml : c.maxLocals = 1 := hml0
  have hown : s.vm.findClass "java/lang/AbstractStringBuilder" = some m.cls := findClass_of_methodNamed Bd.named
  have hnm := (name_of_methodNamed Bd.named Bd.method).1
  have X0 : Stand p l e ({ frames := 0, cells := 0, slots := 0, locals := 0 } : Room) s m #[(.ref ob)] below meth c s₁ [] 0 0 := Stand.of_body Bd
  have e0 : s₁.heap = h0 := by rw [← hh, Bd.state]; rfl
  have N0 := Fr.nil n0
  have pre0 : ∀ t_, Steps p.tables e below (s₁.setTop (mkF m 0 #[.val (.ref ob)] [])) t_ → Steps p.tables e below (s₁.setTop (entryFrame m #[(.ref ob)] 1)) t_ := fun t_ k_ => castTop (ef_22 m ob) k_
  obtain ⟨T1, X1, e1, st1⟩ := getS2 X0 hx hZ hown (host := "") (Or.inl (hw _ (M 71))) Via.refl e0 S_CS (g := (mkF m 0 #[.val (.ref ob)] [])) rfl (hb hby d22_0)
  obtain ⟨T2, X2, e2, st2⟩ := getF X1 hx hZ hown (host := "") (Or.inl (hw _ (M 74))) Via.refl e1 B.2.2.1 (g := (mkF m 7 #[.val (.ref ob)] [(.ref ob)])) rfl rfl (hb hby d22_7)
  obtain ⟨fs, hr, hrun, hended, hW, hsame⟩ := X2.leave (v := some (.int (1 : Int32))) (fun h => by rw [Bd.returns] at h; cases h)
  refine ⟨_, _, pre0 _ ?_, hrun, hended, _, _, rfl, ?_, ⟨_, rfl⟩, hW, hsame.mono (by decide) (by decide)⟩
  · show Steps p.tables e below (s₁.setTop (mkF m 0 #[.val (.ref ob)] [])) _
    refine st1 _ ?_
    show Steps p.tables e below (T1.setTop (mkF m 3 #[.val (.ref ob)] [(.int zc)])) _
    refine XS.ifNo X1.here hx rfl (hb hby d22_3) rfl ((if0 _ _).trans (feq hz).1) ?_
    show Steps p.tables e below (T1.setTop (mkF m 6 #[.val (.ref ob)] [])) _
    refine XS.aloadN X1.here hx rfl (hb hby d22_6) rfl rfl ?_
    refine st2 _ ?_
    show Steps p.tables e below (T2.setTop (mkF m 10 #[.val (.ref ob)] [(.int (0 : Int32))])) _
    refine XS.ifNo X2.here hx rfl (hb hby d22_10) rfl ((if0 _ _).trans (teq (by decide : (0 : Int32) = (0 : Int32))).2) ?_
    show Steps p.tables e below (T2.setTop (mkF m 13 #[.val (.ref ob)] [])) _
    refine XS.iconst X2.here hx rfl (hb hby d22_13) ?_
    refine XS.goto X2.here hx rfl (pc0 := 14) (pc' := 18) rfl (hb hby d22_14) (by decide) (by decide) ?_
    show Steps p.tables e below (T2.setTop (mkF m 18 #[.val (.ref ob)] [(.int (1 : Int32))])) _
    exact retN X2 hx (t := .boolean) Bd.returns (by simp) (hb hby d22_18) hr
  · show (QR (.int (1 : Int32)) h0 n0) _ T2.heap _
    rw [e2]
    exact ⟨rfl, N0, rfl⟩
theorem d32_0 : decode jdk_68_method_64_code 0 = .ok (.aload_n 0, 1) := by decide +kernel
theorem d32_1 : decode jdk_68_method_64_code 1 = .ok (.getfield 15, 3) := by decide +kernel
theorem d32_4 : decode jdk_68_method_64_code 4 = .ok (.areturn, 1) := by decide +kernel
theorem pn_32 : plainName "java/lang/AbstractStringBuilder" = true := by first | (simp [plainName, overriddenIn]; done) | decide +kernel
theorem ef_32 (m : MethodId) (x0 : Addr) : entryFrame m #[(.ref x0)] 1 = mkF m 0 #[.val (.ref x0)] [] := by first | (simp [entryFrame, mkF, argsToLocals, Value.category]; done) | rfl
set_option maxRecDepth 65536 in
set_option maxHeartbeats 40000000 in
theorem bValue (l : Launch) (Z : State) (a0 : Array Value) (hw : ∀ d ∈ tables_1, d.before a0 Z = true) (ob va : Addr) (kA : ClassId) (cap cnt : Int32) (vs : List Value)  (h0 : Heap) (n0 : Nat) (Z0 : n0 ≤ h0.size) (B : BdS Z h0 ob va kA cap cnt vs) :
    MQ l Z (⟨"java/lang/AbstractStringBuilder", "getValue", "()[B"⟩ : MethodName) jdk_68_method_64_code 1 (some (.array .byte)) ({ frames := 0, cells := 0, slots := 0, locals := 0 } : Room) #[(.ref ob)] h0 (QR (.ref va) h0 n0) := by
  intro ws
  refine MetFree.of_bodySF (plainFor_of_name pn_32) hisR ?_
  intro p e s m args below meth c s₁ Bd hml0 hP hK
  obtain ⟨rfl, hZ, hh⟩ := hP
  have hx := Bd.exec
  have hby := Bd.bytes
  have hml : c.maxLocals = 1 := hml0
  have hown : s.vm.findClass "java/lang/AbstractStringBuilder" = some m.cls := findClass_of_methodNamed Bd.named
  have hnm := (name_of_methodNamed Bd.named Bd.method).1
  have X0 : Stand p l e ({ frames := 0, cells := 0, slots := 0, locals := 0 } : Room) s m #[(.ref ob)] below meth c s₁ [] 0 0 := Stand.of_body Bd
  have e0 : s₁.heap = h0 := by rw [← hh, Bd.state]; rfl
  have N0 := Fr.nil n0
  have pre0 : ∀ t_, Steps p.tables e below (s₁.setTop (mkF m 0 #[.val (.ref ob)] [])) t_ → Steps p.tables e below (s₁.setTop (entryFrame m #[(.ref ob)] 1)) t_ := fun t_ k_ => castTop (ef_32 m ob) k_
  obtain ⟨T1, X1, e1, st1⟩ := getF X0 hx hZ hown (host := "") (Or.inl (hw _ (M 72))) Via.refl e0 B.2.1 (g := (mkF m 1 #[.val (.ref ob)] [(.ref ob)])) rfl rfl (hb hby d32_1)
  obtain ⟨fs, hr, hrun, hended, hW, hsame⟩ := X1.leave (v := some (.ref va)) (fun h => by rw [Bd.returns] at h; cases h)
  refine ⟨_, _, pre0 _ ?_, hrun, hended, _, _, rfl, ?_, ⟨_, rfl⟩, hW, hsame.mono (by decide) (by decide)⟩
  · show Steps p.tables e below (s₁.setTop (mkF m 0 #[.val (.ref ob)] [])) _
    refine XS.aloadN X0.here hx rfl (hb hby d32_0) rfl rfl ?_
    refine st1 _ ?_
    show Steps p.tables e below (T1.setTop (mkF m 4 #[.val (.ref ob)] [(.ref va)])) _
    jvm_step X1.here [X1.here.top, hx, (hb hby d32_4), X1.method', Bd.returns, Value.isRef, FieldType.isReference]
    first | (intro acts; rw [hr _ acts rfl rfl rfl]) | rw [hr _ _ rfl rfl rfl]
    exact Steps.refl _
  · show (QR (.ref va) h0 n0) _ T1.heap _
    rw [e1]
    exact ⟨rfl, N0, rfl⟩
theorem d34_0 : decode jdk_68_method_6_code 0 = .ok (.aload_n 0, 1) := by decide +kernel
theorem d34_1 : decode jdk_68_method_6_code 1 = .ok (.getfield 79, 3) := by decide +kernel
theorem d34_4 : decode jdk_68_method_6_code 4 = .ok (.ireturn, 1) := by decide +kernel
theorem pn_34 : plainName "java/lang/AbstractStringBuilder" = true := by first | (simp [plainName, overriddenIn]; done) | decide +kernel
theorem ef_34 (m : MethodId) (x0 : Addr) : entryFrame m #[(.ref x0)] 1 = mkF m 0 #[.val (.ref x0)] [] := by first | (simp [entryFrame, mkF, argsToLocals, Value.category]; done) | rfl
set_option maxRecDepth 65536 in
set_option maxHeartbeats 40000000 in
theorem aLength (l : Launch) (Z : State) (a0 : Array Value) (hw : ∀ d ∈ tables_1, d.before a0 Z = true) (ob va : Addr) (kA : ClassId) (cap cnt : Int32) (vs : List Value)  (h0 : Heap) (n0 : Nat) (Z0 : n0 ≤ h0.size) (B : BdS Z h0 ob va kA cap cnt vs) :
    MQ l Z (⟨"java/lang/AbstractStringBuilder", "length", "()I"⟩ : MethodName) jdk_68_method_6_code 1 (some .int) ({ frames := 0, cells := 0, slots := 0, locals := 0 } : Room) #[(.ref ob)] h0 (QR (.int cnt) h0 n0) := by
  intro ws
  refine MetFree.of_bodySF (plainFor_of_name pn_34) hisR ?_
  intro p e s m args below meth c s₁ Bd hml0 hP hK
  obtain ⟨rfl, hZ, hh⟩ := hP
  have hx := Bd.exec
  have hby := Bd.bytes
  have hml : c.maxLocals = 1 := hml0
  have hown : s.vm.findClass "java/lang/AbstractStringBuilder" = some m.cls := findClass_of_methodNamed Bd.named
  have hnm := (name_of_methodNamed Bd.named Bd.method).1
  have X0 : Stand p l e ({ frames := 0, cells := 0, slots := 0, locals := 0 } : Room) s m #[(.ref ob)] below meth c s₁ [] 0 0 := Stand.of_body Bd
  have e0 : s₁.heap = h0 := by rw [← hh, Bd.state]; rfl
  have N0 := Fr.nil n0
  have pre0 : ∀ t_, Steps p.tables e below (s₁.setTop (mkF m 0 #[.val (.ref ob)] [])) t_ → Steps p.tables e below (s₁.setTop (entryFrame m #[(.ref ob)] 1)) t_ := fun t_ k_ => castTop (ef_34 m ob) k_
  obtain ⟨T1, X1, e1, st1⟩ := getF X0 hx hZ hown (host := "") (Or.inl (hw _ (M 100))) Via.refl e0 B.2.2.2.1 (g := (mkF m 1 #[.val (.ref ob)] [(.ref ob)])) rfl rfl (hb hby d34_1)
  obtain ⟨fs, hr, hrun, hended, hW, hsame⟩ := X1.leave (v := some (.int cnt)) (fun h => by rw [Bd.returns] at h; cases h)
  refine ⟨_, _, pre0 _ ?_, hrun, hended, _, _, rfl, ?_, ⟨_, rfl⟩, hW, hsame.mono (by decide) (by decide)⟩
  · show Steps p.tables e below (s₁.setTop (mkF m 0 #[.val (.ref ob)] [])) _
    refine XS.aloadN X0.here hx rfl (hb hby d34_0) rfl rfl ?_
    refine st1 _ ?_
    show Steps p.tables e below (T1.setTop (mkF m 4 #[.val (.ref ob)] [(.int cnt)])) _
    exact retI X1 hx Bd.returns (hb hby d34_4) hr
  · show (QR (.int cnt) h0 n0) _ T1.heap _
    rw [e1]
    exact ⟨rfl, N0, rfl⟩
theorem d33_0 : decode jdk_67_method_93_code 0 = .ok (.aload_n 0, 1) := by decide +kernel
theorem pd_ocI : parseMethodDescriptor "()I" = some ⟨[], some .int⟩ := by decide +kernel
theorem d33_1 : decode jdk_67_method_93_code 1 = .ok (.invokespecial 343, 3) := by decide +kernel
theorem d33_4 : decode jdk_67_method_93_code 4 = .ok (.ireturn, 1) := by decide +kernel
theorem pn_33 : plainName "java/lang/StringBuilder" = true := by first | (simp [plainName, overriddenIn]; done) | decide +kernel
theorem ef_33 (m : MethodId) (x0 : Addr) : entryFrame m #[(.ref x0)] 1 = mkF m 0 #[.val (.ref x0)] [] := by first | (simp [entryFrame, mkF, argsToLocals, Value.category]; done) | rfl
set_option maxRecDepth 65536 in
set_option maxHeartbeats 40000000 in
theorem bLength (l : Launch) (Z : State) (a0 : Array Value) (hw : ∀ d ∈ tables_1, d.before a0 Z = true) (ob va : Addr) (kA : ClassId) (cap cnt : Int32) (vs : List Value)  (h0 : Heap) (n0 : Nat) (Z0 : n0 ≤ h0.size) (B : BdS Z h0 ob va kA cap cnt vs) :
    MQ l Z (⟨"java/lang/StringBuilder", "length", "()I"⟩ : MethodName) jdk_67_method_93_code 1 (some .int) ({ frames := 1, cells := 0, slots := 0, locals := 12 } : Room) #[(.ref ob)] h0 (QR (.int cnt) h0 n0) := by
  intro ws
  refine MetFree.of_bodySF (plainFor_of_name pn_33) hisR ?_
  intro p e s m args below meth c s₁ Bd hml0 hP hK
  obtain ⟨rfl, hZ, hh⟩ := hP
  have hx := Bd.exec
  have hby := Bd.bytes
  have hml : c.maxLocals = 1 := hml0
  have hown : s.vm.findClass "java/lang/StringBuilder" = some m.cls := findClass_of_methodNamed Bd.named
  have hnm := (name_of_methodNamed Bd.named Bd.method).1
  have X0 : Stand p l e ({ frames := 1, cells := 0, slots := 0, locals := 12 } : Room) s m #[(.ref ob)] below meth c s₁ [] 0 0 := Stand.of_body Bd
  have e0 : s₁.heap = h0 := by rw [← hh, Bd.state]; rfl
  have N0 := Fr.nil n0
  have pre0 : ∀ t_, Steps p.tables e below (s₁.setTop (mkF m 0 #[.val (.ref ob)] [])) t_ → Steps p.tables e below (s₁.setTop (entryFrame m #[(.ref ob)] 1)) t_ := fun t_ k_ => castTop (ef_33 m ob) k_
  obtain ⟨_, _, ⟨T1, L1, k1, n1⟩, -, X1, ⟨Lc1, hQ1, l1, y1, z1⟩, st1⟩ := superBack X0 hx hZ (y := (⟨"java/lang/AbstractStringBuilder", "length", "()I"⟩ : MethodName)) hown (hw _ (M 204)) (own_same (y := (⟨"java/lang/AbstractStringBuilder", "length", "()I"⟩ : MethodName)) (y' := (⟨"java/lang/AbstractStringBuilder", "ensureCapacityInternal", "(I)V"⟩ : MethodName)) rfl (by decide) (hw _ (M 199)) (hw _ (M 105))) (hw _ (M 200)) (hw _ (M 84)) (by decide) (backOf (W := 0) ((aLength l Z a0 hw ob va kA cap cnt vs h0 n0 (Nat.le_trans Z0 (Keep.refl h0 []).1) ⟨B.1, B.2.1, B.2.2.1, B.2.2.2.1, B.2.2.2.2⟩) []) hZ (hw _ (M 205)) (hw _ (M 68)) (by decide) (by decide)) e0 (Ins.self B.1) (g := (mkF m 1 #[.val (.ref ob)] [(.ref ob)])) rfl (by rw [hml]; rfl) (hw _ (M 205)) (argsL := []) (rest := []) (lenOf pd_ocI rfl) rfl (by show 2 * 0 + _ ≤ _; exact Nat.le_of_eq rfl) (hb hby d33_1) (fun _ _ => ⟨rfl, e0, (by decide : 0 + 0 ≤ _), (by decide : 0 + 0 ≤ _)⟩)
  dsimp only [Pt.U, Pt.locs, Pt.cells, Pt.slots] at X1 l1 y1 z1 st1 hQ1
  subst l1 y1 z1
  obtain ⟨rfl, N1q, e1⟩ := hQ1
  have N1 := Fr.app N0 N1q
  obtain ⟨fs, hr, hrun, hended, hW, hsame⟩ := X1.leave (v := some (.int cnt)) (fun h => by rw [Bd.returns] at h; cases h)
  refine ⟨_, _, pre0 _ ?_, hrun, hended, _, _, rfl, ?_, ⟨_, rfl⟩, hW, hsame.mono (by decide) (by decide)⟩
  · show Steps p.tables e below (s₁.setTop (mkF m 0 #[.val (.ref ob)] [])) _
    refine XS.aloadN X0.here hx rfl (hb hby d33_0) rfl rfl ?_
    refine st1.trans ?_
    show Steps p.tables e below (T1.setTop (mkF m 4 #[.val (.ref ob)] [(.int cnt)])) _
    exact retI X1 hx Bd.returns (hb hby d33_4) hr
  · show (QR (.int cnt) h0 n0) _ T1.heap _
    rw [e1]
    exact ⟨rfl, N1, rfl⟩
theorem d17_0 : decode jdk_68_method_71_code 0 = .ok (.getstatic 18, 3) := by decide +kernel
theorem d17_3 : decode jdk_68_method_71_code 3 = .ok (.ifCond .eq 18, 3) := by decide +kernel
theorem d17_6 : decode jdk_68_method_71_code 6 = .ok (.aload_n 0, 1) := by decide +kernel
theorem d17_7 : decode jdk_68_method_71_code 7 = .ok (.getfield 22, 3) := by decide +kernel
theorem d17_10 : decode jdk_68_method_71_code 10 = .ok (.aload_n 1, 1) := by decide +kernel
theorem d17_11 : decode jdk_68_method_71_code 11 = .ok (.invokevirtual 40, 3) := by decide +kernel
theorem d17_14 : decode jdk_68_method_71_code 14 = .ok (.if_icmp .eq 7, 3) := by decide +kernel
theorem d17_21 : decode jdk_68_method_71_code 21 = .ok (.return_, 1) := by decide +kernel
theorem pn_17 : plainName "java/lang/AbstractStringBuilder" = true := by first | (simp [plainName, overriddenIn]; done) | decide +kernel
theorem ef_17 (m : MethodId) (x0 : Addr) (x1 : Addr) : entryFrame m #[(.ref x0), (.ref x1)] 2 = mkF m 0 #[.val (.ref x0), .val (.ref x1)] [] := by first | (simp [entryFrame, mkF, argsToLocals, Value.category]; done) | rfl
set_option maxRecDepth 65536 in
set_option maxHeartbeats 40000000 in
theorem bInflate (l : Launch) (Z : State) (a0 : Array Value) (hw : ∀ d ∈ tables_1, d.before a0 Z = true) (ob va : Addr) (kA : ClassId) (cap cnt : Int32) (vs : List Value) (os sa : Addr) (kS : ClassId) (zs : Int32) (ss : List Value) (zc : Int32)  (h0 : Heap) (n0 : Nat) (Z0 : n0 ≤ h0.size) (B : BdS Z h0 ob va kA cap cnt vs) (Ts : StS Z h0 os sa kS zs ss) (S_CS : Sta Z h0 "java/lang/String" "COMPACT_STRINGS" "Z" (.int zc)) (hz : ¬ (zc = (0 : Int32))) :
    MQ l Z (⟨"java/lang/AbstractStringBuilder", "inflateIfNeededFor", "(Ljava/lang/String;)V"⟩ : MethodName) jdk_68_method_71_code 2 none ({ frames := 1, cells := 0, slots := 0, locals := 13 } : Room) #[(.ref ob), (.ref os)] h0 (QN h0 n0) := by
  intro ws
  refine MetFree.of_bodySF (plainFor_of_name pn_17) hisR ?_
  intro p e s m args below meth c s₁ Bd hml0 hP hK
  obtain ⟨rfl, hZ, hh⟩ := hP
  have hx := Bd.exec
  have hby := Bd.bytes
  have hml : c.maxLocals = 2 := hml0
  have hown : s.vm.findClass "java/lang/AbstractStringBuilder" = some m.cls := findClass_of_methodNamed Bd.named
  have hnm := (name_of_methodNamed Bd.named Bd.method).1
  have X0 : Stand p l e ({ frames := 1, cells := 0, slots := 0, locals := 13 } : Room) s m #[(.ref ob), (.ref os)] below meth c s₁ [] 0 0 := Stand.of_body Bd
  have e0 : s₁.heap = h0 := by rw [← hh, Bd.state]; rfl
  have N0 := Fr.nil n0
  have pre0 : ∀ t_, Steps p.tables e below (s₁.setTop (mkF m 0 #[.val (.ref ob), .val (.ref os)] [])) t_ → Steps p.tables e below (s₁.setTop (entryFrame m #[(.ref ob), (.ref os)] 2)) t_ := fun t_ k_ => castTop (ef_17 m ob os) k_
  obtain ⟨T1, X1, e1, st1⟩ := getS2 X0 hx hZ hown (host := "") (Or.inl (hw _ (M 71))) Via.refl e0 S_CS (g := (mkF m 0 #[.val (.ref ob), .val (.ref os)] [])) rfl (hb hby d17_0)
  obtain ⟨T2, X2, e2, st2⟩ := getF X1 hx hZ hown (host := "") (Or.inl (hw _ (M 74))) Via.refl e1 B.2.2.1 (g := (mkF m 7 #[.val (.ref ob), .val (.ref os)] [(.ref ob)])) rfl rfl (hb hby d17_7)
  obtain ⟨cq3, kq3, q3a, q3b, q3c⟩ := isOf hZ e2 Ts.1
  obtain ⟨_, _, ⟨T3, L3, k3, n3⟩, -, X3, ⟨Lc3, hQ3, l3, y3, z3⟩, st3⟩ := X2.virtualBack hx (y := (⟨"java/lang/String", "coder", "()B"⟩ : MethodName)) (z := (⟨"java/lang/String", "coder", "()B"⟩ : MethodName)) hown (mvT hZ (hw _ (M 117))) (mvT hZ (hw _ (M 94))) (notFace_of_selects (args := #[]) (mvT hZ (hw _ (M 96)))) (mvT hZ (hw _ (M 96))) (mvT hZ (hw _ (M 95))) (by decide) (backOf (W := 1) ((sCoder l Z a0 hw os sa kS zs ss zc h0 n0 (Nat.le_trans Z0 (Keep.refl h0 []).1) ⟨Ts.1, Ts.2.1, Ts.2.2.1, Ts.2.2.2⟩ S_CS hz) []) hZ (hw _ (M 97)) (hw _ (M 46)) (by decide) (by decide)) q3a q3c (g := (mkF m 11 #[.val (.ref ob), .val (.ref os)] [(.ref os), (.int (0 : Int32))])) rfl (by rw [hml]; rfl) (Steps.refl _) (argsL := []) (rest := [(.int (0 : Int32))]) (lenOf pd_ocB rfl) rfl (by show 2 * 0 + _ ≤ _; exact Nat.le_of_eq rfl) (hb hby d17_11) (fun _ _ => ⟨rfl, e2, (by decide : 0 + 0 ≤ _), (by decide : 0 + 0 ≤ _)⟩)
  dsimp only [Pt.U, Pt.locs, Pt.cells, Pt.slots] at X3 l3 y3 z3 st3 hQ3
  subst l3 y3 z3
  obtain ⟨rfl, N3q, e3⟩ := hQ3
  have N3 := Fr.app N0 N3q
  obtain ⟨fs, hr, hrun, hended, hW, hsame⟩ := X3.leave (v := none) (fun _ => rfl)
  refine ⟨_, _, pre0 _ ?_, hrun, hended, _, _, rfl, ?_, ⟨_, rfl⟩, hW, hsame.mono (by decide) (by decide)⟩
  · show Steps p.tables e below (s₁.setTop (mkF m 0 #[.val (.ref ob), .val (.ref os)] [])) _
    refine st1 _ ?_
    show Steps p.tables e below (T1.setTop (mkF m 3 #[.val (.ref ob), .val (.ref os)] [(.int zc)])) _
    refine XS.ifNo X1.here hx rfl (hb hby d17_3) rfl ((if0 _ _).trans (feq hz).1) ?_
    show Steps p.tables e below (T1.setTop (mkF m 6 #[.val (.ref ob), .val (.ref os)] [])) _
    refine XS.aloadN X1.here hx rfl (hb hby d17_6) rfl rfl ?_
    refine st2 _ ?_
    show Steps p.tables e below (T2.setTop (mkF m 10 #[.val (.ref ob), .val (.ref os)] [(.int (0 : Int32))])) _
    refine XS.aloadN X2.here hx rfl (hb hby d17_10) rfl rfl ?_
    refine st3.trans ?_
    show Steps p.tables e below (T3.setTop (mkF m 14 #[.val (.ref ob), .val (.ref os)] [(.int (0 : Int32)), (.int (0 : Int32))])) _
    refine XS.icmpYes X3.here hx rfl (pc0 := 14) (pc' := 21) rfl (hb hby d17_14) rfl (teq (by decide : (0 : Int32) = (0 : Int32))).1 (by decide) (by decide) ?_
    show Steps p.tables e below (T3.setTop (mkF m 21 #[.val (.ref ob), .val (.ref os)] [])) _
    exact X3.returnOut hx Bd.returns (hb hby d17_21) hr
  · show (QN h0 n0) _ T3.heap _
    rw [e3]
    exact ⟨rfl, N3, rfl⟩
theorem d18_0 : decode jdk_42_method_147_code 0 = .ok (.aload_n 0, 1) := by decide +kernel
theorem d18_1 : decode jdk_42_method_147_code 1 = .ok (.invokevirtual 335, 3) := by decide +kernel
theorem d18_4 : decode jdk_42_method_147_code 4 = .ok (.iload_n 3, 1) := by decide +kernel
theorem d18_5 : decode jdk_42_method_147_code 5 = .ok (.if_icmp .ne 23, 3) := by decide +kernel
theorem d18_8 : decode jdk_42_method_147_code 8 = .ok (.aload_n 0, 1) := by decide +kernel
theorem d18_9 : decode jdk_42_method_147_code 9 = .ok (.getfield 9, 3) := by decide +kernel
theorem d18_12 : decode jdk_42_method_147_code 12 = .ok (.iconst 0, 1) := by decide +kernel
theorem d18_13 : decode jdk_42_method_147_code 13 = .ok (.aload_n 1, 1) := by decide +kernel
theorem d18_14 : decode jdk_42_method_147_code 14 = .ok (.iload_n 2, 1) := by decide +kernel
theorem d18_15 : decode jdk_42_method_147_code 15 = .ok (.iload_n 3, 1) := by decide +kernel
theorem d18_16 : decode jdk_42_method_147_code 16 = .ok (.ishl, 1) := by decide +kernel
theorem d18_17 : decode jdk_42_method_147_code 17 = .ok (.aload_n 0, 1) := by decide +kernel
theorem d18_18 : decode jdk_42_method_147_code 18 = .ok (.getfield 9, 3) := by decide +kernel
theorem d18_21 : decode jdk_42_method_147_code 21 = .ok (.arraylength, 1) := by decide +kernel
theorem d18_22 : decode jdk_42_method_147_code 22 = .ok (.invokestatic 212, 3) := by decide +kernel
theorem d18_25 : decode jdk_42_method_147_code 25 = .ok (.goto 18, 3) := by decide +kernel
theorem d18_43 : decode jdk_42_method_147_code 43 = .ok (.return_, 1) := by decide +kernel
theorem pn_18 : plainName "java/lang/String" = true := by first | (simp [plainName, overriddenIn]; done) | decide +kernel
theorem ef_18 (m : MethodId) (x0 : Addr) (x1 : Addr) (x2 : Int32) (x3 : Int32) : entryFrame m #[(.ref x0), (.ref x1), (.int x2), (.int x3)] 4 = mkF m 0 #[.val (.ref x0), .val (.ref x1), .val (.int x2), .val (.int x3)] [] := by first | (simp [entryFrame, mkF, argsToLocals, Value.category]; done) | rfl
set_option maxRecDepth 65536 in
set_option maxHeartbeats 40000000 in
theorem sBytes (l : Launch) (Z : State) (a0 : Array Value) (hw : ∀ d ∈ tables_1, d.before a0 Z = true) (os sa : Addr) (kS : ClassId) (zs : Int32) (ss : List Value) (zc : Int32) (va : Addr) (kA : ClassId) (cap : Int32) (vs : List Value) (ix : Int32) (vt : List Value) (h0 : Heap) (n0 : Nat) (Z0 : n0 ≤ h0.size) (Ts : StS Z h0 os sa kS zs ss) (S_CS : Sta Z h0 "java/lang/String" "COMPACT_STRINGS" "Z" (.int zc)) (hz : ¬ (zc = (0 : Int32))) (A : Arv Z h0 va kA .byte cap vs (.int (0 : Int32))) (g_va : n0 ≤ va) (hi0 : ¬ ix < 0) (hs0 : ¬ zs < 0) (hfit : ix.toNatClampNeg + zs.toNatClampNeg ≤ cap.toNatClampNeg) (hlen : ix.toNatClampNeg + zs.toNatClampNeg ≤ vs.length) (hcp : own_cp ss (.int (0 : Int32)) (0 : Int32) vs ix zs = vt) :
    MQ l Z (⟨"java/lang/String", "getBytes", "([BIB)V"⟩ : MethodName) jdk_42_method_147_code 4 none ({ frames := 1, cells := 0, slots := 0, locals := 18 } : Room) #[(.ref os), (.ref va), (.int ix), (.int (0 : Int32))] h0 (QP va Z kA cap vt h0 n0 none) := by
  intro ws
  refine MetFree.of_bodySF (plainFor_of_name pn_18) hisR ?_
  intro p e s m args below meth c s₁ Bd hml0 hP hK
  obtain ⟨rfl, hZ, hh⟩ := hP
  have hx := Bd.exec
  have hby := Bd.bytes
  have hml : c.maxLocals = 4 := hml0
  have hown : s.vm.findClass "java/lang/String" = some m.cls := findClass_of_methodNamed Bd.named
  have hnm := (name_of_methodNamed Bd.named Bd.method).1
  have X0 : Stand p l e ({ frames := 1, cells := 0, slots := 0, locals := 18 } : Room) s m #[(.ref os), (.ref va), (.int ix), (.int (0 : Int32))] below meth c s₁ [] 0 0 := Stand.of_body Bd
  have e0 : s₁.heap = h0 := by rw [← hh, Bd.state]; rfl
  have N0 := Fr.nil n0
  have pre0 : ∀ t_, Steps p.tables e below (s₁.setTop (mkF m 0 #[.val (.ref os), .val (.ref va), .val (.int ix), .val (.int (0 : Int32))] [])) t_ → Steps p.tables e below (s₁.setTop (entryFrame m #[(.ref os), (.ref va), (.int ix), (.int (0 : Int32))] 4)) t_ := fun t_ k_ => castTop (ef_18 m os va ix (0 : Int32)) k_
  obtain ⟨cq1, kq1, q1a, q1b, q1c⟩ := isOf hZ e0 Ts.1
  obtain ⟨_, _, ⟨T1, L1, k1, n1⟩, -, X1, ⟨Lc1, hQ1, l1, y1, z1⟩, st1⟩ := X0.virtualBack hx (y := (⟨"java/lang/String", "coder", "()B"⟩ : MethodName)) (z := (⟨"java/lang/String", "coder", "()B"⟩ : MethodName)) hown (mvT hZ (hw _ (M 93))) (mvT hZ (hw _ (M 94))) (notFace_of_selects (args := #[]) (mvT hZ (hw _ (M 96)))) (mvT hZ (hw _ (M 96))) (mvT hZ (hw _ (M 95))) (by decide) (backOf (W := 0) ((sCoder l Z a0 hw os sa kS zs ss zc h0 n0 (Nat.le_trans Z0 (Keep.refl h0 [va]).1) ⟨Ts.1, Ts.2.1, Ts.2.2.1, Ts.2.2.2⟩ S_CS hz) []) hZ (hw _ (M 97)) (hw _ (M 46)) (by decide) (by decide)) q1a q1c (g := (mkF m 1 #[.val (.ref os), .val (.ref va), .val (.int ix), .val (.int (0 : Int32))] [(.ref os)])) rfl (by rw [hml]; rfl) (Steps.refl _) (argsL := []) (rest := []) (lenOf pd_ocB rfl) rfl (by show 2 * 0 + _ ≤ _; exact Nat.le_of_eq rfl) (hb hby d18_1) (fun _ _ => ⟨rfl, e0, (by decide : 0 + 0 ≤ _), (by decide : 0 + 0 ≤ _)⟩)
  dsimp only [Pt.U, Pt.locs, Pt.cells, Pt.slots] at X1 l1 y1 z1 st1 hQ1
  subst l1 y1 z1
  obtain ⟨rfl, N1q, e1⟩ := hQ1
  have N1 := Fr.app N0 N1q
  obtain ⟨T2, X2, e2, st2⟩ := getF X1 hx hZ hown (host := "") (Or.inl (hw _ (M 92))) Via.refl e1 Ts.2.2.1 (g := (mkF m 9 #[.val (.ref os), .val (.ref va), .val (.int ix), .val (.int (0 : Int32))] [(.ref os)])) rfl rfl (hb hby d18_9)
  obtain ⟨T3, X3, e3, st3⟩ := getF X2 hx hZ hown (host := "") (Or.inl (hw _ (M 92))) Via.refl e2 Ts.2.2.1 (g := (mkF m 18 #[.val (.ref os), .val (.ref va), .val (.int ix), .val (.int (0 : Int32))] [(.ref os), (.int ix), (.ref va), (.int (0 : Int32)), (.ref sa)])) rfl rfl (hb hby d18_18)
  obtain ⟨clv4, Arv4, qv4, Sv4, Ng4, Hv4, Gv4⟩ := id Ts.2.2.2
  obtain ⟨T5, h5, L5, X5, e5, N5, Kq5, V5, st5⟩ := cpA X3 hx hZ hown (hw _ (M 123)) (hw _ (M 126)) (hw _ (M 124)) (hw _ (M 125)) e3 Ts.2.2.2 A (Or.inl ⟨rfl, rfl⟩) (by decide) hi0 hs0 (by show (0 : Int32).toNatClampNeg + _ ≤ _; simp) hfit rfl hlen N1 g_va (g := (mkF m 22 #[.val (.ref os), .val (.ref va), .val (.int ix), .val (.int (0 : Int32))] [(.int zs), (.int ix), (.ref va), (.int (0 : Int32)), (.ref sa)])) rfl (by rw [hml]; rfl) rfl (hb hby d18_22) (by decide) (W := 0) (by show 2 * 0 + _ ≤ _; exact Nat.le_of_eq rfl) (by decide)
  replace V5 : Arv Z h5 va kA .byte cap (own_cp ss (.int (0 : Int32)) (0 : Int32) vs ix zs) (.int (0 : Int32)) := V5
  rw [hcp] at V5
  have K5 : Keep h0 h5 [va] := (Keep.refl h0 [va]).trans Kq5 (allS (Or.inl (List.mem_of_getElem? (i := 0) rfl)) all0)
  obtain ⟨fs, hr, hrun, hended, hW, hsame⟩ := X5.leave (v := none) (fun _ => rfl)
  refine ⟨_, _, pre0 _ ?_, hrun, hended, _, _, rfl, ?_, ⟨_, rfl⟩, hW, hsame.mono (by decide) (by decide)⟩
  · show Steps p.tables e below (s₁.setTop (mkF m 0 #[.val (.ref os), .val (.ref va), .val (.int ix), .val (.int (0 : Int32))] [])) _
    refine XS.aloadN X0.here hx rfl (hb hby d18_0) rfl rfl ?_
    refine st1.trans ?_
    show Steps p.tables e below (T1.setTop (mkF m 4 #[.val (.ref os), .val (.ref va), .val (.int ix), .val (.int (0 : Int32))] [(.int (0 : Int32))])) _
    refine XS.iloadN X1.here hx rfl (hb hby d18_4) rfl ?_
    refine XS.icmpNo X1.here hx rfl (hb hby d18_5) rfl (teq (by decide : (0 : Int32) = (0 : Int32))).2 ?_
    show Steps p.tables e below (T1.setTop (mkF m 8 #[.val (.ref os), .val (.ref va), .val (.int ix), .val (.int (0 : Int32))] [])) _
    refine XS.aloadN X1.here hx rfl (hb hby d18_8) rfl rfl ?_
    refine st2 _ ?_
    show Steps p.tables e below (T2.setTop (mkF m 12 #[.val (.ref os), .val (.ref va), .val (.int ix), .val (.int (0 : Int32))] [(.ref sa)])) _
    refine XS.iconst X2.here hx rfl (hb hby d18_12) ?_
    refine XS.aloadN X2.here hx rfl (hb hby d18_13) rfl rfl ?_
    refine XS.iloadN X2.here hx rfl (hb hby d18_14) rfl ?_
    refine XS.iloadN X2.here hx rfl (hb hby d18_15) rfl ?_
    show Steps p.tables e below (T2.setTop (mkF m 16 #[.val (.ref os), .val (.ref va), .val (.int ix), .val (.int (0 : Int32))] [(.int (0 : Int32)), (.int ix), (.ref va), (.int (0 : Int32)), (.ref sa)])) _
    refine XS.ishl X2.here hx rfl (hb hby d18_16) rfl ?_
    show Steps p.tables e below (T2.setTop (mkF m 17 #[.val (.ref os), .val (.ref va), .val (.int ix), .val (.int (0 : Int32))] [(.int (ix <<< ((0 : Int32) &&& 31))), (.ref va), (.int (0 : Int32)), (.ref sa)])) _
    rw [(own_shl0 ix)]
    show Steps p.tables e below (T2.setTop (mkF m 17 #[.val (.ref os), .val (.ref va), .val (.int ix), .val (.int (0 : Int32))] [(.int ix), (.ref va), (.int (0 : Int32)), (.ref sa)])) _
    refine XS.aloadN X2.here hx rfl (hb hby d18_17) rfl rfl ?_
    refine st3 _ ?_
    show Steps p.tables e below (T3.setTop (mkF m 21 #[.val (.ref os), .val (.ref va), .val (.int ix), .val (.int (0 : Int32))] [(.ref sa), (.int ix), (.ref va), (.int (0 : Int32)), (.ref sa)])) _
    refine X3.arraylength hx (by rw [e3]; exact Arv4.1) (State.isArrayOf_alike hZ.alike Arv4.2.1) (g := (mkF m 21 #[.val (.ref os), .val (.ref va), .val (.int ix), .val (.int (0 : Int32))] [(.ref sa), (.int ix), (.ref va), (.int (0 : Int32)), (.ref sa)])) rfl rfl (hb hby d18_21) _ ?_
    rw [len_of Sv4 Ng4]
    show Steps p.tables e below (T3.setTop (mkF m 22 #[.val (.ref os), .val (.ref va), .val (.int ix), .val (.int (0 : Int32))] [(.int zs), (.int ix), (.ref va), (.int (0 : Int32)), (.ref sa)])) _
    refine st5 _ ?_
    show Steps p.tables e below (T5.setTop (mkF m 25 #[.val (.ref os), .val (.ref va), .val (.int ix), .val (.int (0 : Int32))] [])) _
    refine XS.goto X5.here hx rfl (pc0 := 25) (pc' := 43) rfl (hb hby d18_25) (by decide) (by decide) ?_
    show Steps p.tables e below (T5.setTop (mkF m 43 #[.val (.ref os), .val (.ref va), .val (.int ix), .val (.int (0 : Int32))] [])) _
    exact X5.returnOut hx Bd.returns (hb hby d18_43) hr
  · show (QP va Z kA cap vt h0 n0 none) _ T5.heap _
    rw [e5]
    exact ⟨rfl, N5, K5, V5⟩
theorem d16_0 : decode jdk_68_method_73_code 0 = .ok (.aload_n 0, 1) := by decide +kernel
theorem d16_1 : decode jdk_68_method_73_code 1 = .ok (.aload_n 2, 1) := by decide +kernel
theorem pd_oLjava_lang_String_cV : parseMethodDescriptor "(Ljava/lang/String;)V" = some ⟨[(.object "java/lang/String")], none⟩ := by decide +kernel
theorem d16_2 : decode jdk_68_method_73_code 2 = .ok (.invokevirtual 397, 3) := by decide +kernel
theorem d16_5 : decode jdk_68_method_73_code 5 = .ok (.aload_n 2, 1) := by decide +kernel
theorem d16_6 : decode jdk_68_method_73_code 6 = .ok (.aload_n 0, 1) := by decide +kernel
theorem d16_7 : decode jdk_68_method_73_code 7 = .ok (.getfield 15, 3) := by decide +kernel
theorem d16_10 : decode jdk_68_method_73_code 10 = .ok (.iload_n 1, 1) := by decide +kernel
theorem d16_11 : decode jdk_68_method_73_code 11 = .ok (.aload_n 0, 1) := by decide +kernel
theorem d16_12 : decode jdk_68_method_73_code 12 = .ok (.getfield 22, 3) := by decide +kernel
theorem pd_oABIBcV : parseMethodDescriptor "([BIB)V" = some ⟨[(.array .byte), .int, .byte], none⟩ := by decide +kernel
theorem d16_15 : decode jdk_68_method_73_code 15 = .ok (.invokevirtual 399, 3) := by decide +kernel
theorem d16_18 : decode jdk_68_method_73_code 18 = .ok (.return_, 1) := by decide +kernel
theorem pn_16 : plainName "java/lang/AbstractStringBuilder" = true := by first | (simp [plainName, overriddenIn]; done) | decide +kernel
theorem ef_16 (m : MethodId) (x0 : Addr) (x1 : Int32) (x2 : Addr) : entryFrame m #[(.ref x0), (.int x1), (.ref x2)] 3 = mkF m 0 #[.val (.ref x0), .val (.int x1), .val (.ref x2)] [] := by first | (simp [entryFrame, mkF, argsToLocals, Value.category]; done) | rfl
set_option maxRecDepth 65536 in
set_option maxHeartbeats 40000000 in
theorem bPut (l : Launch) (Z : State) (a0 : Array Value) (hw : ∀ d ∈ tables_1, d.before a0 Z = true) (ob va : Addr) (kA : ClassId) (cap cnt : Int32) (vs : List Value) (os sa : Addr) (kS : ClassId) (zs : Int32) (ss : List Value) (zc : Int32) (ix : Int32) (vt : List Value) (h0 : Heap) (n0 : Nat) (Z0 : n0 ≤ h0.size) (B : BdS Z h0 ob va kA cap cnt vs) (Ts : StS Z h0 os sa kS zs ss) (S_CS : Sta Z h0 "java/lang/String" "COMPACT_STRINGS" "Z" (.int zc)) (hz : ¬ (zc = (0 : Int32))) (g_va : n0 ≤ va) (hi0 : ¬ ix < 0) (hs0 : ¬ zs < 0) (hfit : ix.toNatClampNeg + zs.toNatClampNeg ≤ cap.toNatClampNeg) (hlen : ix.toNatClampNeg + zs.toNatClampNeg ≤ vs.length) (hcp : own_cp ss (.int (0 : Int32)) (0 : Int32) vs ix zs = vt) :
    MQ l Z (⟨"java/lang/AbstractStringBuilder", "putStringAt", "(ILjava/lang/String;)V"⟩ : MethodName) jdk_68_method_73_code 3 none ({ frames := 2, cells := 0, slots := 0, locals := 33 } : Room) #[(.ref ob), (.int ix), (.ref os)] h0 (QP va Z kA cap vt h0 n0 none) := by
  intro ws
  refine MetFree.of_bodySF (plainFor_of_name pn_16) hisR ?_
  intro p e s m args below meth c s₁ Bd hml0 hP hK
  obtain ⟨rfl, hZ, hh⟩ := hP
  have hx := Bd.exec
  have hby := Bd.bytes
  have hml : c.maxLocals = 3 := hml0
  have hown : s.vm.findClass "java/lang/AbstractStringBuilder" = some m.cls := findClass_of_methodNamed Bd.named
  have hnm := (name_of_methodNamed Bd.named Bd.method).1
  have X0 : Stand p l e ({ frames := 2, cells := 0, slots := 0, locals := 33 } : Room) s m #[(.ref ob), (.int ix), (.ref os)] below meth c s₁ [] 0 0 := Stand.of_body Bd
  have e0 : s₁.heap = h0 := by rw [← hh, Bd.state]; rfl
  have N0 := Fr.nil n0
  have pre0 : ∀ t_, Steps p.tables e below (s₁.setTop (mkF m 0 #[.val (.ref ob), .val (.int ix), .val (.ref os)] [])) t_ → Steps p.tables e below (s₁.setTop (entryFrame m #[(.ref ob), (.int ix), (.ref os)] 3)) t_ := fun t_ k_ => castTop (ef_16 m ob ix os) k_
  obtain ⟨cq1, kq1, q1a, q1b, q1c⟩ := isOf hZ e0 B.1
  obtain ⟨_, _, ⟨T1, L1, k1, n1⟩, -, X1, ⟨Lc1, hQ1, l1, y1, z1⟩, st1⟩ := X0.virtualBack hx (y := (⟨"java/lang/AbstractStringBuilder", "inflateIfNeededFor", "(Ljava/lang/String;)V"⟩ : MethodName)) (z := (⟨"java/lang/AbstractStringBuilder", "inflateIfNeededFor", "(Ljava/lang/String;)V"⟩ : MethodName)) hown (mvT hZ (hw _ (M 112))) (mvT hZ (own_declares (hw _ (M 113)) (hw _ (M 116)))) (notFace_of_selects (args := #[]) (mvT hZ (hw _ (M 115)))) (mvT hZ (hw _ (M 115))) (mvT hZ (hw _ (M 113))) (by decide) (backOf (W := 0) ((bInflate l Z a0 hw ob va kA cap cnt vs os sa kS zs ss zc h0 n0 (Nat.le_trans Z0 (Keep.refl h0 [va]).1) ⟨B.1, B.2.1, B.2.2.1, B.2.2.2.1, B.2.2.2.2⟩ ⟨Ts.1, Ts.2.1, Ts.2.2.1, Ts.2.2.2⟩ S_CS hz) []) hZ (hw _ (M 116)) (hw _ (M 68)) (by decide) (by decide)) q1a q1c (g := (mkF m 2 #[.val (.ref ob), .val (.int ix), .val (.ref os)] [(.ref os), (.ref ob)])) rfl (by rw [hml]; rfl) (Steps.refl _) (argsL := [(.ref os)]) (rest := []) (lenOf pd_oLjava_lang_String_cV rfl) rfl (by show 2 * 0 + _ ≤ _; exact Nat.le_of_eq rfl) (hb hby d16_2) (fun _ _ => ⟨rfl, e0, (by decide : 0 + 0 ≤ _), (by decide : 0 + 0 ≤ _)⟩)
  dsimp only [Pt.U, Pt.locs, Pt.cells, Pt.slots] at X1 l1 y1 z1 st1 hQ1
  subst l1 y1 z1
  obtain ⟨rfl, N1q, e1⟩ := hQ1
  have N1 := Fr.app N0 N1q
  obtain ⟨T2, X2, e2, st2⟩ := getF X1 hx hZ hown (host := "") (Or.inl (hw _ (M 72))) Via.refl e1 B.2.1 (g := (mkF m 7 #[.val (.ref ob), .val (.int ix), .val (.ref os)] [(.ref ob), (.ref os)])) rfl rfl (hb hby d16_7)
  obtain ⟨T3, X3, e3, st3⟩ := getF X2 hx hZ hown (host := "") (Or.inl (hw _ (M 74))) Via.refl e2 B.2.2.1 (g := (mkF m 12 #[.val (.ref ob), .val (.int ix), .val (.ref os)] [(.ref ob), (.int ix), (.ref va), (.ref os)])) rfl rfl (hb hby d16_12)
  obtain ⟨cq4, kq4, q4a, q4b, q4c⟩ := isOf hZ e3 Ts.1
  obtain ⟨_, _, ⟨T4, L4, k4, n4⟩, -, X4, ⟨Lc4, hQ4, l4, y4, z4⟩, st4⟩ := X3.virtualBack hx (y := (⟨"java/lang/String", "getBytes", "([BIB)V"⟩ : MethodName)) (z := (⟨"java/lang/String", "getBytes", "([BIB)V"⟩ : MethodName)) hown (mvT hZ (hw _ (M 118))) (mvT hZ (hw _ (M 119))) (notFace_of_selects (args := #[]) (mvT hZ (hw _ (M 121)))) (mvT hZ (hw _ (M 121))) (mvT hZ (hw _ (M 120))) (by decide) (backOf (W := 0) ((sBytes l Z a0 hw os sa kS zs ss zc va kA cap vs ix vt h0 n0 (Nat.le_trans Z0 (Keep.refl h0 [va]).1) ⟨Ts.1, Ts.2.1, Ts.2.2.1, Ts.2.2.2⟩ S_CS hz B.2.2.2.2 g_va hi0 hs0 hfit hlen hcp) []) hZ (hw _ (M 122)) (hw _ (M 46)) (by decide) (by decide)) q4a q4c (g := (mkF m 15 #[.val (.ref ob), .val (.int ix), .val (.ref os)] [(.int (0 : Int32)), (.int ix), (.ref va), (.ref os)])) rfl (by rw [hml]; rfl) (Steps.refl _) (argsL := [(.ref va), (.int ix), (.int (0 : Int32))]) (rest := []) (lenOf pd_oABIBcV rfl) rfl (by show 2 * 0 + _ ≤ _; exact Nat.le_of_eq rfl) (hb hby d16_15) (fun _ _ => ⟨rfl, e3, (by decide : 0 + 0 ≤ _), (by decide : 0 + 0 ≤ _)⟩)
  dsimp only [Pt.U, Pt.locs, Pt.cells, Pt.slots] at X4 l4 y4 z4 st4 hQ4
  subst l4 y4 z4
  obtain ⟨rfl, N4q, Kq4, Vq4⟩ := hQ4
  have K4 : Keep h0 T4.heap [va] := (Keep.refl h0 [va]).trans Kq4 (allS (Or.inl (List.mem_of_getElem? (i := 0) rfl)) all0)
  have N4 := Fr.app N1 N4q
  obtain ⟨fs, hr, hrun, hended, hW, hsame⟩ := X4.leave (v := none) (fun _ => rfl)
  refine ⟨_, _, pre0 _ ?_, hrun, hended, _, _, rfl, ?_, ⟨_, rfl⟩, hW, hsame.mono (by decide) (by decide)⟩
  · show Steps p.tables e below (s₁.setTop (mkF m 0 #[.val (.ref ob), .val (.int ix), .val (.ref os)] [])) _
    refine XS.aloadN X0.here hx rfl (hb hby d16_0) rfl rfl ?_
    refine XS.aloadN X0.here hx rfl (hb hby d16_1) rfl rfl ?_
    refine st1.trans ?_
    show Steps p.tables e below (T1.setTop (mkF m 5 #[.val (.ref ob), .val (.int ix), .val (.ref os)] [])) _
    refine XS.aloadN X1.here hx rfl (hb hby d16_5) rfl rfl ?_
    refine XS.aloadN X1.here hx rfl (hb hby d16_6) rfl rfl ?_
    refine st2 _ ?_
    show Steps p.tables e below (T2.setTop (mkF m 10 #[.val (.ref ob), .val (.int ix), .val (.ref os)] [(.ref va), (.ref os)])) _
    refine XS.iloadN X2.here hx rfl (hb hby d16_10) rfl ?_
    refine XS.aloadN X2.here hx rfl (hb hby d16_11) rfl rfl ?_
    refine st3 _ ?_
    show Steps p.tables e below (T3.setTop (mkF m 15 #[.val (.ref ob), .val (.int ix), .val (.ref os)] [(.int (0 : Int32)), (.int ix), (.ref va), (.ref os)])) _
    refine st4.trans ?_
    show Steps p.tables e below (T4.setTop (mkF m 18 #[.val (.ref ob), .val (.int ix), .val (.ref os)] [])) _
    exact X4.returnOut hx Bd.returns (hb hby d16_18) hr
  · show (QP va Z kA cap vt h0 n0 none) _ T4.heap _
    exact ⟨rfl, N4, K4, Vq4⟩
theorem d26_0 : decode jdk_29_method_65_code 0 = .ok (.iload_n 0, 1) := by decide +kernel
theorem d26_1 : decode jdk_29_method_65_code 1 = .ok (.iload_n 1, 1) := by decide +kernel
theorem d26_2 : decode jdk_29_method_65_code 2 = .ok (.if_icmp .lt 7, 3) := by decide +kernel
theorem d26_9 : decode jdk_29_method_65_code 9 = .ok (.iload_n 1, 1) := by decide +kernel
theorem d26_10 : decode jdk_29_method_65_code 10 = .ok (.ireturn, 1) := by decide +kernel
theorem ef_26 (m : MethodId) (x0 : Int32) (x1 : Int32) : entryFrame m #[(.int x0), (.int x1)] 2 = mkF m 0 #[.val (.int x0), .val (.int x1)] [] := by first | (simp [entryFrame, mkF, argsToLocals, Value.category]; done) | rfl
set_option maxRecDepth 65536 in
set_option maxHeartbeats 40000000 in
theorem mMax (l : Launch) (Z : State) (a0 : Array Value) (hw : ∀ d ∈ tables_1, d.before a0 Z = true) (x0 x1 : Int32) (h0 : Heap) (n0 : Nat) (Z0 : n0 ≤ h0.size) (hc2 : x0 < x1) :
    MQ l Z (⟨"java/lang/Math", "max", "(II)I"⟩ : MethodName) jdk_29_method_65_code 2 (some .int) ({ frames := 0, cells := 0, slots := 0, locals := 0 } : Room) #[(.int x0), (.int x1)] h0 (QR (.int x1) h0 n0) := by
  intro ws
  refine MetFree.of_bodySF (Jvm.Free.JP.mathPlain rfl (by decide +kernel)) hisR ?_
  intro p e s m args below meth c s₁ Bd hml0 hP hK
  obtain ⟨rfl, hZ, hh⟩ := hP
  have hx := Bd.exec
  have hby := Bd.bytes
  have hml : c.maxLocals = 2 := hml0
  have hown : s.vm.findClass "java/lang/Math" = some m.cls := findClass_of_methodNamed Bd.named
  have hnm := (name_of_methodNamed Bd.named Bd.method).1
  have X0 : Stand p l e ({ frames := 0, cells := 0, slots := 0, locals := 0 } : Room) s m #[(.int x0), (.int x1)] below meth c s₁ [] 0 0 := Stand.of_body Bd
  have e0 : s₁.heap = h0 := by rw [← hh, Bd.state]; rfl
  have N0 := Fr.nil n0
  have pre0 : ∀ t_, Steps p.tables e below (s₁.setTop (mkF m 0 #[.val (.int x0), .val (.int x1)] [])) t_ → Steps p.tables e below (s₁.setTop (entryFrame m #[(.int x0), (.int x1)] 2)) t_ := fun t_ k_ => castTop (ef_26 m x0 x1) k_
  obtain ⟨fs, hr, hrun, hended, hW, hsame⟩ := X0.leave (v := some (.int x1)) (fun h => by rw [Bd.returns] at h; cases h)
  refine ⟨_, _, pre0 _ ?_, hrun, hended, _, _, rfl, ?_, ⟨_, rfl⟩, hW, hsame.mono (by decide) (by decide)⟩
  · show Steps p.tables e below (s₁.setTop (mkF m 0 #[.val (.int x0), .val (.int x1)] [])) _
    refine XS.iloadN X0.here hx rfl (hb hby d26_0) rfl ?_
    refine XS.iloadN X0.here hx rfl (hb hby d26_1) rfl ?_
    refine XS.icmpYes X0.here hx rfl (pc0 := 2) (pc' := 9) rfl (hb hby d26_2) rfl (tlt hc2).1 (by decide) (by decide) ?_
    show Steps p.tables e below (s₁.setTop (mkF m 9 #[.val (.int x0), .val (.int x1)] [])) _
    refine XS.iloadN X0.here hx rfl (hb hby d26_9) rfl ?_
    exact retI X0 hx Bd.returns (hb hby d26_10) hr
  · show (QR (.int x1) h0 n0) _ s₁.heap _
    rw [e0]
    exact ⟨rfl, N0, rfl⟩
theorem d26_5 : decode jdk_29_method_65_code 5 = .ok (.iload_n 0, 1) := by decide +kernel
theorem d26_6 : decode jdk_29_method_65_code 6 = .ok (.goto 4, 3) := by decide +kernel
set_option maxRecDepth 65536 in
set_option maxHeartbeats 40000000 in
theorem mMax2 (l : Launch) (Z : State) (a0 : Array Value) (hw : ∀ d ∈ tables_1, d.before a0 Z = true) (x0 x1 : Int32) (h0 : Heap) (n0 : Nat) (Z0 : n0 ≤ h0.size) (hc2 : ¬ (x0 < x1)) :
    MQ l Z (⟨"java/lang/Math", "max", "(II)I"⟩ : MethodName) jdk_29_method_65_code 2 (some .int) ({ frames := 0, cells := 0, slots := 0, locals := 0 } : Room) #[(.int x0), (.int x1)] h0 (QR (.int x0) h0 n0) := by
  intro ws
  refine MetFree.of_bodySF (Jvm.Free.JP.mathPlain rfl (by decide +kernel)) hisR ?_
  intro p e s m args below meth c s₁ Bd hml0 hP hK
  obtain ⟨rfl, hZ, hh⟩ := hP
  have hx := Bd.exec
  have hby := Bd.bytes
  have hml : c.maxLocals = 2 := hml0
  have hown : s.vm.findClass "java/lang/Math" = some m.cls := findClass_of_methodNamed Bd.named
  have hnm := (name_of_methodNamed Bd.named Bd.method).1
  have X0 : Stand p l e ({ frames := 0, cells := 0, slots := 0, locals := 0 } : Room) s m #[(.int x0), (.int x1)] below meth c s₁ [] 0 0 := Stand.of_body Bd
  have e0 : s₁.heap = h0 := by rw [← hh, Bd.state]; rfl
  have N0 := Fr.nil n0
  have pre0 : ∀ t_, Steps p.tables e below (s₁.setTop (mkF m 0 #[.val (.int x0), .val (.int x1)] [])) t_ → Steps p.tables e below (s₁.setTop (entryFrame m #[(.int x0), (.int x1)] 2)) t_ := fun t_ k_ => castTop (ef_26 m x0 x1) k_
  obtain ⟨fs, hr, hrun, hended, hW, hsame⟩ := X0.leave (v := some (.int x0)) (fun h => by rw [Bd.returns] at h; cases h)
  refine ⟨_, _, pre0 _ ?_, hrun, hended, _, _, rfl, ?_, ⟨_, rfl⟩, hW, hsame.mono (by decide) (by decide)⟩
  · show Steps p.tables e below (s₁.setTop (mkF m 0 #[.val (.int x0), .val (.int x1)] [])) _
    refine XS.iloadN X0.here hx rfl (hb hby d26_0) rfl ?_
    refine XS.iloadN X0.here hx rfl (hb hby d26_1) rfl ?_
    refine XS.icmpNo X0.here hx rfl (hb hby d26_2) rfl (flt hc2).1 ?_
    show Steps p.tables e below (s₁.setTop (mkF m 5 #[.val (.int x0), .val (.int x1)] [])) _
    refine XS.iloadN X0.here hx rfl (hb hby d26_5) rfl ?_
    refine XS.goto X0.here hx rfl (pc0 := 6) (pc' := 10) rfl (hb hby d26_6) (by decide) (by decide) ?_
    show Steps p.tables e below (s₁.setTop (mkF m 10 #[.val (.int x0), .val (.int x1)] [(.int x0)])) _
    exact retI X0 hx Bd.returns (hb hby d26_10) hr
  · show (QR (.int x0) h0 n0) _ s₁.heap _
    rw [e0]
    exact ⟨rfl, N0, rfl⟩
theorem d28_0 : decode jdk_29_method_69_code 0 = .ok (.iload_n 0, 1) := by decide +kernel
theorem d28_1 : decode jdk_29_method_69_code 1 = .ok (.iload_n 1, 1) := by decide +kernel
theorem d28_2 : decode jdk_29_method_69_code 2 = .ok (.if_icmp .gt 7, 3) := by decide +kernel
theorem d28_5 : decode jdk_29_method_69_code 5 = .ok (.iload_n 0, 1) := by decide +kernel
theorem d28_6 : decode jdk_29_method_69_code 6 = .ok (.goto 4, 3) := by decide +kernel
theorem d28_10 : decode jdk_29_method_69_code 10 = .ok (.ireturn, 1) := by decide +kernel
theorem ef_28 (m : MethodId) (x0 : Int32) (x1 : Int32) : entryFrame m #[(.int x0), (.int x1)] 2 = mkF m 0 #[.val (.int x0), .val (.int x1)] [] := by first | (simp [entryFrame, mkF, argsToLocals, Value.category]; done) | rfl
set_option maxRecDepth 65536 in
set_option maxHeartbeats 40000000 in
theorem mMin (l : Launch) (Z : State) (a0 : Array Value) (hw : ∀ d ∈ tables_1, d.before a0 Z = true) (x0 x1 : Int32) (h0 : Heap) (n0 : Nat) (Z0 : n0 ≤ h0.size) (hc2 : ¬ (x1 < x0)) :
    MQ l Z (⟨"java/lang/Math", "min", "(II)I"⟩ : MethodName) jdk_29_method_69_code 2 (some .int) ({ frames := 0, cells := 0, slots := 0, locals := 0 } : Room) #[(.int x0), (.int x1)] h0 (QR (.int x0) h0 n0) := by
  intro ws
  refine MetFree.of_bodySF (Jvm.Free.JP.mathPlain rfl (by decide +kernel)) hisR ?_
  intro p e s m args below meth c s₁ Bd hml0 hP hK
  obtain ⟨rfl, hZ, hh⟩ := hP
  have hx := Bd.exec
  have hby := Bd.bytes
  have hml : c.maxLocals = 2 := hml0
  have hown : s.vm.findClass "java/lang/Math" = some m.cls := findClass_of_methodNamed Bd.named
  have hnm := (name_of_methodNamed Bd.named Bd.method).1
  have X0 : Stand p l e ({ frames := 0, cells := 0, slots := 0, locals := 0 } : Room) s m #[(.int x0), (.int x1)] below meth c s₁ [] 0 0 := Stand.of_body Bd
  have e0 : s₁.heap = h0 := by rw [← hh, Bd.state]; rfl
  have N0 := Fr.nil n0
  have pre0 : ∀ t_, Steps p.tables e below (s₁.setTop (mkF m 0 #[.val (.int x0), .val (.int x1)] [])) t_ → Steps p.tables e below (s₁.setTop (entryFrame m #[(.int x0), (.int x1)] 2)) t_ := fun t_ k_ => castTop (ef_28 m x0 x1) k_
  obtain ⟨fs, hr, hrun, hended, hW, hsame⟩ := X0.leave (v := some (.int x0)) (fun h => by rw [Bd.returns] at h; cases h)
  refine ⟨_, _, pre0 _ ?_, hrun, hended, _, _, rfl, ?_, ⟨_, rfl⟩, hW, hsame.mono (by decide) (by decide)⟩
  · show Steps p.tables e below (s₁.setTop (mkF m 0 #[.val (.int x0), .val (.int x1)] [])) _
    refine XS.iloadN X0.here hx rfl (hb hby d28_0) rfl ?_
    refine XS.iloadN X0.here hx rfl (hb hby d28_1) rfl ?_
    refine XS.icmpNo X0.here hx rfl (hb hby d28_2) rfl (flt hc2).2.2.1 ?_
    show Steps p.tables e below (s₁.setTop (mkF m 5 #[.val (.int x0), .val (.int x1)] [])) _
    refine XS.iloadN X0.here hx rfl (hb hby d28_5) rfl ?_
    refine XS.goto X0.here hx rfl (pc0 := 6) (pc' := 10) rfl (hb hby d28_6) (by decide) (by decide) ?_
    show Steps p.tables e below (s₁.setTop (mkF m 10 #[.val (.int x0), .val (.int x1)] [(.int x0)])) _
    exact retI X0 hx Bd.returns (hb hby d28_10) hr
  · show (QR (.int x0) h0 n0) _ s₁.heap _
    rw [e0]
    exact ⟨rfl, N0, rfl⟩
theorem d28_9 : decode jdk_29_method_69_code 9 = .ok (.iload_n 1, 1) := by decide +kernel
set_option maxRecDepth 65536 in
set_option maxHeartbeats 40000000 in
theorem mMin2 (l : Launch) (Z : State) (a0 : Array Value) (hw : ∀ d ∈ tables_1, d.before a0 Z = true) (x0 x1 : Int32) (h0 : Heap) (n0 : Nat) (Z0 : n0 ≤ h0.size) (hc2 : x1 < x0) :
    MQ l Z (⟨"java/lang/Math", "min", "(II)I"⟩ : MethodName) jdk_29_method_69_code 2 (some .int) ({ frames := 0, cells := 0, slots := 0, locals := 0 } : Room) #[(.int x0), (.int x1)] h0 (QR (.int x1) h0 n0) := by
  intro ws
  refine MetFree.of_bodySF (Jvm.Free.JP.mathPlain rfl (by decide +kernel)) hisR ?_
  intro p e s m args below meth c s₁ Bd hml0 hP hK
  obtain ⟨rfl, hZ, hh⟩ := hP
  have hx := Bd.exec
  have hby := Bd.bytes
  have hml : c.maxLocals = 2 := hml0
  have hown : s.vm.findClass "java/lang/Math" = some m.cls := findClass_of_methodNamed Bd.named
  have hnm := (name_of_methodNamed Bd.named Bd.method).1
  have X0 : Stand p l e ({ frames := 0, cells := 0, slots := 0, locals := 0 } : Room) s m #[(.int x0), (.int x1)] below meth c s₁ [] 0 0 := Stand.of_body Bd
  have e0 : s₁.heap = h0 := by rw [← hh, Bd.state]; rfl
  have N0 := Fr.nil n0
  have pre0 : ∀ t_, Steps p.tables e below (s₁.setTop (mkF m 0 #[.val (.int x0), .val (.int x1)] [])) t_ → Steps p.tables e below (s₁.setTop (entryFrame m #[(.int x0), (.int x1)] 2)) t_ := fun t_ k_ => castTop (ef_28 m x0 x1) k_
  obtain ⟨fs, hr, hrun, hended, hW, hsame⟩ := X0.leave (v := some (.int x1)) (fun h => by rw [Bd.returns] at h; cases h)
  refine ⟨_, _, pre0 _ ?_, hrun, hended, _, _, rfl, ?_, ⟨_, rfl⟩, hW, hsame.mono (by decide) (by decide)⟩
  · show Steps p.tables e below (s₁.setTop (mkF m 0 #[.val (.int x0), .val (.int x1)] [])) _
    refine XS.iloadN X0.here hx rfl (hb hby d28_0) rfl ?_
    refine XS.iloadN X0.here hx rfl (hb hby d28_1) rfl ?_
    refine XS.icmpYes X0.here hx rfl (pc0 := 2) (pc' := 9) rfl (hb hby d28_2) rfl (tlt hc2).2.2.1 (by decide) (by decide) ?_
    show Steps p.tables e below (s₁.setTop (mkF m 9 #[.val (.int x0), .val (.int x1)] [])) _
    refine XS.iloadN X0.here hx rfl (hb hby d28_9) rfl ?_
    exact retI X0 hx Bd.returns (hb hby d28_10) hr
  · show (QR (.int x1) h0 n0) _ s₁.heap _
    rw [e0]
    exact ⟨rfl, N0, rfl⟩
theorem d25_0 : decode jdk_48_method_27_code 0 = .ok (.iload_n 0, 1) := by decide +kernel
theorem d25_1 : decode jdk_48_method_27_code 1 = .ok (.iload_n 1, 1) := by decide +kernel
theorem d25_2 : decode jdk_48_method_27_code 2 = .ok (.iload_n 2, 1) := by decide +kernel
theorem pd_oIIcI : parseMethodDescriptor "(II)I" = some ⟨[.int, .int], some .int⟩ := by decide +kernel
theorem d25_3 : decode jdk_48_method_27_code 3 = .ok (.invokestatic 194, 3) := by decide +kernel
theorem d25_6 : decode jdk_48_method_27_code 6 = .ok (.iadd, 1) := by decide +kernel
theorem d25_7 : decode jdk_48_method_27_code 7 = .ok (.istore_n 3, 1) := by decide +kernel
theorem d25_8 : decode jdk_48_method_27_code 8 = .ok (.iconst 0, 1) := by decide +kernel
theorem d25_9 : decode jdk_48_method_27_code 9 = .ok (.iload_n 3, 1) := by decide +kernel
theorem d25_10 : decode jdk_48_method_27_code 10 = .ok (.if_icmp .ge 11, 3) := by decide +kernel
theorem d25_13 : decode jdk_48_method_27_code 13 = .ok (.iload_n 3, 1) := by decide +kernel
theorem d25_14 : decode jdk_48_method_27_code 14 = .ok (.ldc 200, 2) := by decide +kernel
theorem d25_16 : decode jdk_48_method_27_code 16 = .ok (.if_icmp .gt 5, 3) := by decide +kernel
theorem d25_19 : decode jdk_48_method_27_code 19 = .ok (.iload_n 3, 1) := by decide +kernel
theorem d25_20 : decode jdk_48_method_27_code 20 = .ok (.ireturn, 1) := by decide +kernel
theorem pn_25 : plainName "jdk/internal/util/ArraysSupport" = true := by first | (simp [plainName, overriddenIn]; done) | decide +kernel
theorem ef_25 (m : MethodId) (x0 : Int32) (x1 : Int32) (x2 : Int32) : entryFrame m #[(.int x0), (.int x1), (.int x2)] 4 = mkF m 0 #[.val (.int x0), .val (.int x1), .val (.int x2), .unset] [] := by first | (simp [entryFrame, mkF, argsToLocals, Value.category]; done) | rfl
set_option maxRecDepth 65536 in
set_option maxHeartbeats 40000000 in
theorem aNewLen (l : Launch) (Z : State) (a0 : Array Value) (hw : ∀ d ∈ tables_1, d.before a0 Z = true) (x0 x1 x2 x3 : Int32) (h0 : Heap) (n0 : Nat) (Z0 : n0 ≤ h0.size) (hlt : x1 < x2) (hsum : (x0 + x2) = x3) (hc10 : (0 : Int32) < x3) (hc16 : ¬ ((2147483639 : Int32) < x3)) :
    MQ l Z (⟨"jdk/internal/util/ArraysSupport", "newLength", "(III)I"⟩ : MethodName) jdk_48_method_27_code 4 (some .int) ({ frames := 1, cells := 0, slots := 0, locals := 14 } : Room) #[(.int x0), (.int x1), (.int x2)] h0 (QR (.int x3) h0 n0) := by
  intro ws
  refine MetFree.of_bodySF (plainFor_of_name pn_25) hisR ?_
  intro p e s m args below meth c s₁ Bd hml0 hP hK
  obtain ⟨rfl, hZ, hh⟩ := hP
  have hx := Bd.exec
  have hby := Bd.bytes
  have hml : c.maxLocals = 4 := hml0
  have hown : s.vm.findClass "jdk/internal/util/ArraysSupport" = some m.cls := findClass_of_methodNamed Bd.named
  have hnm := (name_of_methodNamed Bd.named Bd.method).1
  have X0 : Stand p l e ({ frames := 1, cells := 0, slots := 0, locals := 14 } : Room) s m #[(.int x0), (.int x1), (.int x2)] below meth c s₁ [] 0 0 := Stand.of_body Bd
  have e0 : s₁.heap = h0 := by rw [← hh, Bd.state]; rfl
  have N0 := Fr.nil n0
  have pre0 : ∀ t_, Steps p.tables e below (s₁.setTop (mkF m 0 #[.val (.int x0), .val (.int x1), .val (.int x2), .unset] [])) t_ → Steps p.tables e below (s₁.setTop (entryFrame m #[(.int x0), (.int x1), (.int x2)] 4)) t_ := fun t_ k_ => castTop (ef_25 m x0 x1 x2) k_
  obtain ⟨_, _, ⟨T1, L1, k1, n1⟩, -, X1, ⟨Lc1, hQ1, l1, y1, z1⟩, st1⟩ := Jvm.LawKit.callS X0 hx (y := (⟨"java/lang/Math", "max", "(II)I"⟩ : MethodName)) hown (mvT hZ (hw _ (M 162))) (mvT hZ (hw _ (M 163))) (mvT hZ (hw _ (M 164))) (mvT hZ (hw _ (M 165))) (by decide) (backOf (W := 1) ((mMax l Z a0 hw x1 x2 h0 n0 (Nat.le_trans Z0 (Keep.refl h0 []).1) hlt) []) hZ (hw _ (M 165)) (hw _ (M 164)) (by decide) (by decide)) (g := (mkF m 3 #[.val (.int x0), .val (.int x1), .val (.int x2), .unset] [(.int x2), (.int x1), (.int x0)])) rfl (by rw [hml]; rfl) (argsL := [(.int x1), (.int x2)]) (rest := [(.int x0)]) (lenOf pd_oIIcI rfl) rfl (by show 2 * 0 + _ ≤ _; exact Nat.le_of_eq rfl) (hb hby d25_3) (fun _ _ => ⟨rfl, e0, (by decide : 0 + 0 ≤ _), (by decide : 0 + 0 ≤ _)⟩)
  dsimp only [Pt.U, Pt.locs, Pt.cells, Pt.slots] at X1 l1 y1 z1 st1 hQ1
  subst l1 y1 z1
  obtain ⟨rfl, N1q, e1⟩ := hQ1
  have N1 := Fr.app N0 N1q
  obtain ⟨fs, hr, hrun, hended, hW, hsame⟩ := X1.leave (v := some (.int x3)) (fun h => by rw [Bd.returns] at h; cases h)
  refine ⟨_, _, pre0 _ ?_, hrun, hended, _, _, rfl, ?_, ⟨_, rfl⟩, hW, hsame.mono (by decide) (by decide)⟩
  · show Steps p.tables e below (s₁.setTop (mkF m 0 #[.val (.int x0), .val (.int x1), .val (.int x2), .unset] [])) _
    refine XS.iloadN X0.here hx rfl (hb hby d25_0) rfl ?_
    refine XS.iloadN X0.here hx rfl (hb hby d25_1) rfl ?_
    refine XS.iloadN X0.here hx rfl (hb hby d25_2) rfl ?_
    refine st1 _ ?_
    show Steps p.tables e below (T1.setTop (mkF m 6 #[.val (.int x0), .val (.int x1), .val (.int x2), .unset] [(.int x2), (.int x0)])) _
    refine XS.iadd X1.here hx rfl (hb hby d25_6) rfl ?_
    show Steps p.tables e below (T1.setTop (mkF m 7 #[.val (.int x0), .val (.int x1), .val (.int x2), .unset] [(.int (x0 + x2))])) _
    rw [hsum]
    show Steps p.tables e below (T1.setTop (mkF m 7 #[.val (.int x0), .val (.int x1), .val (.int x2), .unset] [(.int x3)])) _
    refine XS.istoreN X1.here hx rfl (hb hby d25_7) rfl (l' := #[.val (.int x0), .val (.int x1), .val (.int x2), .val (.int x3)]) rfl ?_
    show Steps p.tables e below (T1.setTop (mkF m 8 #[.val (.int x0), .val (.int x1), .val (.int x2), .val (.int x3)] [])) _
    refine XS.iconst X1.here hx rfl (hb hby d25_8) ?_
    refine XS.iloadN X1.here hx rfl (hb hby d25_9) rfl ?_
    refine XS.icmpNo X1.here hx rfl (hb hby d25_10) rfl (tlt hc10).2.1 ?_
    show Steps p.tables e below (T1.setTop (mkF m 13 #[.val (.int x0), .val (.int x1), .val (.int x2), .val (.int x3)] [])) _
    refine XS.iloadN X1.here hx rfl (hb hby d25_13) rfl ?_
    refine X1.ldcInt hx hown (mvT hZ (hw _ (M 166))) (g := (mkF m 14 #[.val (.int x0), .val (.int x1), .val (.int x2), .val (.int x3)] [(.int x3)])) rfl (hb hby d25_14) _ ?_
    show Steps p.tables e below (T1.setTop (mkF m 16 #[.val (.int x0), .val (.int x1), .val (.int x2), .val (.int x3)] [(.int (2147483639 : Int32)), (.int x3)])) _
    refine XS.icmpNo X1.here hx rfl (hb hby d25_16) rfl (flt hc16).2.2.1 ?_
    show Steps p.tables e below (T1.setTop (mkF m 19 #[.val (.int x0), .val (.int x1), .val (.int x2), .val (.int x3)] [])) _
    refine XS.iloadN X1.here hx rfl (hb hby d25_19) rfl ?_
    exact retI X1 hx Bd.returns (hb hby d25_20) hr
  · show (QR (.int x3) h0 n0) _ T1.heap _
    rw [e1]
    exact ⟨rfl, N1, rfl⟩
theorem d24_0 : decode jdk_68_method_10_code 0 = .ok (.aload_n 0, 1) := by decide +kernel
theorem d24_1 : decode jdk_68_method_10_code 1 = .ok (.getfield 15, 3) := by decide +kernel
theorem d24_4 : decode jdk_68_method_10_code 4 = .ok (.arraylength, 1) := by decide +kernel
theorem d24_5 : decode jdk_68_method_10_code 5 = .ok (.istore_n 2, 1) := by decide +kernel
theorem d24_6 : decode jdk_68_method_10_code 6 = .ok (.iload_n 1, 1) := by decide +kernel
theorem d24_7 : decode jdk_68_method_10_code 7 = .ok (.aload_n 0, 1) := by decide +kernel
theorem d24_8 : decode jdk_68_method_10_code 8 = .ok (.getfield 22, 3) := by decide +kernel
theorem d24_11 : decode jdk_68_method_10_code 11 = .ok (.ishl, 1) := by decide +kernel
theorem d24_12 : decode jdk_68_method_10_code 12 = .ok (.istore_n 3, 1) := by decide +kernel
theorem d24_13 : decode jdk_68_method_10_code 13 = .ok (.iload_n 3, 1) := by decide +kernel
theorem d24_14 : decode jdk_68_method_10_code 14 = .ok (.iload_n 2, 1) := by decide +kernel
theorem d24_15 : decode jdk_68_method_10_code 15 = .ok (.isub, 1) := by decide +kernel
theorem d24_16 : decode jdk_68_method_10_code 16 = .ok (.istore 4, 2) := by decide +kernel
theorem d24_18 : decode jdk_68_method_10_code 18 = .ok (.iload_n 2, 1) := by decide +kernel
theorem d24_19 : decode jdk_68_method_10_code 19 = .ok (.iload 4, 2) := by decide +kernel
theorem d24_21 : decode jdk_68_method_10_code 21 = .ok (.iload_n 2, 1) := by decide +kernel
theorem d24_22 : decode jdk_68_method_10_code 22 = .ok (.iconst 2, 1) := by decide +kernel
theorem d24_23 : decode jdk_68_method_10_code 23 = .ok (.aload_n 0, 1) := by decide +kernel
theorem d24_24 : decode jdk_68_method_10_code 24 = .ok (.getfield 22, 3) := by decide +kernel
theorem d24_27 : decode jdk_68_method_10_code 27 = .ok (.ishl, 1) := by decide +kernel
theorem d24_28 : decode jdk_68_method_10_code 28 = .ok (.iadd, 1) := by decide +kernel
theorem pd_oIIIcI : parseMethodDescriptor "(III)I" = some ⟨[.int, .int, .int], some .int⟩ := by decide +kernel
theorem d24_29 : decode jdk_68_method_10_code 29 = .ok (.invokestatic 114, 3) := by decide +kernel
theorem d24_32 : decode jdk_68_method_10_code 32 = .ok (.istore 5, 2) := by decide +kernel
theorem d24_34 : decode jdk_68_method_10_code 34 = .ok (.iload 5, 2) := by decide +kernel
theorem d24_36 : decode jdk_68_method_10_code 36 = .ok (.ldc 39, 2) := by decide +kernel
theorem d24_38 : decode jdk_68_method_10_code 38 = .ok (.if_icmp .ne 13, 3) := by decide +kernel
theorem d24_51 : decode jdk_68_method_10_code 51 = .ok (.iload 5, 2) := by decide +kernel
theorem d24_53 : decode jdk_68_method_10_code 53 = .ok (.aload_n 0, 1) := by decide +kernel
theorem d24_54 : decode jdk_68_method_10_code 54 = .ok (.getfield 22, 3) := by decide +kernel
theorem d24_57 : decode jdk_68_method_10_code 57 = .ok (.ishr, 1) := by decide +kernel
theorem d24_58 : decode jdk_68_method_10_code 58 = .ok (.ireturn, 1) := by decide +kernel
theorem pn_24 : plainName "java/lang/AbstractStringBuilder" = true := by first | (simp [plainName, overriddenIn]; done) | decide +kernel
theorem ef_24 (m : MethodId) (x0 : Addr) (x1 : Int32) : entryFrame m #[(.ref x0), (.int x1)] 6 = mkF m 0 #[.val (.ref x0), .val (.int x1), .unset, .unset, .unset, .unset] [] := by first | (simp [entryFrame, mkF, argsToLocals, Value.category]; done) | rfl
set_option maxRecDepth 65536 in
set_option maxHeartbeats 40000000 in
theorem bNewCap (l : Launch) (Z : State) (a0 : Array Value) (hw : ∀ d ∈ tables_1, d.before a0 Z = true) (ob va : Addr) (kA : ClassId) (cap cnt : Int32) (vs : List Value) (mn df pf nc : Int32) (h0 : Heap) (n0 : Nat) (Z0 : n0 ≤ h0.size) (B : BdS Z h0 ob va kA cap cnt vs) (hdf : (mn - cap) = df) (hpf : (cap + (2 : Int32)) = pf) (hlt : df < pf) (hnc : (cap + pf) = nc) (hc10 : (0 : Int32) < nc) (hc16 : ¬ ((2147483639 : Int32) < nc)) (hc38 : ¬ (nc = (2147483647 : Int32))) :
    MQ l Z (⟨"java/lang/AbstractStringBuilder", "newCapacity", "(I)I"⟩ : MethodName) jdk_68_method_10_code 6 (some .int) ({ frames := 2, cells := 0, slots := 0, locals := 29 } : Room) #[(.ref ob), (.int mn)] h0 (QR (.int nc) h0 n0) := by
  intro ws
  refine MetFree.of_bodySF (plainFor_of_name pn_24) hisR ?_
  intro p e s m args below meth c s₁ Bd hml0 hP hK
  obtain ⟨rfl, hZ, hh⟩ := hP
  have hx := Bd.exec
  have hby := Bd.bytes
  have hml : c.maxLocals = 6 := hml0
  have hown : s.vm.findClass "java/lang/AbstractStringBuilder" = some m.cls := findClass_of_methodNamed Bd.named
  have hnm := (name_of_methodNamed Bd.named Bd.method).1
  have X0 : Stand p l e ({ frames := 2, cells := 0, slots := 0, locals := 29 } : Room) s m #[(.ref ob), (.int mn)] below meth c s₁ [] 0 0 := Stand.of_body Bd
  have e0 : s₁.heap = h0 := by rw [← hh, Bd.state]; rfl
  have N0 := Fr.nil n0
  have pre0 : ∀ t_, Steps p.tables e below (s₁.setTop (mkF m 0 #[.val (.ref ob), .val (.int mn), .unset, .unset, .unset, .unset] [])) t_ → Steps p.tables e below (s₁.setTop (entryFrame m #[(.ref ob), (.int mn)] 6)) t_ := fun t_ k_ => castTop (ef_24 m ob mn) k_
  obtain ⟨T1, X1, e1, st1⟩ := getF X0 hx hZ hown (host := "") (Or.inl (hw _ (M 72))) Via.refl e0 B.2.1 (g := (mkF m 1 #[.val (.ref ob), .val (.int mn), .unset, .unset, .unset, .unset] [(.ref ob)])) rfl rfl (hb hby d24_1)
  obtain ⟨clv2, Arv2, qv2, Sv2, Ng2, Hv2, Gv2⟩ := id B.2.2.2.2
  obtain ⟨T3, X3, e3, st3⟩ := getF X1 hx hZ hown (host := "") (Or.inl (hw _ (M 74))) Via.refl e1 B.2.2.1 (g := (mkF m 8 #[.val (.ref ob), .val (.int mn), .val (.int cap), .unset, .unset, .unset] [(.ref ob), (.int mn)])) rfl rfl (hb hby d24_8)
  obtain ⟨T4, X4, e4, st4⟩ := getF X3 hx hZ hown (host := "") (Or.inl (hw _ (M 74))) Via.refl e3 B.2.2.1 (g := (mkF m 24 #[.val (.ref ob), .val (.int mn), .val (.int cap), .val (.int mn), .val (.int df), .unset] [(.ref ob), (.int (2 : Int32)), (.int cap), (.int df), (.int cap)])) rfl rfl (hb hby d24_24)
  obtain ⟨_, _, ⟨T5, L5, k5, n5⟩, -, X5, ⟨Lc5, hQ5, l5, y5, z5⟩, st5⟩ := Jvm.LawKit.callS X4 hx (y := (⟨"jdk/internal/util/ArraysSupport", "newLength", "(III)I"⟩ : MethodName)) hown (mvT hZ (hw _ (M 158))) (mvT hZ (hw _ (M 159))) (mvT hZ (hw _ (M 160))) (mvT hZ (hw _ (M 161))) (by decide) (backOf (W := 0) ((aNewLen l Z a0 hw cap df pf nc h0 n0 (Nat.le_trans Z0 (Keep.refl h0 []).1) hlt hnc hc10 hc16) []) hZ (hw _ (M 161)) (hw _ (M 160)) (by decide) (by decide)) (g := (mkF m 29 #[.val (.ref ob), .val (.int mn), .val (.int cap), .val (.int mn), .val (.int df), .unset] [(.int pf), (.int df), (.int cap)])) rfl (by rw [hml]; rfl) (argsL := [(.int cap), (.int df), (.int pf)]) (rest := []) (lenOf pd_oIIIcI rfl) rfl (by show 2 * 0 + _ ≤ _; exact Nat.le_of_eq rfl) (hb hby d24_29) (fun _ _ => ⟨rfl, e4, (by decide : 0 + 0 ≤ _), (by decide : 0 + 0 ≤ _)⟩)
  dsimp only [Pt.U, Pt.locs, Pt.cells, Pt.slots] at X5 l5 y5 z5 st5 hQ5
  subst l5 y5 z5
  obtain ⟨rfl, N5q, e5⟩ := hQ5
  have N5 := Fr.app N0 N5q
  obtain ⟨T6, X6, e6, st6⟩ := getF X5 hx hZ hown (host := "") (Or.inl (hw _ (M 74))) Via.refl e5 B.2.2.1 (g := (mkF m 54 #[.val (.ref ob), .val (.int mn), .val (.int cap), .val (.int mn), .val (.int df), .val (.int nc)] [(.ref ob), (.int nc)])) rfl rfl (hb hby d24_54)
  obtain ⟨fs, hr, hrun, hended, hW, hsame⟩ := X6.leave (v := some (.int nc)) (fun h => by rw [Bd.returns] at h; cases h)
  refine ⟨_, _, pre0 _ ?_, hrun, hended, _, _, rfl, ?_, ⟨_, rfl⟩, hW, hsame.mono (by decide) (by decide)⟩
  · show Steps p.tables e below (s₁.setTop (mkF m 0 #[.val (.ref ob), .val (.int mn), .unset, .unset, .unset, .unset] [])) _
    refine XS.aloadN X0.here hx rfl (hb hby d24_0) rfl rfl ?_
    refine st1 _ ?_
    show Steps p.tables e below (T1.setTop (mkF m 4 #[.val (.ref ob), .val (.int mn), .unset, .unset, .unset, .unset] [(.ref va)])) _
    refine X1.arraylength hx (by rw [e1]; exact Arv2.1) (State.isArrayOf_alike hZ.alike Arv2.2.1) (g := (mkF m 4 #[.val (.ref ob), .val (.int mn), .unset, .unset, .unset, .unset] [(.ref va)])) rfl rfl (hb hby d24_4) _ ?_
    rw [len_of Sv2 Ng2]
    show Steps p.tables e below (T1.setTop (mkF m 5 #[.val (.ref ob), .val (.int mn), .unset, .unset, .unset, .unset] [(.int cap)])) _
    refine XS.istoreN X1.here hx rfl (hb hby d24_5) rfl (l' := #[.val (.ref ob), .val (.int mn), .val (.int cap), .unset, .unset, .unset]) rfl ?_
    show Steps p.tables e below (T1.setTop (mkF m 6 #[.val (.ref ob), .val (.int mn), .val (.int cap), .unset, .unset, .unset] [])) _
    refine XS.iloadN X1.here hx rfl (hb hby d24_6) rfl ?_
    refine XS.aloadN X1.here hx rfl (hb hby d24_7) rfl rfl ?_
    refine st3 _ ?_
    show Steps p.tables e below (T3.setTop (mkF m 11 #[.val (.ref ob), .val (.int mn), .val (.int cap), .unset, .unset, .unset] [(.int (0 : Int32)), (.int mn)])) _
    refine XS.ishl X3.here hx rfl (hb hby d24_11) rfl ?_
    show Steps p.tables e below (T3.setTop (mkF m 12 #[.val (.ref ob), .val (.int mn), .val (.int cap), .unset, .unset, .unset] [(.int (mn <<< ((0 : Int32) &&& 31)))])) _
    rw [(own_shl0 mn)]
    show Steps p.tables e below (T3.setTop (mkF m 12 #[.val (.ref ob), .val (.int mn), .val (.int cap), .unset, .unset, .unset] [(.int mn)])) _
    refine XS.istoreN X3.here hx rfl (hb hby d24_12) rfl (l' := #[.val (.ref ob), .val (.int mn), .val (.int cap), .val (.int mn), .unset, .unset]) rfl ?_
    show Steps p.tables e below (T3.setTop (mkF m 13 #[.val (.ref ob), .val (.int mn), .val (.int cap), .val (.int mn), .unset, .unset] [])) _
    refine XS.iloadN X3.here hx rfl (hb hby d24_13) rfl ?_
    refine XS.iloadN X3.here hx rfl (hb hby d24_14) rfl ?_
    refine XS.isub X3.here hx rfl (hb hby d24_15) rfl ?_
    show Steps p.tables e below (T3.setTop (mkF m 16 #[.val (.ref ob), .val (.int mn), .val (.int cap), .val (.int mn), .unset, .unset] [(.int (mn - cap))])) _
    rw [hdf]
    show Steps p.tables e below (T3.setTop (mkF m 16 #[.val (.ref ob), .val (.int mn), .val (.int cap), .val (.int mn), .unset, .unset] [(.int df)])) _
    refine XS.istore X3.here hx rfl (hb hby d24_16) rfl (l' := #[.val (.ref ob), .val (.int mn), .val (.int cap), .val (.int mn), .val (.int df), .unset]) rfl ?_
    show Steps p.tables e below (T3.setTop (mkF m 18 #[.val (.ref ob), .val (.int mn), .val (.int cap), .val (.int mn), .val (.int df), .unset] [])) _
    refine XS.iloadN X3.here hx rfl (hb hby d24_18) rfl ?_
    refine XS.iload X3.here hx rfl (hb hby d24_19) rfl ?_
    refine XS.iloadN X3.here hx rfl (hb hby d24_21) rfl ?_
    refine XS.iconst X3.here hx rfl (hb hby d24_22) ?_
    show Steps p.tables e below (T3.setTop (mkF m 23 #[.val (.ref ob), .val (.int mn), .val (.int cap), .val (.int mn), .val (.int df), .unset] [(.int (2 : Int32)), (.int cap), (.int df), (.int cap)])) _
    refine XS.aloadN X3.here hx rfl (hb hby d24_23) rfl rfl ?_
    refine st4 _ ?_
    show Steps p.tables e below (T4.setTop (mkF m 27 #[.val (.ref ob), .val (.int mn), .val (.int cap), .val (.int mn), .val (.int df), .unset] [(.int (0 : Int32)), (.int (2 : Int32)), (.int cap), (.int df), (.int cap)])) _
    refine XS.ishl X4.here hx rfl (hb hby d24_27) rfl ?_
    show Steps p.tables e below (T4.setTop (mkF m 28 #[.val (.ref ob), .val (.int mn), .val (.int cap), .val (.int mn), .val (.int df), .unset] [(.int ((2 : Int32) <<< ((0 : Int32) &&& 31))), (.int cap), (.int df), (.int cap)])) _
    rw [(by decide : ((2 : Int32) <<< ((0 : Int32) &&& 31)) = (2 : Int32))]
    show Steps p.tables e below (T4.setTop (mkF m 28 #[.val (.ref ob), .val (.int mn), .val (.int cap), .val (.int mn), .val (.int df), .unset] [(.int (2 : Int32)), (.int cap), (.int df), (.int cap)])) _
    refine XS.iadd X4.here hx rfl (hb hby d24_28) rfl ?_
    show Steps p.tables e below (T4.setTop (mkF m 29 #[.val (.ref ob), .val (.int mn), .val (.int cap), .val (.int mn), .val (.int df), .unset] [(.int (cap + (2 : Int32))), (.int df), (.int cap)])) _
    rw [hpf]
    show Steps p.tables e below (T4.setTop (mkF m 29 #[.val (.ref ob), .val (.int mn), .val (.int cap), .val (.int mn), .val (.int df), .unset] [(.int pf), (.int df), (.int cap)])) _
    refine st5 _ ?_
    show Steps p.tables e below (T5.setTop (mkF m 32 #[.val (.ref ob), .val (.int mn), .val (.int cap), .val (.int mn), .val (.int df), .unset] [(.int nc)])) _
    refine XS.istore X5.here hx rfl (hb hby d24_32) rfl (l' := #[.val (.ref ob), .val (.int mn), .val (.int cap), .val (.int mn), .val (.int df), .val (.int nc)]) rfl ?_
    show Steps p.tables e below (T5.setTop (mkF m 34 #[.val (.ref ob), .val (.int mn), .val (.int cap), .val (.int mn), .val (.int df), .val (.int nc)] [])) _
    refine XS.iload X5.here hx rfl (hb hby d24_34) rfl ?_
    refine X5.ldcInt hx hown (mvT hZ (hw _ (M 167))) (g := (mkF m 36 #[.val (.ref ob), .val (.int mn), .val (.int cap), .val (.int mn), .val (.int df), .val (.int nc)] [(.int nc)])) rfl (hb hby d24_36) _ ?_
    show Steps p.tables e below (T5.setTop (mkF m 38 #[.val (.ref ob), .val (.int mn), .val (.int cap), .val (.int mn), .val (.int df), .val (.int nc)] [(.int (2147483647 : Int32)), (.int nc)])) _
    refine XS.icmpYes X5.here hx rfl (pc0 := 38) (pc' := 51) rfl (hb hby d24_38) rfl (feq hc38).2 (by decide) (by decide) ?_
    show Steps p.tables e below (T5.setTop (mkF m 51 #[.val (.ref ob), .val (.int mn), .val (.int cap), .val (.int mn), .val (.int df), .val (.int nc)] [])) _
    refine XS.iload X5.here hx rfl (hb hby d24_51) rfl ?_
    refine XS.aloadN X5.here hx rfl (hb hby d24_53) rfl rfl ?_
    refine st6 _ ?_
    show Steps p.tables e below (T6.setTop (mkF m 57 #[.val (.ref ob), .val (.int mn), .val (.int cap), .val (.int mn), .val (.int df), .val (.int nc)] [(.int (0 : Int32)), (.int nc)])) _
    refine XS.ishr X6.here hx rfl (hb hby d24_57) rfl ?_
    show Steps p.tables e below (T6.setTop (mkF m 58 #[.val (.ref ob), .val (.int mn), .val (.int cap), .val (.int mn), .val (.int df), .val (.int nc)] [(.int (nc >>> ((0 : Int32) &&& 31)))])) _
    rw [(own_shr0 nc)]
    show Steps p.tables e below (T6.setTop (mkF m 58 #[.val (.ref ob), .val (.int mn), .val (.int cap), .val (.int mn), .val (.int df), .val (.int nc)] [(.int nc)])) _
    exact retI X6 hx Bd.returns (hb hby d24_58) hr
  · show (QR (.int nc) h0 n0) _ T6.heap _
    rw [e6]
    exact ⟨rfl, N5, rfl⟩
theorem d27_0 : decode jdk_65_method_121_code 0 = .ok (.iload_n 1, 1) := by decide +kernel
theorem d27_1 : decode jdk_65_method_121_code 1 = .ok (.aload_n 0, 1) := by decide +kernel
theorem d27_2 : decode jdk_65_method_121_code 2 = .ok (.arraylength, 1) := by decide +kernel
theorem d27_3 : decode jdk_65_method_121_code 3 = .ok (.if_icmp .ne 11, 3) := by decide +kernel
theorem d27_14 : decode jdk_65_method_121_code 14 = .ok (.iload_n 1, 1) := by decide +kernel
theorem d27_15 : decode jdk_65_method_121_code 15 = .ok (.newarray .byte, 2) := by decide +kernel
theorem d27_17 : decode jdk_65_method_121_code 17 = .ok (.astore_n 2, 1) := by decide +kernel
theorem d27_18 : decode jdk_65_method_121_code 18 = .ok (.aload_n 0, 1) := by decide +kernel
theorem d27_19 : decode jdk_65_method_121_code 19 = .ok (.iconst 0, 1) := by decide +kernel
theorem d27_20 : decode jdk_65_method_121_code 20 = .ok (.aload_n 2, 1) := by decide +kernel
theorem d27_21 : decode jdk_65_method_121_code 21 = .ok (.iconst 0, 1) := by decide +kernel
theorem d27_22 : decode jdk_65_method_121_code 22 = .ok (.aload_n 0, 1) := by decide +kernel
theorem d27_23 : decode jdk_65_method_121_code 23 = .ok (.arraylength, 1) := by decide +kernel
theorem d27_24 : decode jdk_65_method_121_code 24 = .ok (.iload_n 1, 1) := by decide +kernel
theorem d27_25 : decode jdk_65_method_121_code 25 = .ok (.invokestatic 304, 3) := by decide +kernel
theorem d27_28 : decode jdk_65_method_121_code 28 = .ok (.invokestatic 150, 3) := by decide +kernel
theorem d27_31 : decode jdk_65_method_121_code 31 = .ok (.aload_n 2, 1) := by decide +kernel
theorem d27_32 : decode jdk_65_method_121_code 32 = .ok (.areturn, 1) := by decide +kernel
theorem pn_27 : plainName "java/util/Arrays" = true := by first | (simp [plainName, overriddenIn]; done) | decide +kernel
theorem ef_27 (m : MethodId) (x0 : Addr) (x1 : Int32) : entryFrame m #[(.ref x0), (.int x1)] 3 = mkF m 0 #[.val (.ref x0), .val (.int x1), .unset] [] := by first | (simp [entryFrame, mkF, argsToLocals, Value.category]; done) | rfl
set_option maxRecDepth 65536 in
set_option maxHeartbeats 40000000 in
theorem aCopyOf (l : Launch) (Z : State) (a0 : Array Value) (hw : ∀ d ∈ tables_1, d.before a0 Z = true) (va : Addr) (kA : ClassId) (cap : Int32) (vs : List Value) (nc : Int32) (vt : List Value) (h0 : Heap) (n0 : Nat) (Z0 : n0 ≤ h0.size) (A : Arv Z h0 va kA .byte cap vs (.int (0 : Int32))) (hn0 : ¬ nc < 0) (hn70 : nc.toNatClampNeg ≤ 70) (hc0 : ¬ cap < 0) (hle : (0 : Int32).toNatClampNeg + cap.toNatClampNeg ≤ nc.toNatClampNeg) (hmin : ¬ (nc < cap)) (hcp : own_cp vs (.int (0 : Int32)) (0 : Int32) (List.replicate nc.toNatClampNeg (.int (0 : Int32))) (0 : Int32) cap = vt) (hc3 : ¬ (nc = cap)) :
    MQ l Z (⟨"java/util/Arrays", "copyOf", "([BI)[B"⟩ : MethodName) jdk_65_method_121_code 3 (some (.array .byte)) ({ frames := 1, cells := 1, slots := 70, locals := 18 } : Room) #[(.ref va), (.int nc)] h0 (QA Z nc vt h0 n0) := by
  intro ws
  refine MetFree.of_bodySF (plainFor_of_name pn_27) hisR ?_
  intro p e s m args below meth c s₁ Bd hml0 hP hK
  obtain ⟨rfl, hZ, hh⟩ := hP
  have hx := Bd.exec
  have hby := Bd.bytes
  have hml : c.maxLocals = 3 := hml0
  have hown : s.vm.findClass "java/util/Arrays" = some m.cls := findClass_of_methodNamed Bd.named
  have hnm := (name_of_methodNamed Bd.named Bd.method).1
  have X0 : Stand p l e ({ frames := 1, cells := 1, slots := 70, locals := 18 } : Room) s m #[(.ref va), (.int nc)] below meth c s₁ [] 0 0 := Stand.of_body Bd
  have e0 : s₁.heap = h0 := by rw [← hh, Bd.state]; rfl
  have N0 := Fr.nil n0
  have pre0 : ∀ t_, Steps p.tables e below (s₁.setTop (mkF m 0 #[.val (.ref va), .val (.int nc), .unset] [])) t_ → Steps p.tables e below (s₁.setTop (entryFrame m #[(.ref va), (.int nc)] 3)) t_ := fun t_ k_ => castTop (ef_27 m va nc) k_
  obtain ⟨clv1, Arv1, qv1, Sv1, Ng1, Hv1, Gv1⟩ := id A
  obtain ⟨T2, h2, k2, X2, e2, E2, A2, st2⟩ := newP X0 hx hZ (aty := .byte) (hw _ (M 48)) e0 (g := (mkF m 15 #[.val (.ref va), .val (.int nc), .unset] [(.int nc)])) rfl (hb hby d27_15) rfl hn0 (cap := 70) hn70 (by decide) (by decide) (by decide)
  obtain ⟨b2, g2⟩ : ∃ z, z = h0.size := ⟨_, rfl⟩
  rw [← g2] at A2 st2
  have sz_b2 : h0.size ≤ b2 := Nat.le_trans (Keep.refl h0 []).1 (Nat.le_of_eq g2.symm)
  have g_b2 : n0 ≤ b2 := Nat.le_trans Z0 sz_b2
  have ne_va_b2 : va ≠ b2 := Nat.ne_of_lt (Nat.lt_of_lt_of_le A.lt (Nat.le_of_eq g2.symm))
  have K2 : Keep h0 h2 [] := (Keep.refl h0 []).ext E2
  have V2 : Arv Z h2 b2 k2 .byte nc (List.replicate nc.toNatClampNeg (.int (0 : Int32))) (.int (0 : Int32)) := (Arv.new A2 hn0).pad (pad_rep [] (.int (0 : Int32)) nc.toNatClampNeg)
  obtain ⟨clv3, Arv3, qv3, Sv3, Ng3, Hv3, Gv3⟩ := id (A.ext E2)
  obtain ⟨_, _, ⟨T4, L4, k4, n4⟩, -, X4, ⟨Lc4, hQ4, l4, y4, z4⟩, st4⟩ := Jvm.LawKit.callS X2 hx (y := (⟨"java/lang/Math", "min", "(II)I"⟩ : MethodName)) hown (mvT hZ (hw _ (M 172))) (mvT hZ (hw _ (M 173))) (mvT hZ (hw _ (M 164))) (mvT hZ (hw _ (M 174))) (by decide) (backOf (W := 4) ((mMin l Z a0 hw cap nc h2 n0 (Nat.le_trans Z0 K2.1) hmin) []) hZ (hw _ (M 174)) (hw _ (M 164)) (by decide) (by decide)) (g := (mkF m 25 #[.val (.ref va), .val (.int nc), .val (.ref b2)] [(.int nc), (.int cap), (.int (0 : Int32)), (.ref b2), (.int (0 : Int32)), (.ref va)])) rfl (by rw [hml]; rfl) (argsL := [(.int cap), (.int nc)]) (rest := [(.int (0 : Int32)), (.ref b2), (.int (0 : Int32)), (.ref va)]) (lenOf pd_oIIcI rfl) rfl (by show 2 * 0 + _ ≤ _; exact Nat.le_of_eq rfl) (hb hby d27_25) (fun _ _ => ⟨rfl, e2, (by decide : 1 + 0 ≤ _), (by decide : 70 + 0 ≤ _)⟩)
  dsimp only [Pt.U, Pt.locs, Pt.cells, Pt.slots] at X4 l4 y4 z4 st4 hQ4
  subst l4 y4 z4
  obtain ⟨rfl, N4q, e4⟩ := hQ4
  have N4 := Fr.app N0 N4q
  obtain ⟨T5, h5, L5, X5, e5, N5, Kq5, V5, st5⟩ := cpA X4 hx hZ hown (hw _ (M 175)) (hw _ (M 126)) (hw _ (M 124)) (hw _ (M 125)) e4 (A.ext E2) V2 (Or.inl ⟨rfl, rfl⟩) (by decide) (by decide) hc0 (by show (0 : Int32).toNatClampNeg + _ ≤ _; simp) hle rfl (by rw [List.length_replicate]; exact hle) N4 g_b2 (g := (mkF m 28 #[.val (.ref va), .val (.int nc), .val (.ref b2)] [(.int cap), (.int (0 : Int32)), (.ref b2), (.int (0 : Int32)), (.ref va)])) rfl (by rw [hml]; rfl) rfl (hb hby d27_28) (by decide) (W := 0) (by show 2 * 0 + _ ≤ _; exact Nat.le_of_eq rfl) (by decide)
  replace V5 : Arv Z h5 b2 k2 .byte nc (own_cp vs (.int (0 : Int32)) (0 : Int32) (List.replicate nc.toNatClampNeg (.int (0 : Int32))) (0 : Int32) cap) (.int (0 : Int32)) := V5
  rw [hcp] at V5
  have K5 : Keep h0 h5 [] := K2.trans Kq5 (allS (Or.inr sz_b2) all0)
  obtain ⟨fs, hr, hrun, hended, hW, hsame⟩ := X5.leave (v := some (.ref b2)) (fun h => by rw [Bd.returns] at h; cases h)
  refine ⟨_, _, pre0 _ ?_, hrun, hended, _, _, rfl, ?_, ⟨_, rfl⟩, hW, hsame.mono (by decide) (by decide)⟩
  · show Steps p.tables e below (s₁.setTop (mkF m 0 #[.val (.ref va), .val (.int nc), .unset] [])) _
    refine XS.iloadN X0.here hx rfl (hb hby d27_0) rfl ?_
    refine XS.aloadN X0.here hx rfl (hb hby d27_1) rfl rfl ?_
    refine X0.arraylength hx (by rw [e0]; exact Arv1.1) (State.isArrayOf_alike hZ.alike Arv1.2.1) (g := (mkF m 2 #[.val (.ref va), .val (.int nc), .unset] [(.ref va), (.int nc)])) rfl rfl (hb hby d27_2) _ ?_
    rw [len_of Sv1 Ng1]
    show Steps p.tables e below (s₁.setTop (mkF m 3 #[.val (.ref va), .val (.int nc), .unset] [(.int cap), (.int nc)])) _
    refine XS.icmpYes X0.here hx rfl (pc0 := 3) (pc' := 14) rfl (hb hby d27_3) rfl (feq hc3).2 (by decide) (by decide) ?_
    show Steps p.tables e below (s₁.setTop (mkF m 14 #[.val (.ref va), .val (.int nc), .unset] [])) _
    refine XS.iloadN X0.here hx rfl (hb hby d27_14) rfl ?_
    refine st2 _ ?_
    show Steps p.tables e below (T2.setTop (mkF m 17 #[.val (.ref va), .val (.int nc), .unset] [(.ref b2)])) _
    refine XS.astoreN X2.here hx rfl (hb hby d27_17) rfl rfl (l' := #[.val (.ref va), .val (.int nc), .val (.ref b2)]) rfl ?_
    show Steps p.tables e below (T2.setTop (mkF m 18 #[.val (.ref va), .val (.int nc), .val (.ref b2)] [])) _
    refine XS.aloadN X2.here hx rfl (hb hby d27_18) rfl rfl ?_
    refine XS.iconst X2.here hx rfl (hb hby d27_19) ?_
    refine XS.aloadN X2.here hx rfl (hb hby d27_20) rfl rfl ?_
    refine XS.iconst X2.here hx rfl (hb hby d27_21) ?_
    show Steps p.tables e below (T2.setTop (mkF m 22 #[.val (.ref va), .val (.int nc), .val (.ref b2)] [(.int (0 : Int32)), (.ref b2), (.int (0 : Int32)), (.ref va)])) _
    refine XS.aloadN X2.here hx rfl (hb hby d27_22) rfl rfl ?_
    refine X2.arraylength hx (by rw [e2]; exact Arv3.1) (State.isArrayOf_alike hZ.alike Arv3.2.1) (g := (mkF m 23 #[.val (.ref va), .val (.int nc), .val (.ref b2)] [(.ref va), (.int (0 : Int32)), (.ref b2), (.int (0 : Int32)), (.ref va)])) rfl rfl (hb hby d27_23) _ ?_
    rw [len_of Sv3 Ng3]
    show Steps p.tables e below (T2.setTop (mkF m 24 #[.val (.ref va), .val (.int nc), .val (.ref b2)] [(.int cap), (.int (0 : Int32)), (.ref b2), (.int (0 : Int32)), (.ref va)])) _
    refine XS.iloadN X2.here hx rfl (hb hby d27_24) rfl ?_
    refine st4 _ ?_
    show Steps p.tables e below (T4.setTop (mkF m 28 #[.val (.ref va), .val (.int nc), .val (.ref b2)] [(.int cap), (.int (0 : Int32)), (.ref b2), (.int (0 : Int32)), (.ref va)])) _
    refine st5 _ ?_
    show Steps p.tables e below (T5.setTop (mkF m 31 #[.val (.ref va), .val (.int nc), .val (.ref b2)] [])) _
    refine XS.aloadN X5.here hx rfl (hb hby d27_31) rfl rfl ?_
    jvm_step X5.here [X5.here.top, hx, (hb hby d27_32), X5.method', Bd.returns, Value.isRef, FieldType.isReference]
    first | (intro acts; rw [hr _ acts rfl rfl rfl]) | rw [hr _ _ rfl rfl rfl]
    exact Steps.refl _
  · show (QA Z nc vt h0 n0) _ T5.heap _
    rw [e5]
    exact ⟨_, _, rfl, N5, K5, sz_b2, V5⟩
theorem d15_0 : decode jdk_68_method_9_code 0 = .ok (.aload_n 0, 1) := by decide +kernel
theorem d15_1 : decode jdk_68_method_9_code 1 = .ok (.getfield 15, 3) := by decide +kernel
theorem d15_4 : decode jdk_68_method_9_code 4 = .ok (.arraylength, 1) := by decide +kernel
theorem d15_5 : decode jdk_68_method_9_code 5 = .ok (.aload_n 0, 1) := by decide +kernel
theorem d15_6 : decode jdk_68_method_9_code 6 = .ok (.getfield 22, 3) := by decide +kernel
theorem d15_9 : decode jdk_68_method_9_code 9 = .ok (.ishr, 1) := by decide +kernel
theorem d15_10 : decode jdk_68_method_9_code 10 = .ok (.istore_n 2, 1) := by decide +kernel
theorem d15_11 : decode jdk_68_method_9_code 11 = .ok (.iload_n 1, 1) := by decide +kernel
theorem d15_12 : decode jdk_68_method_9_code 12 = .ok (.iload_n 2, 1) := by decide +kernel
theorem d15_13 : decode jdk_68_method_9_code 13 = .ok (.isub, 1) := by decide +kernel
theorem d15_14 : decode jdk_68_method_9_code 14 = .ok (.ifCond .le 24, 3) := by decide +kernel
theorem d15_38 : decode jdk_68_method_9_code 38 = .ok (.return_, 1) := by decide +kernel
theorem pn_15 : plainName "java/lang/AbstractStringBuilder" = true := by first | (simp [plainName, overriddenIn]; done) | decide +kernel
theorem ef_15 (m : MethodId) (x0 : Addr) (x1 : Int32) : entryFrame m #[(.ref x0), (.int x1)] 3 = mkF m 0 #[.val (.ref x0), .val (.int x1), .unset] [] := by first | (simp [entryFrame, mkF, argsToLocals, Value.category]; done) | rfl
set_option maxRecDepth 65536 in
set_option maxHeartbeats 40000000 in
theorem bEnsure (l : Launch) (Z : State) (a0 : Array Value) (hw : ∀ d ∈ tables_1, d.before a0 Z = true) (ob va : Addr) (kA : ClassId) (cap cnt : Int32) (vs : List Value) (mn df : Int32) (h0 : Heap) (n0 : Nat) (Z0 : n0 ≤ h0.size) (B : BdS Z h0 ob va kA cap cnt vs) (hdf : (mn - cap) = df) (hc14 : ¬ ((0 : Int32) < df)) :
    MQ l Z (⟨"java/lang/AbstractStringBuilder", "ensureCapacityInternal", "(I)V"⟩ : MethodName) jdk_68_method_9_code 3 none ({ frames := 0, cells := 0, slots := 0, locals := 0 } : Room) #[(.ref ob), (.int mn)] h0 (QN h0 n0) := by
  intro ws
  refine MetFree.of_bodySF (plainFor_of_name pn_15) hisR ?_
  intro p e s m args below meth c s₁ Bd hml0 hP hK
  obtain ⟨rfl, hZ, hh⟩ := hP
  have hx := Bd.exec
  have hby := Bd.bytes
  have hml : c.maxLocals = 3 := hml0
  have hown : s.vm.findClass "java/lang/AbstractStringBuilder" = some m.cls := findClass_of_methodNamed Bd.named
  have hnm := (name_of_methodNamed Bd.named Bd.method).1
  have X0 : Stand p l e ({ frames := 0, cells := 0, slots := 0, locals := 0 } : Room) s m #[(.ref ob), (.int mn)] below meth c s₁ [] 0 0 := Stand.of_body Bd
  have e0 : s₁.heap = h0 := by rw [← hh, Bd.state]; rfl
  have N0 := Fr.nil n0
  have pre0 : ∀ t_, Steps p.tables e below (s₁.setTop (mkF m 0 #[.val (.ref ob), .val (.int mn), .unset] [])) t_ → Steps p.tables e below (s₁.setTop (entryFrame m #[(.ref ob), (.int mn)] 3)) t_ := fun t_ k_ => castTop (ef_15 m ob mn) k_
  obtain ⟨T1, X1, e1, st1⟩ := getF X0 hx hZ hown (host := "") (Or.inl (hw _ (M 72))) Via.refl e0 B.2.1 (g := (mkF m 1 #[.val (.ref ob), .val (.int mn), .unset] [(.ref ob)])) rfl rfl (hb hby d15_1)
  obtain ⟨clv2, Arv2, qv2, Sv2, Ng2, Hv2, Gv2⟩ := id B.2.2.2.2
  obtain ⟨T3, X3, e3, st3⟩ := getF X1 hx hZ hown (host := "") (Or.inl (hw _ (M 74))) Via.refl e1 B.2.2.1 (g := (mkF m 6 #[.val (.ref ob), .val (.int mn), .unset] [(.ref ob), (.int cap)])) rfl rfl (hb hby d15_6)
  obtain ⟨fs, hr, hrun, hended, hW, hsame⟩ := X3.leave (v := none) (fun _ => rfl)
  refine ⟨_, _, pre0 _ ?_, hrun, hended, _, _, rfl, ?_, ⟨_, rfl⟩, hW, hsame.mono (by decide) (by decide)⟩
  · show Steps p.tables e below (s₁.setTop (mkF m 0 #[.val (.ref ob), .val (.int mn), .unset] [])) _
    refine XS.aloadN X0.here hx rfl (hb hby d15_0) rfl rfl ?_
    refine st1 _ ?_
    show Steps p.tables e below (T1.setTop (mkF m 4 #[.val (.ref ob), .val (.int mn), .unset] [(.ref va)])) _
    refine X1.arraylength hx (by rw [e1]; exact Arv2.1) (State.isArrayOf_alike hZ.alike Arv2.2.1) (g := (mkF m 4 #[.val (.ref ob), .val (.int mn), .unset] [(.ref va)])) rfl rfl (hb hby d15_4) _ ?_
    rw [len_of Sv2 Ng2]
    show Steps p.tables e below (T1.setTop (mkF m 5 #[.val (.ref ob), .val (.int mn), .unset] [(.int cap)])) _
    refine XS.aloadN X1.here hx rfl (hb hby d15_5) rfl rfl ?_
    refine st3 _ ?_
    show Steps p.tables e below (T3.setTop (mkF m 9 #[.val (.ref ob), .val (.int mn), .unset] [(.int (0 : Int32)), (.int cap)])) _
    refine XS.ishr X3.here hx rfl (hb hby d15_9) rfl ?_
    show Steps p.tables e below (T3.setTop (mkF m 10 #[.val (.ref ob), .val (.int mn), .unset] [(.int (cap >>> ((0 : Int32) &&& 31)))])) _
    rw [(own_shr0 cap)]
    show Steps p.tables e below (T3.setTop (mkF m 10 #[.val (.ref ob), .val (.int mn), .unset] [(.int cap)])) _
    refine XS.istoreN X3.here hx rfl (hb hby d15_10) rfl (l' := #[.val (.ref ob), .val (.int mn), .val (.int cap)]) rfl ?_
    show Steps p.tables e below (T3.setTop (mkF m 11 #[.val (.ref ob), .val (.int mn), .val (.int cap)] [])) _
    refine XS.iloadN X3.here hx rfl (hb hby d15_11) rfl ?_
    refine XS.iloadN X3.here hx rfl (hb hby d15_12) rfl ?_
    refine XS.isub X3.here hx rfl (hb hby d15_13) rfl ?_
    show Steps p.tables e below (T3.setTop (mkF m 14 #[.val (.ref ob), .val (.int mn), .val (.int cap)] [(.int (mn - cap))])) _
    rw [hdf]
    show Steps p.tables e below (T3.setTop (mkF m 14 #[.val (.ref ob), .val (.int mn), .val (.int cap)] [(.int df)])) _
    refine XS.ifYes X3.here hx rfl (pc0 := 14) (pc' := 38) rfl (hb hby d15_14) rfl ((if0 _ _).trans (flt hc14).2.2.2) (by decide) (by decide) ?_
    show Steps p.tables e below (T3.setTop (mkF m 38 #[.val (.ref ob), .val (.int mn), .val (.int cap)] [])) _
    exact X3.returnOut hx Bd.returns (hb hby d15_38) hr
  · show (QN h0 n0) _ T3.heap _
    rw [e3]
    exact ⟨rfl, N0, rfl⟩
theorem d15_17 : decode jdk_68_method_9_code 17 = .ok (.aload_n 0, 1) := by decide +kernel
theorem d15_18 : decode jdk_68_method_9_code 18 = .ok (.aload_n 0, 1) := by decide +kernel
theorem d15_19 : decode jdk_68_method_9_code 19 = .ok (.getfield 15, 3) := by decide +kernel
theorem d15_22 : decode jdk_68_method_9_code 22 = .ok (.aload_n 0, 1) := by decide +kernel
theorem d15_23 : decode jdk_68_method_9_code 23 = .ok (.iload_n 1, 1) := by decide +kernel
theorem pd_oIcI : parseMethodDescriptor "(I)I" = some ⟨[.int], some .int⟩ := by decide +kernel
theorem d15_24 : decode jdk_68_method_9_code 24 = .ok (.invokevirtual 104, 3) := by decide +kernel
theorem d15_27 : decode jdk_68_method_9_code 27 = .ok (.aload_n 0, 1) := by decide +kernel
theorem d15_28 : decode jdk_68_method_9_code 28 = .ok (.getfield 22, 3) := by decide +kernel
theorem d15_31 : decode jdk_68_method_9_code 31 = .ok (.ishl, 1) := by decide +kernel
theorem pd_oABIcAB : parseMethodDescriptor "([BI)[B" = some ⟨[(.array .byte), .int], some (.array .byte)⟩ := by decide +kernel
theorem d15_32 : decode jdk_68_method_9_code 32 = .ok (.invokestatic 108, 3) := by decide +kernel
theorem d15_35 : decode jdk_68_method_9_code 35 = .ok (.putfield 15, 3) := by decide +kernel
set_option maxRecDepth 65536 in
set_option maxHeartbeats 40000000 in
theorem bEnsureG (l : Launch) (Z : State) (a0 : Array Value) (hw : ∀ d ∈ tables_1, d.before a0 Z = true) (ob va : Addr) (kA : ClassId) (cap cnt : Int32) (vs : List Value) (mn df pf nc : Int32) (vu : List Value) (h0 : Heap) (n0 : Nat) (Z0 : n0 ≤ h0.size) (B : BdS Z h0 ob va kA cap cnt vs) (g_ob : n0 ≤ ob) (hdf : (mn - cap) = df) (hpf : (cap + (2 : Int32)) = pf) (hlt : df < pf) (hnc : (cap + pf) = nc) (hc10 : (0 : Int32) < nc) (hc16 : ¬ ((2147483639 : Int32) < nc)) (hc38 : ¬ (nc = (2147483647 : Int32))) (hn0 : ¬ nc < 0) (hn70 : nc.toNatClampNeg ≤ 70) (hc0 : ¬ cap < 0) (hle : (0 : Int32).toNatClampNeg + cap.toNatClampNeg ≤ nc.toNatClampNeg) (hmin : ¬ (nc < cap)) (hne : ¬ (nc = cap)) (hcp0 : own_cp vs (.int (0 : Int32)) (0 : Int32) (List.replicate nc.toNatClampNeg (.int (0 : Int32))) (0 : Int32) cap = vu) (hc14 : (0 : Int32) < df) :
    MQ l Z (⟨"java/lang/AbstractStringBuilder", "ensureCapacityInternal", "(I)V"⟩ : MethodName) jdk_68_method_9_code 3 none ({ frames := 3, cells := 1, slots := 70, locals := 48 } : Room) #[(.ref ob), (.int mn)] h0 (QE Z ob va nc cnt vu none h0 n0) := by
  intro ws
  refine MetFree.of_bodySF (plainFor_of_name pn_15) hisR ?_
  intro p e s m args below meth c s₁ Bd hml0 hP hK
  obtain ⟨rfl, hZ, hh⟩ := hP
  have hx := Bd.exec
  have hby := Bd.bytes
  have hml : c.maxLocals = 3 := hml0
  have hown : s.vm.findClass "java/lang/AbstractStringBuilder" = some m.cls := findClass_of_methodNamed Bd.named
  have hnm := (name_of_methodNamed Bd.named Bd.method).1
  have X0 : Stand p l e ({ frames := 3, cells := 1, slots := 70, locals := 48 } : Room) s m #[(.ref ob), (.int mn)] below meth c s₁ [] 0 0 := Stand.of_body Bd
  have e0 : s₁.heap = h0 := by rw [← hh, Bd.state]; rfl
  have N0 := Fr.nil n0
  have pre0 : ∀ t_, Steps p.tables e below (s₁.setTop (mkF m 0 #[.val (.ref ob), .val (.int mn), .unset] [])) t_ → Steps p.tables e below (s₁.setTop (entryFrame m #[(.ref ob), (.int mn)] 3)) t_ := fun t_ k_ => castTop (ef_15 m ob mn) k_
  obtain ⟨T1, X1, e1, st1⟩ := getF X0 hx hZ hown (host := "") (Or.inl (hw _ (M 72))) Via.refl e0 B.2.1 (g := (mkF m 1 #[.val (.ref ob), .val (.int mn), .unset] [(.ref ob)])) rfl rfl (hb hby d15_1)
  obtain ⟨clv2, Arv2, qv2, Sv2, Ng2, Hv2, Gv2⟩ := id B.2.2.2.2
  obtain ⟨T3, X3, e3, st3⟩ := getF X1 hx hZ hown (host := "") (Or.inl (hw _ (M 74))) Via.refl e1 B.2.2.1 (g := (mkF m 6 #[.val (.ref ob), .val (.int mn), .unset] [(.ref ob), (.int cap)])) rfl rfl (hb hby d15_6)
  obtain ⟨T4, X4, e4, st4⟩ := getF X3 hx hZ hown (host := "") (Or.inl (hw _ (M 72))) Via.refl e3 B.2.1 (g := (mkF m 19 #[.val (.ref ob), .val (.int mn), .val (.int cap)] [(.ref ob), (.ref ob)])) rfl rfl (hb hby d15_19)
  obtain ⟨cq5, kq5, q5a, q5b, q5c⟩ := isOf hZ e4 B.1
  obtain ⟨_, _, ⟨T5, L5, k5, n5⟩, -, X5, ⟨Lc5, hQ5, l5, y5, z5⟩, st5⟩ := X4.virtualBack hx (y := (⟨"java/lang/AbstractStringBuilder", "newCapacity", "(I)I"⟩ : MethodName)) (z := (⟨"java/lang/AbstractStringBuilder", "newCapacity", "(I)I"⟩ : MethodName)) hown (mvT hZ (hw _ (M 153))) (mvT hZ (own_declares (hw _ (M 154)) (hw _ (M 157)))) (notFace_of_selects (args := #[]) (mvT hZ (hw _ (M 156)))) (mvT hZ (hw _ (M 156))) (mvT hZ (hw _ (M 154))) (by decide) (backOf (W := 2) ((bNewCap l Z a0 hw ob va kA cap cnt vs mn df pf nc h0 n0 (Nat.le_trans Z0 (Keep.refl h0 [ob, va]).1) ⟨B.1, B.2.1, B.2.2.1, B.2.2.2.1, B.2.2.2.2⟩ hdf hpf hlt hnc hc10 hc16 hc38) []) hZ (hw _ (M 157)) (hw _ (M 68)) (by decide) (by decide)) q5a q5c (g := (mkF m 24 #[.val (.ref ob), .val (.int mn), .val (.int cap)] [(.int mn), (.ref ob), (.ref va), (.ref ob)])) rfl (by rw [hml]; rfl) (Steps.refl _) (argsL := [(.int mn)]) (rest := [(.ref va), (.ref ob)]) (lenOf pd_oIcI rfl) rfl (by show 2 * 0 + _ ≤ _; exact Nat.le_of_eq rfl) (hb hby d15_24) (fun _ _ => ⟨rfl, e4, (by decide : 0 + 0 ≤ _), (by decide : 0 + 0 ≤ _)⟩)
  dsimp only [Pt.U, Pt.locs, Pt.cells, Pt.slots] at X5 l5 y5 z5 st5 hQ5
  subst l5 y5 z5
  obtain ⟨rfl, N5q, e5⟩ := hQ5
  have N5 := Fr.app N0 N5q
  obtain ⟨T6, X6, e6, st6⟩ := getF X5 hx hZ hown (host := "") (Or.inl (hw _ (M 74))) Via.refl e5 B.2.2.1 (g := (mkF m 28 #[.val (.ref ob), .val (.int mn), .val (.int cap)] [(.ref ob), (.int nc), (.ref va), (.ref ob)])) rfl rfl (hb hby d15_28)
  obtain ⟨_, _, ⟨T7, L7, k7, n7⟩, -, X7, ⟨Lc7, hQ7, l7, y7, z7⟩, st7⟩ := Jvm.LawKit.callS X6 hx (y := (⟨"java/util/Arrays", "copyOf", "([BI)[B"⟩ : MethodName)) hown (mvT hZ (hw _ (M 168))) (mvT hZ (hw _ (M 169))) (mvT hZ (hw _ (M 170))) (mvT hZ (hw _ (M 171))) (by decide) (backOf (W := 1) ((aCopyOf l Z a0 hw va kA cap vs nc vu h0 n0 (Nat.le_trans Z0 (Keep.refl h0 [ob, va]).1) B.2.2.2.2 hn0 hn70 hc0 hle hmin hcp0 hne) []) hZ (hw _ (M 171)) (hw _ (M 170)) (by decide) (by decide)) (g := (mkF m 32 #[.val (.ref ob), .val (.int mn), .val (.int cap)] [(.int nc), (.ref va), (.ref ob)])) rfl (by rw [hml]; rfl) (argsL := [(.ref va), (.int nc)]) (rest := [(.ref ob)]) (lenOf pd_oABIcAB rfl) rfl (by show 2 * 0 + _ ≤ _; exact Nat.le_of_eq rfl) (hb hby d15_32) (fun _ _ => ⟨rfl, e6, (by decide : 0 + 1 ≤ _), (by decide : 0 + 70 ≤ _)⟩)
  dsimp only [Pt.U, Pt.locs, Pt.cells, Pt.slots] at X7 l7 y7 z7 st7 hQ7
  subst l7 y7 z7
  obtain ⟨bq7, kq7, rfl, N7q, Kq7, sz7q, Vq7⟩ := hQ7
  have sz_bq7 : h0.size ≤ bq7 := Nat.le_trans (Keep.refl h0 [ob, va]).1 sz7q
  have g_bq7 : n0 ≤ bq7 := Nat.le_trans Z0 sz_bq7
  have ne_ob_bq7 : ob ≠ bq7 := Nat.ne_of_lt (Nat.lt_of_lt_of_le B.1.lt sz7q)
  have ne_va_bq7 : va ≠ bq7 := Nat.ne_of_lt (Nat.lt_of_lt_of_le B.2.2.2.2.lt sz7q)
  have K7 : Keep h0 T7.heap [ob, va] := (Keep.refl h0 [ob, va]).trans Kq7 all0
  have N7 := Fr.app N5 N7q
  obtain ⟨T8, h8, X8, e8, W8, st8⟩ := putF X7 hx hZ hown (host := "") (Or.inl (hw _ (M 72))) Via.refl rfl (B.2.1.keep Kq7 nin0) (B.1.keep Kq7) (Or.inl (hw _ (M 73))) (hw _ (M 59)) (ty := (.array .byte)) (by decide) rfl rfl (g := (mkF m 35 #[.val (.ref ob), .val (.int mn), .val (.int cap)] [(.ref bq7), (.ref ob)])) rfl rfl (hb hby d15_35)
  have Fw8 := (B.2.1.keep Kq7 nin0).same W8
  have K8 : Keep h0 h8 [ob, va] := K7.wr W8 (Or.inl (List.mem_of_getElem? (i := 0) rfl))
  have N8 := Fr.snoc X8 N7 g_ob
  obtain ⟨fs, hr, hrun, hended, hW, hsame⟩ := X8.leave (v := none) (fun _ => rfl)
  refine ⟨_, _, pre0 _ ?_, hrun, hended, _, _, rfl, ?_, ⟨_, rfl⟩, hW, hsame.mono (by decide) (by decide)⟩
  · show Steps p.tables e below (s₁.setTop (mkF m 0 #[.val (.ref ob), .val (.int mn), .unset] [])) _
    refine XS.aloadN X0.here hx rfl (hb hby d15_0) rfl rfl ?_
    refine st1 _ ?_
    show Steps p.tables e below (T1.setTop (mkF m 4 #[.val (.ref ob), .val (.int mn), .unset] [(.ref va)])) _
    refine X1.arraylength hx (by rw [e1]; exact Arv2.1) (State.isArrayOf_alike hZ.alike Arv2.2.1) (g := (mkF m 4 #[.val (.ref ob), .val (.int mn), .unset] [(.ref va)])) rfl rfl (hb hby d15_4) _ ?_
    rw [len_of Sv2 Ng2]
    show Steps p.tables e below (T1.setTop (mkF m 5 #[.val (.ref ob), .val (.int mn), .unset] [(.int cap)])) _
    refine XS.aloadN X1.here hx rfl (hb hby d15_5) rfl rfl ?_
    refine st3 _ ?_
    show Steps p.tables e below (T3.setTop (mkF m 9 #[.val (.ref ob), .val (.int mn), .unset] [(.int (0 : Int32)), (.int cap)])) _
    refine XS.ishr X3.here hx rfl (hb hby d15_9) rfl ?_
    show Steps p.tables e below (T3.setTop (mkF m 10 #[.val (.ref ob), .val (.int mn), .unset] [(.int (cap >>> ((0 : Int32) &&& 31)))])) _
    rw [(own_shr0 cap)]
    show Steps p.tables e below (T3.setTop (mkF m 10 #[.val (.ref ob), .val (.int mn), .unset] [(.int cap)])) _
    refine XS.istoreN X3.here hx rfl (hb hby d15_10) rfl (l' := #[.val (.ref ob), .val (.int mn), .val (.int cap)]) rfl ?_
    show Steps p.tables e below (T3.setTop (mkF m 11 #[.val (.ref ob), .val (.int mn), .val (.int cap)] [])) _
    refine XS.iloadN X3.here hx rfl (hb hby d15_11) rfl ?_
    refine XS.iloadN X3.here hx rfl (hb hby d15_12) rfl ?_
    refine XS.isub X3.here hx rfl (hb hby d15_13) rfl ?_
    show Steps p.tables e below (T3.setTop (mkF m 14 #[.val (.ref ob), .val (.int mn), .val (.int cap)] [(.int (mn - cap))])) _
    rw [hdf]
    show Steps p.tables e below (T3.setTop (mkF m 14 #[.val (.ref ob), .val (.int mn), .val (.int cap)] [(.int df)])) _
    refine XS.ifNo X3.here hx rfl (hb hby d15_14) rfl ((if0 _ _).trans (tlt hc14).2.2.2) ?_
    show Steps p.tables e below (T3.setTop (mkF m 17 #[.val (.ref ob), .val (.int mn), .val (.int cap)] [])) _
    refine XS.aloadN X3.here hx rfl (hb hby d15_17) rfl rfl ?_
    refine XS.aloadN X3.here hx rfl (hb hby d15_18) rfl rfl ?_
    refine st4 _ ?_
    show Steps p.tables e below (T4.setTop (mkF m 22 #[.val (.ref ob), .val (.int mn), .val (.int cap)] [(.ref va), (.ref ob)])) _
    refine XS.aloadN X4.here hx rfl (hb hby d15_22) rfl rfl ?_
    refine XS.iloadN X4.here hx rfl (hb hby d15_23) rfl ?_
    refine st5.trans ?_
    show Steps p.tables e below (T5.setTop (mkF m 27 #[.val (.ref ob), .val (.int mn), .val (.int cap)] [(.int nc), (.ref va), (.ref ob)])) _
    refine XS.aloadN X5.here hx rfl (hb hby d15_27) rfl rfl ?_
    refine st6 _ ?_
    show Steps p.tables e below (T6.setTop (mkF m 31 #[.val (.ref ob), .val (.int mn), .val (.int cap)] [(.int (0 : Int32)), (.int nc), (.ref va), (.ref ob)])) _
    refine XS.ishl X6.here hx rfl (hb hby d15_31) rfl ?_
    show Steps p.tables e below (T6.setTop (mkF m 32 #[.val (.ref ob), .val (.int mn), .val (.int cap)] [(.int (nc <<< ((0 : Int32) &&& 31))), (.ref va), (.ref ob)])) _
    rw [(own_shl0 nc)]
    show Steps p.tables e below (T6.setTop (mkF m 32 #[.val (.ref ob), .val (.int mn), .val (.int cap)] [(.int nc), (.ref va), (.ref ob)])) _
    refine st7 _ ?_
    show Steps p.tables e below (T7.setTop (mkF m 35 #[.val (.ref ob), .val (.int mn), .val (.int cap)] [(.ref bq7), (.ref ob)])) _
    refine st8 _ ?_
    show Steps p.tables e below (T8.setTop (mkF m 38 #[.val (.ref ob), .val (.int mn), .val (.int cap)] [])) _
    exact X8.returnOut hx Bd.returns (hb hby d15_38) hr
  · show (QE Z ob va nc cnt vu none h0 n0) _ T8.heap _
    rw [e8]
    exact ⟨_, _, rfl, N8, K8, Or.inr sz_bq7, g_bq7, ⟨((B.1.keep Kq7).wr W8), Fw8, ((B.2.2.1.keep Kq7 nin0).other W8 (Or.inr (slot_ne (Or.inl (hw _ (M 75))) (Or.inl (hw _ (M 73))) (by decide) (t := .byte) (t' := (.array .byte)) (by decide) (by decide)))), ((B.2.2.2.1.keep Kq7 nin0).other W8 (Or.inr (slot_ne (Or.inl (hw _ (M 101))) (Or.inl (hw _ (M 73))) (by decide) (t := .int) (t' := (.array .byte)) (by decide) (by decide)))), (Vq7.other W8 (Ne.symm ne_ob_bq7))⟩⟩
theorem d12_0 : decode jdk_68_method_22_code 0 = .ok (.aload_n 1, 1) := by decide +kernel
theorem d12_1 : decode jdk_68_method_22_code 1 = .ok (.ifnonnull 8, 3) := by decide +kernel
theorem d12_9 : decode jdk_68_method_22_code 9 = .ok (.aload_n 1, 1) := by decide +kernel
theorem d12_10 : decode jdk_68_method_22_code 10 = .ok (.invokevirtual 32, 3) := by decide +kernel
theorem d12_13 : decode jdk_68_method_22_code 13 = .ok (.istore_n 2, 1) := by decide +kernel
theorem d12_14 : decode jdk_68_method_22_code 14 = .ok (.aload_n 0, 1) := by decide +kernel
theorem d12_15 : decode jdk_68_method_22_code 15 = .ok (.aload_n 0, 1) := by decide +kernel
theorem d12_16 : decode jdk_68_method_22_code 16 = .ok (.getfield 79, 3) := by decide +kernel
theorem d12_19 : decode jdk_68_method_22_code 19 = .ok (.iload_n 2, 1) := by decide +kernel
theorem d12_20 : decode jdk_68_method_22_code 20 = .ok (.iadd, 1) := by decide +kernel
theorem pd_oIcV : parseMethodDescriptor "(I)V" = some ⟨[.int], none⟩ := by decide +kernel
theorem d12_21 : decode jdk_68_method_22_code 21 = .ok (.invokevirtual 100, 3) := by decide +kernel
theorem d12_24 : decode jdk_68_method_22_code 24 = .ok (.aload_n 0, 1) := by decide +kernel
theorem d12_25 : decode jdk_68_method_22_code 25 = .ok (.aload_n 0, 1) := by decide +kernel
theorem d12_26 : decode jdk_68_method_22_code 26 = .ok (.getfield 79, 3) := by decide +kernel
theorem d12_29 : decode jdk_68_method_22_code 29 = .ok (.aload_n 1, 1) := by decide +kernel
theorem pd_oILjava_lang_String_cV : parseMethodDescriptor "(ILjava/lang/String;)V" = some ⟨[.int, (.object "java/lang/String")], none⟩ := by decide +kernel
theorem d12_30 : decode jdk_68_method_22_code 30 = .ok (.invokevirtual 208, 3) := by decide +kernel
theorem d12_33 : decode jdk_68_method_22_code 33 = .ok (.aload_n 0, 1) := by decide +kernel
theorem d12_34 : decode jdk_68_method_22_code 34 = .ok (.dup, 1) := by decide +kernel
theorem d12_35 : decode jdk_68_method_22_code 35 = .ok (.getfield 79, 3) := by decide +kernel
theorem d12_38 : decode jdk_68_method_22_code 38 = .ok (.iload_n 2, 1) := by decide +kernel
theorem d12_39 : decode jdk_68_method_22_code 39 = .ok (.iadd, 1) := by decide +kernel
theorem d12_40 : decode jdk_68_method_22_code 40 = .ok (.putfield 79, 3) := by decide +kernel
theorem d12_43 : decode jdk_68_method_22_code 43 = .ok (.aload_n 0, 1) := by decide +kernel
theorem d12_44 : decode jdk_68_method_22_code 44 = .ok (.areturn, 1) := by decide +kernel
theorem pn_12 : plainName "java/lang/AbstractStringBuilder" = true := by first | (simp [plainName, overriddenIn]; done) | decide +kernel
theorem ef_12 (m : MethodId) (x0 : Addr) (x1 : Addr) : entryFrame m #[(.ref x0), (.ref x1)] 3 = mkF m 0 #[.val (.ref x0), .val (.ref x1), .unset] [] := by first | (simp [entryFrame, mkF, argsToLocals, Value.category]; done) | rfl
set_option maxRecDepth 65536 in
set_option maxHeartbeats 40000000 in
theorem aAppN (l : Launch) (Z : State) (a0 : Array Value) (hw : ∀ d ∈ tables_1, d.before a0 Z = true) (ob va : Addr) (kA : ClassId) (cap cnt : Int32) (vs : List Value) (os sa : Addr) (kS : ClassId) (zs : Int32) (ss : List Value) (zc : Int32) (c2 df : Int32) (vt : List Value) (h0 : Heap) (n0 : Nat) (Z0 : n0 ≤ h0.size) (B : BdS Z h0 ob va kA cap cnt vs) (Ts : StS Z h0 os sa kS zs ss) (S_CS : Sta Z h0 "java/lang/String" "COMPACT_STRINGS" "Z" (.int zc)) (hz : ¬ (zc = (0 : Int32))) (g_ob : n0 ≤ ob) (g_va : n0 ≤ va) (nsv : sa ≠ va) (hsum : (cnt + zs) = c2) (hi0 : ¬ cnt < 0) (hs0 : ¬ zs < 0) (hdf : (c2 - cap) = df) (hroom : ¬ ((0 : Int32) < df)) (hfit : cnt.toNatClampNeg + zs.toNatClampNeg ≤ cap.toNatClampNeg) (hlen : cnt.toNatClampNeg + zs.toNatClampNeg ≤ vs.length) (hcp : own_cp ss (.int (0 : Int32)) (0 : Int32) vs cnt zs = vt) :
    MQ l Z (⟨"java/lang/AbstractStringBuilder", "append", "(Ljava/lang/String;)Ljava/lang/AbstractStringBuilder;"⟩ : MethodName) jdk_68_method_22_code 3 (some (.object "java/lang/AbstractStringBuilder")) ({ frames := 3, cells := 0, slots := 0, locals := 47 } : Room) #[(.ref ob), (.ref os)] h0 (QE Z ob va cap c2 vt (some (.ref ob)) h0 n0) := by
  intro ws
  refine MetFree.of_bodySF (plainFor_of_name pn_12) hisR ?_
  intro p e s m args below meth c s₁ Bd hml0 hP hK
  obtain ⟨rfl, hZ, hh⟩ := hP
  have hx := Bd.exec
  have hby := Bd.bytes
  have hml : c.maxLocals = 3 := hml0
  have hown : s.vm.findClass "java/lang/AbstractStringBuilder" = some m.cls := findClass_of_methodNamed Bd.named
  have hnm := (name_of_methodNamed Bd.named Bd.method).1
  have X0 : Stand p l e ({ frames := 3, cells := 0, slots := 0, locals := 47 } : Room) s m #[(.ref ob), (.ref os)] below meth c s₁ [] 0 0 := Stand.of_body Bd
  have e0 : s₁.heap = h0 := by rw [← hh, Bd.state]; rfl
  have N0 := Fr.nil n0
  have pre0 : ∀ t_, Steps p.tables e below (s₁.setTop (mkF m 0 #[.val (.ref ob), .val (.ref os), .unset] [])) t_ → Steps p.tables e below (s₁.setTop (entryFrame m #[(.ref ob), (.ref os)] 3)) t_ := fun t_ k_ => castTop (ef_12 m ob os) k_
  have ne_os_ob : os ≠ ob := Exa.ne Ts.1 B.1 (by decide)
  have ne_sa_ob : sa ≠ ob := Ne.symm (Exa.neArv B.1 Ts.2.2.2 (hw _ (M 59)))
  have ne_os_va : os ≠ va := Exa.neArv Ts.1 B.2.2.2.2 (hw _ (M 47))
  have ne_ob_va : ob ≠ va := Exa.neArv B.1 B.2.2.2.2 (hw _ (M 59))
  obtain ⟨cq1, kq1, q1a, q1b, q1c⟩ := isOf hZ e0 Ts.1
  obtain ⟨_, _, ⟨T1, L1, k1, n1⟩, -, X1, ⟨Lc1, hQ1, l1, y1, z1⟩, st1⟩ := X0.virtualBack hx (y := (⟨"java/lang/String", "length", "()I"⟩ : MethodName)) (z := (⟨"java/lang/String", "length", "()I"⟩ : MethodName)) hown (mvT hZ (hw _ (M 87))) (mvT hZ (hw _ (M 88))) (notFace_of_selects (args := #[]) (mvT hZ (hw _ (M 90)))) (mvT hZ (hw _ (M 90))) (mvT hZ (hw _ (M 89))) (by decide) (backOf (W := 0) ((sLength l Z a0 hw os sa kS zs ss zc h0 n0 (Nat.le_trans Z0 (Keep.refl h0 [ob, va]).1) ⟨Ts.1, Ts.2.1, Ts.2.2.1, Ts.2.2.2⟩ S_CS hz) []) hZ (hw _ (M 91)) (hw _ (M 46)) (by decide) (by decide)) q1a q1c (g := (mkF m 10 #[.val (.ref ob), .val (.ref os), .unset] [(.ref os)])) rfl (by rw [hml]; rfl) (Steps.refl _) (argsL := []) (rest := []) (lenOf pd_ocI rfl) rfl (by show 2 * 0 + _ ≤ _; exact Nat.le_of_eq rfl) (hb hby d12_10) (fun _ _ => ⟨rfl, e0, (by decide : 0 + 0 ≤ _), (by decide : 0 + 0 ≤ _)⟩)
  dsimp only [Pt.U, Pt.locs, Pt.cells, Pt.slots] at X1 l1 y1 z1 st1 hQ1
  subst l1 y1 z1
  obtain ⟨rfl, N1q, e1⟩ := hQ1
  have N1 := Fr.app N0 N1q
  obtain ⟨T2, X2, e2, st2⟩ := getF X1 hx hZ hown (host := "") (Or.inl (hw _ (M 100))) Via.refl e1 B.2.2.2.1 (g := (mkF m 16 #[.val (.ref ob), .val (.ref os), .val (.int zs)] [(.ref ob), (.ref ob)])) rfl rfl (hb hby d12_16)
  obtain ⟨cq3, kq3, q3a, q3b, q3c⟩ := isOf hZ e2 B.1
  obtain ⟨_, _, ⟨T3, L3, k3, n3⟩, -, X3, ⟨Lc3, hQ3, l3, y3, z3⟩, st3⟩ := X2.virtualBack hx (y := (⟨"java/lang/AbstractStringBuilder", "ensureCapacityInternal", "(I)V"⟩ : MethodName)) (z := (⟨"java/lang/AbstractStringBuilder", "ensureCapacityInternal", "(I)V"⟩ : MethodName)) hown (mvT hZ (hw _ (M 102))) (mvT hZ (own_declares (hw _ (M 103)) (hw _ (M 106)))) (notFace_of_selects (args := #[]) (mvT hZ (hw _ (M 105)))) (mvT hZ (hw _ (M 105))) (mvT hZ (hw _ (M 103))) (by decide) (backOf (W := 0) ((bEnsure l Z a0 hw ob va kA cap cnt vs c2 df h0 n0 (Nat.le_trans Z0 (Keep.refl h0 [ob, va]).1) ⟨B.1, B.2.1, B.2.2.1, B.2.2.2.1, B.2.2.2.2⟩ hdf hroom) []) hZ (hw _ (M 106)) (hw _ (M 68)) (by decide) (by decide)) q3a q3c (g := (mkF m 21 #[.val (.ref ob), .val (.ref os), .val (.int zs)] [(.int c2), (.ref ob)])) rfl (by rw [hml]; rfl) (Steps.refl _) (argsL := [(.int c2)]) (rest := []) (lenOf pd_oIcV rfl) rfl (by show 2 * 0 + _ ≤ _; exact Nat.le_of_eq rfl) (hb hby d12_21) (fun _ _ => ⟨rfl, e2, (by decide : 0 + 0 ≤ _), (by decide : 0 + 0 ≤ _)⟩)
  dsimp only [Pt.U, Pt.locs, Pt.cells, Pt.slots] at X3 l3 y3 z3 st3 hQ3
  subst l3 y3 z3
  obtain ⟨rfl, N3q, e3⟩ := hQ3
  have N3 := Fr.app N1 N3q
  obtain ⟨T4, X4, e4, st4⟩ := getF X3 hx hZ hown (host := "") (Or.inl (hw _ (M 100))) Via.refl e3 B.2.2.2.1 (g := (mkF m 26 #[.val (.ref ob), .val (.ref os), .val (.int zs)] [(.ref ob), (.ref ob)])) rfl rfl (hb hby d12_26)
  obtain ⟨cq5, kq5, q5a, q5b, q5c⟩ := isOf hZ e4 B.1
  obtain ⟨_, _, ⟨T5, L5, k5, n5⟩, -, X5, ⟨Lc5, hQ5, l5, y5, z5⟩, st5⟩ := X4.virtualBack hx (y := (⟨"java/lang/AbstractStringBuilder", "putStringAt", "(ILjava/lang/String;)V"⟩ : MethodName)) (z := (⟨"java/lang/AbstractStringBuilder", "putStringAt", "(ILjava/lang/String;)V"⟩ : MethodName)) hown (mvT hZ (hw _ (M 107))) (mvT hZ (own_declares (hw _ (M 108)) (hw _ (M 111)))) (notFace_of_selects (args := #[]) (mvT hZ (hw _ (M 110)))) (mvT hZ (hw _ (M 110))) (mvT hZ (hw _ (M 108))) (by decide) (backOf (W := 0) ((bPut l Z a0 hw ob va kA cap cnt vs os sa kS zs ss zc cnt vt h0 n0 (Nat.le_trans Z0 (Keep.refl h0 [ob, va]).1) ⟨B.1, B.2.1, B.2.2.1, B.2.2.2.1, B.2.2.2.2⟩ ⟨Ts.1, Ts.2.1, Ts.2.2.1, Ts.2.2.2⟩ S_CS hz g_va hi0 hs0 hfit hlen hcp) []) hZ (hw _ (M 111)) (hw _ (M 68)) (by decide) (by decide)) q5a q5c (g := (mkF m 30 #[.val (.ref ob), .val (.ref os), .val (.int zs)] [(.ref os), (.int cnt), (.ref ob)])) rfl (by rw [hml]; rfl) (Steps.refl _) (argsL := [(.int cnt), (.ref os)]) (rest := []) (lenOf pd_oILjava_lang_String_cV rfl) rfl (by show 2 * 0 + _ ≤ _; exact Nat.le_of_eq rfl) (hb hby d12_30) (fun _ _ => ⟨rfl, e4, (by decide : 0 + 0 ≤ _), (by decide : 0 + 0 ≤ _)⟩)
  dsimp only [Pt.U, Pt.locs, Pt.cells, Pt.slots] at X5 l5 y5 z5 st5 hQ5
  subst l5 y5 z5
  obtain ⟨rfl, N5q, Kq5, Vq5⟩ := hQ5
  have K5 : Keep h0 T5.heap [ob, va] := (Keep.refl h0 [ob, va]).trans Kq5 (allS (Or.inl (List.mem_of_getElem? (i := 1) rfl)) all0)
  have N5 := Fr.app N3 N5q
  obtain ⟨T6, X6, e6, st6⟩ := getF X5 hx hZ hown (host := "") (Or.inl (hw _ (M 100))) Via.refl rfl (B.2.2.2.1.keep Kq5 (ninS ne_ob_va nin0)) (g := (mkF m 35 #[.val (.ref ob), .val (.ref os), .val (.int zs)] [(.ref ob), (.ref ob)])) rfl rfl (hb hby d12_35)
  obtain ⟨T7, h7, X7, e7, W7, st7⟩ := putF X6 hx hZ hown (host := "") (Or.inl (hw _ (M 100))) Via.refl e6 (B.2.2.2.1.keep Kq5 (ninS ne_ob_va nin0)) (B.1.keep Kq5) (Or.inl (hw _ (M 101))) (hw _ (M 59)) (ty := .int) (by decide) rfl rfl (g := (mkF m 40 #[.val (.ref ob), .val (.ref os), .val (.int zs)] [(.int c2), (.ref ob)])) rfl rfl (hb hby d12_40)
  have Fw7 := (B.2.2.2.1.keep Kq5 (ninS ne_ob_va nin0)).same W7
  have K7 : Keep h0 h7 [ob, va] := K5.wr W7 (Or.inl (List.mem_of_getElem? (i := 0) rfl))
  have N7 := Fr.snoc X7 N5 g_ob
  obtain ⟨fs, hr, hrun, hended, hW, hsame⟩ := X7.leave (v := some (.ref ob)) (fun h => by rw [Bd.returns] at h; cases h)
  refine ⟨_, _, pre0 _ ?_, hrun, hended, _, _, rfl, ?_, ⟨_, rfl⟩, hW, hsame.mono (by decide) (by decide)⟩
  · show Steps p.tables e below (s₁.setTop (mkF m 0 #[.val (.ref ob), .val (.ref os), .unset] [])) _
    refine XS.aloadN X0.here hx rfl (hb hby d12_0) rfl rfl ?_
    refine XS.ifnonnullYes X0.here hx rfl (pc0 := 1) (pc' := 9) rfl (hb hby d12_1) rfl (by decide) (by decide) ?_
    show Steps p.tables e below (s₁.setTop (mkF m 9 #[.val (.ref ob), .val (.ref os), .unset] [])) _
    refine XS.aloadN X0.here hx rfl (hb hby d12_9) rfl rfl ?_
    refine st1.trans ?_
    show Steps p.tables e below (T1.setTop (mkF m 13 #[.val (.ref ob), .val (.ref os), .unset] [(.int zs)])) _
    refine XS.istoreN X1.here hx rfl (hb hby d12_13) rfl (l' := #[.val (.ref ob), .val (.ref os), .val (.int zs)]) rfl ?_
    show Steps p.tables e below (T1.setTop (mkF m 14 #[.val (.ref ob), .val (.ref os), .val (.int zs)] [])) _
    refine XS.aloadN X1.here hx rfl (hb hby d12_14) rfl rfl ?_
    refine XS.aloadN X1.here hx rfl (hb hby d12_15) rfl rfl ?_
    refine st2 _ ?_
    show Steps p.tables e below (T2.setTop (mkF m 19 #[.val (.ref ob), .val (.ref os), .val (.int zs)] [(.int cnt), (.ref ob)])) _
    refine XS.iloadN X2.here hx rfl (hb hby d12_19) rfl ?_
    refine XS.iadd X2.here hx rfl (hb hby d12_20) rfl ?_
    show Steps p.tables e below (T2.setTop (mkF m 21 #[.val (.ref ob), .val (.ref os), .val (.int zs)] [(.int (cnt + zs)), (.ref ob)])) _
    rw [hsum]
    show Steps p.tables e below (T2.setTop (mkF m 21 #[.val (.ref ob), .val (.ref os), .val (.int zs)] [(.int c2), (.ref ob)])) _
    refine st3.trans ?_
    show Steps p.tables e below (T3.setTop (mkF m 24 #[.val (.ref ob), .val (.ref os), .val (.int zs)] [])) _
    refine XS.aloadN X3.here hx rfl (hb hby d12_24) rfl rfl ?_
    refine XS.aloadN X3.here hx rfl (hb hby d12_25) rfl rfl ?_
    refine st4 _ ?_
    show Steps p.tables e below (T4.setTop (mkF m 29 #[.val (.ref ob), .val (.ref os), .val (.int zs)] [(.int cnt), (.ref ob)])) _
    refine XS.aloadN X4.here hx rfl (hb hby d12_29) rfl rfl ?_
    refine st5.trans ?_
    show Steps p.tables e below (T5.setTop (mkF m 33 #[.val (.ref ob), .val (.ref os), .val (.int zs)] [])) _
    refine XS.aloadN X5.here hx rfl (hb hby d12_33) rfl rfl ?_
    refine XS.dup X5.here hx rfl (hb hby d12_34) rfl rfl ?_
    refine st6 _ ?_
    show Steps p.tables e below (T6.setTop (mkF m 38 #[.val (.ref ob), .val (.ref os), .val (.int zs)] [(.int cnt), (.ref ob)])) _
    refine XS.iloadN X6.here hx rfl (hb hby d12_38) rfl ?_
    refine XS.iadd X6.here hx rfl (hb hby d12_39) rfl ?_
    show Steps p.tables e below (T6.setTop (mkF m 40 #[.val (.ref ob), .val (.ref os), .val (.int zs)] [(.int (cnt + zs)), (.ref ob)])) _
    rw [hsum]
    show Steps p.tables e below (T6.setTop (mkF m 40 #[.val (.ref ob), .val (.ref os), .val (.int zs)] [(.int c2), (.ref ob)])) _
    refine st7 _ ?_
    show Steps p.tables e below (T7.setTop (mkF m 43 #[.val (.ref ob), .val (.ref os), .val (.int zs)] [])) _
    refine XS.aloadN X7.here hx rfl (hb hby d12_43) rfl rfl ?_
    jvm_step X7.here [X7.here.top, hx, (hb hby d12_44), X7.method', Bd.returns, Value.isRef, FieldType.isReference]
    first | (intro acts; rw [hr _ acts rfl rfl rfl]) | rw [hr _ _ rfl rfl rfl]
    exact Steps.refl _
  · show (QE Z ob va cap c2 vt (some (.ref ob)) h0 n0) _ T7.heap _
    rw [e7]
    exact ⟨_, _, rfl, N7, K7, Or.inl rfl, g_va, ⟨((B.1.keep Kq5).wr W7), ((B.2.1.keep Kq5 (ninS ne_ob_va nin0)).other W7 (Or.inr (slot_ne (Or.inl (hw _ (M 73))) (Or.inl (hw _ (M 101))) (by decide) (t := (.array .byte)) (t' := .int) (by decide) (by decide)))), ((B.2.2.1.keep Kq5 (ninS ne_ob_va nin0)).other W7 (Or.inr (slot_ne (Or.inl (hw _ (M 75))) (Or.inl (hw _ (M 101))) (by decide) (t := .byte) (t' := .int) (by decide) (by decide)))), Fw7, (Vq5.other W7 (Ne.symm ne_ob_va))⟩⟩
theorem d11_0 : decode jdk_67_method_7_code 0 = .ok (.aload_n 0, 1) := by decide +kernel
theorem d11_1 : decode jdk_67_method_7_code 1 = .ok (.aload_n 1, 1) := by decide +kernel
theorem pd_oLjava_lang_String_cLjava_lang_AbstractStringBuilder_ : parseMethodDescriptor "(Ljava/lang/String;)Ljava/lang/AbstractStringBuilder;" = some ⟨[(.object "java/lang/String")], some (.object "java/lang/AbstractStringBuilder")⟩ := by decide +kernel
theorem d11_2 : decode jdk_67_method_7_code 2 = .ok (.invokespecial 29, 3) := by decide +kernel
theorem d11_5 : decode jdk_67_method_7_code 5 = .ok (.pop, 1) := by decide +kernel
theorem d11_6 : decode jdk_67_method_7_code 6 = .ok (.aload_n 0, 1) := by decide +kernel
theorem d11_7 : decode jdk_67_method_7_code 7 = .ok (.areturn, 1) := by decide +kernel
theorem pn_11 : plainName "java/lang/StringBuilder" = true := by first | (simp [plainName, overriddenIn]; done) | decide +kernel
theorem ef_11 (m : MethodId) (x0 : Addr) (x1 : Addr) : entryFrame m #[(.ref x0), (.ref x1)] 2 = mkF m 0 #[.val (.ref x0), .val (.ref x1)] [] := by first | (simp [entryFrame, mkF, argsToLocals, Value.category]; done) | rfl
set_option maxRecDepth 65536 in
set_option maxHeartbeats 40000000 in
theorem bAppN (l : Launch) (Z : State) (a0 : Array Value) (hw : ∀ d ∈ tables_1, d.before a0 Z = true) (ob va : Addr) (kA : ClassId) (cap cnt : Int32) (vs : List Value) (os sa : Addr) (kS : ClassId) (zs : Int32) (ss : List Value) (zc : Int32) (c2 df : Int32) (vt : List Value) (h0 : Heap) (n0 : Nat) (Z0 : n0 ≤ h0.size) (B : BdS Z h0 ob va kA cap cnt vs) (Ts : StS Z h0 os sa kS zs ss) (S_CS : Sta Z h0 "java/lang/String" "COMPACT_STRINGS" "Z" (.int zc)) (hz : ¬ (zc = (0 : Int32))) (g_ob : n0 ≤ ob) (g_va : n0 ≤ va) (nsv : sa ≠ va) (hsum : (cnt + zs) = c2) (hi0 : ¬ cnt < 0) (hs0 : ¬ zs < 0) (hdf : (c2 - cap) = df) (hroom : ¬ ((0 : Int32) < df)) (hfit : cnt.toNatClampNeg + zs.toNatClampNeg ≤ cap.toNatClampNeg) (hlen : cnt.toNatClampNeg + zs.toNatClampNeg ≤ vs.length) (hcp : own_cp ss (.int (0 : Int32)) (0 : Int32) vs cnt zs = vt) :
    MQ l Z (⟨"java/lang/StringBuilder", "append", "(Ljava/lang/String;)Ljava/lang/StringBuilder;"⟩ : MethodName) jdk_67_method_7_code 2 (some (.object "java/lang/StringBuilder")) ({ frames := 4, cells := 0, slots := 0, locals := 61 } : Room) #[(.ref ob), (.ref os)] h0 (QE Z ob va cap c2 vt (some (.ref ob)) h0 n0) := by
  intro ws
  refine MetFree.of_bodySF (plainFor_of_name pn_11) hisR ?_
  intro p e s m args below meth c s₁ Bd hml0 hP hK
  obtain ⟨rfl, hZ, hh⟩ := hP
  have hx := Bd.exec
  have hby := Bd.bytes
  have hml : c.maxLocals = 2 := hml0
  have hown : s.vm.findClass "java/lang/StringBuilder" = some m.cls := findClass_of_methodNamed Bd.named
  have hnm := (name_of_methodNamed Bd.named Bd.method).1
  have X0 : Stand p l e ({ frames := 4, cells := 0, slots := 0, locals := 61 } : Room) s m #[(.ref ob), (.ref os)] below meth c s₁ [] 0 0 := Stand.of_body Bd
  have e0 : s₁.heap = h0 := by rw [← hh, Bd.state]; rfl
  have N0 := Fr.nil n0
  have pre0 : ∀ t_, Steps p.tables e below (s₁.setTop (mkF m 0 #[.val (.ref ob), .val (.ref os)] [])) t_ → Steps p.tables e below (s₁.setTop (entryFrame m #[(.ref ob), (.ref os)] 2)) t_ := fun t_ k_ => castTop (ef_11 m ob os) k_
  obtain ⟨_, _, ⟨T1, L1, k1, n1⟩, -, X1, ⟨Lc1, hQ1, l1, y1, z1⟩, st1⟩ := superBack X0 hx hZ (y := (⟨"java/lang/AbstractStringBuilder", "append", "(Ljava/lang/String;)Ljava/lang/AbstractStringBuilder;"⟩ : MethodName)) hown (hw _ (M 82)) (own_same (y := (⟨"java/lang/AbstractStringBuilder", "append", "(Ljava/lang/String;)Ljava/lang/AbstractStringBuilder;"⟩ : MethodName)) (y' := (⟨"java/lang/AbstractStringBuilder", "ensureCapacityInternal", "(I)V"⟩ : MethodName)) rfl (by decide) (hw _ (M 85)) (hw _ (M 105))) (hw _ (M 83)) (hw _ (M 84)) (by decide) (backOf (W := 0) ((aAppN l Z a0 hw ob va kA cap cnt vs os sa kS zs ss zc c2 df vt h0 n0 Z0 B Ts S_CS hz g_ob g_va nsv hsum hi0 hs0 hdf hroom hfit hlen hcp) []) hZ (hw _ (M 86)) (hw _ (M 68)) (by decide) (by decide)) e0 (Ins.self B.1) (g := (mkF m 2 #[.val (.ref ob), .val (.ref os)] [(.ref os), (.ref ob)])) rfl (by rw [hml]; rfl) (hw _ (M 86)) (argsL := [(.ref os)]) (rest := []) (lenOf pd_oLjava_lang_String_cLjava_lang_AbstractStringBuilder_ rfl) rfl (by show 2 * 0 + _ ≤ _; exact Nat.le_of_eq rfl) (hb hby d11_2) (fun _ _ => ⟨rfl, e0, (by decide : 0 + 0 ≤ _), (by decide : 0 + 0 ≤ _)⟩)
  dsimp only [Pt.U, Pt.locs, Pt.cells, Pt.slots] at X1 l1 y1 z1 st1 hQ1
  subst l1 y1 z1
  obtain ⟨vb1, kb1, rfl, N1q, Kq1, or1, gg1, Bq1⟩ := hQ1
  have N1 := Fr.app N0 N1q
  obtain ⟨fs, hr, hrun, hended, hW, hsame⟩ := X1.leave (v := some (.ref ob)) (fun h => by rw [Bd.returns] at h; cases h)
  refine ⟨_, _, pre0 _ ?_, hrun, hended, _, _, rfl, ?_, ⟨_, rfl⟩, hW, hsame.mono (by decide) (by decide)⟩
  · show Steps p.tables e below (s₁.setTop (mkF m 0 #[.val (.ref ob), .val (.ref os)] [])) _
    refine XS.aloadN X0.here hx rfl (hb hby d11_0) rfl rfl ?_
    refine XS.aloadN X0.here hx rfl (hb hby d11_1) rfl rfl ?_
    refine st1.trans ?_
    show Steps p.tables e below (T1.setTop (mkF m 5 #[.val (.ref ob), .val (.ref os)] [(.ref ob)])) _
    refine XS.pop X1.here hx rfl (hb hby d11_5) rfl rfl ?_
    show Steps p.tables e below (T1.setTop (mkF m 6 #[.val (.ref ob), .val (.ref os)] [])) _
    refine XS.aloadN X1.here hx rfl (hb hby d11_6) rfl rfl ?_
    jvm_step X1.here [X1.here.top, hx, (hb hby d11_7), X1.method', Bd.returns, Value.isRef, FieldType.isReference]
    first | (intro acts; rw [hr _ acts rfl rfl rfl]) | rw [hr _ _ rfl rfl rfl]
    exact Steps.refl _
  · show (QE Z ob va cap c2 vt (some (.ref ob)) h0 n0) _ T1.heap _
    exact ⟨_, _, rfl, N1, Kq1, or1, gg1, Bq1⟩
set_option maxRecDepth 65536 in
set_option maxHeartbeats 40000000 in
theorem aAppG (l : Launch) (Z : State) (a0 : Array Value) (hw : ∀ d ∈ tables_1, d.before a0 Z = true) (ob va : Addr) (kA : ClassId) (cap cnt : Int32) (vs : List Value) (os sa : Addr) (kS : ClassId) (zs : Int32) (ss : List Value) (zc : Int32) (c2 df pf nc : Int32) (vu vt : List Value) (h0 : Heap) (n0 : Nat) (Z0 : n0 ≤ h0.size) (B : BdS Z h0 ob va kA cap cnt vs) (Ts : StS Z h0 os sa kS zs ss) (S_CS : Sta Z h0 "java/lang/String" "COMPACT_STRINGS" "Z" (.int zc)) (hz : ¬ (zc = (0 : Int32))) (g_ob : n0 ≤ ob) (g_va : n0 ≤ va) (nsv : sa ≠ va) (hsum : (cnt + zs) = c2) (hi0 : ¬ cnt < 0) (hs0 : ¬ zs < 0) (hgr : (0 : Int32) < df) (hdf : (c2 - cap) = df) (hpf : (cap + (2 : Int32)) = pf) (hlt : df < pf) (hnc : (cap + pf) = nc) (hc10 : (0 : Int32) < nc) (hc16 : ¬ ((2147483639 : Int32) < nc)) (hc38 : ¬ (nc = (2147483647 : Int32))) (hn0 : ¬ nc < 0) (hn70 : nc.toNatClampNeg ≤ 70) (hc0 : ¬ cap < 0) (hle : (0 : Int32).toNatClampNeg + cap.toNatClampNeg ≤ nc.toNatClampNeg) (hmin : ¬ (nc < cap)) (hne : ¬ (nc = cap)) (hcp0 : own_cp vs (.int (0 : Int32)) (0 : Int32) (List.replicate nc.toNatClampNeg (.int (0 : Int32))) (0 : Int32) cap = vu) (hfit : cnt.toNatClampNeg + zs.toNatClampNeg ≤ nc.toNatClampNeg) (hlen : cnt.toNatClampNeg + zs.toNatClampNeg ≤ vu.length) (hcp : own_cp ss (.int (0 : Int32)) (0 : Int32) vu cnt zs = vt) :
    MQ l Z (⟨"java/lang/AbstractStringBuilder", "append", "(Ljava/lang/String;)Ljava/lang/AbstractStringBuilder;"⟩ : MethodName) jdk_68_method_22_code 3 (some (.object "java/lang/AbstractStringBuilder")) ({ frames := 4, cells := 1, slots := 70, locals := 62 } : Room) #[(.ref ob), (.ref os)] h0 (QE Z ob va nc c2 vt (some (.ref ob)) h0 n0) := by
  intro ws
  refine MetFree.of_bodySF (plainFor_of_name pn_12) hisR ?_
  intro p e s m args below meth c s₁ Bd hml0 hP hK
  obtain ⟨rfl, hZ, hh⟩ := hP
  have hx := Bd.exec
  have hby := Bd.bytes
  have hml : c.maxLocals = 3 := hml0
  have hown : s.vm.findClass "java/lang/AbstractStringBuilder" = some m.cls := findClass_of_methodNamed Bd.named
  have hnm := (name_of_methodNamed Bd.named Bd.method).1
  have X0 : Stand p l e ({ frames := 4, cells := 1, slots := 70, locals := 62 } : Room) s m #[(.ref ob), (.ref os)] below meth c s₁ [] 0 0 := Stand.of_body Bd
  have e0 : s₁.heap = h0 := by rw [← hh, Bd.state]; rfl
  have N0 := Fr.nil n0
  have pre0 : ∀ t_, Steps p.tables e below (s₁.setTop (mkF m 0 #[.val (.ref ob), .val (.ref os), .unset] [])) t_ → Steps p.tables e below (s₁.setTop (entryFrame m #[(.ref ob), (.ref os)] 3)) t_ := fun t_ k_ => castTop (ef_12 m ob os) k_
  have ne_os_ob : os ≠ ob := Exa.ne Ts.1 B.1 (by decide)
  have ne_sa_ob : sa ≠ ob := Ne.symm (Exa.neArv B.1 Ts.2.2.2 (hw _ (M 59)))
  have ne_os_va : os ≠ va := Exa.neArv Ts.1 B.2.2.2.2 (hw _ (M 47))
  have ne_ob_va : ob ≠ va := Exa.neArv B.1 B.2.2.2.2 (hw _ (M 59))
  obtain ⟨cq1, kq1, q1a, q1b, q1c⟩ := isOf hZ e0 Ts.1
  obtain ⟨_, _, ⟨T1, L1, k1, n1⟩, -, X1, ⟨Lc1, hQ1, l1, y1, z1⟩, st1⟩ := X0.virtualBack hx (y := (⟨"java/lang/String", "length", "()I"⟩ : MethodName)) (z := (⟨"java/lang/String", "length", "()I"⟩ : MethodName)) hown (mvT hZ (hw _ (M 87))) (mvT hZ (hw _ (M 88))) (notFace_of_selects (args := #[]) (mvT hZ (hw _ (M 90)))) (mvT hZ (hw _ (M 90))) (mvT hZ (hw _ (M 89))) (by decide) (backOf (W := 0) ((sLength l Z a0 hw os sa kS zs ss zc h0 n0 (Nat.le_trans Z0 (Keep.refl h0 [ob, va]).1) ⟨Ts.1, Ts.2.1, Ts.2.2.1, Ts.2.2.2⟩ S_CS hz) []) hZ (hw _ (M 91)) (hw _ (M 46)) (by decide) (by decide)) q1a q1c (g := (mkF m 10 #[.val (.ref ob), .val (.ref os), .unset] [(.ref os)])) rfl (by rw [hml]; rfl) (Steps.refl _) (argsL := []) (rest := []) (lenOf pd_ocI rfl) rfl (by show 2 * 0 + _ ≤ _; exact Nat.le_of_eq rfl) (hb hby d12_10) (fun _ _ => ⟨rfl, e0, (by decide : 0 + 0 ≤ _), (by decide : 0 + 0 ≤ _)⟩)
  dsimp only [Pt.U, Pt.locs, Pt.cells, Pt.slots] at X1 l1 y1 z1 st1 hQ1
  subst l1 y1 z1
  obtain ⟨rfl, N1q, e1⟩ := hQ1
  have N1 := Fr.app N0 N1q
  obtain ⟨T2, X2, e2, st2⟩ := getF X1 hx hZ hown (host := "") (Or.inl (hw _ (M 100))) Via.refl e1 B.2.2.2.1 (g := (mkF m 16 #[.val (.ref ob), .val (.ref os), .val (.int zs)] [(.ref ob), (.ref ob)])) rfl rfl (hb hby d12_16)
  obtain ⟨cq3, kq3, q3a, q3b, q3c⟩ := isOf hZ e2 B.1
  obtain ⟨_, _, ⟨T3, L3, k3, n3⟩, -, X3, ⟨Lc3, hQ3, l3, y3, z3⟩, st3⟩ := X2.virtualBack hx (y := (⟨"java/lang/AbstractStringBuilder", "ensureCapacityInternal", "(I)V"⟩ : MethodName)) (z := (⟨"java/lang/AbstractStringBuilder", "ensureCapacityInternal", "(I)V"⟩ : MethodName)) hown (mvT hZ (hw _ (M 102))) (mvT hZ (own_declares (hw _ (M 103)) (hw _ (M 106)))) (notFace_of_selects (args := #[]) (mvT hZ (hw _ (M 105)))) (mvT hZ (hw _ (M 105))) (mvT hZ (hw _ (M 103))) (by decide) (backOf (W := 0) ((bEnsureG l Z a0 hw ob va kA cap cnt vs c2 df pf nc vu h0 n0 (Nat.le_trans Z0 (Keep.refl h0 [ob, va]).1) ⟨B.1, B.2.1, B.2.2.1, B.2.2.2.1, B.2.2.2.2⟩ g_ob hdf hpf hlt hnc hc10 hc16 hc38 hn0 hn70 hc0 hle hmin hne hcp0 hgr) []) hZ (hw _ (M 106)) (hw _ (M 68)) (by decide) (by decide)) q3a q3c (g := (mkF m 21 #[.val (.ref ob), .val (.ref os), .val (.int zs)] [(.int c2), (.ref ob)])) rfl (by rw [hml]; rfl) (Steps.refl _) (argsL := [(.int c2)]) (rest := []) (lenOf pd_oIcV rfl) rfl (by show 2 * 0 + _ ≤ _; exact Nat.le_of_eq rfl) (hb hby d12_21) (fun _ _ => ⟨rfl, e2, (by decide : 0 + 1 ≤ _), (by decide : 0 + 70 ≤ _)⟩)
  dsimp only [Pt.U, Pt.locs, Pt.cells, Pt.slots] at X3 l3 y3 z3 st3 hQ3
  subst l3 y3 z3
  obtain ⟨vb3, kb3, rfl, N3q, Kq3, or3, gg3, Bq3⟩ := hQ3
  have K3 : Keep h0 T3.heap [ob, va] := (Keep.refl h0 [ob, va]).trans Kq3 (allS (Or.inl (List.mem_of_getElem? (i := 0) rfl)) (allS (Or.inl (List.mem_of_getElem? (i := 1) rfl)) all0))
  have ne_ob_vb3 : ob ≠ vb3 := Exa.neArv Bq3.1 Bq3.2.2.2.2 (hw _ (M 59))
  have g_vb3 : n0 ≤ vb3 := gg3
  have N3 := Fr.app N1 N3q
  obtain ⟨T4, X4, e4, st4⟩ := getF X3 hx hZ hown (host := "") (Or.inl (hw _ (M 100))) Via.refl rfl Bq3.2.2.2.1 (g := (mkF m 26 #[.val (.ref ob), .val (.ref os), .val (.int zs)] [(.ref ob), (.ref ob)])) rfl rfl (hb hby d12_26)
  obtain ⟨cq5, kq5, q5a, q5b, q5c⟩ := isOf hZ e4 Bq3.1
  obtain ⟨_, _, ⟨T5, L5, k5, n5⟩, -, X5, ⟨Lc5, hQ5, l5, y5, z5⟩, st5⟩ := X4.virtualBack hx (y := (⟨"java/lang/AbstractStringBuilder", "putStringAt", "(ILjava/lang/String;)V"⟩ : MethodName)) (z := (⟨"java/lang/AbstractStringBuilder", "putStringAt", "(ILjava/lang/String;)V"⟩ : MethodName)) hown (mvT hZ (hw _ (M 107))) (mvT hZ (own_declares (hw _ (M 108)) (hw _ (M 111)))) (notFace_of_selects (args := #[]) (mvT hZ (hw _ (M 110)))) (mvT hZ (hw _ (M 110))) (mvT hZ (hw _ (M 108))) (by decide) (backOf (W := 0) ((bPut l Z a0 hw ob vb3 kb3 nc cnt vu os sa kS zs ss zc cnt vt T3.heap n0 (Nat.le_trans Z0 K3.1) ⟨Bq3.1, Bq3.2.1, Bq3.2.2.1, Bq3.2.2.2.1, Bq3.2.2.2.2⟩ ⟨(Ts.1.keep Kq3), (Ts.2.1.keep Kq3 (ninS ne_os_ob (ninS ne_os_va nin0))), (Ts.2.2.1.keep Kq3 (ninS ne_os_ob (ninS ne_os_va nin0))), (Ts.2.2.2.keep Kq3 (ninS ne_sa_ob (ninS nsv nin0)))⟩ (own_sta_keepN S_CS Kq3 (nsS (B.1.nostat) (nsS (B.2.2.2.2.nostat) ns0))) hz g_vb3 hi0 hs0 hfit hlen hcp) []) hZ (hw _ (M 111)) (hw _ (M 68)) (by decide) (by decide)) q5a q5c (g := (mkF m 30 #[.val (.ref ob), .val (.ref os), .val (.int zs)] [(.ref os), (.int cnt), (.ref ob)])) rfl (by rw [hml]; rfl) (Steps.refl _) (argsL := [(.int cnt), (.ref os)]) (rest := []) (lenOf pd_oILjava_lang_String_cV rfl) rfl (by show 2 * 0 + _ ≤ _; exact Nat.le_of_eq rfl) (hb hby d12_30) (fun _ _ => ⟨rfl, e4, (by decide : 1 + 0 ≤ _), (by decide : 70 + 0 ≤ _)⟩)
  dsimp only [Pt.U, Pt.locs, Pt.cells, Pt.slots] at X5 l5 y5 z5 st5 hQ5
  subst l5 y5 z5
  obtain ⟨rfl, N5q, Kq5, Vq5⟩ := hQ5
  have K5 : Keep h0 T5.heap [ob, va] := K3.trans Kq5 (allS (or3.elim (fun q => Or.inl (by rw [q]; exact List.mem_of_getElem? (i := 1) rfl)) Or.inr) all0)
  have N5 := Fr.app N3 N5q
  obtain ⟨T6, X6, e6, st6⟩ := getF X5 hx hZ hown (host := "") (Or.inl (hw _ (M 100))) Via.refl rfl (Bq3.2.2.2.1.keep Kq5 (ninS ne_ob_vb3 nin0)) (g := (mkF m 35 #[.val (.ref ob), .val (.ref os), .val (.int zs)] [(.ref ob), (.ref ob)])) rfl rfl (hb hby d12_35)
  obtain ⟨T7, h7, X7, e7, W7, st7⟩ := putF X6 hx hZ hown (host := "") (Or.inl (hw _ (M 100))) Via.refl e6 (Bq3.2.2.2.1.keep Kq5 (ninS ne_ob_vb3 nin0)) (Bq3.1.keep Kq5) (Or.inl (hw _ (M 101))) (hw _ (M 59)) (ty := .int) (by decide) rfl rfl (g := (mkF m 40 #[.val (.ref ob), .val (.ref os), .val (.int zs)] [(.int c2), (.ref ob)])) rfl rfl (hb hby d12_40)
  have Fw7 := (Bq3.2.2.2.1.keep Kq5 (ninS ne_ob_vb3 nin0)).same W7
  have K7 : Keep h0 h7 [ob, va] := K5.wr W7 (Or.inl (List.mem_of_getElem? (i := 0) rfl))
  have N7 := Fr.snoc X7 N5 g_ob
  obtain ⟨fs, hr, hrun, hended, hW, hsame⟩ := X7.leave (v := some (.ref ob)) (fun h => by rw [Bd.returns] at h; cases h)
  refine ⟨_, _, pre0 _ ?_, hrun, hended, _, _, rfl, ?_, ⟨_, rfl⟩, hW, hsame.mono (by decide) (by decide)⟩
  · show Steps p.tables e below (s₁.setTop (mkF m 0 #[.val (.ref ob), .val (.ref os), .unset] [])) _
    refine XS.aloadN X0.here hx rfl (hb hby d12_0) rfl rfl ?_
    refine XS.ifnonnullYes X0.here hx rfl (pc0 := 1) (pc' := 9) rfl (hb hby d12_1) rfl (by decide) (by decide) ?_
    show Steps p.tables e below (s₁.setTop (mkF m 9 #[.val (.ref ob), .val (.ref os), .unset] [])) _
    refine XS.aloadN X0.here hx rfl (hb hby d12_9) rfl rfl ?_
    refine st1.trans ?_
    show Steps p.tables e below (T1.setTop (mkF m 13 #[.val (.ref ob), .val (.ref os), .unset] [(.int zs)])) _
    refine XS.istoreN X1.here hx rfl (hb hby d12_13) rfl (l' := #[.val (.ref ob), .val (.ref os), .val (.int zs)]) rfl ?_
    show Steps p.tables e below (T1.setTop (mkF m 14 #[.val (.ref ob), .val (.ref os), .val (.int zs)] [])) _
    refine XS.aloadN X1.here hx rfl (hb hby d12_14) rfl rfl ?_
    refine XS.aloadN X1.here hx rfl (hb hby d12_15) rfl rfl ?_
    refine st2 _ ?_
    show Steps p.tables e below (T2.setTop (mkF m 19 #[.val (.ref ob), .val (.ref os), .val (.int zs)] [(.int cnt), (.ref ob)])) _
    refine XS.iloadN X2.here hx rfl (hb hby d12_19) rfl ?_
    refine XS.iadd X2.here hx rfl (hb hby d12_20) rfl ?_
    show Steps p.tables e below (T2.setTop (mkF m 21 #[.val (.ref ob), .val (.ref os), .val (.int zs)] [(.int (cnt + zs)), (.ref ob)])) _
    rw [hsum]
    show Steps p.tables e below (T2.setTop (mkF m 21 #[.val (.ref ob), .val (.ref os), .val (.int zs)] [(.int c2), (.ref ob)])) _
    refine st3.trans ?_
    show Steps p.tables e below (T3.setTop (mkF m 24 #[.val (.ref ob), .val (.ref os), .val (.int zs)] [])) _
    refine XS.aloadN X3.here hx rfl (hb hby d12_24) rfl rfl ?_
    refine XS.aloadN X3.here hx rfl (hb hby d12_25) rfl rfl ?_
    refine st4 _ ?_
    show Steps p.tables e below (T4.setTop (mkF m 29 #[.val (.ref ob), .val (.ref os), .val (.int zs)] [(.int cnt), (.ref ob)])) _
    refine XS.aloadN X4.here hx rfl (hb hby d12_29) rfl rfl ?_
    refine st5.trans ?_
    show Steps p.tables e below (T5.setTop (mkF m 33 #[.val (.ref ob), .val (.ref os), .val (.int zs)] [])) _
    refine XS.aloadN X5.here hx rfl (hb hby d12_33) rfl rfl ?_
    refine XS.dup X5.here hx rfl (hb hby d12_34) rfl rfl ?_
    refine st6 _ ?_
    show Steps p.tables e below (T6.setTop (mkF m 38 #[.val (.ref ob), .val (.ref os), .val (.int zs)] [(.int cnt), (.ref ob)])) _
    refine XS.iloadN X6.here hx rfl (hb hby d12_38) rfl ?_
    refine XS.iadd X6.here hx rfl (hb hby d12_39) rfl ?_
    show Steps p.tables e below (T6.setTop (mkF m 40 #[.val (.ref ob), .val (.ref os), .val (.int zs)] [(.int (cnt + zs)), (.ref ob)])) _
    rw [hsum]
    show Steps p.tables e below (T6.setTop (mkF m 40 #[.val (.ref ob), .val (.ref os), .val (.int zs)] [(.int c2), (.ref ob)])) _
    refine st7 _ ?_
    show Steps p.tables e below (T7.setTop (mkF m 43 #[.val (.ref ob), .val (.ref os), .val (.int zs)] [])) _
    refine XS.aloadN X7.here hx rfl (hb hby d12_43) rfl rfl ?_
    jvm_step X7.here [X7.here.top, hx, (hb hby d12_44), X7.method', Bd.returns, Value.isRef, FieldType.isReference]
    first | (intro acts; rw [hr _ acts rfl rfl rfl]) | rw [hr _ _ rfl rfl rfl]
    exact Steps.refl _
  · show (QE Z ob va nc c2 vt (some (.ref ob)) h0 n0) _ T7.heap _
    rw [e7]
    exact ⟨_, _, rfl, N7, K7, or3, g_vb3, ⟨((Bq3.1.keep Kq5).wr W7), ((Bq3.2.1.keep Kq5 (ninS ne_ob_vb3 nin0)).other W7 (Or.inr (slot_ne (Or.inl (hw _ (M 73))) (Or.inl (hw _ (M 101))) (by decide) (t := (.array .byte)) (t' := .int) (by decide) (by decide)))), ((Bq3.2.2.1.keep Kq5 (ninS ne_ob_vb3 nin0)).other W7 (Or.inr (slot_ne (Or.inl (hw _ (M 75))) (Or.inl (hw _ (M 101))) (by decide) (t := .byte) (t' := .int) (by decide) (by decide)))), Fw7, (Vq5.other W7 (Ne.symm ne_ob_vb3))⟩⟩
set_option maxRecDepth 65536 in
set_option maxHeartbeats 40000000 in
theorem bAppG (l : Launch) (Z : State) (a0 : Array Value) (hw : ∀ d ∈ tables_1, d.before a0 Z = true) (ob va : Addr) (kA : ClassId) (cap cnt : Int32) (vs : List Value) (os sa : Addr) (kS : ClassId) (zs : Int32) (ss : List Value) (zc : Int32) (c2 df pf nc : Int32) (vu vt : List Value) (h0 : Heap) (n0 : Nat) (Z0 : n0 ≤ h0.size) (B : BdS Z h0 ob va kA cap cnt vs) (Ts : StS Z h0 os sa kS zs ss) (S_CS : Sta Z h0 "java/lang/String" "COMPACT_STRINGS" "Z" (.int zc)) (hz : ¬ (zc = (0 : Int32))) (g_ob : n0 ≤ ob) (g_va : n0 ≤ va) (nsv : sa ≠ va) (hsum : (cnt + zs) = c2) (hi0 : ¬ cnt < 0) (hs0 : ¬ zs < 0) (hgr : (0 : Int32) < df) (hdf : (c2 - cap) = df) (hpf : (cap + (2 : Int32)) = pf) (hlt : df < pf) (hnc : (cap + pf) = nc) (hc10 : (0 : Int32) < nc) (hc16 : ¬ ((2147483639 : Int32) < nc)) (hc38 : ¬ (nc = (2147483647 : Int32))) (hn0 : ¬ nc < 0) (hn70 : nc.toNatClampNeg ≤ 70) (hc0 : ¬ cap < 0) (hle : (0 : Int32).toNatClampNeg + cap.toNatClampNeg ≤ nc.toNatClampNeg) (hmin : ¬ (nc < cap)) (hne : ¬ (nc = cap)) (hcp0 : own_cp vs (.int (0 : Int32)) (0 : Int32) (List.replicate nc.toNatClampNeg (.int (0 : Int32))) (0 : Int32) cap = vu) (hfit : cnt.toNatClampNeg + zs.toNatClampNeg ≤ nc.toNatClampNeg) (hlen : cnt.toNatClampNeg + zs.toNatClampNeg ≤ vu.length) (hcp : own_cp ss (.int (0 : Int32)) (0 : Int32) vu cnt zs = vt) :
    MQ l Z (⟨"java/lang/StringBuilder", "append", "(Ljava/lang/String;)Ljava/lang/StringBuilder;"⟩ : MethodName) jdk_67_method_7_code 2 (some (.object "java/lang/StringBuilder")) ({ frames := 5, cells := 1, slots := 70, locals := 76 } : Room) #[(.ref ob), (.ref os)] h0 (QE Z ob va nc c2 vt (some (.ref ob)) h0 n0) := by
  intro ws
  refine MetFree.of_bodySF (plainFor_of_name pn_11) hisR ?_
  intro p e s m args below meth c s₁ Bd hml0 hP hK
  obtain ⟨rfl, hZ, hh⟩ := hP
  have hx := Bd.exec
  have hby := Bd.bytes
  have hml : c.maxLocals = 2 := hml0
  have hown : s.vm.findClass "java/lang/StringBuilder" = some m.cls := findClass_of_methodNamed Bd.named
  have hnm := (name_of_methodNamed Bd.named Bd.method).1
  have X0 : Stand p l e ({ frames := 5, cells := 1, slots := 70, locals := 76 } : Room) s m #[(.ref ob), (.ref os)] below meth c s₁ [] 0 0 := Stand.of_body Bd
  have e0 : s₁.heap = h0 := by rw [← hh, Bd.state]; rfl
  have N0 := Fr.nil n0
  have pre0 : ∀ t_, Steps p.tables e below (s₁.setTop (mkF m 0 #[.val (.ref ob), .val (.ref os)] [])) t_ → Steps p.tables e below (s₁.setTop (entryFrame m #[(.ref ob), (.ref os)] 2)) t_ := fun t_ k_ => castTop (ef_11 m ob os) k_
  obtain ⟨_, _, ⟨T1, L1, k1, n1⟩, -, X1, ⟨Lc1, hQ1, l1, y1, z1⟩, st1⟩ := superBack X0 hx hZ (y := (⟨"java/lang/AbstractStringBuilder", "append", "(Ljava/lang/String;)Ljava/lang/AbstractStringBuilder;"⟩ : MethodName)) hown (hw _ (M 82)) (own_same (y := (⟨"java/lang/AbstractStringBuilder", "append", "(Ljava/lang/String;)Ljava/lang/AbstractStringBuilder;"⟩ : MethodName)) (y' := (⟨"java/lang/AbstractStringBuilder", "ensureCapacityInternal", "(I)V"⟩ : MethodName)) rfl (by decide) (hw _ (M 85)) (hw _ (M 105))) (hw _ (M 83)) (hw _ (M 84)) (by decide) (backOf (W := 0) ((aAppG l Z a0 hw ob va kA cap cnt vs os sa kS zs ss zc c2 df pf nc vu vt h0 n0 Z0 B Ts S_CS hz g_ob g_va nsv hsum hi0 hs0 hgr hdf hpf hlt hnc hc10 hc16 hc38 hn0 hn70 hc0 hle hmin hne hcp0 hfit hlen hcp) []) hZ (hw _ (M 86)) (hw _ (M 68)) (by decide) (by decide)) e0 (Ins.self B.1) (g := (mkF m 2 #[.val (.ref ob), .val (.ref os)] [(.ref os), (.ref ob)])) rfl (by rw [hml]; rfl) (hw _ (M 86)) (argsL := [(.ref os)]) (rest := []) (lenOf pd_oLjava_lang_String_cLjava_lang_AbstractStringBuilder_ rfl) rfl (by show 2 * 0 + _ ≤ _; exact Nat.le_of_eq rfl) (hb hby d11_2) (fun _ _ => ⟨rfl, e0, (by decide : 0 + 1 ≤ _), (by decide : 0 + 70 ≤ _)⟩)
  dsimp only [Pt.U, Pt.locs, Pt.cells, Pt.slots] at X1 l1 y1 z1 st1 hQ1
  subst l1 y1 z1
  obtain ⟨vb1, kb1, rfl, N1q, Kq1, or1, gg1, Bq1⟩ := hQ1
  have N1 := Fr.app N0 N1q
  obtain ⟨fs, hr, hrun, hended, hW, hsame⟩ := X1.leave (v := some (.ref ob)) (fun h => by rw [Bd.returns] at h; cases h)
  refine ⟨_, _, pre0 _ ?_, hrun, hended, _, _, rfl, ?_, ⟨_, rfl⟩, hW, hsame.mono (by decide) (by decide)⟩
  · show Steps p.tables e below (s₁.setTop (mkF m 0 #[.val (.ref ob), .val (.ref os)] [])) _
    refine XS.aloadN X0.here hx rfl (hb hby d11_0) rfl rfl ?_
    refine XS.aloadN X0.here hx rfl (hb hby d11_1) rfl rfl ?_
    refine st1.trans ?_
    show Steps p.tables e below (T1.setTop (mkF m 5 #[.val (.ref ob), .val (.ref os)] [(.ref ob)])) _
    refine XS.pop X1.here hx rfl (hb hby d11_5) rfl rfl ?_
    show Steps p.tables e below (T1.setTop (mkF m 6 #[.val (.ref ob), .val (.ref os)] [])) _
    refine XS.aloadN X1.here hx rfl (hb hby d11_6) rfl rfl ?_
    jvm_step X1.here [X1.here.top, hx, (hb hby d11_7), X1.method', Bd.returns, Value.isRef, FieldType.isReference]
    first | (intro acts; rw [hr _ acts rfl rfl rfl]) | rw [hr _ _ rfl rfl rfl]
    exact Steps.refl _
  · show (QE Z ob va nc c2 vt (some (.ref ob)) h0 n0) _ T1.heap _
    exact ⟨_, _, rfl, N1, Kq1, or1, gg1, Bq1⟩
theorem own_sub0 (x : Int32) : x - (0 : Int32) = x := by
  rw [← Int32.toInt_inj, Int32.toInt_sub]
  have e : (0 : Int32).toInt = 0 := rfl
  rw [e, Int.sub_zero]
  have h1 := x.toInt_lt; have h2 := x.le_toInt
  rw [Int.bmod_def]; omega
def QI (Z : State) (ob : Addr) (h0 : Heap) (n0 : Nat) (v : Option Value) (h : Heap) (L : List Loc) : Prop := ∃ (va : Addr) (kA : ClassId), v = none ∧ Fr n0 L ∧ Keep h0 h [ob] ∧ h0.size ≤ va ∧ BdS Z h ob va kA (16 : Int32) (0 : Int32) (List.replicate (16 : Int32).toNatClampNeg (.int (0 : Int32)))
def QT (Z : State) (os : Addr) (zs : Int32) (ss : List Value) (h0 : Heap) (n0 : Nat) (v : Option Value) (h : Heap) (L : List Loc) : Prop := ∃ (sa : Addr) (kS : ClassId), v = none ∧ Fr n0 L ∧ Keep h0 h [os] ∧ h0.size ≤ sa ∧ StS Z h os sa kS zs ss
def QU (Z : State) (zs : Int32) (ss : List Value) (h0 : Heap) (n0 : Nat) (v : Option Value) (h : Heap) (L : List Loc) : Prop := ∃ (os sa : Addr) (kS : ClassId), v = some (.ref os) ∧ Fr n0 L ∧ Keep h0 h [] ∧ h0.size ≤ os ∧ h0.size ≤ sa ∧ StS Z h os sa kS zs ss
theorem d21_0 : decode jdk_35_method_15_code 0 = .ok (.iconst 1, 1) := by decide +kernel
theorem d21_1 : decode jdk_35_method_15_code 1 = .ok (.istore_n 2, 1) := by decide +kernel
theorem d21_2 : decode jdk_35_method_15_code 2 = .ok (.lload_n 0, 1) := by decide +kernel
theorem d21_3 : decode jdk_35_method_15_code 3 = .ok (.lconst 0, 1) := by decide +kernel
theorem d21_4 : decode jdk_35_method_15_code 4 = .ok (.lcmp, 1) := by decide +kernel
theorem d21_5 : decode jdk_35_method_15_code 5 = .ok (.ifCond .lt 8, 3) := by decide +kernel
theorem d21_8 : decode jdk_35_method_15_code 8 = .ok (.iconst 0, 1) := by decide +kernel
theorem d21_9 : decode jdk_35_method_15_code 9 = .ok (.istore_n 2, 1) := by decide +kernel
theorem d21_10 : decode jdk_35_method_15_code 10 = .ok (.lload_n 0, 1) := by decide +kernel
theorem d21_11 : decode jdk_35_method_15_code 11 = .ok (.lneg, 1) := by decide +kernel
theorem d21_12 : decode jdk_35_method_15_code 12 = .ok (.lstore_n 0, 1) := by decide +kernel
theorem d21_13 : decode jdk_35_method_15_code 13 = .ok (.ldc2_w 140, 3) := by decide +kernel
theorem d21_16 : decode jdk_35_method_15_code 16 = .ok (.lstore_n 3, 1) := by decide +kernel
theorem d21_17 : decode jdk_35_method_15_code 17 = .ok (.iconst 1, 1) := by decide +kernel
theorem d21_18 : decode jdk_35_method_15_code 18 = .ok (.istore 5, 2) := by decide +kernel
theorem d21_20 : decode jdk_35_method_15_code 20 = .ok (.iload 5, 2) := by decide +kernel
theorem d21_22 : decode jdk_35_method_15_code 22 = .ok (.bipush 19, 2) := by decide +kernel
theorem d21_24 : decode jdk_35_method_15_code 24 = .ok (.if_icmp .ge 26, 3) := by decide +kernel
theorem d21_27 : decode jdk_35_method_15_code 27 = .ok (.lload_n 0, 1) := by decide +kernel
theorem d21_28 : decode jdk_35_method_15_code 28 = .ok (.lload_n 3, 1) := by decide +kernel
theorem d21_29 : decode jdk_35_method_15_code 29 = .ok (.lcmp, 1) := by decide +kernel
theorem d21_30 : decode jdk_35_method_15_code 30 = .ok (.ifCond .le 8, 3) := by decide +kernel
theorem d21_33 : decode jdk_35_method_15_code 33 = .ok (.iload 5, 2) := by decide +kernel
theorem d21_35 : decode jdk_35_method_15_code 35 = .ok (.iload_n 2, 1) := by decide +kernel
theorem d21_36 : decode jdk_35_method_15_code 36 = .ok (.iadd, 1) := by decide +kernel
theorem d21_37 : decode jdk_35_method_15_code 37 = .ok (.ireturn, 1) := by decide +kernel
theorem pn_21 : plainName "java/lang/Long" = true := by first | (simp [plainName, overriddenIn]; done) | decide +kernel
theorem ef_21 (m : MethodId) (x0 : Int64) : entryFrame m #[(.long x0)] 6 = mkF m 0 #[.val (.long x0), .second, .unset, .unset, .unset, .unset] [] := by first | (simp [entryFrame, mkF, argsToLocals, Value.category]; done) | rfl
set_option maxRecDepth 65536 in
set_option maxHeartbeats 40000000 in
theorem jSize (l : Launch) (Z : State) (a0 : Array Value) (hw : ∀ d ∈ tables_1, d.before a0 Z = true)  (h0 : Heap) (n0 : Nat) (Z0 : n0 ≤ h0.size) :
    MQ l Z (⟨"java/lang/Long", "stringSize", "(J)I"⟩ : MethodName) jdk_35_method_15_code 6 (some .int) ({ frames := 0, cells := 0, slots := 0, locals := 0 } : Room) #[(.long (0 : Int64))] h0 (QR (.int (1 : Int32)) h0 n0) := by
  intro ws
  refine MetFree.of_bodySF (plainFor_of_name pn_21) hisR ?_
  intro p e s m args below meth c s₁ Bd hml0 hP hK
  obtain ⟨rfl, hZ, hh⟩ := hP
  have hx := Bd.exec
  have hby := Bd.bytes
  have hml : c.maxLocals = 6 := hml0
  have hown : s.vm.findClass "java/lang/Long" = some m.cls := findClass_of_methodNamed Bd.named
  have hnm := (name_of_methodNamed Bd.named Bd.method).1
  have X0 : Stand p l e ({ frames := 0, cells := 0, slots := 0, locals := 0 } : Room) s m #[(.long (0 : Int64))] below meth c s₁ [] 0 0 := Stand.of_body Bd
  have e0 : s₁.heap = h0 := by rw [← hh, Bd.state]; rfl
  have N0 := Fr.nil n0
  have pre0 : ∀ t_, Steps p.tables e below (s₁.setTop (mkF m 0 #[.val (.long (0 : Int64)), .second, .unset, .unset, .unset, .unset] [])) t_ → Steps p.tables e below (s₁.setTop (entryFrame m #[(.long (0 : Int64))] 6)) t_ := fun t_ k_ => castTop (ef_21 m (0 : Int64)) k_
  obtain ⟨fs, hr, hrun, hended, hW, hsame⟩ := X0.leave (v := some (.int (1 : Int32))) (fun h => by rw [Bd.returns] at h; cases h)
  refine ⟨_, _, pre0 _ ?_, hrun, hended, _, _, rfl, ?_, ⟨_, rfl⟩, hW, hsame.mono (by decide) (by decide)⟩
  · show Steps p.tables e below (s₁.setTop (mkF m 0 #[.val (.long (0 : Int64)), .second, .unset, .unset, .unset, .unset] [])) _
    refine XS.iconst X0.here hx rfl (hb hby d21_0) ?_
    refine XS.istoreN X0.here hx rfl (hb hby d21_1) rfl (l' := #[.val (.long (0 : Int64)), .second, .val (.int (1 : Int32)), .unset, .unset, .unset]) rfl ?_
    show Steps p.tables e below (s₁.setTop (mkF m 2 #[.val (.long (0 : Int64)), .second, .val (.int (1 : Int32)), .unset, .unset, .unset] [])) _
    refine XS.lloadN X0.here hx rfl (hb hby d21_2) rfl ?_
    refine XS.lconst X0.here hx rfl (hb hby d21_3) ?_
    refine XS.lcmp X0.here hx rfl (hb hby d21_4) rfl ?_
    show Steps p.tables e below (s₁.setTop (mkF m 5 #[.val (.long (0 : Int64)), .second, .val (.int (1 : Int32)), .unset, .unset, .unset] [(.int (lcmpW (0 : Int64) (0 : Int64)))])) _
    rw [(by decide : (lcmpW (0 : Int64) (0 : Int64)) = (0 : Int32))]
    show Steps p.tables e below (s₁.setTop (mkF m 5 #[.val (.long (0 : Int64)), .second, .val (.int (1 : Int32)), .unset, .unset, .unset] [(.int (0 : Int32))])) _
    refine XS.ifNo X0.here hx rfl (hb hby d21_5) rfl ((if0 _ _).trans (flt (by decide : ¬ ((0 : Int32) < (0 : Int32)))).1) ?_
    show Steps p.tables e below (s₁.setTop (mkF m 8 #[.val (.long (0 : Int64)), .second, .val (.int (1 : Int32)), .unset, .unset, .unset] [])) _
    refine XS.iconst X0.here hx rfl (hb hby d21_8) ?_
    refine XS.istoreN X0.here hx rfl (hb hby d21_9) rfl (l' := #[.val (.long (0 : Int64)), .second, .val (.int (0 : Int32)), .unset, .unset, .unset]) rfl ?_
    show Steps p.tables e below (s₁.setTop (mkF m 10 #[.val (.long (0 : Int64)), .second, .val (.int (0 : Int32)), .unset, .unset, .unset] [])) _
    refine XS.lloadN X0.here hx rfl (hb hby d21_10) rfl ?_
    refine XS.lneg X0.here hx rfl (hb hby d21_11) rfl ?_
    show Steps p.tables e below (s₁.setTop (mkF m 12 #[.val (.long (0 : Int64)), .second, .val (.int (0 : Int32)), .unset, .unset, .unset] [(.long (-(0 : Int64)))])) _
    rw [(by decide : (-(0 : Int64)) = (0 : Int64))]
    show Steps p.tables e below (s₁.setTop (mkF m 12 #[.val (.long (0 : Int64)), .second, .val (.int (0 : Int32)), .unset, .unset, .unset] [(.long (0 : Int64))])) _
    refine XS.lstoreN X0.here hx rfl (hb hby d21_12) rfl (l' := #[.val (.long (0 : Int64)), .second, .val (.int (0 : Int32)), .unset, .unset, .unset]) rfl ?_
    show Steps p.tables e below (s₁.setTop (mkF m 13 #[.val (.long (0 : Int64)), .second, .val (.int (0 : Int32)), .unset, .unset, .unset] [])) _
    refine X0.ldc2Long hx hown (mvT hZ (hw _ (M 140))) (g := (mkF m 13 #[.val (.long (0 : Int64)), .second, .val (.int (0 : Int32)), .unset, .unset, .unset] [])) rfl (hb hby d21_13) _ ?_
    show Steps p.tables e below (s₁.setTop (mkF m 16 #[.val (.long (0 : Int64)), .second, .val (.int (0 : Int32)), .unset, .unset, .unset] [(.long (-10 : Int64))])) _
    refine XS.lstoreN X0.here hx rfl (hb hby d21_16) rfl (l' := #[.val (.long (0 : Int64)), .second, .val (.int (0 : Int32)), .val (.long (-10 : Int64)), .second, .unset]) rfl ?_
    show Steps p.tables e below (s₁.setTop (mkF m 17 #[.val (.long (0 : Int64)), .second, .val (.int (0 : Int32)), .val (.long (-10 : Int64)), .second, .unset] [])) _
    refine XS.iconst X0.here hx rfl (hb hby d21_17) ?_
    refine XS.istore X0.here hx rfl (hb hby d21_18) rfl (l' := #[.val (.long (0 : Int64)), .second, .val (.int (0 : Int32)), .val (.long (-10 : Int64)), .second, .val (.int (1 : Int32))]) rfl ?_
    show Steps p.tables e below (s₁.setTop (mkF m 20 #[.val (.long (0 : Int64)), .second, .val (.int (0 : Int32)), .val (.long (-10 : Int64)), .second, .val (.int (1 : Int32))] [])) _
    refine XS.iload X0.here hx rfl (hb hby d21_20) rfl ?_
    refine XS.bipush X0.here hx rfl (hb hby d21_22) ?_
    refine XS.icmpNo X0.here hx rfl (hb hby d21_24) rfl (tlt (by decide : (1 : Int32) < (19 : Int32))).2.1 ?_
    show Steps p.tables e below (s₁.setTop (mkF m 27 #[.val (.long (0 : Int64)), .second, .val (.int (0 : Int32)), .val (.long (-10 : Int64)), .second, .val (.int (1 : Int32))] [])) _
    refine XS.lloadN X0.here hx rfl (hb hby d21_27) rfl ?_
    refine XS.lloadN X0.here hx rfl (hb hby d21_28) rfl ?_
    refine XS.lcmp X0.here hx rfl (hb hby d21_29) rfl ?_
    show Steps p.tables e below (s₁.setTop (mkF m 30 #[.val (.long (0 : Int64)), .second, .val (.int (0 : Int32)), .val (.long (-10 : Int64)), .second, .val (.int (1 : Int32))] [(.int (lcmpW (0 : Int64) (-10 : Int64)))])) _
    rw [(by decide : (lcmpW (0 : Int64) (-10 : Int64)) = (1 : Int32))]
    show Steps p.tables e below (s₁.setTop (mkF m 30 #[.val (.long (0 : Int64)), .second, .val (.int (0 : Int32)), .val (.long (-10 : Int64)), .second, .val (.int (1 : Int32))] [(.int (1 : Int32))])) _
    refine XS.ifNo X0.here hx rfl (hb hby d21_30) rfl ((if0 _ _).trans (tlt (by decide : (0 : Int32) < (1 : Int32))).2.2.2) ?_
    show Steps p.tables e below (s₁.setTop (mkF m 33 #[.val (.long (0 : Int64)), .second, .val (.int (0 : Int32)), .val (.long (-10 : Int64)), .second, .val (.int (1 : Int32))] [])) _
    refine XS.iload X0.here hx rfl (hb hby d21_33) rfl ?_
    refine XS.iloadN X0.here hx rfl (hb hby d21_35) rfl ?_
    refine XS.iadd X0.here hx rfl (hb hby d21_36) rfl ?_
    show Steps p.tables e below (s₁.setTop (mkF m 37 #[.val (.long (0 : Int64)), .second, .val (.int (0 : Int32)), .val (.long (-10 : Int64)), .second, .val (.int (1 : Int32))] [(.int ((1 : Int32) + (0 : Int32)))])) _
    rw [(by decide : ((1 : Int32) + (0 : Int32)) = (1 : Int32))]
    show Steps p.tables e below (s₁.setTop (mkF m 37 #[.val (.long (0 : Int64)), .second, .val (.int (0 : Int32)), .val (.long (-10 : Int64)), .second, .val (.int (1 : Int32))] [(.int (1 : Int32))])) _
    exact retI X0 hx Bd.returns (hb hby d21_37) hr
  · show (QR (.int (1 : Int32)) h0 n0) _ s₁.heap _
    rw [e0]
    exact ⟨rfl, N0, rfl⟩
theorem d23_0 : decode jdk_35_method_14_code 0 = .ok (.iload_n 2, 1) := by decide +kernel
theorem d23_1 : decode jdk_35_method_14_code 1 = .ok (.istore 7, 2) := by decide +kernel
theorem d23_3 : decode jdk_35_method_14_code 3 = .ok (.lload_n 0, 1) := by decide +kernel
theorem d23_4 : decode jdk_35_method_14_code 4 = .ok (.lconst 0, 1) := by decide +kernel
theorem d23_5 : decode jdk_35_method_14_code 5 = .ok (.lcmp, 1) := by decide +kernel
theorem d23_6 : decode jdk_35_method_14_code 6 = .ok (.ifCond .ge 7, 3) := by decide +kernel
theorem d23_13 : decode jdk_35_method_14_code 13 = .ok (.iconst 0, 1) := by decide +kernel
theorem d23_14 : decode jdk_35_method_14_code 14 = .ok (.istore 8, 2) := by decide +kernel
theorem d23_16 : decode jdk_35_method_14_code 16 = .ok (.iload 8, 2) := by decide +kernel
theorem d23_18 : decode jdk_35_method_14_code 18 = .ok (.ifCond .ne 6, 3) := by decide +kernel
theorem d23_21 : decode jdk_35_method_14_code 21 = .ok (.lload_n 0, 1) := by decide +kernel
theorem d23_22 : decode jdk_35_method_14_code 22 = .ok (.lneg, 1) := by decide +kernel
theorem d23_23 : decode jdk_35_method_14_code 23 = .ok (.lstore_n 0, 1) := by decide +kernel
theorem d23_24 : decode jdk_35_method_14_code 24 = .ok (.lload_n 0, 1) := by decide +kernel
theorem d23_25 : decode jdk_35_method_14_code 25 = .ok (.ldc2_w 129, 3) := by decide +kernel
theorem d23_28 : decode jdk_35_method_14_code 28 = .ok (.lcmp, 1) := by decide +kernel
theorem d23_29 : decode jdk_35_method_14_code 29 = .ok (.ifCond .gt 53, 3) := by decide +kernel
theorem d23_82 : decode jdk_35_method_14_code 82 = .ok (.lload_n 0, 1) := by decide +kernel
theorem d23_83 : decode jdk_35_method_14_code 83 = .ok (.l2i, 1) := by decide +kernel
theorem d23_84 : decode jdk_35_method_14_code 84 = .ok (.istore 10, 2) := by decide +kernel
theorem d23_86 : decode jdk_35_method_14_code 86 = .ok (.iload 10, 2) := by decide +kernel
theorem d23_88 : decode jdk_35_method_14_code 88 = .ok (.bipush (-100), 2) := by decide +kernel
theorem d23_90 : decode jdk_35_method_14_code 90 = .ok (.if_icmp .gt 53, 3) := by decide +kernel
theorem d23_143 : decode jdk_35_method_14_code 143 = .ok (.aload_n 3, 1) := by decide +kernel
theorem d23_144 : decode jdk_35_method_14_code 144 = .ok (.iinc 7 (-1), 3) := by decide +kernel
theorem d23_147 : decode jdk_35_method_14_code 147 = .ok (.iload 7, 2) := by decide +kernel
theorem d23_149 : decode jdk_35_method_14_code 149 = .ok (.getstatic 133, 3) := by decide +kernel
theorem d23_152 : decode jdk_35_method_14_code 152 = .ok (.iload 10, 2) := by decide +kernel
theorem d23_154 : decode jdk_35_method_14_code 154 = .ok (.ineg, 1) := by decide +kernel
theorem d23_155 : decode jdk_35_method_14_code 155 = .ok (.baload, 1) := by decide +kernel
theorem d23_156 : decode jdk_35_method_14_code 156 = .ok (.bastore, 1) := by decide +kernel
theorem d23_157 : decode jdk_35_method_14_code 157 = .ok (.iload 10, 2) := by decide +kernel
theorem d23_159 : decode jdk_35_method_14_code 159 = .ok (.bipush (-9), 2) := by decide +kernel
theorem d23_161 : decode jdk_35_method_14_code 161 = .ok (.if_icmp .ge 17, 3) := by decide +kernel
theorem d23_178 : decode jdk_35_method_14_code 178 = .ok (.iload 8, 2) := by decide +kernel
theorem d23_180 : decode jdk_35_method_14_code 180 = .ok (.ifCond .eq 12, 3) := by decide +kernel
theorem d23_192 : decode jdk_35_method_14_code 192 = .ok (.iload 7, 2) := by decide +kernel
theorem d23_194 : decode jdk_35_method_14_code 194 = .ok (.ireturn, 1) := by decide +kernel
theorem pn_23 : plainName "java/lang/Long" = true := by first | (simp [plainName, overriddenIn]; done) | decide +kernel
theorem ef_23 (m : MethodId) (x0 : Int64) (x1 : Int32) (x2 : Addr) : entryFrame m #[(.long x0), (.int x1), (.ref x2)] 11 = mkF m 0 #[.val (.long x0), .second, .val (.int x1), .val (.ref x2), .unset, .unset, .unset, .unset, .unset, .unset, .unset] [] := by first | (simp [entryFrame, mkF, argsToLocals, Value.category]; done) | rfl
set_option maxRecDepth 65536 in
set_option maxHeartbeats 40000000 in
theorem jChars (l : Launch) (Z : State) (a0 : Array Value) (hw : ∀ d ∈ tables_1, d.before a0 Z = true) (va : Addr) (kA : ClassId) (cap : Int32) (vs : List Value) (c2 cnt : Int32) (vt : List Value) (d1 : Addr) (cd : Cell) (h0 : Heap) (n0 : Nat) (Z0 : n0 ≤ h0.size) (A : Arv Z h0 va kA .byte cap vs (.int (0 : Int32))) (g_va : n0 ≤ va) (S_D1 : Sta Z h0 "java/lang/Integer" "DigitOnes" "[B" (.ref d1)) (Ad : Arr Z h0 d1 cd .byte) (hind : ¬ ((0 : Int32) < 0 ∨ cd.slots.size ≤ (0 : Int32).toNatClampNeg)) (hatd : cd.slots[(0 : Int32).toNatClampNeg]? = some (.int (48 : Int32))) (hdec : (c2 + (-1 : Int32)) = cnt) (hj : ¬ cnt < 0 ∧ cnt < cap) (hi : cnt.toNatClampNeg < vs.length) (hset : vs.set cnt.toNatClampNeg (.int (48 : Int32)) = vt) :
    MQ l Z (⟨"java/lang/Long", "getChars", "(JI[B)I"⟩ : MethodName) jdk_35_method_14_code 11 (some .int) ({ frames := 0, cells := 0, slots := 0, locals := 0 } : Room) #[(.long (0 : Int64)), (.int c2), (.ref va)] h0 (QP va Z kA cap vt h0 n0 (some (.int cnt))) := by
  intro ws
  refine MetFree.of_bodySF (plainFor_of_name pn_23) hisR ?_
  intro p e s m args below meth c s₁ Bd hml0 hP hK
  obtain ⟨rfl, hZ, hh⟩ := hP
  have hx := Bd.exec
  have hby := Bd.bytes
  have hml : c.maxLocals = 11 := hml0
  have hown : s.vm.findClass "java/lang/Long" = some m.cls := findClass_of_methodNamed Bd.named
  have hnm := (name_of_methodNamed Bd.named Bd.method).1
  have X0 : Stand p l e ({ frames := 0, cells := 0, slots := 0, locals := 0 } : Room) s m #[(.long (0 : Int64)), (.int c2), (.ref va)] below meth c s₁ [] 0 0 := Stand.of_body Bd
  have e0 : s₁.heap = h0 := by rw [← hh, Bd.state]; rfl
  have N0 := Fr.nil n0
  have pre0 : ∀ t_, Steps p.tables e below (s₁.setTop (mkF m 0 #[.val (.long (0 : Int64)), .second, .val (.int c2), .val (.ref va), .unset, .unset, .unset, .unset, .unset, .unset, .unset] [])) t_ → Steps p.tables e below (s₁.setTop (entryFrame m #[(.long (0 : Int64)), (.int c2), (.ref va)] 11)) t_ := fun t_ k_ => castTop (ef_23 m (0 : Int64) c2 va) k_
  obtain ⟨T1, X1, e1, st1⟩ := getS2 X0 hx hZ hown (host := "") (Or.inl (hw _ (M 150))) Via.refl e0 S_D1 (g := (mkF m 149 #[.val (.long (0 : Int64)), .second, .val (.int c2), .val (.ref va), .unset, .unset, .unset, .val (.int cnt), .val (.int (0 : Int32)), .unset, .val (.int (0 : Int32))] [(.int cnt), (.ref va)])) rfl (hb hby d23_149)
  obtain ⟨clv2, Arv2, qv2, Sv2, Ng2, Hv2, Gv2⟩ := id A
  obtain ⟨T3, h3, X3, e3, W3, st3⟩ := stB X1 hx hZ e1 Arv2 (j := cnt) (inb_of Sv2 hj) (g := (mkF m 156 #[.val (.long (0 : Int64)), .second, .val (.int c2), .val (.ref va), .unset, .unset, .unset, .val (.int cnt), .val (.int (0 : Int32)), .unset, .val (.int (0 : Int32))] [(.int (48 : Int32)), (.int cnt), (.ref va)])) rfl rfl (hb hby d23_156)
  have V3 : Arv Z h3 va kA .byte cap (vs.set cnt.toNatClampNeg (.int (48 : Int32))) (.int (0 : Int32)) := Arv.set Arv2 qv2 Sv2 Ng2 Hv2 Gv2 (fits_nar_byte _) W3 cnt.toNatClampNeg rfl hi
  rw [hset] at V3
  have K3 : Keep h0 h3 [va] := (Keep.refl h0 [va]).wr W3 (Or.inl (List.mem_of_getElem? (i := 0) rfl))
  have N3 := Fr.snoc X3 N0 g_va
  obtain ⟨fs, hr, hrun, hended, hW, hsame⟩ := X3.leave (v := some (.int cnt)) (fun h => by rw [Bd.returns] at h; cases h)
  refine ⟨_, _, pre0 _ ?_, hrun, hended, _, _, rfl, ?_, ⟨_, rfl⟩, hW, hsame.mono (by decide) (by decide)⟩
  · show Steps p.tables e below (s₁.setTop (mkF m 0 #[.val (.long (0 : Int64)), .second, .val (.int c2), .val (.ref va), .unset, .unset, .unset, .unset, .unset, .unset, .unset] [])) _
    refine XS.iloadN X0.here hx rfl (hb hby d23_0) rfl ?_
    refine XS.istore X0.here hx rfl (hb hby d23_1) rfl (l' := #[.val (.long (0 : Int64)), .second, .val (.int c2), .val (.ref va), .unset, .unset, .unset, .val (.int c2), .unset, .unset, .unset]) rfl ?_
    show Steps p.tables e below (s₁.setTop (mkF m 3 #[.val (.long (0 : Int64)), .second, .val (.int c2), .val (.ref va), .unset, .unset, .unset, .val (.int c2), .unset, .unset, .unset] [])) _
    refine XS.lloadN X0.here hx rfl (hb hby d23_3) rfl ?_
    refine XS.lconst X0.here hx rfl (hb hby d23_4) ?_
    refine XS.lcmp X0.here hx rfl (hb hby d23_5) rfl ?_
    show Steps p.tables e below (s₁.setTop (mkF m 6 #[.val (.long (0 : Int64)), .second, .val (.int c2), .val (.ref va), .unset, .unset, .unset, .val (.int c2), .unset, .unset, .unset] [(.int (lcmpW (0 : Int64) (0 : Int64)))])) _
    rw [(by decide : (lcmpW (0 : Int64) (0 : Int64)) = (0 : Int32))]
    show Steps p.tables e below (s₁.setTop (mkF m 6 #[.val (.long (0 : Int64)), .second, .val (.int c2), .val (.ref va), .unset, .unset, .unset, .val (.int c2), .unset, .unset, .unset] [(.int (0 : Int32))])) _
    refine XS.ifYes X0.here hx rfl (pc0 := 6) (pc' := 13) rfl (hb hby d23_6) rfl ((if0 _ _).trans (flt (by decide : ¬ ((0 : Int32) < (0 : Int32)))).2.1) (by decide) (by decide) ?_
    show Steps p.tables e below (s₁.setTop (mkF m 13 #[.val (.long (0 : Int64)), .second, .val (.int c2), .val (.ref va), .unset, .unset, .unset, .val (.int c2), .unset, .unset, .unset] [])) _
    refine XS.iconst X0.here hx rfl (hb hby d23_13) ?_
    refine XS.istore X0.here hx rfl (hb hby d23_14) rfl (l' := #[.val (.long (0 : Int64)), .second, .val (.int c2), .val (.ref va), .unset, .unset, .unset, .val (.int c2), .val (.int (0 : Int32)), .unset, .unset]) rfl ?_
    show Steps p.tables e below (s₁.setTop (mkF m 16 #[.val (.long (0 : Int64)), .second, .val (.int c2), .val (.ref va), .unset, .unset, .unset, .val (.int c2), .val (.int (0 : Int32)), .unset, .unset] [])) _
    refine XS.iload X0.here hx rfl (hb hby d23_16) rfl ?_
    refine XS.ifNo X0.here hx rfl (hb hby d23_18) rfl ((if0 _ _).trans (teq (by decide : (0 : Int32) = (0 : Int32))).2) ?_
    show Steps p.tables e below (s₁.setTop (mkF m 21 #[.val (.long (0 : Int64)), .second, .val (.int c2), .val (.ref va), .unset, .unset, .unset, .val (.int c2), .val (.int (0 : Int32)), .unset, .unset] [])) _
    refine XS.lloadN X0.here hx rfl (hb hby d23_21) rfl ?_
    refine XS.lneg X0.here hx rfl (hb hby d23_22) rfl ?_
    show Steps p.tables e below (s₁.setTop (mkF m 23 #[.val (.long (0 : Int64)), .second, .val (.int c2), .val (.ref va), .unset, .unset, .unset, .val (.int c2), .val (.int (0 : Int32)), .unset, .unset] [(.long (-(0 : Int64)))])) _
    rw [(by decide : (-(0 : Int64)) = (0 : Int64))]
    show Steps p.tables e below (s₁.setTop (mkF m 23 #[.val (.long (0 : Int64)), .second, .val (.int c2), .val (.ref va), .unset, .unset, .unset, .val (.int c2), .val (.int (0 : Int32)), .unset, .unset] [(.long (0 : Int64))])) _
    refine XS.lstoreN X0.here hx rfl (hb hby d23_23) rfl (l' := #[.val (.long (0 : Int64)), .second, .val (.int c2), .val (.ref va), .unset, .unset, .unset, .val (.int c2), .val (.int (0 : Int32)), .unset, .unset]) rfl ?_
    show Steps p.tables e below (s₁.setTop (mkF m 24 #[.val (.long (0 : Int64)), .second, .val (.int c2), .val (.ref va), .unset, .unset, .unset, .val (.int c2), .val (.int (0 : Int32)), .unset, .unset] [])) _
    refine XS.lloadN X0.here hx rfl (hb hby d23_24) rfl ?_
    refine X0.ldc2Long hx hown (mvT hZ (hw _ (M 149))) (g := (mkF m 25 #[.val (.long (0 : Int64)), .second, .val (.int c2), .val (.ref va), .unset, .unset, .unset, .val (.int c2), .val (.int (0 : Int32)), .unset, .unset] [(.long (0 : Int64))])) rfl (hb hby d23_25) _ ?_
    show Steps p.tables e below (s₁.setTop (mkF m 28 #[.val (.long (0 : Int64)), .second, .val (.int c2), .val (.ref va), .unset, .unset, .unset, .val (.int c2), .val (.int (0 : Int32)), .unset, .unset] [(.long (-2147483648 : Int64)), (.long (0 : Int64))])) _
    refine XS.lcmp X0.here hx rfl (hb hby d23_28) rfl ?_
    show Steps p.tables e below (s₁.setTop (mkF m 29 #[.val (.long (0 : Int64)), .second, .val (.int c2), .val (.ref va), .unset, .unset, .unset, .val (.int c2), .val (.int (0 : Int32)), .unset, .unset] [(.int (lcmpW (0 : Int64) (-2147483648 : Int64)))])) _
    rw [(by decide : (lcmpW (0 : Int64) (-2147483648 : Int64)) = (1 : Int32))]
    show Steps p.tables e below (s₁.setTop (mkF m 29 #[.val (.long (0 : Int64)), .second, .val (.int c2), .val (.ref va), .unset, .unset, .unset, .val (.int c2), .val (.int (0 : Int32)), .unset, .unset] [(.int (1 : Int32))])) _
    refine XS.ifYes X0.here hx rfl (pc0 := 29) (pc' := 82) rfl (hb hby d23_29) rfl ((if0 _ _).trans (tlt (by decide : (0 : Int32) < (1 : Int32))).2.2.1) (by decide) (by decide) ?_
    show Steps p.tables e below (s₁.setTop (mkF m 82 #[.val (.long (0 : Int64)), .second, .val (.int c2), .val (.ref va), .unset, .unset, .unset, .val (.int c2), .val (.int (0 : Int32)), .unset, .unset] [])) _
    refine XS.lloadN X0.here hx rfl (hb hby d23_82) rfl ?_
    refine XS.l2i X0.here hx rfl (hb hby d23_83) rfl ?_
    show Steps p.tables e below (s₁.setTop (mkF m 84 #[.val (.long (0 : Int64)), .second, .val (.int c2), .val (.ref va), .unset, .unset, .unset, .val (.int c2), .val (.int (0 : Int32)), .unset, .unset] [(.int ((0 : Int64).toInt32))])) _
    rw [(by decide : ((0 : Int64).toInt32) = (0 : Int32))]
    show Steps p.tables e below (s₁.setTop (mkF m 84 #[.val (.long (0 : Int64)), .second, .val (.int c2), .val (.ref va), .unset, .unset, .unset, .val (.int c2), .val (.int (0 : Int32)), .unset, .unset] [(.int (0 : Int32))])) _
    refine XS.istore X0.here hx rfl (hb hby d23_84) rfl (l' := #[.val (.long (0 : Int64)), .second, .val (.int c2), .val (.ref va), .unset, .unset, .unset, .val (.int c2), .val (.int (0 : Int32)), .unset, .val (.int (0 : Int32))]) rfl ?_
    show Steps p.tables e below (s₁.setTop (mkF m 86 #[.val (.long (0 : Int64)), .second, .val (.int c2), .val (.ref va), .unset, .unset, .unset, .val (.int c2), .val (.int (0 : Int32)), .unset, .val (.int (0 : Int32))] [])) _
    refine XS.iload X0.here hx rfl (hb hby d23_86) rfl ?_
    refine XS.bipush X0.here hx rfl (hb hby d23_88) ?_
    refine XS.icmpYes X0.here hx rfl (pc0 := 90) (pc' := 143) rfl (hb hby d23_90) rfl (tlt (by decide : (-100 : Int32) < (0 : Int32))).2.2.1 (by decide) (by decide) ?_
    show Steps p.tables e below (s₁.setTop (mkF m 143 #[.val (.long (0 : Int64)), .second, .val (.int c2), .val (.ref va), .unset, .unset, .unset, .val (.int c2), .val (.int (0 : Int32)), .unset, .val (.int (0 : Int32))] [])) _
    refine XS.aloadN X0.here hx rfl (hb hby d23_143) rfl rfl ?_
    refine XS.iinc X0.here hx rfl (hb hby d23_144) rfl (l' := #[.val (.long (0 : Int64)), .second, .val (.int c2), .val (.ref va), .unset, .unset, .unset, .val (.int (c2 + (-1 : Int32))), .val (.int (0 : Int32)), .unset, .val (.int (0 : Int32))]) rfl ?_
    show Steps p.tables e below (s₁.setTop (mkF m 147 #[.val (.long (0 : Int64)), .second, .val (.int c2), .val (.ref va), .unset, .unset, .unset, .val (.int (c2 + (-1 : Int32))), .val (.int (0 : Int32)), .unset, .val (.int (0 : Int32))] [(.ref va)])) _
    refine XS.iload X0.here hx rfl (hb hby d23_147) rfl ?_
    show Steps p.tables e below (s₁.setTop (mkF m 149 #[.val (.long (0 : Int64)), .second, .val (.int c2), .val (.ref va), .unset, .unset, .unset, .val (.int (c2 + (-1 : Int32))), .val (.int (0 : Int32)), .unset, .val (.int (0 : Int32))] [(.int (c2 + (-1 : Int32))), (.ref va)])) _
    rw [hdec]
    show Steps p.tables e below (s₁.setTop (mkF m 149 #[.val (.long (0 : Int64)), .second, .val (.int c2), .val (.ref va), .unset, .unset, .unset, .val (.int cnt), .val (.int (0 : Int32)), .unset, .val (.int (0 : Int32))] [(.int cnt), (.ref va)])) _
    refine st1 _ ?_
    show Steps p.tables e below (T1.setTop (mkF m 152 #[.val (.long (0 : Int64)), .second, .val (.int c2), .val (.ref va), .unset, .unset, .unset, .val (.int cnt), .val (.int (0 : Int32)), .unset, .val (.int (0 : Int32))] [(.ref d1), (.int cnt), (.ref va)])) _
    refine XS.iload X1.here hx rfl (hb hby d23_152) rfl ?_
    refine XS.ineg X1.here hx rfl (hb hby d23_154) rfl ?_
    show Steps p.tables e below (T1.setTop (mkF m 155 #[.val (.long (0 : Int64)), .second, .val (.int c2), .val (.ref va), .unset, .unset, .unset, .val (.int cnt), .val (.int (0 : Int32)), .unset, .val (.int (0 : Int32))] [(.int (-(0 : Int32))), (.ref d1), (.int cnt), (.ref va)])) _
    rw [(by decide : (-(0 : Int32)) = (0 : Int32))]
    show Steps p.tables e below (T1.setTop (mkF m 155 #[.val (.long (0 : Int64)), .second, .val (.int c2), .val (.ref va), .unset, .unset, .unset, .val (.int cnt), .val (.int (0 : Int32)), .unset, .val (.int (0 : Int32))] [(.int (0 : Int32)), (.ref d1), (.int cnt), (.ref va)])) _
    refine X1.baloadBytes hx (j := (0 : Int32)) (v := (.int (48 : Int32))) (by rw [e1]; exact Ad.1) (State.isArrayOf_alike hZ.alike Ad.2.1) Ad.2.2 hind hatd (g := (mkF m 155 #[.val (.long (0 : Int64)), .second, .val (.int c2), .val (.ref va), .unset, .unset, .unset, .val (.int cnt), .val (.int (0 : Int32)), .unset, .val (.int (0 : Int32))] [(.int (0 : Int32)), (.ref d1), (.int cnt), (.ref va)])) rfl rfl (hb hby d23_155) _ ?_
    show Steps p.tables e below (T1.setTop (mkF m 156 #[.val (.long (0 : Int64)), .second, .val (.int c2), .val (.ref va), .unset, .unset, .unset, .val (.int cnt), .val (.int (0 : Int32)), .unset, .val (.int (0 : Int32))] [(.int (48 : Int32)), (.int cnt), (.ref va)])) _
    refine st3 _ ?_
    show Steps p.tables e below (T3.setTop (mkF m 157 #[.val (.long (0 : Int64)), .second, .val (.int c2), .val (.ref va), .unset, .unset, .unset, .val (.int cnt), .val (.int (0 : Int32)), .unset, .val (.int (0 : Int32))] [])) _
    refine XS.iload X3.here hx rfl (hb hby d23_157) rfl ?_
    refine XS.bipush X3.here hx rfl (hb hby d23_159) ?_
    refine XS.icmpYes X3.here hx rfl (pc0 := 161) (pc' := 178) rfl (hb hby d23_161) rfl (flt (by decide : ¬ ((0 : Int32) < (-9 : Int32)))).2.1 (by decide) (by decide) ?_
    show Steps p.tables e below (T3.setTop (mkF m 178 #[.val (.long (0 : Int64)), .second, .val (.int c2), .val (.ref va), .unset, .unset, .unset, .val (.int cnt), .val (.int (0 : Int32)), .unset, .val (.int (0 : Int32))] [])) _
    refine XS.iload X3.here hx rfl (hb hby d23_178) rfl ?_
    refine XS.ifYes X3.here hx rfl (pc0 := 180) (pc' := 192) rfl (hb hby d23_180) rfl ((if0 _ _).trans (teq (by decide : (0 : Int32) = (0 : Int32))).1) (by decide) (by decide) ?_
    show Steps p.tables e below (T3.setTop (mkF m 192 #[.val (.long (0 : Int64)), .second, .val (.int c2), .val (.ref va), .unset, .unset, .unset, .val (.int cnt), .val (.int (0 : Int32)), .unset, .val (.int (0 : Int32))] [])) _
    refine XS.iload X3.here hx rfl (hb hby d23_192) rfl ?_
    exact retI X3 hx Bd.returns (hb hby d23_194) hr
  · show (QP va Z kA cap vt h0 n0 (some (.int cnt))) _ T3.heap _
    rw [e3]
    exact ⟨rfl, N3, K3, V3⟩
theorem d20_0 : decode jdk_68_method_33_code 0 = .ok (.aload_n 0, 1) := by decide +kernel
theorem d20_1 : decode jdk_68_method_33_code 1 = .ok (.getfield 79, 3) := by decide +kernel
theorem d20_4 : decode jdk_68_method_33_code 4 = .ok (.istore_n 3, 1) := by decide +kernel
theorem d20_5 : decode jdk_68_method_33_code 5 = .ok (.iload_n 3, 1) := by decide +kernel
theorem d20_6 : decode jdk_68_method_33_code 6 = .ok (.lload_n 1, 1) := by decide +kernel
theorem pd_oJcI : parseMethodDescriptor "(J)I" = some ⟨[.long], some .int⟩ := by decide +kernel
theorem d20_7 : decode jdk_68_method_33_code 7 = .ok (.invokestatic 254, 3) := by decide +kernel
theorem d20_10 : decode jdk_68_method_33_code 10 = .ok (.iadd, 1) := by decide +kernel
theorem d20_11 : decode jdk_68_method_33_code 11 = .ok (.istore 4, 2) := by decide +kernel
theorem d20_13 : decode jdk_68_method_33_code 13 = .ok (.aload_n 0, 1) := by decide +kernel
theorem d20_14 : decode jdk_68_method_33_code 14 = .ok (.iload 4, 2) := by decide +kernel
theorem d20_16 : decode jdk_68_method_33_code 16 = .ok (.invokevirtual 100, 3) := by decide +kernel
theorem d20_19 : decode jdk_68_method_33_code 19 = .ok (.aload_n 0, 1) := by decide +kernel
theorem pd_ocZ : parseMethodDescriptor "()Z" = some ⟨[], some .boolean⟩ := by decide +kernel
theorem d20_20 : decode jdk_68_method_33_code 20 = .ok (.invokevirtual 83, 3) := by decide +kernel
theorem d20_23 : decode jdk_68_method_33_code 23 = .ok (.ifCond .eq 17, 3) := by decide +kernel
theorem d20_26 : decode jdk_68_method_33_code 26 = .ok (.lload_n 1, 1) := by decide +kernel
theorem d20_27 : decode jdk_68_method_33_code 27 = .ok (.iload 4, 2) := by decide +kernel
theorem d20_29 : decode jdk_68_method_33_code 29 = .ok (.aload_n 0, 1) := by decide +kernel
theorem d20_30 : decode jdk_68_method_33_code 30 = .ok (.getfield 15, 3) := by decide +kernel
theorem pd_oJIABcI : parseMethodDescriptor "(JI[B)I" = some ⟨[.long, .int, (.array .byte)], some .int⟩ := by decide +kernel
theorem d20_33 : decode jdk_68_method_33_code 33 = .ok (.invokestatic 259, 3) := by decide +kernel
theorem d20_36 : decode jdk_68_method_33_code 36 = .ok (.pop, 1) := by decide +kernel
theorem d20_37 : decode jdk_68_method_33_code 37 = .ok (.goto 15, 3) := by decide +kernel
theorem d20_52 : decode jdk_68_method_33_code 52 = .ok (.aload_n 0, 1) := by decide +kernel
theorem d20_53 : decode jdk_68_method_33_code 53 = .ok (.iload 4, 2) := by decide +kernel
theorem d20_55 : decode jdk_68_method_33_code 55 = .ok (.putfield 79, 3) := by decide +kernel
theorem d20_58 : decode jdk_68_method_33_code 58 = .ok (.aload_n 0, 1) := by decide +kernel
theorem d20_59 : decode jdk_68_method_33_code 59 = .ok (.areturn, 1) := by decide +kernel
theorem pn_20 : plainName "java/lang/AbstractStringBuilder" = true := by first | (simp [plainName, overriddenIn]; done) | decide +kernel
theorem ef_20 (m : MethodId) (x0 : Addr) (x1 : Int64) : entryFrame m #[(.ref x0), (.long x1)] 5 = mkF m 0 #[.val (.ref x0), .val (.long x1), .second, .unset, .unset] [] := by first | (simp [entryFrame, mkF, argsToLocals, Value.category]; done) | rfl
set_option maxRecDepth 65536 in
set_option maxHeartbeats 40000000 in
theorem aAppJ (l : Launch) (Z : State) (a0 : Array Value) (hw : ∀ d ∈ tables_1, d.before a0 Z = true) (ob va : Addr) (kA : ClassId) (cap cnt : Int32) (vs : List Value) (zc : Int32) (c2 df : Int32) (vt : List Value) (d1 : Addr) (cd : Cell) (h0 : Heap) (n0 : Nat) (Z0 : n0 ≤ h0.size) (B : BdS Z h0 ob va kA cap cnt vs) (S_CS : Sta Z h0 "java/lang/String" "COMPACT_STRINGS" "Z" (.int zc)) (hz : ¬ (zc = (0 : Int32))) (g_ob : n0 ≤ ob) (g_va : n0 ≤ va) (hsum : (cnt + (1 : Int32)) = c2) (hdf : (c2 - cap) = df) (hroom : ¬ ((0 : Int32) < df)) (S_D1 : Sta Z h0 "java/lang/Integer" "DigitOnes" "[B" (.ref d1)) (Ad : Arr Z h0 d1 cd .byte) (hind : ¬ ((0 : Int32) < 0 ∨ cd.slots.size ≤ (0 : Int32).toNatClampNeg)) (hatd : cd.slots[(0 : Int32).toNatClampNeg]? = some (.int (48 : Int32))) (hdec : (c2 + (-1 : Int32)) = cnt) (hj : ¬ cnt < 0 ∧ cnt < cap) (hi : cnt.toNatClampNeg < vs.length) (hset : vs.set cnt.toNatClampNeg (.int (48 : Int32)) = vt) :
    MQ l Z (⟨"java/lang/AbstractStringBuilder", "append", "(J)Ljava/lang/AbstractStringBuilder;"⟩ : MethodName) jdk_68_method_33_code 5 (some (.object "java/lang/AbstractStringBuilder")) ({ frames := 1, cells := 0, slots := 0, locals := 22 } : Room) #[(.ref ob), (.long (0 : Int64))] h0 (QE Z ob va cap c2 vt (some (.ref ob)) h0 n0) := by
  intro ws
  refine MetFree.of_bodySF (plainFor_of_name pn_20) hisR ?_
  intro p e s m args below meth c s₁ Bd hml0 hP hK
  obtain ⟨rfl, hZ, hh⟩ := hP
  have hx := Bd.exec
  have hby := Bd.bytes
  have hml : c.maxLocals = 5 := hml0
  have hown : s.vm.findClass "java/lang/AbstractStringBuilder" = some m.cls := findClass_of_methodNamed Bd.named
  have hnm := (name_of_methodNamed Bd.named Bd.method).1
  have X0 : Stand p l e ({ frames := 1, cells := 0, slots := 0, locals := 22 } : Room) s m #[(.ref ob), (.long (0 : Int64))] below meth c s₁ [] 0 0 := Stand.of_body Bd
  have e0 : s₁.heap = h0 := by rw [← hh, Bd.state]; rfl
  have N0 := Fr.nil n0
  have pre0 : ∀ t_, Steps p.tables e below (s₁.setTop (mkF m 0 #[.val (.ref ob), .val (.long (0 : Int64)), .second, .unset, .unset] [])) t_ → Steps p.tables e below (s₁.setTop (entryFrame m #[(.ref ob), (.long (0 : Int64))] 5)) t_ := fun t_ k_ => castTop (ef_20 m ob (0 : Int64)) k_
  have ne_ob_va : ob ≠ va := Exa.neArv B.1 B.2.2.2.2 (hw _ (M 59))
  obtain ⟨T1, X1, e1, st1⟩ := getF X0 hx hZ hown (host := "") (Or.inl (hw _ (M 100))) Via.refl e0 B.2.2.2.1 (g := (mkF m 1 #[.val (.ref ob), .val (.long (0 : Int64)), .second, .unset, .unset] [(.ref ob)])) rfl rfl (hb hby d20_1)
  obtain ⟨_, _, ⟨T2, L2, k2, n2⟩, -, X2, ⟨Lc2, hQ2, l2, y2, z2⟩, st2⟩ := Jvm.LawKit.callS X1 hx (y := (⟨"java/lang/Long", "stringSize", "(J)I"⟩ : MethodName)) hown (mvT hZ (hw _ (M 136))) (mvT hZ (hw _ (M 137))) (mvT hZ (hw _ (M 138))) (mvT hZ (hw _ (M 139))) (by decide) (backOf (W := 1) ((jSize l Z a0 hw h0 n0 (Nat.le_trans Z0 (Keep.refl h0 [ob, va]).1)) []) hZ (hw _ (M 139)) (hw _ (M 138)) (by decide) (by decide)) (g := (mkF m 7 #[.val (.ref ob), .val (.long (0 : Int64)), .second, .val (.int cnt), .unset] [(.long (0 : Int64)), (.int cnt)])) rfl (by rw [hml]; rfl) (argsL := [(.long (0 : Int64))]) (rest := [(.int cnt)]) (lenOf pd_oJcI rfl) rfl (by show 2 * 0 + _ ≤ _; exact Nat.le_of_eq rfl) (hb hby d20_7) (fun _ _ => ⟨rfl, e1, (by decide : 0 + 0 ≤ _), (by decide : 0 + 0 ≤ _)⟩)
  dsimp only [Pt.U, Pt.locs, Pt.cells, Pt.slots] at X2 l2 y2 z2 st2 hQ2
  subst l2 y2 z2
  obtain ⟨rfl, N2q, e2⟩ := hQ2
  have N2 := Fr.app N0 N2q
  obtain ⟨cq3, kq3, q3a, q3b, q3c⟩ := isOf hZ e2 B.1
  obtain ⟨_, _, ⟨T3, L3, k3, n3⟩, -, X3, ⟨Lc3, hQ3, l3, y3, z3⟩, st3⟩ := X2.virtualBack hx (y := (⟨"java/lang/AbstractStringBuilder", "ensureCapacityInternal", "(I)V"⟩ : MethodName)) (z := (⟨"java/lang/AbstractStringBuilder", "ensureCapacityInternal", "(I)V"⟩ : MethodName)) hown (mvT hZ (hw _ (M 102))) (mvT hZ (own_declares (hw _ (M 103)) (hw _ (M 106)))) (notFace_of_selects (args := #[]) (mvT hZ (hw _ (M 105)))) (mvT hZ (hw _ (M 105))) (mvT hZ (hw _ (M 103))) (by decide) (backOf (W := 0) ((bEnsure l Z a0 hw ob va kA cap cnt vs c2 df h0 n0 (Nat.le_trans Z0 (Keep.refl h0 [ob, va]).1) ⟨B.1, B.2.1, B.2.2.1, B.2.2.2.1, B.2.2.2.2⟩ hdf hroom) []) hZ (hw _ (M 106)) (hw _ (M 68)) (by decide) (by decide)) q3a q3c (g := (mkF m 16 #[.val (.ref ob), .val (.long (0 : Int64)), .second, .val (.int cnt), .val (.int c2)] [(.int c2), (.ref ob)])) rfl (by rw [hml]; rfl) (Steps.refl _) (argsL := [(.int c2)]) (rest := []) (lenOf pd_oIcV rfl) rfl (by show 2 * 0 + _ ≤ _; exact Nat.le_of_eq rfl) (hb hby d20_16) (fun _ _ => ⟨rfl, e2, (by decide : 0 + 0 ≤ _), (by decide : 0 + 0 ≤ _)⟩)
  dsimp only [Pt.U, Pt.locs, Pt.cells, Pt.slots] at X3 l3 y3 z3 st3 hQ3
  subst l3 y3 z3
  obtain ⟨rfl, N3q, e3⟩ := hQ3
  have N3 := Fr.app N2 N3q
  obtain ⟨cq4, kq4, q4a, q4b, q4c⟩ := isOf hZ e3 B.1
  obtain ⟨_, _, ⟨T4, L4, k4, n4⟩, -, X4, ⟨Lc4, hQ4, l4, y4, z4⟩, st4⟩ := X3.virtualBack hx (y := (⟨"java/lang/AbstractStringBuilder", "isLatin1", "()Z"⟩ : MethodName)) (z := (⟨"java/lang/AbstractStringBuilder", "isLatin1", "()Z"⟩ : MethodName)) hown (mvT hZ (hw _ (M 141))) (mvT hZ (hw _ (M 142))) (notFace_of_selects (args := #[]) (mvT hZ (hw _ (M 144)))) (mvT hZ (hw _ (M 144))) (mvT hZ (hw _ (M 143))) (by decide) (backOf (W := 0) ((bLatin l Z a0 hw ob va kA cap cnt vs zc h0 n0 (Nat.le_trans Z0 (Keep.refl h0 [ob, va]).1) ⟨B.1, B.2.1, B.2.2.1, B.2.2.2.1, B.2.2.2.2⟩ S_CS hz) []) hZ (hw _ (M 145)) (hw _ (M 68)) (by decide) (by decide)) q4a q4c (g := (mkF m 20 #[.val (.ref ob), .val (.long (0 : Int64)), .second, .val (.int cnt), .val (.int c2)] [(.ref ob)])) rfl (by rw [hml]; rfl) (Steps.refl _) (argsL := []) (rest := []) (lenOf pd_ocZ rfl) rfl (by show 2 * 0 + _ ≤ _; exact Nat.le_of_eq rfl) (hb hby d20_20) (fun _ _ => ⟨rfl, e3, (by decide : 0 + 0 ≤ _), (by decide : 0 + 0 ≤ _)⟩)
  dsimp only [Pt.U, Pt.locs, Pt.cells, Pt.slots] at X4 l4 y4 z4 st4 hQ4
  subst l4 y4 z4
  obtain ⟨rfl, N4q, e4⟩ := hQ4
  have N4 := Fr.app N3 N4q
  obtain ⟨T5, X5, e5, st5⟩ := getF X4 hx hZ hown (host := "") (Or.inl (hw _ (M 72))) Via.refl e4 B.2.1 (g := (mkF m 30 #[.val (.ref ob), .val (.long (0 : Int64)), .second, .val (.int cnt), .val (.int c2)] [(.ref ob), (.int c2), (.long (0 : Int64))])) rfl rfl (hb hby d20_30)
  obtain ⟨_, _, ⟨T6, L6, k6, n6⟩, -, X6, ⟨Lc6, hQ6, l6, y6, z6⟩, st6⟩ := Jvm.LawKit.callS X5 hx (y := (⟨"java/lang/Long", "getChars", "(JI[B)I"⟩ : MethodName)) hown (mvT hZ (hw _ (M 146))) (mvT hZ (hw _ (M 147))) (mvT hZ (hw _ (M 138))) (mvT hZ (hw _ (M 148))) (by decide) (backOf (W := 0) ((jChars l Z a0 hw va kA cap vs c2 cnt vt d1 cd h0 n0 (Nat.le_trans Z0 (Keep.refl h0 [ob, va]).1) B.2.2.2.2 g_va S_D1 Ad hind hatd hdec hj hi hset) []) hZ (hw _ (M 148)) (hw _ (M 138)) (by decide) (by decide)) (g := (mkF m 33 #[.val (.ref ob), .val (.long (0 : Int64)), .second, .val (.int cnt), .val (.int c2)] [(.ref va), (.int c2), (.long (0 : Int64))])) rfl (by rw [hml]; rfl) (argsL := [(.long (0 : Int64)), (.int c2), (.ref va)]) (rest := []) (lenOf pd_oJIABcI rfl) rfl (by show 2 * 0 + _ ≤ _; exact Nat.le_of_eq rfl) (hb hby d20_33) (fun _ _ => ⟨rfl, e5, (by decide : 0 + 0 ≤ _), (by decide : 0 + 0 ≤ _)⟩)
  dsimp only [Pt.U, Pt.locs, Pt.cells, Pt.slots] at X6 l6 y6 z6 st6 hQ6
  subst l6 y6 z6
  obtain ⟨rfl, N6q, Kq6, Vq6⟩ := hQ6
  have K6 : Keep h0 T6.heap [ob, va] := (Keep.refl h0 [ob, va]).trans Kq6 (allS (Or.inl (List.mem_of_getElem? (i := 1) rfl)) all0)
  have N6 := Fr.app N4 N6q
  obtain ⟨T7, h7, X7, e7, W7, st7⟩ := putF X6 hx hZ hown (host := "") (Or.inl (hw _ (M 100))) Via.refl rfl (B.2.2.2.1.keep Kq6 (ninS ne_ob_va nin0)) (B.1.keep Kq6) (Or.inl (hw _ (M 101))) (hw _ (M 59)) (ty := .int) (by decide) rfl rfl (g := (mkF m 55 #[.val (.ref ob), .val (.long (0 : Int64)), .second, .val (.int cnt), .val (.int c2)] [(.int c2), (.ref ob)])) rfl rfl (hb hby d20_55)
  have Fw7 := (B.2.2.2.1.keep Kq6 (ninS ne_ob_va nin0)).same W7
  have K7 : Keep h0 h7 [ob, va] := K6.wr W7 (Or.inl (List.mem_of_getElem? (i := 0) rfl))
  have N7 := Fr.snoc X7 N6 g_ob
  obtain ⟨fs, hr, hrun, hended, hW, hsame⟩ := X7.leave (v := some (.ref ob)) (fun h => by rw [Bd.returns] at h; cases h)
  refine ⟨_, _, pre0 _ ?_, hrun, hended, _, _, rfl, ?_, ⟨_, rfl⟩, hW, hsame.mono (by decide) (by decide)⟩
  · show Steps p.tables e below (s₁.setTop (mkF m 0 #[.val (.ref ob), .val (.long (0 : Int64)), .second, .unset, .unset] [])) _
    refine XS.aloadN X0.here hx rfl (hb hby d20_0) rfl rfl ?_
    refine st1 _ ?_
    show Steps p.tables e below (T1.setTop (mkF m 4 #[.val (.ref ob), .val (.long (0 : Int64)), .second, .unset, .unset] [(.int cnt)])) _
    refine XS.istoreN X1.here hx rfl (hb hby d20_4) rfl (l' := #[.val (.ref ob), .val (.long (0 : Int64)), .second, .val (.int cnt), .unset]) rfl ?_
    show Steps p.tables e below (T1.setTop (mkF m 5 #[.val (.ref ob), .val (.long (0 : Int64)), .second, .val (.int cnt), .unset] [])) _
    refine XS.iloadN X1.here hx rfl (hb hby d20_5) rfl ?_
    refine XS.lloadN X1.here hx rfl (hb hby d20_6) rfl ?_
    refine st2 _ ?_
    show Steps p.tables e below (T2.setTop (mkF m 10 #[.val (.ref ob), .val (.long (0 : Int64)), .second, .val (.int cnt), .unset] [(.int (1 : Int32)), (.int cnt)])) _
    refine XS.iadd X2.here hx rfl (hb hby d20_10) rfl ?_
    show Steps p.tables e below (T2.setTop (mkF m 11 #[.val (.ref ob), .val (.long (0 : Int64)), .second, .val (.int cnt), .unset] [(.int (cnt + (1 : Int32)))])) _
    rw [hsum]
    show Steps p.tables e below (T2.setTop (mkF m 11 #[.val (.ref ob), .val (.long (0 : Int64)), .second, .val (.int cnt), .unset] [(.int c2)])) _
    refine XS.istore X2.here hx rfl (hb hby d20_11) rfl (l' := #[.val (.ref ob), .val (.long (0 : Int64)), .second, .val (.int cnt), .val (.int c2)]) rfl ?_
    show Steps p.tables e below (T2.setTop (mkF m 13 #[.val (.ref ob), .val (.long (0 : Int64)), .second, .val (.int cnt), .val (.int c2)] [])) _
    refine XS.aloadN X2.here hx rfl (hb hby d20_13) rfl rfl ?_
    refine XS.iload X2.here hx rfl (hb hby d20_14) rfl ?_
    refine st3.trans ?_
    show Steps p.tables e below (T3.setTop (mkF m 19 #[.val (.ref ob), .val (.long (0 : Int64)), .second, .val (.int cnt), .val (.int c2)] [])) _
    refine XS.aloadN X3.here hx rfl (hb hby d20_19) rfl rfl ?_
    refine st4.trans ?_
    show Steps p.tables e below (T4.setTop (mkF m 23 #[.val (.ref ob), .val (.long (0 : Int64)), .second, .val (.int cnt), .val (.int c2)] [(.int (1 : Int32))])) _
    refine XS.ifNo X4.here hx rfl (hb hby d20_23) rfl ((if0 _ _).trans (feq (by decide : ¬ ((1 : Int32) = (0 : Int32)))).1) ?_
    show Steps p.tables e below (T4.setTop (mkF m 26 #[.val (.ref ob), .val (.long (0 : Int64)), .second, .val (.int cnt), .val (.int c2)] [])) _
    refine XS.lloadN X4.here hx rfl (hb hby d20_26) rfl ?_
    refine XS.iload X4.here hx rfl (hb hby d20_27) rfl ?_
    refine XS.aloadN X4.here hx rfl (hb hby d20_29) rfl rfl ?_
    refine st5 _ ?_
    show Steps p.tables e below (T5.setTop (mkF m 33 #[.val (.ref ob), .val (.long (0 : Int64)), .second, .val (.int cnt), .val (.int c2)] [(.ref va), (.int c2), (.long (0 : Int64))])) _
    refine st6 _ ?_
    show Steps p.tables e below (T6.setTop (mkF m 36 #[.val (.ref ob), .val (.long (0 : Int64)), .second, .val (.int cnt), .val (.int c2)] [(.int cnt)])) _
    refine XS.pop X6.here hx rfl (hb hby d20_36) rfl rfl ?_
    show Steps p.tables e below (T6.setTop (mkF m 37 #[.val (.ref ob), .val (.long (0 : Int64)), .second, .val (.int cnt), .val (.int c2)] [])) _
    refine XS.goto X6.here hx rfl (pc0 := 37) (pc' := 52) rfl (hb hby d20_37) (by decide) (by decide) ?_
    show Steps p.tables e below (T6.setTop (mkF m 52 #[.val (.ref ob), .val (.long (0 : Int64)), .second, .val (.int cnt), .val (.int c2)] [])) _
    refine XS.aloadN X6.here hx rfl (hb hby d20_52) rfl rfl ?_
    refine XS.iload X6.here hx rfl (hb hby d20_53) rfl ?_
    refine st7 _ ?_
    show Steps p.tables e below (T7.setTop (mkF m 58 #[.val (.ref ob), .val (.long (0 : Int64)), .second, .val (.int cnt), .val (.int c2)] [])) _
    refine XS.aloadN X7.here hx rfl (hb hby d20_58) rfl rfl ?_
    jvm_step X7.here [X7.here.top, hx, (hb hby d20_59), X7.method', Bd.returns, Value.isRef, FieldType.isReference]
    first | (intro acts; rw [hr _ acts rfl rfl rfl]) | rw [hr _ _ rfl rfl rfl]
    exact Steps.refl _
  · show (QE Z ob va cap c2 vt (some (.ref ob)) h0 n0) _ T7.heap _
    rw [e7]
    exact ⟨_, _, rfl, N7, K7, Or.inl rfl, g_va, ⟨((B.1.keep Kq6).wr W7), ((B.2.1.keep Kq6 (ninS ne_ob_va nin0)).other W7 (Or.inr (slot_ne (Or.inl (hw _ (M 73))) (Or.inl (hw _ (M 101))) (by decide) (t := (.array .byte)) (t' := .int) (by decide) (by decide)))), ((B.2.2.1.keep Kq6 (ninS ne_ob_va nin0)).other W7 (Or.inr (slot_ne (Or.inl (hw _ (M 75))) (Or.inl (hw _ (M 101))) (by decide) (t := .byte) (t' := .int) (by decide) (by decide)))), Fw7, (Vq6.other W7 (Ne.symm ne_ob_va))⟩⟩
theorem d19_0 : decode jdk_67_method_16_code 0 = .ok (.aload_n 0, 1) := by decide +kernel
theorem d19_1 : decode jdk_67_method_16_code 1 = .ok (.lload_n 1, 1) := by decide +kernel
theorem pd_oJcLjava_lang_AbstractStringBuilder_ : parseMethodDescriptor "(J)Ljava/lang/AbstractStringBuilder;" = some ⟨[.long], some (.object "java/lang/AbstractStringBuilder")⟩ := by decide +kernel
theorem d19_2 : decode jdk_67_method_16_code 2 = .ok (.invokespecial 56, 3) := by decide +kernel
theorem d19_5 : decode jdk_67_method_16_code 5 = .ok (.pop, 1) := by decide +kernel
theorem d19_6 : decode jdk_67_method_16_code 6 = .ok (.aload_n 0, 1) := by decide +kernel
theorem d19_7 : decode jdk_67_method_16_code 7 = .ok (.areturn, 1) := by decide +kernel
theorem pn_19 : plainName "java/lang/StringBuilder" = true := by first | (simp [plainName, overriddenIn]; done) | decide +kernel
theorem ef_19 (m : MethodId) (x0 : Addr) (x1 : Int64) : entryFrame m #[(.ref x0), (.long x1)] 3 = mkF m 0 #[.val (.ref x0), .val (.long x1), .second] [] := by first | (simp [entryFrame, mkF, argsToLocals, Value.category]; done) | rfl
set_option maxRecDepth 65536 in
set_option maxHeartbeats 40000000 in
theorem bAppJ (l : Launch) (Z : State) (a0 : Array Value) (hw : ∀ d ∈ tables_1, d.before a0 Z = true) (ob va : Addr) (kA : ClassId) (cap cnt : Int32) (vs : List Value) (zc : Int32) (c2 df : Int32) (vt : List Value) (d1 : Addr) (cd : Cell) (h0 : Heap) (n0 : Nat) (Z0 : n0 ≤ h0.size) (B : BdS Z h0 ob va kA cap cnt vs) (S_CS : Sta Z h0 "java/lang/String" "COMPACT_STRINGS" "Z" (.int zc)) (hz : ¬ (zc = (0 : Int32))) (g_ob : n0 ≤ ob) (g_va : n0 ≤ va) (hsum : (cnt + (1 : Int32)) = c2) (hdf : (c2 - cap) = df) (hroom : ¬ ((0 : Int32) < df)) (S_D1 : Sta Z h0 "java/lang/Integer" "DigitOnes" "[B" (.ref d1)) (Ad : Arr Z h0 d1 cd .byte) (hind : ¬ ((0 : Int32) < 0 ∨ cd.slots.size ≤ (0 : Int32).toNatClampNeg)) (hatd : cd.slots[(0 : Int32).toNatClampNeg]? = some (.int (48 : Int32))) (hdec : (c2 + (-1 : Int32)) = cnt) (hj : ¬ cnt < 0 ∧ cnt < cap) (hi : cnt.toNatClampNeg < vs.length) (hset : vs.set cnt.toNatClampNeg (.int (48 : Int32)) = vt) :
    MQ l Z (⟨"java/lang/StringBuilder", "append", "(J)Ljava/lang/StringBuilder;"⟩ : MethodName) jdk_67_method_16_code 3 (some (.object "java/lang/StringBuilder")) ({ frames := 2, cells := 0, slots := 0, locals := 38 } : Room) #[(.ref ob), (.long (0 : Int64))] h0 (QE Z ob va cap c2 vt (some (.ref ob)) h0 n0) := by
  intro ws
  refine MetFree.of_bodySF (plainFor_of_name pn_19) hisR ?_
  intro p e s m args below meth c s₁ Bd hml0 hP hK
  obtain ⟨rfl, hZ, hh⟩ := hP
  have hx := Bd.exec
  have hby := Bd.bytes
  have hml : c.maxLocals = 3 := hml0
  have hown : s.vm.findClass "java/lang/StringBuilder" = some m.cls := findClass_of_methodNamed Bd.named
  have hnm := (name_of_methodNamed Bd.named Bd.method).1
  have X0 : Stand p l e ({ frames := 2, cells := 0, slots := 0, locals := 38 } : Room) s m #[(.ref ob), (.long (0 : Int64))] below meth c s₁ [] 0 0 := Stand.of_body Bd
  have e0 : s₁.heap = h0 := by rw [← hh, Bd.state]; rfl
  have N0 := Fr.nil n0
  have pre0 : ∀ t_, Steps p.tables e below (s₁.setTop (mkF m 0 #[.val (.ref ob), .val (.long (0 : Int64)), .second] [])) t_ → Steps p.tables e below (s₁.setTop (entryFrame m #[(.ref ob), (.long (0 : Int64))] 3)) t_ := fun t_ k_ => castTop (ef_19 m ob (0 : Int64)) k_
  obtain ⟨_, _, ⟨T1, L1, k1, n1⟩, -, X1, ⟨Lc1, hQ1, l1, y1, z1⟩, st1⟩ := superBack X0 hx hZ (y := (⟨"java/lang/AbstractStringBuilder", "append", "(J)Ljava/lang/AbstractStringBuilder;"⟩ : MethodName)) hown (hw _ (M 132)) (own_same (y := (⟨"java/lang/AbstractStringBuilder", "append", "(J)Ljava/lang/AbstractStringBuilder;"⟩ : MethodName)) (y' := (⟨"java/lang/AbstractStringBuilder", "ensureCapacityInternal", "(I)V"⟩ : MethodName)) rfl (by decide) (hw _ (M 134)) (hw _ (M 105))) (hw _ (M 133)) (hw _ (M 84)) (by decide) (backOf (W := 0) ((aAppJ l Z a0 hw ob va kA cap cnt vs zc c2 df vt d1 cd h0 n0 Z0 B S_CS hz g_ob g_va hsum hdf hroom S_D1 Ad hind hatd hdec hj hi hset) []) hZ (hw _ (M 135)) (hw _ (M 68)) (by decide) (by decide)) e0 (Ins.self B.1) (g := (mkF m 2 #[.val (.ref ob), .val (.long (0 : Int64)), .second] [(.long (0 : Int64)), (.ref ob)])) rfl (by rw [hml]; rfl) (hw _ (M 135)) (argsL := [(.long (0 : Int64))]) (rest := []) (lenOf pd_oJcLjava_lang_AbstractStringBuilder_ rfl) rfl (by show 2 * 0 + _ ≤ _; exact Nat.le_of_eq rfl) (hb hby d19_2) (fun _ _ => ⟨rfl, e0, (by decide : 0 + 0 ≤ _), (by decide : 0 + 0 ≤ _)⟩)
  dsimp only [Pt.U, Pt.locs, Pt.cells, Pt.slots] at X1 l1 y1 z1 st1 hQ1
  subst l1 y1 z1
  obtain ⟨vb1, kb1, rfl, N1q, Kq1, or1, gg1, Bq1⟩ := hQ1
  have N1 := Fr.app N0 N1q
  obtain ⟨fs, hr, hrun, hended, hW, hsame⟩ := X1.leave (v := some (.ref ob)) (fun h => by rw [Bd.returns] at h; cases h)
  refine ⟨_, _, pre0 _ ?_, hrun, hended, _, _, rfl, ?_, ⟨_, rfl⟩, hW, hsame.mono (by decide) (by decide)⟩
  · show Steps p.tables e below (s₁.setTop (mkF m 0 #[.val (.ref ob), .val (.long (0 : Int64)), .second] [])) _
    refine XS.aloadN X0.here hx rfl (hb hby d19_0) rfl rfl ?_
    refine XS.lloadN X0.here hx rfl (hb hby d19_1) rfl ?_
    refine st1.trans ?_
    show Steps p.tables e below (T1.setTop (mkF m 5 #[.val (.ref ob), .val (.long (0 : Int64)), .second] [(.ref ob)])) _
    refine XS.pop X1.here hx rfl (hb hby d19_5) rfl rfl ?_
    show Steps p.tables e below (T1.setTop (mkF m 6 #[.val (.ref ob), .val (.long (0 : Int64)), .second] [])) _
    refine XS.aloadN X1.here hx rfl (hb hby d19_6) rfl rfl ?_
    jvm_step X1.here [X1.here.top, hx, (hb hby d19_7), X1.method', Bd.returns, Value.isRef, FieldType.isReference]
    first | (intro acts; rw [hr _ acts rfl rfl rfl]) | rw [hr _ _ rfl rfl rfl]
    exact Steps.refl _
  · show (QE Z ob va cap c2 vt (some (.ref ob)) h0 n0) _ T1.heap _
    exact ⟨_, _, rfl, N1, Kq1, or1, gg1, Bq1⟩
theorem d10_0 : decode jdk_68_method_2_code 0 = .ok (.aload_n 0, 1) := by decide +kernel
theorem d10_1 : decode jdk_68_method_2_code 1 = .ok (.invokespecial 3, 3) := by decide +kernel
theorem d10_4 : decode jdk_68_method_2_code 4 = .ok (.getstatic 18, 3) := by decide +kernel
theorem d10_7 : decode jdk_68_method_2_code 7 = .ok (.ifCond .eq 18, 3) := by decide +kernel
theorem d10_10 : decode jdk_68_method_2_code 10 = .ok (.aload_n 0, 1) := by decide +kernel
theorem d10_11 : decode jdk_68_method_2_code 11 = .ok (.iload_n 1, 1) := by decide +kernel
theorem d10_12 : decode jdk_68_method_2_code 12 = .ok (.newarray .byte, 2) := by decide +kernel
theorem d10_14 : decode jdk_68_method_2_code 14 = .ok (.putfield 15, 3) := by decide +kernel
theorem d10_17 : decode jdk_68_method_2_code 17 = .ok (.aload_n 0, 1) := by decide +kernel
theorem d10_18 : decode jdk_68_method_2_code 18 = .ok (.iconst 0, 1) := by decide +kernel
theorem d10_19 : decode jdk_68_method_2_code 19 = .ok (.putfield 22, 3) := by decide +kernel
theorem d10_22 : decode jdk_68_method_2_code 22 = .ok (.goto 16, 3) := by decide +kernel
theorem d10_38 : decode jdk_68_method_2_code 38 = .ok (.return_, 1) := by decide +kernel
theorem pn_10 : plainName "java/lang/AbstractStringBuilder" = true := by first | (simp [plainName, overriddenIn]; done) | decide +kernel
theorem ef_10 (m : MethodId) (x0 : Addr) (x1 : Int32) : entryFrame m #[(.ref x0), (.int x1)] 2 = mkF m 0 #[.val (.ref x0), .val (.int x1)] [] := by first | (simp [entryFrame, mkF, argsToLocals, Value.category]; done) | rfl
set_option maxRecDepth 65536 in
set_option maxHeartbeats 40000000 in
theorem aInit (l : Launch) (Z : State) (a0 : Array Value) (hw : ∀ d ∈ tables_1, d.before a0 Z = true) (zc : Int32) (ob : Addr) (h0 : Heap) (n0 : Nat) (Z0 : n0 ≤ h0.size) (S_CS : Sta Z h0 "java/lang/String" "COMPACT_STRINGS" "Z" (.int zc)) (hz : ¬ (zc = (0 : Int32))) (E_ob : Exa Z h0 ob "java/lang/StringBuilder") (F_value_ob : Fld Z h0 ob "java/lang/AbstractStringBuilder" "value" "[B" .null) (F_coder_ob : Fld Z h0 ob "java/lang/AbstractStringBuilder" "coder" "B" (.int (0 : Int32))) (F_count_ob : Fld Z h0 ob "java/lang/AbstractStringBuilder" "count" "I" (.int (0 : Int32))) (g_ob : n0 ≤ ob) :
    MQ l Z (⟨"java/lang/AbstractStringBuilder", "<init>", "(I)V"⟩ : MethodName) jdk_68_method_2_code 2 none ({ frames := 1, cells := 1, slots := 16, locals := 12 } : Room) #[(.ref ob), (.int (16 : Int32))] h0 (QI Z ob h0 n0) := by
  intro ws
  refine MetFree.of_bodySF (plainFor_of_name pn_10) hisR ?_
  intro p e s m args below meth c s₁ Bd hml0 hP hK
  obtain ⟨rfl, hZ, hh⟩ := hP
  have hx := Bd.exec
  have hby := Bd.bytes
  have hml : c.maxLocals = 2 := hml0
  have hown : s.vm.findClass "java/lang/AbstractStringBuilder" = some m.cls := findClass_of_methodNamed Bd.named
  have hnm := (name_of_methodNamed Bd.named Bd.method).1
  have X0 : Stand p l e ({ frames := 1, cells := 1, slots := 16, locals := 12 } : Room) s m #[(.ref ob), (.int (16 : Int32))] below meth c s₁ [] 0 0 := Stand.of_body Bd
  have e0 : s₁.heap = h0 := by rw [← hh, Bd.state]; rfl
  have N0 := Fr.nil n0
  have pre0 : ∀ t_, Steps p.tables e below (s₁.setTop (mkF m 0 #[.val (.ref ob), .val (.int (16 : Int32))] [])) t_ → Steps p.tables e below (s₁.setTop (entryFrame m #[(.ref ob), (.int (16 : Int32))] 2)) t_ := fun t_ k_ => castTop (ef_10 m ob (16 : Int32)) k_
  obtain ⟨T1, X1, e1, st1⟩ := initO X0 hx hZ hown (hw _ (M 70)) (hw _ (M 13)) (hw _ (M 14)) e0 (g := (mkF m 1 #[.val (.ref ob), .val (.int (16 : Int32))] [(.ref ob)])) rfl (by rw [hml]; rfl) rfl (hb hby d10_1) (by decide) (W := 0) (by show 2 * 0 + _ ≤ _; exact Nat.le_of_eq rfl) (by decide)
  obtain ⟨T2, X2, e2, st2⟩ := getS2 X1 hx hZ hown (host := "") (Or.inl (hw _ (M 71))) Via.refl e1 S_CS (g := (mkF m 4 #[.val (.ref ob), .val (.int (16 : Int32))] [])) rfl (hb hby d10_4)
  obtain ⟨T3, h3, k3, X3, e3, E3, A3, st3⟩ := newP X2 hx hZ (aty := .byte) (hw _ (M 48)) e2 (g := (mkF m 12 #[.val (.ref ob), .val (.int (16 : Int32))] [(.int (16 : Int32)), (.ref ob)])) rfl (hb hby d10_12) rfl (by decide) (cap := 16) (by decide) (by decide) (by decide) (by decide)
  obtain ⟨b3, g3⟩ : ∃ z, z = h0.size := ⟨_, rfl⟩
  rw [← g3] at A3 st3
  have sz_b3 : h0.size ≤ b3 := Nat.le_trans (Keep.refl h0 [ob]).1 (Nat.le_of_eq g3.symm)
  have g_b3 : n0 ≤ b3 := Nat.le_trans Z0 sz_b3
  have ne_ob_b3 : ob ≠ b3 := Nat.ne_of_lt (Nat.lt_of_lt_of_le E_ob.lt (Nat.le_of_eq g3.symm))
  have K3 : Keep h0 h3 [ob] := (Keep.refl h0 [ob]).ext E3
  have V3 : Arv Z h3 b3 k3 .byte (16 : Int32) (List.replicate (16 : Int32).toNatClampNeg (.int (0 : Int32))) (.int (0 : Int32)) := (Arv.new A3 (by decide)).pad (pad_rep [] (.int (0 : Int32)) (16 : Int32).toNatClampNeg)
  obtain ⟨T4, h4, X4, e4, W4, st4⟩ := putF X3 hx hZ hown (host := "") (Or.inl (hw _ (M 72))) Via.refl e3 (F_value_ob.ext E3) (E_ob.ext E3) (Or.inl (hw _ (M 73))) (hw _ (M 59)) (ty := (.array .byte)) (by decide) rfl rfl (g := (mkF m 14 #[.val (.ref ob), .val (.int (16 : Int32))] [(.ref b3), (.ref ob)])) rfl rfl (hb hby d10_14)
  have Fw4 := (F_value_ob.ext E3).same W4
  have K4 : Keep h0 h4 [ob] := K3.wr W4 (Or.inl (List.mem_of_getElem? (i := 0) rfl))
  have N4 := Fr.snoc X4 N0 g_ob
  obtain ⟨T5, h5, X5, e5, W5, st5⟩ := putFN X4 hx hZ hown (hw _ (M 74)) Via.refl e4 ((F_coder_ob.ext E3).other W4 (Or.inr (slot_ne (Or.inl (hw _ (M 75))) (Or.inl (hw _ (M 73))) (by decide) (t := .byte) (t' := (.array .byte)) (by decide) (by decide)))) ((E_ob.ext E3).wr W4) (Or.inl (hw _ (M 75))) (hw _ (M 59)) (ty := .byte) (v' := (.int (0 : Int32))) (by decide) rfl (by decide) (g := (mkF m 19 #[.val (.ref ob), .val (.int (16 : Int32))] [(.int (0 : Int32)), (.ref ob)])) rfl rfl (hb hby d10_19)
  have Fw5 := ((F_coder_ob.ext E3).other W4 (Or.inr (slot_ne (Or.inl (hw _ (M 75))) (Or.inl (hw _ (M 73))) (by decide) (t := .byte) (t' := (.array .byte)) (by decide) (by decide)))).same W5
  have K5 : Keep h0 h5 [ob] := K4.wr W5 (Or.inl (List.mem_of_getElem? (i := 0) rfl))
  have N5 := Fr.snoc X5 N4 g_ob
  obtain ⟨fs, hr, hrun, hended, hW, hsame⟩ := X5.leave (v := none) (fun _ => rfl)
  refine ⟨_, _, pre0 _ ?_, hrun, hended, _, _, rfl, ?_, ⟨_, rfl⟩, hW, hsame.mono (by decide) (by decide)⟩
  · show Steps p.tables e below (s₁.setTop (mkF m 0 #[.val (.ref ob), .val (.int (16 : Int32))] [])) _
    refine XS.aloadN X0.here hx rfl (hb hby d10_0) rfl rfl ?_
    refine st1 _ ?_
    show Steps p.tables e below (T1.setTop (mkF m 4 #[.val (.ref ob), .val (.int (16 : Int32))] [])) _
    refine st2 _ ?_
    show Steps p.tables e below (T2.setTop (mkF m 7 #[.val (.ref ob), .val (.int (16 : Int32))] [(.int zc)])) _
    refine XS.ifNo X2.here hx rfl (hb hby d10_7) rfl ((if0 _ _).trans (feq hz).1) ?_
    show Steps p.tables e below (T2.setTop (mkF m 10 #[.val (.ref ob), .val (.int (16 : Int32))] [])) _
    refine XS.aloadN X2.here hx rfl (hb hby d10_10) rfl rfl ?_
    refine XS.iloadN X2.here hx rfl (hb hby d10_11) rfl ?_
    refine st3 _ ?_
    show Steps p.tables e below (T3.setTop (mkF m 14 #[.val (.ref ob), .val (.int (16 : Int32))] [(.ref b3), (.ref ob)])) _
    refine st4 _ ?_
    show Steps p.tables e below (T4.setTop (mkF m 17 #[.val (.ref ob), .val (.int (16 : Int32))] [])) _
    refine XS.aloadN X4.here hx rfl (hb hby d10_17) rfl rfl ?_
    refine XS.iconst X4.here hx rfl (hb hby d10_18) ?_
    refine st5 _ ?_
    show Steps p.tables e below (T5.setTop (mkF m 22 #[.val (.ref ob), .val (.int (16 : Int32))] [])) _
    refine XS.goto X5.here hx rfl (pc0 := 22) (pc' := 38) rfl (hb hby d10_22) (by decide) (by decide) ?_
    show Steps p.tables e below (T5.setTop (mkF m 38 #[.val (.ref ob), .val (.int (16 : Int32))] [])) _
    exact X5.returnOut hx Bd.returns (hb hby d10_38) hr
  · show (QI Z ob h0 n0) _ T5.heap _
    rw [e5]
    exact ⟨_, _, rfl, N5, K5, sz_b3, ⟨(((E_ob.ext E3).wr W4).wr W5), (Fw4.other W5 (Or.inr (slot_ne (Or.inl (hw _ (M 73))) (Or.inl (hw _ (M 75))) (by decide) (t := (.array .byte)) (t' := .byte) (by decide) (by decide)))), Fw5, (((F_count_ob.ext E3).other W4 (Or.inr (slot_ne (Or.inl (hw _ (M 101))) (Or.inl (hw _ (M 73))) (by decide) (t := .int) (t' := (.array .byte)) (by decide) (by decide)))).other W5 (Or.inr (slot_ne (Or.inl (hw _ (M 101))) (Or.inl (hw _ (M 75))) (by decide) (t := .int) (t' := .byte) (by decide) (by decide)))), ((V3.other W4 (Ne.symm ne_ob_b3)).other W5 (Ne.symm ne_ob_b3))⟩⟩
theorem d9_0 : decode jdk_67_method_1_code 0 = .ok (.aload_n 0, 1) := by decide +kernel
theorem d9_1 : decode jdk_67_method_1_code 1 = .ok (.bipush 16, 2) := by decide +kernel
theorem d9_3 : decode jdk_67_method_1_code 3 = .ok (.invokespecial 1, 3) := by decide +kernel
theorem d9_6 : decode jdk_67_method_1_code 6 = .ok (.return_, 1) := by decide +kernel
theorem pn_9 : plainName "java/lang/StringBuilder" = true := by first | (simp [plainName, overriddenIn]; done) | decide +kernel
theorem ef_9 (m : MethodId) (x0 : Addr) : entryFrame m #[(.ref x0)] 1 = mkF m 0 #[.val (.ref x0)] [] := by first | (simp [entryFrame, mkF, argsToLocals, Value.category]; done) | rfl
set_option maxRecDepth 65536 in
set_option maxHeartbeats 40000000 in
theorem bInit (l : Launch) (Z : State) (a0 : Array Value) (hw : ∀ d ∈ tables_1, d.before a0 Z = true) (zc : Int32) (ob : Addr) (h0 : Heap) (n0 : Nat) (Z0 : n0 ≤ h0.size) (S_CS : Sta Z h0 "java/lang/String" "COMPACT_STRINGS" "Z" (.int zc)) (hz : ¬ (zc = (0 : Int32))) (E_ob : Exa Z h0 ob "java/lang/StringBuilder") (F_value_ob : Fld Z h0 ob "java/lang/AbstractStringBuilder" "value" "[B" .null) (F_coder_ob : Fld Z h0 ob "java/lang/AbstractStringBuilder" "coder" "B" (.int (0 : Int32))) (F_count_ob : Fld Z h0 ob "java/lang/AbstractStringBuilder" "count" "I" (.int (0 : Int32))) (g_ob : n0 ≤ ob) :
    MQ l Z (⟨"java/lang/StringBuilder", "<init>", "()V"⟩ : MethodName) jdk_67_method_1_code 1 none ({ frames := 2, cells := 1, slots := 16, locals := 25 } : Room) #[(.ref ob)] h0 (QI Z ob h0 n0) := by
  intro ws
  refine MetFree.of_bodySF (plainFor_of_name pn_9) hisR ?_
  intro p e s m args below meth c s₁ Bd hml0 hP hK
  obtain ⟨rfl, hZ, hh⟩ := hP
  have hx := Bd.exec
  have hby := Bd.bytes
  have hml : c.maxLocals = 1 := hml0
  have hown : s.vm.findClass "java/lang/StringBuilder" = some m.cls := findClass_of_methodNamed Bd.named
  have hnm := (name_of_methodNamed Bd.named Bd.method).1
  have X0 : Stand p l e ({ frames := 2, cells := 1, slots := 16, locals := 25 } : Room) s m #[(.ref ob)] below meth c s₁ [] 0 0 := Stand.of_body Bd
  have e0 : s₁.heap = h0 := by rw [← hh, Bd.state]; rfl
  have N0 := Fr.nil n0
  have pre0 : ∀ t_, Steps p.tables e below (s₁.setTop (mkF m 0 #[.val (.ref ob)] [])) t_ → Steps p.tables e below (s₁.setTop (entryFrame m #[(.ref ob)] 1)) t_ := fun t_ k_ => castTop (ef_9 m ob) k_
  obtain ⟨_, _, ⟨T1, L1, k1, n1⟩, -, X1, ⟨Lc1, hQ1, l1, y1, z1⟩, st1⟩ := X0.specialBack hx (y := (⟨"java/lang/AbstractStringBuilder", "<init>", "(I)V"⟩ : MethodName)) rfl hown (mvT hZ (hw _ (M 64))) (mvT hZ (hw _ (M 65))) (mvT hZ (hw _ (M 69))) (by decide) (backOf (W := 0) ((aInit l Z a0 hw zc ob h0 n0 Z0 S_CS hz E_ob F_value_ob F_coder_ob F_count_ob g_ob) []) hZ (hw _ (M 69)) (hw _ (M 68)) (by decide) (by decide)) (g := (mkF m 3 #[.val (.ref ob)] [(.int (16 : Int32)), (.ref ob)])) rfl (by rw [hml]; rfl) (Steps.refl _) (a := ob) (argsL := [(.int (16 : Int32))]) (rest := []) (lenOf pd_oIcV rfl) rfl (by show 2 * 0 + _ ≤ _; exact Nat.le_of_eq rfl) (hb hby d9_3) (fun _ _ => ⟨rfl, e0, (by decide : 0 + 1 ≤ _), (by decide : 0 + 16 ≤ _)⟩)
  dsimp only [Pt.U, Pt.locs, Pt.cells, Pt.slots] at X1 l1 y1 z1 st1 hQ1
  subst l1 y1 z1
  obtain ⟨va1, kA1, rfl, N1q, Kq1, sz1q, Bq1⟩ := hQ1
  have N1 := Fr.app N0 N1q
  obtain ⟨fs, hr, hrun, hended, hW, hsame⟩ := X1.leave (v := none) (fun _ => rfl)
  refine ⟨_, _, pre0 _ ?_, hrun, hended, _, _, rfl, ?_, ⟨_, rfl⟩, hW, hsame.mono (by decide) (by decide)⟩
  · show Steps p.tables e below (s₁.setTop (mkF m 0 #[.val (.ref ob)] [])) _
    refine XS.aloadN X0.here hx rfl (hb hby d9_0) rfl rfl ?_
    refine XS.bipush X0.here hx rfl (hb hby d9_1) ?_
    refine st1.trans ?_
    show Steps p.tables e below (T1.setTop (mkF m 6 #[.val (.ref ob)] [])) _
    exact X1.returnOut hx Bd.returns (hb hby d9_6) hr
  · show (QI Z ob h0 n0) _ T1.heap _
    exact ⟨_, _, rfl, N1, Kq1, sz1q, Bq1⟩
theorem d37_0 : decode jdk_65_method_131_code 0 = .ok (.iload_n 1, 1) := by decide +kernel
theorem d37_1 : decode jdk_65_method_131_code 1 = .ok (.iload_n 0, 1) := by decide +kernel
theorem d37_2 : decode jdk_65_method_131_code 2 = .ok (.if_icmp .ge 35, 3) := by decide +kernel
theorem d37_37 : decode jdk_65_method_131_code 37 = .ok (.return_, 1) := by decide +kernel
theorem pn_37 : plainName "java/util/Arrays" = true := by first | (simp [plainName, overriddenIn]; done) | decide +kernel
theorem ef_37 (m : MethodId) (x0 : Int32) (x1 : Int32) : entryFrame m #[(.int x0), (.int x1)] 2 = mkF m 0 #[.val (.int x0), .val (.int x1)] [] := by first | (simp [entryFrame, mkF, argsToLocals, Value.category]; done) | rfl
set_option maxRecDepth 65536 in
set_option maxHeartbeats 40000000 in
theorem cLen (l : Launch) (Z : State) (a0 : Array Value) (hw : ∀ d ∈ tables_1, d.before a0 Z = true) (x0 x1 : Int32) (h0 : Heap) (n0 : Nat) (Z0 : n0 ≤ h0.size) (hc2 : ¬ (x1 < x0)) :
    MQ l Z (⟨"java/util/Arrays", "checkLength", "(II)V"⟩ : MethodName) jdk_65_method_131_code 2 none ({ frames := 0, cells := 0, slots := 0, locals := 0 } : Room) #[(.int x0), (.int x1)] h0 (QN h0 n0) := by
  intro ws
  refine MetFree.of_bodySF (plainFor_of_name pn_37) hisR ?_
  intro p e s m args below meth c s₁ Bd hml0 hP hK
  obtain ⟨rfl, hZ, hh⟩ := hP
  have hx := Bd.exec
  have hby := Bd.bytes
  have hml : c.maxLocals = 2 := hml0
  have hown : s.vm.findClass "java/util/Arrays" = some m.cls := findClass_of_methodNamed Bd.named
  have hnm := (name_of_methodNamed Bd.named Bd.method).1
  have X0 : Stand p l e ({ frames := 0, cells := 0, slots := 0, locals := 0 } : Room) s m #[(.int x0), (.int x1)] below meth c s₁ [] 0 0 := Stand.of_body Bd
  have e0 : s₁.heap = h0 := by rw [← hh, Bd.state]; rfl
  have N0 := Fr.nil n0
  have pre0 : ∀ t_, Steps p.tables e below (s₁.setTop (mkF m 0 #[.val (.int x0), .val (.int x1)] [])) t_ → Steps p.tables e below (s₁.setTop (entryFrame m #[(.int x0), (.int x1)] 2)) t_ := fun t_ k_ => castTop (ef_37 m x0 x1) k_
  obtain ⟨fs, hr, hrun, hended, hW, hsame⟩ := X0.leave (v := none) (fun _ => rfl)
  refine ⟨_, _, pre0 _ ?_, hrun, hended, _, _, rfl, ?_, ⟨_, rfl⟩, hW, hsame.mono (by decide) (by decide)⟩
  · show Steps p.tables e below (s₁.setTop (mkF m 0 #[.val (.int x0), .val (.int x1)] [])) _
    refine XS.iloadN X0.here hx rfl (hb hby d37_0) rfl ?_
    refine XS.iloadN X0.here hx rfl (hb hby d37_1) rfl ?_
    refine XS.icmpYes X0.here hx rfl (pc0 := 2) (pc' := 37) rfl (hb hby d37_2) rfl (flt hc2).2.1 (by decide) (by decide) ?_
    show Steps p.tables e below (s₁.setTop (mkF m 37 #[.val (.int x0), .val (.int x1)] [])) _
    exact X0.returnOut hx Bd.returns (hb hby d37_37) hr
  · show (QN h0 n0) _ s₁.heap _
    rw [e0]
    exact ⟨rfl, N0, rfl⟩
theorem d36_0 : decode jdk_65_method_133_code 0 = .ok (.iload_n 1, 1) := by decide +kernel
theorem d36_1 : decode jdk_65_method_133_code 1 = .ok (.iload_n 2, 1) := by decide +kernel
theorem pd_oIIcV : parseMethodDescriptor "(II)V" = some ⟨[.int, .int], none⟩ := by decide +kernel
theorem d36_2 : decode jdk_65_method_133_code 2 = .ok (.invokestatic 343, 3) := by decide +kernel
theorem d36_5 : decode jdk_65_method_133_code 5 = .ok (.iload_n 2, 1) := by decide +kernel
theorem d36_6 : decode jdk_65_method_133_code 6 = .ok (.iload_n 1, 1) := by decide +kernel
theorem d36_7 : decode jdk_65_method_133_code 7 = .ok (.isub, 1) := by decide +kernel
theorem d36_8 : decode jdk_65_method_133_code 8 = .ok (.istore_n 3, 1) := by decide +kernel
theorem d36_9 : decode jdk_65_method_133_code 9 = .ok (.iload_n 3, 1) := by decide +kernel
theorem d36_10 : decode jdk_65_method_133_code 10 = .ok (.newarray .byte, 2) := by decide +kernel
theorem d36_12 : decode jdk_65_method_133_code 12 = .ok (.astore 4, 2) := by decide +kernel
theorem d36_14 : decode jdk_65_method_133_code 14 = .ok (.aload_n 0, 1) := by decide +kernel
theorem d36_15 : decode jdk_65_method_133_code 15 = .ok (.iload_n 1, 1) := by decide +kernel
theorem d36_16 : decode jdk_65_method_133_code 16 = .ok (.aload 4, 2) := by decide +kernel
theorem d36_18 : decode jdk_65_method_133_code 18 = .ok (.iconst 0, 1) := by decide +kernel
theorem d36_19 : decode jdk_65_method_133_code 19 = .ok (.aload_n 0, 1) := by decide +kernel
theorem d36_20 : decode jdk_65_method_133_code 20 = .ok (.arraylength, 1) := by decide +kernel
theorem d36_21 : decode jdk_65_method_133_code 21 = .ok (.iload_n 1, 1) := by decide +kernel
theorem d36_22 : decode jdk_65_method_133_code 22 = .ok (.isub, 1) := by decide +kernel
theorem d36_23 : decode jdk_65_method_133_code 23 = .ok (.iload_n 3, 1) := by decide +kernel
theorem d36_24 : decode jdk_65_method_133_code 24 = .ok (.invokestatic 304, 3) := by decide +kernel
theorem d36_27 : decode jdk_65_method_133_code 27 = .ok (.invokestatic 150, 3) := by decide +kernel
theorem d36_30 : decode jdk_65_method_133_code 30 = .ok (.aload 4, 2) := by decide +kernel
theorem d36_32 : decode jdk_65_method_133_code 32 = .ok (.areturn, 1) := by decide +kernel
theorem pn_36 : plainName "java/util/Arrays" = true := by first | (simp [plainName, overriddenIn]; done) | decide +kernel
theorem ef_36 (m : MethodId) (x0 : Addr) (x1 : Int32) (x2 : Int32) : entryFrame m #[(.ref x0), (.int x1), (.int x2)] 5 = mkF m 0 #[.val (.ref x0), .val (.int x1), .val (.int x2), .unset, .unset] [] := by first | (simp [entryFrame, mkF, argsToLocals, Value.category]; done) | rfl
set_option maxRecDepth 65536 in
set_option maxHeartbeats 40000000 in
theorem cRangeB (l : Launch) (Z : State) (a0 : Array Value) (hw : ∀ d ∈ tables_1, d.before a0 Z = true) (va : Addr) (kA : ClassId) (cap cnt : Int32) (vs vt : List Value) (h0 : Heap) (n0 : Nat) (Z0 : n0 ≤ h0.size) (A : Arv Z h0 va kA .byte cap vs (.int (0 : Int32))) (hcn0 : ¬ cnt < 0) (hcn : cnt.toNatClampNeg ≤ 45) (hlt : cnt < cap) (hcc : (0 : Int32).toNatClampNeg + cnt.toNatClampNeg ≤ cap.toNatClampNeg) (hcp : own_cp vs (.int (0 : Int32)) (0 : Int32) (List.replicate cnt.toNatClampNeg (.int (0 : Int32))) (0 : Int32) cnt = vt) :
    MQ l Z (⟨"java/util/Arrays", "copyOfRangeByte", "([BII)[B"⟩ : MethodName) jdk_65_method_133_code 5 (some (.array .byte)) ({ frames := 1, cells := 1, slots := 45, locals := 18 } : Room) #[(.ref va), (.int (0 : Int32)), (.int cnt)] h0 (QA Z cnt vt h0 n0) := by
  intro ws
  refine MetFree.of_bodySF (plainFor_of_name pn_36) hisR ?_
  intro p e s m args below meth c s₁ Bd hml0 hP hK
  obtain ⟨rfl, hZ, hh⟩ := hP
  have hx := Bd.exec
  have hby := Bd.bytes
  have hml : c.maxLocals = 5 := hml0
  have hown : s.vm.findClass "java/util/Arrays" = some m.cls := findClass_of_methodNamed Bd.named
  have hnm := (name_of_methodNamed Bd.named Bd.method).1
  have X0 : Stand p l e ({ frames := 1, cells := 1, slots := 45, locals := 18 } : Room) s m #[(.ref va), (.int (0 : Int32)), (.int cnt)] below meth c s₁ [] 0 0 := Stand.of_body Bd
  have e0 : s₁.heap = h0 := by rw [← hh, Bd.state]; rfl
  have N0 := Fr.nil n0
  have pre0 : ∀ t_, Steps p.tables e below (s₁.setTop (mkF m 0 #[.val (.ref va), .val (.int (0 : Int32)), .val (.int cnt), .unset, .unset] [])) t_ → Steps p.tables e below (s₁.setTop (entryFrame m #[(.ref va), (.int (0 : Int32)), (.int cnt)] 5)) t_ := fun t_ k_ => castTop (ef_36 m va (0 : Int32) cnt) k_
  obtain ⟨_, _, ⟨T1, L1, k1, n1⟩, -, X1, ⟨Lc1, hQ1, l1, y1, z1⟩, st1⟩ := Jvm.LawKit.callS X0 hx (y := (⟨"java/util/Arrays", "checkLength", "(II)V"⟩ : MethodName)) hown (mvT hZ (hw _ (M 213))) (mvT hZ (hw _ (M 214))) (mvT hZ (hw _ (M 170))) (mvT hZ (hw _ (M 215))) (by decide) (backOf (W := 0) ((cLen l Z a0 hw (0 : Int32) cnt h0 n0 (Nat.le_trans Z0 (Keep.refl h0 []).1) hcn0) []) hZ (hw _ (M 215)) (hw _ (M 170)) (by decide) (by decide)) (g := (mkF m 2 #[.val (.ref va), .val (.int (0 : Int32)), .val (.int cnt), .unset, .unset] [(.int cnt), (.int (0 : Int32))])) rfl (by rw [hml]; rfl) (argsL := [(.int (0 : Int32)), (.int cnt)]) (rest := []) (lenOf pd_oIIcV rfl) rfl (by show 2 * 0 + _ ≤ _; exact Nat.le_of_eq rfl) (hb hby d36_2) (fun _ _ => ⟨rfl, e0, (by decide : 0 + 0 ≤ _), (by decide : 0 + 0 ≤ _)⟩)
  dsimp only [Pt.U, Pt.locs, Pt.cells, Pt.slots] at X1 l1 y1 z1 st1 hQ1
  subst l1 y1 z1
  obtain ⟨rfl, N1q, e1⟩ := hQ1
  have N1 := Fr.app N0 N1q
  obtain ⟨T2, h2, k2, X2, e2, E2, A2, st2⟩ := newP X1 hx hZ (aty := .byte) (hw _ (M 48)) e1 (g := (mkF m 10 #[.val (.ref va), .val (.int (0 : Int32)), .val (.int cnt), .val (.int cnt), .unset] [(.int cnt)])) rfl (hb hby d36_10) rfl hcn0 (cap := 45) hcn (by decide) (by decide) (by decide)
  obtain ⟨b2, g2⟩ : ∃ z, z = h0.size := ⟨_, rfl⟩
  rw [← g2] at A2 st2
  have sz_b2 : h0.size ≤ b2 := Nat.le_trans (Keep.refl h0 []).1 (Nat.le_of_eq g2.symm)
  have g_b2 : n0 ≤ b2 := Nat.le_trans Z0 sz_b2
  have ne_va_b2 : va ≠ b2 := Nat.ne_of_lt (Nat.lt_of_lt_of_le A.lt (Nat.le_of_eq g2.symm))
  have K2 : Keep h0 h2 [] := (Keep.refl h0 []).ext E2
  have V2 : Arv Z h2 b2 k2 .byte cnt (List.replicate cnt.toNatClampNeg (.int (0 : Int32))) (.int (0 : Int32)) := (Arv.new A2 hcn0).pad (pad_rep [] (.int (0 : Int32)) cnt.toNatClampNeg)
  obtain ⟨clv3, Arv3, qv3, Sv3, Ng3, Hv3, Gv3⟩ := id (A.ext E2)
  obtain ⟨_, _, ⟨T4, L4, k4, n4⟩, -, X4, ⟨Lc4, hQ4, l4, y4, z4⟩, st4⟩ := Jvm.LawKit.callS X2 hx (y := (⟨"java/lang/Math", "min", "(II)I"⟩ : MethodName)) hown (mvT hZ (hw _ (M 172))) (mvT hZ (hw _ (M 173))) (mvT hZ (hw _ (M 164))) (mvT hZ (hw _ (M 174))) (by decide) (backOf (W := 4) ((mMin2 l Z a0 hw cap cnt h2 n0 (Nat.le_trans Z0 K2.1) hlt) []) hZ (hw _ (M 174)) (hw _ (M 164)) (by decide) (by decide)) (g := (mkF m 24 #[.val (.ref va), .val (.int (0 : Int32)), .val (.int cnt), .val (.int cnt), .val (.ref b2)] [(.int cnt), (.int cap), (.int (0 : Int32)), (.ref b2), (.int (0 : Int32)), (.ref va)])) rfl (by rw [hml]; rfl) (argsL := [(.int cap), (.int cnt)]) (rest := [(.int (0 : Int32)), (.ref b2), (.int (0 : Int32)), (.ref va)]) (lenOf pd_oIIcI rfl) rfl (by show 2 * 0 + _ ≤ _; exact Nat.le_of_eq rfl) (hb hby d36_24) (fun _ _ => ⟨rfl, e2, (by decide : 1 + 0 ≤ _), (by decide : 45 + 0 ≤ _)⟩)
  dsimp only [Pt.U, Pt.locs, Pt.cells, Pt.slots] at X4 l4 y4 z4 st4 hQ4
  subst l4 y4 z4
  obtain ⟨rfl, N4q, e4⟩ := hQ4
  have N4 := Fr.app N1 N4q
  obtain ⟨T5, h5, L5, X5, e5, N5, Kq5, V5, st5⟩ := cpA X4 hx hZ hown (hw _ (M 175)) (hw _ (M 126)) (hw _ (M 124)) (hw _ (M 125)) e4 (A.ext E2) V2 (Or.inl ⟨rfl, rfl⟩) (by decide) (by decide) hcn0 hcc (by show (0 : Int32).toNatClampNeg + _ ≤ _; simp) rfl (by rw [List.length_replicate]; show (0 : Int32).toNatClampNeg + _ ≤ _; simp) N4 g_b2 (g := (mkF m 27 #[.val (.ref va), .val (.int (0 : Int32)), .val (.int cnt), .val (.int cnt), .val (.ref b2)] [(.int cnt), (.int (0 : Int32)), (.ref b2), (.int (0 : Int32)), (.ref va)])) rfl (by rw [hml]; rfl) rfl (hb hby d36_27) (by decide) (W := 0) (by show 2 * 0 + _ ≤ _; exact Nat.le_of_eq rfl) (by decide)
  replace V5 : Arv Z h5 b2 k2 .byte cnt (own_cp vs (.int (0 : Int32)) (0 : Int32) (List.replicate cnt.toNatClampNeg (.int (0 : Int32))) (0 : Int32) cnt) (.int (0 : Int32)) := V5
  rw [hcp] at V5
  have K5 : Keep h0 h5 [] := K2.trans Kq5 (allS (Or.inr sz_b2) all0)
  obtain ⟨fs, hr, hrun, hended, hW, hsame⟩ := X5.leave (v := some (.ref b2)) (fun h => by rw [Bd.returns] at h; cases h)
  refine ⟨_, _, pre0 _ ?_, hrun, hended, _, _, rfl, ?_, ⟨_, rfl⟩, hW, hsame.mono (by decide) (by decide)⟩
  · show Steps p.tables e below (s₁.setTop (mkF m 0 #[.val (.ref va), .val (.int (0 : Int32)), .val (.int cnt), .unset, .unset] [])) _
    refine XS.iloadN X0.here hx rfl (hb hby d36_0) rfl ?_
    refine XS.iloadN X0.here hx rfl (hb hby d36_1) rfl ?_
    refine st1 _ ?_
    show Steps p.tables e below (T1.setTop (mkF m 5 #[.val (.ref va), .val (.int (0 : Int32)), .val (.int cnt), .unset, .unset] [])) _
    refine XS.iloadN X1.here hx rfl (hb hby d36_5) rfl ?_
    refine XS.iloadN X1.here hx rfl (hb hby d36_6) rfl ?_
    refine XS.isub X1.here hx rfl (hb hby d36_7) rfl ?_
    show Steps p.tables e below (T1.setTop (mkF m 8 #[.val (.ref va), .val (.int (0 : Int32)), .val (.int cnt), .unset, .unset] [(.int (cnt - (0 : Int32)))])) _
    rw [(own_sub0 cnt)]
    show Steps p.tables e below (T1.setTop (mkF m 8 #[.val (.ref va), .val (.int (0 : Int32)), .val (.int cnt), .unset, .unset] [(.int cnt)])) _
    refine XS.istoreN X1.here hx rfl (hb hby d36_8) rfl (l' := #[.val (.ref va), .val (.int (0 : Int32)), .val (.int cnt), .val (.int cnt), .unset]) rfl ?_
    show Steps p.tables e below (T1.setTop (mkF m 9 #[.val (.ref va), .val (.int (0 : Int32)), .val (.int cnt), .val (.int cnt), .unset] [])) _
    refine XS.iloadN X1.here hx rfl (hb hby d36_9) rfl ?_
    refine st2 _ ?_
    show Steps p.tables e below (T2.setTop (mkF m 12 #[.val (.ref va), .val (.int (0 : Int32)), .val (.int cnt), .val (.int cnt), .unset] [(.ref b2)])) _
    refine XS.astore X2.here hx rfl (hb hby d36_12) rfl rfl (l' := #[.val (.ref va), .val (.int (0 : Int32)), .val (.int cnt), .val (.int cnt), .val (.ref b2)]) rfl ?_
    show Steps p.tables e below (T2.setTop (mkF m 14 #[.val (.ref va), .val (.int (0 : Int32)), .val (.int cnt), .val (.int cnt), .val (.ref b2)] [])) _
    refine XS.aloadN X2.here hx rfl (hb hby d36_14) rfl rfl ?_
    refine XS.iloadN X2.here hx rfl (hb hby d36_15) rfl ?_
    refine XS.aload X2.here hx rfl (hb hby d36_16) rfl rfl ?_
    refine XS.iconst X2.here hx rfl (hb hby d36_18) ?_
    show Steps p.tables e below (T2.setTop (mkF m 19 #[.val (.ref va), .val (.int (0 : Int32)), .val (.int cnt), .val (.int cnt), .val (.ref b2)] [(.int (0 : Int32)), (.ref b2), (.int (0 : Int32)), (.ref va)])) _
    refine XS.aloadN X2.here hx rfl (hb hby d36_19) rfl rfl ?_
    refine X2.arraylength hx (by rw [e2]; exact Arv3.1) (State.isArrayOf_alike hZ.alike Arv3.2.1) (g := (mkF m 20 #[.val (.ref va), .val (.int (0 : Int32)), .val (.int cnt), .val (.int cnt), .val (.ref b2)] [(.ref va), (.int (0 : Int32)), (.ref b2), (.int (0 : Int32)), (.ref va)])) rfl rfl (hb hby d36_20) _ ?_
    rw [len_of Sv3 Ng3]
    show Steps p.tables e below (T2.setTop (mkF m 21 #[.val (.ref va), .val (.int (0 : Int32)), .val (.int cnt), .val (.int cnt), .val (.ref b2)] [(.int cap), (.int (0 : Int32)), (.ref b2), (.int (0 : Int32)), (.ref va)])) _
    refine XS.iloadN X2.here hx rfl (hb hby d36_21) rfl ?_
    refine XS.isub X2.here hx rfl (hb hby d36_22) rfl ?_
    show Steps p.tables e below (T2.setTop (mkF m 23 #[.val (.ref va), .val (.int (0 : Int32)), .val (.int cnt), .val (.int cnt), .val (.ref b2)] [(.int (cap - (0 : Int32))), (.int (0 : Int32)), (.ref b2), (.int (0 : Int32)), (.ref va)])) _
    rw [(own_sub0 cap)]
    show Steps p.tables e below (T2.setTop (mkF m 23 #[.val (.ref va), .val (.int (0 : Int32)), .val (.int cnt), .val (.int cnt), .val (.ref b2)] [(.int cap), (.int (0 : Int32)), (.ref b2), (.int (0 : Int32)), (.ref va)])) _
    refine XS.iloadN X2.here hx rfl (hb hby d36_23) rfl ?_
    refine st4 _ ?_
    show Steps p.tables e below (T4.setTop (mkF m 27 #[.val (.ref va), .val (.int (0 : Int32)), .val (.int cnt), .val (.int cnt), .val (.ref b2)] [(.int cnt), (.int (0 : Int32)), (.ref b2), (.int (0 : Int32)), (.ref va)])) _
    refine st5 _ ?_
    show Steps p.tables e below (T5.setTop (mkF m 30 #[.val (.ref va), .val (.int (0 : Int32)), .val (.int cnt), .val (.int cnt), .val (.ref b2)] [])) _
    refine XS.aload X5.here hx rfl (hb hby d36_30) rfl rfl ?_
    jvm_step X5.here [X5.here.top, hx, (hb hby d36_32), X5.method', Bd.returns, Value.isRef, FieldType.isReference]
    first | (intro acts; rw [hr _ acts rfl rfl rfl]) | rw [hr _ _ rfl rfl rfl]
    exact Steps.refl _
  · show (QA Z cnt vt h0 n0) _ T5.heap _
    rw [e5]
    exact ⟨_, _, rfl, N5, K5, sz_b2, V5⟩
theorem d35_0 : decode jdk_65_method_132_code 0 = .ok (.iload_n 1, 1) := by decide +kernel
theorem d35_1 : decode jdk_65_method_132_code 1 = .ok (.ifCond .ne 9, 3) := by decide +kernel
theorem d35_4 : decode jdk_65_method_132_code 4 = .ok (.iload_n 2, 1) := by decide +kernel
theorem d35_5 : decode jdk_65_method_132_code 5 = .ok (.aload_n 0, 1) := by decide +kernel
theorem d35_6 : decode jdk_65_method_132_code 6 = .ok (.arraylength, 1) := by decide +kernel
theorem d35_7 : decode jdk_65_method_132_code 7 = .ok (.if_icmp .eq 10, 3) := by decide +kernel
theorem d35_10 : decode jdk_65_method_132_code 10 = .ok (.aload_n 0, 1) := by decide +kernel
theorem d35_11 : decode jdk_65_method_132_code 11 = .ok (.iload_n 1, 1) := by decide +kernel
theorem d35_12 : decode jdk_65_method_132_code 12 = .ok (.iload_n 2, 1) := by decide +kernel
theorem pd_oABIIcAB : parseMethodDescriptor "([BII)[B" = some ⟨[(.array .byte), .int, .int], some (.array .byte)⟩ := by decide +kernel
theorem d35_13 : decode jdk_65_method_132_code 13 = .ok (.invokestatic 339, 3) := by decide +kernel
theorem d35_16 : decode jdk_65_method_132_code 16 = .ok (.areturn, 1) := by decide +kernel
theorem pn_35 : plainName "java/util/Arrays" = true := by first | (simp [plainName, overriddenIn]; done) | decide +kernel
theorem ef_35 (m : MethodId) (x0 : Addr) (x1 : Int32) (x2 : Int32) : entryFrame m #[(.ref x0), (.int x1), (.int x2)] 3 = mkF m 0 #[.val (.ref x0), .val (.int x1), .val (.int x2)] [] := by first | (simp [entryFrame, mkF, argsToLocals, Value.category]; done) | rfl
set_option maxRecDepth 65536 in
set_option maxHeartbeats 40000000 in
theorem cRange (l : Launch) (Z : State) (a0 : Array Value) (hw : ∀ d ∈ tables_1, d.before a0 Z = true) (va : Addr) (kA : ClassId) (cap cnt : Int32) (vs vt : List Value) (h0 : Heap) (n0 : Nat) (Z0 : n0 ≤ h0.size) (A : Arv Z h0 va kA .byte cap vs (.int (0 : Int32))) (hcn0 : ¬ cnt < 0) (hcn : cnt.toNatClampNeg ≤ 45) (hlt : cnt < cap) (hcc : (0 : Int32).toNatClampNeg + cnt.toNatClampNeg ≤ cap.toNatClampNeg) (hcp : own_cp vs (.int (0 : Int32)) (0 : Int32) (List.replicate cnt.toNatClampNeg (.int (0 : Int32))) (0 : Int32) cnt = vt) (hc7 : ¬ (cnt = cap)) :
    MQ l Z (⟨"java/util/Arrays", "copyOfRange", "([BII)[B"⟩ : MethodName) jdk_65_method_132_code 3 (some (.array .byte)) ({ frames := 2, cells := 1, slots := 45, locals := 34 } : Room) #[(.ref va), (.int (0 : Int32)), (.int cnt)] h0 (QA Z cnt vt h0 n0) := by
  intro ws
  refine MetFree.of_bodySF (plainFor_of_name pn_35) hisR ?_
  intro p e s m args below meth c s₁ Bd hml0 hP hK
  obtain ⟨rfl, hZ, hh⟩ := hP
  have hx := Bd.exec
  have hby := Bd.bytes
  have hml : c.maxLocals = 3 := hml0
  have hown : s.vm.findClass "java/util/Arrays" = some m.cls := findClass_of_methodNamed Bd.named
  have hnm := (name_of_methodNamed Bd.named Bd.method).1
  have X0 : Stand p l e ({ frames := 2, cells := 1, slots := 45, locals := 34 } : Room) s m #[(.ref va), (.int (0 : Int32)), (.int cnt)] below meth c s₁ [] 0 0 := Stand.of_body Bd
  have e0 : s₁.heap = h0 := by rw [← hh, Bd.state]; rfl
  have N0 := Fr.nil n0
  have pre0 : ∀ t_, Steps p.tables e below (s₁.setTop (mkF m 0 #[.val (.ref va), .val (.int (0 : Int32)), .val (.int cnt)] [])) t_ → Steps p.tables e below (s₁.setTop (entryFrame m #[(.ref va), (.int (0 : Int32)), (.int cnt)] 3)) t_ := fun t_ k_ => castTop (ef_35 m va (0 : Int32) cnt) k_
  obtain ⟨clv1, Arv1, qv1, Sv1, Ng1, Hv1, Gv1⟩ := id A
  obtain ⟨_, _, ⟨T2, L2, k2, n2⟩, -, X2, ⟨Lc2, hQ2, l2, y2, z2⟩, st2⟩ := Jvm.LawKit.callS X0 hx (y := (⟨"java/util/Arrays", "copyOfRangeByte", "([BII)[B"⟩ : MethodName)) hown (mvT hZ (hw _ (M 210))) (mvT hZ (hw _ (M 211))) (mvT hZ (hw _ (M 170))) (mvT hZ (hw _ (M 212))) (by decide) (backOf (W := 0) ((cRangeB l Z a0 hw va kA cap cnt vs vt h0 n0 (Nat.le_trans Z0 (Keep.refl h0 []).1) A hcn0 hcn hlt hcc hcp) []) hZ (hw _ (M 212)) (hw _ (M 170)) (by decide) (by decide)) (g := (mkF m 13 #[.val (.ref va), .val (.int (0 : Int32)), .val (.int cnt)] [(.int cnt), (.int (0 : Int32)), (.ref va)])) rfl (by rw [hml]; rfl) (argsL := [(.ref va), (.int (0 : Int32)), (.int cnt)]) (rest := []) (lenOf pd_oABIIcAB rfl) rfl (by show 2 * 0 + _ ≤ _; exact Nat.le_of_eq rfl) (hb hby d35_13) (fun _ _ => ⟨rfl, e0, (by decide : 0 + 1 ≤ _), (by decide : 0 + 45 ≤ _)⟩)
  dsimp only [Pt.U, Pt.locs, Pt.cells, Pt.slots] at X2 l2 y2 z2 st2 hQ2
  subst l2 y2 z2
  obtain ⟨bq2, kq2, rfl, N2q, Kq2, sz2q, Vq2⟩ := hQ2
  have sz_bq2 : h0.size ≤ bq2 := Nat.le_trans (Keep.refl h0 []).1 sz2q
  have g_bq2 : n0 ≤ bq2 := Nat.le_trans Z0 sz_bq2
  have ne_va_bq2 : va ≠ bq2 := Nat.ne_of_lt (Nat.lt_of_lt_of_le A.lt sz2q)
  have K2 : Keep h0 T2.heap [] := (Keep.refl h0 []).trans Kq2 all0
  have N2 := Fr.app N0 N2q
  obtain ⟨fs, hr, hrun, hended, hW, hsame⟩ := X2.leave (v := some (.ref bq2)) (fun h => by rw [Bd.returns] at h; cases h)
  refine ⟨_, _, pre0 _ ?_, hrun, hended, _, _, rfl, ?_, ⟨_, rfl⟩, hW, hsame.mono (by decide) (by decide)⟩
  · show Steps p.tables e below (s₁.setTop (mkF m 0 #[.val (.ref va), .val (.int (0 : Int32)), .val (.int cnt)] [])) _
    refine XS.iloadN X0.here hx rfl (hb hby d35_0) rfl ?_
    refine XS.ifNo X0.here hx rfl (hb hby d35_1) rfl ((if0 _ _).trans (teq (by decide : (0 : Int32) = (0 : Int32))).2) ?_
    show Steps p.tables e below (s₁.setTop (mkF m 4 #[.val (.ref va), .val (.int (0 : Int32)), .val (.int cnt)] [])) _
    refine XS.iloadN X0.here hx rfl (hb hby d35_4) rfl ?_
    refine XS.aloadN X0.here hx rfl (hb hby d35_5) rfl rfl ?_
    refine X0.arraylength hx (by rw [e0]; exact Arv1.1) (State.isArrayOf_alike hZ.alike Arv1.2.1) (g := (mkF m 6 #[.val (.ref va), .val (.int (0 : Int32)), .val (.int cnt)] [(.ref va), (.int cnt)])) rfl rfl (hb hby d35_6) _ ?_
    rw [len_of Sv1 Ng1]
    show Steps p.tables e below (s₁.setTop (mkF m 7 #[.val (.ref va), .val (.int (0 : Int32)), .val (.int cnt)] [(.int cap), (.int cnt)])) _
    refine XS.icmpNo X0.here hx rfl (hb hby d35_7) rfl (feq hc7).1 ?_
    show Steps p.tables e below (s₁.setTop (mkF m 10 #[.val (.ref va), .val (.int (0 : Int32)), .val (.int cnt)] [])) _
    refine XS.aloadN X0.here hx rfl (hb hby d35_10) rfl rfl ?_
    refine XS.iloadN X0.here hx rfl (hb hby d35_11) rfl ?_
    refine XS.iloadN X0.here hx rfl (hb hby d35_12) rfl ?_
    refine st2 _ ?_
    show Steps p.tables e below (T2.setTop (mkF m 16 #[.val (.ref va), .val (.int (0 : Int32)), .val (.int cnt)] [(.ref bq2)])) _
    jvm_step X2.here [X2.here.top, hx, (hb hby d35_16), X2.method', Bd.returns, Value.isRef, FieldType.isReference]
    first | (intro acts; rw [hr _ acts rfl rfl rfl]) | rw [hr _ _ rfl rfl rfl]
    exact Steps.refl _
  · show (QA Z cnt vt h0 n0) _ T2.heap _
    exact ⟨_, _, rfl, N2, K2, sz_bq2, Vq2⟩
theorem d31_0 : decode jdk_42_method_150_code 0 = .ok (.aload_n 0, 1) := by decide +kernel
theorem d31_1 : decode jdk_42_method_150_code 1 = .ok (.invokespecial 1, 3) := by decide +kernel
theorem d31_4 : decode jdk_42_method_150_code 4 = .ok (.aload_n 1, 1) := by decide +kernel
theorem pd_ocAB : parseMethodDescriptor "()[B" = some ⟨[], some (.array .byte)⟩ := by decide +kernel
theorem d31_5 : decode jdk_42_method_150_code 5 = .ok (.invokevirtual 552, 3) := by decide +kernel
theorem d31_8 : decode jdk_42_method_150_code 8 = .ok (.astore_n 3, 1) := by decide +kernel
theorem d31_9 : decode jdk_42_method_150_code 9 = .ok (.aload_n 1, 1) := by decide +kernel
theorem d31_10 : decode jdk_42_method_150_code 10 = .ok (.invokevirtual 549, 3) := by decide +kernel
theorem d31_13 : decode jdk_42_method_150_code 13 = .ok (.istore 4, 2) := by decide +kernel
theorem d31_15 : decode jdk_42_method_150_code 15 = .ok (.aload_n 1, 1) := by decide +kernel
theorem d31_16 : decode jdk_42_method_150_code 16 = .ok (.invokevirtual 1047, 3) := by decide +kernel
theorem d31_19 : decode jdk_42_method_150_code 19 = .ok (.ifCond .eq 22, 3) := by decide +kernel
theorem d31_22 : decode jdk_42_method_150_code 22 = .ok (.aload_n 0, 1) := by decide +kernel
theorem d31_23 : decode jdk_42_method_150_code 23 = .ok (.iconst 0, 1) := by decide +kernel
theorem d31_24 : decode jdk_42_method_150_code 24 = .ok (.putfield 15, 3) := by decide +kernel
theorem d31_27 : decode jdk_42_method_150_code 27 = .ok (.aload_n 0, 1) := by decide +kernel
theorem d31_28 : decode jdk_42_method_150_code 28 = .ok (.aload_n 3, 1) := by decide +kernel
theorem d31_29 : decode jdk_42_method_150_code 29 = .ok (.iconst 0, 1) := by decide +kernel
theorem d31_30 : decode jdk_42_method_150_code 30 = .ok (.iload 4, 2) := by decide +kernel
theorem d31_32 : decode jdk_42_method_150_code 32 = .ok (.invokestatic 54, 3) := by decide +kernel
theorem d31_35 : decode jdk_42_method_150_code 35 = .ok (.putfield 9, 3) := by decide +kernel
theorem d31_38 : decode jdk_42_method_150_code 38 = .ok (.goto 59, 3) := by decide +kernel
theorem d31_97 : decode jdk_42_method_150_code 97 = .ok (.return_, 1) := by decide +kernel
theorem pn_31 : plainName "java/lang/String" = true := by first | (simp [plainName, overriddenIn]; done) | decide +kernel
theorem ef_31 (m : MethodId) (x0 : Addr) (x1 : Addr) : entryFrame m #[(.ref x0), (.ref x1), .null] 5 = mkF m 0 #[.val (.ref x0), .val (.ref x1), .val .null, .unset, .unset] [] := by first | (simp [entryFrame, mkF, argsToLocals, Value.category]; done) | rfl
set_option maxRecDepth 65536 in
set_option maxHeartbeats 40000000 in
theorem sInit3 (l : Launch) (Z : State) (a0 : Array Value) (hw : ∀ d ∈ tables_1, d.before a0 Z = true) (ob va : Addr) (kA : ClassId) (cap cnt : Int32) (vs : List Value) (zc : Int32) (os : Addr) (vt : List Value) (h0 : Heap) (n0 : Nat) (Z0 : n0 ≤ h0.size) (B : BdS Z h0 ob va kA cap cnt vs) (S_CS : Sta Z h0 "java/lang/String" "COMPACT_STRINGS" "Z" (.int zc)) (hz : ¬ (zc = (0 : Int32))) (E_os : Exa Z h0 os "java/lang/String") (F_value_os : Fld Z h0 os "java/lang/String" "value" "[B" .null) (F_coder_os : Fld Z h0 os "java/lang/String" "coder" "B" (.int (0 : Int32))) (g_os : n0 ≤ os) (hcn0 : ¬ cnt < 0) (hcn : cnt.toNatClampNeg ≤ 45) (hlt : cnt < cap) (hcc : (0 : Int32).toNatClampNeg + cnt.toNatClampNeg ≤ cap.toNatClampNeg) (hcp : own_cp vs (.int (0 : Int32)) (0 : Int32) (List.replicate cnt.toNatClampNeg (.int (0 : Int32))) (0 : Int32) cnt = vt) (hce : ¬ (cnt = cap)) :
    MQ l Z (⟨"java/lang/String", "<init>", "(Ljava/lang/AbstractStringBuilder;Ljava/lang/Void;)V"⟩ : MethodName) jdk_42_method_150_code 5 none ({ frames := 3, cells := 1, slots := 45, locals := 49 } : Room) #[(.ref os), (.ref ob), .null] h0 (QT Z os cnt vt h0 n0) := by
  intro ws
  refine MetFree.of_bodySF (plainFor_of_name pn_31) hisR ?_
  intro p e s m args below meth c s₁ Bd hml0 hP hK
  obtain ⟨rfl, hZ, hh⟩ := hP
  have hx := Bd.exec
  have hby := Bd.bytes
  have hml : c.maxLocals = 5 := hml0
  have hown : s.vm.findClass "java/lang/String" = some m.cls := findClass_of_methodNamed Bd.named
  have hnm := (name_of_methodNamed Bd.named Bd.method).1
  have X0 : Stand p l e ({ frames := 3, cells := 1, slots := 45, locals := 49 } : Room) s m #[(.ref os), (.ref ob), .null] below meth c s₁ [] 0 0 := Stand.of_body Bd
  have e0 : s₁.heap = h0 := by rw [← hh, Bd.state]; rfl
  have N0 := Fr.nil n0
  have pre0 : ∀ t_, Steps p.tables e below (s₁.setTop (mkF m 0 #[.val (.ref os), .val (.ref ob), .val .null, .unset, .unset] [])) t_ → Steps p.tables e below (s₁.setTop (entryFrame m #[(.ref os), (.ref ob), .null] 5)) t_ := fun t_ k_ => castTop (ef_31 m os ob) k_
  have ne_ob_os : ob ≠ os := Exa.ne B.1 E_os (by decide)
  have ne_va_os : va ≠ os := Ne.symm (Exa.neArv E_os B.2.2.2.2 (hw _ (M 47)))
  obtain ⟨T1, X1, e1, st1⟩ := initO X0 hx hZ hown (hw _ (M 192)) (hw _ (M 13)) (hw _ (M 14)) e0 (g := (mkF m 1 #[.val (.ref os), .val (.ref ob), .val .null, .unset, .unset] [(.ref os)])) rfl (by rw [hml]; rfl) rfl (hb hby d31_1) (by decide) (W := 0) (by show 2 * 0 + _ ≤ _; exact Nat.le_of_eq rfl) (by decide)
  obtain ⟨cq2, kq2, q2a, q2b, q2c⟩ := isOf hZ e1 B.1
  obtain ⟨_, _, ⟨T2, L2, k2, n2⟩, -, X2, ⟨Lc2, hQ2, l2, y2, z2⟩, st2⟩ := X1.virtualBack hx (y := (⟨"java/lang/AbstractStringBuilder", "getValue", "()[B"⟩ : MethodName)) (z := (⟨"java/lang/AbstractStringBuilder", "getValue", "()[B"⟩ : MethodName)) hown (mvT hZ (hw _ (M 193))) (mvT hZ (hw _ (M 194))) (notFace_of_selects (args := #[]) (mvT hZ (hw _ (M 196)))) (mvT hZ (hw _ (M 196))) (mvT hZ (hw _ (M 195))) (by decide) (backOf (W := 0) ((bValue l Z a0 hw ob va kA cap cnt vs h0 n0 (Nat.le_trans Z0 (Keep.refl h0 [os]).1) ⟨B.1, B.2.1, B.2.2.1, B.2.2.2.1, B.2.2.2.2⟩) []) hZ (hw _ (M 197)) (hw _ (M 68)) (by decide) (by decide)) q2a q2c (g := (mkF m 5 #[.val (.ref os), .val (.ref ob), .val .null, .unset, .unset] [(.ref ob)])) rfl (by rw [hml]; rfl) (Steps.refl _) (argsL := []) (rest := []) (lenOf pd_ocAB rfl) rfl (by show 2 * 0 + _ ≤ _; exact Nat.le_of_eq rfl) (hb hby d31_5) (fun _ _ => ⟨rfl, e1, (by decide : 0 + 0 ≤ _), (by decide : 0 + 0 ≤ _)⟩)
  dsimp only [Pt.U, Pt.locs, Pt.cells, Pt.slots] at X2 l2 y2 z2 st2 hQ2
  subst l2 y2 z2
  obtain ⟨rfl, N2q, e2⟩ := hQ2
  have N2 := Fr.app N0 N2q
  obtain ⟨cq3, kq3, q3a, q3b, q3c⟩ := isOf hZ e2 B.1
  obtain ⟨_, _, ⟨T3, L3, k3, n3⟩, -, X3, ⟨Lc3, hQ3, l3, y3, z3⟩, st3⟩ := X2.virtualBack hx (y := (⟨"java/lang/AbstractStringBuilder", "length", "()I"⟩ : MethodName)) (z := (⟨"java/lang/StringBuilder", "length", "()I"⟩ : MethodName)) hown (mvT hZ (hw _ (M 198))) (mvT hZ (hw _ (M 199))) (own_nf (y' := (⟨"java/lang/AbstractStringBuilder", "ensureCapacityInternal", "(I)V"⟩ : MethodName)) rfl (args := #[]) (mvT hZ (hw _ (M 105)))) (mvT hZ (hw _ (M 201))) (mvT hZ (hw _ (M 202))) (by decide) (backOf (W := 0) ((bLength l Z a0 hw ob va kA cap cnt vs h0 n0 (Nat.le_trans Z0 (Keep.refl h0 [os]).1) ⟨B.1, B.2.1, B.2.2.1, B.2.2.2.1, B.2.2.2.2⟩) []) hZ (hw _ (M 203)) (hw _ (M 60)) (by decide) (by decide)) q3a q3c (g := (mkF m 10 #[.val (.ref os), .val (.ref ob), .val .null, .val (.ref va), .unset] [(.ref ob)])) rfl (by rw [hml]; rfl) (Steps.refl _) (argsL := []) (rest := []) (lenOf pd_ocI rfl) rfl (by show 2 * 0 + _ ≤ _; exact Nat.le_of_eq rfl) (hb hby d31_10) (fun _ _ => ⟨rfl, e2, (by decide : 0 + 0 ≤ _), (by decide : 0 + 0 ≤ _)⟩)
  dsimp only [Pt.U, Pt.locs, Pt.cells, Pt.slots] at X3 l3 y3 z3 st3 hQ3
  subst l3 y3 z3
  obtain ⟨rfl, N3q, e3⟩ := hQ3
  have N3 := Fr.app N2 N3q
  obtain ⟨cq4, kq4, q4a, q4b, q4c⟩ := isOf hZ e3 B.1
  obtain ⟨_, _, ⟨T4, L4, k4, n4⟩, -, X4, ⟨Lc4, hQ4, l4, y4, z4⟩, st4⟩ := X3.virtualBack hx (y := (⟨"java/lang/AbstractStringBuilder", "isLatin1", "()Z"⟩ : MethodName)) (z := (⟨"java/lang/AbstractStringBuilder", "isLatin1", "()Z"⟩ : MethodName)) hown (mvT hZ (hw _ (M 206))) (mvT hZ (hw _ (M 142))) (notFace_of_selects (args := #[]) (mvT hZ (hw _ (M 144)))) (mvT hZ (hw _ (M 144))) (mvT hZ (hw _ (M 143))) (by decide) (backOf (W := 0) ((bLatin l Z a0 hw ob va kA cap cnt vs zc h0 n0 (Nat.le_trans Z0 (Keep.refl h0 [os]).1) ⟨B.1, B.2.1, B.2.2.1, B.2.2.2.1, B.2.2.2.2⟩ S_CS hz) []) hZ (hw _ (M 145)) (hw _ (M 68)) (by decide) (by decide)) q4a q4c (g := (mkF m 16 #[.val (.ref os), .val (.ref ob), .val .null, .val (.ref va), .val (.int cnt)] [(.ref ob)])) rfl (by rw [hml]; rfl) (Steps.refl _) (argsL := []) (rest := []) (lenOf pd_ocZ rfl) rfl (by show 2 * 0 + _ ≤ _; exact Nat.le_of_eq rfl) (hb hby d31_16) (fun _ _ => ⟨rfl, e3, (by decide : 0 + 0 ≤ _), (by decide : 0 + 0 ≤ _)⟩)
  dsimp only [Pt.U, Pt.locs, Pt.cells, Pt.slots] at X4 l4 y4 z4 st4 hQ4
  subst l4 y4 z4
  obtain ⟨rfl, N4q, e4⟩ := hQ4
  have N4 := Fr.app N3 N4q
  obtain ⟨T5, h5, X5, e5, W5, st5⟩ := putFN X4 hx hZ hown (hw _ (M 99)) Via.refl e4 F_coder_os E_os (Or.inr ⟨(hw _ (M 50)), rfl, hnm⟩) (hw _ (M 47)) (ty := .byte) (v' := (.int (0 : Int32))) (by decide) rfl (by decide) (g := (mkF m 24 #[.val (.ref os), .val (.ref ob), .val .null, .val (.ref va), .val (.int cnt)] [(.int (0 : Int32)), (.ref os)])) rfl rfl (hb hby d31_24)
  have Fw5 := F_coder_os.same W5
  have K5 : Keep h0 h5 [os] := (Keep.refl h0 [os]).wr W5 (Or.inl (List.mem_of_getElem? (i := 0) rfl))
  have N5 := Fr.snoc X5 N4 g_os
  obtain ⟨_, _, ⟨T6, L6, k6, n6⟩, -, X6, ⟨Lc6, hQ6, l6, y6, z6⟩, st6⟩ := Jvm.LawKit.callS X5 hx (y := (⟨"java/util/Arrays", "copyOfRange", "([BII)[B"⟩ : MethodName)) hown (mvT hZ (hw _ (M 207))) (mvT hZ (hw _ (M 208))) (mvT hZ (hw _ (M 170))) (mvT hZ (hw _ (M 209))) (by decide) (backOf (W := 1) ((cRange l Z a0 hw va kA cap cnt vs vt h5 n0 (Nat.le_trans Z0 K5.1) (B.2.2.2.2.other W5 ne_va_os) hcn0 hcn hlt hcc hcp hce) []) hZ (hw _ (M 209)) (hw _ (M 170)) (by decide) (by decide)) (g := (mkF m 32 #[.val (.ref os), .val (.ref ob), .val .null, .val (.ref va), .val (.int cnt)] [(.int cnt), (.int (0 : Int32)), (.ref va), (.ref os)])) rfl (by rw [hml]; rfl) (argsL := [(.ref va), (.int (0 : Int32)), (.int cnt)]) (rest := [(.ref os)]) (lenOf pd_oABIIcAB rfl) rfl (by show 2 * 0 + _ ≤ _; exact Nat.le_of_eq rfl) (hb hby d31_32) (fun _ _ => ⟨rfl, e5, (by decide : 0 + 1 ≤ _), (by decide : 0 + 45 ≤ _)⟩)
  dsimp only [Pt.U, Pt.locs, Pt.cells, Pt.slots] at X6 l6 y6 z6 st6 hQ6
  subst l6 y6 z6
  obtain ⟨bq6, kq6, rfl, N6q, Kq6, sz6q, Vq6⟩ := hQ6
  have sz_bq6 : h0.size ≤ bq6 := Nat.le_trans K5.1 sz6q
  have g_bq6 : n0 ≤ bq6 := Nat.le_trans Z0 sz_bq6
  have ne_ob_bq6 : ob ≠ bq6 := Nat.ne_of_lt (Nat.lt_of_lt_of_le (B.1.wr W5).lt sz6q)
  have ne_os_bq6 : os ≠ bq6 := Nat.ne_of_lt (Nat.lt_of_lt_of_le (E_os.wr W5).lt sz6q)
  have ne_va_bq6 : va ≠ bq6 := Nat.ne_of_lt (Nat.lt_of_lt_of_le (B.2.2.2.2.other W5 ne_va_os).lt sz6q)
  have K6 : Keep h0 T6.heap [os] := K5.trans Kq6 all0
  have N6 := Fr.app N5 N6q
  obtain ⟨T7, h7, X7, e7, W7, st7⟩ := putF X6 hx hZ hown (host := "") (Or.inl (hw _ (M 92))) Via.refl rfl ((F_value_os.other W5 (Or.inr (slot_ne (Or.inr (hw _ (M 49))) (Or.inr (hw _ (M 50))) (by decide) (t := (.array .byte)) (t' := .byte) (by decide) (by decide)))).keep Kq6 nin0) ((E_os.wr W5).keep Kq6) (Or.inr ⟨(hw _ (M 49)), rfl, hnm⟩) (hw _ (M 47)) (ty := (.array .byte)) (by decide) rfl rfl (g := (mkF m 35 #[.val (.ref os), .val (.ref ob), .val .null, .val (.ref va), .val (.int cnt)] [(.ref bq6), (.ref os)])) rfl rfl (hb hby d31_35)
  have Fw7 := ((F_value_os.other W5 (Or.inr (slot_ne (Or.inr (hw _ (M 49))) (Or.inr (hw _ (M 50))) (by decide) (t := (.array .byte)) (t' := .byte) (by decide) (by decide)))).keep Kq6 nin0).same W7
  have K7 : Keep h0 h7 [os] := K6.wr W7 (Or.inl (List.mem_of_getElem? (i := 0) rfl))
  have N7 := Fr.snoc X7 N6 g_os
  obtain ⟨fs, hr, hrun, hended, hW, hsame⟩ := X7.leave (v := none) (fun _ => rfl)
  refine ⟨_, _, pre0 _ ?_, hrun, hended, _, _, rfl, ?_, ⟨_, rfl⟩, hW, hsame.mono (by decide) (by decide)⟩
  · show Steps p.tables e below (s₁.setTop (mkF m 0 #[.val (.ref os), .val (.ref ob), .val .null, .unset, .unset] [])) _
    refine XS.aloadN X0.here hx rfl (hb hby d31_0) rfl rfl ?_
    refine st1 _ ?_
    show Steps p.tables e below (T1.setTop (mkF m 4 #[.val (.ref os), .val (.ref ob), .val .null, .unset, .unset] [])) _
    refine XS.aloadN X1.here hx rfl (hb hby d31_4) rfl rfl ?_
    refine st2.trans ?_
    show Steps p.tables e below (T2.setTop (mkF m 8 #[.val (.ref os), .val (.ref ob), .val .null, .unset, .unset] [(.ref va)])) _
    refine XS.astoreN X2.here hx rfl (hb hby d31_8) rfl rfl (l' := #[.val (.ref os), .val (.ref ob), .val .null, .val (.ref va), .unset]) rfl ?_
    show Steps p.tables e below (T2.setTop (mkF m 9 #[.val (.ref os), .val (.ref ob), .val .null, .val (.ref va), .unset] [])) _
    refine XS.aloadN X2.here hx rfl (hb hby d31_9) rfl rfl ?_
    refine st3.trans ?_
    show Steps p.tables e below (T3.setTop (mkF m 13 #[.val (.ref os), .val (.ref ob), .val .null, .val (.ref va), .unset] [(.int cnt)])) _
    refine XS.istore X3.here hx rfl (hb hby d31_13) rfl (l' := #[.val (.ref os), .val (.ref ob), .val .null, .val (.ref va), .val (.int cnt)]) rfl ?_
    show Steps p.tables e below (T3.setTop (mkF m 15 #[.val (.ref os), .val (.ref ob), .val .null, .val (.ref va), .val (.int cnt)] [])) _
    refine XS.aloadN X3.here hx rfl (hb hby d31_15) rfl rfl ?_
    refine st4.trans ?_
    show Steps p.tables e below (T4.setTop (mkF m 19 #[.val (.ref os), .val (.ref ob), .val .null, .val (.ref va), .val (.int cnt)] [(.int (1 : Int32))])) _
    refine XS.ifNo X4.here hx rfl (hb hby d31_19) rfl ((if0 _ _).trans (feq (by decide : ¬ ((1 : Int32) = (0 : Int32)))).1) ?_
    show Steps p.tables e below (T4.setTop (mkF m 22 #[.val (.ref os), .val (.ref ob), .val .null, .val (.ref va), .val (.int cnt)] [])) _
    refine XS.aloadN X4.here hx rfl (hb hby d31_22) rfl rfl ?_
    refine XS.iconst X4.here hx rfl (hb hby d31_23) ?_
    refine st5 _ ?_
    show Steps p.tables e below (T5.setTop (mkF m 27 #[.val (.ref os), .val (.ref ob), .val .null, .val (.ref va), .val (.int cnt)] [])) _
    refine XS.aloadN X5.here hx rfl (hb hby d31_27) rfl rfl ?_
    refine XS.aloadN X5.here hx rfl (hb hby d31_28) rfl rfl ?_
    refine XS.iconst X5.here hx rfl (hb hby d31_29) ?_
    refine XS.iload X5.here hx rfl (hb hby d31_30) rfl ?_
    show Steps p.tables e below (T5.setTop (mkF m 32 #[.val (.ref os), .val (.ref ob), .val .null, .val (.ref va), .val (.int cnt)] [(.int cnt), (.int (0 : Int32)), (.ref va), (.ref os)])) _
    refine st6 _ ?_
    show Steps p.tables e below (T6.setTop (mkF m 35 #[.val (.ref os), .val (.ref ob), .val .null, .val (.ref va), .val (.int cnt)] [(.ref bq6), (.ref os)])) _
    refine st7 _ ?_
    show Steps p.tables e below (T7.setTop (mkF m 38 #[.val (.ref os), .val (.ref ob), .val .null, .val (.ref va), .val (.int cnt)] [])) _
    refine XS.goto X7.here hx rfl (pc0 := 38) (pc' := 97) rfl (hb hby d31_38) (by decide) (by decide) ?_
    show Steps p.tables e below (T7.setTop (mkF m 97 #[.val (.ref os), .val (.ref ob), .val .null, .val (.ref va), .val (.int cnt)] [])) _
    exact X7.returnOut hx Bd.returns (hb hby d31_97) hr
  · show (QT Z os cnt vt h0 n0) _ T7.heap _
    rw [e7]
    exact ⟨_, _, rfl, N7, K7, sz_bq6, ⟨(((E_os.wr W5).keep Kq6).wr W7), ((Fw5.keep Kq6 nin0).other W7 (Or.inr (slot_ne (Or.inr (hw _ (M 50))) (Or.inr (hw _ (M 49))) (by decide) (t := .byte) (t' := (.array .byte)) (by decide) (by decide)))), Fw7, (Vq6.other W7 (Ne.symm ne_os_bq6))⟩⟩
theorem d30_0 : decode jdk_42_method_53_code 0 = .ok (.aload_n 0, 1) := by decide +kernel
theorem d30_1 : decode jdk_42_method_53_code 1 = .ok (.aload_n 1, 1) := by decide +kernel
theorem d30_2 : decode jdk_42_method_53_code 2 = .ok (.aconst_null, 1) := by decide +kernel
theorem pd_oLjava_lang_AbstractStringBuilder_Ljava_lang_Void_cV : parseMethodDescriptor "(Ljava/lang/AbstractStringBuilder;Ljava/lang/Void;)V" = some ⟨[(.object "java/lang/AbstractStringBuilder"), (.object "java/lang/Void")], none⟩ := by decide +kernel
theorem d30_3 : decode jdk_42_method_53_code 3 = .ok (.invokespecial 489, 3) := by decide +kernel
theorem d30_6 : decode jdk_42_method_53_code 6 = .ok (.return_, 1) := by decide +kernel
theorem pn_30 : plainName "java/lang/String" = true := by first | (simp [plainName, overriddenIn]; done) | decide +kernel
theorem ef_30 (m : MethodId) (x0 : Addr) (x1 : Addr) : entryFrame m #[(.ref x0), (.ref x1)] 2 = mkF m 0 #[.val (.ref x0), .val (.ref x1)] [] := by first | (simp [entryFrame, mkF, argsToLocals, Value.category]; done) | rfl
set_option maxRecDepth 65536 in
set_option maxHeartbeats 40000000 in
theorem sInit2 (l : Launch) (Z : State) (a0 : Array Value) (hw : ∀ d ∈ tables_1, d.before a0 Z = true) (ob va : Addr) (kA : ClassId) (cap cnt : Int32) (vs : List Value) (zc : Int32) (os : Addr) (vt : List Value) (h0 : Heap) (n0 : Nat) (Z0 : n0 ≤ h0.size) (B : BdS Z h0 ob va kA cap cnt vs) (S_CS : Sta Z h0 "java/lang/String" "COMPACT_STRINGS" "Z" (.int zc)) (hz : ¬ (zc = (0 : Int32))) (E_os : Exa Z h0 os "java/lang/String") (F_value_os : Fld Z h0 os "java/lang/String" "value" "[B" .null) (F_coder_os : Fld Z h0 os "java/lang/String" "coder" "B" (.int (0 : Int32))) (g_os : n0 ≤ os) (hcn0 : ¬ cnt < 0) (hcn : cnt.toNatClampNeg ≤ 45) (hlt : cnt < cap) (hcc : (0 : Int32).toNatClampNeg + cnt.toNatClampNeg ≤ cap.toNatClampNeg) (hcp : own_cp vs (.int (0 : Int32)) (0 : Int32) (List.replicate cnt.toNatClampNeg (.int (0 : Int32))) (0 : Int32) cnt = vt) (hce : ¬ (cnt = cap)) :
    MQ l Z (⟨"java/lang/String", "<init>", "(Ljava/lang/StringBuilder;)V"⟩ : MethodName) jdk_42_method_53_code 2 none ({ frames := 4, cells := 1, slots := 45, locals := 65 } : Room) #[(.ref os), (.ref ob)] h0 (QT Z os cnt vt h0 n0) := by
  intro ws
  refine MetFree.of_bodySF (plainFor_of_name pn_30) hisR ?_
  intro p e s m args below meth c s₁ Bd hml0 hP hK
  obtain ⟨rfl, hZ, hh⟩ := hP
  have hx := Bd.exec
  have hby := Bd.bytes
  have hml : c.maxLocals = 2 := hml0
  have hown : s.vm.findClass "java/lang/String" = some m.cls := findClass_of_methodNamed Bd.named
  have hnm := (name_of_methodNamed Bd.named Bd.method).1
  have X0 : Stand p l e ({ frames := 4, cells := 1, slots := 45, locals := 65 } : Room) s m #[(.ref os), (.ref ob)] below meth c s₁ [] 0 0 := Stand.of_body Bd
  have e0 : s₁.heap = h0 := by rw [← hh, Bd.state]; rfl
  have N0 := Fr.nil n0
  have pre0 : ∀ t_, Steps p.tables e below (s₁.setTop (mkF m 0 #[.val (.ref os), .val (.ref ob)] [])) t_ → Steps p.tables e below (s₁.setTop (entryFrame m #[(.ref os), (.ref ob)] 2)) t_ := fun t_ k_ => castTop (ef_30 m os ob) k_
  obtain ⟨_, _, ⟨T1, L1, k1, n1⟩, -, X1, ⟨Lc1, hQ1, l1, y1, z1⟩, st1⟩ := X0.specialBack hx (y := (⟨"java/lang/String", "<init>", "(Ljava/lang/AbstractStringBuilder;Ljava/lang/Void;)V"⟩ : MethodName)) rfl hown (mvT hZ (hw _ (M 189))) (mvT hZ (hw _ (M 190))) (mvT hZ (hw _ (M 191))) (by decide) (backOf (W := 0) ((sInit3 l Z a0 hw ob va kA cap cnt vs zc os vt h0 n0 Z0 B S_CS hz E_os F_value_os F_coder_os g_os hcn0 hcn hlt hcc hcp hce) []) hZ (hw _ (M 191)) (hw _ (M 46)) (by decide) (by decide)) (g := (mkF m 3 #[.val (.ref os), .val (.ref ob)] [.null, (.ref ob), (.ref os)])) rfl (by rw [hml]; rfl) (Steps.refl _) (a := os) (argsL := [(.ref ob), .null]) (rest := []) (lenOf pd_oLjava_lang_AbstractStringBuilder_Ljava_lang_Void_cV rfl) rfl (by show 2 * 0 + _ ≤ _; exact Nat.le_of_eq rfl) (hb hby d30_3) (fun _ _ => ⟨rfl, e0, (by decide : 0 + 1 ≤ _), (by decide : 0 + 45 ≤ _)⟩)
  dsimp only [Pt.U, Pt.locs, Pt.cells, Pt.slots] at X1 l1 y1 z1 st1 hQ1
  subst l1 y1 z1
  obtain ⟨sa1, kS1, rfl, N1q, Kq1, sz1q, Tq1⟩ := hQ1
  have N1 := Fr.app N0 N1q
  obtain ⟨fs, hr, hrun, hended, hW, hsame⟩ := X1.leave (v := none) (fun _ => rfl)
  refine ⟨_, _, pre0 _ ?_, hrun, hended, _, _, rfl, ?_, ⟨_, rfl⟩, hW, hsame.mono (by decide) (by decide)⟩
  · show Steps p.tables e below (s₁.setTop (mkF m 0 #[.val (.ref os), .val (.ref ob)] [])) _
    refine XS.aloadN X0.here hx rfl (hb hby d30_0) rfl rfl ?_
    refine XS.aloadN X0.here hx rfl (hb hby d30_1) rfl rfl ?_
    refine XS.aconstNull X0.here hx rfl (hb hby d30_2) ?_
    show Steps p.tables e below (s₁.setTop (mkF m 3 #[.val (.ref os), .val (.ref ob)] [.null, (.ref ob), (.ref os)])) _
    refine st1.trans ?_
    show Steps p.tables e below (T1.setTop (mkF m 6 #[.val (.ref os), .val (.ref ob)] [])) _
    exact X1.returnOut hx Bd.returns (hb hby d30_6) hr
  · show (QT Z os cnt vt h0 n0) _ T1.heap _
    exact ⟨_, _, rfl, N1, Kq1, sz1q, Tq1⟩
theorem d29_0 : decode jdk_67_method_42_code 0 = .ok (.new 18, 3) := by decide +kernel
theorem d29_3 : decode jdk_67_method_42_code 3 = .ok (.dup, 1) := by decide +kernel
theorem d29_4 : decode jdk_67_method_42_code 4 = .ok (.aload_n 0, 1) := by decide +kernel
theorem pd_oLjava_lang_StringBuilder_cV : parseMethodDescriptor "(Ljava/lang/StringBuilder;)V" = some ⟨[(.object "java/lang/StringBuilder")], none⟩ := by decide +kernel
theorem d29_5 : decode jdk_67_method_42_code 5 = .ok (.invokespecial 137, 3) := by decide +kernel
theorem d29_8 : decode jdk_67_method_42_code 8 = .ok (.areturn, 1) := by decide +kernel
theorem pn_29 : plainName "java/lang/StringBuilder" = true := by first | (simp [plainName, overriddenIn]; done) | decide +kernel
theorem ef_29 (m : MethodId) (x0 : Addr) : entryFrame m #[(.ref x0)] 1 = mkF m 0 #[.val (.ref x0)] [] := by first | (simp [entryFrame, mkF, argsToLocals, Value.category]; done) | rfl
set_option maxRecDepth 65536 in
set_option maxHeartbeats 40000000 in
theorem bToS (l : Launch) (Z : State) (a0 : Array Value) (hw : ∀ d ∈ tables_1, d.before a0 Z = true) (ob va : Addr) (kA : ClassId) (cap cnt : Int32) (vs : List Value) (zc : Int32) (vt : List Value) (h0 : Heap) (n0 : Nat) (Z0 : n0 ≤ h0.size) (B : BdS Z h0 ob va kA cap cnt vs) (S_CS : Sta Z h0 "java/lang/String" "COMPACT_STRINGS" "Z" (.int zc)) (hz : ¬ (zc = (0 : Int32))) (hcn0 : ¬ cnt < 0) (hcn : cnt.toNatClampNeg ≤ 45) (hlt : cnt < cap) (hcc : (0 : Int32).toNatClampNeg + cnt.toNatClampNeg ≤ cap.toNatClampNeg) (hcp : own_cp vs (.int (0 : Int32)) (0 : Int32) (List.replicate cnt.toNatClampNeg (.int (0 : Int32))) (0 : Int32) cnt = vt) (hce : ¬ (cnt = cap)) :
    MQ l Z (⟨"java/lang/StringBuilder", "toString", "()Ljava/lang/String;"⟩ : MethodName) jdk_67_method_42_code 1 (some (.object "java/lang/String")) ({ frames := 5, cells := 2, slots := 49, locals := 79 } : Room) #[(.ref ob)] h0 (QU Z cnt vt h0 n0) := by
  intro ws
  refine MetFree.of_bodySF (plainFor_of_name pn_29) hisR ?_
  intro p e s m args below meth c s₁ Bd hml0 hP hK
  obtain ⟨rfl, hZ, hh⟩ := hP
  have hx := Bd.exec
  have hby := Bd.bytes
  have hml : c.maxLocals = 1 := hml0
  have hown : s.vm.findClass "java/lang/StringBuilder" = some m.cls := findClass_of_methodNamed Bd.named
  have hnm := (name_of_methodNamed Bd.named Bd.method).1
  have X0 : Stand p l e ({ frames := 5, cells := 2, slots := 49, locals := 79 } : Room) s m #[(.ref ob)] below meth c s₁ [] 0 0 := Stand.of_body Bd
  have e0 : s₁.heap = h0 := by rw [← hh, Bd.state]; rfl
  have N0 := Fr.nil n0
  have pre0 : ∀ t_, Steps p.tables e below (s₁.setTop (mkF m 0 #[.val (.ref ob)] [])) t_ → Steps p.tables e below (s₁.setTop (entryFrame m #[(.ref ob)] 1)) t_ := fun t_ k_ => castTop (ef_29 m ob) k_
  obtain ⟨T1, h1, X1, e1, E1, A1, D1, -, st1⟩ := newO X0 hx hZ hown (hw _ (M 184)) (hw _ (M 47)) (hw _ (M 46)) e0 (g := (mkF m 0 #[.val (.ref ob)] [])) rfl (hb hby d29_0) (by decide) (by decide)
  obtain ⟨b1, g1⟩ : ∃ z, z = h0.size := ⟨_, rfl⟩
  rw [← g1] at A1 D1 st1
  have sz_b1 : h0.size ≤ b1 := Nat.le_trans (Keep.refl h0 []).1 (Nat.le_of_eq g1.symm)
  have g_b1 : n0 ≤ b1 := Nat.le_trans Z0 sz_b1
  have ne_ob_b1 : ob ≠ b1 := Nat.ne_of_lt (Nat.lt_of_lt_of_le B.1.lt (Nat.le_of_eq g1.symm))
  have K1 : Keep h0 h1 [] := (Keep.refl h0 []).ext E1
  have F_value_b1 : Fld Z h1 b1 "java/lang/String" "value" "[B" .null := D1 (Or.inr (hw _ (M 49))) (ty := (.array .byte)) (by decide)
  have F_coder_b1 : Fld Z h1 b1 "java/lang/String" "coder" "B" (.int (0 : Int32)) := D1 (Or.inr (hw _ (M 50))) (ty := .byte) (by decide)
  obtain ⟨_, _, ⟨T2, L2, k2, n2⟩, -, X2, ⟨Lc2, hQ2, l2, y2, z2⟩, st2⟩ := X1.specialBack hx (y := (⟨"java/lang/String", "<init>", "(Ljava/lang/StringBuilder;)V"⟩ : MethodName)) rfl hown (mvT hZ (hw _ (M 185))) (mvT hZ (hw _ (M 186))) (mvT hZ (hw _ (M 188))) (by decide) (backOf (W := 1) ((sInit2 l Z a0 hw ob va kA cap cnt vs zc b1 vt h1 n0 (Nat.le_trans Z0 K1.1) ⟨(B.1.ext E1), (B.2.1.ext E1), (B.2.2.1.ext E1), (B.2.2.2.1.ext E1), (B.2.2.2.2.ext E1)⟩ (S_CS.ext E1) hz A1 F_value_b1 F_coder_b1 g_b1 hcn0 hcn hlt hcc hcp hce) []) hZ (hw _ (M 188)) (hw _ (M 46)) (by decide) (by decide)) (g := (mkF m 5 #[.val (.ref ob)] [(.ref ob), (.ref b1), (.ref b1)])) rfl (by rw [hml]; rfl) (Steps.refl _) (a := b1) (argsL := [(.ref ob)]) (rest := [(.ref b1)]) (lenOf pd_oLjava_lang_StringBuilder_cV rfl) rfl (by show 2 * 0 + _ ≤ _; exact Nat.le_of_eq rfl) (hb hby d29_5) (fun _ _ => ⟨rfl, e1, (by decide : 1 + 1 ≤ _), (by decide : 4 + 45 ≤ _)⟩)
  dsimp only [Pt.U, Pt.locs, Pt.cells, Pt.slots] at X2 l2 y2 z2 st2 hQ2
  subst l2 y2 z2
  obtain ⟨sa2, kS2, rfl, N2q, Kq2, sz2q, Tq2⟩ := hQ2
  have K2 : Keep h0 T2.heap [] := K1.trans Kq2 (allS (Or.inr sz_b1) all0)
  have szz2 : h0.size ≤ sa2 := Nat.le_trans K1.1 sz2q
  have N2 := Fr.app N0 N2q
  obtain ⟨fs, hr, hrun, hended, hW, hsame⟩ := X2.leave (v := some (.ref b1)) (fun h => by rw [Bd.returns] at h; cases h)
  refine ⟨_, _, pre0 _ ?_, hrun, hended, _, _, rfl, ?_, ⟨_, rfl⟩, hW, hsame.mono (by decide) (by decide)⟩
  · show Steps p.tables e below (s₁.setTop (mkF m 0 #[.val (.ref ob)] [])) _
    refine st1 _ ?_
    show Steps p.tables e below (T1.setTop (mkF m 3 #[.val (.ref ob)] [(.ref b1)])) _
    refine XS.dup X1.here hx rfl (hb hby d29_3) rfl rfl ?_
    refine XS.aloadN X1.here hx rfl (hb hby d29_4) rfl rfl ?_
    refine st2.trans ?_
    show Steps p.tables e below (T2.setTop (mkF m 8 #[.val (.ref ob)] [(.ref b1)])) _
    jvm_step X2.here [X2.here.top, hx, (hb hby d29_8), X2.method', Bd.returns, Value.isRef, FieldType.isReference]
    first | (intro acts; rw [hr _ acts rfl rfl rfl]) | rw [hr _ _ rfl rfl rfl]
    exact Steps.refl _
  · show (QU Z cnt vt h0 n0) _ T2.heap _
    exact ⟨_, _, _, rfl, N2, K2, sz_b1, szz2, Tq2⟩
theorem d39_9 : decode jdk_43_method_13_code 9 = .ok (.iload_n 2, 1) := by decide +kernel
theorem d39_10 : decode jdk_43_method_13_code 10 = .ok (.aload_n 0, 1) := by decide +kernel
theorem d39_11 : decode jdk_43_method_13_code 11 = .ok (.arraylength, 1) := by decide +kernel
theorem d39_12 : decode jdk_43_method_13_code 12 = .ok (.if_icmp .ge 20, 3) := by decide +kernel
theorem d39_15 : decode jdk_43_method_13_code 15 = .ok (.aload_n 0, 1) := by decide +kernel
theorem d39_16 : decode jdk_43_method_13_code 16 = .ok (.iload_n 2, 1) := by decide +kernel
theorem d39_17 : decode jdk_43_method_13_code 17 = .ok (.baload, 1) := by decide +kernel
theorem d39_18 : decode jdk_43_method_13_code 18 = .ok (.aload_n 1, 1) := by decide +kernel
theorem d39_19 : decode jdk_43_method_13_code 19 = .ok (.iload_n 2, 1) := by decide +kernel
theorem d39_20 : decode jdk_43_method_13_code 20 = .ok (.baload, 1) := by decide +kernel
theorem d39_21 : decode jdk_43_method_13_code 21 = .ok (.if_icmp .eq 5, 3) := by decide +kernel
theorem d39_26 : decode jdk_43_method_13_code 26 = .ok (.iinc 2 1, 3) := by decide +kernel
theorem d39_29 : decode jdk_43_method_13_code 29 = .ok (.goto (-20), 3) := by decide +kernel
theorem own_lt_of {i z : Int32} {k : Nat} (h : i.toInt + (k + 1 : Nat) = z.toInt) : i < z := by rw [Int32.lt_iff_toInt_lt]; omega
theorem own_next {i z : Int32} {k : Nat} (h : i.toInt + (k + 1 : Nat) = z.toInt) (h0 : 0 ≤ i.toInt) : (i + (1 : Int32)).toInt = i.toInt + 1 := by
  have h1 := z.toInt_lt
  rw [Int32.toInt_add]
  have e : (1 : Int32).toInt = 1 := rfl
  rw [e, Int.bmod_def]; omega
set_option maxRecDepth 65536 in
set_option maxHeartbeats 40000000 in
theorem loopEq {p : Program} {l : Launch} {e : Env} {R : Room} {s : State} {m : MethodId} {args : Array Value} {below : List Frame} {meth : Method} {c : Code} {T : State} {locs : List Loc} {cells slots : Nat} {Z : State} {h : Heap} {sa sb : Addr} {zs : Int32} {clA clB : Cell}
    (X : Stand p l e R s m args below meth c T locs cells slots) (hx : p.tables.exec = Jvm.exec) (hZ : Z.Warmed39 s.vm) (hby : c.code = jdk_43_method_13_code) (eT : T.heap = h) (ArvA : Arr Z h sa clA .byte) (ArvB : Arr Z h sb clB .byte) (SvA : clA.slots.size = zs.toNatClampNeg) (SvB : clB.slots.size = zs.toNatClampNeg) (NgA : ¬ zs < 0)
    (hEq : ∀ k, k < zs.toNatClampNeg → ∃ xx : Int32, clA.slots[k]? = some (.int xx) ∧ clB.slots[k]? = some (.int xx)) :
    ∀ (k : Nat) (i : Int32), i.toInt + (k : Nat) = zs.toInt → 0 ≤ i.toInt → ∀ target, Steps p.tables e below (T.setTop (mkF m 32 #[.val (.ref sa), .val (.ref sb), .val (.int zs)] [])) target → Steps p.tables e below (T.setTop (mkF m 9 #[.val (.ref sa), .val (.ref sb), .val (.int i)] [])) target := by
  intro k
  induction k with
  | zero =>
    intro i hi h0 target kt
    have hc : i = zs := by rw [← Int32.toInt_inj]; omega
    subst hc
    show Steps p.tables e below (T.setTop (mkF m 9 #[.val (.ref sa), .val (.ref sb), .val (.int i)] [])) _
    refine XS.iloadN X.here hx rfl (hb hby d39_9) rfl ?_
    show Steps p.tables e below (T.setTop (mkF m 10 #[.val (.ref sa), .val (.ref sb), .val (.int i)] [(.int i)])) _
    refine XS.aloadN X.here hx rfl (hb hby d39_10) rfl rfl ?_
    show Steps p.tables e below (T.setTop (mkF m 11 #[.val (.ref sa), .val (.ref sb), .val (.int i)] [(.ref sa), (.int i)])) _
    refine X.arraylength hx (by rw [eT]; exact ArvA.1) (State.isArrayOf_alike hZ.alike ArvA.2.1) (g := (mkF m 11 #[.val (.ref sa), .val (.ref sb), .val (.int i)] [(.ref sa), (.int i)])) rfl rfl (hb hby d39_11) _ ?_
    rw [len_of SvA NgA]
    show Steps p.tables e below (T.setTop (mkF m 12 #[.val (.ref sa), .val (.ref sb), .val (.int i)] [(.int i), (.int i)])) _
    refine XS.icmpYes X.here hx rfl (pc0 := 12) (pc' := 32) rfl (hb hby d39_12) rfl (flt (Int32.lt_irrefl : ¬ (i < i))).2.1 (by decide) (by decide) ?_
    exact kt
  | succ k ih =>
    intro i hi h0 target kt
    have hc12 : i < zs := own_lt_of hi
    have hnn : ¬ i < 0 := by rw [Int32.lt_iff_toInt_lt]; have : (0 : Int32).toInt = 0 := rfl; omega
    have hinA := inb_of SvA ⟨hnn, hc12⟩
    have hinB := inb_of SvB ⟨hnn, hc12⟩
    obtain ⟨xx, hatA, hatB⟩ := hEq i.toNatClampNeg (by rw [← SvA]; exact Nat.lt_of_not_le fun q => hinA (Or.inr q))
    show Steps p.tables e below (T.setTop (mkF m 9 #[.val (.ref sa), .val (.ref sb), .val (.int i)] [])) _
    refine XS.iloadN X.here hx rfl (hb hby d39_9) rfl ?_
    show Steps p.tables e below (T.setTop (mkF m 10 #[.val (.ref sa), .val (.ref sb), .val (.int i)] [(.int i)])) _
    refine XS.aloadN X.here hx rfl (hb hby d39_10) rfl rfl ?_
    show Steps p.tables e below (T.setTop (mkF m 11 #[.val (.ref sa), .val (.ref sb), .val (.int i)] [(.ref sa), (.int i)])) _
    refine X.arraylength hx (by rw [eT]; exact ArvA.1) (State.isArrayOf_alike hZ.alike ArvA.2.1) (g := (mkF m 11 #[.val (.ref sa), .val (.ref sb), .val (.int i)] [(.ref sa), (.int i)])) rfl rfl (hb hby d39_11) _ ?_
    rw [len_of SvA NgA]
    show Steps p.tables e below (T.setTop (mkF m 12 #[.val (.ref sa), .val (.ref sb), .val (.int i)] [(.int zs), (.int i)])) _
    refine XS.icmpNo X.here hx rfl (hb hby d39_12) rfl (tlt hc12).2.1 ?_
    show Steps p.tables e below (T.setTop (mkF m 15 #[.val (.ref sa), .val (.ref sb), .val (.int i)] [])) _
    refine XS.aloadN X.here hx rfl (hb hby d39_15) rfl rfl ?_
    show Steps p.tables e below (T.setTop (mkF m 16 #[.val (.ref sa), .val (.ref sb), .val (.int i)] [(.ref sa)])) _
    refine XS.iloadN X.here hx rfl (hb hby d39_16) rfl ?_
    show Steps p.tables e below (T.setTop (mkF m 17 #[.val (.ref sa), .val (.ref sb), .val (.int i)] [(.int i), (.ref sa)])) _
    refine X.baloadBytes hx (j := i) (v := (.int xx)) (by rw [eT]; exact ArvA.1) (State.isArrayOf_alike hZ.alike ArvA.2.1) ArvA.2.2 hinA hatA (g := (mkF m 17 #[.val (.ref sa), .val (.ref sb), .val (.int i)] [(.int i), (.ref sa)])) rfl rfl (hb hby d39_17) _ ?_
    show Steps p.tables e below (T.setTop (mkF m 18 #[.val (.ref sa), .val (.ref sb), .val (.int i)] [(.int xx)])) _
    refine XS.aloadN X.here hx rfl (hb hby d39_18) rfl rfl ?_
    show Steps p.tables e below (T.setTop (mkF m 19 #[.val (.ref sa), .val (.ref sb), .val (.int i)] [(.ref sb), (.int xx)])) _
    refine XS.iloadN X.here hx rfl (hb hby d39_19) rfl ?_
    show Steps p.tables e below (T.setTop (mkF m 20 #[.val (.ref sa), .val (.ref sb), .val (.int i)] [(.int i), (.ref sb), (.int xx)])) _
    refine X.baloadBytes hx (j := i) (v := (.int xx)) (by rw [eT]; exact ArvB.1) (State.isArrayOf_alike hZ.alike ArvB.2.1) ArvB.2.2 hinB hatB (g := (mkF m 20 #[.val (.ref sa), .val (.ref sb), .val (.int i)] [(.int i), (.ref sb), (.int xx)])) rfl rfl (hb hby d39_20) _ ?_
    show Steps p.tables e below (T.setTop (mkF m 21 #[.val (.ref sa), .val (.ref sb), .val (.int i)] [(.int xx), (.int xx)])) _
    refine XS.icmpYes X.here hx rfl (pc0 := 21) (pc' := 26) rfl (hb hby d39_21) rfl (teq (rfl : xx = xx)).1 (by decide) (by decide) ?_
    show Steps p.tables e below (T.setTop (mkF m 26 #[.val (.ref sa), .val (.ref sb), .val (.int i)] [])) _
    refine XS.iinc X.here hx rfl (hb hby d39_26) rfl (l' := #[.val (.ref sa), .val (.ref sb), .val (.int (i + (1 : Int32)))]) rfl ?_
    show Steps p.tables e below (T.setTop (mkF m 29 #[.val (.ref sa), .val (.ref sb), .val (.int (i + (1 : Int32)))] [])) _
    refine XS.goto X.here hx rfl (pc0 := 29) (pc' := 9) rfl (hb hby d39_29) (by decide) (by decide) ?_
    exact ih (i + (1 : Int32)) (by rw [own_next hi h0]; omega) (by rw [own_next hi h0]; omega) target kt
theorem d39_0 : decode jdk_43_method_13_code 0 = .ok (.aload_n 0, 1) := by decide +kernel
theorem d39_1 : decode jdk_43_method_13_code 1 = .ok (.arraylength, 1) := by decide +kernel
theorem d39_2 : decode jdk_43_method_13_code 2 = .ok (.aload_n 1, 1) := by decide +kernel
theorem d39_3 : decode jdk_43_method_13_code 3 = .ok (.arraylength, 1) := by decide +kernel
theorem d39_4 : decode jdk_43_method_13_code 4 = .ok (.if_icmp .ne 30, 3) := by decide +kernel
theorem d39_7 : decode jdk_43_method_13_code 7 = .ok (.iconst 0, 1) := by decide +kernel
theorem d39_8 : decode jdk_43_method_13_code 8 = .ok (.istore_n 2, 1) := by decide +kernel
theorem d39_32 : decode jdk_43_method_13_code 32 = .ok (.iconst 1, 1) := by decide +kernel
theorem d39_33 : decode jdk_43_method_13_code 33 = .ok (.ireturn, 1) := by decide +kernel
theorem pn_39 : plainName "java/lang/StringLatin1" = true := by first | (simp [plainName, overriddenIn]; done) | decide +kernel
theorem ef_39 (m : MethodId) (x0 : Addr) (x1 : Addr) : entryFrame m #[(.ref x0), (.ref x1)] 3 = mkF m 0 #[.val (.ref x0), .val (.ref x1), .unset] [] := by first | (simp [entryFrame, mkF, argsToLocals, Value.category]; done) | rfl
set_option maxRecDepth 65536 in
set_option maxHeartbeats 40000000 in
theorem lEquals (l : Launch) (Z : State) (a0 : Array Value) (hw : ∀ d ∈ tables_1, d.before a0 Z = true) (sa sb : Addr) (kS kB : ClassId) (zs : Int32) (ss : List Value) (h0 : Heap) (n0 : Nat) (Z0 : n0 ≤ h0.size) (A : Arv Z h0 sa kS .byte zs ss (.int (0 : Int32))) (Bv : Arv Z h0 sb kB .byte zs ss (.int (0 : Int32))) :
    MQ l Z (⟨"java/lang/StringLatin1", "equals", "([B[B)Z"⟩ : MethodName) jdk_43_method_13_code 3 (some .boolean) ({ frames := 0, cells := 0, slots := 0, locals := 0 } : Room) #[(.ref sa), (.ref sb)] h0 (QR (.int (1 : Int32)) h0 n0) := by
  intro ws
  refine MetFree.of_bodySF (plainFor_of_name pn_39) hisR ?_
  intro p e s m args below meth c s₁ Bd hml0 hP hK
  obtain ⟨rfl, hZ, hh⟩ := hP
  have hx := Bd.exec
  have hby := Bd.bytes
  have hml : c.maxLocals = 3 := hml0
  have hown : s.vm.findClass "java/lang/StringLatin1" = some m.cls := findClass_of_methodNamed Bd.named
  have hnm := (name_of_methodNamed Bd.named Bd.method).1
  have X0 : Stand p l e ({ frames := 0, cells := 0, slots := 0, locals := 0 } : Room) s m #[(.ref sa), (.ref sb)] below meth c s₁ [] 0 0 := Stand.of_body Bd
  have e0 : s₁.heap = h0 := by rw [← hh, Bd.state]; rfl
  have N0 := Fr.nil n0
  have pre0 : ∀ t_, Steps p.tables e below (s₁.setTop (mkF m 0 #[.val (.ref sa), .val (.ref sb), .unset] [])) t_ → Steps p.tables e below (s₁.setTop (entryFrame m #[(.ref sa), (.ref sb)] 3)) t_ := fun t_ k_ => castTop (ef_39 m sa sb) k_
  obtain ⟨clv1, Arv1, qv1, Sv1, Ng1, Hv1, Gv1⟩ := id A
  obtain ⟨clv2, Arv2, qv2, Sv2, Ng2, Hv2, Gv2⟩ := id Bv
  obtain ⟨clA, ArvA, -, SvA, NgA, HA, GA⟩ := id A
  obtain ⟨clB, ArvB, -, SvB, -, HB, -⟩ := id Bv
  have hEq : ∀ k, k < zs.toNatClampNeg → ∃ xx : Int32, clA.slots[k]? = some (.int xx) ∧ clB.slots[k]? = some (.int xx) := fun k hk => by
    obtain ⟨xx, hxx⟩ := fit_I (GA k (by rw [SvA]; exact hk)) (Or.inr (Or.inr (Or.inl rfl)))
    exact ⟨xx, by rw [HA k (by rw [SvA]; exact hk), hxx], by rw [HB k (by rw [SvB]; exact hk), hxx]⟩
  have hz0 : (0 : Int32).toInt + (zs.toNatClampNeg : Nat) = zs.toInt := by have e0 : (0 : Int32).toInt = 0 := rfl; have := NgA; rw [Int32.lt_iff_toInt_lt, e0] at this; simp only [Int32.toNatClampNeg]; omega
  obtain ⟨fs, hr, hrun, hended, hW, hsame⟩ := X0.leave (v := some (.int (1 : Int32))) (fun h => by rw [Bd.returns] at h; cases h)
  refine ⟨_, _, pre0 _ ?_, hrun, hended, _, _, rfl, ?_, ⟨_, rfl⟩, hW, hsame.mono (by decide) (by decide)⟩
  · show Steps p.tables e below (s₁.setTop (mkF m 0 #[.val (.ref sa), .val (.ref sb), .unset] [])) _
    refine XS.aloadN X0.here hx rfl (hb hby d39_0) rfl rfl ?_
    refine X0.arraylength hx (by rw [e0]; exact Arv1.1) (State.isArrayOf_alike hZ.alike Arv1.2.1) (g := (mkF m 1 #[.val (.ref sa), .val (.ref sb), .unset] [(.ref sa)])) rfl rfl (hb hby d39_1) _ ?_
    rw [len_of Sv1 Ng1]
    show Steps p.tables e below (s₁.setTop (mkF m 2 #[.val (.ref sa), .val (.ref sb), .unset] [(.int zs)])) _
    refine XS.aloadN X0.here hx rfl (hb hby d39_2) rfl rfl ?_
    refine X0.arraylength hx (by rw [e0]; exact Arv2.1) (State.isArrayOf_alike hZ.alike Arv2.2.1) (g := (mkF m 3 #[.val (.ref sa), .val (.ref sb), .unset] [(.ref sb), (.int zs)])) rfl rfl (hb hby d39_3) _ ?_
    rw [len_of Sv2 Ng2]
    show Steps p.tables e below (s₁.setTop (mkF m 4 #[.val (.ref sa), .val (.ref sb), .unset] [(.int zs), (.int zs)])) _
    refine XS.icmpNo X0.here hx rfl (hb hby d39_4) rfl (teq (rfl : zs = zs)).2 ?_
    show Steps p.tables e below (s₁.setTop (mkF m 7 #[.val (.ref sa), .val (.ref sb), .unset] [])) _
    refine XS.iconst X0.here hx rfl (hb hby d39_7) ?_
    refine XS.istoreN X0.here hx rfl (hb hby d39_8) rfl (l' := #[.val (.ref sa), .val (.ref sb), .val (.int (0 : Int32))]) rfl ?_
    show Steps p.tables e below (s₁.setTop (mkF m 9 #[.val (.ref sa), .val (.ref sb), .val (.int (0 : Int32))] [])) _
    refine loopEq X0 hx hZ hby e0 ArvA ArvB SvA SvB NgA hEq zs.toNatClampNeg (0 : Int32) hz0 (Int.le_refl _) _ ?_
    show Steps p.tables e below (s₁.setTop (mkF m 32 #[.val (.ref sa), .val (.ref sb), .val (.int zs)] [])) _
    refine XS.iconst X0.here hx rfl (hb hby d39_32) ?_
    exact retN X0 hx (t := .boolean) Bd.returns (by simp) (hb hby d39_33) hr
  · show (QR (.int (1 : Int32)) h0 n0) _ s₁.heap _
    rw [e0]
    exact ⟨rfl, N0, rfl⟩
theorem d38_0 : decode jdk_42_method_66_code 0 = .ok (.aload_n 0, 1) := by decide +kernel
theorem d38_1 : decode jdk_42_method_66_code 1 = .ok (.aload_n 1, 1) := by decide +kernel
theorem d38_2 : decode jdk_42_method_66_code 2 = .ok (.if_acmp .ne 5, 3) := by decide +kernel
theorem d38_7 : decode jdk_42_method_66_code 7 = .ok (.aload_n 1, 1) := by decide +kernel
theorem d38_8 : decode jdk_42_method_66_code 8 = .ok (.instanceof 10, 3) := by decide +kernel
theorem d38_11 : decode jdk_42_method_66_code 11 = .ok (.ifCond .eq 43, 3) := by decide +kernel
theorem d38_14 : decode jdk_42_method_66_code 14 = .ok (.aload_n 1, 1) := by decide +kernel
theorem d38_15 : decode jdk_42_method_66_code 15 = .ok (.checkcast 10, 3) := by decide +kernel
theorem d38_18 : decode jdk_42_method_66_code 18 = .ok (.astore_n 2, 1) := by decide +kernel
theorem d38_19 : decode jdk_42_method_66_code 19 = .ok (.getstatic 38, 3) := by decide +kernel
theorem d38_22 : decode jdk_42_method_66_code 22 = .ok (.ifCond .eq 14, 3) := by decide +kernel
theorem d38_25 : decode jdk_42_method_66_code 25 = .ok (.aload_n 0, 1) := by decide +kernel
theorem d38_26 : decode jdk_42_method_66_code 26 = .ok (.getfield 15, 3) := by decide +kernel
theorem d38_29 : decode jdk_42_method_66_code 29 = .ok (.aload_n 2, 1) := by decide +kernel
theorem d38_30 : decode jdk_42_method_66_code 30 = .ok (.getfield 15, 3) := by decide +kernel
theorem d38_33 : decode jdk_42_method_66_code 33 = .ok (.if_icmp .ne 21, 3) := by decide +kernel
theorem d38_36 : decode jdk_42_method_66_code 36 = .ok (.aload_n 0, 1) := by decide +kernel
theorem d38_37 : decode jdk_42_method_66_code 37 = .ok (.getfield 9, 3) := by decide +kernel
theorem d38_40 : decode jdk_42_method_66_code 40 = .ok (.aload_n 2, 1) := by decide +kernel
theorem d38_41 : decode jdk_42_method_66_code 41 = .ok (.getfield 9, 3) := by decide +kernel
theorem pd_oABABcZ : parseMethodDescriptor "([B[B)Z" = some ⟨[(.array .byte), (.array .byte)], some .boolean⟩ := by decide +kernel
theorem d38_44 : decode jdk_42_method_66_code 44 = .ok (.invokestatic 541, 3) := by decide +kernel
theorem d38_47 : decode jdk_42_method_66_code 47 = .ok (.ifCond .eq 7, 3) := by decide +kernel
theorem d38_50 : decode jdk_42_method_66_code 50 = .ok (.iconst 1, 1) := by decide +kernel
theorem d38_51 : decode jdk_42_method_66_code 51 = .ok (.goto 4, 3) := by decide +kernel
theorem d38_55 : decode jdk_42_method_66_code 55 = .ok (.ireturn, 1) := by decide +kernel
theorem pn_38 : plainName "java/lang/String" = true := by first | (simp [plainName, overriddenIn]; done) | decide +kernel
theorem ef_38 (m : MethodId) (x0 : Addr) (x1 : Addr) : entryFrame m #[(.ref x0), (.ref x1)] 3 = mkF m 0 #[.val (.ref x0), .val (.ref x1), .unset] [] := by first | (simp [entryFrame, mkF, argsToLocals, Value.category]; done) | rfl
set_option maxRecDepth 65536 in
set_option maxHeartbeats 40000000 in
theorem sEquals (l : Launch) (Z : State) (a0 : Array Value) (hw : ∀ d ∈ tables_1, d.before a0 Z = true) (os sa : Addr) (kS : ClassId) (zs : Int32) (ss : List Value) (zc : Int32) (ot sb : Addr) (kB : ClassId) (h0 : Heap) (n0 : Nat) (Z0 : n0 ≤ h0.size) (Ts : StS Z h0 os sa kS zs ss) (S_CS : Sta Z h0 "java/lang/String" "COMPACT_STRINGS" "Z" (.int zc)) (hz : ¬ (zc = (0 : Int32))) (Tt : StS Z h0 ot sb kB zs ss) (ha2 : ¬ (os = ot)) :
    MQ l Z (⟨"java/lang/String", "equals", "(Ljava/lang/Object;)Z"⟩ : MethodName) jdk_42_method_66_code 3 (some .boolean) ({ frames := 1, cells := 0, slots := 0, locals := 14 } : Room) #[(.ref os), (.ref ot)] h0 (QR (.int (1 : Int32)) h0 n0) := by
  intro ws
  refine MetFree.of_bodySF (plainFor_of_name pn_38) hisR ?_
  intro p e s m args below meth c s₁ Bd hml0 hP hK
  obtain ⟨rfl, hZ, hh⟩ := hP
  have hx := Bd.exec
  have hby := Bd.bytes
  have hml : c.maxLocals = 3 := hml0
  have hown : s.vm.findClass "java/lang/String" = some m.cls := findClass_of_methodNamed Bd.named
  have hnm := (name_of_methodNamed Bd.named Bd.method).1
  have X0 : Stand p l e ({ frames := 1, cells := 0, slots := 0, locals := 14 } : Room) s m #[(.ref os), (.ref ot)] below meth c s₁ [] 0 0 := Stand.of_body Bd
  have e0 : s₁.heap = h0 := by rw [← hh, Bd.state]; rfl
  have N0 := Fr.nil n0
  have pre0 : ∀ t_, Steps p.tables e below (s₁.setTop (mkF m 0 #[.val (.ref os), .val (.ref ot), .unset] [])) t_ → Steps p.tables e below (s₁.setTop (entryFrame m #[(.ref os), (.ref ot)] 3)) t_ := fun t_ k_ => castTop (ef_38 m os ot) k_
  obtain ⟨T1, X1, e1, st1⟩ := instY X0 hx hZ hown (hw _ (M 221)) e0 (Ins.self Tt.1) (g := (mkF m 8 #[.val (.ref os), .val (.ref ot), .unset] [(.ref ot)])) rfl rfl (hb hby d38_8)
  obtain ⟨T2, X2, e2, st2⟩ := castY X1 hx hZ hown (hw _ (M 221)) e1 (Ins.self Tt.1) (g := (mkF m 15 #[.val (.ref os), .val (.ref ot), .unset] [(.ref ot)])) rfl rfl (hb hby d38_15)
  obtain ⟨T3, X3, e3, st3⟩ := getS2 X2 hx hZ hown (host := "") (Or.inl (hw _ (M 98))) Via.refl e2 S_CS (g := (mkF m 19 #[.val (.ref os), .val (.ref ot), .val (.ref ot)] [])) rfl (hb hby d38_19)
  obtain ⟨T4, X4, e4, st4⟩ := getF X3 hx hZ hown (host := "") (Or.inl (hw _ (M 99))) Via.refl e3 Ts.2.1 (g := (mkF m 26 #[.val (.ref os), .val (.ref ot), .val (.ref ot)] [(.ref os)])) rfl rfl (hb hby d38_26)
  obtain ⟨T5, X5, e5, st5⟩ := getF X4 hx hZ hown (host := "") (Or.inl (hw _ (M 99))) Via.refl e4 Tt.2.1 (g := (mkF m 30 #[.val (.ref os), .val (.ref ot), .val (.ref ot)] [(.ref ot), (.int (0 : Int32))])) rfl rfl (hb hby d38_30)
  obtain ⟨T6, X6, e6, st6⟩ := getF X5 hx hZ hown (host := "") (Or.inl (hw _ (M 92))) Via.refl e5 Ts.2.2.1 (g := (mkF m 37 #[.val (.ref os), .val (.ref ot), .val (.ref ot)] [(.ref os)])) rfl rfl (hb hby d38_37)
  obtain ⟨T7, X7, e7, st7⟩ := getF X6 hx hZ hown (host := "") (Or.inl (hw _ (M 92))) Via.refl e6 Tt.2.2.1 (g := (mkF m 41 #[.val (.ref os), .val (.ref ot), .val (.ref ot)] [(.ref ot), (.ref sa)])) rfl rfl (hb hby d38_41)
  obtain ⟨_, _, ⟨T8, L8, k8, n8⟩, -, X8, ⟨Lc8, hQ8, l8, y8, z8⟩, st8⟩ := Jvm.LawKit.callS X7 hx (y := (⟨"java/lang/StringLatin1", "equals", "([B[B)Z"⟩ : MethodName)) hown (mvT hZ (hw _ (M 222))) (mvT hZ (hw _ (M 223))) (mvT hZ (hw _ (M 224))) (mvT hZ (hw _ (M 225))) (by decide) (backOf (W := 0) ((lEquals l Z a0 hw sa sb kS kB zs ss h0 n0 (Nat.le_trans Z0 (Keep.refl h0 []).1) Ts.2.2.2 Tt.2.2.2) []) hZ (hw _ (M 225)) (hw _ (M 224)) (by decide) (by decide)) (g := (mkF m 44 #[.val (.ref os), .val (.ref ot), .val (.ref ot)] [(.ref sb), (.ref sa)])) rfl (by rw [hml]; rfl) (argsL := [(.ref sa), (.ref sb)]) (rest := []) (lenOf pd_oABABcZ rfl) rfl (by show 2 * 0 + _ ≤ _; exact Nat.le_of_eq rfl) (hb hby d38_44) (fun _ _ => ⟨rfl, e7, (by decide : 0 + 0 ≤ _), (by decide : 0 + 0 ≤ _)⟩)
  dsimp only [Pt.U, Pt.locs, Pt.cells, Pt.slots] at X8 l8 y8 z8 st8 hQ8
  subst l8 y8 z8
  obtain ⟨rfl, N8q, e8⟩ := hQ8
  have N8 := Fr.app N0 N8q
  obtain ⟨fs, hr, hrun, hended, hW, hsame⟩ := X8.leave (v := some (.int (1 : Int32))) (fun h => by rw [Bd.returns] at h; cases h)
  refine ⟨_, _, pre0 _ ?_, hrun, hended, _, _, rfl, ?_, ⟨_, rfl⟩, hW, hsame.mono (by decide) (by decide)⟩
  · show Steps p.tables e below (s₁.setTop (mkF m 0 #[.val (.ref os), .val (.ref ot), .unset] [])) _
    refine XS.aloadN X0.here hx rfl (hb hby d38_0) rfl rfl ?_
    refine XS.aloadN X0.here hx rfl (hb hby d38_1) rfl rfl ?_
    refine Jvm.RoadKit.acmp (g := (mkF m 2 #[.val (.ref os), .val (.ref ot), .unset] [(.ref ot), (.ref os)])) X0 hx rfl rfl rfl (pc0 := 2) (pc' := 7) (same := false) rfl (hb hby d38_2) rfl (decide_eq_false fun q => ha2 (Value.ref.inj q)) (by decide) (by decide) ?_
    show Steps p.tables e below (s₁.setTop (mkF m 7 #[.val (.ref os), .val (.ref ot), .unset] [])) _
    refine XS.aloadN X0.here hx rfl (hb hby d38_7) rfl rfl ?_
    refine st1 _ ?_
    show Steps p.tables e below (T1.setTop (mkF m 11 #[.val (.ref os), .val (.ref ot), .unset] [(.int (1 : Int32))])) _
    refine XS.ifNo X1.here hx rfl (hb hby d38_11) rfl ((if0 _ _).trans (feq (by decide : ¬ ((1 : Int32) = (0 : Int32)))).1) ?_
    show Steps p.tables e below (T1.setTop (mkF m 14 #[.val (.ref os), .val (.ref ot), .unset] [])) _
    refine XS.aloadN X1.here hx rfl (hb hby d38_14) rfl rfl ?_
    refine st2 _ ?_
    show Steps p.tables e below (T2.setTop (mkF m 18 #[.val (.ref os), .val (.ref ot), .unset] [(.ref ot)])) _
    refine XS.astoreN X2.here hx rfl (hb hby d38_18) rfl rfl (l' := #[.val (.ref os), .val (.ref ot), .val (.ref ot)]) rfl ?_
    show Steps p.tables e below (T2.setTop (mkF m 19 #[.val (.ref os), .val (.ref ot), .val (.ref ot)] [])) _
    refine st3 _ ?_
    show Steps p.tables e below (T3.setTop (mkF m 22 #[.val (.ref os), .val (.ref ot), .val (.ref ot)] [(.int zc)])) _
    refine XS.ifNo X3.here hx rfl (hb hby d38_22) rfl ((if0 _ _).trans (feq hz).1) ?_
    show Steps p.tables e below (T3.setTop (mkF m 25 #[.val (.ref os), .val (.ref ot), .val (.ref ot)] [])) _
    refine XS.aloadN X3.here hx rfl (hb hby d38_25) rfl rfl ?_
    refine st4 _ ?_
    show Steps p.tables e below (T4.setTop (mkF m 29 #[.val (.ref os), .val (.ref ot), .val (.ref ot)] [(.int (0 : Int32))])) _
    refine XS.aloadN X4.here hx rfl (hb hby d38_29) rfl rfl ?_
    refine st5 _ ?_
    show Steps p.tables e below (T5.setTop (mkF m 33 #[.val (.ref os), .val (.ref ot), .val (.ref ot)] [(.int (0 : Int32)), (.int (0 : Int32))])) _
    refine XS.icmpNo X5.here hx rfl (hb hby d38_33) rfl (teq (by decide : (0 : Int32) = (0 : Int32))).2 ?_
    show Steps p.tables e below (T5.setTop (mkF m 36 #[.val (.ref os), .val (.ref ot), .val (.ref ot)] [])) _
    refine XS.aloadN X5.here hx rfl (hb hby d38_36) rfl rfl ?_
    refine st6 _ ?_
    show Steps p.tables e below (T6.setTop (mkF m 40 #[.val (.ref os), .val (.ref ot), .val (.ref ot)] [(.ref sa)])) _
    refine XS.aloadN X6.here hx rfl (hb hby d38_40) rfl rfl ?_
    refine st7 _ ?_
    show Steps p.tables e below (T7.setTop (mkF m 44 #[.val (.ref os), .val (.ref ot), .val (.ref ot)] [(.ref sb), (.ref sa)])) _
    refine st8 _ ?_
    show Steps p.tables e below (T8.setTop (mkF m 47 #[.val (.ref os), .val (.ref ot), .val (.ref ot)] [(.int (1 : Int32))])) _
    refine XS.ifNo X8.here hx rfl (hb hby d38_47) rfl ((if0 _ _).trans (feq (by decide : ¬ ((1 : Int32) = (0 : Int32)))).1) ?_
    show Steps p.tables e below (T8.setTop (mkF m 50 #[.val (.ref os), .val (.ref ot), .val (.ref ot)] [])) _
    refine XS.iconst X8.here hx rfl (hb hby d38_50) ?_
    refine XS.goto X8.here hx rfl (pc0 := 51) (pc' := 55) rfl (hb hby d38_51) (by decide) (by decide) ?_
    show Steps p.tables e below (T8.setTop (mkF m 55 #[.val (.ref os), .val (.ref ot), .val (.ref ot)] [(.int (1 : Int32))])) _
    exact retN X8 hx (t := .boolean) Bd.returns (by simp) (hb hby d38_55) hr
  · show (QR (.int (1 : Int32)) h0 n0) _ T8.heap _
    rw [e8]
    exact ⟨rfl, N8, rfl⟩
def LcS (Z : State) (h : Heap) (oc so : Addr) (q1 q2 q3 q4 : Int64) : Prop := Exa Z h oc "com/example/known_origins/knownorigins/store/LoadCount" ∧ Fld Z h oc "com/example/known_origins/knownorigins/store/LoadCount" "ifStored" "Lcom/example/known_origins/knownorigins/store/IfStored;" (.ref so) ∧ Fld Z h oc "com/example/known_origins/knownorigins/store/LoadCount" "graphs" "J" (.long q1) ∧ Fld Z h oc "com/example/known_origins/knownorigins/store/LoadCount" "triples" "J" (.long q2) ∧ Fld Z h oc "com/example/known_origins/knownorigins/store/LoadCount" "skipped" "J" (.long q3) ∧ Fld Z h oc "com/example/known_origins/knownorigins/store/LoadCount" "derived" "J" (.long q4)
def QC (Z : State) (oc so : Addr) (q1 q2 q3 q4 : Int64) (h0 : Heap) (n0 : Nat) (v : Option Value) (h : Heap) (L : List Loc) : Prop := v = none ∧ Fr n0 L ∧ Keep h0 h [oc] ∧ LcS Z h oc so q1 q2 q3 q4
def QD (Z : State) (so : Addr) (q1 q2 q3 q4 : Int64) (h0 : Heap) (n0 : Nat) (v : Option Value) (h : Heap) (L : List Loc) : Prop := ∃ oc : Addr, v = some (.ref oc) ∧ Fr n0 L ∧ Keep h0 h [] ∧ h0.size ≤ oc ∧ LcS Z h oc so q1 q2 q3 q4
theorem own_zadd (x : Int64) : (0 : Int64) + x = x := Int64.zero_add x
theorem d2_0 : decode prog_24_method_1_code 0 = .ok (.aload_n 0, 1) := by decide +kernel
theorem d2_1 : decode prog_24_method_1_code 1 = .ok (.invokespecial 1, 3) := by decide +kernel
theorem d2_4 : decode prog_24_method_1_code 4 = .ok (.aload_n 0, 1) := by decide +kernel
theorem d2_5 : decode prog_24_method_1_code 5 = .ok (.aload_n 1, 1) := by decide +kernel
theorem d2_6 : decode prog_24_method_1_code 6 = .ok (.putfield 7, 3) := by decide +kernel
theorem d2_9 : decode prog_24_method_1_code 9 = .ok (.aload_n 0, 1) := by decide +kernel
theorem d2_10 : decode prog_24_method_1_code 10 = .ok (.lload_n 2, 1) := by decide +kernel
theorem d2_11 : decode prog_24_method_1_code 11 = .ok (.putfield 13, 3) := by decide +kernel
theorem d2_14 : decode prog_24_method_1_code 14 = .ok (.aload_n 0, 1) := by decide +kernel
theorem d2_15 : decode prog_24_method_1_code 15 = .ok (.lload 4, 2) := by decide +kernel
theorem d2_17 : decode prog_24_method_1_code 17 = .ok (.putfield 17, 3) := by decide +kernel
theorem d2_20 : decode prog_24_method_1_code 20 = .ok (.aload_n 0, 1) := by decide +kernel
theorem d2_21 : decode prog_24_method_1_code 21 = .ok (.lload 6, 2) := by decide +kernel
theorem d2_23 : decode prog_24_method_1_code 23 = .ok (.putfield 20, 3) := by decide +kernel
theorem d2_26 : decode prog_24_method_1_code 26 = .ok (.aload_n 0, 1) := by decide +kernel
theorem d2_27 : decode prog_24_method_1_code 27 = .ok (.lload 8, 2) := by decide +kernel
theorem d2_29 : decode prog_24_method_1_code 29 = .ok (.putfield 23, 3) := by decide +kernel
theorem d2_32 : decode prog_24_method_1_code 32 = .ok (.return_, 1) := by decide +kernel
theorem pn_2 : plainName "com/example/known_origins/knownorigins/store/LoadCount" = true := by first | (simp [plainName, overriddenIn]; done) | decide +kernel
theorem ef_2 (m : MethodId) (x0 : Addr) (x1 : Addr) (x2 : Int64) (x3 : Int64) (x4 : Int64) (x5 : Int64) : entryFrame m #[(.ref x0), (.ref x1), (.long x2), (.long x3), (.long x4), (.long x5)] 10 = mkF m 0 #[.val (.ref x0), .val (.ref x1), .val (.long x2), .second, .val (.long x3), .second, .val (.long x4), .second, .val (.long x5), .second] [] := by first | (simp [entryFrame, mkF, argsToLocals, Value.category]; done) | rfl
set_option maxRecDepth 65536 in
set_option maxHeartbeats 40000000 in
theorem lcInit (l : Launch) (Z : State) (a0 : Array Value) (hw : ∀ d ∈ tables_1, d.before a0 Z = true) (oc so : Addr) (q1 q2 q3 q4 : Int64) (h0 : Heap) (n0 : Nat) (Z0 : n0 ≤ h0.size) (F_ifStored_oc : Fld Z h0 oc "com/example/known_origins/knownorigins/store/LoadCount" "ifStored" "Lcom/example/known_origins/knownorigins/store/IfStored;" .null) (F_graphs_oc : Fld Z h0 oc "com/example/known_origins/knownorigins/store/LoadCount" "graphs" "J" (.long (0 : Int64))) (F_triples_oc : Fld Z h0 oc "com/example/known_origins/knownorigins/store/LoadCount" "triples" "J" (.long (0 : Int64))) (F_skipped_oc : Fld Z h0 oc "com/example/known_origins/knownorigins/store/LoadCount" "skipped" "J" (.long (0 : Int64))) (F_derived_oc : Fld Z h0 oc "com/example/known_origins/knownorigins/store/LoadCount" "derived" "J" (.long (0 : Int64))) (E_oc : Exa Z h0 oc "com/example/known_origins/knownorigins/store/LoadCount") (g_oc : n0 ≤ oc) :
    MQ l Z (⟨"com/example/known_origins/knownorigins/store/LoadCount", "<init>", "(Lcom/example/known_origins/knownorigins/store/IfStored;JJJJ)V"⟩ : MethodName) prog_24_method_1_code 10 none ({ frames := 1, cells := 0, slots := 0, locals := 12 } : Room) #[(.ref oc), (.ref so), (.long q1), (.long q2), (.long q3), (.long q4)] h0 (QC Z oc so q1 q2 q3 q4 h0 n0) := by
  intro ws
  refine MetFree.of_bodySF (plainFor_of_name pn_2) hisR ?_
  intro p e s m args below meth c s₁ Bd hml0 hP hK
  obtain ⟨rfl, hZ, hh⟩ := hP
  have hx := Bd.exec
  have hby := Bd.bytes
  have hml : c.maxLocals = 10 := hml0
  have hown : s.vm.findClass "com/example/known_origins/knownorigins/store/LoadCount" = some m.cls := findClass_of_methodNamed Bd.named
  have hnm := (name_of_methodNamed Bd.named Bd.method).1
  have X0 : Stand p l e ({ frames := 1, cells := 0, slots := 0, locals := 12 } : Room) s m #[(.ref oc), (.ref so), (.long q1), (.long q2), (.long q3), (.long q4)] below meth c s₁ [] 0 0 := Stand.of_body Bd
  have e0 : s₁.heap = h0 := by rw [← hh, Bd.state]; rfl
  have N0 := Fr.nil n0
  have pre0 : ∀ t_, Steps p.tables e below (s₁.setTop (mkF m 0 #[.val (.ref oc), .val (.ref so), .val (.long q1), .second, .val (.long q2), .second, .val (.long q3), .second, .val (.long q4), .second] [])) t_ → Steps p.tables e below (s₁.setTop (entryFrame m #[(.ref oc), (.ref so), (.long q1), (.long q2), (.long q3), (.long q4)] 10)) t_ := fun t_ k_ => castTop (ef_2 m oc so q1 q2 q3 q4) k_
  obtain ⟨T1, X1, e1, st1⟩ := initO X0 hx hZ hown (hw _ (M 12)) (hw _ (M 13)) (hw _ (M 14)) e0 (g := (mkF m 1 #[.val (.ref oc), .val (.ref so), .val (.long q1), .second, .val (.long q2), .second, .val (.long q3), .second, .val (.long q4), .second] [(.ref oc)])) rfl (by rw [hml]; rfl) rfl (hb hby d2_1) (by decide) (W := 0) (by show 2 * 0 + _ ≤ _; exact Nat.le_of_eq rfl) (by decide)
  obtain ⟨T2, h2, X2, e2, W2, st2⟩ := putF X1 hx hZ hown (host := "") (Or.inl (hw _ (M 15))) Via.refl e1 F_ifStored_oc E_oc (Or.inr ⟨(hw _ (M 16)), rfl, hnm⟩) (hw _ (M 8)) (ty := (.object "com/example/known_origins/knownorigins/store/IfStored")) (by decide) rfl rfl (g := (mkF m 6 #[.val (.ref oc), .val (.ref so), .val (.long q1), .second, .val (.long q2), .second, .val (.long q3), .second, .val (.long q4), .second] [(.ref so), (.ref oc)])) rfl rfl (hb hby d2_6)
  have Fw2 := F_ifStored_oc.same W2
  have K2 : Keep h0 h2 [oc] := (Keep.refl h0 [oc]).wr W2 (Or.inl (List.mem_of_getElem? (i := 0) rfl))
  have N2 := Fr.snoc X2 N0 g_oc
  obtain ⟨T3, h3, X3, e3, W3, st3⟩ := putF X2 hx hZ hown (host := "") (Or.inl (hw _ (M 17))) Via.refl e2 (F_graphs_oc.other W2 (Or.inr (slot_ne (Or.inr (hw _ (M 18))) (Or.inr (hw _ (M 16))) (by decide) (t := .long) (t' := (.object "com/example/known_origins/knownorigins/store/IfStored")) (by decide) (by decide)))) (E_oc.wr W2) (Or.inr ⟨(hw _ (M 18)), rfl, hnm⟩) (hw _ (M 8)) (ty := .long) (by decide) rfl rfl (g := (mkF m 11 #[.val (.ref oc), .val (.ref so), .val (.long q1), .second, .val (.long q2), .second, .val (.long q3), .second, .val (.long q4), .second] [(.long q1), (.ref oc)])) rfl rfl (hb hby d2_11)
  have Fw3 := (F_graphs_oc.other W2 (Or.inr (slot_ne (Or.inr (hw _ (M 18))) (Or.inr (hw _ (M 16))) (by decide) (t := .long) (t' := (.object "com/example/known_origins/knownorigins/store/IfStored")) (by decide) (by decide)))).same W3
  have K3 : Keep h0 h3 [oc] := K2.wr W3 (Or.inl (List.mem_of_getElem? (i := 0) rfl))
  have N3 := Fr.snoc X3 N2 g_oc
  obtain ⟨T4, h4, X4, e4, W4, st4⟩ := putF X3 hx hZ hown (host := "") (Or.inl (hw _ (M 19))) Via.refl e3 ((F_triples_oc.other W2 (Or.inr (slot_ne (Or.inr (hw _ (M 20))) (Or.inr (hw _ (M 16))) (by decide) (t := .long) (t' := (.object "com/example/known_origins/knownorigins/store/IfStored")) (by decide) (by decide)))).other W3 (Or.inr (slot_ne (Or.inr (hw _ (M 20))) (Or.inr (hw _ (M 18))) (by decide) (t := .long) (t' := .long) (by decide) (by decide)))) ((E_oc.wr W2).wr W3) (Or.inr ⟨(hw _ (M 20)), rfl, hnm⟩) (hw _ (M 8)) (ty := .long) (by decide) rfl rfl (g := (mkF m 17 #[.val (.ref oc), .val (.ref so), .val (.long q1), .second, .val (.long q2), .second, .val (.long q3), .second, .val (.long q4), .second] [(.long q2), (.ref oc)])) rfl rfl (hb hby d2_17)
  have Fw4 := ((F_triples_oc.other W2 (Or.inr (slot_ne (Or.inr (hw _ (M 20))) (Or.inr (hw _ (M 16))) (by decide) (t := .long) (t' := (.object "com/example/known_origins/knownorigins/store/IfStored")) (by decide) (by decide)))).other W3 (Or.inr (slot_ne (Or.inr (hw _ (M 20))) (Or.inr (hw _ (M 18))) (by decide) (t := .long) (t' := .long) (by decide) (by decide)))).same W4
  have K4 : Keep h0 h4 [oc] := K3.wr W4 (Or.inl (List.mem_of_getElem? (i := 0) rfl))
  have N4 := Fr.snoc X4 N3 g_oc
  obtain ⟨T5, h5, X5, e5, W5, st5⟩ := putF X4 hx hZ hown (host := "") (Or.inl (hw _ (M 21))) Via.refl e4 (((F_skipped_oc.other W2 (Or.inr (slot_ne (Or.inr (hw _ (M 22))) (Or.inr (hw _ (M 16))) (by decide) (t := .long) (t' := (.object "com/example/known_origins/knownorigins/store/IfStored")) (by decide) (by decide)))).other W3 (Or.inr (slot_ne (Or.inr (hw _ (M 22))) (Or.inr (hw _ (M 18))) (by decide) (t := .long) (t' := .long) (by decide) (by decide)))).other W4 (Or.inr (slot_ne (Or.inr (hw _ (M 22))) (Or.inr (hw _ (M 20))) (by decide) (t := .long) (t' := .long) (by decide) (by decide)))) (((E_oc.wr W2).wr W3).wr W4) (Or.inr ⟨(hw _ (M 22)), rfl, hnm⟩) (hw _ (M 8)) (ty := .long) (by decide) rfl rfl (g := (mkF m 23 #[.val (.ref oc), .val (.ref so), .val (.long q1), .second, .val (.long q2), .second, .val (.long q3), .second, .val (.long q4), .second] [(.long q3), (.ref oc)])) rfl rfl (hb hby d2_23)
  have Fw5 := (((F_skipped_oc.other W2 (Or.inr (slot_ne (Or.inr (hw _ (M 22))) (Or.inr (hw _ (M 16))) (by decide) (t := .long) (t' := (.object "com/example/known_origins/knownorigins/store/IfStored")) (by decide) (by decide)))).other W3 (Or.inr (slot_ne (Or.inr (hw _ (M 22))) (Or.inr (hw _ (M 18))) (by decide) (t := .long) (t' := .long) (by decide) (by decide)))).other W4 (Or.inr (slot_ne (Or.inr (hw _ (M 22))) (Or.inr (hw _ (M 20))) (by decide) (t := .long) (t' := .long) (by decide) (by decide)))).same W5
  have K5 : Keep h0 h5 [oc] := K4.wr W5 (Or.inl (List.mem_of_getElem? (i := 0) rfl))
  have N5 := Fr.snoc X5 N4 g_oc
  obtain ⟨T6, h6, X6, e6, W6, st6⟩ := putF X5 hx hZ hown (host := "") (Or.inl (hw _ (M 23))) Via.refl e5 ((((F_derived_oc.other W2 (Or.inr (slot_ne (Or.inr (hw _ (M 24))) (Or.inr (hw _ (M 16))) (by decide) (t := .long) (t' := (.object "com/example/known_origins/knownorigins/store/IfStored")) (by decide) (by decide)))).other W3 (Or.inr (slot_ne (Or.inr (hw _ (M 24))) (Or.inr (hw _ (M 18))) (by decide) (t := .long) (t' := .long) (by decide) (by decide)))).other W4 (Or.inr (slot_ne (Or.inr (hw _ (M 24))) (Or.inr (hw _ (M 20))) (by decide) (t := .long) (t' := .long) (by decide) (by decide)))).other W5 (Or.inr (slot_ne (Or.inr (hw _ (M 24))) (Or.inr (hw _ (M 22))) (by decide) (t := .long) (t' := .long) (by decide) (by decide)))) ((((E_oc.wr W2).wr W3).wr W4).wr W5) (Or.inr ⟨(hw _ (M 24)), rfl, hnm⟩) (hw _ (M 8)) (ty := .long) (by decide) rfl rfl (g := (mkF m 29 #[.val (.ref oc), .val (.ref so), .val (.long q1), .second, .val (.long q2), .second, .val (.long q3), .second, .val (.long q4), .second] [(.long q4), (.ref oc)])) rfl rfl (hb hby d2_29)
  have Fw6 := ((((F_derived_oc.other W2 (Or.inr (slot_ne (Or.inr (hw _ (M 24))) (Or.inr (hw _ (M 16))) (by decide) (t := .long) (t' := (.object "com/example/known_origins/knownorigins/store/IfStored")) (by decide) (by decide)))).other W3 (Or.inr (slot_ne (Or.inr (hw _ (M 24))) (Or.inr (hw _ (M 18))) (by decide) (t := .long) (t' := .long) (by decide) (by decide)))).other W4 (Or.inr (slot_ne (Or.inr (hw _ (M 24))) (Or.inr (hw _ (M 20))) (by decide) (t := .long) (t' := .long) (by decide) (by decide)))).other W5 (Or.inr (slot_ne (Or.inr (hw _ (M 24))) (Or.inr (hw _ (M 22))) (by decide) (t := .long) (t' := .long) (by decide) (by decide)))).same W6
  have K6 : Keep h0 h6 [oc] := K5.wr W6 (Or.inl (List.mem_of_getElem? (i := 0) rfl))
  have N6 := Fr.snoc X6 N5 g_oc
  obtain ⟨fs, hr, hrun, hended, hW, hsame⟩ := X6.leave (v := none) (fun _ => rfl)
  refine ⟨_, _, pre0 _ ?_, hrun, hended, _, _, rfl, ?_, ⟨_, rfl⟩, hW, hsame.mono (by decide) (by decide)⟩
  · show Steps p.tables e below (s₁.setTop (mkF m 0 #[.val (.ref oc), .val (.ref so), .val (.long q1), .second, .val (.long q2), .second, .val (.long q3), .second, .val (.long q4), .second] [])) _
    refine XS.aloadN X0.here hx rfl (hb hby d2_0) rfl rfl ?_
    refine st1 _ ?_
    show Steps p.tables e below (T1.setTop (mkF m 4 #[.val (.ref oc), .val (.ref so), .val (.long q1), .second, .val (.long q2), .second, .val (.long q3), .second, .val (.long q4), .second] [])) _
    refine XS.aloadN X1.here hx rfl (hb hby d2_4) rfl rfl ?_
    refine XS.aloadN X1.here hx rfl (hb hby d2_5) rfl rfl ?_
    refine st2 _ ?_
    show Steps p.tables e below (T2.setTop (mkF m 9 #[.val (.ref oc), .val (.ref so), .val (.long q1), .second, .val (.long q2), .second, .val (.long q3), .second, .val (.long q4), .second] [])) _
    refine XS.aloadN X2.here hx rfl (hb hby d2_9) rfl rfl ?_
    refine XS.lloadN X2.here hx rfl (hb hby d2_10) rfl ?_
    refine st3 _ ?_
    show Steps p.tables e below (T3.setTop (mkF m 14 #[.val (.ref oc), .val (.ref so), .val (.long q1), .second, .val (.long q2), .second, .val (.long q3), .second, .val (.long q4), .second] [])) _
    refine XS.aloadN X3.here hx rfl (hb hby d2_14) rfl rfl ?_
    refine XS.lload X3.here hx rfl (hb hby d2_15) rfl ?_
    refine st4 _ ?_
    show Steps p.tables e below (T4.setTop (mkF m 20 #[.val (.ref oc), .val (.ref so), .val (.long q1), .second, .val (.long q2), .second, .val (.long q3), .second, .val (.long q4), .second] [])) _
    refine XS.aloadN X4.here hx rfl (hb hby d2_20) rfl rfl ?_
    refine XS.lload X4.here hx rfl (hb hby d2_21) rfl ?_
    refine st5 _ ?_
    show Steps p.tables e below (T5.setTop (mkF m 26 #[.val (.ref oc), .val (.ref so), .val (.long q1), .second, .val (.long q2), .second, .val (.long q3), .second, .val (.long q4), .second] [])) _
    refine XS.aloadN X5.here hx rfl (hb hby d2_26) rfl rfl ?_
    refine XS.lload X5.here hx rfl (hb hby d2_27) rfl ?_
    refine st6 _ ?_
    show Steps p.tables e below (T6.setTop (mkF m 32 #[.val (.ref oc), .val (.ref so), .val (.long q1), .second, .val (.long q2), .second, .val (.long q3), .second, .val (.long q4), .second] [])) _
    exact X6.returnOut hx Bd.returns (hb hby d2_32) hr
  · show (QC Z oc so q1 q2 q3 q4 h0 n0) _ T6.heap _
    rw [e6]
    exact ⟨rfl, N6, K6, ⟨(((((E_oc.wr W2).wr W3).wr W4).wr W5).wr W6), ((((Fw2.other W3 (Or.inr (slot_ne (Or.inr (hw _ (M 16))) (Or.inr (hw _ (M 18))) (by decide) (t := (.object "com/example/known_origins/knownorigins/store/IfStored")) (t' := .long) (by decide) (by decide)))).other W4 (Or.inr (slot_ne (Or.inr (hw _ (M 16))) (Or.inr (hw _ (M 20))) (by decide) (t := (.object "com/example/known_origins/knownorigins/store/IfStored")) (t' := .long) (by decide) (by decide)))).other W5 (Or.inr (slot_ne (Or.inr (hw _ (M 16))) (Or.inr (hw _ (M 22))) (by decide) (t := (.object "com/example/known_origins/knownorigins/store/IfStored")) (t' := .long) (by decide) (by decide)))).other W6 (Or.inr (slot_ne (Or.inr (hw _ (M 16))) (Or.inr (hw _ (M 24))) (by decide) (t := (.object "com/example/known_origins/knownorigins/store/IfStored")) (t' := .long) (by decide) (by decide)))), (((Fw3.other W4 (Or.inr (slot_ne (Or.inr (hw _ (M 18))) (Or.inr (hw _ (M 20))) (by decide) (t := .long) (t' := .long) (by decide) (by decide)))).other W5 (Or.inr (slot_ne (Or.inr (hw _ (M 18))) (Or.inr (hw _ (M 22))) (by decide) (t := .long) (t' := .long) (by decide) (by decide)))).other W6 (Or.inr (slot_ne (Or.inr (hw _ (M 18))) (Or.inr (hw _ (M 24))) (by decide) (t := .long) (t' := .long) (by decide) (by decide)))), ((Fw4.other W5 (Or.inr (slot_ne (Or.inr (hw _ (M 20))) (Or.inr (hw _ (M 22))) (by decide) (t := .long) (t' := .long) (by decide) (by decide)))).other W6 (Or.inr (slot_ne (Or.inr (hw _ (M 20))) (Or.inr (hw _ (M 24))) (by decide) (t := .long) (t' := .long) (by decide) (by decide)))), (Fw5.other W6 (Or.inr (slot_ne (Or.inr (hw _ (M 22))) (Or.inr (hw _ (M 24))) (by decide) (t := .long) (t' := .long) (by decide) (by decide)))), Fw6⟩⟩
theorem d1_0 : decode prog_24_method_2_code 0 = .ok (.new 8, 3) := by decide +kernel
theorem d1_3 : decode prog_24_method_2_code 3 = .ok (.dup, 1) := by decide +kernel
theorem d1_4 : decode prog_24_method_2_code 4 = .ok (.aload_n 0, 1) := by decide +kernel
theorem d1_5 : decode prog_24_method_2_code 5 = .ok (.lconst 0, 1) := by decide +kernel
theorem d1_6 : decode prog_24_method_2_code 6 = .ok (.lconst 0, 1) := by decide +kernel
theorem d1_7 : decode prog_24_method_2_code 7 = .ok (.lconst 0, 1) := by decide +kernel
theorem d1_8 : decode prog_24_method_2_code 8 = .ok (.lconst 0, 1) := by decide +kernel
theorem pd_oLcom_example_known_origins_knownorigins_store_IfStored_JJJJcV : parseMethodDescriptor "(Lcom/example/known_origins/knownorigins/store/IfStored;JJJJ)V" = some ⟨[(.object "com/example/known_origins/knownorigins/store/IfStored"), .long, .long, .long, .long], none⟩ := by decide +kernel
theorem d1_9 : decode prog_24_method_2_code 9 = .ok (.invokespecial 26, 3) := by decide +kernel
theorem d1_12 : decode prog_24_method_2_code 12 = .ok (.areturn, 1) := by decide +kernel
theorem pn_1 : plainName "com/example/known_origins/knownorigins/store/LoadCount" = true := by first | (simp [plainName, overriddenIn]; done) | decide +kernel
theorem ef_1 (m : MethodId) (x0 : Addr) : entryFrame m #[(.ref x0)] 1 = mkF m 0 #[.val (.ref x0)] [] := by first | (simp [entryFrame, mkF, argsToLocals, Value.category]; done) | rfl
set_option maxRecDepth 65536 in
set_option maxHeartbeats 40000000 in
theorem lcNone (l : Launch) (Z : State) (a0 : Array Value) (hw : ∀ d ∈ tables_1, d.before a0 Z = true) (so : Addr) (h0 : Heap) (n0 : Nat) (Z0 : n0 ≤ h0.size) :
    MQ l Z (⟨"com/example/known_origins/knownorigins/store/LoadCount", "none", "(Lcom/example/known_origins/knownorigins/store/IfStored;)Lcom/example/known_origins/knownorigins/store/LoadCount;"⟩ : MethodName) prog_24_method_2_code 1 (some (.object "com/example/known_origins/knownorigins/store/LoadCount")) ({ frames := 2, cells := 1, slots := 5, locals := 34 } : Room) #[(.ref so)] h0 (QD Z so 0 0 0 0 h0 n0) := by
  intro ws
  refine MetFree.of_bodySF (plainFor_of_name pn_1) hisR ?_
  intro p e s m args below meth c s₁ Bd hml0 hP hK
  obtain ⟨rfl, hZ, hh⟩ := hP
  have hx := Bd.exec
  have hby := Bd.bytes
  have hml : c.maxLocals = 1 := hml0
  have hown : s.vm.findClass "com/example/known_origins/knownorigins/store/LoadCount" = some m.cls := findClass_of_methodNamed Bd.named
  have hnm := (name_of_methodNamed Bd.named Bd.method).1
  have X0 : Stand p l e ({ frames := 2, cells := 1, slots := 5, locals := 34 } : Room) s m #[(.ref so)] below meth c s₁ [] 0 0 := Stand.of_body Bd
  have e0 : s₁.heap = h0 := by rw [← hh, Bd.state]; rfl
  have N0 := Fr.nil n0
  have pre0 : ∀ t_, Steps p.tables e below (s₁.setTop (mkF m 0 #[.val (.ref so)] [])) t_ → Steps p.tables e below (s₁.setTop (entryFrame m #[(.ref so)] 1)) t_ := fun t_ k_ => castTop (ef_1 m so) k_
  obtain ⟨T1, h1, X1, e1, E1, A1, D1, -, st1⟩ := newO X0 hx hZ hown (hw _ (M 7)) (hw _ (M 8)) (hw _ (M 5)) e0 (g := (mkF m 0 #[.val (.ref so)] [])) rfl (hb hby d1_0) (by decide) (by decide)
  obtain ⟨b1, g1⟩ : ∃ z, z = h0.size := ⟨_, rfl⟩
  rw [← g1] at A1 D1 st1
  have sz_b1 : h0.size ≤ b1 := Nat.le_trans (Keep.refl h0 []).1 (Nat.le_of_eq g1.symm)
  have g_b1 : n0 ≤ b1 := Nat.le_trans Z0 sz_b1
  have K1 : Keep h0 h1 [] := (Keep.refl h0 []).ext E1
  have F_ifStored_b1 : Fld Z h1 b1 "com/example/known_origins/knownorigins/store/LoadCount" "ifStored" "Lcom/example/known_origins/knownorigins/store/IfStored;" .null := D1 (Or.inr (hw _ (M 16))) (ty := (.object "com/example/known_origins/knownorigins/store/IfStored")) (by decide)
  have F_graphs_b1 : Fld Z h1 b1 "com/example/known_origins/knownorigins/store/LoadCount" "graphs" "J" (.long (0 : Int64)) := D1 (Or.inr (hw _ (M 18))) (ty := .long) (by decide)
  have F_triples_b1 : Fld Z h1 b1 "com/example/known_origins/knownorigins/store/LoadCount" "triples" "J" (.long (0 : Int64)) := D1 (Or.inr (hw _ (M 20))) (ty := .long) (by decide)
  have F_skipped_b1 : Fld Z h1 b1 "com/example/known_origins/knownorigins/store/LoadCount" "skipped" "J" (.long (0 : Int64)) := D1 (Or.inr (hw _ (M 22))) (ty := .long) (by decide)
  have F_derived_b1 : Fld Z h1 b1 "com/example/known_origins/knownorigins/store/LoadCount" "derived" "J" (.long (0 : Int64)) := D1 (Or.inr (hw _ (M 24))) (ty := .long) (by decide)
  obtain ⟨_, _, ⟨T2, L2, k2, n2⟩, -, X2, ⟨Lc2, hQ2, l2, y2, z2⟩, st2⟩ := X1.specialBack hx (y := (⟨"com/example/known_origins/knownorigins/store/LoadCount", "<init>", "(Lcom/example/known_origins/knownorigins/store/IfStored;JJJJ)V"⟩ : MethodName)) rfl hown (mvT hZ (hw _ (M 9))) (mvT hZ (hw _ (M 10))) (mvT hZ (hw _ (M 11))) (by decide) (backOf (W := 1) ((lcInit l Z a0 hw b1 so (0 : Int64) (0 : Int64) (0 : Int64) (0 : Int64) h1 n0 (Nat.le_trans Z0 K1.1) F_ifStored_b1 F_graphs_b1 F_triples_b1 F_skipped_b1 F_derived_b1 A1 g_b1) []) hZ (hw _ (M 11)) (hw _ (M 5)) (by decide) (by decide)) (g := (mkF m 9 #[.val (.ref so)] [(.long (0 : Int64)), (.long (0 : Int64)), (.long (0 : Int64)), (.long (0 : Int64)), (.ref so), (.ref b1), (.ref b1)])) rfl (by rw [hml]; rfl) (Steps.refl _) (a := b1) (argsL := [(.ref so), (.long (0 : Int64)), (.long (0 : Int64)), (.long (0 : Int64)), (.long (0 : Int64))]) (rest := [(.ref b1)]) (lenOf pd_oLcom_example_known_origins_knownorigins_store_IfStored_JJJJcV rfl) rfl (by show 2 * 0 + _ ≤ _; exact Nat.le_of_eq rfl) (hb hby d1_9) (fun _ _ => ⟨rfl, e1, (by decide : 1 + 0 ≤ _), (by decide : 5 + 0 ≤ _)⟩)
  dsimp only [Pt.U, Pt.locs, Pt.cells, Pt.slots] at X2 l2 y2 z2 st2 hQ2
  subst l2 y2 z2
  obtain ⟨rfl, N2q, Kq2, Bq2⟩ := hQ2
  have K2 : Keep h0 T2.heap [] := K1.trans Kq2 (allS (Or.inr sz_b1) all0)
  have N2 := Fr.app N0 N2q
  obtain ⟨fs, hr, hrun, hended, hW, hsame⟩ := X2.leave (v := some (.ref b1)) (fun h => by rw [Bd.returns] at h; cases h)
  refine ⟨_, _, pre0 _ ?_, hrun, hended, _, _, rfl, ?_, ⟨_, rfl⟩, hW, hsame.mono (by decide) (by decide)⟩
  · show Steps p.tables e below (s₁.setTop (mkF m 0 #[.val (.ref so)] [])) _
    refine st1 _ ?_
    show Steps p.tables e below (T1.setTop (mkF m 3 #[.val (.ref so)] [(.ref b1)])) _
    refine XS.dup X1.here hx rfl (hb hby d1_3) rfl rfl ?_
    refine XS.aloadN X1.here hx rfl (hb hby d1_4) rfl rfl ?_
    refine XS.lconst X1.here hx rfl (hb hby d1_5) ?_
    refine XS.lconst X1.here hx rfl (hb hby d1_6) ?_
    show Steps p.tables e below (T1.setTop (mkF m 7 #[.val (.ref so)] [(.long (0 : Int64)), (.long (0 : Int64)), (.ref so), (.ref b1), (.ref b1)])) _
    refine XS.lconst X1.here hx rfl (hb hby d1_7) ?_
    refine XS.lconst X1.here hx rfl (hb hby d1_8) ?_
    refine st2.trans ?_
    show Steps p.tables e below (T2.setTop (mkF m 12 #[.val (.ref so)] [(.ref b1)])) _
    jvm_step X2.here [X2.here.top, hx, (hb hby d1_12), X2.method', Bd.returns, Value.isRef, FieldType.isReference]
    first | (intro acts; rw [hr _ acts rfl rfl rfl]) | rw [hr _ _ rfl rfl rfl]
    exact Steps.refl _
  · show (QD Z so 0 0 0 0 h0 n0) _ T2.heap _
    exact ⟨_, rfl, N2, K2, sz_b1, ⟨Bq2.1, Bq2.2.1, Bq2.2.2.1, Bq2.2.2.2.1, Bq2.2.2.2.2.1, Bq2.2.2.2.2.2⟩⟩
theorem d4_0 : decode prog_24_method_3_code 0 = .ok (.aload_n 0, 1) := by decide +kernel
theorem d4_1 : decode prog_24_method_3_code 1 = .ok (.getfield 13, 3) := by decide +kernel
theorem d4_4 : decode prog_24_method_3_code 4 = .ok (.lreturn, 1) := by decide +kernel
theorem pn_4 : plainName "com/example/known_origins/knownorigins/store/LoadCount" = true := by first | (simp [plainName, overriddenIn]; done) | decide +kernel
theorem ef_4 (m : MethodId) (x0 : Addr) : entryFrame m #[(.ref x0)] 1 = mkF m 0 #[.val (.ref x0)] [] := by first | (simp [entryFrame, mkF, argsToLocals, Value.category]; done) | rfl
set_option maxRecDepth 65536 in
set_option maxHeartbeats 40000000 in
theorem lc_graphs (l : Launch) (Z : State) (a0 : Array Value) (hw : ∀ d ∈ tables_1, d.before a0 Z = true) (oc so : Addr) (q1 q2 q3 q4 : Int64) (h0 : Heap) (n0 : Nat) (Z0 : n0 ≤ h0.size) (B : LcS Z h0 oc so q1 q2 q3 q4) :
    MQ l Z (⟨"com/example/known_origins/knownorigins/store/LoadCount", "graphs", "()J"⟩ : MethodName) prog_24_method_3_code 1 (some .long) ({ frames := 0, cells := 0, slots := 0, locals := 0 } : Room) #[(.ref oc)] h0 (QR (.long q1) h0 n0) := by
  intro ws
  refine MetFree.of_bodySF (plainFor_of_name pn_4) hisR ?_
  intro p e s m args below meth c s₁ Bd hml0 hP hK
  obtain ⟨rfl, hZ, hh⟩ := hP
  have hx := Bd.exec
  have hby := Bd.bytes
  have hml : c.maxLocals = 1 := hml0
  have hown : s.vm.findClass "com/example/known_origins/knownorigins/store/LoadCount" = some m.cls := findClass_of_methodNamed Bd.named
  have hnm := (name_of_methodNamed Bd.named Bd.method).1
  have X0 : Stand p l e ({ frames := 0, cells := 0, slots := 0, locals := 0 } : Room) s m #[(.ref oc)] below meth c s₁ [] 0 0 := Stand.of_body Bd
  have e0 : s₁.heap = h0 := by rw [← hh, Bd.state]; rfl
  have N0 := Fr.nil n0
  have pre0 : ∀ t_, Steps p.tables e below (s₁.setTop (mkF m 0 #[.val (.ref oc)] [])) t_ → Steps p.tables e below (s₁.setTop (entryFrame m #[(.ref oc)] 1)) t_ := fun t_ k_ => castTop (ef_4 m oc) k_
  obtain ⟨T1, X1, e1, st1⟩ := getF X0 hx hZ hown (host := "") (Or.inl (hw _ (M 17))) Via.refl e0 B.2.2.1 (g := (mkF m 1 #[.val (.ref oc)] [(.ref oc)])) rfl rfl (hb hby d4_1)
  obtain ⟨fs, hr, hrun, hended, hW, hsame⟩ := X1.leave (v := some (.long q1)) (fun h => by rw [Bd.returns] at h; cases h)
  refine ⟨_, _, pre0 _ ?_, hrun, hended, _, _, rfl, ?_, ⟨_, rfl⟩, hW, hsame.mono (by decide) (by decide)⟩
  · show Steps p.tables e below (s₁.setTop (mkF m 0 #[.val (.ref oc)] [])) _
    refine XS.aloadN X0.here hx rfl (hb hby d4_0) rfl rfl ?_
    refine st1 _ ?_
    show Steps p.tables e below (T1.setTop (mkF m 4 #[.val (.ref oc)] [(.long q1)])) _
    jvm_step X1.here [X1.here.top, hx, (hb hby d4_4), X1.method', Bd.returns, narrow]
    first | (intro acts; rw [hr _ acts rfl rfl rfl]) | rw [hr _ _ rfl rfl rfl]
    exact Steps.refl _
  · show (QR (.long q1) h0 n0) _ T1.heap _
    rw [e1]
    exact ⟨rfl, N0, rfl⟩
theorem d5_0 : decode prog_24_method_4_code 0 = .ok (.aload_n 0, 1) := by decide +kernel
theorem d5_1 : decode prog_24_method_4_code 1 = .ok (.getfield 17, 3) := by decide +kernel
theorem d5_4 : decode prog_24_method_4_code 4 = .ok (.lreturn, 1) := by decide +kernel
theorem pn_5 : plainName "com/example/known_origins/knownorigins/store/LoadCount" = true := by first | (simp [plainName, overriddenIn]; done) | decide +kernel
theorem ef_5 (m : MethodId) (x0 : Addr) : entryFrame m #[(.ref x0)] 1 = mkF m 0 #[.val (.ref x0)] [] := by first | (simp [entryFrame, mkF, argsToLocals, Value.category]; done) | rfl
set_option maxRecDepth 65536 in
set_option maxHeartbeats 40000000 in
theorem lc_triples (l : Launch) (Z : State) (a0 : Array Value) (hw : ∀ d ∈ tables_1, d.before a0 Z = true) (oc so : Addr) (q1 q2 q3 q4 : Int64) (h0 : Heap) (n0 : Nat) (Z0 : n0 ≤ h0.size) (B : LcS Z h0 oc so q1 q2 q3 q4) :
    MQ l Z (⟨"com/example/known_origins/knownorigins/store/LoadCount", "triples", "()J"⟩ : MethodName) prog_24_method_4_code 1 (some .long) ({ frames := 0, cells := 0, slots := 0, locals := 0 } : Room) #[(.ref oc)] h0 (QR (.long q2) h0 n0) := by
  intro ws
  refine MetFree.of_bodySF (plainFor_of_name pn_5) hisR ?_
  intro p e s m args below meth c s₁ Bd hml0 hP hK
  obtain ⟨rfl, hZ, hh⟩ := hP
  have hx := Bd.exec
  have hby := Bd.bytes
  have hml : c.maxLocals = 1 := hml0
  have hown : s.vm.findClass "com/example/known_origins/knownorigins/store/LoadCount" = some m.cls := findClass_of_methodNamed Bd.named
  have hnm := (name_of_methodNamed Bd.named Bd.method).1
  have X0 : Stand p l e ({ frames := 0, cells := 0, slots := 0, locals := 0 } : Room) s m #[(.ref oc)] below meth c s₁ [] 0 0 := Stand.of_body Bd
  have e0 : s₁.heap = h0 := by rw [← hh, Bd.state]; rfl
  have N0 := Fr.nil n0
  have pre0 : ∀ t_, Steps p.tables e below (s₁.setTop (mkF m 0 #[.val (.ref oc)] [])) t_ → Steps p.tables e below (s₁.setTop (entryFrame m #[(.ref oc)] 1)) t_ := fun t_ k_ => castTop (ef_5 m oc) k_
  obtain ⟨T1, X1, e1, st1⟩ := getF X0 hx hZ hown (host := "") (Or.inl (hw _ (M 19))) Via.refl e0 B.2.2.2.1 (g := (mkF m 1 #[.val (.ref oc)] [(.ref oc)])) rfl rfl (hb hby d5_1)
  obtain ⟨fs, hr, hrun, hended, hW, hsame⟩ := X1.leave (v := some (.long q2)) (fun h => by rw [Bd.returns] at h; cases h)
  refine ⟨_, _, pre0 _ ?_, hrun, hended, _, _, rfl, ?_, ⟨_, rfl⟩, hW, hsame.mono (by decide) (by decide)⟩
  · show Steps p.tables e below (s₁.setTop (mkF m 0 #[.val (.ref oc)] [])) _
    refine XS.aloadN X0.here hx rfl (hb hby d5_0) rfl rfl ?_
    refine st1 _ ?_
    show Steps p.tables e below (T1.setTop (mkF m 4 #[.val (.ref oc)] [(.long q2)])) _
    jvm_step X1.here [X1.here.top, hx, (hb hby d5_4), X1.method', Bd.returns, narrow]
    first | (intro acts; rw [hr _ acts rfl rfl rfl]) | rw [hr _ _ rfl rfl rfl]
    exact Steps.refl _
  · show (QR (.long q2) h0 n0) _ T1.heap _
    rw [e1]
    exact ⟨rfl, N0, rfl⟩
theorem d6_0 : decode prog_24_method_5_code 0 = .ok (.aload_n 0, 1) := by decide +kernel
theorem d6_1 : decode prog_24_method_5_code 1 = .ok (.getfield 20, 3) := by decide +kernel
theorem d6_4 : decode prog_24_method_5_code 4 = .ok (.lreturn, 1) := by decide +kernel
theorem pn_6 : plainName "com/example/known_origins/knownorigins/store/LoadCount" = true := by first | (simp [plainName, overriddenIn]; done) | decide +kernel
theorem ef_6 (m : MethodId) (x0 : Addr) : entryFrame m #[(.ref x0)] 1 = mkF m 0 #[.val (.ref x0)] [] := by first | (simp [entryFrame, mkF, argsToLocals, Value.category]; done) | rfl
set_option maxRecDepth 65536 in
set_option maxHeartbeats 40000000 in
theorem lc_skipped (l : Launch) (Z : State) (a0 : Array Value) (hw : ∀ d ∈ tables_1, d.before a0 Z = true) (oc so : Addr) (q1 q2 q3 q4 : Int64) (h0 : Heap) (n0 : Nat) (Z0 : n0 ≤ h0.size) (B : LcS Z h0 oc so q1 q2 q3 q4) :
    MQ l Z (⟨"com/example/known_origins/knownorigins/store/LoadCount", "skipped", "()J"⟩ : MethodName) prog_24_method_5_code 1 (some .long) ({ frames := 0, cells := 0, slots := 0, locals := 0 } : Room) #[(.ref oc)] h0 (QR (.long q3) h0 n0) := by
  intro ws
  refine MetFree.of_bodySF (plainFor_of_name pn_6) hisR ?_
  intro p e s m args below meth c s₁ Bd hml0 hP hK
  obtain ⟨rfl, hZ, hh⟩ := hP
  have hx := Bd.exec
  have hby := Bd.bytes
  have hml : c.maxLocals = 1 := hml0
  have hown : s.vm.findClass "com/example/known_origins/knownorigins/store/LoadCount" = some m.cls := findClass_of_methodNamed Bd.named
  have hnm := (name_of_methodNamed Bd.named Bd.method).1
  have X0 : Stand p l e ({ frames := 0, cells := 0, slots := 0, locals := 0 } : Room) s m #[(.ref oc)] below meth c s₁ [] 0 0 := Stand.of_body Bd
  have e0 : s₁.heap = h0 := by rw [← hh, Bd.state]; rfl
  have N0 := Fr.nil n0
  have pre0 : ∀ t_, Steps p.tables e below (s₁.setTop (mkF m 0 #[.val (.ref oc)] [])) t_ → Steps p.tables e below (s₁.setTop (entryFrame m #[(.ref oc)] 1)) t_ := fun t_ k_ => castTop (ef_6 m oc) k_
  obtain ⟨T1, X1, e1, st1⟩ := getF X0 hx hZ hown (host := "") (Or.inl (hw _ (M 21))) Via.refl e0 B.2.2.2.2.1 (g := (mkF m 1 #[.val (.ref oc)] [(.ref oc)])) rfl rfl (hb hby d6_1)
  obtain ⟨fs, hr, hrun, hended, hW, hsame⟩ := X1.leave (v := some (.long q3)) (fun h => by rw [Bd.returns] at h; cases h)
  refine ⟨_, _, pre0 _ ?_, hrun, hended, _, _, rfl, ?_, ⟨_, rfl⟩, hW, hsame.mono (by decide) (by decide)⟩
  · show Steps p.tables e below (s₁.setTop (mkF m 0 #[.val (.ref oc)] [])) _
    refine XS.aloadN X0.here hx rfl (hb hby d6_0) rfl rfl ?_
    refine st1 _ ?_
    show Steps p.tables e below (T1.setTop (mkF m 4 #[.val (.ref oc)] [(.long q3)])) _
    jvm_step X1.here [X1.here.top, hx, (hb hby d6_4), X1.method', Bd.returns, narrow]
    first | (intro acts; rw [hr _ acts rfl rfl rfl]) | rw [hr _ _ rfl rfl rfl]
    exact Steps.refl _
  · show (QR (.long q3) h0 n0) _ T1.heap _
    rw [e1]
    exact ⟨rfl, N0, rfl⟩
theorem d7_0 : decode prog_24_method_6_code 0 = .ok (.aload_n 0, 1) := by decide +kernel
theorem d7_1 : decode prog_24_method_6_code 1 = .ok (.getfield 23, 3) := by decide +kernel
theorem d7_4 : decode prog_24_method_6_code 4 = .ok (.lreturn, 1) := by decide +kernel
theorem pn_7 : plainName "com/example/known_origins/knownorigins/store/LoadCount" = true := by first | (simp [plainName, overriddenIn]; done) | decide +kernel
theorem ef_7 (m : MethodId) (x0 : Addr) : entryFrame m #[(.ref x0)] 1 = mkF m 0 #[.val (.ref x0)] [] := by first | (simp [entryFrame, mkF, argsToLocals, Value.category]; done) | rfl
set_option maxRecDepth 65536 in
set_option maxHeartbeats 40000000 in
theorem lc_derived (l : Launch) (Z : State) (a0 : Array Value) (hw : ∀ d ∈ tables_1, d.before a0 Z = true) (oc so : Addr) (q1 q2 q3 q4 : Int64) (h0 : Heap) (n0 : Nat) (Z0 : n0 ≤ h0.size) (B : LcS Z h0 oc so q1 q2 q3 q4) :
    MQ l Z (⟨"com/example/known_origins/knownorigins/store/LoadCount", "derived", "()J"⟩ : MethodName) prog_24_method_6_code 1 (some .long) ({ frames := 0, cells := 0, slots := 0, locals := 0 } : Room) #[(.ref oc)] h0 (QR (.long q4) h0 n0) := by
  intro ws
  refine MetFree.of_bodySF (plainFor_of_name pn_7) hisR ?_
  intro p e s m args below meth c s₁ Bd hml0 hP hK
  obtain ⟨rfl, hZ, hh⟩ := hP
  have hx := Bd.exec
  have hby := Bd.bytes
  have hml : c.maxLocals = 1 := hml0
  have hown : s.vm.findClass "com/example/known_origins/knownorigins/store/LoadCount" = some m.cls := findClass_of_methodNamed Bd.named
  have hnm := (name_of_methodNamed Bd.named Bd.method).1
  have X0 : Stand p l e ({ frames := 0, cells := 0, slots := 0, locals := 0 } : Room) s m #[(.ref oc)] below meth c s₁ [] 0 0 := Stand.of_body Bd
  have e0 : s₁.heap = h0 := by rw [← hh, Bd.state]; rfl
  have N0 := Fr.nil n0
  have pre0 : ∀ t_, Steps p.tables e below (s₁.setTop (mkF m 0 #[.val (.ref oc)] [])) t_ → Steps p.tables e below (s₁.setTop (entryFrame m #[(.ref oc)] 1)) t_ := fun t_ k_ => castTop (ef_7 m oc) k_
  obtain ⟨T1, X1, e1, st1⟩ := getF X0 hx hZ hown (host := "") (Or.inl (hw _ (M 23))) Via.refl e0 B.2.2.2.2.2 (g := (mkF m 1 #[.val (.ref oc)] [(.ref oc)])) rfl rfl (hb hby d7_1)
  obtain ⟨fs, hr, hrun, hended, hW, hsame⟩ := X1.leave (v := some (.long q4)) (fun h => by rw [Bd.returns] at h; cases h)
  refine ⟨_, _, pre0 _ ?_, hrun, hended, _, _, rfl, ?_, ⟨_, rfl⟩, hW, hsame.mono (by decide) (by decide)⟩
  · show Steps p.tables e below (s₁.setTop (mkF m 0 #[.val (.ref oc)] [])) _
    refine XS.aloadN X0.here hx rfl (hb hby d7_0) rfl rfl ?_
    refine st1 _ ?_
    show Steps p.tables e below (T1.setTop (mkF m 4 #[.val (.ref oc)] [(.long q4)])) _
    jvm_step X1.here [X1.here.top, hx, (hb hby d7_4), X1.method', Bd.returns, narrow]
    first | (intro acts; rw [hr _ acts rfl rfl rfl]) | rw [hr _ _ rfl rfl rfl]
    exact Steps.refl _
  · show (QR (.long q4) h0 n0) _ T1.heap _
    rw [e1]
    exact ⟨rfl, N0, rfl⟩
theorem d40_0 : decode prog_24_method_7_code 0 = .ok (.aload_n 1, 1) := by decide +kernel
theorem d40_1 : decode prog_24_method_7_code 1 = .ok (.getfield 7, 3) := by decide +kernel
theorem d40_4 : decode prog_24_method_7_code 4 = .ok (.aload_n 0, 1) := by decide +kernel
theorem d40_5 : decode prog_24_method_7_code 5 = .ok (.getfield 7, 3) := by decide +kernel
theorem d40_8 : decode prog_24_method_7_code 8 = .ok (.if_acmp .eq 13, 3) := by decide +kernel
theorem d40_21 : decode prog_24_method_7_code 21 = .ok (.new 8, 3) := by decide +kernel
theorem d40_24 : decode prog_24_method_7_code 24 = .ok (.dup, 1) := by decide +kernel
theorem d40_25 : decode prog_24_method_7_code 25 = .ok (.aload_n 0, 1) := by decide +kernel
theorem d40_26 : decode prog_24_method_7_code 26 = .ok (.getfield 7, 3) := by decide +kernel
theorem d40_29 : decode prog_24_method_7_code 29 = .ok (.aload_n 0, 1) := by decide +kernel
theorem d40_30 : decode prog_24_method_7_code 30 = .ok (.getfield 13, 3) := by decide +kernel
theorem d40_33 : decode prog_24_method_7_code 33 = .ok (.aload_n 1, 1) := by decide +kernel
theorem d40_34 : decode prog_24_method_7_code 34 = .ok (.getfield 13, 3) := by decide +kernel
theorem d40_37 : decode prog_24_method_7_code 37 = .ok (.ladd, 1) := by decide +kernel
theorem d40_38 : decode prog_24_method_7_code 38 = .ok (.aload_n 0, 1) := by decide +kernel
theorem d40_39 : decode prog_24_method_7_code 39 = .ok (.getfield 17, 3) := by decide +kernel
theorem d40_42 : decode prog_24_method_7_code 42 = .ok (.aload_n 1, 1) := by decide +kernel
theorem d40_43 : decode prog_24_method_7_code 43 = .ok (.getfield 17, 3) := by decide +kernel
theorem d40_46 : decode prog_24_method_7_code 46 = .ok (.ladd, 1) := by decide +kernel
theorem d40_47 : decode prog_24_method_7_code 47 = .ok (.aload_n 0, 1) := by decide +kernel
theorem d40_48 : decode prog_24_method_7_code 48 = .ok (.getfield 20, 3) := by decide +kernel
theorem d40_51 : decode prog_24_method_7_code 51 = .ok (.aload_n 1, 1) := by decide +kernel
theorem d40_52 : decode prog_24_method_7_code 52 = .ok (.getfield 20, 3) := by decide +kernel
theorem d40_55 : decode prog_24_method_7_code 55 = .ok (.ladd, 1) := by decide +kernel
theorem d40_56 : decode prog_24_method_7_code 56 = .ok (.aload_n 0, 1) := by decide +kernel
theorem d40_57 : decode prog_24_method_7_code 57 = .ok (.getfield 23, 3) := by decide +kernel
theorem d40_60 : decode prog_24_method_7_code 60 = .ok (.aload_n 1, 1) := by decide +kernel
theorem d40_61 : decode prog_24_method_7_code 61 = .ok (.getfield 23, 3) := by decide +kernel
theorem d40_64 : decode prog_24_method_7_code 64 = .ok (.ladd, 1) := by decide +kernel
theorem d40_65 : decode prog_24_method_7_code 65 = .ok (.invokespecial 26, 3) := by decide +kernel
theorem d40_68 : decode prog_24_method_7_code 68 = .ok (.areturn, 1) := by decide +kernel
theorem pn_40 : plainName "com/example/known_origins/knownorigins/store/LoadCount" = true := by first | (simp [plainName, overriddenIn]; done) | decide +kernel
theorem ef_40 (m : MethodId) (x0 : Addr) (x1 : Addr) : entryFrame m #[(.ref x0), (.ref x1)] 2 = mkF m 0 #[.val (.ref x0), .val (.ref x1)] [] := by first | (simp [entryFrame, mkF, argsToLocals, Value.category]; done) | rfl
set_option maxRecDepth 65536 in
set_option maxHeartbeats 40000000 in
theorem lcPlus (l : Launch) (Z : State) (a0 : Array Value) (hw : ∀ d ∈ tables_1, d.before a0 Z = true) (oc od so : Addr) (q1 q2 q3 q4 : Int64) (h0 : Heap) (n0 : Nat) (Z0 : n0 ≤ h0.size) (B : LcS Z h0 oc so 0 0 0 0) (D : LcS Z h0 od so q1 q2 q3 q4) :
    MQ l Z (⟨"com/example/known_origins/knownorigins/store/LoadCount", "plus", "(Lcom/example/known_origins/knownorigins/store/LoadCount;)Lcom/example/known_origins/knownorigins/store/LoadCount;"⟩ : MethodName) prog_24_method_7_code 2 (some (.object "com/example/known_origins/knownorigins/store/LoadCount")) ({ frames := 2, cells := 1, slots := 5, locals := 34 } : Room) #[(.ref oc), (.ref od)] h0 (QD Z so q1 q2 q3 q4 h0 n0) := by
  intro ws
  refine MetFree.of_bodySF (plainFor_of_name pn_40) hisR ?_
  intro p e s m args below meth c s₁ Bd hml0 hP hK
  obtain ⟨rfl, hZ, hh⟩ := hP
  have hx := Bd.exec
  have hby := Bd.bytes
  have hml : c.maxLocals = 2 := hml0
  have hown : s.vm.findClass "com/example/known_origins/knownorigins/store/LoadCount" = some m.cls := findClass_of_methodNamed Bd.named
  have hnm := (name_of_methodNamed Bd.named Bd.method).1
  have X0 : Stand p l e ({ frames := 2, cells := 1, slots := 5, locals := 34 } : Room) s m #[(.ref oc), (.ref od)] below meth c s₁ [] 0 0 := Stand.of_body Bd
  have e0 : s₁.heap = h0 := by rw [← hh, Bd.state]; rfl
  have N0 := Fr.nil n0
  have pre0 : ∀ t_, Steps p.tables e below (s₁.setTop (mkF m 0 #[.val (.ref oc), .val (.ref od)] [])) t_ → Steps p.tables e below (s₁.setTop (entryFrame m #[(.ref oc), (.ref od)] 2)) t_ := fun t_ k_ => castTop (ef_40 m oc od) k_
  obtain ⟨T1, X1, e1, st1⟩ := getF X0 hx hZ hown (host := "") (Or.inl (hw _ (M 15))) Via.refl e0 D.2.1 (g := (mkF m 1 #[.val (.ref oc), .val (.ref od)] [(.ref od)])) rfl rfl (hb hby d40_1)
  obtain ⟨T2, X2, e2, st2⟩ := getF X1 hx hZ hown (host := "") (Or.inl (hw _ (M 15))) Via.refl e1 B.2.1 (g := (mkF m 5 #[.val (.ref oc), .val (.ref od)] [(.ref oc), (.ref so)])) rfl rfl (hb hby d40_5)
  obtain ⟨T3, h3, X3, e3, E3, A3, D3, -, st3⟩ := newO X2 hx hZ hown (hw _ (M 7)) (hw _ (M 8)) (hw _ (M 5)) e2 (g := (mkF m 21 #[.val (.ref oc), .val (.ref od)] [])) rfl (hb hby d40_21) (by decide) (by decide)
  obtain ⟨b3, g3⟩ : ∃ z, z = h0.size := ⟨_, rfl⟩
  rw [← g3] at A3 D3 st3
  have sz_b3 : h0.size ≤ b3 := Nat.le_trans (Keep.refl h0 []).1 (Nat.le_of_eq g3.symm)
  have g_b3 : n0 ≤ b3 := Nat.le_trans Z0 sz_b3
  have ne_oc_b3 : oc ≠ b3 := Nat.ne_of_lt (Nat.lt_of_lt_of_le B.1.lt (Nat.le_of_eq g3.symm))
  have ne_od_b3 : od ≠ b3 := Nat.ne_of_lt (Nat.lt_of_lt_of_le D.1.lt (Nat.le_of_eq g3.symm))
  have K3 : Keep h0 h3 [] := (Keep.refl h0 []).ext E3
  have F_ifStored_b3 : Fld Z h3 b3 "com/example/known_origins/knownorigins/store/LoadCount" "ifStored" "Lcom/example/known_origins/knownorigins/store/IfStored;" .null := D3 (Or.inr (hw _ (M 16))) (ty := (.object "com/example/known_origins/knownorigins/store/IfStored")) (by decide)
  have F_graphs_b3 : Fld Z h3 b3 "com/example/known_origins/knownorigins/store/LoadCount" "graphs" "J" (.long (0 : Int64)) := D3 (Or.inr (hw _ (M 18))) (ty := .long) (by decide)
  have F_triples_b3 : Fld Z h3 b3 "com/example/known_origins/knownorigins/store/LoadCount" "triples" "J" (.long (0 : Int64)) := D3 (Or.inr (hw _ (M 20))) (ty := .long) (by decide)
  have F_skipped_b3 : Fld Z h3 b3 "com/example/known_origins/knownorigins/store/LoadCount" "skipped" "J" (.long (0 : Int64)) := D3 (Or.inr (hw _ (M 22))) (ty := .long) (by decide)
  have F_derived_b3 : Fld Z h3 b3 "com/example/known_origins/knownorigins/store/LoadCount" "derived" "J" (.long (0 : Int64)) := D3 (Or.inr (hw _ (M 24))) (ty := .long) (by decide)
  obtain ⟨T4, X4, e4, st4⟩ := getF X3 hx hZ hown (host := "") (Or.inl (hw _ (M 15))) Via.refl e3 (B.2.1.ext E3) (g := (mkF m 26 #[.val (.ref oc), .val (.ref od)] [(.ref oc), (.ref b3), (.ref b3)])) rfl rfl (hb hby d40_26)
  obtain ⟨T5, X5, e5, st5⟩ := getF X4 hx hZ hown (host := "") (Or.inl (hw _ (M 17))) Via.refl e4 (B.2.2.1.ext E3) (g := (mkF m 30 #[.val (.ref oc), .val (.ref od)] [(.ref oc), (.ref so), (.ref b3), (.ref b3)])) rfl rfl (hb hby d40_30)
  obtain ⟨T6, X6, e6, st6⟩ := getF X5 hx hZ hown (host := "") (Or.inl (hw _ (M 17))) Via.refl e5 (D.2.2.1.ext E3) (g := (mkF m 34 #[.val (.ref oc), .val (.ref od)] [(.ref od), (.long (0 : Int64)), (.ref so), (.ref b3), (.ref b3)])) rfl rfl (hb hby d40_34)
  obtain ⟨T7, X7, e7, st7⟩ := getF X6 hx hZ hown (host := "") (Or.inl (hw _ (M 19))) Via.refl e6 (B.2.2.2.1.ext E3) (g := (mkF m 39 #[.val (.ref oc), .val (.ref od)] [(.ref oc), (.long q1), (.ref so), (.ref b3), (.ref b3)])) rfl rfl (hb hby d40_39)
  obtain ⟨T8, X8, e8, st8⟩ := getF X7 hx hZ hown (host := "") (Or.inl (hw _ (M 19))) Via.refl e7 (D.2.2.2.1.ext E3) (g := (mkF m 43 #[.val (.ref oc), .val (.ref od)] [(.ref od), (.long (0 : Int64)), (.long q1), (.ref so), (.ref b3), (.ref b3)])) rfl rfl (hb hby d40_43)
  obtain ⟨T9, X9, e9, st9⟩ := getF X8 hx hZ hown (host := "") (Or.inl (hw _ (M 21))) Via.refl e8 (B.2.2.2.2.1.ext E3) (g := (mkF m 48 #[.val (.ref oc), .val (.ref od)] [(.ref oc), (.long q2), (.long q1), (.ref so), (.ref b3), (.ref b3)])) rfl rfl (hb hby d40_48)
  obtain ⟨T10, X10, e10, st10⟩ := getF X9 hx hZ hown (host := "") (Or.inl (hw _ (M 21))) Via.refl e9 (D.2.2.2.2.1.ext E3) (g := (mkF m 52 #[.val (.ref oc), .val (.ref od)] [(.ref od), (.long (0 : Int64)), (.long q2), (.long q1), (.ref so), (.ref b3), (.ref b3)])) rfl rfl (hb hby d40_52)
  obtain ⟨T11, X11, e11, st11⟩ := getF X10 hx hZ hown (host := "") (Or.inl (hw _ (M 23))) Via.refl e10 (B.2.2.2.2.2.ext E3) (g := (mkF m 57 #[.val (.ref oc), .val (.ref od)] [(.ref oc), (.long q3), (.long q2), (.long q1), (.ref so), (.ref b3), (.ref b3)])) rfl rfl (hb hby d40_57)
  obtain ⟨T12, X12, e12, st12⟩ := getF X11 hx hZ hown (host := "") (Or.inl (hw _ (M 23))) Via.refl e11 (D.2.2.2.2.2.ext E3) (g := (mkF m 61 #[.val (.ref oc), .val (.ref od)] [(.ref od), (.long (0 : Int64)), (.long q3), (.long q2), (.long q1), (.ref so), (.ref b3), (.ref b3)])) rfl rfl (hb hby d40_61)
  obtain ⟨_, _, ⟨T13, L13, k13, n13⟩, -, X13, ⟨Lc13, hQ13, l13, y13, z13⟩, st13⟩ := X12.specialBack hx (y := (⟨"com/example/known_origins/knownorigins/store/LoadCount", "<init>", "(Lcom/example/known_origins/knownorigins/store/IfStored;JJJJ)V"⟩ : MethodName)) rfl hown (mvT hZ (hw _ (M 9))) (mvT hZ (hw _ (M 10))) (mvT hZ (hw _ (M 11))) (by decide) (backOf (W := 1) ((lcInit l Z a0 hw b3 so q1 q2 q3 q4 h3 n0 (Nat.le_trans Z0 K3.1) F_ifStored_b3 F_graphs_b3 F_triples_b3 F_skipped_b3 F_derived_b3 A3 g_b3) []) hZ (hw _ (M 11)) (hw _ (M 5)) (by decide) (by decide)) (g := (mkF m 65 #[.val (.ref oc), .val (.ref od)] [(.long q4), (.long q3), (.long q2), (.long q1), (.ref so), (.ref b3), (.ref b3)])) rfl (by rw [hml]; rfl) (Steps.refl _) (a := b3) (argsL := [(.ref so), (.long q1), (.long q2), (.long q3), (.long q4)]) (rest := [(.ref b3)]) (lenOf pd_oLcom_example_known_origins_knownorigins_store_IfStored_JJJJcV rfl) rfl (by show 2 * 0 + _ ≤ _; exact Nat.le_of_eq rfl) (hb hby d40_65) (fun _ _ => ⟨rfl, e12, (by decide : 1 + 0 ≤ _), (by decide : 5 + 0 ≤ _)⟩)
  dsimp only [Pt.U, Pt.locs, Pt.cells, Pt.slots] at X13 l13 y13 z13 st13 hQ13
  subst l13 y13 z13
  obtain ⟨rfl, N13q, Kq13, Bq13⟩ := hQ13
  have K13 : Keep h0 T13.heap [] := K3.trans Kq13 (allS (Or.inr sz_b3) all0)
  have N13 := Fr.app N0 N13q
  obtain ⟨fs, hr, hrun, hended, hW, hsame⟩ := X13.leave (v := some (.ref b3)) (fun h => by rw [Bd.returns] at h; cases h)
  refine ⟨_, _, pre0 _ ?_, hrun, hended, _, _, rfl, ?_, ⟨_, rfl⟩, hW, hsame.mono (by decide) (by decide)⟩
  · show Steps p.tables e below (s₁.setTop (mkF m 0 #[.val (.ref oc), .val (.ref od)] [])) _
    refine XS.aloadN X0.here hx rfl (hb hby d40_0) rfl rfl ?_
    refine st1 _ ?_
    show Steps p.tables e below (T1.setTop (mkF m 4 #[.val (.ref oc), .val (.ref od)] [(.ref so)])) _
    refine XS.aloadN X1.here hx rfl (hb hby d40_4) rfl rfl ?_
    refine st2 _ ?_
    show Steps p.tables e below (T2.setTop (mkF m 8 #[.val (.ref oc), .val (.ref od)] [(.ref so), (.ref so)])) _
    refine Jvm.RoadKit.acmp (g := (mkF m 8 #[.val (.ref oc), .val (.ref od)] [(.ref so), (.ref so)])) X2 hx rfl rfl rfl (pc0 := 8) (pc' := 21) (same := true) rfl (hb hby d40_8) rfl (decide_eq_true rfl) (by decide) (by decide) ?_
    show Steps p.tables e below (T2.setTop (mkF m 21 #[.val (.ref oc), .val (.ref od)] [])) _
    refine st3 _ ?_
    show Steps p.tables e below (T3.setTop (mkF m 24 #[.val (.ref oc), .val (.ref od)] [(.ref b3)])) _
    refine XS.dup X3.here hx rfl (hb hby d40_24) rfl rfl ?_
    refine XS.aloadN X3.here hx rfl (hb hby d40_25) rfl rfl ?_
    refine st4 _ ?_
    show Steps p.tables e below (T4.setTop (mkF m 29 #[.val (.ref oc), .val (.ref od)] [(.ref so), (.ref b3), (.ref b3)])) _
    refine XS.aloadN X4.here hx rfl (hb hby d40_29) rfl rfl ?_
    refine st5 _ ?_
    show Steps p.tables e below (T5.setTop (mkF m 33 #[.val (.ref oc), .val (.ref od)] [(.long (0 : Int64)), (.ref so), (.ref b3), (.ref b3)])) _
    refine XS.aloadN X5.here hx rfl (hb hby d40_33) rfl rfl ?_
    refine st6 _ ?_
    show Steps p.tables e below (T6.setTop (mkF m 37 #[.val (.ref oc), .val (.ref od)] [(.long q1), (.long (0 : Int64)), (.ref so), (.ref b3), (.ref b3)])) _
    refine XS.ladd X6.here hx rfl (hb hby d40_37) rfl ?_
    show Steps p.tables e below (T6.setTop (mkF m 38 #[.val (.ref oc), .val (.ref od)] [(.long ((0 : Int64) + q1)), (.ref so), (.ref b3), (.ref b3)])) _
    rw [(own_zadd q1)]
    show Steps p.tables e below (T6.setTop (mkF m 38 #[.val (.ref oc), .val (.ref od)] [(.long q1), (.ref so), (.ref b3), (.ref b3)])) _
    refine XS.aloadN X6.here hx rfl (hb hby d40_38) rfl rfl ?_
    refine st7 _ ?_
    show Steps p.tables e below (T7.setTop (mkF m 42 #[.val (.ref oc), .val (.ref od)] [(.long (0 : Int64)), (.long q1), (.ref so), (.ref b3), (.ref b3)])) _
    refine XS.aloadN X7.here hx rfl (hb hby d40_42) rfl rfl ?_
    refine st8 _ ?_
    show Steps p.tables e below (T8.setTop (mkF m 46 #[.val (.ref oc), .val (.ref od)] [(.long q2), (.long (0 : Int64)), (.long q1), (.ref so), (.ref b3), (.ref b3)])) _
    refine XS.ladd X8.here hx rfl (hb hby d40_46) rfl ?_
    show Steps p.tables e below (T8.setTop (mkF m 47 #[.val (.ref oc), .val (.ref od)] [(.long ((0 : Int64) + q2)), (.long q1), (.ref so), (.ref b3), (.ref b3)])) _
    rw [(own_zadd q2)]
    show Steps p.tables e below (T8.setTop (mkF m 47 #[.val (.ref oc), .val (.ref od)] [(.long q2), (.long q1), (.ref so), (.ref b3), (.ref b3)])) _
    refine XS.aloadN X8.here hx rfl (hb hby d40_47) rfl rfl ?_
    refine st9 _ ?_
    show Steps p.tables e below (T9.setTop (mkF m 51 #[.val (.ref oc), .val (.ref od)] [(.long (0 : Int64)), (.long q2), (.long q1), (.ref so), (.ref b3), (.ref b3)])) _
    refine XS.aloadN X9.here hx rfl (hb hby d40_51) rfl rfl ?_
    refine st10 _ ?_
    show Steps p.tables e below (T10.setTop (mkF m 55 #[.val (.ref oc), .val (.ref od)] [(.long q3), (.long (0 : Int64)), (.long q2), (.long q1), (.ref so), (.ref b3), (.ref b3)])) _
    refine XS.ladd X10.here hx rfl (hb hby d40_55) rfl ?_
    show Steps p.tables e below (T10.setTop (mkF m 56 #[.val (.ref oc), .val (.ref od)] [(.long ((0 : Int64) + q3)), (.long q2), (.long q1), (.ref so), (.ref b3), (.ref b3)])) _
    rw [(own_zadd q3)]
    show Steps p.tables e below (T10.setTop (mkF m 56 #[.val (.ref oc), .val (.ref od)] [(.long q3), (.long q2), (.long q1), (.ref so), (.ref b3), (.ref b3)])) _
    refine XS.aloadN X10.here hx rfl (hb hby d40_56) rfl rfl ?_
    refine st11 _ ?_
    show Steps p.tables e below (T11.setTop (mkF m 60 #[.val (.ref oc), .val (.ref od)] [(.long (0 : Int64)), (.long q3), (.long q2), (.long q1), (.ref so), (.ref b3), (.ref b3)])) _
    refine XS.aloadN X11.here hx rfl (hb hby d40_60) rfl rfl ?_
    refine st12 _ ?_
    show Steps p.tables e below (T12.setTop (mkF m 64 #[.val (.ref oc), .val (.ref od)] [(.long q4), (.long (0 : Int64)), (.long q3), (.long q2), (.long q1), (.ref so), (.ref b3), (.ref b3)])) _
    refine XS.ladd X12.here hx rfl (hb hby d40_64) rfl ?_
    show Steps p.tables e below (T12.setTop (mkF m 65 #[.val (.ref oc), .val (.ref od)] [(.long ((0 : Int64) + q4)), (.long q3), (.long q2), (.long q1), (.ref so), (.ref b3), (.ref b3)])) _
    rw [(own_zadd q4)]
    show Steps p.tables e below (T12.setTop (mkF m 65 #[.val (.ref oc), .val (.ref od)] [(.long q4), (.long q3), (.long q2), (.long q1), (.ref so), (.ref b3), (.ref b3)])) _
    refine st13.trans ?_
    show Steps p.tables e below (T13.setTop (mkF m 68 #[.val (.ref oc), .val (.ref od)] [(.ref b3)])) _
    jvm_step X13.here [X13.here.top, hx, (hb hby d40_68), X13.method', Bd.returns, Value.isRef, FieldType.isReference]
    first | (intro acts; rw [hr _ acts rfl rfl rfl]) | rw [hr _ _ rfl rfl rfl]
    exact Steps.refl _
  · show (QD Z so q1 q2 q3 q4 h0 n0) _ T13.heap _
    exact ⟨_, rfl, N13, K13, sz_b3, ⟨Bq13.1, Bq13.2.1, Bq13.2.2.1, Bq13.2.2.2.1, Bq13.2.2.2.2.1, Bq13.2.2.2.2.2⟩⟩
def MH (l : Launch) (Z : State) (y : MethodName) (bytes : ByteArray) (ml : Nat) (rt : Option FieldType) (R : Room) (as : Array Value) (h0 : Heap) (Q : Option Value → Heap → List Loc → Prop) : Prop :=
  ∀ ws : List Jvm.Cond, MetFree l y (head1 (Jvm.Cond.code y bytes ml rt :: ws) R) (fun a U => a = as ∧ Z.Warmed39 U.vm ∧ U.heap = h0 ∧ CHv Z consts_1 U.vm h0) (fun _ _ _ _ _ => True) (fun _ U o U' => ∃ v L, o = .returned v ∧ Q v U'.heap L ∧ CHr Z consts_1 U.vm U.heap U'.vm U'.heap ∧ ReturnedEndW U o U' L R.cells R.slots)
theorem own_arr_keep {Z : State} {h h' : Heap} {a : Addr} {c : Cell} {ty : FieldType} {ws : List Addr} (A : Arr Z h a c ty) (K : Keep h h' ws) (q : a ∉ ws) : Arr Z h' a c ty := ⟨K.2.1 a c A.1 q, A.2⟩
theorem own_strA {Z : State} {a0 : Array Value} (hw : ∀ d ∈ tables_1, d.before a0 Z = true) : ∀ d ∈ Bundle.stringAtoms, d.before a0 Z = true := fun d hd => by
  simp only [Bundle.stringAtoms, List.mem_cons, List.not_mem_nil, or_false] at hd
  rcases hd with rfl | rfl | rfl | rfl | rfl | rfl | rfl
  · exact (hw _ (M 46))
  · exact (hw _ (M 47))
  · exact (hw _ (M 48))
  · exact (hw _ (M 49))
  · exact (hw _ (M 50))
  · exact (hw _ (M 51))
  · exact (hw _ (M 52))
def tx_0 : List Value := [(.int (108 : Int32)), (.int (111 : Int32)), (.int (97 : Int32)), (.int (100 : Int32)), (.int (101 : Int32)), (.int (100 : Int32)), (.int (32 : Int32)), (.int (103 : Int32)), (.int (114 : Int32)), (.int (97 : Int32)), (.int (112 : Int32)), (.int (104 : Int32)), (.int (115 : Int32)), (.int (61 : Int32)), (.int (48 : Int32)), (.int (32 : Int32)), (.int (116 : Int32)), (.int (114 : Int32)), (.int (105 : Int32)), (.int (112 : Int32)), (.int (108 : Int32)), (.int (101 : Int32)), (.int (115 : Int32)), (.int (61 : Int32)), (.int (48 : Int32))]
theorem lit_0 : (∀ c ∈ "loaded graphs=0 triples=0".toList, c.toNat < 256) ∧ "loaded graphs=0 triples=0".toList.map (fun c => Value.int (Jvm.Lit.byteI c.toNat.toUInt16)) = tx_0 := ⟨by decide, by rfl⟩
def tx_1 : List Value := [(.int (108 : Int32)), (.int (111 : Int32)), (.int (97 : Int32)), (.int (100 : Int32)), (.int (101 : Int32)), (.int (100 : Int32)), (.int (32 : Int32)), (.int (103 : Int32)), (.int (114 : Int32)), (.int (97 : Int32)), (.int (112 : Int32)), (.int (104 : Int32)), (.int (115 : Int32)), (.int (61 : Int32)), (.int (48 : Int32)), (.int (32 : Int32)), (.int (116 : Int32)), (.int (114 : Int32)), (.int (105 : Int32)), (.int (112 : Int32)), (.int (108 : Int32)), (.int (101 : Int32)), (.int (115 : Int32)), (.int (61 : Int32)), (.int (48 : Int32)), (.int (32 : Int32)), (.int (100 : Int32)), (.int (101 : Int32)), (.int (114 : Int32)), (.int (105 : Int32)), (.int (118 : Int32)), (.int (101 : Int32)), (.int (100 : Int32)), (.int (61 : Int32)), (.int (48 : Int32))]
theorem lit_1 : (∀ c ∈ "loaded graphs=0 triples=0 derived=0".toList, c.toNat < 256) ∧ "loaded graphs=0 triples=0 derived=0".toList.map (fun c => Value.int (Jvm.Lit.byteI c.toNat.toUInt16)) = tx_1 := ⟨by decide, by rfl⟩
def tx_2 : List Value := [(.int (108 : Int32)), (.int (111 : Int32)), (.int (97 : Int32)), (.int (100 : Int32)), (.int (101 : Int32)), (.int (100 : Int32)), (.int (32 : Int32)), (.int (103 : Int32)), (.int (114 : Int32)), (.int (97 : Int32)), (.int (112 : Int32)), (.int (104 : Int32)), (.int (115 : Int32)), (.int (61 : Int32)), (.int (48 : Int32)), (.int (32 : Int32)), (.int (116 : Int32)), (.int (114 : Int32)), (.int (105 : Int32)), (.int (112 : Int32)), (.int (108 : Int32)), (.int (101 : Int32)), (.int (115 : Int32)), (.int (61 : Int32)), (.int (48 : Int32)), (.int (32 : Int32)), (.int (115 : Int32)), (.int (107 : Int32)), (.int (105 : Int32)), (.int (112 : Int32)), (.int (112 : Int32)), (.int (101 : Int32)), (.int (100 : Int32)), (.int (61 : Int32)), (.int (48 : Int32))]
theorem lit_2 : (∀ c ∈ "loaded graphs=0 triples=0 skipped=0".toList, c.toNat < 256) ∧ "loaded graphs=0 triples=0 skipped=0".toList.map (fun c => Value.int (Jvm.Lit.byteI c.toNat.toUInt16)) = tx_2 := ⟨by decide, by rfl⟩
def tx_3 : List Value := [(.int (108 : Int32)), (.int (111 : Int32)), (.int (97 : Int32)), (.int (100 : Int32)), (.int (101 : Int32)), (.int (100 : Int32)), (.int (32 : Int32)), (.int (103 : Int32)), (.int (114 : Int32)), (.int (97 : Int32)), (.int (112 : Int32)), (.int (104 : Int32)), (.int (115 : Int32)), (.int (61 : Int32)), (.int (48 : Int32)), (.int (32 : Int32)), (.int (116 : Int32)), (.int (114 : Int32)), (.int (105 : Int32)), (.int (112 : Int32)), (.int (108 : Int32)), (.int (101 : Int32)), (.int (115 : Int32)), (.int (61 : Int32)), (.int (48 : Int32)), (.int (32 : Int32)), (.int (115 : Int32)), (.int (107 : Int32)), (.int (105 : Int32)), (.int (112 : Int32)), (.int (112 : Int32)), (.int (101 : Int32)), (.int (100 : Int32)), (.int (61 : Int32)), (.int (48 : Int32)), (.int (32 : Int32)), (.int (100 : Int32)), (.int (101 : Int32)), (.int (114 : Int32)), (.int (105 : Int32)), (.int (118 : Int32)), (.int (101 : Int32)), (.int (100 : Int32)), (.int (61 : Int32)), (.int (48 : Int32))]
theorem lit_3 : (∀ c ∈ "loaded graphs=0 triples=0 skipped=0 derived=0".toList, c.toNat < 256) ∧ "loaded graphs=0 triples=0 skipped=0 derived=0".toList.map (fun c => Value.int (Jvm.Lit.byteI c.toNat.toUInt16)) = tx_3 := ⟨by decide, by rfl⟩
def tx_4 : List Value := [(.int (32 : Int32)), (.int (100 : Int32)), (.int (101 : Int32)), (.int (114 : Int32)), (.int (105 : Int32)), (.int (118 : Int32)), (.int (101 : Int32)), (.int (100 : Int32)), (.int (61 : Int32))]
theorem lit_4 : (∀ c ∈ " derived=".toList, c.toNat < 256) ∧ " derived=".toList.map (fun c => Value.int (Jvm.Lit.byteI c.toNat.toUInt16)) = tx_4 := ⟨by decide, by rfl⟩
def tx_5 : List Value := []
theorem lit_5 : (∀ c ∈ "".toList, c.toNat < 256) ∧ "".toList.map (fun c => Value.int (Jvm.Lit.byteI c.toNat.toUInt16)) = tx_5 := ⟨by decide, by rfl⟩
def tx_6 : List Value := [(.int (32 : Int32)), (.int (115 : Int32)), (.int (107 : Int32)), (.int (105 : Int32)), (.int (112 : Int32)), (.int (112 : Int32)), (.int (101 : Int32)), (.int (100 : Int32)), (.int (61 : Int32))]
theorem lit_6 : (∀ c ∈ " skipped=".toList, c.toNat < 256) ∧ " skipped=".toList.map (fun c => Value.int (Jvm.Lit.byteI c.toNat.toUInt16)) = tx_6 := ⟨by decide, by rfl⟩
def tx_7 : List Value := [(.int (32 : Int32)), (.int (116 : Int32)), (.int (114 : Int32)), (.int (105 : Int32)), (.int (112 : Int32)), (.int (108 : Int32)), (.int (101 : Int32)), (.int (115 : Int32)), (.int (61 : Int32))]
theorem lit_7 : (∀ c ∈ " triples=".toList, c.toNat < 256) ∧ " triples=".toList.map (fun c => Value.int (Jvm.Lit.byteI c.toNat.toUInt16)) = tx_7 := ⟨by decide, by rfl⟩
def tx_8 : List Value := [(.int (108 : Int32)), (.int (111 : Int32)), (.int (97 : Int32)), (.int (100 : Int32)), (.int (101 : Int32)), (.int (100 : Int32)), (.int (32 : Int32)), (.int (103 : Int32)), (.int (114 : Int32)), (.int (97 : Int32)), (.int (112 : Int32)), (.int (104 : Int32)), (.int (115 : Int32)), (.int (61 : Int32))]
theorem lit_8 : (∀ c ∈ "loaded graphs=".toList, c.toNat < 256) ∧ "loaded graphs=".toList.map (fun c => Value.int (Jvm.Lit.byteI c.toNat.toUInt16)) = tx_8 := ⟨by decide, by rfl⟩
theorem own_EW {Z : State} {a0 : Array Value} (hw : ∀ d ∈ tables_1, d.before a0 Z = true) : EW Z a0 consts_1 := (EW.cons (hw _ (M 76)) lit_8.1 (EW.cons (hw _ (M 152)) lit_7.1 (EW.cons (hw _ (M 235)) lit_6.1 (EW.cons (hw _ (M 178)) lit_5.1 (EW.cons (hw _ (M 237)) lit_4.1 (EW.cons (hw _ (M 238)) lit_3.1 (EW.cons (hw _ (M 234)) lit_2.1 (EW.cons (hw _ (M 236)) lit_1.1 (EW.cons (hw _ (M 45)) lit_0.1 EW.nil)))))))))
def tx_9 : List Value := [(.int (108 : Int32)), (.int (111 : Int32)), (.int (97 : Int32)), (.int (100 : Int32)), (.int (101 : Int32)), (.int (100 : Int32)), (.int (32 : Int32)), (.int (103 : Int32)), (.int (114 : Int32)), (.int (97 : Int32)), (.int (112 : Int32)), (.int (104 : Int32)), (.int (115 : Int32)), (.int (61 : Int32)), (.int (0 : Int32)), (.int (0 : Int32))]
def tx_10 : List Value := [(.int (108 : Int32)), (.int (111 : Int32)), (.int (97 : Int32)), (.int (100 : Int32)), (.int (101 : Int32)), (.int (100 : Int32)), (.int (32 : Int32)), (.int (103 : Int32)), (.int (114 : Int32)), (.int (97 : Int32)), (.int (112 : Int32)), (.int (104 : Int32)), (.int (115 : Int32)), (.int (61 : Int32)), (.int (48 : Int32)), (.int (0 : Int32))]
def tx_11 : List Value := [(.int (108 : Int32)), (.int (111 : Int32)), (.int (97 : Int32)), (.int (100 : Int32)), (.int (101 : Int32)), (.int (100 : Int32)), (.int (32 : Int32)), (.int (103 : Int32)), (.int (114 : Int32)), (.int (97 : Int32)), (.int (112 : Int32)), (.int (104 : Int32)), (.int (115 : Int32)), (.int (61 : Int32)), (.int (48 : Int32)), (.int (0 : Int32)), (.int (0 : Int32)), (.int (0 : Int32)), (.int (0 : Int32)), (.int (0 : Int32)), (.int (0 : Int32)), (.int (0 : Int32)), (.int (0 : Int32)), (.int (0 : Int32)), (.int (0 : Int32)), (.int (0 : Int32)), (.int (0 : Int32)), (.int (0 : Int32)), (.int (0 : Int32)), (.int (0 : Int32)), (.int (0 : Int32)), (.int (0 : Int32)), (.int (0 : Int32)), (.int (0 : Int32))]
def tx_12 : List Value := [(.int (108 : Int32)), (.int (111 : Int32)), (.int (97 : Int32)), (.int (100 : Int32)), (.int (101 : Int32)), (.int (100 : Int32)), (.int (32 : Int32)), (.int (103 : Int32)), (.int (114 : Int32)), (.int (97 : Int32)), (.int (112 : Int32)), (.int (104 : Int32)), (.int (115 : Int32)), (.int (61 : Int32)), (.int (48 : Int32)), (.int (32 : Int32)), (.int (116 : Int32)), (.int (114 : Int32)), (.int (105 : Int32)), (.int (112 : Int32)), (.int (108 : Int32)), (.int (101 : Int32)), (.int (115 : Int32)), (.int (61 : Int32)), (.int (0 : Int32)), (.int (0 : Int32)), (.int (0 : Int32)), (.int (0 : Int32)), (.int (0 : Int32)), (.int (0 : Int32)), (.int (0 : Int32)), (.int (0 : Int32)), (.int (0 : Int32)), (.int (0 : Int32))]
def tx_13 : List Value := [(.int (108 : Int32)), (.int (111 : Int32)), (.int (97 : Int32)), (.int (100 : Int32)), (.int (101 : Int32)), (.int (100 : Int32)), (.int (32 : Int32)), (.int (103 : Int32)), (.int (114 : Int32)), (.int (97 : Int32)), (.int (112 : Int32)), (.int (104 : Int32)), (.int (115 : Int32)), (.int (61 : Int32)), (.int (48 : Int32)), (.int (32 : Int32)), (.int (116 : Int32)), (.int (114 : Int32)), (.int (105 : Int32)), (.int (112 : Int32)), (.int (108 : Int32)), (.int (101 : Int32)), (.int (115 : Int32)), (.int (61 : Int32)), (.int (48 : Int32)), (.int (0 : Int32)), (.int (0 : Int32)), (.int (0 : Int32)), (.int (0 : Int32)), (.int (0 : Int32)), (.int (0 : Int32)), (.int (0 : Int32)), (.int (0 : Int32)), (.int (0 : Int32))]
def tx_14 : List Value := [(.int (32 : Int32)), (.int (115 : Int32)), (.int (107 : Int32)), (.int (105 : Int32)), (.int (112 : Int32)), (.int (112 : Int32)), (.int (101 : Int32)), (.int (100 : Int32)), (.int (61 : Int32)), (.int (0 : Int32)), (.int (0 : Int32)), (.int (0 : Int32)), (.int (0 : Int32)), (.int (0 : Int32)), (.int (0 : Int32)), (.int (0 : Int32))]
def tx_15 : List Value := [(.int (32 : Int32)), (.int (115 : Int32)), (.int (107 : Int32)), (.int (105 : Int32)), (.int (112 : Int32)), (.int (112 : Int32)), (.int (101 : Int32)), (.int (100 : Int32)), (.int (61 : Int32)), (.int (48 : Int32)), (.int (0 : Int32)), (.int (0 : Int32)), (.int (0 : Int32)), (.int (0 : Int32)), (.int (0 : Int32)), (.int (0 : Int32))]
def tx_16 : List Value := [(.int (32 : Int32)), (.int (115 : Int32)), (.int (107 : Int32)), (.int (105 : Int32)), (.int (112 : Int32)), (.int (112 : Int32)), (.int (101 : Int32)), (.int (100 : Int32)), (.int (61 : Int32)), (.int (48 : Int32))]
def tx_17 : List Value := [(.int (108 : Int32)), (.int (111 : Int32)), (.int (97 : Int32)), (.int (100 : Int32)), (.int (101 : Int32)), (.int (100 : Int32)), (.int (32 : Int32)), (.int (103 : Int32)), (.int (114 : Int32)), (.int (97 : Int32)), (.int (112 : Int32)), (.int (104 : Int32)), (.int (115 : Int32)), (.int (61 : Int32)), (.int (48 : Int32)), (.int (32 : Int32)), (.int (116 : Int32)), (.int (114 : Int32)), (.int (105 : Int32)), (.int (112 : Int32)), (.int (108 : Int32)), (.int (101 : Int32)), (.int (115 : Int32)), (.int (61 : Int32)), (.int (48 : Int32)), (.int (0 : Int32)), (.int (0 : Int32)), (.int (0 : Int32)), (.int (0 : Int32)), (.int (0 : Int32)), (.int (0 : Int32)), (.int (0 : Int32)), (.int (0 : Int32)), (.int (0 : Int32)), (.int (0 : Int32)), (.int (0 : Int32)), (.int (0 : Int32)), (.int (0 : Int32)), (.int (0 : Int32)), (.int (0 : Int32)), (.int (0 : Int32)), (.int (0 : Int32)), (.int (0 : Int32)), (.int (0 : Int32)), (.int (0 : Int32)), (.int (0 : Int32)), (.int (0 : Int32)), (.int (0 : Int32)), (.int (0 : Int32)), (.int (0 : Int32)), (.int (0 : Int32)), (.int (0 : Int32)), (.int (0 : Int32)), (.int (0 : Int32)), (.int (0 : Int32)), (.int (0 : Int32)), (.int (0 : Int32)), (.int (0 : Int32)), (.int (0 : Int32)), (.int (0 : Int32)), (.int (0 : Int32)), (.int (0 : Int32)), (.int (0 : Int32)), (.int (0 : Int32)), (.int (0 : Int32)), (.int (0 : Int32)), (.int (0 : Int32)), (.int (0 : Int32)), (.int (0 : Int32)), (.int (0 : Int32))]
def tx_18 : List Value := [(.int (108 : Int32)), (.int (111 : Int32)), (.int (97 : Int32)), (.int (100 : Int32)), (.int (101 : Int32)), (.int (100 : Int32)), (.int (32 : Int32)), (.int (103 : Int32)), (.int (114 : Int32)), (.int (97 : Int32)), (.int (112 : Int32)), (.int (104 : Int32)), (.int (115 : Int32)), (.int (61 : Int32)), (.int (48 : Int32)), (.int (32 : Int32)), (.int (116 : Int32)), (.int (114 : Int32)), (.int (105 : Int32)), (.int (112 : Int32)), (.int (108 : Int32)), (.int (101 : Int32)), (.int (115 : Int32)), (.int (61 : Int32)), (.int (48 : Int32)), (.int (32 : Int32)), (.int (115 : Int32)), (.int (107 : Int32)), (.int (105 : Int32)), (.int (112 : Int32)), (.int (112 : Int32)), (.int (101 : Int32)), (.int (100 : Int32)), (.int (61 : Int32)), (.int (48 : Int32)), (.int (0 : Int32)), (.int (0 : Int32)), (.int (0 : Int32)), (.int (0 : Int32)), (.int (0 : Int32)), (.int (0 : Int32)), (.int (0 : Int32)), (.int (0 : Int32)), (.int (0 : Int32)), (.int (0 : Int32)), (.int (0 : Int32)), (.int (0 : Int32)), (.int (0 : Int32)), (.int (0 : Int32)), (.int (0 : Int32)), (.int (0 : Int32)), (.int (0 : Int32)), (.int (0 : Int32)), (.int (0 : Int32)), (.int (0 : Int32)), (.int (0 : Int32)), (.int (0 : Int32)), (.int (0 : Int32)), (.int (0 : Int32)), (.int (0 : Int32)), (.int (0 : Int32)), (.int (0 : Int32)), (.int (0 : Int32)), (.int (0 : Int32)), (.int (0 : Int32)), (.int (0 : Int32)), (.int (0 : Int32)), (.int (0 : Int32)), (.int (0 : Int32)), (.int (0 : Int32))]
def tx_19 : List Value := [(.int (32 : Int32)), (.int (100 : Int32)), (.int (101 : Int32)), (.int (114 : Int32)), (.int (105 : Int32)), (.int (118 : Int32)), (.int (101 : Int32)), (.int (100 : Int32)), (.int (61 : Int32)), (.int (0 : Int32)), (.int (0 : Int32)), (.int (0 : Int32)), (.int (0 : Int32)), (.int (0 : Int32)), (.int (0 : Int32)), (.int (0 : Int32))]
def tx_20 : List Value := [(.int (32 : Int32)), (.int (100 : Int32)), (.int (101 : Int32)), (.int (114 : Int32)), (.int (105 : Int32)), (.int (118 : Int32)), (.int (101 : Int32)), (.int (100 : Int32)), (.int (61 : Int32)), (.int (48 : Int32)), (.int (0 : Int32)), (.int (0 : Int32)), (.int (0 : Int32)), (.int (0 : Int32)), (.int (0 : Int32)), (.int (0 : Int32))]
def tx_21 : List Value := [(.int (32 : Int32)), (.int (100 : Int32)), (.int (101 : Int32)), (.int (114 : Int32)), (.int (105 : Int32)), (.int (118 : Int32)), (.int (101 : Int32)), (.int (100 : Int32)), (.int (61 : Int32)), (.int (48 : Int32))]
def tx_22 : List Value := [(.int (108 : Int32)), (.int (111 : Int32)), (.int (97 : Int32)), (.int (100 : Int32)), (.int (101 : Int32)), (.int (100 : Int32)), (.int (32 : Int32)), (.int (103 : Int32)), (.int (114 : Int32)), (.int (97 : Int32)), (.int (112 : Int32)), (.int (104 : Int32)), (.int (115 : Int32)), (.int (61 : Int32)), (.int (48 : Int32)), (.int (32 : Int32)), (.int (116 : Int32)), (.int (114 : Int32)), (.int (105 : Int32)), (.int (112 : Int32)), (.int (108 : Int32)), (.int (101 : Int32)), (.int (115 : Int32)), (.int (61 : Int32)), (.int (48 : Int32)), (.int (32 : Int32)), (.int (115 : Int32)), (.int (107 : Int32)), (.int (105 : Int32)), (.int (112 : Int32)), (.int (112 : Int32)), (.int (101 : Int32)), (.int (100 : Int32)), (.int (61 : Int32)), (.int (48 : Int32)), (.int (32 : Int32)), (.int (100 : Int32)), (.int (101 : Int32)), (.int (114 : Int32)), (.int (105 : Int32)), (.int (118 : Int32)), (.int (101 : Int32)), (.int (100 : Int32)), (.int (61 : Int32)), (.int (48 : Int32)), (.int (0 : Int32)), (.int (0 : Int32)), (.int (0 : Int32)), (.int (0 : Int32)), (.int (0 : Int32)), (.int (0 : Int32)), (.int (0 : Int32)), (.int (0 : Int32)), (.int (0 : Int32)), (.int (0 : Int32)), (.int (0 : Int32)), (.int (0 : Int32)), (.int (0 : Int32)), (.int (0 : Int32)), (.int (0 : Int32)), (.int (0 : Int32)), (.int (0 : Int32)), (.int (0 : Int32)), (.int (0 : Int32)), (.int (0 : Int32)), (.int (0 : Int32)), (.int (0 : Int32)), (.int (0 : Int32)), (.int (0 : Int32)), (.int (0 : Int32))]
theorem d8_0 : decode prog_24_method_8_code 0 = .ok (.new 36, 3) := by decide +kernel
theorem d8_3 : decode prog_24_method_8_code 3 = .ok (.dup, 1) := by decide +kernel
theorem pd_ocV : parseMethodDescriptor "()V" = some ⟨[], none⟩ := by decide +kernel
theorem d8_4 : decode prog_24_method_8_code 4 = .ok (.invokespecial 38, 3) := by decide +kernel
theorem d8_7 : decode prog_24_method_8_code 7 = .ok (.ldc 39, 2) := by decide +kernel
theorem pd_oLjava_lang_String_cLjava_lang_StringBuilder_ : parseMethodDescriptor "(Ljava/lang/String;)Ljava/lang/StringBuilder;" = some ⟨[(.object "java/lang/String")], some (.object "java/lang/StringBuilder")⟩ := by decide +kernel
theorem d8_9 : decode prog_24_method_8_code 9 = .ok (.invokevirtual 41, 3) := by decide +kernel
theorem d8_12 : decode prog_24_method_8_code 12 = .ok (.aload_n 0, 1) := by decide +kernel
theorem d8_13 : decode prog_24_method_8_code 13 = .ok (.getfield 13, 3) := by decide +kernel
theorem pd_oJcLjava_lang_StringBuilder_ : parseMethodDescriptor "(J)Ljava/lang/StringBuilder;" = some ⟨[.long], some (.object "java/lang/StringBuilder")⟩ := by decide +kernel
theorem d8_16 : decode prog_24_method_8_code 16 = .ok (.invokevirtual 45, 3) := by decide +kernel
theorem d8_19 : decode prog_24_method_8_code 19 = .ok (.ldc 48, 2) := by decide +kernel
theorem d8_21 : decode prog_24_method_8_code 21 = .ok (.invokevirtual 41, 3) := by decide +kernel
theorem d8_24 : decode prog_24_method_8_code 24 = .ok (.aload_n 0, 1) := by decide +kernel
theorem d8_25 : decode prog_24_method_8_code 25 = .ok (.getfield 17, 3) := by decide +kernel
theorem d8_28 : decode prog_24_method_8_code 28 = .ok (.invokevirtual 45, 3) := by decide +kernel
theorem d8_31 : decode prog_24_method_8_code 31 = .ok (.aload_n 0, 1) := by decide +kernel
theorem d8_32 : decode prog_24_method_8_code 32 = .ok (.getfield 7, 3) := by decide +kernel
theorem d8_35 : decode prog_24_method_8_code 35 = .ok (.getstatic 50, 3) := by decide +kernel
theorem d8_38 : decode prog_24_method_8_code 38 = .ok (.if_acmp .ne 28, 3) := by decide +kernel
theorem d8_41 : decode prog_24_method_8_code 41 = .ok (.new 36, 3) := by decide +kernel
theorem d8_44 : decode prog_24_method_8_code 44 = .ok (.dup, 1) := by decide +kernel
theorem d8_45 : decode prog_24_method_8_code 45 = .ok (.invokespecial 38, 3) := by decide +kernel
theorem d8_48 : decode prog_24_method_8_code 48 = .ok (.ldc 55, 2) := by decide +kernel
theorem d8_50 : decode prog_24_method_8_code 50 = .ok (.invokevirtual 41, 3) := by decide +kernel
theorem d8_53 : decode prog_24_method_8_code 53 = .ok (.aload_n 0, 1) := by decide +kernel
theorem d8_54 : decode prog_24_method_8_code 54 = .ok (.getfield 20, 3) := by decide +kernel
theorem d8_57 : decode prog_24_method_8_code 57 = .ok (.invokevirtual 45, 3) := by decide +kernel
theorem pd_ocLjava_lang_String_ : parseMethodDescriptor "()Ljava/lang/String;" = some ⟨[], some (.object "java/lang/String")⟩ := by decide +kernel
theorem d8_60 : decode prog_24_method_8_code 60 = .ok (.invokevirtual 57, 3) := by decide +kernel
theorem d8_63 : decode prog_24_method_8_code 63 = .ok (.goto 5, 3) := by decide +kernel
theorem d8_68 : decode prog_24_method_8_code 68 = .ok (.invokevirtual 41, 3) := by decide +kernel
theorem d8_71 : decode prog_24_method_8_code 71 = .ok (.iload_n 1, 1) := by decide +kernel
theorem d8_72 : decode prog_24_method_8_code 72 = .ok (.ifCond .eq 28, 3) := by decide +kernel
theorem d8_75 : decode prog_24_method_8_code 75 = .ok (.new 36, 3) := by decide +kernel
theorem d8_78 : decode prog_24_method_8_code 78 = .ok (.dup, 1) := by decide +kernel
theorem d8_79 : decode prog_24_method_8_code 79 = .ok (.invokespecial 38, 3) := by decide +kernel
theorem d8_82 : decode prog_24_method_8_code 82 = .ok (.ldc 63, 2) := by decide +kernel
theorem d8_84 : decode prog_24_method_8_code 84 = .ok (.invokevirtual 41, 3) := by decide +kernel
theorem d8_87 : decode prog_24_method_8_code 87 = .ok (.aload_n 0, 1) := by decide +kernel
theorem d8_88 : decode prog_24_method_8_code 88 = .ok (.getfield 23, 3) := by decide +kernel
theorem d8_91 : decode prog_24_method_8_code 91 = .ok (.invokevirtual 45, 3) := by decide +kernel
theorem d8_94 : decode prog_24_method_8_code 94 = .ok (.invokevirtual 57, 3) := by decide +kernel
theorem d8_97 : decode prog_24_method_8_code 97 = .ok (.goto 5, 3) := by decide +kernel
theorem d8_102 : decode prog_24_method_8_code 102 = .ok (.invokevirtual 41, 3) := by decide +kernel
theorem d8_105 : decode prog_24_method_8_code 105 = .ok (.invokevirtual 57, 3) := by decide +kernel
theorem d8_108 : decode prog_24_method_8_code 108 = .ok (.areturn, 1) := by decide +kernel
theorem pn_8 : plainName "com/example/known_origins/knownorigins/store/LoadCount" = true := by first | (simp [plainName, overriddenIn]; done) | decide +kernel
theorem ef_8 (m : MethodId) (x0 : Addr) (x1 : Int32) : entryFrame m #[(.ref x0), (.int x1)] 2 = mkF m 0 #[.val (.ref x0), .val (.int x1)] [] := by first | (simp [entryFrame, mkF, argsToLocals, Value.category]; done) | rfl
set_option maxRecDepth 65536 in
set_option maxHeartbeats 40000000 in
theorem line_11 (l : Launch) (Z : State) (a0 : Array Value) (hw : ∀ d ∈ tables_1, d.before a0 Z = true) (oc sk : Addr) (zc : Int32) (d1 : Addr) (cd : Cell) (h0 : Heap) (n0 : Nat) (Z0 : n0 ≤ h0.size) (B0 : LcS Z h0 oc sk 0 0 0 0) (S_SKIP : Sta Z h0 "com/example/known_origins/knownorigins/store/IfStored" "SKIP" "Lcom/example/known_origins/knownorigins/store/IfStored;" (.ref sk)) (S_CS : Sta Z h0 "java/lang/String" "COMPACT_STRINGS" "Z" (.int zc)) (hz : ¬ (zc = (0 : Int32))) (S_D1 : Sta Z h0 "java/lang/Integer" "DigitOnes" "[B" (.ref d1)) (Ad : Arr Z h0 d1 cd .byte) (hind : ¬ ((0 : Int32) < 0 ∨ cd.slots.size ≤ (0 : Int32).toNatClampNeg)) (hatd : cd.slots[(0 : Int32).toNatClampNeg]? = some (.int (48 : Int32))) :
    MH l Z (⟨"com/example/known_origins/knownorigins/store/LoadCount", "line", "(Z)Ljava/lang/String;"⟩ : MethodName) prog_24_method_8_code 2 (some (.object "java/lang/String")) ({ frames := 6, cells := 22, slots := 527, locals := 92 } : Room) #[(.ref oc), (.int (1 : Int32))] h0 (QU Z (45 : Int32) tx_3 h0 n0) := by
  intro ws
  refine MetFree.of_bodySF (plainFor_of_name pn_8) hisR ?_
  intro p e s m args below meth c s₁ Bd hml0 hP hK
  obtain ⟨rfl, hZ, hh, hCH⟩ := hP
  have hx := Bd.exec
  have hby := Bd.bytes
  have hml : c.maxLocals = 2 := hml0
  have hown : s.vm.findClass "com/example/known_origins/knownorigins/store/LoadCount" = some m.cls := findClass_of_methodNamed Bd.named
  have hnm := (name_of_methodNamed Bd.named Bd.method).1
  have X0 : Stand p l e ({ frames := 6, cells := 22, slots := 527, locals := 92 } : Room) s m #[(.ref oc), (.int (1 : Int32))] below meth c s₁ [] 0 0 := Stand.of_body Bd
  have e0 : s₁.heap = h0 := by rw [← hh, Bd.state]; rfl
  have N0 := Fr.nil n0
  have hSi : s.Since s.vm 0 := (State.WarmedH.refl s).since 0
  have Ch0 : CHr Z consts_1 s.vm h0 s.vm h0 := CHr.refl hCH
  have pre0 : ∀ t_, Steps p.tables e below (s₁.setTop (mkF m 0 #[.val (.ref oc), .val (.int (1 : Int32))] [])) t_ → Steps p.tables e below (s₁.setTop (entryFrame m #[(.ref oc), (.int (1 : Int32))] 2)) t_ := fun t_ k_ => castTop (ef_8 m oc (1 : Int32)) k_
  obtain ⟨T1, h1, X1, e1, E1, A1, D1, -, st1⟩ := newO X0 hx hZ hown (hw _ (M 58)) (hw _ (M 59)) (hw _ (M 60)) e0 (g := (mkF m 0 #[.val (.ref oc), .val (.int (1 : Int32))] [])) rfl (hb hby d8_0) (by decide) (by decide)
  obtain ⟨b1, g1⟩ : ∃ z, z = h0.size := ⟨_, rfl⟩
  rw [← g1] at A1 D1 st1
  have sz_b1 : h0.size ≤ b1 := Nat.le_trans (Keep.refl h0 []).1 (Nat.le_of_eq g1.symm)
  have g_b1 : n0 ≤ b1 := Nat.le_trans Z0 sz_b1
  have ne_d1_b1 : d1 ≠ b1 := Nat.ne_of_lt (Nat.lt_of_lt_of_le Ad.lt (Nat.le_of_eq g1.symm))
  have ne_oc_b1 : oc ≠ b1 := Nat.ne_of_lt (Nat.lt_of_lt_of_le B0.1.lt (Nat.le_of_eq g1.symm))
  have K1 : Keep h0 h1 [] := (Keep.refl h0 []).ext E1
  have F_value_b1 : Fld Z h1 b1 "java/lang/AbstractStringBuilder" "value" "[B" .null := D1 (Or.inl (hw _ (M 73))) (ty := (.array .byte)) (by decide)
  have F_coder_b1 : Fld Z h1 b1 "java/lang/AbstractStringBuilder" "coder" "B" (.int (0 : Int32)) := D1 (Or.inl (hw _ (M 75))) (ty := .byte) (by decide)
  have F_count_b1 : Fld Z h1 b1 "java/lang/AbstractStringBuilder" "count" "I" (.int (0 : Int32)) := D1 (Or.inl (hw _ (M 101))) (ty := .int) (by decide)
  have Ch1 : CHr Z consts_1 s.vm h0 s.vm h1 := Ch0.trans (CHr.ext E1 Ch0.1)
  have Sf1_b1 : Safe Z consts_1 s.vm h1 b1 := Safe.ext E1 Ch0.1 (Safe.new (Nat.le_of_eq g1.symm))
  have hkk1 : 0 ≤ h1.size := Nat.le_trans (Nat.zero_le _) E1.1
  obtain ⟨_, _, ⟨T2, L2, k2, n2⟩, -, X2, ⟨Lc2, hQ2, l2, y2, z2⟩, st2⟩ := X1.specialBack hx (y := (⟨"java/lang/StringBuilder", "<init>", "()V"⟩ : MethodName)) rfl hown (mvT hZ (hw _ (M 61))) (mvT hZ (hw _ (M 62))) (mvT hZ (hw _ (M 63))) (by decide) (backOf (W := 1) ((bInit l Z a0 hw zc b1 h1 n0 (Nat.le_trans Z0 K1.1) (S_CS.ext E1) hz A1 F_value_b1 F_coder_b1 F_count_b1 g_b1) []) hZ (hw _ (M 63)) (hw _ (M 60)) (by decide) (by decide)) (g := (mkF m 4 #[.val (.ref oc), .val (.int (1 : Int32))] [(.ref b1), (.ref b1)])) rfl (by rw [hml]; rfl) (Steps.refl _) (a := b1) (argsL := []) (rest := [(.ref b1)]) (lenOf pd_ocV rfl) rfl (by show 2 * 0 + _ ≤ _; exact Nat.le_of_eq rfl) (hb hby d8_4) (fun _ _ => ⟨rfl, e1, (by decide : 1 + 1 ≤ _), (by decide : 4 + 16 ≤ _)⟩)
  dsimp only [Pt.U, Pt.locs, Pt.cells, Pt.slots] at X2 l2 y2 z2 st2 hQ2
  subst l2 y2 z2
  obtain ⟨va2, kA2, rfl, N2q, Kq2, sz2q, Bq2⟩ := hQ2
  have sz_va2 : h0.size ≤ va2 := Nat.le_trans K1.1 sz2q
  have g_va2 : n0 ≤ va2 := Nat.le_trans Z0 sz_va2
  have ne_b1_va2 : b1 ≠ va2 := Nat.ne_of_lt (Nat.lt_of_lt_of_le A1.lt sz2q)
  have ne_d1_va2 : d1 ≠ va2 := Nat.ne_of_lt (Nat.lt_of_lt_of_le (Ad.ext E1).lt sz2q)
  have ne_oc_va2 : oc ≠ va2 := Nat.ne_of_lt (Nat.lt_of_lt_of_le (B0.1.ext E1).lt sz2q)
  have K2 : Keep h0 T2.heap [] := K1.trans Kq2 (allS (Or.inr sz_b1) all0)
  have Ch2 : CHr Z consts_1 s.vm h0 s.vm T2.heap := Ch1.trans (CHr.keep Kq2 (sfS Sf1_b1 sf0) Ch1.1)
  have Sf2_b1 : Safe Z consts_1 s.vm T2.heap b1 := Safe.keep Kq2 (sfS Sf1_b1 sf0) Ch1.1 Sf1_b1
  have Sf2_va2 : Safe Z consts_1 s.vm T2.heap va2 := Safe.keep Kq2 (sfS Sf1_b1 sf0) Ch1.1 (Safe.new sz2q)
  have hkk2 : 0 ≤ T2.heap.size := Nat.le_trans hkk1 Kq2.1
  have N2 := Fr.app N0 N2q
  obtain ⟨c3, T3, h3, k3, sb3, kS3, X3, e3, E3, hS3, hk3, hZ3, hown3, Es3, Fc3, Fv3, Va3, -, -, CR3, -, hn3, st3⟩ := ldcCH (s := s) (vm0 := s.vm) X2 hx hZ hown (hw _ (M 76)) (own_strA hw) rfl hSi hkk2 (own_EW hw) (List.mem_of_getElem? (i := 0) rfl) Ch2.1 lit_8 (z := (14 : Int32)) (by decide) (by rfl) (g := (mkF m 7 #[.val (.ref oc), .val (.int (1 : Int32))] [(.ref b1)])) rfl (hb hby d8_7) (n := 56) (by decide) (by decide) (by decide) (by decide)
  have K3 : Keep h0 h3 [] := K2.ext E3
  have Ch3 : CHr Z consts_1 s.vm h0 T3.vm h3 := Ch2.trans CR3
  have Sf3_b1 : Safe Z consts_1 T3.vm h3 b1 := CHr.safe CR3 Bq2.1.lt Sf2_b1
  have Sf3_va2 : Safe Z consts_1 T3.vm h3 va2 := CHr.safe CR3 Bq2.2.2.2.2.lt Sf2_va2
  obtain ⟨cq4, kq4, q4a, q4b, q4c⟩ := isOf hZ3 e3 (Bq2.1.ext E3)
  obtain ⟨_, _, ⟨T4, L4, k4, n4⟩, -, X4, ⟨Lc4, hQ4, l4, y4, z4⟩, st4⟩ := X3.virtualBack hx (y := (⟨"java/lang/StringBuilder", "append", "(Ljava/lang/String;)Ljava/lang/StringBuilder;"⟩ : MethodName)) (z := (⟨"java/lang/StringBuilder", "append", "(Ljava/lang/String;)Ljava/lang/StringBuilder;"⟩ : MethodName)) hown3 (mvT hZ3 (hw _ (M 77))) (mvT hZ3 (hw _ (M 78))) (notFace_of_selects (args := #[]) (mvT hZ3 (hw _ (M 80)))) (mvT hZ3 (hw _ (M 80))) (mvT hZ3 (hw _ (M 79))) (by decide) (backOf (W := 0) ((bAppN l Z a0 hw b1 va2 kA2 (16 : Int32) (0 : Int32) (List.replicate (16 : Int32).toNatClampNeg (.int (0 : Int32))) c3 sb3 kS3 (14 : Int32) tx_8 zc (14 : Int32) (-2 : Int32) tx_9 h3 n0 (Nat.le_trans Z0 K3.1) ⟨(Bq2.1.ext E3), (Bq2.2.1.ext E3), (Bq2.2.2.1.ext E3), (Bq2.2.2.2.1.ext E3), (Bq2.2.2.2.2.ext E3)⟩ ⟨Es3, Fc3, Fv3, Va3⟩ ((own_sta_keepN (S_CS.ext E1) Kq2 (nsS (A1.nostat) ns0)).ext E3) hz g_b1 g_va2 (Ne.symm (hn3 va2 Sf3_va2).2) (by decide) (by decide) (by decide) (by decide) (by decide) (Nat.le_of_ble_eq_true rfl) (Nat.le_of_ble_eq_true rfl) (by rfl)) []) hZ3 (hw _ (M 81)) (hw _ (M 60)) (by decide) (by decide)) q4a q4c (g := (mkF m 9 #[.val (.ref oc), .val (.int (1 : Int32))] [(.ref c3), (.ref b1)])) rfl (by rw [hml]; rfl) (Steps.refl _) (argsL := [(.ref c3)]) (rest := []) (lenOf pd_oLjava_lang_String_cLjava_lang_StringBuilder_ rfl) rfl (by show 2 * 0 + _ ≤ _; exact Nat.le_of_eq rfl) (hb hby d8_9) (fun _ _ => ⟨rfl, e3, (by decide : 4 + 0 ≤ _), (by decide : 80 + 0 ≤ _)⟩)
  dsimp only [Pt.U, Pt.locs, Pt.cells, Pt.slots] at X4 l4 y4 z4 st4 hQ4
  subst l4 y4 z4
  obtain ⟨vb4, kb4, rfl, N4q, Kq4, or4, gg4, Bq4⟩ := hQ4
  have sz_vb4 : h0.size ≤ vb4 := or4.elim (fun q => by rw [q]; exact sz_va2) (fun q => Nat.le_trans K3.1 q)
  have g_vb4 : n0 ≤ vb4 := gg4
  have Sn4 : Safe Z consts_1 T3.vm h3 vb4 := or4.elim (fun q => by rw [q]; exact Sf3_va2) (fun q => Safe.new q)
  have ne_b1_vb4 : b1 ≠ vb4 := or4.elim (fun q => by rw [q]; exact ne_b1_va2) (fun q => Nat.ne_of_lt (Nat.lt_of_lt_of_le (Bq2.1.ext E3).lt q))
  have ne_d1_vb4 : d1 ≠ vb4 := or4.elim (fun q => by rw [q]; exact ne_d1_va2) (fun q => Nat.ne_of_lt (Nat.lt_of_lt_of_le ((own_arr_keep (Ad.ext E1) Kq2 (ninS ne_d1_b1 nin0)).ext E3).lt q))
  have ne_oc_vb4 : oc ≠ vb4 := or4.elim (fun q => by rw [q]; exact ne_oc_va2) (fun q => Nat.ne_of_lt (Nat.lt_of_lt_of_le (((B0.1.ext E1).keep Kq2).ext E3).lt q))
  have K4 : Keep h0 T4.heap [] := K3.trans Kq4 (allS (Or.inr sz_b1) (allS (Or.inr sz_va2) all0))
  have Ch4 : CHr Z consts_1 s.vm h0 T3.vm T4.heap := Ch3.trans (CHr.keep Kq4 (sfS Sf3_b1 (sfS Sf3_va2 sf0)) Ch3.1)
  have Sf4_b1 : Safe Z consts_1 T3.vm T4.heap b1 := Safe.keep Kq4 (sfS Sf3_b1 (sfS Sf3_va2 sf0)) Ch3.1 Sf3_b1
  have Sf4_va2 : Safe Z consts_1 T3.vm T4.heap va2 := Safe.keep Kq4 (sfS Sf3_b1 (sfS Sf3_va2 sf0)) Ch3.1 Sf3_va2
  have Sf4_vb4 : Safe Z consts_1 T3.vm T4.heap vb4 := Safe.keep Kq4 (sfS Sf3_b1 (sfS Sf3_va2 sf0)) Ch3.1 Sn4
  have hkk4 : k3 ≤ T4.heap.size := Nat.le_trans hk3 Kq4.1
  have N4 := Fr.app N2 N4q
  have f5 := ((((B0.2.2.1.ext E1).keep Kq2 (ninS ne_oc_b1 nin0)).ext E3).keep Kq4 (ninS ne_oc_b1 (ninS ne_oc_va2 nin0)))
  obtain ⟨T6, X6, e6, st6⟩ := getF X4 hx hZ3 hown3 (host := "") (Or.inl (hw _ (M 17))) Via.refl rfl f5 (g := (mkF m 13 #[.val (.ref oc), .val (.int (1 : Int32))] [(.ref oc), (.ref b1)])) rfl rfl (hb hby d8_13)
  have f7 := (own_sta_keepN ((own_sta_keepN (S_CS.ext E1) Kq2 (nsS (A1.nostat) ns0)).ext E3) Kq4 (nsS ((Bq2.1.ext E3).nostat) (nsS ((Bq2.2.2.2.2.ext E3).nostat) ns0)))
  have f8 := (own_sta_keepN ((own_sta_keepN (S_D1.ext E1) Kq2 (nsS (A1.nostat) ns0)).ext E3) Kq4 (nsS ((Bq2.1.ext E3).nostat) (nsS ((Bq2.2.2.2.2.ext E3).nostat) ns0)))
  have f9 := (own_arr_keep ((own_arr_keep (Ad.ext E1) Kq2 (ninS ne_d1_b1 nin0)).ext E3) Kq4 (ninS ne_d1_b1 (ninS ne_d1_va2 nin0)))
  obtain ⟨cq10, kq10, q10a, q10b, q10c⟩ := isOf hZ3 e6 Bq4.1
  obtain ⟨_, _, ⟨T10, L10, k10, n10⟩, -, X10, ⟨Lc10, hQ10, l10, y10, z10⟩, st10⟩ := X6.virtualBack hx (y := (⟨"java/lang/StringBuilder", "append", "(J)Ljava/lang/StringBuilder;"⟩ : MethodName)) (z := (⟨"java/lang/StringBuilder", "append", "(J)Ljava/lang/StringBuilder;"⟩ : MethodName)) hown3 (mvT hZ3 (hw _ (M 127))) (mvT hZ3 (hw _ (M 128))) (notFace_of_selects (args := #[]) (mvT hZ3 (hw _ (M 130)))) (mvT hZ3 (hw _ (M 130))) (mvT hZ3 (hw _ (M 129))) (by decide) (backOf (W := 0) ((bAppJ l Z a0 hw b1 vb4 kb4 (16 : Int32) (14 : Int32) tx_9 zc (15 : Int32) (-1 : Int32) tx_10 d1 cd T4.heap n0 (Nat.le_trans Z0 K4.1) ⟨Bq4.1, Bq4.2.1, Bq4.2.2.1, Bq4.2.2.2.1, Bq4.2.2.2.2⟩ f7 hz g_b1 g_vb4 (by decide) (by decide) (by decide) f8 f9 hind hatd (by decide) (by decide) (Nat.le_of_ble_eq_true rfl) (by rfl)) []) hZ3 (hw _ (M 131)) (hw _ (M 60)) (by decide) (by decide)) q10a q10c (g := (mkF m 16 #[.val (.ref oc), .val (.int (1 : Int32))] [(.long (0 : Int64)), (.ref b1)])) rfl (by rw [hml]; rfl) (Steps.refl _) (argsL := [(.long (0 : Int64))]) (rest := []) (lenOf pd_oJcLjava_lang_StringBuilder_ rfl) rfl (by show 2 * 0 + _ ≤ _; exact Nat.le_of_eq rfl) (hb hby d8_16) (fun _ _ => ⟨rfl, e6, (by decide : 4 + 0 ≤ _), (by decide : 80 + 0 ≤ _)⟩)
  dsimp only [Pt.U, Pt.locs, Pt.cells, Pt.slots] at X10 l10 y10 z10 st10 hQ10
  subst l10 y10 z10
  obtain ⟨vb10, kb10, rfl, N10q, Kq10, or10, gg10, Bq10⟩ := hQ10
  have sz_vb10 : h0.size ≤ vb10 := or10.elim (fun q => by rw [q]; exact sz_vb4) (fun q => Nat.le_trans K4.1 q)
  have g_vb10 : n0 ≤ vb10 := gg10
  have Sn10 : Safe Z consts_1 T3.vm T4.heap vb10 := or10.elim (fun q => by rw [q]; exact Sf4_vb4) (fun q => Safe.new q)
  have ne_b1_vb10 : b1 ≠ vb10 := or10.elim (fun q => by rw [q]; exact ne_b1_vb4) (fun q => Nat.ne_of_lt (Nat.lt_of_lt_of_le Bq4.1.lt q))
  have ne_d1_vb10 : d1 ≠ vb10 := or10.elim (fun q => by rw [q]; exact ne_d1_vb4) (fun q => Nat.ne_of_lt (Nat.lt_of_lt_of_le f9.lt q))
  have ne_oc_vb10 : oc ≠ vb10 := or10.elim (fun q => by rw [q]; exact ne_oc_vb4) (fun q => Nat.ne_of_lt (Nat.lt_of_lt_of_le ((((B0.1.ext E1).keep Kq2).ext E3).keep Kq4).lt q))
  have K10 : Keep h0 T10.heap [] := K4.trans Kq10 (allS (Or.inr sz_b1) (allS (Or.inr sz_vb4) all0))
  have Ch10 : CHr Z consts_1 s.vm h0 T3.vm T10.heap := Ch4.trans (CHr.keep Kq10 (sfS Sf4_b1 (sfS Sf4_vb4 sf0)) Ch4.1)
  have Sf10_b1 : Safe Z consts_1 T3.vm T10.heap b1 := Safe.keep Kq10 (sfS Sf4_b1 (sfS Sf4_vb4 sf0)) Ch4.1 Sf4_b1
  have Sf10_vb4 : Safe Z consts_1 T3.vm T10.heap vb4 := Safe.keep Kq10 (sfS Sf4_b1 (sfS Sf4_vb4 sf0)) Ch4.1 Sf4_vb4
  have Sf10_vb10 : Safe Z consts_1 T3.vm T10.heap vb10 := Safe.keep Kq10 (sfS Sf4_b1 (sfS Sf4_vb4 sf0)) Ch4.1 Sn10
  have hkk10 : k3 ≤ T10.heap.size := Nat.le_trans hkk4 Kq10.1
  have N10 := Fr.app N4 N10q
  obtain ⟨c11, T11, h11, k11, sb11, kS11, X11, e11, E11, hS11, hk11, hZ11, hown11, Es11, Fc11, Fv11, Va11, -, -, CR11, -, hn11, st11⟩ := ldcCH (s := s) (vm0 := T3.vm) X10 hx hZ3 hown3 (hw _ (M 152)) (own_strA hw) rfl hS3 hkk10 (own_EW hw) (List.mem_of_getElem? (i := 1) rfl) Ch10.1 lit_7 (z := (9 : Int32)) (by decide) (by rfl) (g := (mkF m 19 #[.val (.ref oc), .val (.int (1 : Int32))] [(.ref b1)])) rfl (hb hby d8_19) (n := 36) (by decide) (by decide) (by decide) (by decide)
  have K11 : Keep h0 h11 [] := K10.ext E11
  have Ch11 : CHr Z consts_1 s.vm h0 T11.vm h11 := Ch10.trans CR11
  have Sf11_b1 : Safe Z consts_1 T11.vm h11 b1 := CHr.safe CR11 Bq10.1.lt Sf10_b1
  have Sf11_vb10 : Safe Z consts_1 T11.vm h11 vb10 := CHr.safe CR11 Bq10.2.2.2.2.lt Sf10_vb10
  obtain ⟨cq12, kq12, q12a, q12b, q12c⟩ := isOf hZ11 e11 (Bq10.1.ext E11)
  obtain ⟨_, _, ⟨T12, L12, k12, n12⟩, -, X12, ⟨Lc12, hQ12, l12, y12, z12⟩, st12⟩ := X11.virtualBack hx (y := (⟨"java/lang/StringBuilder", "append", "(Ljava/lang/String;)Ljava/lang/StringBuilder;"⟩ : MethodName)) (z := (⟨"java/lang/StringBuilder", "append", "(Ljava/lang/String;)Ljava/lang/StringBuilder;"⟩ : MethodName)) hown11 (mvT hZ11 (hw _ (M 77))) (mvT hZ11 (hw _ (M 78))) (notFace_of_selects (args := #[]) (mvT hZ11 (hw _ (M 80)))) (mvT hZ11 (hw _ (M 80))) (mvT hZ11 (hw _ (M 79))) (by decide) (backOf (W := 0) ((bAppG l Z a0 hw b1 vb10 kb10 (16 : Int32) (15 : Int32) tx_10 c11 sb11 kS11 (9 : Int32) tx_7 zc (24 : Int32) (8 : Int32) (18 : Int32) (34 : Int32) tx_11 tx_12 h11 n0 (Nat.le_trans Z0 K11.1) ⟨(Bq10.1.ext E11), (Bq10.2.1.ext E11), (Bq10.2.2.1.ext E11), (Bq10.2.2.2.1.ext E11), (Bq10.2.2.2.2.ext E11)⟩ ⟨Es11, Fc11, Fv11, Va11⟩ ((own_sta_keepN f7 Kq10 (nsS (Bq4.1.nostat) (nsS (Bq4.2.2.2.2.nostat) ns0))).ext E11) hz g_b1 g_vb10 (Ne.symm (hn11 vb10 Sf11_vb10).2) (by decide) (by decide) (by decide) (by decide) (by decide) (by decide) (by decide) (by decide) (by decide) (by decide) (by decide) (by decide) (Nat.le_of_ble_eq_true rfl) (by decide) (Nat.le_of_ble_eq_true rfl) (by decide) (by decide) (by rfl) (Nat.le_of_ble_eq_true rfl) (Nat.le_of_ble_eq_true rfl) (by rfl)) []) hZ11 (hw _ (M 81)) (hw _ (M 60)) (by decide) (by decide)) q12a q12c (g := (mkF m 21 #[.val (.ref oc), .val (.int (1 : Int32))] [(.ref c11), (.ref b1)])) rfl (by rw [hml]; rfl) (Steps.refl _) (argsL := [(.ref c11)]) (rest := []) (lenOf pd_oLjava_lang_String_cLjava_lang_StringBuilder_ rfl) rfl (by show 2 * 0 + _ ≤ _; exact Nat.le_of_eq rfl) (hb hby d8_21) (fun _ _ => ⟨rfl, e11, (by decide : 6 + 1 ≤ _), (by decide : 120 + 70 ≤ _)⟩)
  dsimp only [Pt.U, Pt.locs, Pt.cells, Pt.slots] at X12 l12 y12 z12 st12 hQ12
  subst l12 y12 z12
  obtain ⟨vb12, kb12, rfl, N12q, Kq12, or12, gg12, Bq12⟩ := hQ12
  have sz_vb12 : h0.size ≤ vb12 := or12.elim (fun q => by rw [q]; exact sz_vb10) (fun q => Nat.le_trans K11.1 q)
  have g_vb12 : n0 ≤ vb12 := gg12
  have Sn12 : Safe Z consts_1 T11.vm h11 vb12 := or12.elim (fun q => by rw [q]; exact Sf11_vb10) (fun q => Safe.new q)
  have ne_b1_vb12 : b1 ≠ vb12 := or12.elim (fun q => by rw [q]; exact ne_b1_vb10) (fun q => Nat.ne_of_lt (Nat.lt_of_lt_of_le (Bq10.1.ext E11).lt q))
  have ne_d1_vb12 : d1 ≠ vb12 := or12.elim (fun q => by rw [q]; exact ne_d1_vb10) (fun q => Nat.ne_of_lt (Nat.lt_of_lt_of_le ((own_arr_keep f9 Kq10 (ninS ne_d1_b1 (ninS ne_d1_vb4 nin0))).ext E11).lt q))
  have ne_oc_vb12 : oc ≠ vb12 := or12.elim (fun q => by rw [q]; exact ne_oc_vb10) (fun q => Nat.ne_of_lt (Nat.lt_of_lt_of_le ((((((B0.1.ext E1).keep Kq2).ext E3).keep Kq4).keep Kq10).ext E11).lt q))
  have K12 : Keep h0 T12.heap [] := K11.trans Kq12 (allS (Or.inr sz_b1) (allS (Or.inr sz_vb10) all0))
  have Ch12 : CHr Z consts_1 s.vm h0 T11.vm T12.heap := Ch11.trans (CHr.keep Kq12 (sfS Sf11_b1 (sfS Sf11_vb10 sf0)) Ch11.1)
  have Sf12_b1 : Safe Z consts_1 T11.vm T12.heap b1 := Safe.keep Kq12 (sfS Sf11_b1 (sfS Sf11_vb10 sf0)) Ch11.1 Sf11_b1
  have Sf12_vb10 : Safe Z consts_1 T11.vm T12.heap vb10 := Safe.keep Kq12 (sfS Sf11_b1 (sfS Sf11_vb10 sf0)) Ch11.1 Sf11_vb10
  have Sf12_vb12 : Safe Z consts_1 T11.vm T12.heap vb12 := Safe.keep Kq12 (sfS Sf11_b1 (sfS Sf11_vb10 sf0)) Ch11.1 Sn12
  have hkk12 : k11 ≤ T12.heap.size := Nat.le_trans hk11 Kq12.1
  have N12 := Fr.app N10 N12q
  have f13 := (((((((B0.2.2.2.1.ext E1).keep Kq2 (ninS ne_oc_b1 nin0)).ext E3).keep Kq4 (ninS ne_oc_b1 (ninS ne_oc_va2 nin0))).keep Kq10 (ninS ne_oc_b1 (ninS ne_oc_vb4 nin0))).ext E11).keep Kq12 (ninS ne_oc_b1 (ninS ne_oc_vb10 nin0)))
  obtain ⟨T14, X14, e14, st14⟩ := getF X12 hx hZ11 hown11 (host := "") (Or.inl (hw _ (M 19))) Via.refl rfl f13 (g := (mkF m 25 #[.val (.ref oc), .val (.int (1 : Int32))] [(.ref oc), (.ref b1)])) rfl rfl (hb hby d8_25)
  have f15 := (own_sta_keepN ((own_sta_keepN f7 Kq10 (nsS (Bq4.1.nostat) (nsS (Bq4.2.2.2.2.nostat) ns0))).ext E11) Kq12 (nsS ((Bq10.1.ext E11).nostat) (nsS ((Bq10.2.2.2.2.ext E11).nostat) ns0)))
  have f16 := (own_sta_keepN ((own_sta_keepN f8 Kq10 (nsS (Bq4.1.nostat) (nsS (Bq4.2.2.2.2.nostat) ns0))).ext E11) Kq12 (nsS ((Bq10.1.ext E11).nostat) (nsS ((Bq10.2.2.2.2.ext E11).nostat) ns0)))
  have f17 := (own_arr_keep ((own_arr_keep f9 Kq10 (ninS ne_d1_b1 (ninS ne_d1_vb4 nin0))).ext E11) Kq12 (ninS ne_d1_b1 (ninS ne_d1_vb10 nin0)))
  obtain ⟨cq18, kq18, q18a, q18b, q18c⟩ := isOf hZ11 e14 Bq12.1
  obtain ⟨_, _, ⟨T18, L18, k18, n18⟩, -, X18, ⟨Lc18, hQ18, l18, y18, z18⟩, st18⟩ := X14.virtualBack hx (y := (⟨"java/lang/StringBuilder", "append", "(J)Ljava/lang/StringBuilder;"⟩ : MethodName)) (z := (⟨"java/lang/StringBuilder", "append", "(J)Ljava/lang/StringBuilder;"⟩ : MethodName)) hown11 (mvT hZ11 (hw _ (M 127))) (mvT hZ11 (hw _ (M 128))) (notFace_of_selects (args := #[]) (mvT hZ11 (hw _ (M 130)))) (mvT hZ11 (hw _ (M 130))) (mvT hZ11 (hw _ (M 129))) (by decide) (backOf (W := 0) ((bAppJ l Z a0 hw b1 vb12 kb12 (34 : Int32) (24 : Int32) tx_12 zc (25 : Int32) (-9 : Int32) tx_13 d1 cd T12.heap n0 (Nat.le_trans Z0 K12.1) ⟨Bq12.1, Bq12.2.1, Bq12.2.2.1, Bq12.2.2.2.1, Bq12.2.2.2.2⟩ f15 hz g_b1 g_vb12 (by decide) (by decide) (by decide) f16 f17 hind hatd (by decide) (by decide) (Nat.le_of_ble_eq_true rfl) (by rfl)) []) hZ11 (hw _ (M 131)) (hw _ (M 60)) (by decide) (by decide)) q18a q18c (g := (mkF m 28 #[.val (.ref oc), .val (.int (1 : Int32))] [(.long (0 : Int64)), (.ref b1)])) rfl (by rw [hml]; rfl) (Steps.refl _) (argsL := [(.long (0 : Int64))]) (rest := []) (lenOf pd_oJcLjava_lang_StringBuilder_ rfl) rfl (by show 2 * 0 + _ ≤ _; exact Nat.le_of_eq rfl) (hb hby d8_28) (fun _ _ => ⟨rfl, e14, (by decide : 7 + 0 ≤ _), (by decide : 190 + 0 ≤ _)⟩)
  dsimp only [Pt.U, Pt.locs, Pt.cells, Pt.slots] at X18 l18 y18 z18 st18 hQ18
  subst l18 y18 z18
  obtain ⟨vb18, kb18, rfl, N18q, Kq18, or18, gg18, Bq18⟩ := hQ18
  have sz_vb18 : h0.size ≤ vb18 := or18.elim (fun q => by rw [q]; exact sz_vb12) (fun q => Nat.le_trans K12.1 q)
  have g_vb18 : n0 ≤ vb18 := gg18
  have Sn18 : Safe Z consts_1 T11.vm T12.heap vb18 := or18.elim (fun q => by rw [q]; exact Sf12_vb12) (fun q => Safe.new q)
  have ne_b1_vb18 : b1 ≠ vb18 := or18.elim (fun q => by rw [q]; exact ne_b1_vb12) (fun q => Nat.ne_of_lt (Nat.lt_of_lt_of_le Bq12.1.lt q))
  have ne_d1_vb18 : d1 ≠ vb18 := or18.elim (fun q => by rw [q]; exact ne_d1_vb12) (fun q => Nat.ne_of_lt (Nat.lt_of_lt_of_le f17.lt q))
  have ne_oc_vb18 : oc ≠ vb18 := or18.elim (fun q => by rw [q]; exact ne_oc_vb12) (fun q => Nat.ne_of_lt (Nat.lt_of_lt_of_le (((((((B0.1.ext E1).keep Kq2).ext E3).keep Kq4).keep Kq10).ext E11).keep Kq12).lt q))
  have K18 : Keep h0 T18.heap [] := K12.trans Kq18 (allS (Or.inr sz_b1) (allS (Or.inr sz_vb12) all0))
  have Ch18 : CHr Z consts_1 s.vm h0 T11.vm T18.heap := Ch12.trans (CHr.keep Kq18 (sfS Sf12_b1 (sfS Sf12_vb12 sf0)) Ch12.1)
  have Sf18_b1 : Safe Z consts_1 T11.vm T18.heap b1 := Safe.keep Kq18 (sfS Sf12_b1 (sfS Sf12_vb12 sf0)) Ch12.1 Sf12_b1
  have Sf18_vb12 : Safe Z consts_1 T11.vm T18.heap vb12 := Safe.keep Kq18 (sfS Sf12_b1 (sfS Sf12_vb12 sf0)) Ch12.1 Sf12_vb12
  have Sf18_vb18 : Safe Z consts_1 T11.vm T18.heap vb18 := Safe.keep Kq18 (sfS Sf12_b1 (sfS Sf12_vb12 sf0)) Ch12.1 Sn18
  have hkk18 : k11 ≤ T18.heap.size := Nat.le_trans hkk12 Kq18.1
  have N18 := Fr.app N12 N18q
  have f19 := ((((((((B0.2.1.ext E1).keep Kq2 (ninS ne_oc_b1 nin0)).ext E3).keep Kq4 (ninS ne_oc_b1 (ninS ne_oc_va2 nin0))).keep Kq10 (ninS ne_oc_b1 (ninS ne_oc_vb4 nin0))).ext E11).keep Kq12 (ninS ne_oc_b1 (ninS ne_oc_vb10 nin0))).keep Kq18 (ninS ne_oc_b1 (ninS ne_oc_vb12 nin0)))
  obtain ⟨T20, X20, e20, st20⟩ := getF X18 hx hZ11 hown11 (host := "") (Or.inl (hw _ (M 15))) Via.refl rfl f19 (g := (mkF m 32 #[.val (.ref oc), .val (.int (1 : Int32))] [(.ref oc), (.ref b1)])) rfl rfl (hb hby d8_32)
  have f21 := (own_sta_keepN (own_sta_keepN ((own_sta_keepN (own_sta_keepN ((own_sta_keepN (S_SKIP.ext E1) Kq2 (nsS (A1.nostat) ns0)).ext E3) Kq4 (nsS ((Bq2.1.ext E3).nostat) (nsS ((Bq2.2.2.2.2.ext E3).nostat) ns0))) Kq10 (nsS (Bq4.1.nostat) (nsS (Bq4.2.2.2.2.nostat) ns0))).ext E11) Kq12 (nsS ((Bq10.1.ext E11).nostat) (nsS ((Bq10.2.2.2.2.ext E11).nostat) ns0))) Kq18 (nsS (Bq12.1.nostat) (nsS (Bq12.2.2.2.2.nostat) ns0)))
  obtain ⟨T22, X22, e22, st22⟩ := getS2 X20 hx hZ11 hown11 (host := "") (Or.inl (hw _ (M 176))) Via.refl e20 f21 (g := (mkF m 35 #[.val (.ref oc), .val (.int (1 : Int32))] [(.ref sk), (.ref b1)])) rfl (hb hby d8_35)
  obtain ⟨T23, h23, X23, e23, E23, A23, D23, -, st23⟩ := newO X22 hx hZ11 hown11 (hw _ (M 58)) (hw _ (M 59)) (hw _ (M 60)) e22 (g := (mkF m 41 #[.val (.ref oc), .val (.int (1 : Int32))] [(.ref b1)])) rfl (hb hby d8_41) (by decide) (by decide)
  obtain ⟨b23, g23⟩ : ∃ z, z = T18.heap.size := ⟨_, rfl⟩
  rw [← g23] at A23 D23 st23
  have sz_b23 : h0.size ≤ b23 := Nat.le_trans K18.1 (Nat.le_of_eq g23.symm)
  have g_b23 : n0 ≤ b23 := Nat.le_trans Z0 sz_b23
  have ne_b1_b23 : b1 ≠ b23 := Nat.ne_of_lt (Nat.lt_of_lt_of_le Bq18.1.lt (Nat.le_of_eq g23.symm))
  have ne_d1_b23 : d1 ≠ b23 := Nat.ne_of_lt (Nat.lt_of_lt_of_le (own_arr_keep f17 Kq18 (ninS ne_d1_b1 (ninS ne_d1_vb12 nin0))).lt (Nat.le_of_eq g23.symm))
  have ne_oc_b23 : oc ≠ b23 := Nat.ne_of_lt (Nat.lt_of_lt_of_le ((((((((B0.1.ext E1).keep Kq2).ext E3).keep Kq4).keep Kq10).ext E11).keep Kq12).keep Kq18).lt (Nat.le_of_eq g23.symm))
  have ne_vb18_b23 : vb18 ≠ b23 := Nat.ne_of_lt (Nat.lt_of_lt_of_le Bq18.2.2.2.2.lt (Nat.le_of_eq g23.symm))
  have K23 : Keep h0 h23 [] := K18.ext E23
  have F_value_b23 : Fld Z h23 b23 "java/lang/AbstractStringBuilder" "value" "[B" .null := D23 (Or.inl (hw _ (M 73))) (ty := (.array .byte)) (by decide)
  have F_coder_b23 : Fld Z h23 b23 "java/lang/AbstractStringBuilder" "coder" "B" (.int (0 : Int32)) := D23 (Or.inl (hw _ (M 75))) (ty := .byte) (by decide)
  have F_count_b23 : Fld Z h23 b23 "java/lang/AbstractStringBuilder" "count" "I" (.int (0 : Int32)) := D23 (Or.inl (hw _ (M 101))) (ty := .int) (by decide)
  have Ch23 : CHr Z consts_1 s.vm h0 T11.vm h23 := Ch18.trans (CHr.ext E23 Ch18.1)
  have Sf23_b1 : Safe Z consts_1 T11.vm h23 b1 := Safe.ext E23 Ch18.1 Sf18_b1
  have Sf23_vb18 : Safe Z consts_1 T11.vm h23 vb18 := Safe.ext E23 Ch18.1 Sf18_vb18
  have Sf23_b23 : Safe Z consts_1 T11.vm h23 b23 := Safe.ext E23 Ch18.1 (Safe.new (Nat.le_of_eq g23.symm))
  have hkk23 : k11 ≤ h23.size := Nat.le_trans hkk18 E23.1
  obtain ⟨_, _, ⟨T24, L24, k24, n24⟩, -, X24, ⟨Lc24, hQ24, l24, y24, z24⟩, st24⟩ := X23.specialBack hx (y := (⟨"java/lang/StringBuilder", "<init>", "()V"⟩ : MethodName)) rfl hown11 (mvT hZ11 (hw _ (M 61))) (mvT hZ11 (hw _ (M 62))) (mvT hZ11 (hw _ (M 63))) (by decide) (backOf (W := 2) ((bInit l Z a0 hw zc b23 h23 n0 (Nat.le_trans Z0 K23.1) ((own_sta_keepN f15 Kq18 (nsS (Bq12.1.nostat) (nsS (Bq12.2.2.2.2.nostat) ns0))).ext E23) hz A23 F_value_b23 F_coder_b23 F_count_b23 g_b23) []) hZ11 (hw _ (M 63)) (hw _ (M 60)) (by decide) (by decide)) (g := (mkF m 45 #[.val (.ref oc), .val (.int (1 : Int32))] [(.ref b23), (.ref b23), (.ref b1)])) rfl (by rw [hml]; rfl) (Steps.refl _) (a := b23) (argsL := []) (rest := [(.ref b23), (.ref b1)]) (lenOf pd_ocV rfl) rfl (by show 2 * 0 + _ ≤ _; exact Nat.le_of_eq rfl) (hb hby d8_45) (fun _ _ => ⟨rfl, e23, (by decide : 8 + 1 ≤ _), (by decide : 194 + 16 ≤ _)⟩)
  dsimp only [Pt.U, Pt.locs, Pt.cells, Pt.slots] at X24 l24 y24 z24 st24 hQ24
  subst l24 y24 z24
  have f25 := (((((((((B0.1.ext E1).keep Kq2).ext E3).keep Kq4).keep Kq10).ext E11).keep Kq12).keep Kq18).ext E23)
  obtain ⟨va24, kA24, rfl, N24q, Kq24, sz24q, Bq24⟩ := hQ24
  have sz_va24 : h0.size ≤ va24 := Nat.le_trans K23.1 sz24q
  have g_va24 : n0 ≤ va24 := Nat.le_trans Z0 sz_va24
  have ne_b1_va24 : b1 ≠ va24 := Nat.ne_of_lt (Nat.lt_of_lt_of_le (Bq18.1.ext E23).lt sz24q)
  have ne_b23_va24 : b23 ≠ va24 := Nat.ne_of_lt (Nat.lt_of_lt_of_le A23.lt sz24q)
  have ne_d1_va24 : d1 ≠ va24 := Nat.ne_of_lt (Nat.lt_of_lt_of_le ((own_arr_keep f17 Kq18 (ninS ne_d1_b1 (ninS ne_d1_vb12 nin0))).ext E23).lt sz24q)
  have ne_oc_va24 : oc ≠ va24 := Nat.ne_of_lt (Nat.lt_of_lt_of_le f25.lt sz24q)
  have ne_vb18_va24 : vb18 ≠ va24 := Nat.ne_of_lt (Nat.lt_of_lt_of_le (Bq18.2.2.2.2.ext E23).lt sz24q)
  have K24 : Keep h0 T24.heap [] := K23.trans Kq24 (allS (Or.inr sz_b23) all0)
  have Ch24 : CHr Z consts_1 s.vm h0 T11.vm T24.heap := Ch23.trans (CHr.keep Kq24 (sfS Sf23_b23 sf0) Ch23.1)
  have Sf24_b1 : Safe Z consts_1 T11.vm T24.heap b1 := Safe.keep Kq24 (sfS Sf23_b23 sf0) Ch23.1 Sf23_b1
  have Sf24_vb18 : Safe Z consts_1 T11.vm T24.heap vb18 := Safe.keep Kq24 (sfS Sf23_b23 sf0) Ch23.1 Sf23_vb18
  have Sf24_b23 : Safe Z consts_1 T11.vm T24.heap b23 := Safe.keep Kq24 (sfS Sf23_b23 sf0) Ch23.1 Sf23_b23
  have Sf24_va24 : Safe Z consts_1 T11.vm T24.heap va24 := Safe.keep Kq24 (sfS Sf23_b23 sf0) Ch23.1 (Safe.new sz24q)
  have hkk24 : k11 ≤ T24.heap.size := Nat.le_trans hkk23 Kq24.1
  have N24 := Fr.app N18 N24q
  have f27 := (own_arr_keep ((own_arr_keep f17 Kq18 (ninS ne_d1_b1 (ninS ne_d1_vb12 nin0))).ext E23) Kq24 (ninS ne_d1_b23 nin0))
  obtain ⟨c26, T26, h26, k26, sb26, kS26, X26, e26, E26, hS26, hk26, hZ26, hown26, Es26, Fc26, Fv26, Va26, -, -, CR26, -, hn26, st26⟩ := ldcCH (s := s) (vm0 := T11.vm) X24 hx hZ11 hown11 (hw _ (M 235)) (own_strA hw) rfl hS11 hkk24 (own_EW hw) (List.mem_of_getElem? (i := 2) rfl) Ch24.1 lit_6 (z := (9 : Int32)) (by decide) (by rfl) (g := (mkF m 48 #[.val (.ref oc), .val (.int (1 : Int32))] [(.ref b23), (.ref b1)])) rfl (hb hby d8_48) (n := 36) (by decide) (by decide) (by decide) (by decide)
  have K26 : Keep h0 h26 [] := K24.ext E26
  have Ch26 : CHr Z consts_1 s.vm h0 T26.vm h26 := Ch24.trans CR26
  have Sf26_b1 : Safe Z consts_1 T26.vm h26 b1 := CHr.safe CR26 ((Bq18.1.ext E23).keep Kq24).lt Sf24_b1
  have Sf26_vb18 : Safe Z consts_1 T26.vm h26 vb18 := CHr.safe CR26 ((Bq18.2.2.2.2.ext E23).keep Kq24 (ninS ne_vb18_b23 nin0)).lt Sf24_vb18
  have Sf26_b23 : Safe Z consts_1 T26.vm h26 b23 := CHr.safe CR26 Bq24.1.lt Sf24_b23
  have Sf26_va24 : Safe Z consts_1 T26.vm h26 va24 := CHr.safe CR26 Bq24.2.2.2.2.lt Sf24_va24
  have f28 := ((own_sta_keepN ((own_sta_keepN f15 Kq18 (nsS (Bq12.1.nostat) (nsS (Bq12.2.2.2.2.nostat) ns0))).ext E23) Kq24 (nsS (A23.nostat) ns0)).ext E26)
  obtain ⟨cq29, kq29, q29a, q29b, q29c⟩ := isOf hZ26 e26 (Bq24.1.ext E26)
  obtain ⟨_, _, ⟨T29, L29, k29, n29⟩, -, X29, ⟨Lc29, hQ29, l29, y29, z29⟩, st29⟩ := X26.virtualBack hx (y := (⟨"java/lang/StringBuilder", "append", "(Ljava/lang/String;)Ljava/lang/StringBuilder;"⟩ : MethodName)) (z := (⟨"java/lang/StringBuilder", "append", "(Ljava/lang/String;)Ljava/lang/StringBuilder;"⟩ : MethodName)) hown26 (mvT hZ26 (hw _ (M 77))) (mvT hZ26 (hw _ (M 78))) (notFace_of_selects (args := #[]) (mvT hZ26 (hw _ (M 80)))) (mvT hZ26 (hw _ (M 80))) (mvT hZ26 (hw _ (M 79))) (by decide) (backOf (W := 1) ((bAppN l Z a0 hw b23 va24 kA24 (16 : Int32) (0 : Int32) (List.replicate (16 : Int32).toNatClampNeg (.int (0 : Int32))) c26 sb26 kS26 (9 : Int32) tx_6 zc (9 : Int32) (-7 : Int32) tx_14 h26 n0 (Nat.le_trans Z0 K26.1) ⟨(Bq24.1.ext E26), (Bq24.2.1.ext E26), (Bq24.2.2.1.ext E26), (Bq24.2.2.2.1.ext E26), (Bq24.2.2.2.2.ext E26)⟩ ⟨Es26, Fc26, Fv26, Va26⟩ f28 hz g_b23 g_va24 (Ne.symm (hn26 va24 Sf26_va24).2) (by decide) (by decide) (by decide) (by decide) (by decide) (Nat.le_of_ble_eq_true rfl) (Nat.le_of_ble_eq_true rfl) (by rfl)) []) hZ26 (hw _ (M 81)) (hw _ (M 60)) (by decide) (by decide)) q29a q29c (g := (mkF m 50 #[.val (.ref oc), .val (.int (1 : Int32))] [(.ref c26), (.ref b23), (.ref b1)])) rfl (by rw [hml]; rfl) (Steps.refl _) (argsL := [(.ref c26)]) (rest := [(.ref b1)]) (lenOf pd_oLjava_lang_String_cLjava_lang_StringBuilder_ rfl) rfl (by show 2 * 0 + _ ≤ _; exact Nat.le_of_eq rfl) (hb hby d8_50) (fun _ _ => ⟨rfl, e26, (by decide : 11 + 0 ≤ _), (by decide : 250 + 0 ≤ _)⟩)
  dsimp only [Pt.U, Pt.locs, Pt.cells, Pt.slots] at X29 l29 y29 z29 st29 hQ29
  subst l29 y29 z29
  obtain ⟨vb29, kb29, rfl, N29q, Kq29, or29, gg29, Bq29⟩ := hQ29
  have sz_vb29 : h0.size ≤ vb29 := or29.elim (fun q => by rw [q]; exact sz_va24) (fun q => Nat.le_trans K26.1 q)
  have g_vb29 : n0 ≤ vb29 := gg29
  have Sn29 : Safe Z consts_1 T26.vm h26 vb29 := or29.elim (fun q => by rw [q]; exact Sf26_va24) (fun q => Safe.new q)
  have ne_b1_vb29 : b1 ≠ vb29 := or29.elim (fun q => by rw [q]; exact ne_b1_va24) (fun q => Nat.ne_of_lt (Nat.lt_of_lt_of_le (((Bq18.1.ext E23).keep Kq24).ext E26).lt q))
  have ne_b23_vb29 : b23 ≠ vb29 := or29.elim (fun q => by rw [q]; exact ne_b23_va24) (fun q => Nat.ne_of_lt (Nat.lt_of_lt_of_le (Bq24.1.ext E26).lt q))
  have ne_d1_vb29 : d1 ≠ vb29 := or29.elim (fun q => by rw [q]; exact ne_d1_va24) (fun q => Nat.ne_of_lt (Nat.lt_of_lt_of_le (f27.ext E26).lt q))
  have ne_oc_vb29 : oc ≠ vb29 := or29.elim (fun q => by rw [q]; exact ne_oc_va24) (fun q => Nat.ne_of_lt (Nat.lt_of_lt_of_le ((f25.keep Kq24).ext E26).lt q))
  have ne_vb18_vb29 : vb18 ≠ vb29 := or29.elim (fun q => by rw [q]; exact ne_vb18_va24) (fun q => Nat.ne_of_lt (Nat.lt_of_lt_of_le (((Bq18.2.2.2.2.ext E23).keep Kq24 (ninS ne_vb18_b23 nin0)).ext E26).lt q))
  have K29 : Keep h0 T29.heap [] := K26.trans Kq29 (allS (Or.inr sz_b23) (allS (Or.inr sz_va24) all0))
  have Ch29 : CHr Z consts_1 s.vm h0 T26.vm T29.heap := Ch26.trans (CHr.keep Kq29 (sfS Sf26_b23 (sfS Sf26_va24 sf0)) Ch26.1)
  have Sf29_b1 : Safe Z consts_1 T26.vm T29.heap b1 := Safe.keep Kq29 (sfS Sf26_b23 (sfS Sf26_va24 sf0)) Ch26.1 Sf26_b1
  have Sf29_vb18 : Safe Z consts_1 T26.vm T29.heap vb18 := Safe.keep Kq29 (sfS Sf26_b23 (sfS Sf26_va24 sf0)) Ch26.1 Sf26_vb18
  have Sf29_b23 : Safe Z consts_1 T26.vm T29.heap b23 := Safe.keep Kq29 (sfS Sf26_b23 (sfS Sf26_va24 sf0)) Ch26.1 Sf26_b23
  have Sf29_va24 : Safe Z consts_1 T26.vm T29.heap va24 := Safe.keep Kq29 (sfS Sf26_b23 (sfS Sf26_va24 sf0)) Ch26.1 Sf26_va24
  have Sf29_vb29 : Safe Z consts_1 T26.vm T29.heap vb29 := Safe.keep Kq29 (sfS Sf26_b23 (sfS Sf26_va24 sf0)) Ch26.1 Sn29
  have hkk29 : k26 ≤ T29.heap.size := Nat.le_trans hk26 Kq29.1
  have N29 := Fr.app N24 N29q
  have f30 := ((((((((((((B0.2.2.2.2.1.ext E1).keep Kq2 (ninS ne_oc_b1 nin0)).ext E3).keep Kq4 (ninS ne_oc_b1 (ninS ne_oc_va2 nin0))).keep Kq10 (ninS ne_oc_b1 (ninS ne_oc_vb4 nin0))).ext E11).keep Kq12 (ninS ne_oc_b1 (ninS ne_oc_vb10 nin0))).keep Kq18 (ninS ne_oc_b1 (ninS ne_oc_vb12 nin0))).ext E23).keep Kq24 (ninS ne_oc_b23 nin0)).ext E26).keep Kq29 (ninS ne_oc_b23 (ninS ne_oc_va24 nin0)))
  obtain ⟨T31, X31, e31, st31⟩ := getF X29 hx hZ26 hown26 (host := "") (Or.inl (hw _ (M 21))) Via.refl rfl f30 (g := (mkF m 54 #[.val (.ref oc), .val (.int (1 : Int32))] [(.ref oc), (.ref b23), (.ref b1)])) rfl rfl (hb hby d8_54)
  have f32 := (own_sta_keepN f28 Kq29 (nsS ((Bq24.1.ext E26).nostat) (nsS ((Bq24.2.2.2.2.ext E26).nostat) ns0)))
  have f33 := (own_sta_keepN ((own_sta_keepN ((own_sta_keepN f16 Kq18 (nsS (Bq12.1.nostat) (nsS (Bq12.2.2.2.2.nostat) ns0))).ext E23) Kq24 (nsS (A23.nostat) ns0)).ext E26) Kq29 (nsS ((Bq24.1.ext E26).nostat) (nsS ((Bq24.2.2.2.2.ext E26).nostat) ns0)))
  obtain ⟨cq34, kq34, q34a, q34b, q34c⟩ := isOf hZ26 e31 Bq29.1
  obtain ⟨_, _, ⟨T34, L34, k34, n34⟩, -, X34, ⟨Lc34, hQ34, l34, y34, z34⟩, st34⟩ := X31.virtualBack hx (y := (⟨"java/lang/StringBuilder", "append", "(J)Ljava/lang/StringBuilder;"⟩ : MethodName)) (z := (⟨"java/lang/StringBuilder", "append", "(J)Ljava/lang/StringBuilder;"⟩ : MethodName)) hown26 (mvT hZ26 (hw _ (M 127))) (mvT hZ26 (hw _ (M 128))) (notFace_of_selects (args := #[]) (mvT hZ26 (hw _ (M 130)))) (mvT hZ26 (hw _ (M 130))) (mvT hZ26 (hw _ (M 129))) (by decide) (backOf (W := 1) ((bAppJ l Z a0 hw b23 vb29 kb29 (16 : Int32) (9 : Int32) tx_14 zc (10 : Int32) (-6 : Int32) tx_15 d1 cd T29.heap n0 (Nat.le_trans Z0 K29.1) ⟨Bq29.1, Bq29.2.1, Bq29.2.2.1, Bq29.2.2.2.1, Bq29.2.2.2.2⟩ f32 hz g_b23 g_vb29 (by decide) (by decide) (by decide) f33 (own_arr_keep (f27.ext E26) Kq29 (ninS ne_d1_b23 (ninS ne_d1_va24 nin0))) hind hatd (by decide) (by decide) (Nat.le_of_ble_eq_true rfl) (by rfl)) []) hZ26 (hw _ (M 131)) (hw _ (M 60)) (by decide) (by decide)) q34a q34c (g := (mkF m 57 #[.val (.ref oc), .val (.int (1 : Int32))] [(.long (0 : Int64)), (.ref b23), (.ref b1)])) rfl (by rw [hml]; rfl) (Steps.refl _) (argsL := [(.long (0 : Int64))]) (rest := [(.ref b1)]) (lenOf pd_oJcLjava_lang_StringBuilder_ rfl) rfl (by show 2 * 0 + _ ≤ _; exact Nat.le_of_eq rfl) (hb hby d8_57) (fun _ _ => ⟨rfl, e31, (by decide : 11 + 0 ≤ _), (by decide : 250 + 0 ≤ _)⟩)
  dsimp only [Pt.U, Pt.locs, Pt.cells, Pt.slots] at X34 l34 y34 z34 st34 hQ34
  subst l34 y34 z34
  have f35 := ((((Bq18.2.2.2.2.ext E23).keep Kq24 (ninS ne_vb18_b23 nin0)).ext E26).keep Kq29 (ninS ne_vb18_b23 (ninS ne_vb18_va24 nin0)))
  obtain ⟨vb34, kb34, rfl, N34q, Kq34, or34, gg34, Bq34⟩ := hQ34
  have sz_vb34 : h0.size ≤ vb34 := or34.elim (fun q => by rw [q]; exact sz_vb29) (fun q => Nat.le_trans K29.1 q)
  have g_vb34 : n0 ≤ vb34 := gg34
  have Sn34 : Safe Z consts_1 T26.vm T29.heap vb34 := or34.elim (fun q => by rw [q]; exact Sf29_vb29) (fun q => Safe.new q)
  have ne_b1_vb34 : b1 ≠ vb34 := or34.elim (fun q => by rw [q]; exact ne_b1_vb29) (fun q => Nat.ne_of_lt (Nat.lt_of_lt_of_le ((((Bq18.1.ext E23).keep Kq24).ext E26).keep Kq29).lt q))
  have ne_b23_vb34 : b23 ≠ vb34 := or34.elim (fun q => by rw [q]; exact ne_b23_vb29) (fun q => Nat.ne_of_lt (Nat.lt_of_lt_of_le Bq29.1.lt q))
  have ne_d1_vb34 : d1 ≠ vb34 := or34.elim (fun q => by rw [q]; exact ne_d1_vb29) (fun q => Nat.ne_of_lt (Nat.lt_of_lt_of_le (own_arr_keep (f27.ext E26) Kq29 (ninS ne_d1_b23 (ninS ne_d1_va24 nin0))).lt q))
  have ne_oc_vb34 : oc ≠ vb34 := or34.elim (fun q => by rw [q]; exact ne_oc_vb29) (fun q => Nat.ne_of_lt (Nat.lt_of_lt_of_le (((f25.keep Kq24).ext E26).keep Kq29).lt q))
  have ne_vb18_vb34 : vb18 ≠ vb34 := or34.elim (fun q => by rw [q]; exact ne_vb18_vb29) (fun q => Nat.ne_of_lt (Nat.lt_of_lt_of_le f35.lt q))
  have K34 : Keep h0 T34.heap [] := K29.trans Kq34 (allS (Or.inr sz_b23) (allS (Or.inr sz_vb29) all0))
  have Ch34 : CHr Z consts_1 s.vm h0 T26.vm T34.heap := Ch29.trans (CHr.keep Kq34 (sfS Sf29_b23 (sfS Sf29_vb29 sf0)) Ch29.1)
  have Sf34_b1 : Safe Z consts_1 T26.vm T34.heap b1 := Safe.keep Kq34 (sfS Sf29_b23 (sfS Sf29_vb29 sf0)) Ch29.1 Sf29_b1
  have Sf34_vb18 : Safe Z consts_1 T26.vm T34.heap vb18 := Safe.keep Kq34 (sfS Sf29_b23 (sfS Sf29_vb29 sf0)) Ch29.1 Sf29_vb18
  have Sf34_b23 : Safe Z consts_1 T26.vm T34.heap b23 := Safe.keep Kq34 (sfS Sf29_b23 (sfS Sf29_vb29 sf0)) Ch29.1 Sf29_b23
  have Sf34_vb29 : Safe Z consts_1 T26.vm T34.heap vb29 := Safe.keep Kq34 (sfS Sf29_b23 (sfS Sf29_vb29 sf0)) Ch29.1 Sf29_vb29
  have Sf34_vb34 : Safe Z consts_1 T26.vm T34.heap vb34 := Safe.keep Kq34 (sfS Sf29_b23 (sfS Sf29_vb29 sf0)) Ch29.1 Sn34
  have hkk34 : k26 ≤ T34.heap.size := Nat.le_trans hkk29 Kq34.1
  have N34 := Fr.app N29 N34q
  obtain ⟨cq36, kq36, q36a, q36b, q36c⟩ := isOf hZ26 rfl Bq34.1
  obtain ⟨_, _, ⟨T36, L36, k36, n36⟩, -, X36, ⟨Lc36, hQ36, l36, y36, z36⟩, st36⟩ := X34.virtualBack hx (y := (⟨"java/lang/StringBuilder", "toString", "()Ljava/lang/String;"⟩ : MethodName)) (z := (⟨"java/lang/StringBuilder", "toString", "()Ljava/lang/String;"⟩ : MethodName)) hown26 (mvT hZ26 (hw _ (M 179))) (mvT hZ26 (hw _ (M 180))) (notFace_of_selects (args := #[]) (mvT hZ26 (hw _ (M 182)))) (mvT hZ26 (hw _ (M 182))) (mvT hZ26 (hw _ (M 181))) (by decide) (backOf (W := 1) ((bToS l Z a0 hw b23 vb34 kb34 (16 : Int32) (10 : Int32) tx_15 zc tx_16 T34.heap n0 (Nat.le_trans Z0 K34.1) ⟨Bq34.1, Bq34.2.1, Bq34.2.2.1, Bq34.2.2.2.1, Bq34.2.2.2.2⟩ (own_sta_keepN f32 Kq34 (nsS (Bq29.1.nostat) (nsS (Bq29.2.2.2.2.nostat) ns0))) hz (by decide) (Nat.le_of_ble_eq_true rfl) (by decide) (Nat.le_of_ble_eq_true rfl) (by rfl) (by decide)) []) hZ26 (hw _ (M 183)) (hw _ (M 60)) (by decide) (by decide)) q36a q36c (g := (mkF m 60 #[.val (.ref oc), .val (.int (1 : Int32))] [(.ref b23), (.ref b1)])) rfl (by rw [hml]; rfl) (Steps.refl _) (argsL := []) (rest := [(.ref b1)]) (lenOf pd_ocLjava_lang_String_ rfl) rfl (by show 2 * 0 + _ ≤ _; exact Nat.le_of_eq rfl) (hb hby d8_60) (fun _ _ => ⟨rfl, rfl, (by decide : 11 + 2 ≤ _), (by decide : 250 + 49 ≤ _)⟩)
  dsimp only [Pt.U, Pt.locs, Pt.cells, Pt.slots] at X36 l36 y36 z36 st36 hQ36
  subst l36 y36 z36
  have f37 := (own_arr_keep (own_arr_keep (f27.ext E26) Kq29 (ninS ne_d1_b23 (ninS ne_d1_va24 nin0))) Kq34 (ninS ne_d1_b23 (ninS ne_d1_vb29 nin0)))
  obtain ⟨os36, sr36, kS36, rfl, N36q, Kq36, so36q, sr36q, Tq36⟩ := hQ36
  have sz_os36 : h0.size ≤ os36 := Nat.le_trans K34.1 so36q
  have g_os36 : n0 ≤ os36 := Nat.le_trans Z0 sz_os36
  have ne_b1_os36 : b1 ≠ os36 := Nat.ne_of_lt (Nat.lt_of_lt_of_le (((((Bq18.1.ext E23).keep Kq24).ext E26).keep Kq29).keep Kq34).lt so36q)
  have ne_b23_os36 : b23 ≠ os36 := Nat.ne_of_lt (Nat.lt_of_lt_of_le Bq34.1.lt so36q)
  have ne_d1_os36 : d1 ≠ os36 := Nat.ne_of_lt (Nat.lt_of_lt_of_le f37.lt so36q)
  have ne_oc_os36 : oc ≠ os36 := Nat.ne_of_lt (Nat.lt_of_lt_of_le ((((f25.keep Kq24).ext E26).keep Kq29).keep Kq34).lt so36q)
  have ne_vb18_os36 : vb18 ≠ os36 := Nat.ne_of_lt (Nat.lt_of_lt_of_le (f35.keep Kq34 (ninS ne_vb18_b23 (ninS ne_vb18_vb29 nin0))).lt so36q)
  have ne_vb34_os36 : vb34 ≠ os36 := Nat.ne_of_lt (Nat.lt_of_lt_of_le Bq34.2.2.2.2.lt so36q)
  have sz_sr36 : h0.size ≤ sr36 := Nat.le_trans K34.1 sr36q
  have g_sr36 : n0 ≤ sr36 := Nat.le_trans Z0 sz_sr36
  have ne_b1_sr36 : b1 ≠ sr36 := Nat.ne_of_lt (Nat.lt_of_lt_of_le (((((Bq18.1.ext E23).keep Kq24).ext E26).keep Kq29).keep Kq34).lt sr36q)
  have ne_b23_sr36 : b23 ≠ sr36 := Nat.ne_of_lt (Nat.lt_of_lt_of_le Bq34.1.lt sr36q)
  have ne_d1_sr36 : d1 ≠ sr36 := Nat.ne_of_lt (Nat.lt_of_lt_of_le f37.lt sr36q)
  have ne_oc_sr36 : oc ≠ sr36 := Nat.ne_of_lt (Nat.lt_of_lt_of_le ((((f25.keep Kq24).ext E26).keep Kq29).keep Kq34).lt sr36q)
  have ne_vb18_sr36 : vb18 ≠ sr36 := Nat.ne_of_lt (Nat.lt_of_lt_of_le (f35.keep Kq34 (ninS ne_vb18_b23 (ninS ne_vb18_vb29 nin0))).lt sr36q)
  have ne_vb34_sr36 : vb34 ≠ sr36 := Nat.ne_of_lt (Nat.lt_of_lt_of_le Bq34.2.2.2.2.lt sr36q)
  have K36 : Keep h0 T36.heap [] := K34.trans Kq36 all0
  have Ch36 : CHr Z consts_1 s.vm h0 T26.vm T36.heap := Ch34.trans (CHr.keep Kq36 sf0 Ch34.1)
  have Sf36_b1 : Safe Z consts_1 T26.vm T36.heap b1 := Safe.keep Kq36 sf0 Ch34.1 Sf34_b1
  have Sf36_vb18 : Safe Z consts_1 T26.vm T36.heap vb18 := Safe.keep Kq36 sf0 Ch34.1 Sf34_vb18
  have Sf36_b23 : Safe Z consts_1 T26.vm T36.heap b23 := Safe.keep Kq36 sf0 Ch34.1 Sf34_b23
  have Sf36_vb34 : Safe Z consts_1 T26.vm T36.heap vb34 := Safe.keep Kq36 sf0 Ch34.1 Sf34_vb34
  have Sf36_os36 : Safe Z consts_1 T26.vm T36.heap os36 := Safe.keep Kq36 sf0 Ch34.1 (Safe.new so36q)
  have Sf36_sr36 : Safe Z consts_1 T26.vm T36.heap sr36 := Safe.keep Kq36 sf0 Ch34.1 (Safe.new sr36q)
  have hkk36 : k26 ≤ T36.heap.size := Nat.le_trans hkk34 Kq36.1
  have N36 := Fr.app N34 N36q
  have f38 := ((((((Bq18.2.1.ext E23).keep Kq24 (ninS ne_b1_b23 nin0)).ext E26).keep Kq29 (ninS ne_b1_b23 (ninS ne_b1_va24 nin0))).keep Kq34 (ninS ne_b1_b23 (ninS ne_b1_vb29 nin0))).keep Kq36 nin0)
  have f39 := ((((((Bq18.2.2.1.ext E23).keep Kq24 (ninS ne_b1_b23 nin0)).ext E26).keep Kq29 (ninS ne_b1_b23 (ninS ne_b1_va24 nin0))).keep Kq34 (ninS ne_b1_b23 (ninS ne_b1_vb29 nin0))).keep Kq36 nin0)
  have f40 := ((((((Bq18.2.2.2.1.ext E23).keep Kq24 (ninS ne_b1_b23 nin0)).ext E26).keep Kq29 (ninS ne_b1_b23 (ninS ne_b1_va24 nin0))).keep Kq34 (ninS ne_b1_b23 (ninS ne_b1_vb29 nin0))).keep Kq36 nin0)
  have f41 := (own_sta_keepN (own_sta_keepN f32 Kq34 (nsS (Bq29.1.nostat) (nsS (Bq29.2.2.2.2.nostat) ns0))) Kq36 ns0)
  obtain ⟨cq42, kq42, q42a, q42b, q42c⟩ := isOf hZ26 rfl ((((((Bq18.1.ext E23).keep Kq24).ext E26).keep Kq29).keep Kq34).keep Kq36)
  obtain ⟨_, _, ⟨T42, L42, k42, n42⟩, -, X42, ⟨Lc42, hQ42, l42, y42, z42⟩, st42⟩ := X36.virtualBack hx (y := (⟨"java/lang/StringBuilder", "append", "(Ljava/lang/String;)Ljava/lang/StringBuilder;"⟩ : MethodName)) (z := (⟨"java/lang/StringBuilder", "append", "(Ljava/lang/String;)Ljava/lang/StringBuilder;"⟩ : MethodName)) hown26 (mvT hZ26 (hw _ (M 77))) (mvT hZ26 (hw _ (M 78))) (notFace_of_selects (args := #[]) (mvT hZ26 (hw _ (M 80)))) (mvT hZ26 (hw _ (M 80))) (mvT hZ26 (hw _ (M 79))) (by decide) (backOf (W := 0) ((bAppG l Z a0 hw b1 vb18 kb18 (34 : Int32) (25 : Int32) tx_13 os36 sr36 kS36 (10 : Int32) tx_16 zc (35 : Int32) (1 : Int32) (36 : Int32) (70 : Int32) tx_17 tx_18 T36.heap n0 (Nat.le_trans Z0 K36.1) ⟨((((((Bq18.1.ext E23).keep Kq24).ext E26).keep Kq29).keep Kq34).keep Kq36), f38, f39, f40, ((f35.keep Kq34 (ninS ne_vb18_b23 (ninS ne_vb18_vb29 nin0))).keep Kq36 nin0)⟩ ⟨Tq36.1, Tq36.2.1, Tq36.2.2.1, Tq36.2.2.2⟩ f41 hz g_b1 g_vb18 (Ne.symm ne_vb18_sr36) (by decide) (by decide) (by decide) (by decide) (by decide) (by decide) (by decide) (by decide) (by decide) (by decide) (by decide) (by decide) (Nat.le_of_ble_eq_true rfl) (by decide) (Nat.le_of_ble_eq_true rfl) (by decide) (by decide) (by rfl) (Nat.le_of_ble_eq_true rfl) (Nat.le_of_ble_eq_true rfl) (by rfl)) []) hZ26 (hw _ (M 81)) (hw _ (M 60)) (by decide) (by decide)) q42a q42c (g := (mkF m 68 #[.val (.ref oc), .val (.int (1 : Int32))] [(.ref os36), (.ref b1)])) rfl (by rw [hml]; rfl) (Steps.refl _) (argsL := [(.ref os36)]) (rest := []) (lenOf pd_oLjava_lang_String_cLjava_lang_StringBuilder_ rfl) rfl (by show 2 * 0 + _ ≤ _; exact Nat.le_of_eq rfl) (hb hby d8_68) (fun _ _ => ⟨rfl, rfl, (by decide : 13 + 1 ≤ _), (by decide : 299 + 70 ≤ _)⟩)
  dsimp only [Pt.U, Pt.locs, Pt.cells, Pt.slots] at X42 l42 y42 z42 st42 hQ42
  subst l42 y42 z42
  obtain ⟨vb42, kb42, rfl, N42q, Kq42, or42, gg42, Bq42⟩ := hQ42
  have sz_vb42 : h0.size ≤ vb42 := or42.elim (fun q => by rw [q]; exact sz_vb18) (fun q => Nat.le_trans K36.1 q)
  have g_vb42 : n0 ≤ vb42 := gg42
  have Sn42 : Safe Z consts_1 T26.vm T36.heap vb42 := or42.elim (fun q => by rw [q]; exact Sf36_vb18) (fun q => Safe.new q)
  have ne_b1_vb42 : b1 ≠ vb42 := or42.elim (fun q => by rw [q]; exact ne_b1_vb18) (fun q => Nat.ne_of_lt (Nat.lt_of_lt_of_le ((((((Bq18.1.ext E23).keep Kq24).ext E26).keep Kq29).keep Kq34).keep Kq36).lt q))
  have ne_d1_vb42 : d1 ≠ vb42 := or42.elim (fun q => by rw [q]; exact ne_d1_vb18) (fun q => Nat.ne_of_lt (Nat.lt_of_lt_of_le (own_arr_keep f37 Kq36 nin0).lt q))
  have ne_oc_vb42 : oc ≠ vb42 := or42.elim (fun q => by rw [q]; exact ne_oc_vb18) (fun q => Nat.ne_of_lt (Nat.lt_of_lt_of_le (((((f25.keep Kq24).ext E26).keep Kq29).keep Kq34).keep Kq36).lt q))
  have K42 : Keep h0 T42.heap [] := K36.trans Kq42 (allS (Or.inr sz_b1) (allS (Or.inr sz_vb18) all0))
  have Ch42 : CHr Z consts_1 s.vm h0 T26.vm T42.heap := Ch36.trans (CHr.keep Kq42 (sfS Sf36_b1 (sfS Sf36_vb18 sf0)) Ch36.1)
  have Sf42_b1 : Safe Z consts_1 T26.vm T42.heap b1 := Safe.keep Kq42 (sfS Sf36_b1 (sfS Sf36_vb18 sf0)) Ch36.1 Sf36_b1
  have Sf42_vb18 : Safe Z consts_1 T26.vm T42.heap vb18 := Safe.keep Kq42 (sfS Sf36_b1 (sfS Sf36_vb18 sf0)) Ch36.1 Sf36_vb18
  have Sf42_vb42 : Safe Z consts_1 T26.vm T42.heap vb42 := Safe.keep Kq42 (sfS Sf36_b1 (sfS Sf36_vb18 sf0)) Ch36.1 Sn42
  have hkk42 : k26 ≤ T42.heap.size := Nat.le_trans hkk36 Kq42.1
  have N42 := Fr.app N36 N42q
  obtain ⟨T43, h43, X43, e43, E43, A43, D43, -, st43⟩ := newO X42 hx hZ26 hown26 (hw _ (M 58)) (hw _ (M 59)) (hw _ (M 60)) rfl (g := (mkF m 75 #[.val (.ref oc), .val (.int (1 : Int32))] [(.ref b1)])) rfl (hb hby d8_75) (by decide) (by decide)
  obtain ⟨b43, g43⟩ : ∃ z, z = T42.heap.size := ⟨_, rfl⟩
  rw [← g43] at A43 D43 st43
  have sz_b43 : h0.size ≤ b43 := Nat.le_trans K42.1 (Nat.le_of_eq g43.symm)
  have g_b43 : n0 ≤ b43 := Nat.le_trans Z0 sz_b43
  have ne_b1_b43 : b1 ≠ b43 := Nat.ne_of_lt (Nat.lt_of_lt_of_le Bq42.1.lt (Nat.le_of_eq g43.symm))
  have ne_d1_b43 : d1 ≠ b43 := Nat.ne_of_lt (Nat.lt_of_lt_of_le (own_arr_keep (own_arr_keep f37 Kq36 nin0) Kq42 (ninS ne_d1_b1 (ninS ne_d1_vb18 nin0))).lt (Nat.le_of_eq g43.symm))
  have ne_oc_b43 : oc ≠ b43 := Nat.ne_of_lt (Nat.lt_of_lt_of_le ((((((f25.keep Kq24).ext E26).keep Kq29).keep Kq34).keep Kq36).keep Kq42).lt (Nat.le_of_eq g43.symm))
  have ne_vb42_b43 : vb42 ≠ b43 := Nat.ne_of_lt (Nat.lt_of_lt_of_le Bq42.2.2.2.2.lt (Nat.le_of_eq g43.symm))
  have K43 : Keep h0 h43 [] := K42.ext E43
  have F_value_b43 : Fld Z h43 b43 "java/lang/AbstractStringBuilder" "value" "[B" .null := D43 (Or.inl (hw _ (M 73))) (ty := (.array .byte)) (by decide)
  have F_coder_b43 : Fld Z h43 b43 "java/lang/AbstractStringBuilder" "coder" "B" (.int (0 : Int32)) := D43 (Or.inl (hw _ (M 75))) (ty := .byte) (by decide)
  have F_count_b43 : Fld Z h43 b43 "java/lang/AbstractStringBuilder" "count" "I" (.int (0 : Int32)) := D43 (Or.inl (hw _ (M 101))) (ty := .int) (by decide)
  have Ch43 : CHr Z consts_1 s.vm h0 T26.vm h43 := Ch42.trans (CHr.ext E43 Ch42.1)
  have Sf43_b1 : Safe Z consts_1 T26.vm h43 b1 := Safe.ext E43 Ch42.1 Sf42_b1
  have Sf43_vb42 : Safe Z consts_1 T26.vm h43 vb42 := Safe.ext E43 Ch42.1 Sf42_vb42
  have Sf43_b43 : Safe Z consts_1 T26.vm h43 b43 := Safe.ext E43 Ch42.1 (Safe.new (Nat.le_of_eq g43.symm))
  have hkk43 : k26 ≤ h43.size := Nat.le_trans hkk42 E43.1
  have f44 := ((own_sta_keepN f41 Kq42 (nsS (((((((Bq18.1.ext E23).keep Kq24).ext E26).keep Kq29).keep Kq34).keep Kq36).nostat) (nsS (((f35.keep Kq34 (ninS ne_vb18_b23 (ninS ne_vb18_vb29 nin0))).keep Kq36 nin0).nostat) ns0))).ext E43)
  obtain ⟨_, _, ⟨T45, L45, k45, n45⟩, -, X45, ⟨Lc45, hQ45, l45, y45, z45⟩, st45⟩ := X43.specialBack hx (y := (⟨"java/lang/StringBuilder", "<init>", "()V"⟩ : MethodName)) rfl hown26 (mvT hZ26 (hw _ (M 61))) (mvT hZ26 (hw _ (M 62))) (mvT hZ26 (hw _ (M 63))) (by decide) (backOf (W := 2) ((bInit l Z a0 hw zc b43 h43 n0 (Nat.le_trans Z0 K43.1) f44 hz A43 F_value_b43 F_coder_b43 F_count_b43 g_b43) []) hZ26 (hw _ (M 63)) (hw _ (M 60)) (by decide) (by decide)) (g := (mkF m 79 #[.val (.ref oc), .val (.int (1 : Int32))] [(.ref b43), (.ref b43), (.ref b1)])) rfl (by rw [hml]; rfl) (Steps.refl _) (a := b43) (argsL := []) (rest := [(.ref b43), (.ref b1)]) (lenOf pd_ocV rfl) rfl (by show 2 * 0 + _ ≤ _; exact Nat.le_of_eq rfl) (hb hby d8_79) (fun _ _ => ⟨rfl, e43, (by decide : 15 + 1 ≤ _), (by decide : 373 + 16 ≤ _)⟩)
  dsimp only [Pt.U, Pt.locs, Pt.cells, Pt.slots] at X45 l45 y45 z45 st45 hQ45
  subst l45 y45 z45
  have f46 := ((own_arr_keep (own_arr_keep f37 Kq36 nin0) Kq42 (ninS ne_d1_b1 (ninS ne_d1_vb18 nin0))).ext E43)
  obtain ⟨va45, kA45, rfl, N45q, Kq45, sz45q, Bq45⟩ := hQ45
  have sz_va45 : h0.size ≤ va45 := Nat.le_trans K43.1 sz45q
  have g_va45 : n0 ≤ va45 := Nat.le_trans Z0 sz_va45
  have ne_b1_va45 : b1 ≠ va45 := Nat.ne_of_lt (Nat.lt_of_lt_of_le (Bq42.1.ext E43).lt sz45q)
  have ne_b43_va45 : b43 ≠ va45 := Nat.ne_of_lt (Nat.lt_of_lt_of_le A43.lt sz45q)
  have ne_d1_va45 : d1 ≠ va45 := Nat.ne_of_lt (Nat.lt_of_lt_of_le f46.lt sz45q)
  have ne_oc_va45 : oc ≠ va45 := Nat.ne_of_lt (Nat.lt_of_lt_of_le (((((((f25.keep Kq24).ext E26).keep Kq29).keep Kq34).keep Kq36).keep Kq42).ext E43).lt sz45q)
  have ne_vb42_va45 : vb42 ≠ va45 := Nat.ne_of_lt (Nat.lt_of_lt_of_le (Bq42.2.2.2.2.ext E43).lt sz45q)
  have K45 : Keep h0 T45.heap [] := K43.trans Kq45 (allS (Or.inr sz_b43) all0)
  have Ch45 : CHr Z consts_1 s.vm h0 T26.vm T45.heap := Ch43.trans (CHr.keep Kq45 (sfS Sf43_b43 sf0) Ch43.1)
  have Sf45_b1 : Safe Z consts_1 T26.vm T45.heap b1 := Safe.keep Kq45 (sfS Sf43_b43 sf0) Ch43.1 Sf43_b1
  have Sf45_vb42 : Safe Z consts_1 T26.vm T45.heap vb42 := Safe.keep Kq45 (sfS Sf43_b43 sf0) Ch43.1 Sf43_vb42
  have Sf45_b43 : Safe Z consts_1 T26.vm T45.heap b43 := Safe.keep Kq45 (sfS Sf43_b43 sf0) Ch43.1 Sf43_b43
  have Sf45_va45 : Safe Z consts_1 T26.vm T45.heap va45 := Safe.keep Kq45 (sfS Sf43_b43 sf0) Ch43.1 (Safe.new sz45q)
  have hkk45 : k26 ≤ T45.heap.size := Nat.le_trans hkk43 Kq45.1
  have N45 := Fr.app N42 N45q
  have f48 := ((((((((f25.keep Kq24).ext E26).keep Kq29).keep Kq34).keep Kq36).keep Kq42).ext E43).keep Kq45)
  obtain ⟨c47, T47, h47, k47, sb47, kS47, X47, e47, E47, hS47, hk47, hZ47, hown47, Es47, Fc47, Fv47, Va47, -, -, CR47, -, hn47, st47⟩ := ldcCH (s := s) (vm0 := T26.vm) X45 hx hZ26 hown26 (hw _ (M 237)) (own_strA hw) rfl hS26 hkk45 (own_EW hw) (List.mem_of_getElem? (i := 4) rfl) Ch45.1 lit_4 (z := (9 : Int32)) (by decide) (by rfl) (g := (mkF m 82 #[.val (.ref oc), .val (.int (1 : Int32))] [(.ref b43), (.ref b1)])) rfl (hb hby d8_82) (n := 36) (by decide) (by decide) (by decide) (by decide)
  have K47 : Keep h0 h47 [] := K45.ext E47
  have Ch47 : CHr Z consts_1 s.vm h0 T47.vm h47 := Ch45.trans CR47
  have Sf47_b1 : Safe Z consts_1 T47.vm h47 b1 := CHr.safe CR47 ((Bq42.1.ext E43).keep Kq45).lt Sf45_b1
  have Sf47_vb42 : Safe Z consts_1 T47.vm h47 vb42 := CHr.safe CR47 ((Bq42.2.2.2.2.ext E43).keep Kq45 (ninS ne_vb42_b43 nin0)).lt Sf45_vb42
  have Sf47_b43 : Safe Z consts_1 T47.vm h47 b43 := CHr.safe CR47 Bq45.1.lt Sf45_b43
  have Sf47_va45 : Safe Z consts_1 T47.vm h47 va45 := CHr.safe CR47 Bq45.2.2.2.2.lt Sf45_va45
  obtain ⟨cq49, kq49, q49a, q49b, q49c⟩ := isOf hZ47 e47 (Bq45.1.ext E47)
  obtain ⟨_, _, ⟨T49, L49, k49, n49⟩, -, X49, ⟨Lc49, hQ49, l49, y49, z49⟩, st49⟩ := X47.virtualBack hx (y := (⟨"java/lang/StringBuilder", "append", "(Ljava/lang/String;)Ljava/lang/StringBuilder;"⟩ : MethodName)) (z := (⟨"java/lang/StringBuilder", "append", "(Ljava/lang/String;)Ljava/lang/StringBuilder;"⟩ : MethodName)) hown47 (mvT hZ47 (hw _ (M 77))) (mvT hZ47 (hw _ (M 78))) (notFace_of_selects (args := #[]) (mvT hZ47 (hw _ (M 80)))) (mvT hZ47 (hw _ (M 80))) (mvT hZ47 (hw _ (M 79))) (by decide) (backOf (W := 1) ((bAppN l Z a0 hw b43 va45 kA45 (16 : Int32) (0 : Int32) (List.replicate (16 : Int32).toNatClampNeg (.int (0 : Int32))) c47 sb47 kS47 (9 : Int32) tx_4 zc (9 : Int32) (-7 : Int32) tx_19 h47 n0 (Nat.le_trans Z0 K47.1) ⟨(Bq45.1.ext E47), (Bq45.2.1.ext E47), (Bq45.2.2.1.ext E47), (Bq45.2.2.2.1.ext E47), (Bq45.2.2.2.2.ext E47)⟩ ⟨Es47, Fc47, Fv47, Va47⟩ ((own_sta_keepN f44 Kq45 (nsS (A43.nostat) ns0)).ext E47) hz g_b43 g_va45 (Ne.symm (hn47 va45 Sf47_va45).2) (by decide) (by decide) (by decide) (by decide) (by decide) (Nat.le_of_ble_eq_true rfl) (Nat.le_of_ble_eq_true rfl) (by rfl)) []) hZ47 (hw _ (M 81)) (hw _ (M 60)) (by decide) (by decide)) q49a q49c (g := (mkF m 84 #[.val (.ref oc), .val (.int (1 : Int32))] [(.ref c47), (.ref b43), (.ref b1)])) rfl (by rw [hml]; rfl) (Steps.refl _) (argsL := [(.ref c47)]) (rest := [(.ref b1)]) (lenOf pd_oLjava_lang_String_cLjava_lang_StringBuilder_ rfl) rfl (by show 2 * 0 + _ ≤ _; exact Nat.le_of_eq rfl) (hb hby d8_84) (fun _ _ => ⟨rfl, e47, (by decide : 18 + 0 ≤ _), (by decide : 429 + 0 ≤ _)⟩)
  dsimp only [Pt.U, Pt.locs, Pt.cells, Pt.slots] at X49 l49 y49 z49 st49 hQ49
  subst l49 y49 z49
  obtain ⟨vb49, kb49, rfl, N49q, Kq49, or49, gg49, Bq49⟩ := hQ49
  have sz_vb49 : h0.size ≤ vb49 := or49.elim (fun q => by rw [q]; exact sz_va45) (fun q => Nat.le_trans K47.1 q)
  have g_vb49 : n0 ≤ vb49 := gg49
  have Sn49 : Safe Z consts_1 T47.vm h47 vb49 := or49.elim (fun q => by rw [q]; exact Sf47_va45) (fun q => Safe.new q)
  have ne_b1_vb49 : b1 ≠ vb49 := or49.elim (fun q => by rw [q]; exact ne_b1_va45) (fun q => Nat.ne_of_lt (Nat.lt_of_lt_of_le (((Bq42.1.ext E43).keep Kq45).ext E47).lt q))
  have ne_b43_vb49 : b43 ≠ vb49 := or49.elim (fun q => by rw [q]; exact ne_b43_va45) (fun q => Nat.ne_of_lt (Nat.lt_of_lt_of_le (Bq45.1.ext E47).lt q))
  have ne_d1_vb49 : d1 ≠ vb49 := or49.elim (fun q => by rw [q]; exact ne_d1_va45) (fun q => Nat.ne_of_lt (Nat.lt_of_lt_of_le ((own_arr_keep f46 Kq45 (ninS ne_d1_b43 nin0)).ext E47).lt q))
  have ne_oc_vb49 : oc ≠ vb49 := or49.elim (fun q => by rw [q]; exact ne_oc_va45) (fun q => Nat.ne_of_lt (Nat.lt_of_lt_of_le (f48.ext E47).lt q))
  have ne_vb42_vb49 : vb42 ≠ vb49 := or49.elim (fun q => by rw [q]; exact ne_vb42_va45) (fun q => Nat.ne_of_lt (Nat.lt_of_lt_of_le (((Bq42.2.2.2.2.ext E43).keep Kq45 (ninS ne_vb42_b43 nin0)).ext E47).lt q))
  have K49 : Keep h0 T49.heap [] := K47.trans Kq49 (allS (Or.inr sz_b43) (allS (Or.inr sz_va45) all0))
  have Ch49 : CHr Z consts_1 s.vm h0 T47.vm T49.heap := Ch47.trans (CHr.keep Kq49 (sfS Sf47_b43 (sfS Sf47_va45 sf0)) Ch47.1)
  have Sf49_b1 : Safe Z consts_1 T47.vm T49.heap b1 := Safe.keep Kq49 (sfS Sf47_b43 (sfS Sf47_va45 sf0)) Ch47.1 Sf47_b1
  have Sf49_vb42 : Safe Z consts_1 T47.vm T49.heap vb42 := Safe.keep Kq49 (sfS Sf47_b43 (sfS Sf47_va45 sf0)) Ch47.1 Sf47_vb42
  have Sf49_b43 : Safe Z consts_1 T47.vm T49.heap b43 := Safe.keep Kq49 (sfS Sf47_b43 (sfS Sf47_va45 sf0)) Ch47.1 Sf47_b43
  have Sf49_va45 : Safe Z consts_1 T47.vm T49.heap va45 := Safe.keep Kq49 (sfS Sf47_b43 (sfS Sf47_va45 sf0)) Ch47.1 Sf47_va45
  have Sf49_vb49 : Safe Z consts_1 T47.vm T49.heap vb49 := Safe.keep Kq49 (sfS Sf47_b43 (sfS Sf47_va45 sf0)) Ch47.1 Sn49
  have hkk49 : k47 ≤ T49.heap.size := Nat.le_trans hk47 Kq49.1
  have N49 := Fr.app N45 N49q
  have f50 := (((((((((((((((((((B0.2.2.2.2.2.ext E1).keep Kq2 (ninS ne_oc_b1 nin0)).ext E3).keep Kq4 (ninS ne_oc_b1 (ninS ne_oc_va2 nin0))).keep Kq10 (ninS ne_oc_b1 (ninS ne_oc_vb4 nin0))).ext E11).keep Kq12 (ninS ne_oc_b1 (ninS ne_oc_vb10 nin0))).keep Kq18 (ninS ne_oc_b1 (ninS ne_oc_vb12 nin0))).ext E23).keep Kq24 (ninS ne_oc_b23 nin0)).ext E26).keep Kq29 (ninS ne_oc_b23 (ninS ne_oc_va24 nin0))).keep Kq34 (ninS ne_oc_b23 (ninS ne_oc_vb29 nin0))).keep Kq36 nin0).keep Kq42 (ninS ne_oc_b1 (ninS ne_oc_vb18 nin0))).ext E43).keep Kq45 (ninS ne_oc_b43 nin0)).ext E47).keep Kq49 (ninS ne_oc_b43 (ninS ne_oc_va45 nin0)))
  obtain ⟨T51, X51, e51, st51⟩ := getF X49 hx hZ47 hown47 (host := "") (Or.inl (hw _ (M 23))) Via.refl rfl f50 (g := (mkF m 88 #[.val (.ref oc), .val (.int (1 : Int32))] [(.ref oc), (.ref b43), (.ref b1)])) rfl rfl (hb hby d8_88)
  have f52 := (own_sta_keepN ((own_sta_keepN f44 Kq45 (nsS (A43.nostat) ns0)).ext E47) Kq49 (nsS ((Bq45.1.ext E47).nostat) (nsS ((Bq45.2.2.2.2.ext E47).nostat) ns0)))
  have f53 := (own_sta_keepN ((own_sta_keepN ((own_sta_keepN (own_sta_keepN (own_sta_keepN f33 Kq34 (nsS (Bq29.1.nostat) (nsS (Bq29.2.2.2.2.nostat) ns0))) Kq36 ns0) Kq42 (nsS (((((((Bq18.1.ext E23).keep Kq24).ext E26).keep Kq29).keep Kq34).keep Kq36).nostat) (nsS (((f35.keep Kq34 (ninS ne_vb18_b23 (ninS ne_vb18_vb29 nin0))).keep Kq36 nin0).nostat) ns0))).ext E43) Kq45 (nsS (A43.nostat) ns0)).ext E47) Kq49 (nsS ((Bq45.1.ext E47).nostat) (nsS ((Bq45.2.2.2.2.ext E47).nostat) ns0)))
  have f54 := (own_arr_keep ((own_arr_keep f46 Kq45 (ninS ne_d1_b43 nin0)).ext E47) Kq49 (ninS ne_d1_b43 (ninS ne_d1_va45 nin0)))
  obtain ⟨cq55, kq55, q55a, q55b, q55c⟩ := isOf hZ47 e51 Bq49.1
  obtain ⟨_, _, ⟨T55, L55, k55, n55⟩, -, X55, ⟨Lc55, hQ55, l55, y55, z55⟩, st55⟩ := X51.virtualBack hx (y := (⟨"java/lang/StringBuilder", "append", "(J)Ljava/lang/StringBuilder;"⟩ : MethodName)) (z := (⟨"java/lang/StringBuilder", "append", "(J)Ljava/lang/StringBuilder;"⟩ : MethodName)) hown47 (mvT hZ47 (hw _ (M 127))) (mvT hZ47 (hw _ (M 128))) (notFace_of_selects (args := #[]) (mvT hZ47 (hw _ (M 130)))) (mvT hZ47 (hw _ (M 130))) (mvT hZ47 (hw _ (M 129))) (by decide) (backOf (W := 1) ((bAppJ l Z a0 hw b43 vb49 kb49 (16 : Int32) (9 : Int32) tx_19 zc (10 : Int32) (-6 : Int32) tx_20 d1 cd T49.heap n0 (Nat.le_trans Z0 K49.1) ⟨Bq49.1, Bq49.2.1, Bq49.2.2.1, Bq49.2.2.2.1, Bq49.2.2.2.2⟩ f52 hz g_b43 g_vb49 (by decide) (by decide) (by decide) f53 f54 hind hatd (by decide) (by decide) (Nat.le_of_ble_eq_true rfl) (by rfl)) []) hZ47 (hw _ (M 131)) (hw _ (M 60)) (by decide) (by decide)) q55a q55c (g := (mkF m 91 #[.val (.ref oc), .val (.int (1 : Int32))] [(.long (0 : Int64)), (.ref b43), (.ref b1)])) rfl (by rw [hml]; rfl) (Steps.refl _) (argsL := [(.long (0 : Int64))]) (rest := [(.ref b1)]) (lenOf pd_oJcLjava_lang_StringBuilder_ rfl) rfl (by show 2 * 0 + _ ≤ _; exact Nat.le_of_eq rfl) (hb hby d8_91) (fun _ _ => ⟨rfl, e51, (by decide : 18 + 0 ≤ _), (by decide : 429 + 0 ≤ _)⟩)
  dsimp only [Pt.U, Pt.locs, Pt.cells, Pt.slots] at X55 l55 y55 z55 st55 hQ55
  subst l55 y55 z55
  have f56 := ((((Bq42.2.2.2.2.ext E43).keep Kq45 (ninS ne_vb42_b43 nin0)).ext E47).keep Kq49 (ninS ne_vb42_b43 (ninS ne_vb42_va45 nin0)))
  obtain ⟨vb55, kb55, rfl, N55q, Kq55, or55, gg55, Bq55⟩ := hQ55
  have sz_vb55 : h0.size ≤ vb55 := or55.elim (fun q => by rw [q]; exact sz_vb49) (fun q => Nat.le_trans K49.1 q)
  have g_vb55 : n0 ≤ vb55 := gg55
  have Sn55 : Safe Z consts_1 T47.vm T49.heap vb55 := or55.elim (fun q => by rw [q]; exact Sf49_vb49) (fun q => Safe.new q)
  have ne_b1_vb55 : b1 ≠ vb55 := or55.elim (fun q => by rw [q]; exact ne_b1_vb49) (fun q => Nat.ne_of_lt (Nat.lt_of_lt_of_le ((((Bq42.1.ext E43).keep Kq45).ext E47).keep Kq49).lt q))
  have ne_b43_vb55 : b43 ≠ vb55 := or55.elim (fun q => by rw [q]; exact ne_b43_vb49) (fun q => Nat.ne_of_lt (Nat.lt_of_lt_of_le Bq49.1.lt q))
  have ne_d1_vb55 : d1 ≠ vb55 := or55.elim (fun q => by rw [q]; exact ne_d1_vb49) (fun q => Nat.ne_of_lt (Nat.lt_of_lt_of_le f54.lt q))
  have ne_oc_vb55 : oc ≠ vb55 := or55.elim (fun q => by rw [q]; exact ne_oc_vb49) (fun q => Nat.ne_of_lt (Nat.lt_of_lt_of_le ((f48.ext E47).keep Kq49).lt q))
  have ne_vb42_vb55 : vb42 ≠ vb55 := or55.elim (fun q => by rw [q]; exact ne_vb42_vb49) (fun q => Nat.ne_of_lt (Nat.lt_of_lt_of_le f56.lt q))
  have K55 : Keep h0 T55.heap [] := K49.trans Kq55 (allS (Or.inr sz_b43) (allS (Or.inr sz_vb49) all0))
  have Ch55 : CHr Z consts_1 s.vm h0 T47.vm T55.heap := Ch49.trans (CHr.keep Kq55 (sfS Sf49_b43 (sfS Sf49_vb49 sf0)) Ch49.1)
  have Sf55_b1 : Safe Z consts_1 T47.vm T55.heap b1 := Safe.keep Kq55 (sfS Sf49_b43 (sfS Sf49_vb49 sf0)) Ch49.1 Sf49_b1
  have Sf55_vb42 : Safe Z consts_1 T47.vm T55.heap vb42 := Safe.keep Kq55 (sfS Sf49_b43 (sfS Sf49_vb49 sf0)) Ch49.1 Sf49_vb42
  have Sf55_b43 : Safe Z consts_1 T47.vm T55.heap b43 := Safe.keep Kq55 (sfS Sf49_b43 (sfS Sf49_vb49 sf0)) Ch49.1 Sf49_b43
  have Sf55_vb49 : Safe Z consts_1 T47.vm T55.heap vb49 := Safe.keep Kq55 (sfS Sf49_b43 (sfS Sf49_vb49 sf0)) Ch49.1 Sf49_vb49
  have Sf55_vb55 : Safe Z consts_1 T47.vm T55.heap vb55 := Safe.keep Kq55 (sfS Sf49_b43 (sfS Sf49_vb49 sf0)) Ch49.1 Sn55
  have hkk55 : k47 ≤ T55.heap.size := Nat.le_trans hkk49 Kq55.1
  have N55 := Fr.app N49 N55q
  obtain ⟨cq57, kq57, q57a, q57b, q57c⟩ := isOf hZ47 rfl Bq55.1
  obtain ⟨_, _, ⟨T57, L57, k57, n57⟩, -, X57, ⟨Lc57, hQ57, l57, y57, z57⟩, st57⟩ := X55.virtualBack hx (y := (⟨"java/lang/StringBuilder", "toString", "()Ljava/lang/String;"⟩ : MethodName)) (z := (⟨"java/lang/StringBuilder", "toString", "()Ljava/lang/String;"⟩ : MethodName)) hown47 (mvT hZ47 (hw _ (M 179))) (mvT hZ47 (hw _ (M 180))) (notFace_of_selects (args := #[]) (mvT hZ47 (hw _ (M 182)))) (mvT hZ47 (hw _ (M 182))) (mvT hZ47 (hw _ (M 181))) (by decide) (backOf (W := 1) ((bToS l Z a0 hw b43 vb55 kb55 (16 : Int32) (10 : Int32) tx_20 zc tx_21 T55.heap n0 (Nat.le_trans Z0 K55.1) ⟨Bq55.1, Bq55.2.1, Bq55.2.2.1, Bq55.2.2.2.1, Bq55.2.2.2.2⟩ (own_sta_keepN f52 Kq55 (nsS (Bq49.1.nostat) (nsS (Bq49.2.2.2.2.nostat) ns0))) hz (by decide) (Nat.le_of_ble_eq_true rfl) (by decide) (Nat.le_of_ble_eq_true rfl) (by rfl) (by decide)) []) hZ47 (hw _ (M 183)) (hw _ (M 60)) (by decide) (by decide)) q57a q57c (g := (mkF m 94 #[.val (.ref oc), .val (.int (1 : Int32))] [(.ref b43), (.ref b1)])) rfl (by rw [hml]; rfl) (Steps.refl _) (argsL := []) (rest := [(.ref b1)]) (lenOf pd_ocLjava_lang_String_ rfl) rfl (by show 2 * 0 + _ ≤ _; exact Nat.le_of_eq rfl) (hb hby d8_94) (fun _ _ => ⟨rfl, rfl, (by decide : 18 + 2 ≤ _), (by decide : 429 + 49 ≤ _)⟩)
  dsimp only [Pt.U, Pt.locs, Pt.cells, Pt.slots] at X57 l57 y57 z57 st57 hQ57
  subst l57 y57 z57
  obtain ⟨os57, sr57, kS57, rfl, N57q, Kq57, so57q, sr57q, Tq57⟩ := hQ57
  have sz_os57 : h0.size ≤ os57 := Nat.le_trans K55.1 so57q
  have g_os57 : n0 ≤ os57 := Nat.le_trans Z0 sz_os57
  have ne_b1_os57 : b1 ≠ os57 := Nat.ne_of_lt (Nat.lt_of_lt_of_le (((((Bq42.1.ext E43).keep Kq45).ext E47).keep Kq49).keep Kq55).lt so57q)
  have ne_b43_os57 : b43 ≠ os57 := Nat.ne_of_lt (Nat.lt_of_lt_of_le Bq55.1.lt so57q)
  have ne_d1_os57 : d1 ≠ os57 := Nat.ne_of_lt (Nat.lt_of_lt_of_le (own_arr_keep f54 Kq55 (ninS ne_d1_b43 (ninS ne_d1_vb49 nin0))).lt so57q)
  have ne_oc_os57 : oc ≠ os57 := Nat.ne_of_lt (Nat.lt_of_lt_of_le (((f48.ext E47).keep Kq49).keep Kq55).lt so57q)
  have ne_vb42_os57 : vb42 ≠ os57 := Nat.ne_of_lt (Nat.lt_of_lt_of_le (f56.keep Kq55 (ninS ne_vb42_b43 (ninS ne_vb42_vb49 nin0))).lt so57q)
  have ne_vb55_os57 : vb55 ≠ os57 := Nat.ne_of_lt (Nat.lt_of_lt_of_le Bq55.2.2.2.2.lt so57q)
  have sz_sr57 : h0.size ≤ sr57 := Nat.le_trans K55.1 sr57q
  have g_sr57 : n0 ≤ sr57 := Nat.le_trans Z0 sz_sr57
  have ne_b1_sr57 : b1 ≠ sr57 := Nat.ne_of_lt (Nat.lt_of_lt_of_le (((((Bq42.1.ext E43).keep Kq45).ext E47).keep Kq49).keep Kq55).lt sr57q)
  have ne_b43_sr57 : b43 ≠ sr57 := Nat.ne_of_lt (Nat.lt_of_lt_of_le Bq55.1.lt sr57q)
  have ne_d1_sr57 : d1 ≠ sr57 := Nat.ne_of_lt (Nat.lt_of_lt_of_le (own_arr_keep f54 Kq55 (ninS ne_d1_b43 (ninS ne_d1_vb49 nin0))).lt sr57q)
  have ne_oc_sr57 : oc ≠ sr57 := Nat.ne_of_lt (Nat.lt_of_lt_of_le (((f48.ext E47).keep Kq49).keep Kq55).lt sr57q)
  have ne_vb42_sr57 : vb42 ≠ sr57 := Nat.ne_of_lt (Nat.lt_of_lt_of_le (f56.keep Kq55 (ninS ne_vb42_b43 (ninS ne_vb42_vb49 nin0))).lt sr57q)
  have ne_vb55_sr57 : vb55 ≠ sr57 := Nat.ne_of_lt (Nat.lt_of_lt_of_le Bq55.2.2.2.2.lt sr57q)
  have K57 : Keep h0 T57.heap [] := K55.trans Kq57 all0
  have Ch57 : CHr Z consts_1 s.vm h0 T47.vm T57.heap := Ch55.trans (CHr.keep Kq57 sf0 Ch55.1)
  have Sf57_b1 : Safe Z consts_1 T47.vm T57.heap b1 := Safe.keep Kq57 sf0 Ch55.1 Sf55_b1
  have Sf57_vb42 : Safe Z consts_1 T47.vm T57.heap vb42 := Safe.keep Kq57 sf0 Ch55.1 Sf55_vb42
  have Sf57_b43 : Safe Z consts_1 T47.vm T57.heap b43 := Safe.keep Kq57 sf0 Ch55.1 Sf55_b43
  have Sf57_vb55 : Safe Z consts_1 T47.vm T57.heap vb55 := Safe.keep Kq57 sf0 Ch55.1 Sf55_vb55
  have Sf57_os57 : Safe Z consts_1 T47.vm T57.heap os57 := Safe.keep Kq57 sf0 Ch55.1 (Safe.new so57q)
  have Sf57_sr57 : Safe Z consts_1 T47.vm T57.heap sr57 := Safe.keep Kq57 sf0 Ch55.1 (Safe.new sr57q)
  have hkk57 : k47 ≤ T57.heap.size := Nat.le_trans hkk55 Kq57.1
  have N57 := Fr.app N55 N57q
  have f58 := ((((((Bq42.2.1.ext E43).keep Kq45 (ninS ne_b1_b43 nin0)).ext E47).keep Kq49 (ninS ne_b1_b43 (ninS ne_b1_va45 nin0))).keep Kq55 (ninS ne_b1_b43 (ninS ne_b1_vb49 nin0))).keep Kq57 nin0)
  have f59 := ((((((Bq42.2.2.1.ext E43).keep Kq45 (ninS ne_b1_b43 nin0)).ext E47).keep Kq49 (ninS ne_b1_b43 (ninS ne_b1_va45 nin0))).keep Kq55 (ninS ne_b1_b43 (ninS ne_b1_vb49 nin0))).keep Kq57 nin0)
  have f60 := ((((((Bq42.2.2.2.1.ext E43).keep Kq45 (ninS ne_b1_b43 nin0)).ext E47).keep Kq49 (ninS ne_b1_b43 (ninS ne_b1_va45 nin0))).keep Kq55 (ninS ne_b1_b43 (ninS ne_b1_vb49 nin0))).keep Kq57 nin0)
  have f61 := (own_sta_keepN (own_sta_keepN f52 Kq55 (nsS (Bq49.1.nostat) (nsS (Bq49.2.2.2.2.nostat) ns0))) Kq57 ns0)
  obtain ⟨cq62, kq62, q62a, q62b, q62c⟩ := isOf hZ47 rfl ((((((Bq42.1.ext E43).keep Kq45).ext E47).keep Kq49).keep Kq55).keep Kq57)
  obtain ⟨_, _, ⟨T62, L62, k62, n62⟩, -, X62, ⟨Lc62, hQ62, l62, y62, z62⟩, st62⟩ := X57.virtualBack hx (y := (⟨"java/lang/StringBuilder", "append", "(Ljava/lang/String;)Ljava/lang/StringBuilder;"⟩ : MethodName)) (z := (⟨"java/lang/StringBuilder", "append", "(Ljava/lang/String;)Ljava/lang/StringBuilder;"⟩ : MethodName)) hown47 (mvT hZ47 (hw _ (M 77))) (mvT hZ47 (hw _ (M 78))) (notFace_of_selects (args := #[]) (mvT hZ47 (hw _ (M 80)))) (mvT hZ47 (hw _ (M 80))) (mvT hZ47 (hw _ (M 79))) (by decide) (backOf (W := 0) ((bAppN l Z a0 hw b1 vb42 kb42 (70 : Int32) (35 : Int32) tx_18 os57 sr57 kS57 (10 : Int32) tx_21 zc (45 : Int32) (-25 : Int32) tx_22 T57.heap n0 (Nat.le_trans Z0 K57.1) ⟨((((((Bq42.1.ext E43).keep Kq45).ext E47).keep Kq49).keep Kq55).keep Kq57), f58, f59, f60, ((f56.keep Kq55 (ninS ne_vb42_b43 (ninS ne_vb42_vb49 nin0))).keep Kq57 nin0)⟩ ⟨Tq57.1, Tq57.2.1, Tq57.2.2.1, Tq57.2.2.2⟩ f61 hz g_b1 g_vb42 (Ne.symm ne_vb42_sr57) (by decide) (by decide) (by decide) (by decide) (by decide) (Nat.le_of_ble_eq_true rfl) (Nat.le_of_ble_eq_true rfl) (by rfl)) []) hZ47 (hw _ (M 81)) (hw _ (M 60)) (by decide) (by decide)) q62a q62c (g := (mkF m 102 #[.val (.ref oc), .val (.int (1 : Int32))] [(.ref os57), (.ref b1)])) rfl (by rw [hml]; rfl) (Steps.refl _) (argsL := [(.ref os57)]) (rest := []) (lenOf pd_oLjava_lang_String_cLjava_lang_StringBuilder_ rfl) rfl (by show 2 * 0 + _ ≤ _; exact Nat.le_of_eq rfl) (hb hby d8_102) (fun _ _ => ⟨rfl, rfl, (by decide : 20 + 0 ≤ _), (by decide : 478 + 0 ≤ _)⟩)
  dsimp only [Pt.U, Pt.locs, Pt.cells, Pt.slots] at X62 l62 y62 z62 st62 hQ62
  subst l62 y62 z62
  obtain ⟨vb62, kb62, rfl, N62q, Kq62, or62, gg62, Bq62⟩ := hQ62
  have sz_vb62 : h0.size ≤ vb62 := or62.elim (fun q => by rw [q]; exact sz_vb42) (fun q => Nat.le_trans K57.1 q)
  have g_vb62 : n0 ≤ vb62 := gg62
  have Sn62 : Safe Z consts_1 T47.vm T57.heap vb62 := or62.elim (fun q => by rw [q]; exact Sf57_vb42) (fun q => Safe.new q)
  have ne_b1_vb62 : b1 ≠ vb62 := or62.elim (fun q => by rw [q]; exact ne_b1_vb42) (fun q => Nat.ne_of_lt (Nat.lt_of_lt_of_le ((((((Bq42.1.ext E43).keep Kq45).ext E47).keep Kq49).keep Kq55).keep Kq57).lt q))
  have ne_d1_vb62 : d1 ≠ vb62 := or62.elim (fun q => by rw [q]; exact ne_d1_vb42) (fun q => Nat.ne_of_lt (Nat.lt_of_lt_of_le (own_arr_keep (own_arr_keep f54 Kq55 (ninS ne_d1_b43 (ninS ne_d1_vb49 nin0))) Kq57 nin0).lt q))
  have ne_oc_vb62 : oc ≠ vb62 := or62.elim (fun q => by rw [q]; exact ne_oc_vb42) (fun q => Nat.ne_of_lt (Nat.lt_of_lt_of_le ((((f48.ext E47).keep Kq49).keep Kq55).keep Kq57).lt q))
  have K62 : Keep h0 T62.heap [] := K57.trans Kq62 (allS (Or.inr sz_b1) (allS (Or.inr sz_vb42) all0))
  have Ch62 : CHr Z consts_1 s.vm h0 T47.vm T62.heap := Ch57.trans (CHr.keep Kq62 (sfS Sf57_b1 (sfS Sf57_vb42 sf0)) Ch57.1)
  have Sf62_b1 : Safe Z consts_1 T47.vm T62.heap b1 := Safe.keep Kq62 (sfS Sf57_b1 (sfS Sf57_vb42 sf0)) Ch57.1 Sf57_b1
  have Sf62_vb42 : Safe Z consts_1 T47.vm T62.heap vb42 := Safe.keep Kq62 (sfS Sf57_b1 (sfS Sf57_vb42 sf0)) Ch57.1 Sf57_vb42
  have Sf62_vb62 : Safe Z consts_1 T47.vm T62.heap vb62 := Safe.keep Kq62 (sfS Sf57_b1 (sfS Sf57_vb42 sf0)) Ch57.1 Sn62
  have hkk62 : k47 ≤ T62.heap.size := Nat.le_trans hkk57 Kq62.1
  have N62 := Fr.app N57 N62q
  have f63 := (own_sta_keepN f61 Kq62 (nsS (((((((Bq42.1.ext E43).keep Kq45).ext E47).keep Kq49).keep Kq55).keep Kq57).nostat) (nsS (((f56.keep Kq55 (ninS ne_vb42_b43 (ninS ne_vb42_vb49 nin0))).keep Kq57 nin0).nostat) ns0)))
  obtain ⟨cq64, kq64, q64a, q64b, q64c⟩ := isOf hZ47 rfl Bq62.1
  obtain ⟨_, _, ⟨T64, L64, k64, n64⟩, -, X64, ⟨Lc64, hQ64, l64, y64, z64⟩, st64⟩ := X62.virtualBack hx (y := (⟨"java/lang/StringBuilder", "toString", "()Ljava/lang/String;"⟩ : MethodName)) (z := (⟨"java/lang/StringBuilder", "toString", "()Ljava/lang/String;"⟩ : MethodName)) hown47 (mvT hZ47 (hw _ (M 179))) (mvT hZ47 (hw _ (M 180))) (notFace_of_selects (args := #[]) (mvT hZ47 (hw _ (M 182)))) (mvT hZ47 (hw _ (M 182))) (mvT hZ47 (hw _ (M 181))) (by decide) (backOf (W := 0) ((bToS l Z a0 hw b1 vb62 kb62 (70 : Int32) (45 : Int32) tx_22 zc tx_3 T62.heap n0 (Nat.le_trans Z0 K62.1) ⟨Bq62.1, Bq62.2.1, Bq62.2.2.1, Bq62.2.2.2.1, Bq62.2.2.2.2⟩ f63 hz (by decide) (Nat.le_of_ble_eq_true rfl) (by decide) (Nat.le_of_ble_eq_true rfl) (by rfl) (by decide)) []) hZ47 (hw _ (M 183)) (hw _ (M 60)) (by decide) (by decide)) q64a q64c (g := (mkF m 105 #[.val (.ref oc), .val (.int (1 : Int32))] [(.ref b1)])) rfl (by rw [hml]; rfl) (Steps.refl _) (argsL := []) (rest := []) (lenOf pd_ocLjava_lang_String_ rfl) rfl (by show 2 * 0 + _ ≤ _; exact Nat.le_of_eq rfl) (hb hby d8_105) (fun _ _ => ⟨rfl, rfl, (by decide : 20 + 2 ≤ _), (by decide : 478 + 49 ≤ _)⟩)
  dsimp only [Pt.U, Pt.locs, Pt.cells, Pt.slots] at X64 l64 y64 z64 st64 hQ64
  subst l64 y64 z64
  have f65 := (own_arr_keep (own_arr_keep (own_arr_keep f54 Kq55 (ninS ne_d1_b43 (ninS ne_d1_vb49 nin0))) Kq57 nin0) Kq62 (ninS ne_d1_b1 (ninS ne_d1_vb42 nin0)))
  obtain ⟨os64, sr64, kS64, rfl, N64q, Kq64, so64q, sr64q, Tq64⟩ := hQ64
  have sz_os64 : h0.size ≤ os64 := Nat.le_trans K62.1 so64q
  have g_os64 : n0 ≤ os64 := Nat.le_trans Z0 sz_os64
  have ne_b1_os64 : b1 ≠ os64 := Nat.ne_of_lt (Nat.lt_of_lt_of_le Bq62.1.lt so64q)
  have ne_d1_os64 : d1 ≠ os64 := Nat.ne_of_lt (Nat.lt_of_lt_of_le f65.lt so64q)
  have ne_oc_os64 : oc ≠ os64 := Nat.ne_of_lt (Nat.lt_of_lt_of_le (((((f48.ext E47).keep Kq49).keep Kq55).keep Kq57).keep Kq62).lt so64q)
  have ne_vb62_os64 : vb62 ≠ os64 := Nat.ne_of_lt (Nat.lt_of_lt_of_le Bq62.2.2.2.2.lt so64q)
  have sz_sr64 : h0.size ≤ sr64 := Nat.le_trans K62.1 sr64q
  have g_sr64 : n0 ≤ sr64 := Nat.le_trans Z0 sz_sr64
  have ne_b1_sr64 : b1 ≠ sr64 := Nat.ne_of_lt (Nat.lt_of_lt_of_le Bq62.1.lt sr64q)
  have ne_d1_sr64 : d1 ≠ sr64 := Nat.ne_of_lt (Nat.lt_of_lt_of_le f65.lt sr64q)
  have ne_oc_sr64 : oc ≠ sr64 := Nat.ne_of_lt (Nat.lt_of_lt_of_le (((((f48.ext E47).keep Kq49).keep Kq55).keep Kq57).keep Kq62).lt sr64q)
  have ne_vb62_sr64 : vb62 ≠ sr64 := Nat.ne_of_lt (Nat.lt_of_lt_of_le Bq62.2.2.2.2.lt sr64q)
  have K64 : Keep h0 T64.heap [] := K62.trans Kq64 all0
  have Ch64 : CHr Z consts_1 s.vm h0 T47.vm T64.heap := Ch62.trans (CHr.keep Kq64 sf0 Ch62.1)
  have Sf64_b1 : Safe Z consts_1 T47.vm T64.heap b1 := Safe.keep Kq64 sf0 Ch62.1 Sf62_b1
  have Sf64_vb62 : Safe Z consts_1 T47.vm T64.heap vb62 := Safe.keep Kq64 sf0 Ch62.1 Sf62_vb62
  have Sf64_os64 : Safe Z consts_1 T47.vm T64.heap os64 := Safe.keep Kq64 sf0 Ch62.1 (Safe.new so64q)
  have Sf64_sr64 : Safe Z consts_1 T47.vm T64.heap sr64 := Safe.keep Kq64 sf0 Ch62.1 (Safe.new sr64q)
  have hkk64 : k47 ≤ T64.heap.size := Nat.le_trans hkk62 Kq64.1
  have N64 := Fr.app N62 N64q
  obtain ⟨fs, hr, hrun, hended, hret, hW, hnew, hsame⟩ := X64.leaveW hS47 hkk64 (v := some (.ref os64)) (fun h => by rw [Bd.returns] at h; cases h)
  refine ⟨_, _, pre0 _ ?_, hrun, hended, _, _, rfl, ?_, ?_, hret, hW, hnew, hsame.mono (by decide) (by decide)⟩
  · show Steps p.tables e below (s₁.setTop (mkF m 0 #[.val (.ref oc), .val (.int (1 : Int32))] [])) _
    refine st1 _ ?_
    show Steps p.tables e below (T1.setTop (mkF m 3 #[.val (.ref oc), .val (.int (1 : Int32))] [(.ref b1)])) _
    refine XS.dup X1.here hx rfl (hb hby d8_3) rfl rfl ?_
    refine st2.trans ?_
    show Steps p.tables e below (T2.setTop (mkF m 7 #[.val (.ref oc), .val (.int (1 : Int32))] [(.ref b1)])) _
    refine st3 _ ?_
    show Steps p.tables e below (T3.setTop (mkF m 9 #[.val (.ref oc), .val (.int (1 : Int32))] [(.ref c3), (.ref b1)])) _
    refine st4.trans ?_
    show Steps p.tables e below (T4.setTop (mkF m 12 #[.val (.ref oc), .val (.int (1 : Int32))] [(.ref b1)])) _
    refine XS.aloadN X4.here hx rfl (hb hby d8_12) rfl rfl ?_
    refine st6 _ ?_
    show Steps p.tables e below (T6.setTop (mkF m 16 #[.val (.ref oc), .val (.int (1 : Int32))] [(.long (0 : Int64)), (.ref b1)])) _
    refine st10.trans ?_
    show Steps p.tables e below (T10.setTop (mkF m 19 #[.val (.ref oc), .val (.int (1 : Int32))] [(.ref b1)])) _
    refine st11 _ ?_
    show Steps p.tables e below (T11.setTop (mkF m 21 #[.val (.ref oc), .val (.int (1 : Int32))] [(.ref c11), (.ref b1)])) _
    refine st12.trans ?_
    show Steps p.tables e below (T12.setTop (mkF m 24 #[.val (.ref oc), .val (.int (1 : Int32))] [(.ref b1)])) _
    refine XS.aloadN X12.here hx rfl (hb hby d8_24) rfl rfl ?_
    refine st14 _ ?_
    show Steps p.tables e below (T14.setTop (mkF m 28 #[.val (.ref oc), .val (.int (1 : Int32))] [(.long (0 : Int64)), (.ref b1)])) _
    refine st18.trans ?_
    show Steps p.tables e below (T18.setTop (mkF m 31 #[.val (.ref oc), .val (.int (1 : Int32))] [(.ref b1)])) _
    refine XS.aloadN X18.here hx rfl (hb hby d8_31) rfl rfl ?_
    refine st20 _ ?_
    show Steps p.tables e below (T20.setTop (mkF m 35 #[.val (.ref oc), .val (.int (1 : Int32))] [(.ref sk), (.ref b1)])) _
    refine st22 _ ?_
    show Steps p.tables e below (T22.setTop (mkF m 38 #[.val (.ref oc), .val (.int (1 : Int32))] [(.ref sk), (.ref sk), (.ref b1)])) _
    refine Jvm.RoadKit.acmp (g := (mkF m 38 #[.val (.ref oc), .val (.int (1 : Int32))] [(.ref sk), (.ref sk), (.ref b1)])) X22 hx rfl rfl rfl (pc0 := 38) (pc' := 41) (same := true) rfl (hb hby d8_38) rfl (decide_eq_true rfl) (by decide) (by decide) ?_
    show Steps p.tables e below (T22.setTop (mkF m 41 #[.val (.ref oc), .val (.int (1 : Int32))] [(.ref b1)])) _
    refine st23 _ ?_
    show Steps p.tables e below (T23.setTop (mkF m 44 #[.val (.ref oc), .val (.int (1 : Int32))] [(.ref b23), (.ref b1)])) _
    refine XS.dup X23.here hx rfl (hb hby d8_44) rfl rfl ?_
    refine st24.trans ?_
    show Steps p.tables e below (T24.setTop (mkF m 48 #[.val (.ref oc), .val (.int (1 : Int32))] [(.ref b23), (.ref b1)])) _
    refine st26 _ ?_
    show Steps p.tables e below (T26.setTop (mkF m 50 #[.val (.ref oc), .val (.int (1 : Int32))] [(.ref c26), (.ref b23), (.ref b1)])) _
    refine st29.trans ?_
    show Steps p.tables e below (T29.setTop (mkF m 53 #[.val (.ref oc), .val (.int (1 : Int32))] [(.ref b23), (.ref b1)])) _
    refine XS.aloadN X29.here hx rfl (hb hby d8_53) rfl rfl ?_
    refine st31 _ ?_
    show Steps p.tables e below (T31.setTop (mkF m 57 #[.val (.ref oc), .val (.int (1 : Int32))] [(.long (0 : Int64)), (.ref b23), (.ref b1)])) _
    refine st34.trans ?_
    show Steps p.tables e below (T34.setTop (mkF m 60 #[.val (.ref oc), .val (.int (1 : Int32))] [(.ref b23), (.ref b1)])) _
    refine st36.trans ?_
    show Steps p.tables e below (T36.setTop (mkF m 63 #[.val (.ref oc), .val (.int (1 : Int32))] [(.ref os36), (.ref b1)])) _
    refine XS.goto X36.here hx rfl (pc0 := 63) (pc' := 68) rfl (hb hby d8_63) (by decide) (by decide) ?_
    show Steps p.tables e below (T36.setTop (mkF m 68 #[.val (.ref oc), .val (.int (1 : Int32))] [(.ref os36), (.ref b1)])) _
    refine st42.trans ?_
    show Steps p.tables e below (T42.setTop (mkF m 71 #[.val (.ref oc), .val (.int (1 : Int32))] [(.ref b1)])) _
    refine XS.iloadN X42.here hx rfl (hb hby d8_71) rfl ?_
    refine XS.ifNo X42.here hx rfl (hb hby d8_72) rfl ((if0 _ _).trans (feq (by decide : ¬ ((1 : Int32) = (0 : Int32)))).1) ?_
    show Steps p.tables e below (T42.setTop (mkF m 75 #[.val (.ref oc), .val (.int (1 : Int32))] [(.ref b1)])) _
    refine st43 _ ?_
    show Steps p.tables e below (T43.setTop (mkF m 78 #[.val (.ref oc), .val (.int (1 : Int32))] [(.ref b43), (.ref b1)])) _
    refine XS.dup X43.here hx rfl (hb hby d8_78) rfl rfl ?_
    refine st45.trans ?_
    show Steps p.tables e below (T45.setTop (mkF m 82 #[.val (.ref oc), .val (.int (1 : Int32))] [(.ref b43), (.ref b1)])) _
    refine st47 _ ?_
    show Steps p.tables e below (T47.setTop (mkF m 84 #[.val (.ref oc), .val (.int (1 : Int32))] [(.ref c47), (.ref b43), (.ref b1)])) _
    refine st49.trans ?_
    show Steps p.tables e below (T49.setTop (mkF m 87 #[.val (.ref oc), .val (.int (1 : Int32))] [(.ref b43), (.ref b1)])) _
    refine XS.aloadN X49.here hx rfl (hb hby d8_87) rfl rfl ?_
    refine st51 _ ?_
    show Steps p.tables e below (T51.setTop (mkF m 91 #[.val (.ref oc), .val (.int (1 : Int32))] [(.long (0 : Int64)), (.ref b43), (.ref b1)])) _
    refine st55.trans ?_
    show Steps p.tables e below (T55.setTop (mkF m 94 #[.val (.ref oc), .val (.int (1 : Int32))] [(.ref b43), (.ref b1)])) _
    refine st57.trans ?_
    show Steps p.tables e below (T57.setTop (mkF m 97 #[.val (.ref oc), .val (.int (1 : Int32))] [(.ref os57), (.ref b1)])) _
    refine XS.goto X57.here hx rfl (pc0 := 97) (pc' := 102) rfl (hb hby d8_97) (by decide) (by decide) ?_
    show Steps p.tables e below (T57.setTop (mkF m 102 #[.val (.ref oc), .val (.int (1 : Int32))] [(.ref os57), (.ref b1)])) _
    refine st62.trans ?_
    show Steps p.tables e below (T62.setTop (mkF m 105 #[.val (.ref oc), .val (.int (1 : Int32))] [(.ref b1)])) _
    refine st64.trans ?_
    show Steps p.tables e below (T64.setTop (mkF m 108 #[.val (.ref oc), .val (.int (1 : Int32))] [(.ref os64)])) _
    jvm_step X64.here [X64.here.top, hx, (hb hby d8_108), X64.method', Bd.returns, Value.isRef, FieldType.isReference]
    first | (intro acts; rw [hr _ acts rfl rfl rfl]) | rw [hr _ _ rfl rfl rfl]
    exact Steps.refl _
  · show (QU Z (45 : Int32) tx_3 h0 n0) _ T64.heap _
    exact ⟨_, _, _, rfl, N64, K64, sz_os64, sz_sr64, ⟨Tq64.1, Tq64.2.1, Tq64.2.2.1, Tq64.2.2.2⟩⟩
  · show CHr Z consts_1 s.vm s.heap T64.vm T64.heap
    rw [hh]
    exact Ch64.trans (CHv.at (s := s) (vm0 := T47.vm) X64 hZ47 (own_EW hw) Ch64.1)
theorem d8_100 : decode prog_24_method_8_code 100 = .ok (.ldc 61, 2) := by decide +kernel
set_option maxRecDepth 65536 in
set_option maxHeartbeats 40000000 in
theorem line_10 (l : Launch) (Z : State) (a0 : Array Value) (hw : ∀ d ∈ tables_1, d.before a0 Z = true) (oc sk : Addr) (zc : Int32) (d1 : Addr) (cd : Cell) (h0 : Heap) (n0 : Nat) (Z0 : n0 ≤ h0.size) (B0 : LcS Z h0 oc sk 0 0 0 0) (S_SKIP : Sta Z h0 "com/example/known_origins/knownorigins/store/IfStored" "SKIP" "Lcom/example/known_origins/knownorigins/store/IfStored;" (.ref sk)) (S_CS : Sta Z h0 "java/lang/String" "COMPACT_STRINGS" "Z" (.int zc)) (hz : ¬ (zc = (0 : Int32))) (S_D1 : Sta Z h0 "java/lang/Integer" "DigitOnes" "[B" (.ref d1)) (Ad : Arr Z h0 d1 cd .byte) (hind : ¬ ((0 : Int32) < 0 ∨ cd.slots.size ≤ (0 : Int32).toNatClampNeg)) (hatd : cd.slots[(0 : Int32).toNatClampNeg]? = some (.int (48 : Int32))) :
    MH l Z (⟨"com/example/known_origins/knownorigins/store/LoadCount", "line", "(Z)Ljava/lang/String;"⟩ : MethodName) prog_24_method_8_code 2 (some (.object "java/lang/String")) ({ frames := 6, cells := 18, slots := 422, locals := 92 } : Room) #[(.ref oc), (.int (0 : Int32))] h0 (QU Z (35 : Int32) tx_2 h0 n0) := by
  intro ws
  refine MetFree.of_bodySF (plainFor_of_name pn_8) hisR ?_
  intro p e s m args below meth c s₁ Bd hml0 hP hK
  obtain ⟨rfl, hZ, hh, hCH⟩ := hP
  have hx := Bd.exec
  have hby := Bd.bytes
  have hml : c.maxLocals = 2 := hml0
  have hown : s.vm.findClass "com/example/known_origins/knownorigins/store/LoadCount" = some m.cls := findClass_of_methodNamed Bd.named
  have hnm := (name_of_methodNamed Bd.named Bd.method).1
  have X0 : Stand p l e ({ frames := 6, cells := 18, slots := 422, locals := 92 } : Room) s m #[(.ref oc), (.int (0 : Int32))] below meth c s₁ [] 0 0 := Stand.of_body Bd
  have e0 : s₁.heap = h0 := by rw [← hh, Bd.state]; rfl
  have N0 := Fr.nil n0
  have hSi : s.Since s.vm 0 := (State.WarmedH.refl s).since 0
  have Ch0 : CHr Z consts_1 s.vm h0 s.vm h0 := CHr.refl hCH
  have pre0 : ∀ t_, Steps p.tables e below (s₁.setTop (mkF m 0 #[.val (.ref oc), .val (.int (0 : Int32))] [])) t_ → Steps p.tables e below (s₁.setTop (entryFrame m #[(.ref oc), (.int (0 : Int32))] 2)) t_ := fun t_ k_ => castTop (ef_8 m oc (0 : Int32)) k_
  obtain ⟨T1, h1, X1, e1, E1, A1, D1, -, st1⟩ := newO X0 hx hZ hown (hw _ (M 58)) (hw _ (M 59)) (hw _ (M 60)) e0 (g := (mkF m 0 #[.val (.ref oc), .val (.int (0 : Int32))] [])) rfl (hb hby d8_0) (by decide) (by decide)
  obtain ⟨b1, g1⟩ : ∃ z, z = h0.size := ⟨_, rfl⟩
  rw [← g1] at A1 D1 st1
  have sz_b1 : h0.size ≤ b1 := Nat.le_trans (Keep.refl h0 []).1 (Nat.le_of_eq g1.symm)
  have g_b1 : n0 ≤ b1 := Nat.le_trans Z0 sz_b1
  have ne_d1_b1 : d1 ≠ b1 := Nat.ne_of_lt (Nat.lt_of_lt_of_le Ad.lt (Nat.le_of_eq g1.symm))
  have ne_oc_b1 : oc ≠ b1 := Nat.ne_of_lt (Nat.lt_of_lt_of_le B0.1.lt (Nat.le_of_eq g1.symm))
  have K1 : Keep h0 h1 [] := (Keep.refl h0 []).ext E1
  have F_value_b1 : Fld Z h1 b1 "java/lang/AbstractStringBuilder" "value" "[B" .null := D1 (Or.inl (hw _ (M 73))) (ty := (.array .byte)) (by decide)
  have F_coder_b1 : Fld Z h1 b1 "java/lang/AbstractStringBuilder" "coder" "B" (.int (0 : Int32)) := D1 (Or.inl (hw _ (M 75))) (ty := .byte) (by decide)
  have F_count_b1 : Fld Z h1 b1 "java/lang/AbstractStringBuilder" "count" "I" (.int (0 : Int32)) := D1 (Or.inl (hw _ (M 101))) (ty := .int) (by decide)
  have Ch1 : CHr Z consts_1 s.vm h0 s.vm h1 := Ch0.trans (CHr.ext E1 Ch0.1)
  have Sf1_b1 : Safe Z consts_1 s.vm h1 b1 := Safe.ext E1 Ch0.1 (Safe.new (Nat.le_of_eq g1.symm))
  have hkk1 : 0 ≤ h1.size := Nat.le_trans (Nat.zero_le _) E1.1
  obtain ⟨_, _, ⟨T2, L2, k2, n2⟩, -, X2, ⟨Lc2, hQ2, l2, y2, z2⟩, st2⟩ := X1.specialBack hx (y := (⟨"java/lang/StringBuilder", "<init>", "()V"⟩ : MethodName)) rfl hown (mvT hZ (hw _ (M 61))) (mvT hZ (hw _ (M 62))) (mvT hZ (hw _ (M 63))) (by decide) (backOf (W := 1) ((bInit l Z a0 hw zc b1 h1 n0 (Nat.le_trans Z0 K1.1) (S_CS.ext E1) hz A1 F_value_b1 F_coder_b1 F_count_b1 g_b1) []) hZ (hw _ (M 63)) (hw _ (M 60)) (by decide) (by decide)) (g := (mkF m 4 #[.val (.ref oc), .val (.int (0 : Int32))] [(.ref b1), (.ref b1)])) rfl (by rw [hml]; rfl) (Steps.refl _) (a := b1) (argsL := []) (rest := [(.ref b1)]) (lenOf pd_ocV rfl) rfl (by show 2 * 0 + _ ≤ _; exact Nat.le_of_eq rfl) (hb hby d8_4) (fun _ _ => ⟨rfl, e1, (by decide : 1 + 1 ≤ _), (by decide : 4 + 16 ≤ _)⟩)
  dsimp only [Pt.U, Pt.locs, Pt.cells, Pt.slots] at X2 l2 y2 z2 st2 hQ2
  subst l2 y2 z2
  obtain ⟨va2, kA2, rfl, N2q, Kq2, sz2q, Bq2⟩ := hQ2
  have sz_va2 : h0.size ≤ va2 := Nat.le_trans K1.1 sz2q
  have g_va2 : n0 ≤ va2 := Nat.le_trans Z0 sz_va2
  have ne_b1_va2 : b1 ≠ va2 := Nat.ne_of_lt (Nat.lt_of_lt_of_le A1.lt sz2q)
  have ne_d1_va2 : d1 ≠ va2 := Nat.ne_of_lt (Nat.lt_of_lt_of_le (Ad.ext E1).lt sz2q)
  have ne_oc_va2 : oc ≠ va2 := Nat.ne_of_lt (Nat.lt_of_lt_of_le (B0.1.ext E1).lt sz2q)
  have K2 : Keep h0 T2.heap [] := K1.trans Kq2 (allS (Or.inr sz_b1) all0)
  have Ch2 : CHr Z consts_1 s.vm h0 s.vm T2.heap := Ch1.trans (CHr.keep Kq2 (sfS Sf1_b1 sf0) Ch1.1)
  have Sf2_b1 : Safe Z consts_1 s.vm T2.heap b1 := Safe.keep Kq2 (sfS Sf1_b1 sf0) Ch1.1 Sf1_b1
  have Sf2_va2 : Safe Z consts_1 s.vm T2.heap va2 := Safe.keep Kq2 (sfS Sf1_b1 sf0) Ch1.1 (Safe.new sz2q)
  have hkk2 : 0 ≤ T2.heap.size := Nat.le_trans hkk1 Kq2.1
  have N2 := Fr.app N0 N2q
  obtain ⟨c3, T3, h3, k3, sb3, kS3, X3, e3, E3, hS3, hk3, hZ3, hown3, Es3, Fc3, Fv3, Va3, -, -, CR3, -, hn3, st3⟩ := ldcCH (s := s) (vm0 := s.vm) X2 hx hZ hown (hw _ (M 76)) (own_strA hw) rfl hSi hkk2 (own_EW hw) (List.mem_of_getElem? (i := 0) rfl) Ch2.1 lit_8 (z := (14 : Int32)) (by decide) (by rfl) (g := (mkF m 7 #[.val (.ref oc), .val (.int (0 : Int32))] [(.ref b1)])) rfl (hb hby d8_7) (n := 56) (by decide) (by decide) (by decide) (by decide)
  have K3 : Keep h0 h3 [] := K2.ext E3
  have Ch3 : CHr Z consts_1 s.vm h0 T3.vm h3 := Ch2.trans CR3
  have Sf3_b1 : Safe Z consts_1 T3.vm h3 b1 := CHr.safe CR3 Bq2.1.lt Sf2_b1
  have Sf3_va2 : Safe Z consts_1 T3.vm h3 va2 := CHr.safe CR3 Bq2.2.2.2.2.lt Sf2_va2
  obtain ⟨cq4, kq4, q4a, q4b, q4c⟩ := isOf hZ3 e3 (Bq2.1.ext E3)
  obtain ⟨_, _, ⟨T4, L4, k4, n4⟩, -, X4, ⟨Lc4, hQ4, l4, y4, z4⟩, st4⟩ := X3.virtualBack hx (y := (⟨"java/lang/StringBuilder", "append", "(Ljava/lang/String;)Ljava/lang/StringBuilder;"⟩ : MethodName)) (z := (⟨"java/lang/StringBuilder", "append", "(Ljava/lang/String;)Ljava/lang/StringBuilder;"⟩ : MethodName)) hown3 (mvT hZ3 (hw _ (M 77))) (mvT hZ3 (hw _ (M 78))) (notFace_of_selects (args := #[]) (mvT hZ3 (hw _ (M 80)))) (mvT hZ3 (hw _ (M 80))) (mvT hZ3 (hw _ (M 79))) (by decide) (backOf (W := 0) ((bAppN l Z a0 hw b1 va2 kA2 (16 : Int32) (0 : Int32) (List.replicate (16 : Int32).toNatClampNeg (.int (0 : Int32))) c3 sb3 kS3 (14 : Int32) tx_8 zc (14 : Int32) (-2 : Int32) tx_9 h3 n0 (Nat.le_trans Z0 K3.1) ⟨(Bq2.1.ext E3), (Bq2.2.1.ext E3), (Bq2.2.2.1.ext E3), (Bq2.2.2.2.1.ext E3), (Bq2.2.2.2.2.ext E3)⟩ ⟨Es3, Fc3, Fv3, Va3⟩ ((own_sta_keepN (S_CS.ext E1) Kq2 (nsS (A1.nostat) ns0)).ext E3) hz g_b1 g_va2 (Ne.symm (hn3 va2 Sf3_va2).2) (by decide) (by decide) (by decide) (by decide) (by decide) (Nat.le_of_ble_eq_true rfl) (Nat.le_of_ble_eq_true rfl) (by rfl)) []) hZ3 (hw _ (M 81)) (hw _ (M 60)) (by decide) (by decide)) q4a q4c (g := (mkF m 9 #[.val (.ref oc), .val (.int (0 : Int32))] [(.ref c3), (.ref b1)])) rfl (by rw [hml]; rfl) (Steps.refl _) (argsL := [(.ref c3)]) (rest := []) (lenOf pd_oLjava_lang_String_cLjava_lang_StringBuilder_ rfl) rfl (by show 2 * 0 + _ ≤ _; exact Nat.le_of_eq rfl) (hb hby d8_9) (fun _ _ => ⟨rfl, e3, (by decide : 4 + 0 ≤ _), (by decide : 80 + 0 ≤ _)⟩)
  dsimp only [Pt.U, Pt.locs, Pt.cells, Pt.slots] at X4 l4 y4 z4 st4 hQ4
  subst l4 y4 z4
  obtain ⟨vb4, kb4, rfl, N4q, Kq4, or4, gg4, Bq4⟩ := hQ4
  have sz_vb4 : h0.size ≤ vb4 := or4.elim (fun q => by rw [q]; exact sz_va2) (fun q => Nat.le_trans K3.1 q)
  have g_vb4 : n0 ≤ vb4 := gg4
  have Sn4 : Safe Z consts_1 T3.vm h3 vb4 := or4.elim (fun q => by rw [q]; exact Sf3_va2) (fun q => Safe.new q)
  have ne_b1_vb4 : b1 ≠ vb4 := or4.elim (fun q => by rw [q]; exact ne_b1_va2) (fun q => Nat.ne_of_lt (Nat.lt_of_lt_of_le (Bq2.1.ext E3).lt q))
  have ne_d1_vb4 : d1 ≠ vb4 := or4.elim (fun q => by rw [q]; exact ne_d1_va2) (fun q => Nat.ne_of_lt (Nat.lt_of_lt_of_le ((own_arr_keep (Ad.ext E1) Kq2 (ninS ne_d1_b1 nin0)).ext E3).lt q))
  have ne_oc_vb4 : oc ≠ vb4 := or4.elim (fun q => by rw [q]; exact ne_oc_va2) (fun q => Nat.ne_of_lt (Nat.lt_of_lt_of_le (((B0.1.ext E1).keep Kq2).ext E3).lt q))
  have K4 : Keep h0 T4.heap [] := K3.trans Kq4 (allS (Or.inr sz_b1) (allS (Or.inr sz_va2) all0))
  have Ch4 : CHr Z consts_1 s.vm h0 T3.vm T4.heap := Ch3.trans (CHr.keep Kq4 (sfS Sf3_b1 (sfS Sf3_va2 sf0)) Ch3.1)
  have Sf4_b1 : Safe Z consts_1 T3.vm T4.heap b1 := Safe.keep Kq4 (sfS Sf3_b1 (sfS Sf3_va2 sf0)) Ch3.1 Sf3_b1
  have Sf4_va2 : Safe Z consts_1 T3.vm T4.heap va2 := Safe.keep Kq4 (sfS Sf3_b1 (sfS Sf3_va2 sf0)) Ch3.1 Sf3_va2
  have Sf4_vb4 : Safe Z consts_1 T3.vm T4.heap vb4 := Safe.keep Kq4 (sfS Sf3_b1 (sfS Sf3_va2 sf0)) Ch3.1 Sn4
  have hkk4 : k3 ≤ T4.heap.size := Nat.le_trans hk3 Kq4.1
  have N4 := Fr.app N2 N4q
  have f5 := ((((B0.2.2.1.ext E1).keep Kq2 (ninS ne_oc_b1 nin0)).ext E3).keep Kq4 (ninS ne_oc_b1 (ninS ne_oc_va2 nin0)))
  obtain ⟨T6, X6, e6, st6⟩ := getF X4 hx hZ3 hown3 (host := "") (Or.inl (hw _ (M 17))) Via.refl rfl f5 (g := (mkF m 13 #[.val (.ref oc), .val (.int (0 : Int32))] [(.ref oc), (.ref b1)])) rfl rfl (hb hby d8_13)
  have f7 := (own_sta_keepN ((own_sta_keepN (S_CS.ext E1) Kq2 (nsS (A1.nostat) ns0)).ext E3) Kq4 (nsS ((Bq2.1.ext E3).nostat) (nsS ((Bq2.2.2.2.2.ext E3).nostat) ns0)))
  have f8 := (own_sta_keepN ((own_sta_keepN (S_D1.ext E1) Kq2 (nsS (A1.nostat) ns0)).ext E3) Kq4 (nsS ((Bq2.1.ext E3).nostat) (nsS ((Bq2.2.2.2.2.ext E3).nostat) ns0)))
  have f9 := (own_arr_keep ((own_arr_keep (Ad.ext E1) Kq2 (ninS ne_d1_b1 nin0)).ext E3) Kq4 (ninS ne_d1_b1 (ninS ne_d1_va2 nin0)))
  obtain ⟨cq10, kq10, q10a, q10b, q10c⟩ := isOf hZ3 e6 Bq4.1
  obtain ⟨_, _, ⟨T10, L10, k10, n10⟩, -, X10, ⟨Lc10, hQ10, l10, y10, z10⟩, st10⟩ := X6.virtualBack hx (y := (⟨"java/lang/StringBuilder", "append", "(J)Ljava/lang/StringBuilder;"⟩ : MethodName)) (z := (⟨"java/lang/StringBuilder", "append", "(J)Ljava/lang/StringBuilder;"⟩ : MethodName)) hown3 (mvT hZ3 (hw _ (M 127))) (mvT hZ3 (hw _ (M 128))) (notFace_of_selects (args := #[]) (mvT hZ3 (hw _ (M 130)))) (mvT hZ3 (hw _ (M 130))) (mvT hZ3 (hw _ (M 129))) (by decide) (backOf (W := 0) ((bAppJ l Z a0 hw b1 vb4 kb4 (16 : Int32) (14 : Int32) tx_9 zc (15 : Int32) (-1 : Int32) tx_10 d1 cd T4.heap n0 (Nat.le_trans Z0 K4.1) ⟨Bq4.1, Bq4.2.1, Bq4.2.2.1, Bq4.2.2.2.1, Bq4.2.2.2.2⟩ f7 hz g_b1 g_vb4 (by decide) (by decide) (by decide) f8 f9 hind hatd (by decide) (by decide) (Nat.le_of_ble_eq_true rfl) (by rfl)) []) hZ3 (hw _ (M 131)) (hw _ (M 60)) (by decide) (by decide)) q10a q10c (g := (mkF m 16 #[.val (.ref oc), .val (.int (0 : Int32))] [(.long (0 : Int64)), (.ref b1)])) rfl (by rw [hml]; rfl) (Steps.refl _) (argsL := [(.long (0 : Int64))]) (rest := []) (lenOf pd_oJcLjava_lang_StringBuilder_ rfl) rfl (by show 2 * 0 + _ ≤ _; exact Nat.le_of_eq rfl) (hb hby d8_16) (fun _ _ => ⟨rfl, e6, (by decide : 4 + 0 ≤ _), (by decide : 80 + 0 ≤ _)⟩)
  dsimp only [Pt.U, Pt.locs, Pt.cells, Pt.slots] at X10 l10 y10 z10 st10 hQ10
  subst l10 y10 z10
  obtain ⟨vb10, kb10, rfl, N10q, Kq10, or10, gg10, Bq10⟩ := hQ10
  have sz_vb10 : h0.size ≤ vb10 := or10.elim (fun q => by rw [q]; exact sz_vb4) (fun q => Nat.le_trans K4.1 q)
  have g_vb10 : n0 ≤ vb10 := gg10
  have Sn10 : Safe Z consts_1 T3.vm T4.heap vb10 := or10.elim (fun q => by rw [q]; exact Sf4_vb4) (fun q => Safe.new q)
  have ne_b1_vb10 : b1 ≠ vb10 := or10.elim (fun q => by rw [q]; exact ne_b1_vb4) (fun q => Nat.ne_of_lt (Nat.lt_of_lt_of_le Bq4.1.lt q))
  have ne_d1_vb10 : d1 ≠ vb10 := or10.elim (fun q => by rw [q]; exact ne_d1_vb4) (fun q => Nat.ne_of_lt (Nat.lt_of_lt_of_le f9.lt q))
  have ne_oc_vb10 : oc ≠ vb10 := or10.elim (fun q => by rw [q]; exact ne_oc_vb4) (fun q => Nat.ne_of_lt (Nat.lt_of_lt_of_le ((((B0.1.ext E1).keep Kq2).ext E3).keep Kq4).lt q))
  have K10 : Keep h0 T10.heap [] := K4.trans Kq10 (allS (Or.inr sz_b1) (allS (Or.inr sz_vb4) all0))
  have Ch10 : CHr Z consts_1 s.vm h0 T3.vm T10.heap := Ch4.trans (CHr.keep Kq10 (sfS Sf4_b1 (sfS Sf4_vb4 sf0)) Ch4.1)
  have Sf10_b1 : Safe Z consts_1 T3.vm T10.heap b1 := Safe.keep Kq10 (sfS Sf4_b1 (sfS Sf4_vb4 sf0)) Ch4.1 Sf4_b1
  have Sf10_vb4 : Safe Z consts_1 T3.vm T10.heap vb4 := Safe.keep Kq10 (sfS Sf4_b1 (sfS Sf4_vb4 sf0)) Ch4.1 Sf4_vb4
  have Sf10_vb10 : Safe Z consts_1 T3.vm T10.heap vb10 := Safe.keep Kq10 (sfS Sf4_b1 (sfS Sf4_vb4 sf0)) Ch4.1 Sn10
  have hkk10 : k3 ≤ T10.heap.size := Nat.le_trans hkk4 Kq10.1
  have N10 := Fr.app N4 N10q
  obtain ⟨c11, T11, h11, k11, sb11, kS11, X11, e11, E11, hS11, hk11, hZ11, hown11, Es11, Fc11, Fv11, Va11, -, -, CR11, -, hn11, st11⟩ := ldcCH (s := s) (vm0 := T3.vm) X10 hx hZ3 hown3 (hw _ (M 152)) (own_strA hw) rfl hS3 hkk10 (own_EW hw) (List.mem_of_getElem? (i := 1) rfl) Ch10.1 lit_7 (z := (9 : Int32)) (by decide) (by rfl) (g := (mkF m 19 #[.val (.ref oc), .val (.int (0 : Int32))] [(.ref b1)])) rfl (hb hby d8_19) (n := 36) (by decide) (by decide) (by decide) (by decide)
  have K11 : Keep h0 h11 [] := K10.ext E11
  have Ch11 : CHr Z consts_1 s.vm h0 T11.vm h11 := Ch10.trans CR11
  have Sf11_b1 : Safe Z consts_1 T11.vm h11 b1 := CHr.safe CR11 Bq10.1.lt Sf10_b1
  have Sf11_vb10 : Safe Z consts_1 T11.vm h11 vb10 := CHr.safe CR11 Bq10.2.2.2.2.lt Sf10_vb10
  obtain ⟨cq12, kq12, q12a, q12b, q12c⟩ := isOf hZ11 e11 (Bq10.1.ext E11)
  obtain ⟨_, _, ⟨T12, L12, k12, n12⟩, -, X12, ⟨Lc12, hQ12, l12, y12, z12⟩, st12⟩ := X11.virtualBack hx (y := (⟨"java/lang/StringBuilder", "append", "(Ljava/lang/String;)Ljava/lang/StringBuilder;"⟩ : MethodName)) (z := (⟨"java/lang/StringBuilder", "append", "(Ljava/lang/String;)Ljava/lang/StringBuilder;"⟩ : MethodName)) hown11 (mvT hZ11 (hw _ (M 77))) (mvT hZ11 (hw _ (M 78))) (notFace_of_selects (args := #[]) (mvT hZ11 (hw _ (M 80)))) (mvT hZ11 (hw _ (M 80))) (mvT hZ11 (hw _ (M 79))) (by decide) (backOf (W := 0) ((bAppG l Z a0 hw b1 vb10 kb10 (16 : Int32) (15 : Int32) tx_10 c11 sb11 kS11 (9 : Int32) tx_7 zc (24 : Int32) (8 : Int32) (18 : Int32) (34 : Int32) tx_11 tx_12 h11 n0 (Nat.le_trans Z0 K11.1) ⟨(Bq10.1.ext E11), (Bq10.2.1.ext E11), (Bq10.2.2.1.ext E11), (Bq10.2.2.2.1.ext E11), (Bq10.2.2.2.2.ext E11)⟩ ⟨Es11, Fc11, Fv11, Va11⟩ ((own_sta_keepN f7 Kq10 (nsS (Bq4.1.nostat) (nsS (Bq4.2.2.2.2.nostat) ns0))).ext E11) hz g_b1 g_vb10 (Ne.symm (hn11 vb10 Sf11_vb10).2) (by decide) (by decide) (by decide) (by decide) (by decide) (by decide) (by decide) (by decide) (by decide) (by decide) (by decide) (by decide) (Nat.le_of_ble_eq_true rfl) (by decide) (Nat.le_of_ble_eq_true rfl) (by decide) (by decide) (by rfl) (Nat.le_of_ble_eq_true rfl) (Nat.le_of_ble_eq_true rfl) (by rfl)) []) hZ11 (hw _ (M 81)) (hw _ (M 60)) (by decide) (by decide)) q12a q12c (g := (mkF m 21 #[.val (.ref oc), .val (.int (0 : Int32))] [(.ref c11), (.ref b1)])) rfl (by rw [hml]; rfl) (Steps.refl _) (argsL := [(.ref c11)]) (rest := []) (lenOf pd_oLjava_lang_String_cLjava_lang_StringBuilder_ rfl) rfl (by show 2 * 0 + _ ≤ _; exact Nat.le_of_eq rfl) (hb hby d8_21) (fun _ _ => ⟨rfl, e11, (by decide : 6 + 1 ≤ _), (by decide : 120 + 70 ≤ _)⟩)
  dsimp only [Pt.U, Pt.locs, Pt.cells, Pt.slots] at X12 l12 y12 z12 st12 hQ12
  subst l12 y12 z12
  obtain ⟨vb12, kb12, rfl, N12q, Kq12, or12, gg12, Bq12⟩ := hQ12
  have sz_vb12 : h0.size ≤ vb12 := or12.elim (fun q => by rw [q]; exact sz_vb10) (fun q => Nat.le_trans K11.1 q)
  have g_vb12 : n0 ≤ vb12 := gg12
  have Sn12 : Safe Z consts_1 T11.vm h11 vb12 := or12.elim (fun q => by rw [q]; exact Sf11_vb10) (fun q => Safe.new q)
  have ne_b1_vb12 : b1 ≠ vb12 := or12.elim (fun q => by rw [q]; exact ne_b1_vb10) (fun q => Nat.ne_of_lt (Nat.lt_of_lt_of_le (Bq10.1.ext E11).lt q))
  have ne_d1_vb12 : d1 ≠ vb12 := or12.elim (fun q => by rw [q]; exact ne_d1_vb10) (fun q => Nat.ne_of_lt (Nat.lt_of_lt_of_le ((own_arr_keep f9 Kq10 (ninS ne_d1_b1 (ninS ne_d1_vb4 nin0))).ext E11).lt q))
  have ne_oc_vb12 : oc ≠ vb12 := or12.elim (fun q => by rw [q]; exact ne_oc_vb10) (fun q => Nat.ne_of_lt (Nat.lt_of_lt_of_le ((((((B0.1.ext E1).keep Kq2).ext E3).keep Kq4).keep Kq10).ext E11).lt q))
  have K12 : Keep h0 T12.heap [] := K11.trans Kq12 (allS (Or.inr sz_b1) (allS (Or.inr sz_vb10) all0))
  have Ch12 : CHr Z consts_1 s.vm h0 T11.vm T12.heap := Ch11.trans (CHr.keep Kq12 (sfS Sf11_b1 (sfS Sf11_vb10 sf0)) Ch11.1)
  have Sf12_b1 : Safe Z consts_1 T11.vm T12.heap b1 := Safe.keep Kq12 (sfS Sf11_b1 (sfS Sf11_vb10 sf0)) Ch11.1 Sf11_b1
  have Sf12_vb10 : Safe Z consts_1 T11.vm T12.heap vb10 := Safe.keep Kq12 (sfS Sf11_b1 (sfS Sf11_vb10 sf0)) Ch11.1 Sf11_vb10
  have Sf12_vb12 : Safe Z consts_1 T11.vm T12.heap vb12 := Safe.keep Kq12 (sfS Sf11_b1 (sfS Sf11_vb10 sf0)) Ch11.1 Sn12
  have hkk12 : k11 ≤ T12.heap.size := Nat.le_trans hk11 Kq12.1
  have N12 := Fr.app N10 N12q
  have f13 := (((((((B0.2.2.2.1.ext E1).keep Kq2 (ninS ne_oc_b1 nin0)).ext E3).keep Kq4 (ninS ne_oc_b1 (ninS ne_oc_va2 nin0))).keep Kq10 (ninS ne_oc_b1 (ninS ne_oc_vb4 nin0))).ext E11).keep Kq12 (ninS ne_oc_b1 (ninS ne_oc_vb10 nin0)))
  obtain ⟨T14, X14, e14, st14⟩ := getF X12 hx hZ11 hown11 (host := "") (Or.inl (hw _ (M 19))) Via.refl rfl f13 (g := (mkF m 25 #[.val (.ref oc), .val (.int (0 : Int32))] [(.ref oc), (.ref b1)])) rfl rfl (hb hby d8_25)
  have f15 := (own_sta_keepN ((own_sta_keepN f7 Kq10 (nsS (Bq4.1.nostat) (nsS (Bq4.2.2.2.2.nostat) ns0))).ext E11) Kq12 (nsS ((Bq10.1.ext E11).nostat) (nsS ((Bq10.2.2.2.2.ext E11).nostat) ns0)))
  have f16 := (own_sta_keepN ((own_sta_keepN f8 Kq10 (nsS (Bq4.1.nostat) (nsS (Bq4.2.2.2.2.nostat) ns0))).ext E11) Kq12 (nsS ((Bq10.1.ext E11).nostat) (nsS ((Bq10.2.2.2.2.ext E11).nostat) ns0)))
  have f17 := (own_arr_keep ((own_arr_keep f9 Kq10 (ninS ne_d1_b1 (ninS ne_d1_vb4 nin0))).ext E11) Kq12 (ninS ne_d1_b1 (ninS ne_d1_vb10 nin0)))
  obtain ⟨cq18, kq18, q18a, q18b, q18c⟩ := isOf hZ11 e14 Bq12.1
  obtain ⟨_, _, ⟨T18, L18, k18, n18⟩, -, X18, ⟨Lc18, hQ18, l18, y18, z18⟩, st18⟩ := X14.virtualBack hx (y := (⟨"java/lang/StringBuilder", "append", "(J)Ljava/lang/StringBuilder;"⟩ : MethodName)) (z := (⟨"java/lang/StringBuilder", "append", "(J)Ljava/lang/StringBuilder;"⟩ : MethodName)) hown11 (mvT hZ11 (hw _ (M 127))) (mvT hZ11 (hw _ (M 128))) (notFace_of_selects (args := #[]) (mvT hZ11 (hw _ (M 130)))) (mvT hZ11 (hw _ (M 130))) (mvT hZ11 (hw _ (M 129))) (by decide) (backOf (W := 0) ((bAppJ l Z a0 hw b1 vb12 kb12 (34 : Int32) (24 : Int32) tx_12 zc (25 : Int32) (-9 : Int32) tx_13 d1 cd T12.heap n0 (Nat.le_trans Z0 K12.1) ⟨Bq12.1, Bq12.2.1, Bq12.2.2.1, Bq12.2.2.2.1, Bq12.2.2.2.2⟩ f15 hz g_b1 g_vb12 (by decide) (by decide) (by decide) f16 f17 hind hatd (by decide) (by decide) (Nat.le_of_ble_eq_true rfl) (by rfl)) []) hZ11 (hw _ (M 131)) (hw _ (M 60)) (by decide) (by decide)) q18a q18c (g := (mkF m 28 #[.val (.ref oc), .val (.int (0 : Int32))] [(.long (0 : Int64)), (.ref b1)])) rfl (by rw [hml]; rfl) (Steps.refl _) (argsL := [(.long (0 : Int64))]) (rest := []) (lenOf pd_oJcLjava_lang_StringBuilder_ rfl) rfl (by show 2 * 0 + _ ≤ _; exact Nat.le_of_eq rfl) (hb hby d8_28) (fun _ _ => ⟨rfl, e14, (by decide : 7 + 0 ≤ _), (by decide : 190 + 0 ≤ _)⟩)
  dsimp only [Pt.U, Pt.locs, Pt.cells, Pt.slots] at X18 l18 y18 z18 st18 hQ18
  subst l18 y18 z18
  obtain ⟨vb18, kb18, rfl, N18q, Kq18, or18, gg18, Bq18⟩ := hQ18
  have sz_vb18 : h0.size ≤ vb18 := or18.elim (fun q => by rw [q]; exact sz_vb12) (fun q => Nat.le_trans K12.1 q)
  have g_vb18 : n0 ≤ vb18 := gg18
  have Sn18 : Safe Z consts_1 T11.vm T12.heap vb18 := or18.elim (fun q => by rw [q]; exact Sf12_vb12) (fun q => Safe.new q)
  have ne_b1_vb18 : b1 ≠ vb18 := or18.elim (fun q => by rw [q]; exact ne_b1_vb12) (fun q => Nat.ne_of_lt (Nat.lt_of_lt_of_le Bq12.1.lt q))
  have ne_d1_vb18 : d1 ≠ vb18 := or18.elim (fun q => by rw [q]; exact ne_d1_vb12) (fun q => Nat.ne_of_lt (Nat.lt_of_lt_of_le f17.lt q))
  have ne_oc_vb18 : oc ≠ vb18 := or18.elim (fun q => by rw [q]; exact ne_oc_vb12) (fun q => Nat.ne_of_lt (Nat.lt_of_lt_of_le (((((((B0.1.ext E1).keep Kq2).ext E3).keep Kq4).keep Kq10).ext E11).keep Kq12).lt q))
  have K18 : Keep h0 T18.heap [] := K12.trans Kq18 (allS (Or.inr sz_b1) (allS (Or.inr sz_vb12) all0))
  have Ch18 : CHr Z consts_1 s.vm h0 T11.vm T18.heap := Ch12.trans (CHr.keep Kq18 (sfS Sf12_b1 (sfS Sf12_vb12 sf0)) Ch12.1)
  have Sf18_b1 : Safe Z consts_1 T11.vm T18.heap b1 := Safe.keep Kq18 (sfS Sf12_b1 (sfS Sf12_vb12 sf0)) Ch12.1 Sf12_b1
  have Sf18_vb12 : Safe Z consts_1 T11.vm T18.heap vb12 := Safe.keep Kq18 (sfS Sf12_b1 (sfS Sf12_vb12 sf0)) Ch12.1 Sf12_vb12
  have Sf18_vb18 : Safe Z consts_1 T11.vm T18.heap vb18 := Safe.keep Kq18 (sfS Sf12_b1 (sfS Sf12_vb12 sf0)) Ch12.1 Sn18
  have hkk18 : k11 ≤ T18.heap.size := Nat.le_trans hkk12 Kq18.1
  have N18 := Fr.app N12 N18q
  have f19 := ((((((((B0.2.1.ext E1).keep Kq2 (ninS ne_oc_b1 nin0)).ext E3).keep Kq4 (ninS ne_oc_b1 (ninS ne_oc_va2 nin0))).keep Kq10 (ninS ne_oc_b1 (ninS ne_oc_vb4 nin0))).ext E11).keep Kq12 (ninS ne_oc_b1 (ninS ne_oc_vb10 nin0))).keep Kq18 (ninS ne_oc_b1 (ninS ne_oc_vb12 nin0)))
  obtain ⟨T20, X20, e20, st20⟩ := getF X18 hx hZ11 hown11 (host := "") (Or.inl (hw _ (M 15))) Via.refl rfl f19 (g := (mkF m 32 #[.val (.ref oc), .val (.int (0 : Int32))] [(.ref oc), (.ref b1)])) rfl rfl (hb hby d8_32)
  have f21 := (own_sta_keepN (own_sta_keepN ((own_sta_keepN (own_sta_keepN ((own_sta_keepN (S_SKIP.ext E1) Kq2 (nsS (A1.nostat) ns0)).ext E3) Kq4 (nsS ((Bq2.1.ext E3).nostat) (nsS ((Bq2.2.2.2.2.ext E3).nostat) ns0))) Kq10 (nsS (Bq4.1.nostat) (nsS (Bq4.2.2.2.2.nostat) ns0))).ext E11) Kq12 (nsS ((Bq10.1.ext E11).nostat) (nsS ((Bq10.2.2.2.2.ext E11).nostat) ns0))) Kq18 (nsS (Bq12.1.nostat) (nsS (Bq12.2.2.2.2.nostat) ns0)))
  obtain ⟨T22, X22, e22, st22⟩ := getS2 X20 hx hZ11 hown11 (host := "") (Or.inl (hw _ (M 176))) Via.refl e20 f21 (g := (mkF m 35 #[.val (.ref oc), .val (.int (0 : Int32))] [(.ref sk), (.ref b1)])) rfl (hb hby d8_35)
  obtain ⟨T23, h23, X23, e23, E23, A23, D23, -, st23⟩ := newO X22 hx hZ11 hown11 (hw _ (M 58)) (hw _ (M 59)) (hw _ (M 60)) e22 (g := (mkF m 41 #[.val (.ref oc), .val (.int (0 : Int32))] [(.ref b1)])) rfl (hb hby d8_41) (by decide) (by decide)
  obtain ⟨b23, g23⟩ : ∃ z, z = T18.heap.size := ⟨_, rfl⟩
  rw [← g23] at A23 D23 st23
  have sz_b23 : h0.size ≤ b23 := Nat.le_trans K18.1 (Nat.le_of_eq g23.symm)
  have g_b23 : n0 ≤ b23 := Nat.le_trans Z0 sz_b23
  have ne_b1_b23 : b1 ≠ b23 := Nat.ne_of_lt (Nat.lt_of_lt_of_le Bq18.1.lt (Nat.le_of_eq g23.symm))
  have ne_d1_b23 : d1 ≠ b23 := Nat.ne_of_lt (Nat.lt_of_lt_of_le (own_arr_keep f17 Kq18 (ninS ne_d1_b1 (ninS ne_d1_vb12 nin0))).lt (Nat.le_of_eq g23.symm))
  have ne_oc_b23 : oc ≠ b23 := Nat.ne_of_lt (Nat.lt_of_lt_of_le ((((((((B0.1.ext E1).keep Kq2).ext E3).keep Kq4).keep Kq10).ext E11).keep Kq12).keep Kq18).lt (Nat.le_of_eq g23.symm))
  have ne_vb18_b23 : vb18 ≠ b23 := Nat.ne_of_lt (Nat.lt_of_lt_of_le Bq18.2.2.2.2.lt (Nat.le_of_eq g23.symm))
  have K23 : Keep h0 h23 [] := K18.ext E23
  have F_value_b23 : Fld Z h23 b23 "java/lang/AbstractStringBuilder" "value" "[B" .null := D23 (Or.inl (hw _ (M 73))) (ty := (.array .byte)) (by decide)
  have F_coder_b23 : Fld Z h23 b23 "java/lang/AbstractStringBuilder" "coder" "B" (.int (0 : Int32)) := D23 (Or.inl (hw _ (M 75))) (ty := .byte) (by decide)
  have F_count_b23 : Fld Z h23 b23 "java/lang/AbstractStringBuilder" "count" "I" (.int (0 : Int32)) := D23 (Or.inl (hw _ (M 101))) (ty := .int) (by decide)
  have Ch23 : CHr Z consts_1 s.vm h0 T11.vm h23 := Ch18.trans (CHr.ext E23 Ch18.1)
  have Sf23_b1 : Safe Z consts_1 T11.vm h23 b1 := Safe.ext E23 Ch18.1 Sf18_b1
  have Sf23_vb18 : Safe Z consts_1 T11.vm h23 vb18 := Safe.ext E23 Ch18.1 Sf18_vb18
  have Sf23_b23 : Safe Z consts_1 T11.vm h23 b23 := Safe.ext E23 Ch18.1 (Safe.new (Nat.le_of_eq g23.symm))
  have hkk23 : k11 ≤ h23.size := Nat.le_trans hkk18 E23.1
  obtain ⟨_, _, ⟨T24, L24, k24, n24⟩, -, X24, ⟨Lc24, hQ24, l24, y24, z24⟩, st24⟩ := X23.specialBack hx (y := (⟨"java/lang/StringBuilder", "<init>", "()V"⟩ : MethodName)) rfl hown11 (mvT hZ11 (hw _ (M 61))) (mvT hZ11 (hw _ (M 62))) (mvT hZ11 (hw _ (M 63))) (by decide) (backOf (W := 2) ((bInit l Z a0 hw zc b23 h23 n0 (Nat.le_trans Z0 K23.1) ((own_sta_keepN f15 Kq18 (nsS (Bq12.1.nostat) (nsS (Bq12.2.2.2.2.nostat) ns0))).ext E23) hz A23 F_value_b23 F_coder_b23 F_count_b23 g_b23) []) hZ11 (hw _ (M 63)) (hw _ (M 60)) (by decide) (by decide)) (g := (mkF m 45 #[.val (.ref oc), .val (.int (0 : Int32))] [(.ref b23), (.ref b23), (.ref b1)])) rfl (by rw [hml]; rfl) (Steps.refl _) (a := b23) (argsL := []) (rest := [(.ref b23), (.ref b1)]) (lenOf pd_ocV rfl) rfl (by show 2 * 0 + _ ≤ _; exact Nat.le_of_eq rfl) (hb hby d8_45) (fun _ _ => ⟨rfl, e23, (by decide : 8 + 1 ≤ _), (by decide : 194 + 16 ≤ _)⟩)
  dsimp only [Pt.U, Pt.locs, Pt.cells, Pt.slots] at X24 l24 y24 z24 st24 hQ24
  subst l24 y24 z24
  have f25 := (((((((((B0.1.ext E1).keep Kq2).ext E3).keep Kq4).keep Kq10).ext E11).keep Kq12).keep Kq18).ext E23)
  obtain ⟨va24, kA24, rfl, N24q, Kq24, sz24q, Bq24⟩ := hQ24
  have sz_va24 : h0.size ≤ va24 := Nat.le_trans K23.1 sz24q
  have g_va24 : n0 ≤ va24 := Nat.le_trans Z0 sz_va24
  have ne_b1_va24 : b1 ≠ va24 := Nat.ne_of_lt (Nat.lt_of_lt_of_le (Bq18.1.ext E23).lt sz24q)
  have ne_b23_va24 : b23 ≠ va24 := Nat.ne_of_lt (Nat.lt_of_lt_of_le A23.lt sz24q)
  have ne_d1_va24 : d1 ≠ va24 := Nat.ne_of_lt (Nat.lt_of_lt_of_le ((own_arr_keep f17 Kq18 (ninS ne_d1_b1 (ninS ne_d1_vb12 nin0))).ext E23).lt sz24q)
  have ne_oc_va24 : oc ≠ va24 := Nat.ne_of_lt (Nat.lt_of_lt_of_le f25.lt sz24q)
  have ne_vb18_va24 : vb18 ≠ va24 := Nat.ne_of_lt (Nat.lt_of_lt_of_le (Bq18.2.2.2.2.ext E23).lt sz24q)
  have K24 : Keep h0 T24.heap [] := K23.trans Kq24 (allS (Or.inr sz_b23) all0)
  have Ch24 : CHr Z consts_1 s.vm h0 T11.vm T24.heap := Ch23.trans (CHr.keep Kq24 (sfS Sf23_b23 sf0) Ch23.1)
  have Sf24_b1 : Safe Z consts_1 T11.vm T24.heap b1 := Safe.keep Kq24 (sfS Sf23_b23 sf0) Ch23.1 Sf23_b1
  have Sf24_vb18 : Safe Z consts_1 T11.vm T24.heap vb18 := Safe.keep Kq24 (sfS Sf23_b23 sf0) Ch23.1 Sf23_vb18
  have Sf24_b23 : Safe Z consts_1 T11.vm T24.heap b23 := Safe.keep Kq24 (sfS Sf23_b23 sf0) Ch23.1 Sf23_b23
  have Sf24_va24 : Safe Z consts_1 T11.vm T24.heap va24 := Safe.keep Kq24 (sfS Sf23_b23 sf0) Ch23.1 (Safe.new sz24q)
  have hkk24 : k11 ≤ T24.heap.size := Nat.le_trans hkk23 Kq24.1
  have N24 := Fr.app N18 N24q
  have f27 := (own_arr_keep ((own_arr_keep f17 Kq18 (ninS ne_d1_b1 (ninS ne_d1_vb12 nin0))).ext E23) Kq24 (ninS ne_d1_b23 nin0))
  obtain ⟨c26, T26, h26, k26, sb26, kS26, X26, e26, E26, hS26, hk26, hZ26, hown26, Es26, Fc26, Fv26, Va26, -, -, CR26, -, hn26, st26⟩ := ldcCH (s := s) (vm0 := T11.vm) X24 hx hZ11 hown11 (hw _ (M 235)) (own_strA hw) rfl hS11 hkk24 (own_EW hw) (List.mem_of_getElem? (i := 2) rfl) Ch24.1 lit_6 (z := (9 : Int32)) (by decide) (by rfl) (g := (mkF m 48 #[.val (.ref oc), .val (.int (0 : Int32))] [(.ref b23), (.ref b1)])) rfl (hb hby d8_48) (n := 36) (by decide) (by decide) (by decide) (by decide)
  have K26 : Keep h0 h26 [] := K24.ext E26
  have Ch26 : CHr Z consts_1 s.vm h0 T26.vm h26 := Ch24.trans CR26
  have Sf26_b1 : Safe Z consts_1 T26.vm h26 b1 := CHr.safe CR26 ((Bq18.1.ext E23).keep Kq24).lt Sf24_b1
  have Sf26_vb18 : Safe Z consts_1 T26.vm h26 vb18 := CHr.safe CR26 ((Bq18.2.2.2.2.ext E23).keep Kq24 (ninS ne_vb18_b23 nin0)).lt Sf24_vb18
  have Sf26_b23 : Safe Z consts_1 T26.vm h26 b23 := CHr.safe CR26 Bq24.1.lt Sf24_b23
  have Sf26_va24 : Safe Z consts_1 T26.vm h26 va24 := CHr.safe CR26 Bq24.2.2.2.2.lt Sf24_va24
  have f28 := ((own_sta_keepN ((own_sta_keepN f15 Kq18 (nsS (Bq12.1.nostat) (nsS (Bq12.2.2.2.2.nostat) ns0))).ext E23) Kq24 (nsS (A23.nostat) ns0)).ext E26)
  obtain ⟨cq29, kq29, q29a, q29b, q29c⟩ := isOf hZ26 e26 (Bq24.1.ext E26)
  obtain ⟨_, _, ⟨T29, L29, k29, n29⟩, -, X29, ⟨Lc29, hQ29, l29, y29, z29⟩, st29⟩ := X26.virtualBack hx (y := (⟨"java/lang/StringBuilder", "append", "(Ljava/lang/String;)Ljava/lang/StringBuilder;"⟩ : MethodName)) (z := (⟨"java/lang/StringBuilder", "append", "(Ljava/lang/String;)Ljava/lang/StringBuilder;"⟩ : MethodName)) hown26 (mvT hZ26 (hw _ (M 77))) (mvT hZ26 (hw _ (M 78))) (notFace_of_selects (args := #[]) (mvT hZ26 (hw _ (M 80)))) (mvT hZ26 (hw _ (M 80))) (mvT hZ26 (hw _ (M 79))) (by decide) (backOf (W := 1) ((bAppN l Z a0 hw b23 va24 kA24 (16 : Int32) (0 : Int32) (List.replicate (16 : Int32).toNatClampNeg (.int (0 : Int32))) c26 sb26 kS26 (9 : Int32) tx_6 zc (9 : Int32) (-7 : Int32) tx_14 h26 n0 (Nat.le_trans Z0 K26.1) ⟨(Bq24.1.ext E26), (Bq24.2.1.ext E26), (Bq24.2.2.1.ext E26), (Bq24.2.2.2.1.ext E26), (Bq24.2.2.2.2.ext E26)⟩ ⟨Es26, Fc26, Fv26, Va26⟩ f28 hz g_b23 g_va24 (Ne.symm (hn26 va24 Sf26_va24).2) (by decide) (by decide) (by decide) (by decide) (by decide) (Nat.le_of_ble_eq_true rfl) (Nat.le_of_ble_eq_true rfl) (by rfl)) []) hZ26 (hw _ (M 81)) (hw _ (M 60)) (by decide) (by decide)) q29a q29c (g := (mkF m 50 #[.val (.ref oc), .val (.int (0 : Int32))] [(.ref c26), (.ref b23), (.ref b1)])) rfl (by rw [hml]; rfl) (Steps.refl _) (argsL := [(.ref c26)]) (rest := [(.ref b1)]) (lenOf pd_oLjava_lang_String_cLjava_lang_StringBuilder_ rfl) rfl (by show 2 * 0 + _ ≤ _; exact Nat.le_of_eq rfl) (hb hby d8_50) (fun _ _ => ⟨rfl, e26, (by decide : 11 + 0 ≤ _), (by decide : 250 + 0 ≤ _)⟩)
  dsimp only [Pt.U, Pt.locs, Pt.cells, Pt.slots] at X29 l29 y29 z29 st29 hQ29
  subst l29 y29 z29
  obtain ⟨vb29, kb29, rfl, N29q, Kq29, or29, gg29, Bq29⟩ := hQ29
  have sz_vb29 : h0.size ≤ vb29 := or29.elim (fun q => by rw [q]; exact sz_va24) (fun q => Nat.le_trans K26.1 q)
  have g_vb29 : n0 ≤ vb29 := gg29
  have Sn29 : Safe Z consts_1 T26.vm h26 vb29 := or29.elim (fun q => by rw [q]; exact Sf26_va24) (fun q => Safe.new q)
  have ne_b1_vb29 : b1 ≠ vb29 := or29.elim (fun q => by rw [q]; exact ne_b1_va24) (fun q => Nat.ne_of_lt (Nat.lt_of_lt_of_le (((Bq18.1.ext E23).keep Kq24).ext E26).lt q))
  have ne_b23_vb29 : b23 ≠ vb29 := or29.elim (fun q => by rw [q]; exact ne_b23_va24) (fun q => Nat.ne_of_lt (Nat.lt_of_lt_of_le (Bq24.1.ext E26).lt q))
  have ne_d1_vb29 : d1 ≠ vb29 := or29.elim (fun q => by rw [q]; exact ne_d1_va24) (fun q => Nat.ne_of_lt (Nat.lt_of_lt_of_le (f27.ext E26).lt q))
  have ne_oc_vb29 : oc ≠ vb29 := or29.elim (fun q => by rw [q]; exact ne_oc_va24) (fun q => Nat.ne_of_lt (Nat.lt_of_lt_of_le ((f25.keep Kq24).ext E26).lt q))
  have ne_vb18_vb29 : vb18 ≠ vb29 := or29.elim (fun q => by rw [q]; exact ne_vb18_va24) (fun q => Nat.ne_of_lt (Nat.lt_of_lt_of_le (((Bq18.2.2.2.2.ext E23).keep Kq24 (ninS ne_vb18_b23 nin0)).ext E26).lt q))
  have K29 : Keep h0 T29.heap [] := K26.trans Kq29 (allS (Or.inr sz_b23) (allS (Or.inr sz_va24) all0))
  have Ch29 : CHr Z consts_1 s.vm h0 T26.vm T29.heap := Ch26.trans (CHr.keep Kq29 (sfS Sf26_b23 (sfS Sf26_va24 sf0)) Ch26.1)
  have Sf29_b1 : Safe Z consts_1 T26.vm T29.heap b1 := Safe.keep Kq29 (sfS Sf26_b23 (sfS Sf26_va24 sf0)) Ch26.1 Sf26_b1
  have Sf29_vb18 : Safe Z consts_1 T26.vm T29.heap vb18 := Safe.keep Kq29 (sfS Sf26_b23 (sfS Sf26_va24 sf0)) Ch26.1 Sf26_vb18
  have Sf29_b23 : Safe Z consts_1 T26.vm T29.heap b23 := Safe.keep Kq29 (sfS Sf26_b23 (sfS Sf26_va24 sf0)) Ch26.1 Sf26_b23
  have Sf29_va24 : Safe Z consts_1 T26.vm T29.heap va24 := Safe.keep Kq29 (sfS Sf26_b23 (sfS Sf26_va24 sf0)) Ch26.1 Sf26_va24
  have Sf29_vb29 : Safe Z consts_1 T26.vm T29.heap vb29 := Safe.keep Kq29 (sfS Sf26_b23 (sfS Sf26_va24 sf0)) Ch26.1 Sn29
  have hkk29 : k26 ≤ T29.heap.size := Nat.le_trans hk26 Kq29.1
  have N29 := Fr.app N24 N29q
  have f30 := ((((((((((((B0.2.2.2.2.1.ext E1).keep Kq2 (ninS ne_oc_b1 nin0)).ext E3).keep Kq4 (ninS ne_oc_b1 (ninS ne_oc_va2 nin0))).keep Kq10 (ninS ne_oc_b1 (ninS ne_oc_vb4 nin0))).ext E11).keep Kq12 (ninS ne_oc_b1 (ninS ne_oc_vb10 nin0))).keep Kq18 (ninS ne_oc_b1 (ninS ne_oc_vb12 nin0))).ext E23).keep Kq24 (ninS ne_oc_b23 nin0)).ext E26).keep Kq29 (ninS ne_oc_b23 (ninS ne_oc_va24 nin0)))
  obtain ⟨T31, X31, e31, st31⟩ := getF X29 hx hZ26 hown26 (host := "") (Or.inl (hw _ (M 21))) Via.refl rfl f30 (g := (mkF m 54 #[.val (.ref oc), .val (.int (0 : Int32))] [(.ref oc), (.ref b23), (.ref b1)])) rfl rfl (hb hby d8_54)
  have f32 := (own_sta_keepN f28 Kq29 (nsS ((Bq24.1.ext E26).nostat) (nsS ((Bq24.2.2.2.2.ext E26).nostat) ns0)))
  have f33 := (own_sta_keepN ((own_sta_keepN ((own_sta_keepN f16 Kq18 (nsS (Bq12.1.nostat) (nsS (Bq12.2.2.2.2.nostat) ns0))).ext E23) Kq24 (nsS (A23.nostat) ns0)).ext E26) Kq29 (nsS ((Bq24.1.ext E26).nostat) (nsS ((Bq24.2.2.2.2.ext E26).nostat) ns0)))
  obtain ⟨cq34, kq34, q34a, q34b, q34c⟩ := isOf hZ26 e31 Bq29.1
  obtain ⟨_, _, ⟨T34, L34, k34, n34⟩, -, X34, ⟨Lc34, hQ34, l34, y34, z34⟩, st34⟩ := X31.virtualBack hx (y := (⟨"java/lang/StringBuilder", "append", "(J)Ljava/lang/StringBuilder;"⟩ : MethodName)) (z := (⟨"java/lang/StringBuilder", "append", "(J)Ljava/lang/StringBuilder;"⟩ : MethodName)) hown26 (mvT hZ26 (hw _ (M 127))) (mvT hZ26 (hw _ (M 128))) (notFace_of_selects (args := #[]) (mvT hZ26 (hw _ (M 130)))) (mvT hZ26 (hw _ (M 130))) (mvT hZ26 (hw _ (M 129))) (by decide) (backOf (W := 1) ((bAppJ l Z a0 hw b23 vb29 kb29 (16 : Int32) (9 : Int32) tx_14 zc (10 : Int32) (-6 : Int32) tx_15 d1 cd T29.heap n0 (Nat.le_trans Z0 K29.1) ⟨Bq29.1, Bq29.2.1, Bq29.2.2.1, Bq29.2.2.2.1, Bq29.2.2.2.2⟩ f32 hz g_b23 g_vb29 (by decide) (by decide) (by decide) f33 (own_arr_keep (f27.ext E26) Kq29 (ninS ne_d1_b23 (ninS ne_d1_va24 nin0))) hind hatd (by decide) (by decide) (Nat.le_of_ble_eq_true rfl) (by rfl)) []) hZ26 (hw _ (M 131)) (hw _ (M 60)) (by decide) (by decide)) q34a q34c (g := (mkF m 57 #[.val (.ref oc), .val (.int (0 : Int32))] [(.long (0 : Int64)), (.ref b23), (.ref b1)])) rfl (by rw [hml]; rfl) (Steps.refl _) (argsL := [(.long (0 : Int64))]) (rest := [(.ref b1)]) (lenOf pd_oJcLjava_lang_StringBuilder_ rfl) rfl (by show 2 * 0 + _ ≤ _; exact Nat.le_of_eq rfl) (hb hby d8_57) (fun _ _ => ⟨rfl, e31, (by decide : 11 + 0 ≤ _), (by decide : 250 + 0 ≤ _)⟩)
  dsimp only [Pt.U, Pt.locs, Pt.cells, Pt.slots] at X34 l34 y34 z34 st34 hQ34
  subst l34 y34 z34
  have f35 := ((((Bq18.2.2.2.2.ext E23).keep Kq24 (ninS ne_vb18_b23 nin0)).ext E26).keep Kq29 (ninS ne_vb18_b23 (ninS ne_vb18_va24 nin0)))
  obtain ⟨vb34, kb34, rfl, N34q, Kq34, or34, gg34, Bq34⟩ := hQ34
  have sz_vb34 : h0.size ≤ vb34 := or34.elim (fun q => by rw [q]; exact sz_vb29) (fun q => Nat.le_trans K29.1 q)
  have g_vb34 : n0 ≤ vb34 := gg34
  have Sn34 : Safe Z consts_1 T26.vm T29.heap vb34 := or34.elim (fun q => by rw [q]; exact Sf29_vb29) (fun q => Safe.new q)
  have ne_b1_vb34 : b1 ≠ vb34 := or34.elim (fun q => by rw [q]; exact ne_b1_vb29) (fun q => Nat.ne_of_lt (Nat.lt_of_lt_of_le ((((Bq18.1.ext E23).keep Kq24).ext E26).keep Kq29).lt q))
  have ne_b23_vb34 : b23 ≠ vb34 := or34.elim (fun q => by rw [q]; exact ne_b23_vb29) (fun q => Nat.ne_of_lt (Nat.lt_of_lt_of_le Bq29.1.lt q))
  have ne_d1_vb34 : d1 ≠ vb34 := or34.elim (fun q => by rw [q]; exact ne_d1_vb29) (fun q => Nat.ne_of_lt (Nat.lt_of_lt_of_le (own_arr_keep (f27.ext E26) Kq29 (ninS ne_d1_b23 (ninS ne_d1_va24 nin0))).lt q))
  have ne_oc_vb34 : oc ≠ vb34 := or34.elim (fun q => by rw [q]; exact ne_oc_vb29) (fun q => Nat.ne_of_lt (Nat.lt_of_lt_of_le (((f25.keep Kq24).ext E26).keep Kq29).lt q))
  have ne_vb18_vb34 : vb18 ≠ vb34 := or34.elim (fun q => by rw [q]; exact ne_vb18_vb29) (fun q => Nat.ne_of_lt (Nat.lt_of_lt_of_le f35.lt q))
  have K34 : Keep h0 T34.heap [] := K29.trans Kq34 (allS (Or.inr sz_b23) (allS (Or.inr sz_vb29) all0))
  have Ch34 : CHr Z consts_1 s.vm h0 T26.vm T34.heap := Ch29.trans (CHr.keep Kq34 (sfS Sf29_b23 (sfS Sf29_vb29 sf0)) Ch29.1)
  have Sf34_b1 : Safe Z consts_1 T26.vm T34.heap b1 := Safe.keep Kq34 (sfS Sf29_b23 (sfS Sf29_vb29 sf0)) Ch29.1 Sf29_b1
  have Sf34_vb18 : Safe Z consts_1 T26.vm T34.heap vb18 := Safe.keep Kq34 (sfS Sf29_b23 (sfS Sf29_vb29 sf0)) Ch29.1 Sf29_vb18
  have Sf34_b23 : Safe Z consts_1 T26.vm T34.heap b23 := Safe.keep Kq34 (sfS Sf29_b23 (sfS Sf29_vb29 sf0)) Ch29.1 Sf29_b23
  have Sf34_vb29 : Safe Z consts_1 T26.vm T34.heap vb29 := Safe.keep Kq34 (sfS Sf29_b23 (sfS Sf29_vb29 sf0)) Ch29.1 Sf29_vb29
  have Sf34_vb34 : Safe Z consts_1 T26.vm T34.heap vb34 := Safe.keep Kq34 (sfS Sf29_b23 (sfS Sf29_vb29 sf0)) Ch29.1 Sn34
  have hkk34 : k26 ≤ T34.heap.size := Nat.le_trans hkk29 Kq34.1
  have N34 := Fr.app N29 N34q
  obtain ⟨cq36, kq36, q36a, q36b, q36c⟩ := isOf hZ26 rfl Bq34.1
  obtain ⟨_, _, ⟨T36, L36, k36, n36⟩, -, X36, ⟨Lc36, hQ36, l36, y36, z36⟩, st36⟩ := X34.virtualBack hx (y := (⟨"java/lang/StringBuilder", "toString", "()Ljava/lang/String;"⟩ : MethodName)) (z := (⟨"java/lang/StringBuilder", "toString", "()Ljava/lang/String;"⟩ : MethodName)) hown26 (mvT hZ26 (hw _ (M 179))) (mvT hZ26 (hw _ (M 180))) (notFace_of_selects (args := #[]) (mvT hZ26 (hw _ (M 182)))) (mvT hZ26 (hw _ (M 182))) (mvT hZ26 (hw _ (M 181))) (by decide) (backOf (W := 1) ((bToS l Z a0 hw b23 vb34 kb34 (16 : Int32) (10 : Int32) tx_15 zc tx_16 T34.heap n0 (Nat.le_trans Z0 K34.1) ⟨Bq34.1, Bq34.2.1, Bq34.2.2.1, Bq34.2.2.2.1, Bq34.2.2.2.2⟩ (own_sta_keepN f32 Kq34 (nsS (Bq29.1.nostat) (nsS (Bq29.2.2.2.2.nostat) ns0))) hz (by decide) (Nat.le_of_ble_eq_true rfl) (by decide) (Nat.le_of_ble_eq_true rfl) (by rfl) (by decide)) []) hZ26 (hw _ (M 183)) (hw _ (M 60)) (by decide) (by decide)) q36a q36c (g := (mkF m 60 #[.val (.ref oc), .val (.int (0 : Int32))] [(.ref b23), (.ref b1)])) rfl (by rw [hml]; rfl) (Steps.refl _) (argsL := []) (rest := [(.ref b1)]) (lenOf pd_ocLjava_lang_String_ rfl) rfl (by show 2 * 0 + _ ≤ _; exact Nat.le_of_eq rfl) (hb hby d8_60) (fun _ _ => ⟨rfl, rfl, (by decide : 11 + 2 ≤ _), (by decide : 250 + 49 ≤ _)⟩)
  dsimp only [Pt.U, Pt.locs, Pt.cells, Pt.slots] at X36 l36 y36 z36 st36 hQ36
  subst l36 y36 z36
  have f37 := (own_arr_keep (own_arr_keep (f27.ext E26) Kq29 (ninS ne_d1_b23 (ninS ne_d1_va24 nin0))) Kq34 (ninS ne_d1_b23 (ninS ne_d1_vb29 nin0)))
  obtain ⟨os36, sr36, kS36, rfl, N36q, Kq36, so36q, sr36q, Tq36⟩ := hQ36
  have sz_os36 : h0.size ≤ os36 := Nat.le_trans K34.1 so36q
  have g_os36 : n0 ≤ os36 := Nat.le_trans Z0 sz_os36
  have ne_b1_os36 : b1 ≠ os36 := Nat.ne_of_lt (Nat.lt_of_lt_of_le (((((Bq18.1.ext E23).keep Kq24).ext E26).keep Kq29).keep Kq34).lt so36q)
  have ne_b23_os36 : b23 ≠ os36 := Nat.ne_of_lt (Nat.lt_of_lt_of_le Bq34.1.lt so36q)
  have ne_d1_os36 : d1 ≠ os36 := Nat.ne_of_lt (Nat.lt_of_lt_of_le f37.lt so36q)
  have ne_oc_os36 : oc ≠ os36 := Nat.ne_of_lt (Nat.lt_of_lt_of_le ((((f25.keep Kq24).ext E26).keep Kq29).keep Kq34).lt so36q)
  have ne_vb18_os36 : vb18 ≠ os36 := Nat.ne_of_lt (Nat.lt_of_lt_of_le (f35.keep Kq34 (ninS ne_vb18_b23 (ninS ne_vb18_vb29 nin0))).lt so36q)
  have ne_vb34_os36 : vb34 ≠ os36 := Nat.ne_of_lt (Nat.lt_of_lt_of_le Bq34.2.2.2.2.lt so36q)
  have sz_sr36 : h0.size ≤ sr36 := Nat.le_trans K34.1 sr36q
  have g_sr36 : n0 ≤ sr36 := Nat.le_trans Z0 sz_sr36
  have ne_b1_sr36 : b1 ≠ sr36 := Nat.ne_of_lt (Nat.lt_of_lt_of_le (((((Bq18.1.ext E23).keep Kq24).ext E26).keep Kq29).keep Kq34).lt sr36q)
  have ne_b23_sr36 : b23 ≠ sr36 := Nat.ne_of_lt (Nat.lt_of_lt_of_le Bq34.1.lt sr36q)
  have ne_d1_sr36 : d1 ≠ sr36 := Nat.ne_of_lt (Nat.lt_of_lt_of_le f37.lt sr36q)
  have ne_oc_sr36 : oc ≠ sr36 := Nat.ne_of_lt (Nat.lt_of_lt_of_le ((((f25.keep Kq24).ext E26).keep Kq29).keep Kq34).lt sr36q)
  have ne_vb18_sr36 : vb18 ≠ sr36 := Nat.ne_of_lt (Nat.lt_of_lt_of_le (f35.keep Kq34 (ninS ne_vb18_b23 (ninS ne_vb18_vb29 nin0))).lt sr36q)
  have ne_vb34_sr36 : vb34 ≠ sr36 := Nat.ne_of_lt (Nat.lt_of_lt_of_le Bq34.2.2.2.2.lt sr36q)
  have K36 : Keep h0 T36.heap [] := K34.trans Kq36 all0
  have Ch36 : CHr Z consts_1 s.vm h0 T26.vm T36.heap := Ch34.trans (CHr.keep Kq36 sf0 Ch34.1)
  have Sf36_b1 : Safe Z consts_1 T26.vm T36.heap b1 := Safe.keep Kq36 sf0 Ch34.1 Sf34_b1
  have Sf36_vb18 : Safe Z consts_1 T26.vm T36.heap vb18 := Safe.keep Kq36 sf0 Ch34.1 Sf34_vb18
  have Sf36_b23 : Safe Z consts_1 T26.vm T36.heap b23 := Safe.keep Kq36 sf0 Ch34.1 Sf34_b23
  have Sf36_vb34 : Safe Z consts_1 T26.vm T36.heap vb34 := Safe.keep Kq36 sf0 Ch34.1 Sf34_vb34
  have Sf36_os36 : Safe Z consts_1 T26.vm T36.heap os36 := Safe.keep Kq36 sf0 Ch34.1 (Safe.new so36q)
  have Sf36_sr36 : Safe Z consts_1 T26.vm T36.heap sr36 := Safe.keep Kq36 sf0 Ch34.1 (Safe.new sr36q)
  have hkk36 : k26 ≤ T36.heap.size := Nat.le_trans hkk34 Kq36.1
  have N36 := Fr.app N34 N36q
  have f38 := ((((((Bq18.2.1.ext E23).keep Kq24 (ninS ne_b1_b23 nin0)).ext E26).keep Kq29 (ninS ne_b1_b23 (ninS ne_b1_va24 nin0))).keep Kq34 (ninS ne_b1_b23 (ninS ne_b1_vb29 nin0))).keep Kq36 nin0)
  have f39 := ((((((Bq18.2.2.1.ext E23).keep Kq24 (ninS ne_b1_b23 nin0)).ext E26).keep Kq29 (ninS ne_b1_b23 (ninS ne_b1_va24 nin0))).keep Kq34 (ninS ne_b1_b23 (ninS ne_b1_vb29 nin0))).keep Kq36 nin0)
  have f40 := ((((((Bq18.2.2.2.1.ext E23).keep Kq24 (ninS ne_b1_b23 nin0)).ext E26).keep Kq29 (ninS ne_b1_b23 (ninS ne_b1_va24 nin0))).keep Kq34 (ninS ne_b1_b23 (ninS ne_b1_vb29 nin0))).keep Kq36 nin0)
  have f41 := (own_sta_keepN (own_sta_keepN f32 Kq34 (nsS (Bq29.1.nostat) (nsS (Bq29.2.2.2.2.nostat) ns0))) Kq36 ns0)
  obtain ⟨cq42, kq42, q42a, q42b, q42c⟩ := isOf hZ26 rfl ((((((Bq18.1.ext E23).keep Kq24).ext E26).keep Kq29).keep Kq34).keep Kq36)
  obtain ⟨_, _, ⟨T42, L42, k42, n42⟩, -, X42, ⟨Lc42, hQ42, l42, y42, z42⟩, st42⟩ := X36.virtualBack hx (y := (⟨"java/lang/StringBuilder", "append", "(Ljava/lang/String;)Ljava/lang/StringBuilder;"⟩ : MethodName)) (z := (⟨"java/lang/StringBuilder", "append", "(Ljava/lang/String;)Ljava/lang/StringBuilder;"⟩ : MethodName)) hown26 (mvT hZ26 (hw _ (M 77))) (mvT hZ26 (hw _ (M 78))) (notFace_of_selects (args := #[]) (mvT hZ26 (hw _ (M 80)))) (mvT hZ26 (hw _ (M 80))) (mvT hZ26 (hw _ (M 79))) (by decide) (backOf (W := 0) ((bAppG l Z a0 hw b1 vb18 kb18 (34 : Int32) (25 : Int32) tx_13 os36 sr36 kS36 (10 : Int32) tx_16 zc (35 : Int32) (1 : Int32) (36 : Int32) (70 : Int32) tx_17 tx_18 T36.heap n0 (Nat.le_trans Z0 K36.1) ⟨((((((Bq18.1.ext E23).keep Kq24).ext E26).keep Kq29).keep Kq34).keep Kq36), f38, f39, f40, ((f35.keep Kq34 (ninS ne_vb18_b23 (ninS ne_vb18_vb29 nin0))).keep Kq36 nin0)⟩ ⟨Tq36.1, Tq36.2.1, Tq36.2.2.1, Tq36.2.2.2⟩ f41 hz g_b1 g_vb18 (Ne.symm ne_vb18_sr36) (by decide) (by decide) (by decide) (by decide) (by decide) (by decide) (by decide) (by decide) (by decide) (by decide) (by decide) (by decide) (Nat.le_of_ble_eq_true rfl) (by decide) (Nat.le_of_ble_eq_true rfl) (by decide) (by decide) (by rfl) (Nat.le_of_ble_eq_true rfl) (Nat.le_of_ble_eq_true rfl) (by rfl)) []) hZ26 (hw _ (M 81)) (hw _ (M 60)) (by decide) (by decide)) q42a q42c (g := (mkF m 68 #[.val (.ref oc), .val (.int (0 : Int32))] [(.ref os36), (.ref b1)])) rfl (by rw [hml]; rfl) (Steps.refl _) (argsL := [(.ref os36)]) (rest := []) (lenOf pd_oLjava_lang_String_cLjava_lang_StringBuilder_ rfl) rfl (by show 2 * 0 + _ ≤ _; exact Nat.le_of_eq rfl) (hb hby d8_68) (fun _ _ => ⟨rfl, rfl, (by decide : 13 + 1 ≤ _), (by decide : 299 + 70 ≤ _)⟩)
  dsimp only [Pt.U, Pt.locs, Pt.cells, Pt.slots] at X42 l42 y42 z42 st42 hQ42
  subst l42 y42 z42
  obtain ⟨vb42, kb42, rfl, N42q, Kq42, or42, gg42, Bq42⟩ := hQ42
  have sz_vb42 : h0.size ≤ vb42 := or42.elim (fun q => by rw [q]; exact sz_vb18) (fun q => Nat.le_trans K36.1 q)
  have g_vb42 : n0 ≤ vb42 := gg42
  have Sn42 : Safe Z consts_1 T26.vm T36.heap vb42 := or42.elim (fun q => by rw [q]; exact Sf36_vb18) (fun q => Safe.new q)
  have ne_b1_vb42 : b1 ≠ vb42 := or42.elim (fun q => by rw [q]; exact ne_b1_vb18) (fun q => Nat.ne_of_lt (Nat.lt_of_lt_of_le ((((((Bq18.1.ext E23).keep Kq24).ext E26).keep Kq29).keep Kq34).keep Kq36).lt q))
  have ne_d1_vb42 : d1 ≠ vb42 := or42.elim (fun q => by rw [q]; exact ne_d1_vb18) (fun q => Nat.ne_of_lt (Nat.lt_of_lt_of_le (own_arr_keep f37 Kq36 nin0).lt q))
  have ne_oc_vb42 : oc ≠ vb42 := or42.elim (fun q => by rw [q]; exact ne_oc_vb18) (fun q => Nat.ne_of_lt (Nat.lt_of_lt_of_le (((((f25.keep Kq24).ext E26).keep Kq29).keep Kq34).keep Kq36).lt q))
  have K42 : Keep h0 T42.heap [] := K36.trans Kq42 (allS (Or.inr sz_b1) (allS (Or.inr sz_vb18) all0))
  have Ch42 : CHr Z consts_1 s.vm h0 T26.vm T42.heap := Ch36.trans (CHr.keep Kq42 (sfS Sf36_b1 (sfS Sf36_vb18 sf0)) Ch36.1)
  have Sf42_b1 : Safe Z consts_1 T26.vm T42.heap b1 := Safe.keep Kq42 (sfS Sf36_b1 (sfS Sf36_vb18 sf0)) Ch36.1 Sf36_b1
  have Sf42_vb18 : Safe Z consts_1 T26.vm T42.heap vb18 := Safe.keep Kq42 (sfS Sf36_b1 (sfS Sf36_vb18 sf0)) Ch36.1 Sf36_vb18
  have Sf42_vb42 : Safe Z consts_1 T26.vm T42.heap vb42 := Safe.keep Kq42 (sfS Sf36_b1 (sfS Sf36_vb18 sf0)) Ch36.1 Sn42
  have hkk42 : k26 ≤ T42.heap.size := Nat.le_trans hkk36 Kq42.1
  have N42 := Fr.app N36 N42q
  obtain ⟨c43, T43, h43, k43, sb43, kS43, X43, e43, E43, hS43, hk43, hZ43, hown43, Es43, Fc43, Fv43, Va43, -, -, CR43, -, hn43, st43⟩ := ldcCH (s := s) (vm0 := T26.vm) X42 hx hZ26 hown26 (hw _ (M 178)) (own_strA hw) rfl hS26 hkk42 (own_EW hw) (List.mem_of_getElem? (i := 3) rfl) Ch42.1 lit_5 (z := (0 : Int32)) (by decide) (by rfl) (g := (mkF m 100 #[.val (.ref oc), .val (.int (0 : Int32))] [(.ref b1)])) rfl (hb hby d8_100) (n := 0) (by decide) (by decide) (by decide) (by decide)
  have K43 : Keep h0 h43 [] := K42.ext E43
  have Ch43 : CHr Z consts_1 s.vm h0 T43.vm h43 := Ch42.trans CR43
  have Sf43_b1 : Safe Z consts_1 T43.vm h43 b1 := CHr.safe CR43 Bq42.1.lt Sf42_b1
  have Sf43_vb42 : Safe Z consts_1 T43.vm h43 vb42 := CHr.safe CR43 Bq42.2.2.2.2.lt Sf42_vb42
  have f44 := ((own_sta_keepN f41 Kq42 (nsS (((((((Bq18.1.ext E23).keep Kq24).ext E26).keep Kq29).keep Kq34).keep Kq36).nostat) (nsS (((f35.keep Kq34 (ninS ne_vb18_b23 (ninS ne_vb18_vb29 nin0))).keep Kq36 nin0).nostat) ns0))).ext E43)
  obtain ⟨cq45, kq45, q45a, q45b, q45c⟩ := isOf hZ43 e43 (Bq42.1.ext E43)
  obtain ⟨_, _, ⟨T45, L45, k45, n45⟩, -, X45, ⟨Lc45, hQ45, l45, y45, z45⟩, st45⟩ := X43.virtualBack hx (y := (⟨"java/lang/StringBuilder", "append", "(Ljava/lang/String;)Ljava/lang/StringBuilder;"⟩ : MethodName)) (z := (⟨"java/lang/StringBuilder", "append", "(Ljava/lang/String;)Ljava/lang/StringBuilder;"⟩ : MethodName)) hown43 (mvT hZ43 (hw _ (M 77))) (mvT hZ43 (hw _ (M 78))) (notFace_of_selects (args := #[]) (mvT hZ43 (hw _ (M 80)))) (mvT hZ43 (hw _ (M 80))) (mvT hZ43 (hw _ (M 79))) (by decide) (backOf (W := 0) ((bAppN l Z a0 hw b1 vb42 kb42 (70 : Int32) (35 : Int32) tx_18 c43 sb43 kS43 (0 : Int32) tx_5 zc (35 : Int32) (-35 : Int32) tx_18 h43 n0 (Nat.le_trans Z0 K43.1) ⟨(Bq42.1.ext E43), (Bq42.2.1.ext E43), (Bq42.2.2.1.ext E43), (Bq42.2.2.2.1.ext E43), (Bq42.2.2.2.2.ext E43)⟩ ⟨Es43, Fc43, Fv43, Va43⟩ f44 hz g_b1 g_vb42 (Ne.symm (hn43 vb42 Sf43_vb42).2) (by decide) (by decide) (by decide) (by decide) (by decide) (Nat.le_of_ble_eq_true rfl) (Nat.le_of_ble_eq_true rfl) (by rfl)) []) hZ43 (hw _ (M 81)) (hw _ (M 60)) (by decide) (by decide)) q45a q45c (g := (mkF m 102 #[.val (.ref oc), .val (.int (0 : Int32))] [(.ref c43), (.ref b1)])) rfl (by rw [hml]; rfl) (Steps.refl _) (argsL := [(.ref c43)]) (rest := []) (lenOf pd_oLjava_lang_String_cLjava_lang_StringBuilder_ rfl) rfl (by show 2 * 0 + _ ≤ _; exact Nat.le_of_eq rfl) (hb hby d8_102) (fun _ _ => ⟨rfl, e43, (by decide : 16 + 0 ≤ _), (by decide : 373 + 0 ≤ _)⟩)
  dsimp only [Pt.U, Pt.locs, Pt.cells, Pt.slots] at X45 l45 y45 z45 st45 hQ45
  subst l45 y45 z45
  have f46 := ((own_arr_keep (own_arr_keep f37 Kq36 nin0) Kq42 (ninS ne_d1_b1 (ninS ne_d1_vb18 nin0))).ext E43)
  obtain ⟨vb45, kb45, rfl, N45q, Kq45, or45, gg45, Bq45⟩ := hQ45
  have sz_vb45 : h0.size ≤ vb45 := or45.elim (fun q => by rw [q]; exact sz_vb42) (fun q => Nat.le_trans K43.1 q)
  have g_vb45 : n0 ≤ vb45 := gg45
  have Sn45 : Safe Z consts_1 T43.vm h43 vb45 := or45.elim (fun q => by rw [q]; exact Sf43_vb42) (fun q => Safe.new q)
  have ne_b1_vb45 : b1 ≠ vb45 := or45.elim (fun q => by rw [q]; exact ne_b1_vb42) (fun q => Nat.ne_of_lt (Nat.lt_of_lt_of_le (Bq42.1.ext E43).lt q))
  have ne_d1_vb45 : d1 ≠ vb45 := or45.elim (fun q => by rw [q]; exact ne_d1_vb42) (fun q => Nat.ne_of_lt (Nat.lt_of_lt_of_le f46.lt q))
  have ne_oc_vb45 : oc ≠ vb45 := or45.elim (fun q => by rw [q]; exact ne_oc_vb42) (fun q => Nat.ne_of_lt (Nat.lt_of_lt_of_le (((((((f25.keep Kq24).ext E26).keep Kq29).keep Kq34).keep Kq36).keep Kq42).ext E43).lt q))
  have K45 : Keep h0 T45.heap [] := K43.trans Kq45 (allS (Or.inr sz_b1) (allS (Or.inr sz_vb42) all0))
  have Ch45 : CHr Z consts_1 s.vm h0 T43.vm T45.heap := Ch43.trans (CHr.keep Kq45 (sfS Sf43_b1 (sfS Sf43_vb42 sf0)) Ch43.1)
  have Sf45_b1 : Safe Z consts_1 T43.vm T45.heap b1 := Safe.keep Kq45 (sfS Sf43_b1 (sfS Sf43_vb42 sf0)) Ch43.1 Sf43_b1
  have Sf45_vb42 : Safe Z consts_1 T43.vm T45.heap vb42 := Safe.keep Kq45 (sfS Sf43_b1 (sfS Sf43_vb42 sf0)) Ch43.1 Sf43_vb42
  have Sf45_vb45 : Safe Z consts_1 T43.vm T45.heap vb45 := Safe.keep Kq45 (sfS Sf43_b1 (sfS Sf43_vb42 sf0)) Ch43.1 Sn45
  have hkk45 : k43 ≤ T45.heap.size := Nat.le_trans hk43 Kq45.1
  have N45 := Fr.app N42 N45q
  have f47 := (own_sta_keepN f44 Kq45 (nsS ((Bq42.1.ext E43).nostat) (nsS ((Bq42.2.2.2.2.ext E43).nostat) ns0)))
  obtain ⟨cq48, kq48, q48a, q48b, q48c⟩ := isOf hZ43 rfl Bq45.1
  obtain ⟨_, _, ⟨T48, L48, k48, n48⟩, -, X48, ⟨Lc48, hQ48, l48, y48, z48⟩, st48⟩ := X45.virtualBack hx (y := (⟨"java/lang/StringBuilder", "toString", "()Ljava/lang/String;"⟩ : MethodName)) (z := (⟨"java/lang/StringBuilder", "toString", "()Ljava/lang/String;"⟩ : MethodName)) hown43 (mvT hZ43 (hw _ (M 179))) (mvT hZ43 (hw _ (M 180))) (notFace_of_selects (args := #[]) (mvT hZ43 (hw _ (M 182)))) (mvT hZ43 (hw _ (M 182))) (mvT hZ43 (hw _ (M 181))) (by decide) (backOf (W := 0) ((bToS l Z a0 hw b1 vb45 kb45 (70 : Int32) (35 : Int32) tx_18 zc tx_2 T45.heap n0 (Nat.le_trans Z0 K45.1) ⟨Bq45.1, Bq45.2.1, Bq45.2.2.1, Bq45.2.2.2.1, Bq45.2.2.2.2⟩ f47 hz (by decide) (Nat.le_of_ble_eq_true rfl) (by decide) (Nat.le_of_ble_eq_true rfl) (by rfl) (by decide)) []) hZ43 (hw _ (M 183)) (hw _ (M 60)) (by decide) (by decide)) q48a q48c (g := (mkF m 105 #[.val (.ref oc), .val (.int (0 : Int32))] [(.ref b1)])) rfl (by rw [hml]; rfl) (Steps.refl _) (argsL := []) (rest := []) (lenOf pd_ocLjava_lang_String_ rfl) rfl (by show 2 * 0 + _ ≤ _; exact Nat.le_of_eq rfl) (hb hby d8_105) (fun _ _ => ⟨rfl, rfl, (by decide : 16 + 2 ≤ _), (by decide : 373 + 49 ≤ _)⟩)
  dsimp only [Pt.U, Pt.locs, Pt.cells, Pt.slots] at X48 l48 y48 z48 st48 hQ48
  subst l48 y48 z48
  have f49 := ((((((((f25.keep Kq24).ext E26).keep Kq29).keep Kq34).keep Kq36).keep Kq42).ext E43).keep Kq45)
  obtain ⟨os48, sr48, kS48, rfl, N48q, Kq48, so48q, sr48q, Tq48⟩ := hQ48
  have sz_os48 : h0.size ≤ os48 := Nat.le_trans K45.1 so48q
  have g_os48 : n0 ≤ os48 := Nat.le_trans Z0 sz_os48
  have ne_b1_os48 : b1 ≠ os48 := Nat.ne_of_lt (Nat.lt_of_lt_of_le Bq45.1.lt so48q)
  have ne_d1_os48 : d1 ≠ os48 := Nat.ne_of_lt (Nat.lt_of_lt_of_le (own_arr_keep f46 Kq45 (ninS ne_d1_b1 (ninS ne_d1_vb42 nin0))).lt so48q)
  have ne_oc_os48 : oc ≠ os48 := Nat.ne_of_lt (Nat.lt_of_lt_of_le f49.lt so48q)
  have ne_vb45_os48 : vb45 ≠ os48 := Nat.ne_of_lt (Nat.lt_of_lt_of_le Bq45.2.2.2.2.lt so48q)
  have sz_sr48 : h0.size ≤ sr48 := Nat.le_trans K45.1 sr48q
  have g_sr48 : n0 ≤ sr48 := Nat.le_trans Z0 sz_sr48
  have ne_b1_sr48 : b1 ≠ sr48 := Nat.ne_of_lt (Nat.lt_of_lt_of_le Bq45.1.lt sr48q)
  have ne_d1_sr48 : d1 ≠ sr48 := Nat.ne_of_lt (Nat.lt_of_lt_of_le (own_arr_keep f46 Kq45 (ninS ne_d1_b1 (ninS ne_d1_vb42 nin0))).lt sr48q)
  have ne_oc_sr48 : oc ≠ sr48 := Nat.ne_of_lt (Nat.lt_of_lt_of_le f49.lt sr48q)
  have ne_vb45_sr48 : vb45 ≠ sr48 := Nat.ne_of_lt (Nat.lt_of_lt_of_le Bq45.2.2.2.2.lt sr48q)
  have K48 : Keep h0 T48.heap [] := K45.trans Kq48 all0
  have Ch48 : CHr Z consts_1 s.vm h0 T43.vm T48.heap := Ch45.trans (CHr.keep Kq48 sf0 Ch45.1)
  have Sf48_b1 : Safe Z consts_1 T43.vm T48.heap b1 := Safe.keep Kq48 sf0 Ch45.1 Sf45_b1
  have Sf48_vb45 : Safe Z consts_1 T43.vm T48.heap vb45 := Safe.keep Kq48 sf0 Ch45.1 Sf45_vb45
  have Sf48_os48 : Safe Z consts_1 T43.vm T48.heap os48 := Safe.keep Kq48 sf0 Ch45.1 (Safe.new so48q)
  have Sf48_sr48 : Safe Z consts_1 T43.vm T48.heap sr48 := Safe.keep Kq48 sf0 Ch45.1 (Safe.new sr48q)
  have hkk48 : k43 ≤ T48.heap.size := Nat.le_trans hkk45 Kq48.1
  have N48 := Fr.app N45 N48q
  obtain ⟨fs, hr, hrun, hended, hret, hW, hnew, hsame⟩ := X48.leaveW hS43 hkk48 (v := some (.ref os48)) (fun h => by rw [Bd.returns] at h; cases h)
  refine ⟨_, _, pre0 _ ?_, hrun, hended, _, _, rfl, ?_, ?_, hret, hW, hnew, hsame.mono (by decide) (by decide)⟩
  · show Steps p.tables e below (s₁.setTop (mkF m 0 #[.val (.ref oc), .val (.int (0 : Int32))] [])) _
    refine st1 _ ?_
    show Steps p.tables e below (T1.setTop (mkF m 3 #[.val (.ref oc), .val (.int (0 : Int32))] [(.ref b1)])) _
    refine XS.dup X1.here hx rfl (hb hby d8_3) rfl rfl ?_
    refine st2.trans ?_
    show Steps p.tables e below (T2.setTop (mkF m 7 #[.val (.ref oc), .val (.int (0 : Int32))] [(.ref b1)])) _
    refine st3 _ ?_
    show Steps p.tables e below (T3.setTop (mkF m 9 #[.val (.ref oc), .val (.int (0 : Int32))] [(.ref c3), (.ref b1)])) _
    refine st4.trans ?_
    show Steps p.tables e below (T4.setTop (mkF m 12 #[.val (.ref oc), .val (.int (0 : Int32))] [(.ref b1)])) _
    refine XS.aloadN X4.here hx rfl (hb hby d8_12) rfl rfl ?_
    refine st6 _ ?_
    show Steps p.tables e below (T6.setTop (mkF m 16 #[.val (.ref oc), .val (.int (0 : Int32))] [(.long (0 : Int64)), (.ref b1)])) _
    refine st10.trans ?_
    show Steps p.tables e below (T10.setTop (mkF m 19 #[.val (.ref oc), .val (.int (0 : Int32))] [(.ref b1)])) _
    refine st11 _ ?_
    show Steps p.tables e below (T11.setTop (mkF m 21 #[.val (.ref oc), .val (.int (0 : Int32))] [(.ref c11), (.ref b1)])) _
    refine st12.trans ?_
    show Steps p.tables e below (T12.setTop (mkF m 24 #[.val (.ref oc), .val (.int (0 : Int32))] [(.ref b1)])) _
    refine XS.aloadN X12.here hx rfl (hb hby d8_24) rfl rfl ?_
    refine st14 _ ?_
    show Steps p.tables e below (T14.setTop (mkF m 28 #[.val (.ref oc), .val (.int (0 : Int32))] [(.long (0 : Int64)), (.ref b1)])) _
    refine st18.trans ?_
    show Steps p.tables e below (T18.setTop (mkF m 31 #[.val (.ref oc), .val (.int (0 : Int32))] [(.ref b1)])) _
    refine XS.aloadN X18.here hx rfl (hb hby d8_31) rfl rfl ?_
    refine st20 _ ?_
    show Steps p.tables e below (T20.setTop (mkF m 35 #[.val (.ref oc), .val (.int (0 : Int32))] [(.ref sk), (.ref b1)])) _
    refine st22 _ ?_
    show Steps p.tables e below (T22.setTop (mkF m 38 #[.val (.ref oc), .val (.int (0 : Int32))] [(.ref sk), (.ref sk), (.ref b1)])) _
    refine Jvm.RoadKit.acmp (g := (mkF m 38 #[.val (.ref oc), .val (.int (0 : Int32))] [(.ref sk), (.ref sk), (.ref b1)])) X22 hx rfl rfl rfl (pc0 := 38) (pc' := 41) (same := true) rfl (hb hby d8_38) rfl (decide_eq_true rfl) (by decide) (by decide) ?_
    show Steps p.tables e below (T22.setTop (mkF m 41 #[.val (.ref oc), .val (.int (0 : Int32))] [(.ref b1)])) _
    refine st23 _ ?_
    show Steps p.tables e below (T23.setTop (mkF m 44 #[.val (.ref oc), .val (.int (0 : Int32))] [(.ref b23), (.ref b1)])) _
    refine XS.dup X23.here hx rfl (hb hby d8_44) rfl rfl ?_
    refine st24.trans ?_
    show Steps p.tables e below (T24.setTop (mkF m 48 #[.val (.ref oc), .val (.int (0 : Int32))] [(.ref b23), (.ref b1)])) _
    refine st26 _ ?_
    show Steps p.tables e below (T26.setTop (mkF m 50 #[.val (.ref oc), .val (.int (0 : Int32))] [(.ref c26), (.ref b23), (.ref b1)])) _
    refine st29.trans ?_
    show Steps p.tables e below (T29.setTop (mkF m 53 #[.val (.ref oc), .val (.int (0 : Int32))] [(.ref b23), (.ref b1)])) _
    refine XS.aloadN X29.here hx rfl (hb hby d8_53) rfl rfl ?_
    refine st31 _ ?_
    show Steps p.tables e below (T31.setTop (mkF m 57 #[.val (.ref oc), .val (.int (0 : Int32))] [(.long (0 : Int64)), (.ref b23), (.ref b1)])) _
    refine st34.trans ?_
    show Steps p.tables e below (T34.setTop (mkF m 60 #[.val (.ref oc), .val (.int (0 : Int32))] [(.ref b23), (.ref b1)])) _
    refine st36.trans ?_
    show Steps p.tables e below (T36.setTop (mkF m 63 #[.val (.ref oc), .val (.int (0 : Int32))] [(.ref os36), (.ref b1)])) _
    refine XS.goto X36.here hx rfl (pc0 := 63) (pc' := 68) rfl (hb hby d8_63) (by decide) (by decide) ?_
    show Steps p.tables e below (T36.setTop (mkF m 68 #[.val (.ref oc), .val (.int (0 : Int32))] [(.ref os36), (.ref b1)])) _
    refine st42.trans ?_
    show Steps p.tables e below (T42.setTop (mkF m 71 #[.val (.ref oc), .val (.int (0 : Int32))] [(.ref b1)])) _
    refine XS.iloadN X42.here hx rfl (hb hby d8_71) rfl ?_
    refine XS.ifYes X42.here hx rfl (pc0 := 72) (pc' := 100) rfl (hb hby d8_72) rfl ((if0 _ _).trans (teq (by decide : (0 : Int32) = (0 : Int32))).1) (by decide) (by decide) ?_
    show Steps p.tables e below (T42.setTop (mkF m 100 #[.val (.ref oc), .val (.int (0 : Int32))] [(.ref b1)])) _
    refine st43 _ ?_
    show Steps p.tables e below (T43.setTop (mkF m 102 #[.val (.ref oc), .val (.int (0 : Int32))] [(.ref c43), (.ref b1)])) _
    refine st45.trans ?_
    show Steps p.tables e below (T45.setTop (mkF m 105 #[.val (.ref oc), .val (.int (0 : Int32))] [(.ref b1)])) _
    refine st48.trans ?_
    show Steps p.tables e below (T48.setTop (mkF m 108 #[.val (.ref oc), .val (.int (0 : Int32))] [(.ref os48)])) _
    jvm_step X48.here [X48.here.top, hx, (hb hby d8_108), X48.method', Bd.returns, Value.isRef, FieldType.isReference]
    first | (intro acts; rw [hr _ acts rfl rfl rfl]) | rw [hr _ _ rfl rfl rfl]
    exact Steps.refl _
  · show (QU Z (35 : Int32) tx_2 h0 n0) _ T48.heap _
    exact ⟨_, _, _, rfl, N48, K48, sz_os48, sz_sr48, ⟨Tq48.1, Tq48.2.1, Tq48.2.2.1, Tq48.2.2.2⟩⟩
  · show CHr Z consts_1 s.vm s.heap T48.vm T48.heap
    rw [hh]
    exact Ch48.trans (CHv.at (s := s) (vm0 := T43.vm) X48 hZ43 (own_EW hw) Ch48.1)
def tx_23 : List Value := [(.int (108 : Int32)), (.int (111 : Int32)), (.int (97 : Int32)), (.int (100 : Int32)), (.int (101 : Int32)), (.int (100 : Int32)), (.int (32 : Int32)), (.int (103 : Int32)), (.int (114 : Int32)), (.int (97 : Int32)), (.int (112 : Int32)), (.int (104 : Int32)), (.int (115 : Int32)), (.int (61 : Int32)), (.int (48 : Int32)), (.int (32 : Int32)), (.int (116 : Int32)), (.int (114 : Int32)), (.int (105 : Int32)), (.int (112 : Int32)), (.int (108 : Int32)), (.int (101 : Int32)), (.int (115 : Int32)), (.int (61 : Int32)), (.int (48 : Int32)), (.int (32 : Int32)), (.int (100 : Int32)), (.int (101 : Int32)), (.int (114 : Int32)), (.int (105 : Int32)), (.int (118 : Int32)), (.int (101 : Int32)), (.int (100 : Int32)), (.int (61 : Int32)), (.int (48 : Int32)), (.int (0 : Int32)), (.int (0 : Int32)), (.int (0 : Int32)), (.int (0 : Int32)), (.int (0 : Int32)), (.int (0 : Int32)), (.int (0 : Int32)), (.int (0 : Int32)), (.int (0 : Int32)), (.int (0 : Int32)), (.int (0 : Int32)), (.int (0 : Int32)), (.int (0 : Int32)), (.int (0 : Int32)), (.int (0 : Int32)), (.int (0 : Int32)), (.int (0 : Int32)), (.int (0 : Int32)), (.int (0 : Int32)), (.int (0 : Int32)), (.int (0 : Int32)), (.int (0 : Int32)), (.int (0 : Int32)), (.int (0 : Int32)), (.int (0 : Int32)), (.int (0 : Int32)), (.int (0 : Int32)), (.int (0 : Int32)), (.int (0 : Int32)), (.int (0 : Int32)), (.int (0 : Int32)), (.int (0 : Int32)), (.int (0 : Int32)), (.int (0 : Int32)), (.int (0 : Int32))]
theorem d8_66 : decode prog_24_method_8_code 66 = .ok (.ldc 61, 2) := by decide +kernel
set_option maxRecDepth 65536 in
set_option maxHeartbeats 40000000 in
theorem line_01 (l : Launch) (Z : State) (a0 : Array Value) (hw : ∀ d ∈ tables_1, d.before a0 Z = true) (oc sk so : Addr) (zc : Int32) (d1 : Addr) (cd : Cell) (h0 : Heap) (n0 : Nat) (Z0 : n0 ≤ h0.size) (B0 : LcS Z h0 oc so 0 0 0 0) (S_SKIP : Sta Z h0 "com/example/known_origins/knownorigins/store/IfStored" "SKIP" "Lcom/example/known_origins/knownorigins/store/IfStored;" (.ref sk)) (S_CS : Sta Z h0 "java/lang/String" "COMPACT_STRINGS" "Z" (.int zc)) (hz : ¬ (zc = (0 : Int32))) (S_D1 : Sta Z h0 "java/lang/Integer" "DigitOnes" "[B" (.ref d1)) (Ad : Arr Z h0 d1 cd .byte) (hind : ¬ ((0 : Int32) < 0 ∨ cd.slots.size ≤ (0 : Int32).toNatClampNeg)) (hatd : cd.slots[(0 : Int32).toNatClampNeg]? = some (.int (48 : Int32))) (ha38 : ¬ (so = sk)) :
    MH l Z (⟨"com/example/known_origins/knownorigins/store/LoadCount", "line", "(Z)Ljava/lang/String;"⟩ : MethodName) prog_24_method_8_code 2 (some (.object "java/lang/String")) ({ frames := 6, cells := 18, slots := 422, locals := 92 } : Room) #[(.ref oc), (.int (1 : Int32))] h0 (QU Z (35 : Int32) tx_1 h0 n0) := by
  intro ws
  refine MetFree.of_bodySF (plainFor_of_name pn_8) hisR ?_
  intro p e s m args below meth c s₁ Bd hml0 hP hK
  obtain ⟨rfl, hZ, hh, hCH⟩ := hP
  have hx := Bd.exec
  have hby := Bd.bytes
  have hml : c.maxLocals = 2 := hml0
  have hown : s.vm.findClass "com/example/known_origins/knownorigins/store/LoadCount" = some m.cls := findClass_of_methodNamed Bd.named
  have hnm := (name_of_methodNamed Bd.named Bd.method).1
  have X0 : Stand p l e ({ frames := 6, cells := 18, slots := 422, locals := 92 } : Room) s m #[(.ref oc), (.int (1 : Int32))] below meth c s₁ [] 0 0 := Stand.of_body Bd
  have e0 : s₁.heap = h0 := by rw [← hh, Bd.state]; rfl
  have N0 := Fr.nil n0
  have hSi : s.Since s.vm 0 := (State.WarmedH.refl s).since 0
  have Ch0 : CHr Z consts_1 s.vm h0 s.vm h0 := CHr.refl hCH
  have pre0 : ∀ t_, Steps p.tables e below (s₁.setTop (mkF m 0 #[.val (.ref oc), .val (.int (1 : Int32))] [])) t_ → Steps p.tables e below (s₁.setTop (entryFrame m #[(.ref oc), (.int (1 : Int32))] 2)) t_ := fun t_ k_ => castTop (ef_8 m oc (1 : Int32)) k_
  obtain ⟨T1, h1, X1, e1, E1, A1, D1, -, st1⟩ := newO X0 hx hZ hown (hw _ (M 58)) (hw _ (M 59)) (hw _ (M 60)) e0 (g := (mkF m 0 #[.val (.ref oc), .val (.int (1 : Int32))] [])) rfl (hb hby d8_0) (by decide) (by decide)
  obtain ⟨b1, g1⟩ : ∃ z, z = h0.size := ⟨_, rfl⟩
  rw [← g1] at A1 D1 st1
  have sz_b1 : h0.size ≤ b1 := Nat.le_trans (Keep.refl h0 []).1 (Nat.le_of_eq g1.symm)
  have g_b1 : n0 ≤ b1 := Nat.le_trans Z0 sz_b1
  have ne_d1_b1 : d1 ≠ b1 := Nat.ne_of_lt (Nat.lt_of_lt_of_le Ad.lt (Nat.le_of_eq g1.symm))
  have ne_oc_b1 : oc ≠ b1 := Nat.ne_of_lt (Nat.lt_of_lt_of_le B0.1.lt (Nat.le_of_eq g1.symm))
  have K1 : Keep h0 h1 [] := (Keep.refl h0 []).ext E1
  have F_value_b1 : Fld Z h1 b1 "java/lang/AbstractStringBuilder" "value" "[B" .null := D1 (Or.inl (hw _ (M 73))) (ty := (.array .byte)) (by decide)
  have F_coder_b1 : Fld Z h1 b1 "java/lang/AbstractStringBuilder" "coder" "B" (.int (0 : Int32)) := D1 (Or.inl (hw _ (M 75))) (ty := .byte) (by decide)
  have F_count_b1 : Fld Z h1 b1 "java/lang/AbstractStringBuilder" "count" "I" (.int (0 : Int32)) := D1 (Or.inl (hw _ (M 101))) (ty := .int) (by decide)
  have Ch1 : CHr Z consts_1 s.vm h0 s.vm h1 := Ch0.trans (CHr.ext E1 Ch0.1)
  have Sf1_b1 : Safe Z consts_1 s.vm h1 b1 := Safe.ext E1 Ch0.1 (Safe.new (Nat.le_of_eq g1.symm))
  have hkk1 : 0 ≤ h1.size := Nat.le_trans (Nat.zero_le _) E1.1
  obtain ⟨_, _, ⟨T2, L2, k2, n2⟩, -, X2, ⟨Lc2, hQ2, l2, y2, z2⟩, st2⟩ := X1.specialBack hx (y := (⟨"java/lang/StringBuilder", "<init>", "()V"⟩ : MethodName)) rfl hown (mvT hZ (hw _ (M 61))) (mvT hZ (hw _ (M 62))) (mvT hZ (hw _ (M 63))) (by decide) (backOf (W := 1) ((bInit l Z a0 hw zc b1 h1 n0 (Nat.le_trans Z0 K1.1) (S_CS.ext E1) hz A1 F_value_b1 F_coder_b1 F_count_b1 g_b1) []) hZ (hw _ (M 63)) (hw _ (M 60)) (by decide) (by decide)) (g := (mkF m 4 #[.val (.ref oc), .val (.int (1 : Int32))] [(.ref b1), (.ref b1)])) rfl (by rw [hml]; rfl) (Steps.refl _) (a := b1) (argsL := []) (rest := [(.ref b1)]) (lenOf pd_ocV rfl) rfl (by show 2 * 0 + _ ≤ _; exact Nat.le_of_eq rfl) (hb hby d8_4) (fun _ _ => ⟨rfl, e1, (by decide : 1 + 1 ≤ _), (by decide : 4 + 16 ≤ _)⟩)
  dsimp only [Pt.U, Pt.locs, Pt.cells, Pt.slots] at X2 l2 y2 z2 st2 hQ2
  subst l2 y2 z2
  obtain ⟨va2, kA2, rfl, N2q, Kq2, sz2q, Bq2⟩ := hQ2
  have sz_va2 : h0.size ≤ va2 := Nat.le_trans K1.1 sz2q
  have g_va2 : n0 ≤ va2 := Nat.le_trans Z0 sz_va2
  have ne_b1_va2 : b1 ≠ va2 := Nat.ne_of_lt (Nat.lt_of_lt_of_le A1.lt sz2q)
  have ne_d1_va2 : d1 ≠ va2 := Nat.ne_of_lt (Nat.lt_of_lt_of_le (Ad.ext E1).lt sz2q)
  have ne_oc_va2 : oc ≠ va2 := Nat.ne_of_lt (Nat.lt_of_lt_of_le (B0.1.ext E1).lt sz2q)
  have K2 : Keep h0 T2.heap [] := K1.trans Kq2 (allS (Or.inr sz_b1) all0)
  have Ch2 : CHr Z consts_1 s.vm h0 s.vm T2.heap := Ch1.trans (CHr.keep Kq2 (sfS Sf1_b1 sf0) Ch1.1)
  have Sf2_b1 : Safe Z consts_1 s.vm T2.heap b1 := Safe.keep Kq2 (sfS Sf1_b1 sf0) Ch1.1 Sf1_b1
  have Sf2_va2 : Safe Z consts_1 s.vm T2.heap va2 := Safe.keep Kq2 (sfS Sf1_b1 sf0) Ch1.1 (Safe.new sz2q)
  have hkk2 : 0 ≤ T2.heap.size := Nat.le_trans hkk1 Kq2.1
  have N2 := Fr.app N0 N2q
  obtain ⟨c3, T3, h3, k3, sb3, kS3, X3, e3, E3, hS3, hk3, hZ3, hown3, Es3, Fc3, Fv3, Va3, -, -, CR3, -, hn3, st3⟩ := ldcCH (s := s) (vm0 := s.vm) X2 hx hZ hown (hw _ (M 76)) (own_strA hw) rfl hSi hkk2 (own_EW hw) (List.mem_of_getElem? (i := 0) rfl) Ch2.1 lit_8 (z := (14 : Int32)) (by decide) (by rfl) (g := (mkF m 7 #[.val (.ref oc), .val (.int (1 : Int32))] [(.ref b1)])) rfl (hb hby d8_7) (n := 56) (by decide) (by decide) (by decide) (by decide)
  have K3 : Keep h0 h3 [] := K2.ext E3
  have Ch3 : CHr Z consts_1 s.vm h0 T3.vm h3 := Ch2.trans CR3
  have Sf3_b1 : Safe Z consts_1 T3.vm h3 b1 := CHr.safe CR3 Bq2.1.lt Sf2_b1
  have Sf3_va2 : Safe Z consts_1 T3.vm h3 va2 := CHr.safe CR3 Bq2.2.2.2.2.lt Sf2_va2
  obtain ⟨cq4, kq4, q4a, q4b, q4c⟩ := isOf hZ3 e3 (Bq2.1.ext E3)
  obtain ⟨_, _, ⟨T4, L4, k4, n4⟩, -, X4, ⟨Lc4, hQ4, l4, y4, z4⟩, st4⟩ := X3.virtualBack hx (y := (⟨"java/lang/StringBuilder", "append", "(Ljava/lang/String;)Ljava/lang/StringBuilder;"⟩ : MethodName)) (z := (⟨"java/lang/StringBuilder", "append", "(Ljava/lang/String;)Ljava/lang/StringBuilder;"⟩ : MethodName)) hown3 (mvT hZ3 (hw _ (M 77))) (mvT hZ3 (hw _ (M 78))) (notFace_of_selects (args := #[]) (mvT hZ3 (hw _ (M 80)))) (mvT hZ3 (hw _ (M 80))) (mvT hZ3 (hw _ (M 79))) (by decide) (backOf (W := 0) ((bAppN l Z a0 hw b1 va2 kA2 (16 : Int32) (0 : Int32) (List.replicate (16 : Int32).toNatClampNeg (.int (0 : Int32))) c3 sb3 kS3 (14 : Int32) tx_8 zc (14 : Int32) (-2 : Int32) tx_9 h3 n0 (Nat.le_trans Z0 K3.1) ⟨(Bq2.1.ext E3), (Bq2.2.1.ext E3), (Bq2.2.2.1.ext E3), (Bq2.2.2.2.1.ext E3), (Bq2.2.2.2.2.ext E3)⟩ ⟨Es3, Fc3, Fv3, Va3⟩ ((own_sta_keepN (S_CS.ext E1) Kq2 (nsS (A1.nostat) ns0)).ext E3) hz g_b1 g_va2 (Ne.symm (hn3 va2 Sf3_va2).2) (by decide) (by decide) (by decide) (by decide) (by decide) (Nat.le_of_ble_eq_true rfl) (Nat.le_of_ble_eq_true rfl) (by rfl)) []) hZ3 (hw _ (M 81)) (hw _ (M 60)) (by decide) (by decide)) q4a q4c (g := (mkF m 9 #[.val (.ref oc), .val (.int (1 : Int32))] [(.ref c3), (.ref b1)])) rfl (by rw [hml]; rfl) (Steps.refl _) (argsL := [(.ref c3)]) (rest := []) (lenOf pd_oLjava_lang_String_cLjava_lang_StringBuilder_ rfl) rfl (by show 2 * 0 + _ ≤ _; exact Nat.le_of_eq rfl) (hb hby d8_9) (fun _ _ => ⟨rfl, e3, (by decide : 4 + 0 ≤ _), (by decide : 80 + 0 ≤ _)⟩)
  dsimp only [Pt.U, Pt.locs, Pt.cells, Pt.slots] at X4 l4 y4 z4 st4 hQ4
  subst l4 y4 z4
  obtain ⟨vb4, kb4, rfl, N4q, Kq4, or4, gg4, Bq4⟩ := hQ4
  have sz_vb4 : h0.size ≤ vb4 := or4.elim (fun q => by rw [q]; exact sz_va2) (fun q => Nat.le_trans K3.1 q)
  have g_vb4 : n0 ≤ vb4 := gg4
  have Sn4 : Safe Z consts_1 T3.vm h3 vb4 := or4.elim (fun q => by rw [q]; exact Sf3_va2) (fun q => Safe.new q)
  have ne_b1_vb4 : b1 ≠ vb4 := or4.elim (fun q => by rw [q]; exact ne_b1_va2) (fun q => Nat.ne_of_lt (Nat.lt_of_lt_of_le (Bq2.1.ext E3).lt q))
  have ne_d1_vb4 : d1 ≠ vb4 := or4.elim (fun q => by rw [q]; exact ne_d1_va2) (fun q => Nat.ne_of_lt (Nat.lt_of_lt_of_le ((own_arr_keep (Ad.ext E1) Kq2 (ninS ne_d1_b1 nin0)).ext E3).lt q))
  have ne_oc_vb4 : oc ≠ vb4 := or4.elim (fun q => by rw [q]; exact ne_oc_va2) (fun q => Nat.ne_of_lt (Nat.lt_of_lt_of_le (((B0.1.ext E1).keep Kq2).ext E3).lt q))
  have K4 : Keep h0 T4.heap [] := K3.trans Kq4 (allS (Or.inr sz_b1) (allS (Or.inr sz_va2) all0))
  have Ch4 : CHr Z consts_1 s.vm h0 T3.vm T4.heap := Ch3.trans (CHr.keep Kq4 (sfS Sf3_b1 (sfS Sf3_va2 sf0)) Ch3.1)
  have Sf4_b1 : Safe Z consts_1 T3.vm T4.heap b1 := Safe.keep Kq4 (sfS Sf3_b1 (sfS Sf3_va2 sf0)) Ch3.1 Sf3_b1
  have Sf4_va2 : Safe Z consts_1 T3.vm T4.heap va2 := Safe.keep Kq4 (sfS Sf3_b1 (sfS Sf3_va2 sf0)) Ch3.1 Sf3_va2
  have Sf4_vb4 : Safe Z consts_1 T3.vm T4.heap vb4 := Safe.keep Kq4 (sfS Sf3_b1 (sfS Sf3_va2 sf0)) Ch3.1 Sn4
  have hkk4 : k3 ≤ T4.heap.size := Nat.le_trans hk3 Kq4.1
  have N4 := Fr.app N2 N4q
  have f5 := ((((B0.2.2.1.ext E1).keep Kq2 (ninS ne_oc_b1 nin0)).ext E3).keep Kq4 (ninS ne_oc_b1 (ninS ne_oc_va2 nin0)))
  obtain ⟨T6, X6, e6, st6⟩ := getF X4 hx hZ3 hown3 (host := "") (Or.inl (hw _ (M 17))) Via.refl rfl f5 (g := (mkF m 13 #[.val (.ref oc), .val (.int (1 : Int32))] [(.ref oc), (.ref b1)])) rfl rfl (hb hby d8_13)
  have f7 := (own_sta_keepN ((own_sta_keepN (S_CS.ext E1) Kq2 (nsS (A1.nostat) ns0)).ext E3) Kq4 (nsS ((Bq2.1.ext E3).nostat) (nsS ((Bq2.2.2.2.2.ext E3).nostat) ns0)))
  have f8 := (own_sta_keepN ((own_sta_keepN (S_D1.ext E1) Kq2 (nsS (A1.nostat) ns0)).ext E3) Kq4 (nsS ((Bq2.1.ext E3).nostat) (nsS ((Bq2.2.2.2.2.ext E3).nostat) ns0)))
  have f9 := (own_arr_keep ((own_arr_keep (Ad.ext E1) Kq2 (ninS ne_d1_b1 nin0)).ext E3) Kq4 (ninS ne_d1_b1 (ninS ne_d1_va2 nin0)))
  obtain ⟨cq10, kq10, q10a, q10b, q10c⟩ := isOf hZ3 e6 Bq4.1
  obtain ⟨_, _, ⟨T10, L10, k10, n10⟩, -, X10, ⟨Lc10, hQ10, l10, y10, z10⟩, st10⟩ := X6.virtualBack hx (y := (⟨"java/lang/StringBuilder", "append", "(J)Ljava/lang/StringBuilder;"⟩ : MethodName)) (z := (⟨"java/lang/StringBuilder", "append", "(J)Ljava/lang/StringBuilder;"⟩ : MethodName)) hown3 (mvT hZ3 (hw _ (M 127))) (mvT hZ3 (hw _ (M 128))) (notFace_of_selects (args := #[]) (mvT hZ3 (hw _ (M 130)))) (mvT hZ3 (hw _ (M 130))) (mvT hZ3 (hw _ (M 129))) (by decide) (backOf (W := 0) ((bAppJ l Z a0 hw b1 vb4 kb4 (16 : Int32) (14 : Int32) tx_9 zc (15 : Int32) (-1 : Int32) tx_10 d1 cd T4.heap n0 (Nat.le_trans Z0 K4.1) ⟨Bq4.1, Bq4.2.1, Bq4.2.2.1, Bq4.2.2.2.1, Bq4.2.2.2.2⟩ f7 hz g_b1 g_vb4 (by decide) (by decide) (by decide) f8 f9 hind hatd (by decide) (by decide) (Nat.le_of_ble_eq_true rfl) (by rfl)) []) hZ3 (hw _ (M 131)) (hw _ (M 60)) (by decide) (by decide)) q10a q10c (g := (mkF m 16 #[.val (.ref oc), .val (.int (1 : Int32))] [(.long (0 : Int64)), (.ref b1)])) rfl (by rw [hml]; rfl) (Steps.refl _) (argsL := [(.long (0 : Int64))]) (rest := []) (lenOf pd_oJcLjava_lang_StringBuilder_ rfl) rfl (by show 2 * 0 + _ ≤ _; exact Nat.le_of_eq rfl) (hb hby d8_16) (fun _ _ => ⟨rfl, e6, (by decide : 4 + 0 ≤ _), (by decide : 80 + 0 ≤ _)⟩)
  dsimp only [Pt.U, Pt.locs, Pt.cells, Pt.slots] at X10 l10 y10 z10 st10 hQ10
  subst l10 y10 z10
  obtain ⟨vb10, kb10, rfl, N10q, Kq10, or10, gg10, Bq10⟩ := hQ10
  have sz_vb10 : h0.size ≤ vb10 := or10.elim (fun q => by rw [q]; exact sz_vb4) (fun q => Nat.le_trans K4.1 q)
  have g_vb10 : n0 ≤ vb10 := gg10
  have Sn10 : Safe Z consts_1 T3.vm T4.heap vb10 := or10.elim (fun q => by rw [q]; exact Sf4_vb4) (fun q => Safe.new q)
  have ne_b1_vb10 : b1 ≠ vb10 := or10.elim (fun q => by rw [q]; exact ne_b1_vb4) (fun q => Nat.ne_of_lt (Nat.lt_of_lt_of_le Bq4.1.lt q))
  have ne_d1_vb10 : d1 ≠ vb10 := or10.elim (fun q => by rw [q]; exact ne_d1_vb4) (fun q => Nat.ne_of_lt (Nat.lt_of_lt_of_le f9.lt q))
  have ne_oc_vb10 : oc ≠ vb10 := or10.elim (fun q => by rw [q]; exact ne_oc_vb4) (fun q => Nat.ne_of_lt (Nat.lt_of_lt_of_le ((((B0.1.ext E1).keep Kq2).ext E3).keep Kq4).lt q))
  have K10 : Keep h0 T10.heap [] := K4.trans Kq10 (allS (Or.inr sz_b1) (allS (Or.inr sz_vb4) all0))
  have Ch10 : CHr Z consts_1 s.vm h0 T3.vm T10.heap := Ch4.trans (CHr.keep Kq10 (sfS Sf4_b1 (sfS Sf4_vb4 sf0)) Ch4.1)
  have Sf10_b1 : Safe Z consts_1 T3.vm T10.heap b1 := Safe.keep Kq10 (sfS Sf4_b1 (sfS Sf4_vb4 sf0)) Ch4.1 Sf4_b1
  have Sf10_vb4 : Safe Z consts_1 T3.vm T10.heap vb4 := Safe.keep Kq10 (sfS Sf4_b1 (sfS Sf4_vb4 sf0)) Ch4.1 Sf4_vb4
  have Sf10_vb10 : Safe Z consts_1 T3.vm T10.heap vb10 := Safe.keep Kq10 (sfS Sf4_b1 (sfS Sf4_vb4 sf0)) Ch4.1 Sn10
  have hkk10 : k3 ≤ T10.heap.size := Nat.le_trans hkk4 Kq10.1
  have N10 := Fr.app N4 N10q
  obtain ⟨c11, T11, h11, k11, sb11, kS11, X11, e11, E11, hS11, hk11, hZ11, hown11, Es11, Fc11, Fv11, Va11, -, -, CR11, -, hn11, st11⟩ := ldcCH (s := s) (vm0 := T3.vm) X10 hx hZ3 hown3 (hw _ (M 152)) (own_strA hw) rfl hS3 hkk10 (own_EW hw) (List.mem_of_getElem? (i := 1) rfl) Ch10.1 lit_7 (z := (9 : Int32)) (by decide) (by rfl) (g := (mkF m 19 #[.val (.ref oc), .val (.int (1 : Int32))] [(.ref b1)])) rfl (hb hby d8_19) (n := 36) (by decide) (by decide) (by decide) (by decide)
  have K11 : Keep h0 h11 [] := K10.ext E11
  have Ch11 : CHr Z consts_1 s.vm h0 T11.vm h11 := Ch10.trans CR11
  have Sf11_b1 : Safe Z consts_1 T11.vm h11 b1 := CHr.safe CR11 Bq10.1.lt Sf10_b1
  have Sf11_vb10 : Safe Z consts_1 T11.vm h11 vb10 := CHr.safe CR11 Bq10.2.2.2.2.lt Sf10_vb10
  obtain ⟨cq12, kq12, q12a, q12b, q12c⟩ := isOf hZ11 e11 (Bq10.1.ext E11)
  obtain ⟨_, _, ⟨T12, L12, k12, n12⟩, -, X12, ⟨Lc12, hQ12, l12, y12, z12⟩, st12⟩ := X11.virtualBack hx (y := (⟨"java/lang/StringBuilder", "append", "(Ljava/lang/String;)Ljava/lang/StringBuilder;"⟩ : MethodName)) (z := (⟨"java/lang/StringBuilder", "append", "(Ljava/lang/String;)Ljava/lang/StringBuilder;"⟩ : MethodName)) hown11 (mvT hZ11 (hw _ (M 77))) (mvT hZ11 (hw _ (M 78))) (notFace_of_selects (args := #[]) (mvT hZ11 (hw _ (M 80)))) (mvT hZ11 (hw _ (M 80))) (mvT hZ11 (hw _ (M 79))) (by decide) (backOf (W := 0) ((bAppG l Z a0 hw b1 vb10 kb10 (16 : Int32) (15 : Int32) tx_10 c11 sb11 kS11 (9 : Int32) tx_7 zc (24 : Int32) (8 : Int32) (18 : Int32) (34 : Int32) tx_11 tx_12 h11 n0 (Nat.le_trans Z0 K11.1) ⟨(Bq10.1.ext E11), (Bq10.2.1.ext E11), (Bq10.2.2.1.ext E11), (Bq10.2.2.2.1.ext E11), (Bq10.2.2.2.2.ext E11)⟩ ⟨Es11, Fc11, Fv11, Va11⟩ ((own_sta_keepN f7 Kq10 (nsS (Bq4.1.nostat) (nsS (Bq4.2.2.2.2.nostat) ns0))).ext E11) hz g_b1 g_vb10 (Ne.symm (hn11 vb10 Sf11_vb10).2) (by decide) (by decide) (by decide) (by decide) (by decide) (by decide) (by decide) (by decide) (by decide) (by decide) (by decide) (by decide) (Nat.le_of_ble_eq_true rfl) (by decide) (Nat.le_of_ble_eq_true rfl) (by decide) (by decide) (by rfl) (Nat.le_of_ble_eq_true rfl) (Nat.le_of_ble_eq_true rfl) (by rfl)) []) hZ11 (hw _ (M 81)) (hw _ (M 60)) (by decide) (by decide)) q12a q12c (g := (mkF m 21 #[.val (.ref oc), .val (.int (1 : Int32))] [(.ref c11), (.ref b1)])) rfl (by rw [hml]; rfl) (Steps.refl _) (argsL := [(.ref c11)]) (rest := []) (lenOf pd_oLjava_lang_String_cLjava_lang_StringBuilder_ rfl) rfl (by show 2 * 0 + _ ≤ _; exact Nat.le_of_eq rfl) (hb hby d8_21) (fun _ _ => ⟨rfl, e11, (by decide : 6 + 1 ≤ _), (by decide : 120 + 70 ≤ _)⟩)
  dsimp only [Pt.U, Pt.locs, Pt.cells, Pt.slots] at X12 l12 y12 z12 st12 hQ12
  subst l12 y12 z12
  obtain ⟨vb12, kb12, rfl, N12q, Kq12, or12, gg12, Bq12⟩ := hQ12
  have sz_vb12 : h0.size ≤ vb12 := or12.elim (fun q => by rw [q]; exact sz_vb10) (fun q => Nat.le_trans K11.1 q)
  have g_vb12 : n0 ≤ vb12 := gg12
  have Sn12 : Safe Z consts_1 T11.vm h11 vb12 := or12.elim (fun q => by rw [q]; exact Sf11_vb10) (fun q => Safe.new q)
  have ne_b1_vb12 : b1 ≠ vb12 := or12.elim (fun q => by rw [q]; exact ne_b1_vb10) (fun q => Nat.ne_of_lt (Nat.lt_of_lt_of_le (Bq10.1.ext E11).lt q))
  have ne_d1_vb12 : d1 ≠ vb12 := or12.elim (fun q => by rw [q]; exact ne_d1_vb10) (fun q => Nat.ne_of_lt (Nat.lt_of_lt_of_le ((own_arr_keep f9 Kq10 (ninS ne_d1_b1 (ninS ne_d1_vb4 nin0))).ext E11).lt q))
  have ne_oc_vb12 : oc ≠ vb12 := or12.elim (fun q => by rw [q]; exact ne_oc_vb10) (fun q => Nat.ne_of_lt (Nat.lt_of_lt_of_le ((((((B0.1.ext E1).keep Kq2).ext E3).keep Kq4).keep Kq10).ext E11).lt q))
  have K12 : Keep h0 T12.heap [] := K11.trans Kq12 (allS (Or.inr sz_b1) (allS (Or.inr sz_vb10) all0))
  have Ch12 : CHr Z consts_1 s.vm h0 T11.vm T12.heap := Ch11.trans (CHr.keep Kq12 (sfS Sf11_b1 (sfS Sf11_vb10 sf0)) Ch11.1)
  have Sf12_b1 : Safe Z consts_1 T11.vm T12.heap b1 := Safe.keep Kq12 (sfS Sf11_b1 (sfS Sf11_vb10 sf0)) Ch11.1 Sf11_b1
  have Sf12_vb10 : Safe Z consts_1 T11.vm T12.heap vb10 := Safe.keep Kq12 (sfS Sf11_b1 (sfS Sf11_vb10 sf0)) Ch11.1 Sf11_vb10
  have Sf12_vb12 : Safe Z consts_1 T11.vm T12.heap vb12 := Safe.keep Kq12 (sfS Sf11_b1 (sfS Sf11_vb10 sf0)) Ch11.1 Sn12
  have hkk12 : k11 ≤ T12.heap.size := Nat.le_trans hk11 Kq12.1
  have N12 := Fr.app N10 N12q
  have f13 := (((((((B0.2.2.2.1.ext E1).keep Kq2 (ninS ne_oc_b1 nin0)).ext E3).keep Kq4 (ninS ne_oc_b1 (ninS ne_oc_va2 nin0))).keep Kq10 (ninS ne_oc_b1 (ninS ne_oc_vb4 nin0))).ext E11).keep Kq12 (ninS ne_oc_b1 (ninS ne_oc_vb10 nin0)))
  obtain ⟨T14, X14, e14, st14⟩ := getF X12 hx hZ11 hown11 (host := "") (Or.inl (hw _ (M 19))) Via.refl rfl f13 (g := (mkF m 25 #[.val (.ref oc), .val (.int (1 : Int32))] [(.ref oc), (.ref b1)])) rfl rfl (hb hby d8_25)
  have f15 := (own_sta_keepN ((own_sta_keepN f7 Kq10 (nsS (Bq4.1.nostat) (nsS (Bq4.2.2.2.2.nostat) ns0))).ext E11) Kq12 (nsS ((Bq10.1.ext E11).nostat) (nsS ((Bq10.2.2.2.2.ext E11).nostat) ns0)))
  have f16 := (own_sta_keepN ((own_sta_keepN f8 Kq10 (nsS (Bq4.1.nostat) (nsS (Bq4.2.2.2.2.nostat) ns0))).ext E11) Kq12 (nsS ((Bq10.1.ext E11).nostat) (nsS ((Bq10.2.2.2.2.ext E11).nostat) ns0)))
  have f17 := (own_arr_keep ((own_arr_keep f9 Kq10 (ninS ne_d1_b1 (ninS ne_d1_vb4 nin0))).ext E11) Kq12 (ninS ne_d1_b1 (ninS ne_d1_vb10 nin0)))
  obtain ⟨cq18, kq18, q18a, q18b, q18c⟩ := isOf hZ11 e14 Bq12.1
  obtain ⟨_, _, ⟨T18, L18, k18, n18⟩, -, X18, ⟨Lc18, hQ18, l18, y18, z18⟩, st18⟩ := X14.virtualBack hx (y := (⟨"java/lang/StringBuilder", "append", "(J)Ljava/lang/StringBuilder;"⟩ : MethodName)) (z := (⟨"java/lang/StringBuilder", "append", "(J)Ljava/lang/StringBuilder;"⟩ : MethodName)) hown11 (mvT hZ11 (hw _ (M 127))) (mvT hZ11 (hw _ (M 128))) (notFace_of_selects (args := #[]) (mvT hZ11 (hw _ (M 130)))) (mvT hZ11 (hw _ (M 130))) (mvT hZ11 (hw _ (M 129))) (by decide) (backOf (W := 0) ((bAppJ l Z a0 hw b1 vb12 kb12 (34 : Int32) (24 : Int32) tx_12 zc (25 : Int32) (-9 : Int32) tx_13 d1 cd T12.heap n0 (Nat.le_trans Z0 K12.1) ⟨Bq12.1, Bq12.2.1, Bq12.2.2.1, Bq12.2.2.2.1, Bq12.2.2.2.2⟩ f15 hz g_b1 g_vb12 (by decide) (by decide) (by decide) f16 f17 hind hatd (by decide) (by decide) (Nat.le_of_ble_eq_true rfl) (by rfl)) []) hZ11 (hw _ (M 131)) (hw _ (M 60)) (by decide) (by decide)) q18a q18c (g := (mkF m 28 #[.val (.ref oc), .val (.int (1 : Int32))] [(.long (0 : Int64)), (.ref b1)])) rfl (by rw [hml]; rfl) (Steps.refl _) (argsL := [(.long (0 : Int64))]) (rest := []) (lenOf pd_oJcLjava_lang_StringBuilder_ rfl) rfl (by show 2 * 0 + _ ≤ _; exact Nat.le_of_eq rfl) (hb hby d8_28) (fun _ _ => ⟨rfl, e14, (by decide : 7 + 0 ≤ _), (by decide : 190 + 0 ≤ _)⟩)
  dsimp only [Pt.U, Pt.locs, Pt.cells, Pt.slots] at X18 l18 y18 z18 st18 hQ18
  subst l18 y18 z18
  obtain ⟨vb18, kb18, rfl, N18q, Kq18, or18, gg18, Bq18⟩ := hQ18
  have sz_vb18 : h0.size ≤ vb18 := or18.elim (fun q => by rw [q]; exact sz_vb12) (fun q => Nat.le_trans K12.1 q)
  have g_vb18 : n0 ≤ vb18 := gg18
  have Sn18 : Safe Z consts_1 T11.vm T12.heap vb18 := or18.elim (fun q => by rw [q]; exact Sf12_vb12) (fun q => Safe.new q)
  have ne_b1_vb18 : b1 ≠ vb18 := or18.elim (fun q => by rw [q]; exact ne_b1_vb12) (fun q => Nat.ne_of_lt (Nat.lt_of_lt_of_le Bq12.1.lt q))
  have ne_d1_vb18 : d1 ≠ vb18 := or18.elim (fun q => by rw [q]; exact ne_d1_vb12) (fun q => Nat.ne_of_lt (Nat.lt_of_lt_of_le f17.lt q))
  have ne_oc_vb18 : oc ≠ vb18 := or18.elim (fun q => by rw [q]; exact ne_oc_vb12) (fun q => Nat.ne_of_lt (Nat.lt_of_lt_of_le (((((((B0.1.ext E1).keep Kq2).ext E3).keep Kq4).keep Kq10).ext E11).keep Kq12).lt q))
  have K18 : Keep h0 T18.heap [] := K12.trans Kq18 (allS (Or.inr sz_b1) (allS (Or.inr sz_vb12) all0))
  have Ch18 : CHr Z consts_1 s.vm h0 T11.vm T18.heap := Ch12.trans (CHr.keep Kq18 (sfS Sf12_b1 (sfS Sf12_vb12 sf0)) Ch12.1)
  have Sf18_b1 : Safe Z consts_1 T11.vm T18.heap b1 := Safe.keep Kq18 (sfS Sf12_b1 (sfS Sf12_vb12 sf0)) Ch12.1 Sf12_b1
  have Sf18_vb12 : Safe Z consts_1 T11.vm T18.heap vb12 := Safe.keep Kq18 (sfS Sf12_b1 (sfS Sf12_vb12 sf0)) Ch12.1 Sf12_vb12
  have Sf18_vb18 : Safe Z consts_1 T11.vm T18.heap vb18 := Safe.keep Kq18 (sfS Sf12_b1 (sfS Sf12_vb12 sf0)) Ch12.1 Sn18
  have hkk18 : k11 ≤ T18.heap.size := Nat.le_trans hkk12 Kq18.1
  have N18 := Fr.app N12 N18q
  have f19 := ((((((((B0.2.1.ext E1).keep Kq2 (ninS ne_oc_b1 nin0)).ext E3).keep Kq4 (ninS ne_oc_b1 (ninS ne_oc_va2 nin0))).keep Kq10 (ninS ne_oc_b1 (ninS ne_oc_vb4 nin0))).ext E11).keep Kq12 (ninS ne_oc_b1 (ninS ne_oc_vb10 nin0))).keep Kq18 (ninS ne_oc_b1 (ninS ne_oc_vb12 nin0)))
  obtain ⟨T20, X20, e20, st20⟩ := getF X18 hx hZ11 hown11 (host := "") (Or.inl (hw _ (M 15))) Via.refl rfl f19 (g := (mkF m 32 #[.val (.ref oc), .val (.int (1 : Int32))] [(.ref oc), (.ref b1)])) rfl rfl (hb hby d8_32)
  have f21 := (own_sta_keepN (own_sta_keepN ((own_sta_keepN (own_sta_keepN ((own_sta_keepN (S_SKIP.ext E1) Kq2 (nsS (A1.nostat) ns0)).ext E3) Kq4 (nsS ((Bq2.1.ext E3).nostat) (nsS ((Bq2.2.2.2.2.ext E3).nostat) ns0))) Kq10 (nsS (Bq4.1.nostat) (nsS (Bq4.2.2.2.2.nostat) ns0))).ext E11) Kq12 (nsS ((Bq10.1.ext E11).nostat) (nsS ((Bq10.2.2.2.2.ext E11).nostat) ns0))) Kq18 (nsS (Bq12.1.nostat) (nsS (Bq12.2.2.2.2.nostat) ns0)))
  obtain ⟨T22, X22, e22, st22⟩ := getS2 X20 hx hZ11 hown11 (host := "") (Or.inl (hw _ (M 176))) Via.refl e20 f21 (g := (mkF m 35 #[.val (.ref oc), .val (.int (1 : Int32))] [(.ref so), (.ref b1)])) rfl (hb hby d8_35)
  obtain ⟨c23, T23, h23, k23, sb23, kS23, X23, e23, E23, hS23, hk23, hZ23, hown23, Es23, Fc23, Fv23, Va23, -, -, CR23, -, hn23, st23⟩ := ldcCH (s := s) (vm0 := T11.vm) X22 hx hZ11 hown11 (hw _ (M 178)) (own_strA hw) e22 hS11 hkk18 (own_EW hw) (List.mem_of_getElem? (i := 3) rfl) Ch18.1 lit_5 (z := (0 : Int32)) (by decide) (by rfl) (g := (mkF m 66 #[.val (.ref oc), .val (.int (1 : Int32))] [(.ref b1)])) rfl (hb hby d8_66) (n := 0) (by decide) (by decide) (by decide) (by decide)
  have K23 : Keep h0 h23 [] := K18.ext E23
  have Ch23 : CHr Z consts_1 s.vm h0 T23.vm h23 := Ch18.trans CR23
  have Sf23_b1 : Safe Z consts_1 T23.vm h23 b1 := CHr.safe CR23 Bq18.1.lt Sf18_b1
  have Sf23_vb18 : Safe Z consts_1 T23.vm h23 vb18 := CHr.safe CR23 Bq18.2.2.2.2.lt Sf18_vb18
  obtain ⟨cq24, kq24, q24a, q24b, q24c⟩ := isOf hZ23 e23 (Bq18.1.ext E23)
  obtain ⟨_, _, ⟨T24, L24, k24, n24⟩, -, X24, ⟨Lc24, hQ24, l24, y24, z24⟩, st24⟩ := X23.virtualBack hx (y := (⟨"java/lang/StringBuilder", "append", "(Ljava/lang/String;)Ljava/lang/StringBuilder;"⟩ : MethodName)) (z := (⟨"java/lang/StringBuilder", "append", "(Ljava/lang/String;)Ljava/lang/StringBuilder;"⟩ : MethodName)) hown23 (mvT hZ23 (hw _ (M 77))) (mvT hZ23 (hw _ (M 78))) (notFace_of_selects (args := #[]) (mvT hZ23 (hw _ (M 80)))) (mvT hZ23 (hw _ (M 80))) (mvT hZ23 (hw _ (M 79))) (by decide) (backOf (W := 0) ((bAppN l Z a0 hw b1 vb18 kb18 (34 : Int32) (25 : Int32) tx_13 c23 sb23 kS23 (0 : Int32) tx_5 zc (25 : Int32) (-9 : Int32) tx_13 h23 n0 (Nat.le_trans Z0 K23.1) ⟨(Bq18.1.ext E23), (Bq18.2.1.ext E23), (Bq18.2.2.1.ext E23), (Bq18.2.2.2.1.ext E23), (Bq18.2.2.2.2.ext E23)⟩ ⟨Es23, Fc23, Fv23, Va23⟩ ((own_sta_keepN f15 Kq18 (nsS (Bq12.1.nostat) (nsS (Bq12.2.2.2.2.nostat) ns0))).ext E23) hz g_b1 g_vb18 (Ne.symm (hn23 vb18 Sf23_vb18).2) (by decide) (by decide) (by decide) (by decide) (by decide) (Nat.le_of_ble_eq_true rfl) (Nat.le_of_ble_eq_true rfl) (by rfl)) []) hZ23 (hw _ (M 81)) (hw _ (M 60)) (by decide) (by decide)) q24a q24c (g := (mkF m 68 #[.val (.ref oc), .val (.int (1 : Int32))] [(.ref c23), (.ref b1)])) rfl (by rw [hml]; rfl) (Steps.refl _) (argsL := [(.ref c23)]) (rest := []) (lenOf pd_oLjava_lang_String_cLjava_lang_StringBuilder_ rfl) rfl (by show 2 * 0 + _ ≤ _; exact Nat.le_of_eq rfl) (hb hby d8_68) (fun _ _ => ⟨rfl, e23, (by decide : 9 + 0 ≤ _), (by decide : 194 + 0 ≤ _)⟩)
  dsimp only [Pt.U, Pt.locs, Pt.cells, Pt.slots] at X24 l24 y24 z24 st24 hQ24
  subst l24 y24 z24
  have f25 := (((((((((B0.1.ext E1).keep Kq2).ext E3).keep Kq4).keep Kq10).ext E11).keep Kq12).keep Kq18).ext E23)
  obtain ⟨vb24, kb24, rfl, N24q, Kq24, or24, gg24, Bq24⟩ := hQ24
  have sz_vb24 : h0.size ≤ vb24 := or24.elim (fun q => by rw [q]; exact sz_vb18) (fun q => Nat.le_trans K23.1 q)
  have g_vb24 : n0 ≤ vb24 := gg24
  have Sn24 : Safe Z consts_1 T23.vm h23 vb24 := or24.elim (fun q => by rw [q]; exact Sf23_vb18) (fun q => Safe.new q)
  have ne_b1_vb24 : b1 ≠ vb24 := or24.elim (fun q => by rw [q]; exact ne_b1_vb18) (fun q => Nat.ne_of_lt (Nat.lt_of_lt_of_le (Bq18.1.ext E23).lt q))
  have ne_d1_vb24 : d1 ≠ vb24 := or24.elim (fun q => by rw [q]; exact ne_d1_vb18) (fun q => Nat.ne_of_lt (Nat.lt_of_lt_of_le ((own_arr_keep f17 Kq18 (ninS ne_d1_b1 (ninS ne_d1_vb12 nin0))).ext E23).lt q))
  have ne_oc_vb24 : oc ≠ vb24 := or24.elim (fun q => by rw [q]; exact ne_oc_vb18) (fun q => Nat.ne_of_lt (Nat.lt_of_lt_of_le f25.lt q))
  have K24 : Keep h0 T24.heap [] := K23.trans Kq24 (allS (Or.inr sz_b1) (allS (Or.inr sz_vb18) all0))
  have Ch24 : CHr Z consts_1 s.vm h0 T23.vm T24.heap := Ch23.trans (CHr.keep Kq24 (sfS Sf23_b1 (sfS Sf23_vb18 sf0)) Ch23.1)
  have Sf24_b1 : Safe Z consts_1 T23.vm T24.heap b1 := Safe.keep Kq24 (sfS Sf23_b1 (sfS Sf23_vb18 sf0)) Ch23.1 Sf23_b1
  have Sf24_vb18 : Safe Z consts_1 T23.vm T24.heap vb18 := Safe.keep Kq24 (sfS Sf23_b1 (sfS Sf23_vb18 sf0)) Ch23.1 Sf23_vb18
  have Sf24_vb24 : Safe Z consts_1 T23.vm T24.heap vb24 := Safe.keep Kq24 (sfS Sf23_b1 (sfS Sf23_vb18 sf0)) Ch23.1 Sn24
  have hkk24 : k23 ≤ T24.heap.size := Nat.le_trans hk23 Kq24.1
  have N24 := Fr.app N18 N24q
  have f26 := (own_arr_keep ((own_arr_keep f17 Kq18 (ninS ne_d1_b1 (ninS ne_d1_vb12 nin0))).ext E23) Kq24 (ninS ne_d1_b1 (ninS ne_d1_vb18 nin0)))
  obtain ⟨T27, h27, X27, e27, E27, A27, D27, -, st27⟩ := newO X24 hx hZ23 hown23 (hw _ (M 58)) (hw _ (M 59)) (hw _ (M 60)) rfl (g := (mkF m 75 #[.val (.ref oc), .val (.int (1 : Int32))] [(.ref b1)])) rfl (hb hby d8_75) (by decide) (by decide)
  obtain ⟨b27, g27⟩ : ∃ z, z = T24.heap.size := ⟨_, rfl⟩
  rw [← g27] at A27 D27 st27
  have sz_b27 : h0.size ≤ b27 := Nat.le_trans K24.1 (Nat.le_of_eq g27.symm)
  have g_b27 : n0 ≤ b27 := Nat.le_trans Z0 sz_b27
  have ne_b1_b27 : b1 ≠ b27 := Nat.ne_of_lt (Nat.lt_of_lt_of_le Bq24.1.lt (Nat.le_of_eq g27.symm))
  have ne_d1_b27 : d1 ≠ b27 := Nat.ne_of_lt (Nat.lt_of_lt_of_le f26.lt (Nat.le_of_eq g27.symm))
  have ne_oc_b27 : oc ≠ b27 := Nat.ne_of_lt (Nat.lt_of_lt_of_le (f25.keep Kq24).lt (Nat.le_of_eq g27.symm))
  have ne_vb24_b27 : vb24 ≠ b27 := Nat.ne_of_lt (Nat.lt_of_lt_of_le Bq24.2.2.2.2.lt (Nat.le_of_eq g27.symm))
  have K27 : Keep h0 h27 [] := K24.ext E27
  have F_value_b27 : Fld Z h27 b27 "java/lang/AbstractStringBuilder" "value" "[B" .null := D27 (Or.inl (hw _ (M 73))) (ty := (.array .byte)) (by decide)
  have F_coder_b27 : Fld Z h27 b27 "java/lang/AbstractStringBuilder" "coder" "B" (.int (0 : Int32)) := D27 (Or.inl (hw _ (M 75))) (ty := .byte) (by decide)
  have F_count_b27 : Fld Z h27 b27 "java/lang/AbstractStringBuilder" "count" "I" (.int (0 : Int32)) := D27 (Or.inl (hw _ (M 101))) (ty := .int) (by decide)
  have Ch27 : CHr Z consts_1 s.vm h0 T23.vm h27 := Ch24.trans (CHr.ext E27 Ch24.1)
  have Sf27_b1 : Safe Z consts_1 T23.vm h27 b1 := Safe.ext E27 Ch24.1 Sf24_b1
  have Sf27_vb24 : Safe Z consts_1 T23.vm h27 vb24 := Safe.ext E27 Ch24.1 Sf24_vb24
  have Sf27_b27 : Safe Z consts_1 T23.vm h27 b27 := Safe.ext E27 Ch24.1 (Safe.new (Nat.le_of_eq g27.symm))
  have hkk27 : k23 ≤ h27.size := Nat.le_trans hkk24 E27.1
  have f28 := ((own_sta_keepN ((own_sta_keepN f15 Kq18 (nsS (Bq12.1.nostat) (nsS (Bq12.2.2.2.2.nostat) ns0))).ext E23) Kq24 (nsS ((Bq18.1.ext E23).nostat) (nsS ((Bq18.2.2.2.2.ext E23).nostat) ns0))).ext E27)
  obtain ⟨_, _, ⟨T29, L29, k29, n29⟩, -, X29, ⟨Lc29, hQ29, l29, y29, z29⟩, st29⟩ := X27.specialBack hx (y := (⟨"java/lang/StringBuilder", "<init>", "()V"⟩ : MethodName)) rfl hown23 (mvT hZ23 (hw _ (M 61))) (mvT hZ23 (hw _ (M 62))) (mvT hZ23 (hw _ (M 63))) (by decide) (backOf (W := 2) ((bInit l Z a0 hw zc b27 h27 n0 (Nat.le_trans Z0 K27.1) f28 hz A27 F_value_b27 F_coder_b27 F_count_b27 g_b27) []) hZ23 (hw _ (M 63)) (hw _ (M 60)) (by decide) (by decide)) (g := (mkF m 79 #[.val (.ref oc), .val (.int (1 : Int32))] [(.ref b27), (.ref b27), (.ref b1)])) rfl (by rw [hml]; rfl) (Steps.refl _) (a := b27) (argsL := []) (rest := [(.ref b27), (.ref b1)]) (lenOf pd_ocV rfl) rfl (by show 2 * 0 + _ ≤ _; exact Nat.le_of_eq rfl) (hb hby d8_79) (fun _ _ => ⟨rfl, e27, (by decide : 10 + 1 ≤ _), (by decide : 198 + 16 ≤ _)⟩)
  dsimp only [Pt.U, Pt.locs, Pt.cells, Pt.slots] at X29 l29 y29 z29 st29 hQ29
  subst l29 y29 z29
  obtain ⟨va29, kA29, rfl, N29q, Kq29, sz29q, Bq29⟩ := hQ29
  have sz_va29 : h0.size ≤ va29 := Nat.le_trans K27.1 sz29q
  have g_va29 : n0 ≤ va29 := Nat.le_trans Z0 sz_va29
  have ne_b1_va29 : b1 ≠ va29 := Nat.ne_of_lt (Nat.lt_of_lt_of_le (Bq24.1.ext E27).lt sz29q)
  have ne_b27_va29 : b27 ≠ va29 := Nat.ne_of_lt (Nat.lt_of_lt_of_le A27.lt sz29q)
  have ne_d1_va29 : d1 ≠ va29 := Nat.ne_of_lt (Nat.lt_of_lt_of_le (f26.ext E27).lt sz29q)
  have ne_oc_va29 : oc ≠ va29 := Nat.ne_of_lt (Nat.lt_of_lt_of_le ((f25.keep Kq24).ext E27).lt sz29q)
  have ne_vb24_va29 : vb24 ≠ va29 := Nat.ne_of_lt (Nat.lt_of_lt_of_le (Bq24.2.2.2.2.ext E27).lt sz29q)
  have K29 : Keep h0 T29.heap [] := K27.trans Kq29 (allS (Or.inr sz_b27) all0)
  have Ch29 : CHr Z consts_1 s.vm h0 T23.vm T29.heap := Ch27.trans (CHr.keep Kq29 (sfS Sf27_b27 sf0) Ch27.1)
  have Sf29_b1 : Safe Z consts_1 T23.vm T29.heap b1 := Safe.keep Kq29 (sfS Sf27_b27 sf0) Ch27.1 Sf27_b1
  have Sf29_vb24 : Safe Z consts_1 T23.vm T29.heap vb24 := Safe.keep Kq29 (sfS Sf27_b27 sf0) Ch27.1 Sf27_vb24
  have Sf29_b27 : Safe Z consts_1 T23.vm T29.heap b27 := Safe.keep Kq29 (sfS Sf27_b27 sf0) Ch27.1 Sf27_b27
  have Sf29_va29 : Safe Z consts_1 T23.vm T29.heap va29 := Safe.keep Kq29 (sfS Sf27_b27 sf0) Ch27.1 (Safe.new sz29q)
  have hkk29 : k23 ≤ T29.heap.size := Nat.le_trans hkk27 Kq29.1
  have N29 := Fr.app N24 N29q
  obtain ⟨c30, T30, h30, k30, sb30, kS30, X30, e30, E30, hS30, hk30, hZ30, hown30, Es30, Fc30, Fv30, Va30, -, -, CR30, -, hn30, st30⟩ := ldcCH (s := s) (vm0 := T23.vm) X29 hx hZ23 hown23 (hw _ (M 237)) (own_strA hw) rfl hS23 hkk29 (own_EW hw) (List.mem_of_getElem? (i := 4) rfl) Ch29.1 lit_4 (z := (9 : Int32)) (by decide) (by rfl) (g := (mkF m 82 #[.val (.ref oc), .val (.int (1 : Int32))] [(.ref b27), (.ref b1)])) rfl (hb hby d8_82) (n := 36) (by decide) (by decide) (by decide) (by decide)
  have K30 : Keep h0 h30 [] := K29.ext E30
  have Ch30 : CHr Z consts_1 s.vm h0 T30.vm h30 := Ch29.trans CR30
  have Sf30_b1 : Safe Z consts_1 T30.vm h30 b1 := CHr.safe CR30 ((Bq24.1.ext E27).keep Kq29).lt Sf29_b1
  have Sf30_vb24 : Safe Z consts_1 T30.vm h30 vb24 := CHr.safe CR30 ((Bq24.2.2.2.2.ext E27).keep Kq29 (ninS ne_vb24_b27 nin0)).lt Sf29_vb24
  have Sf30_b27 : Safe Z consts_1 T30.vm h30 b27 := CHr.safe CR30 Bq29.1.lt Sf29_b27
  have Sf30_va29 : Safe Z consts_1 T30.vm h30 va29 := CHr.safe CR30 Bq29.2.2.2.2.lt Sf29_va29
  obtain ⟨cq31, kq31, q31a, q31b, q31c⟩ := isOf hZ30 e30 (Bq29.1.ext E30)
  obtain ⟨_, _, ⟨T31, L31, k31, n31⟩, -, X31, ⟨Lc31, hQ31, l31, y31, z31⟩, st31⟩ := X30.virtualBack hx (y := (⟨"java/lang/StringBuilder", "append", "(Ljava/lang/String;)Ljava/lang/StringBuilder;"⟩ : MethodName)) (z := (⟨"java/lang/StringBuilder", "append", "(Ljava/lang/String;)Ljava/lang/StringBuilder;"⟩ : MethodName)) hown30 (mvT hZ30 (hw _ (M 77))) (mvT hZ30 (hw _ (M 78))) (notFace_of_selects (args := #[]) (mvT hZ30 (hw _ (M 80)))) (mvT hZ30 (hw _ (M 80))) (mvT hZ30 (hw _ (M 79))) (by decide) (backOf (W := 1) ((bAppN l Z a0 hw b27 va29 kA29 (16 : Int32) (0 : Int32) (List.replicate (16 : Int32).toNatClampNeg (.int (0 : Int32))) c30 sb30 kS30 (9 : Int32) tx_4 zc (9 : Int32) (-7 : Int32) tx_19 h30 n0 (Nat.le_trans Z0 K30.1) ⟨(Bq29.1.ext E30), (Bq29.2.1.ext E30), (Bq29.2.2.1.ext E30), (Bq29.2.2.2.1.ext E30), (Bq29.2.2.2.2.ext E30)⟩ ⟨Es30, Fc30, Fv30, Va30⟩ ((own_sta_keepN f28 Kq29 (nsS (A27.nostat) ns0)).ext E30) hz g_b27 g_va29 (Ne.symm (hn30 va29 Sf30_va29).2) (by decide) (by decide) (by decide) (by decide) (by decide) (Nat.le_of_ble_eq_true rfl) (Nat.le_of_ble_eq_true rfl) (by rfl)) []) hZ30 (hw _ (M 81)) (hw _ (M 60)) (by decide) (by decide)) q31a q31c (g := (mkF m 84 #[.val (.ref oc), .val (.int (1 : Int32))] [(.ref c30), (.ref b27), (.ref b1)])) rfl (by rw [hml]; rfl) (Steps.refl _) (argsL := [(.ref c30)]) (rest := [(.ref b1)]) (lenOf pd_oLjava_lang_String_cLjava_lang_StringBuilder_ rfl) rfl (by show 2 * 0 + _ ≤ _; exact Nat.le_of_eq rfl) (hb hby d8_84) (fun _ _ => ⟨rfl, e30, (by decide : 13 + 0 ≤ _), (by decide : 254 + 0 ≤ _)⟩)
  dsimp only [Pt.U, Pt.locs, Pt.cells, Pt.slots] at X31 l31 y31 z31 st31 hQ31
  subst l31 y31 z31
  obtain ⟨vb31, kb31, rfl, N31q, Kq31, or31, gg31, Bq31⟩ := hQ31
  have sz_vb31 : h0.size ≤ vb31 := or31.elim (fun q => by rw [q]; exact sz_va29) (fun q => Nat.le_trans K30.1 q)
  have g_vb31 : n0 ≤ vb31 := gg31
  have Sn31 : Safe Z consts_1 T30.vm h30 vb31 := or31.elim (fun q => by rw [q]; exact Sf30_va29) (fun q => Safe.new q)
  have ne_b1_vb31 : b1 ≠ vb31 := or31.elim (fun q => by rw [q]; exact ne_b1_va29) (fun q => Nat.ne_of_lt (Nat.lt_of_lt_of_le (((Bq24.1.ext E27).keep Kq29).ext E30).lt q))
  have ne_b27_vb31 : b27 ≠ vb31 := or31.elim (fun q => by rw [q]; exact ne_b27_va29) (fun q => Nat.ne_of_lt (Nat.lt_of_lt_of_le (Bq29.1.ext E30).lt q))
  have ne_d1_vb31 : d1 ≠ vb31 := or31.elim (fun q => by rw [q]; exact ne_d1_va29) (fun q => Nat.ne_of_lt (Nat.lt_of_lt_of_le ((own_arr_keep (f26.ext E27) Kq29 (ninS ne_d1_b27 nin0)).ext E30).lt q))
  have ne_oc_vb31 : oc ≠ vb31 := or31.elim (fun q => by rw [q]; exact ne_oc_va29) (fun q => Nat.ne_of_lt (Nat.lt_of_lt_of_le ((((f25.keep Kq24).ext E27).keep Kq29).ext E30).lt q))
  have ne_vb24_vb31 : vb24 ≠ vb31 := or31.elim (fun q => by rw [q]; exact ne_vb24_va29) (fun q => Nat.ne_of_lt (Nat.lt_of_lt_of_le (((Bq24.2.2.2.2.ext E27).keep Kq29 (ninS ne_vb24_b27 nin0)).ext E30).lt q))
  have K31 : Keep h0 T31.heap [] := K30.trans Kq31 (allS (Or.inr sz_b27) (allS (Or.inr sz_va29) all0))
  have Ch31 : CHr Z consts_1 s.vm h0 T30.vm T31.heap := Ch30.trans (CHr.keep Kq31 (sfS Sf30_b27 (sfS Sf30_va29 sf0)) Ch30.1)
  have Sf31_b1 : Safe Z consts_1 T30.vm T31.heap b1 := Safe.keep Kq31 (sfS Sf30_b27 (sfS Sf30_va29 sf0)) Ch30.1 Sf30_b1
  have Sf31_vb24 : Safe Z consts_1 T30.vm T31.heap vb24 := Safe.keep Kq31 (sfS Sf30_b27 (sfS Sf30_va29 sf0)) Ch30.1 Sf30_vb24
  have Sf31_b27 : Safe Z consts_1 T30.vm T31.heap b27 := Safe.keep Kq31 (sfS Sf30_b27 (sfS Sf30_va29 sf0)) Ch30.1 Sf30_b27
  have Sf31_va29 : Safe Z consts_1 T30.vm T31.heap va29 := Safe.keep Kq31 (sfS Sf30_b27 (sfS Sf30_va29 sf0)) Ch30.1 Sf30_va29
  have Sf31_vb31 : Safe Z consts_1 T30.vm T31.heap vb31 := Safe.keep Kq31 (sfS Sf30_b27 (sfS Sf30_va29 sf0)) Ch30.1 Sn31
  have hkk31 : k30 ≤ T31.heap.size := Nat.le_trans hk30 Kq31.1
  have N31 := Fr.app N29 N31q
  have f32 := ((((((((((((((B0.2.2.2.2.2.ext E1).keep Kq2 (ninS ne_oc_b1 nin0)).ext E3).keep Kq4 (ninS ne_oc_b1 (ninS ne_oc_va2 nin0))).keep Kq10 (ninS ne_oc_b1 (ninS ne_oc_vb4 nin0))).ext E11).keep Kq12 (ninS ne_oc_b1 (ninS ne_oc_vb10 nin0))).keep Kq18 (ninS ne_oc_b1 (ninS ne_oc_vb12 nin0))).ext E23).keep Kq24 (ninS ne_oc_b1 (ninS ne_oc_vb18 nin0))).ext E27).keep Kq29 (ninS ne_oc_b27 nin0)).ext E30).keep Kq31 (ninS ne_oc_b27 (ninS ne_oc_va29 nin0)))
  obtain ⟨T33, X33, e33, st33⟩ := getF X31 hx hZ30 hown30 (host := "") (Or.inl (hw _ (M 23))) Via.refl rfl f32 (g := (mkF m 88 #[.val (.ref oc), .val (.int (1 : Int32))] [(.ref oc), (.ref b27), (.ref b1)])) rfl rfl (hb hby d8_88)
  have f34 := (own_sta_keepN ((own_sta_keepN f28 Kq29 (nsS (A27.nostat) ns0)).ext E30) Kq31 (nsS ((Bq29.1.ext E30).nostat) (nsS ((Bq29.2.2.2.2.ext E30).nostat) ns0)))
  have f35 := (own_sta_keepN ((own_sta_keepN ((own_sta_keepN ((own_sta_keepN f16 Kq18 (nsS (Bq12.1.nostat) (nsS (Bq12.2.2.2.2.nostat) ns0))).ext E23) Kq24 (nsS ((Bq18.1.ext E23).nostat) (nsS ((Bq18.2.2.2.2.ext E23).nostat) ns0))).ext E27) Kq29 (nsS (A27.nostat) ns0)).ext E30) Kq31 (nsS ((Bq29.1.ext E30).nostat) (nsS ((Bq29.2.2.2.2.ext E30).nostat) ns0)))
  have f36 := (own_arr_keep ((own_arr_keep (f26.ext E27) Kq29 (ninS ne_d1_b27 nin0)).ext E30) Kq31 (ninS ne_d1_b27 (ninS ne_d1_va29 nin0)))
  obtain ⟨cq37, kq37, q37a, q37b, q37c⟩ := isOf hZ30 e33 Bq31.1
  obtain ⟨_, _, ⟨T37, L37, k37, n37⟩, -, X37, ⟨Lc37, hQ37, l37, y37, z37⟩, st37⟩ := X33.virtualBack hx (y := (⟨"java/lang/StringBuilder", "append", "(J)Ljava/lang/StringBuilder;"⟩ : MethodName)) (z := (⟨"java/lang/StringBuilder", "append", "(J)Ljava/lang/StringBuilder;"⟩ : MethodName)) hown30 (mvT hZ30 (hw _ (M 127))) (mvT hZ30 (hw _ (M 128))) (notFace_of_selects (args := #[]) (mvT hZ30 (hw _ (M 130)))) (mvT hZ30 (hw _ (M 130))) (mvT hZ30 (hw _ (M 129))) (by decide) (backOf (W := 1) ((bAppJ l Z a0 hw b27 vb31 kb31 (16 : Int32) (9 : Int32) tx_19 zc (10 : Int32) (-6 : Int32) tx_20 d1 cd T31.heap n0 (Nat.le_trans Z0 K31.1) ⟨Bq31.1, Bq31.2.1, Bq31.2.2.1, Bq31.2.2.2.1, Bq31.2.2.2.2⟩ f34 hz g_b27 g_vb31 (by decide) (by decide) (by decide) f35 f36 hind hatd (by decide) (by decide) (Nat.le_of_ble_eq_true rfl) (by rfl)) []) hZ30 (hw _ (M 131)) (hw _ (M 60)) (by decide) (by decide)) q37a q37c (g := (mkF m 91 #[.val (.ref oc), .val (.int (1 : Int32))] [(.long (0 : Int64)), (.ref b27), (.ref b1)])) rfl (by rw [hml]; rfl) (Steps.refl _) (argsL := [(.long (0 : Int64))]) (rest := [(.ref b1)]) (lenOf pd_oJcLjava_lang_StringBuilder_ rfl) rfl (by show 2 * 0 + _ ≤ _; exact Nat.le_of_eq rfl) (hb hby d8_91) (fun _ _ => ⟨rfl, e33, (by decide : 13 + 0 ≤ _), (by decide : 254 + 0 ≤ _)⟩)
  dsimp only [Pt.U, Pt.locs, Pt.cells, Pt.slots] at X37 l37 y37 z37 st37 hQ37
  subst l37 y37 z37
  have f38 := ((((Bq24.2.2.2.2.ext E27).keep Kq29 (ninS ne_vb24_b27 nin0)).ext E30).keep Kq31 (ninS ne_vb24_b27 (ninS ne_vb24_va29 nin0)))
  obtain ⟨vb37, kb37, rfl, N37q, Kq37, or37, gg37, Bq37⟩ := hQ37
  have sz_vb37 : h0.size ≤ vb37 := or37.elim (fun q => by rw [q]; exact sz_vb31) (fun q => Nat.le_trans K31.1 q)
  have g_vb37 : n0 ≤ vb37 := gg37
  have Sn37 : Safe Z consts_1 T30.vm T31.heap vb37 := or37.elim (fun q => by rw [q]; exact Sf31_vb31) (fun q => Safe.new q)
  have ne_b1_vb37 : b1 ≠ vb37 := or37.elim (fun q => by rw [q]; exact ne_b1_vb31) (fun q => Nat.ne_of_lt (Nat.lt_of_lt_of_le ((((Bq24.1.ext E27).keep Kq29).ext E30).keep Kq31).lt q))
  have ne_b27_vb37 : b27 ≠ vb37 := or37.elim (fun q => by rw [q]; exact ne_b27_vb31) (fun q => Nat.ne_of_lt (Nat.lt_of_lt_of_le Bq31.1.lt q))
  have ne_d1_vb37 : d1 ≠ vb37 := or37.elim (fun q => by rw [q]; exact ne_d1_vb31) (fun q => Nat.ne_of_lt (Nat.lt_of_lt_of_le f36.lt q))
  have ne_oc_vb37 : oc ≠ vb37 := or37.elim (fun q => by rw [q]; exact ne_oc_vb31) (fun q => Nat.ne_of_lt (Nat.lt_of_lt_of_le (((((f25.keep Kq24).ext E27).keep Kq29).ext E30).keep Kq31).lt q))
  have ne_vb24_vb37 : vb24 ≠ vb37 := or37.elim (fun q => by rw [q]; exact ne_vb24_vb31) (fun q => Nat.ne_of_lt (Nat.lt_of_lt_of_le f38.lt q))
  have K37 : Keep h0 T37.heap [] := K31.trans Kq37 (allS (Or.inr sz_b27) (allS (Or.inr sz_vb31) all0))
  have Ch37 : CHr Z consts_1 s.vm h0 T30.vm T37.heap := Ch31.trans (CHr.keep Kq37 (sfS Sf31_b27 (sfS Sf31_vb31 sf0)) Ch31.1)
  have Sf37_b1 : Safe Z consts_1 T30.vm T37.heap b1 := Safe.keep Kq37 (sfS Sf31_b27 (sfS Sf31_vb31 sf0)) Ch31.1 Sf31_b1
  have Sf37_vb24 : Safe Z consts_1 T30.vm T37.heap vb24 := Safe.keep Kq37 (sfS Sf31_b27 (sfS Sf31_vb31 sf0)) Ch31.1 Sf31_vb24
  have Sf37_b27 : Safe Z consts_1 T30.vm T37.heap b27 := Safe.keep Kq37 (sfS Sf31_b27 (sfS Sf31_vb31 sf0)) Ch31.1 Sf31_b27
  have Sf37_vb31 : Safe Z consts_1 T30.vm T37.heap vb31 := Safe.keep Kq37 (sfS Sf31_b27 (sfS Sf31_vb31 sf0)) Ch31.1 Sf31_vb31
  have Sf37_vb37 : Safe Z consts_1 T30.vm T37.heap vb37 := Safe.keep Kq37 (sfS Sf31_b27 (sfS Sf31_vb31 sf0)) Ch31.1 Sn37
  have hkk37 : k30 ≤ T37.heap.size := Nat.le_trans hkk31 Kq37.1
  have N37 := Fr.app N31 N37q
  obtain ⟨cq39, kq39, q39a, q39b, q39c⟩ := isOf hZ30 rfl Bq37.1
  obtain ⟨_, _, ⟨T39, L39, k39, n39⟩, -, X39, ⟨Lc39, hQ39, l39, y39, z39⟩, st39⟩ := X37.virtualBack hx (y := (⟨"java/lang/StringBuilder", "toString", "()Ljava/lang/String;"⟩ : MethodName)) (z := (⟨"java/lang/StringBuilder", "toString", "()Ljava/lang/String;"⟩ : MethodName)) hown30 (mvT hZ30 (hw _ (M 179))) (mvT hZ30 (hw _ (M 180))) (notFace_of_selects (args := #[]) (mvT hZ30 (hw _ (M 182)))) (mvT hZ30 (hw _ (M 182))) (mvT hZ30 (hw _ (M 181))) (by decide) (backOf (W := 1) ((bToS l Z a0 hw b27 vb37 kb37 (16 : Int32) (10 : Int32) tx_20 zc tx_21 T37.heap n0 (Nat.le_trans Z0 K37.1) ⟨Bq37.1, Bq37.2.1, Bq37.2.2.1, Bq37.2.2.2.1, Bq37.2.2.2.2⟩ (own_sta_keepN f34 Kq37 (nsS (Bq31.1.nostat) (nsS (Bq31.2.2.2.2.nostat) ns0))) hz (by decide) (Nat.le_of_ble_eq_true rfl) (by decide) (Nat.le_of_ble_eq_true rfl) (by rfl) (by decide)) []) hZ30 (hw _ (M 183)) (hw _ (M 60)) (by decide) (by decide)) q39a q39c (g := (mkF m 94 #[.val (.ref oc), .val (.int (1 : Int32))] [(.ref b27), (.ref b1)])) rfl (by rw [hml]; rfl) (Steps.refl _) (argsL := []) (rest := [(.ref b1)]) (lenOf pd_ocLjava_lang_String_ rfl) rfl (by show 2 * 0 + _ ≤ _; exact Nat.le_of_eq rfl) (hb hby d8_94) (fun _ _ => ⟨rfl, rfl, (by decide : 13 + 2 ≤ _), (by decide : 254 + 49 ≤ _)⟩)
  dsimp only [Pt.U, Pt.locs, Pt.cells, Pt.slots] at X39 l39 y39 z39 st39 hQ39
  subst l39 y39 z39
  obtain ⟨os39, sr39, kS39, rfl, N39q, Kq39, so39q, sr39q, Tq39⟩ := hQ39
  have sz_os39 : h0.size ≤ os39 := Nat.le_trans K37.1 so39q
  have g_os39 : n0 ≤ os39 := Nat.le_trans Z0 sz_os39
  have ne_b1_os39 : b1 ≠ os39 := Nat.ne_of_lt (Nat.lt_of_lt_of_le (((((Bq24.1.ext E27).keep Kq29).ext E30).keep Kq31).keep Kq37).lt so39q)
  have ne_b27_os39 : b27 ≠ os39 := Nat.ne_of_lt (Nat.lt_of_lt_of_le Bq37.1.lt so39q)
  have ne_d1_os39 : d1 ≠ os39 := Nat.ne_of_lt (Nat.lt_of_lt_of_le (own_arr_keep f36 Kq37 (ninS ne_d1_b27 (ninS ne_d1_vb31 nin0))).lt so39q)
  have ne_oc_os39 : oc ≠ os39 := Nat.ne_of_lt (Nat.lt_of_lt_of_le ((((((f25.keep Kq24).ext E27).keep Kq29).ext E30).keep Kq31).keep Kq37).lt so39q)
  have ne_vb24_os39 : vb24 ≠ os39 := Nat.ne_of_lt (Nat.lt_of_lt_of_le (f38.keep Kq37 (ninS ne_vb24_b27 (ninS ne_vb24_vb31 nin0))).lt so39q)
  have ne_vb37_os39 : vb37 ≠ os39 := Nat.ne_of_lt (Nat.lt_of_lt_of_le Bq37.2.2.2.2.lt so39q)
  have sz_sr39 : h0.size ≤ sr39 := Nat.le_trans K37.1 sr39q
  have g_sr39 : n0 ≤ sr39 := Nat.le_trans Z0 sz_sr39
  have ne_b1_sr39 : b1 ≠ sr39 := Nat.ne_of_lt (Nat.lt_of_lt_of_le (((((Bq24.1.ext E27).keep Kq29).ext E30).keep Kq31).keep Kq37).lt sr39q)
  have ne_b27_sr39 : b27 ≠ sr39 := Nat.ne_of_lt (Nat.lt_of_lt_of_le Bq37.1.lt sr39q)
  have ne_d1_sr39 : d1 ≠ sr39 := Nat.ne_of_lt (Nat.lt_of_lt_of_le (own_arr_keep f36 Kq37 (ninS ne_d1_b27 (ninS ne_d1_vb31 nin0))).lt sr39q)
  have ne_oc_sr39 : oc ≠ sr39 := Nat.ne_of_lt (Nat.lt_of_lt_of_le ((((((f25.keep Kq24).ext E27).keep Kq29).ext E30).keep Kq31).keep Kq37).lt sr39q)
  have ne_vb24_sr39 : vb24 ≠ sr39 := Nat.ne_of_lt (Nat.lt_of_lt_of_le (f38.keep Kq37 (ninS ne_vb24_b27 (ninS ne_vb24_vb31 nin0))).lt sr39q)
  have ne_vb37_sr39 : vb37 ≠ sr39 := Nat.ne_of_lt (Nat.lt_of_lt_of_le Bq37.2.2.2.2.lt sr39q)
  have K39 : Keep h0 T39.heap [] := K37.trans Kq39 all0
  have Ch39 : CHr Z consts_1 s.vm h0 T30.vm T39.heap := Ch37.trans (CHr.keep Kq39 sf0 Ch37.1)
  have Sf39_b1 : Safe Z consts_1 T30.vm T39.heap b1 := Safe.keep Kq39 sf0 Ch37.1 Sf37_b1
  have Sf39_vb24 : Safe Z consts_1 T30.vm T39.heap vb24 := Safe.keep Kq39 sf0 Ch37.1 Sf37_vb24
  have Sf39_b27 : Safe Z consts_1 T30.vm T39.heap b27 := Safe.keep Kq39 sf0 Ch37.1 Sf37_b27
  have Sf39_vb37 : Safe Z consts_1 T30.vm T39.heap vb37 := Safe.keep Kq39 sf0 Ch37.1 Sf37_vb37
  have Sf39_os39 : Safe Z consts_1 T30.vm T39.heap os39 := Safe.keep Kq39 sf0 Ch37.1 (Safe.new so39q)
  have Sf39_sr39 : Safe Z consts_1 T30.vm T39.heap sr39 := Safe.keep Kq39 sf0 Ch37.1 (Safe.new sr39q)
  have hkk39 : k30 ≤ T39.heap.size := Nat.le_trans hkk37 Kq39.1
  have N39 := Fr.app N37 N39q
  have f40 := ((((((Bq24.2.1.ext E27).keep Kq29 (ninS ne_b1_b27 nin0)).ext E30).keep Kq31 (ninS ne_b1_b27 (ninS ne_b1_va29 nin0))).keep Kq37 (ninS ne_b1_b27 (ninS ne_b1_vb31 nin0))).keep Kq39 nin0)
  have f41 := ((((((Bq24.2.2.1.ext E27).keep Kq29 (ninS ne_b1_b27 nin0)).ext E30).keep Kq31 (ninS ne_b1_b27 (ninS ne_b1_va29 nin0))).keep Kq37 (ninS ne_b1_b27 (ninS ne_b1_vb31 nin0))).keep Kq39 nin0)
  have f42 := ((((((Bq24.2.2.2.1.ext E27).keep Kq29 (ninS ne_b1_b27 nin0)).ext E30).keep Kq31 (ninS ne_b1_b27 (ninS ne_b1_va29 nin0))).keep Kq37 (ninS ne_b1_b27 (ninS ne_b1_vb31 nin0))).keep Kq39 nin0)
  have f43 := (own_sta_keepN (own_sta_keepN f34 Kq37 (nsS (Bq31.1.nostat) (nsS (Bq31.2.2.2.2.nostat) ns0))) Kq39 ns0)
  obtain ⟨cq44, kq44, q44a, q44b, q44c⟩ := isOf hZ30 rfl ((((((Bq24.1.ext E27).keep Kq29).ext E30).keep Kq31).keep Kq37).keep Kq39)
  obtain ⟨_, _, ⟨T44, L44, k44, n44⟩, -, X44, ⟨Lc44, hQ44, l44, y44, z44⟩, st44⟩ := X39.virtualBack hx (y := (⟨"java/lang/StringBuilder", "append", "(Ljava/lang/String;)Ljava/lang/StringBuilder;"⟩ : MethodName)) (z := (⟨"java/lang/StringBuilder", "append", "(Ljava/lang/String;)Ljava/lang/StringBuilder;"⟩ : MethodName)) hown30 (mvT hZ30 (hw _ (M 77))) (mvT hZ30 (hw _ (M 78))) (notFace_of_selects (args := #[]) (mvT hZ30 (hw _ (M 80)))) (mvT hZ30 (hw _ (M 80))) (mvT hZ30 (hw _ (M 79))) (by decide) (backOf (W := 0) ((bAppG l Z a0 hw b1 vb24 kb24 (34 : Int32) (25 : Int32) tx_13 os39 sr39 kS39 (10 : Int32) tx_21 zc (35 : Int32) (1 : Int32) (36 : Int32) (70 : Int32) tx_17 tx_23 T39.heap n0 (Nat.le_trans Z0 K39.1) ⟨((((((Bq24.1.ext E27).keep Kq29).ext E30).keep Kq31).keep Kq37).keep Kq39), f40, f41, f42, ((f38.keep Kq37 (ninS ne_vb24_b27 (ninS ne_vb24_vb31 nin0))).keep Kq39 nin0)⟩ ⟨Tq39.1, Tq39.2.1, Tq39.2.2.1, Tq39.2.2.2⟩ f43 hz g_b1 g_vb24 (Ne.symm ne_vb24_sr39) (by decide) (by decide) (by decide) (by decide) (by decide) (by decide) (by decide) (by decide) (by decide) (by decide) (by decide) (by decide) (Nat.le_of_ble_eq_true rfl) (by decide) (Nat.le_of_ble_eq_true rfl) (by decide) (by decide) (by rfl) (Nat.le_of_ble_eq_true rfl) (Nat.le_of_ble_eq_true rfl) (by rfl)) []) hZ30 (hw _ (M 81)) (hw _ (M 60)) (by decide) (by decide)) q44a q44c (g := (mkF m 102 #[.val (.ref oc), .val (.int (1 : Int32))] [(.ref os39), (.ref b1)])) rfl (by rw [hml]; rfl) (Steps.refl _) (argsL := [(.ref os39)]) (rest := []) (lenOf pd_oLjava_lang_String_cLjava_lang_StringBuilder_ rfl) rfl (by show 2 * 0 + _ ≤ _; exact Nat.le_of_eq rfl) (hb hby d8_102) (fun _ _ => ⟨rfl, rfl, (by decide : 15 + 1 ≤ _), (by decide : 303 + 70 ≤ _)⟩)
  dsimp only [Pt.U, Pt.locs, Pt.cells, Pt.slots] at X44 l44 y44 z44 st44 hQ44
  subst l44 y44 z44
  obtain ⟨vb44, kb44, rfl, N44q, Kq44, or44, gg44, Bq44⟩ := hQ44
  have sz_vb44 : h0.size ≤ vb44 := or44.elim (fun q => by rw [q]; exact sz_vb24) (fun q => Nat.le_trans K39.1 q)
  have g_vb44 : n0 ≤ vb44 := gg44
  have Sn44 : Safe Z consts_1 T30.vm T39.heap vb44 := or44.elim (fun q => by rw [q]; exact Sf39_vb24) (fun q => Safe.new q)
  have ne_b1_vb44 : b1 ≠ vb44 := or44.elim (fun q => by rw [q]; exact ne_b1_vb24) (fun q => Nat.ne_of_lt (Nat.lt_of_lt_of_le ((((((Bq24.1.ext E27).keep Kq29).ext E30).keep Kq31).keep Kq37).keep Kq39).lt q))
  have ne_d1_vb44 : d1 ≠ vb44 := or44.elim (fun q => by rw [q]; exact ne_d1_vb24) (fun q => Nat.ne_of_lt (Nat.lt_of_lt_of_le (own_arr_keep (own_arr_keep f36 Kq37 (ninS ne_d1_b27 (ninS ne_d1_vb31 nin0))) Kq39 nin0).lt q))
  have ne_oc_vb44 : oc ≠ vb44 := or44.elim (fun q => by rw [q]; exact ne_oc_vb24) (fun q => Nat.ne_of_lt (Nat.lt_of_lt_of_le (((((((f25.keep Kq24).ext E27).keep Kq29).ext E30).keep Kq31).keep Kq37).keep Kq39).lt q))
  have K44 : Keep h0 T44.heap [] := K39.trans Kq44 (allS (Or.inr sz_b1) (allS (Or.inr sz_vb24) all0))
  have Ch44 : CHr Z consts_1 s.vm h0 T30.vm T44.heap := Ch39.trans (CHr.keep Kq44 (sfS Sf39_b1 (sfS Sf39_vb24 sf0)) Ch39.1)
  have Sf44_b1 : Safe Z consts_1 T30.vm T44.heap b1 := Safe.keep Kq44 (sfS Sf39_b1 (sfS Sf39_vb24 sf0)) Ch39.1 Sf39_b1
  have Sf44_vb24 : Safe Z consts_1 T30.vm T44.heap vb24 := Safe.keep Kq44 (sfS Sf39_b1 (sfS Sf39_vb24 sf0)) Ch39.1 Sf39_vb24
  have Sf44_vb44 : Safe Z consts_1 T30.vm T44.heap vb44 := Safe.keep Kq44 (sfS Sf39_b1 (sfS Sf39_vb24 sf0)) Ch39.1 Sn44
  have hkk44 : k30 ≤ T44.heap.size := Nat.le_trans hkk39 Kq44.1
  have N44 := Fr.app N39 N44q
  have f45 := (own_sta_keepN f43 Kq44 (nsS (((((((Bq24.1.ext E27).keep Kq29).ext E30).keep Kq31).keep Kq37).keep Kq39).nostat) (nsS (((f38.keep Kq37 (ninS ne_vb24_b27 (ninS ne_vb24_vb31 nin0))).keep Kq39 nin0).nostat) ns0)))
  obtain ⟨cq46, kq46, q46a, q46b, q46c⟩ := isOf hZ30 rfl Bq44.1
  obtain ⟨_, _, ⟨T46, L46, k46, n46⟩, -, X46, ⟨Lc46, hQ46, l46, y46, z46⟩, st46⟩ := X44.virtualBack hx (y := (⟨"java/lang/StringBuilder", "toString", "()Ljava/lang/String;"⟩ : MethodName)) (z := (⟨"java/lang/StringBuilder", "toString", "()Ljava/lang/String;"⟩ : MethodName)) hown30 (mvT hZ30 (hw _ (M 179))) (mvT hZ30 (hw _ (M 180))) (notFace_of_selects (args := #[]) (mvT hZ30 (hw _ (M 182)))) (mvT hZ30 (hw _ (M 182))) (mvT hZ30 (hw _ (M 181))) (by decide) (backOf (W := 0) ((bToS l Z a0 hw b1 vb44 kb44 (70 : Int32) (35 : Int32) tx_23 zc tx_1 T44.heap n0 (Nat.le_trans Z0 K44.1) ⟨Bq44.1, Bq44.2.1, Bq44.2.2.1, Bq44.2.2.2.1, Bq44.2.2.2.2⟩ f45 hz (by decide) (Nat.le_of_ble_eq_true rfl) (by decide) (Nat.le_of_ble_eq_true rfl) (by rfl) (by decide)) []) hZ30 (hw _ (M 183)) (hw _ (M 60)) (by decide) (by decide)) q46a q46c (g := (mkF m 105 #[.val (.ref oc), .val (.int (1 : Int32))] [(.ref b1)])) rfl (by rw [hml]; rfl) (Steps.refl _) (argsL := []) (rest := []) (lenOf pd_ocLjava_lang_String_ rfl) rfl (by show 2 * 0 + _ ≤ _; exact Nat.le_of_eq rfl) (hb hby d8_105) (fun _ _ => ⟨rfl, rfl, (by decide : 16 + 2 ≤ _), (by decide : 373 + 49 ≤ _)⟩)
  dsimp only [Pt.U, Pt.locs, Pt.cells, Pt.slots] at X46 l46 y46 z46 st46 hQ46
  subst l46 y46 z46
  have f47 := (own_arr_keep (own_arr_keep (own_arr_keep f36 Kq37 (ninS ne_d1_b27 (ninS ne_d1_vb31 nin0))) Kq39 nin0) Kq44 (ninS ne_d1_b1 (ninS ne_d1_vb24 nin0)))
  have f48 := ((((((((f25.keep Kq24).ext E27).keep Kq29).ext E30).keep Kq31).keep Kq37).keep Kq39).keep Kq44)
  obtain ⟨os46, sr46, kS46, rfl, N46q, Kq46, so46q, sr46q, Tq46⟩ := hQ46
  have sz_os46 : h0.size ≤ os46 := Nat.le_trans K44.1 so46q
  have g_os46 : n0 ≤ os46 := Nat.le_trans Z0 sz_os46
  have ne_b1_os46 : b1 ≠ os46 := Nat.ne_of_lt (Nat.lt_of_lt_of_le Bq44.1.lt so46q)
  have ne_d1_os46 : d1 ≠ os46 := Nat.ne_of_lt (Nat.lt_of_lt_of_le f47.lt so46q)
  have ne_oc_os46 : oc ≠ os46 := Nat.ne_of_lt (Nat.lt_of_lt_of_le f48.lt so46q)
  have ne_vb44_os46 : vb44 ≠ os46 := Nat.ne_of_lt (Nat.lt_of_lt_of_le Bq44.2.2.2.2.lt so46q)
  have sz_sr46 : h0.size ≤ sr46 := Nat.le_trans K44.1 sr46q
  have g_sr46 : n0 ≤ sr46 := Nat.le_trans Z0 sz_sr46
  have ne_b1_sr46 : b1 ≠ sr46 := Nat.ne_of_lt (Nat.lt_of_lt_of_le Bq44.1.lt sr46q)
  have ne_d1_sr46 : d1 ≠ sr46 := Nat.ne_of_lt (Nat.lt_of_lt_of_le f47.lt sr46q)
  have ne_oc_sr46 : oc ≠ sr46 := Nat.ne_of_lt (Nat.lt_of_lt_of_le f48.lt sr46q)
  have ne_vb44_sr46 : vb44 ≠ sr46 := Nat.ne_of_lt (Nat.lt_of_lt_of_le Bq44.2.2.2.2.lt sr46q)
  have K46 : Keep h0 T46.heap [] := K44.trans Kq46 all0
  have Ch46 : CHr Z consts_1 s.vm h0 T30.vm T46.heap := Ch44.trans (CHr.keep Kq46 sf0 Ch44.1)
  have Sf46_b1 : Safe Z consts_1 T30.vm T46.heap b1 := Safe.keep Kq46 sf0 Ch44.1 Sf44_b1
  have Sf46_vb44 : Safe Z consts_1 T30.vm T46.heap vb44 := Safe.keep Kq46 sf0 Ch44.1 Sf44_vb44
  have Sf46_os46 : Safe Z consts_1 T30.vm T46.heap os46 := Safe.keep Kq46 sf0 Ch44.1 (Safe.new so46q)
  have Sf46_sr46 : Safe Z consts_1 T30.vm T46.heap sr46 := Safe.keep Kq46 sf0 Ch44.1 (Safe.new sr46q)
  have hkk46 : k30 ≤ T46.heap.size := Nat.le_trans hkk44 Kq46.1
  have N46 := Fr.app N44 N46q
  obtain ⟨fs, hr, hrun, hended, hret, hW, hnew, hsame⟩ := X46.leaveW hS30 hkk46 (v := some (.ref os46)) (fun h => by rw [Bd.returns] at h; cases h)
  refine ⟨_, _, pre0 _ ?_, hrun, hended, _, _, rfl, ?_, ?_, hret, hW, hnew, hsame.mono (by decide) (by decide)⟩
  · show Steps p.tables e below (s₁.setTop (mkF m 0 #[.val (.ref oc), .val (.int (1 : Int32))] [])) _
    refine st1 _ ?_
    show Steps p.tables e below (T1.setTop (mkF m 3 #[.val (.ref oc), .val (.int (1 : Int32))] [(.ref b1)])) _
    refine XS.dup X1.here hx rfl (hb hby d8_3) rfl rfl ?_
    refine st2.trans ?_
    show Steps p.tables e below (T2.setTop (mkF m 7 #[.val (.ref oc), .val (.int (1 : Int32))] [(.ref b1)])) _
    refine st3 _ ?_
    show Steps p.tables e below (T3.setTop (mkF m 9 #[.val (.ref oc), .val (.int (1 : Int32))] [(.ref c3), (.ref b1)])) _
    refine st4.trans ?_
    show Steps p.tables e below (T4.setTop (mkF m 12 #[.val (.ref oc), .val (.int (1 : Int32))] [(.ref b1)])) _
    refine XS.aloadN X4.here hx rfl (hb hby d8_12) rfl rfl ?_
    refine st6 _ ?_
    show Steps p.tables e below (T6.setTop (mkF m 16 #[.val (.ref oc), .val (.int (1 : Int32))] [(.long (0 : Int64)), (.ref b1)])) _
    refine st10.trans ?_
    show Steps p.tables e below (T10.setTop (mkF m 19 #[.val (.ref oc), .val (.int (1 : Int32))] [(.ref b1)])) _
    refine st11 _ ?_
    show Steps p.tables e below (T11.setTop (mkF m 21 #[.val (.ref oc), .val (.int (1 : Int32))] [(.ref c11), (.ref b1)])) _
    refine st12.trans ?_
    show Steps p.tables e below (T12.setTop (mkF m 24 #[.val (.ref oc), .val (.int (1 : Int32))] [(.ref b1)])) _
    refine XS.aloadN X12.here hx rfl (hb hby d8_24) rfl rfl ?_
    refine st14 _ ?_
    show Steps p.tables e below (T14.setTop (mkF m 28 #[.val (.ref oc), .val (.int (1 : Int32))] [(.long (0 : Int64)), (.ref b1)])) _
    refine st18.trans ?_
    show Steps p.tables e below (T18.setTop (mkF m 31 #[.val (.ref oc), .val (.int (1 : Int32))] [(.ref b1)])) _
    refine XS.aloadN X18.here hx rfl (hb hby d8_31) rfl rfl ?_
    refine st20 _ ?_
    show Steps p.tables e below (T20.setTop (mkF m 35 #[.val (.ref oc), .val (.int (1 : Int32))] [(.ref so), (.ref b1)])) _
    refine st22 _ ?_
    show Steps p.tables e below (T22.setTop (mkF m 38 #[.val (.ref oc), .val (.int (1 : Int32))] [(.ref sk), (.ref so), (.ref b1)])) _
    refine Jvm.RoadKit.acmp (g := (mkF m 38 #[.val (.ref oc), .val (.int (1 : Int32))] [(.ref sk), (.ref so), (.ref b1)])) X22 hx rfl rfl rfl (pc0 := 38) (pc' := 66) (same := false) rfl (hb hby d8_38) rfl (decide_eq_false fun q => ha38 (Value.ref.inj q)) (by decide) (by decide) ?_
    show Steps p.tables e below (T22.setTop (mkF m 66 #[.val (.ref oc), .val (.int (1 : Int32))] [(.ref b1)])) _
    refine st23 _ ?_
    show Steps p.tables e below (T23.setTop (mkF m 68 #[.val (.ref oc), .val (.int (1 : Int32))] [(.ref c23), (.ref b1)])) _
    refine st24.trans ?_
    show Steps p.tables e below (T24.setTop (mkF m 71 #[.val (.ref oc), .val (.int (1 : Int32))] [(.ref b1)])) _
    refine XS.iloadN X24.here hx rfl (hb hby d8_71) rfl ?_
    refine XS.ifNo X24.here hx rfl (hb hby d8_72) rfl ((if0 _ _).trans (feq (by decide : ¬ ((1 : Int32) = (0 : Int32)))).1) ?_
    show Steps p.tables e below (T24.setTop (mkF m 75 #[.val (.ref oc), .val (.int (1 : Int32))] [(.ref b1)])) _
    refine st27 _ ?_
    show Steps p.tables e below (T27.setTop (mkF m 78 #[.val (.ref oc), .val (.int (1 : Int32))] [(.ref b27), (.ref b1)])) _
    refine XS.dup X27.here hx rfl (hb hby d8_78) rfl rfl ?_
    refine st29.trans ?_
    show Steps p.tables e below (T29.setTop (mkF m 82 #[.val (.ref oc), .val (.int (1 : Int32))] [(.ref b27), (.ref b1)])) _
    refine st30 _ ?_
    show Steps p.tables e below (T30.setTop (mkF m 84 #[.val (.ref oc), .val (.int (1 : Int32))] [(.ref c30), (.ref b27), (.ref b1)])) _
    refine st31.trans ?_
    show Steps p.tables e below (T31.setTop (mkF m 87 #[.val (.ref oc), .val (.int (1 : Int32))] [(.ref b27), (.ref b1)])) _
    refine XS.aloadN X31.here hx rfl (hb hby d8_87) rfl rfl ?_
    refine st33 _ ?_
    show Steps p.tables e below (T33.setTop (mkF m 91 #[.val (.ref oc), .val (.int (1 : Int32))] [(.long (0 : Int64)), (.ref b27), (.ref b1)])) _
    refine st37.trans ?_
    show Steps p.tables e below (T37.setTop (mkF m 94 #[.val (.ref oc), .val (.int (1 : Int32))] [(.ref b27), (.ref b1)])) _
    refine st39.trans ?_
    show Steps p.tables e below (T39.setTop (mkF m 97 #[.val (.ref oc), .val (.int (1 : Int32))] [(.ref os39), (.ref b1)])) _
    refine XS.goto X39.here hx rfl (pc0 := 97) (pc' := 102) rfl (hb hby d8_97) (by decide) (by decide) ?_
    show Steps p.tables e below (T39.setTop (mkF m 102 #[.val (.ref oc), .val (.int (1 : Int32))] [(.ref os39), (.ref b1)])) _
    refine st44.trans ?_
    show Steps p.tables e below (T44.setTop (mkF m 105 #[.val (.ref oc), .val (.int (1 : Int32))] [(.ref b1)])) _
    refine st46.trans ?_
    show Steps p.tables e below (T46.setTop (mkF m 108 #[.val (.ref oc), .val (.int (1 : Int32))] [(.ref os46)])) _
    jvm_step X46.here [X46.here.top, hx, (hb hby d8_108), X46.method', Bd.returns, Value.isRef, FieldType.isReference]
    first | (intro acts; rw [hr _ acts rfl rfl rfl]) | rw [hr _ _ rfl rfl rfl]
    exact Steps.refl _
  · show (QU Z (35 : Int32) tx_1 h0 n0) _ T46.heap _
    exact ⟨_, _, _, rfl, N46, K46, sz_os46, sz_sr46, ⟨Tq46.1, Tq46.2.1, Tq46.2.2.1, Tq46.2.2.2⟩⟩
  · show CHr Z consts_1 s.vm s.heap T46.vm T46.heap
    rw [hh]
    exact Ch46.trans (CHv.at (s := s) (vm0 := T30.vm) X46 hZ30 (own_EW hw) Ch46.1)
set_option maxRecDepth 65536 in
set_option maxHeartbeats 40000000 in
theorem line_00 (l : Launch) (Z : State) (a0 : Array Value) (hw : ∀ d ∈ tables_1, d.before a0 Z = true) (oc sk so : Addr) (zc : Int32) (d1 : Addr) (cd : Cell) (h0 : Heap) (n0 : Nat) (Z0 : n0 ≤ h0.size) (B0 : LcS Z h0 oc so 0 0 0 0) (S_SKIP : Sta Z h0 "com/example/known_origins/knownorigins/store/IfStored" "SKIP" "Lcom/example/known_origins/knownorigins/store/IfStored;" (.ref sk)) (S_CS : Sta Z h0 "java/lang/String" "COMPACT_STRINGS" "Z" (.int zc)) (hz : ¬ (zc = (0 : Int32))) (S_D1 : Sta Z h0 "java/lang/Integer" "DigitOnes" "[B" (.ref d1)) (Ad : Arr Z h0 d1 cd .byte) (hind : ¬ ((0 : Int32) < 0 ∨ cd.slots.size ≤ (0 : Int32).toNatClampNeg)) (hatd : cd.slots[(0 : Int32).toNatClampNeg]? = some (.int (48 : Int32))) (ha38 : ¬ (so = sk)) :
    MH l Z (⟨"com/example/known_origins/knownorigins/store/LoadCount", "line", "(Z)Ljava/lang/String;"⟩ : MethodName) prog_24_method_8_code 2 (some (.object "java/lang/String")) ({ frames := 6, cells := 13, slots := 247, locals := 91 } : Room) #[(.ref oc), (.int (0 : Int32))] h0 (QU Z (25 : Int32) tx_0 h0 n0) := by
  intro ws
  refine MetFree.of_bodySF (plainFor_of_name pn_8) hisR ?_
  intro p e s m args below meth c s₁ Bd hml0 hP hK
  obtain ⟨rfl, hZ, hh, hCH⟩ := hP
  have hx := Bd.exec
  have hby := Bd.bytes
  have hml : c.maxLocals = 2 := hml0
  have hown : s.vm.findClass "com/example/known_origins/knownorigins/store/LoadCount" = some m.cls := findClass_of_methodNamed Bd.named
  have hnm := (name_of_methodNamed Bd.named Bd.method).1
  have X0 : Stand p l e ({ frames := 6, cells := 13, slots := 247, locals := 91 } : Room) s m #[(.ref oc), (.int (0 : Int32))] below meth c s₁ [] 0 0 := Stand.of_body Bd
  have e0 : s₁.heap = h0 := by rw [← hh, Bd.state]; rfl
  have N0 := Fr.nil n0
  have hSi : s.Since s.vm 0 := (State.WarmedH.refl s).since 0
  have Ch0 : CHr Z consts_1 s.vm h0 s.vm h0 := CHr.refl hCH
  have pre0 : ∀ t_, Steps p.tables e below (s₁.setTop (mkF m 0 #[.val (.ref oc), .val (.int (0 : Int32))] [])) t_ → Steps p.tables e below (s₁.setTop (entryFrame m #[(.ref oc), (.int (0 : Int32))] 2)) t_ := fun t_ k_ => castTop (ef_8 m oc (0 : Int32)) k_
  obtain ⟨T1, h1, X1, e1, E1, A1, D1, -, st1⟩ := newO X0 hx hZ hown (hw _ (M 58)) (hw _ (M 59)) (hw _ (M 60)) e0 (g := (mkF m 0 #[.val (.ref oc), .val (.int (0 : Int32))] [])) rfl (hb hby d8_0) (by decide) (by decide)
  obtain ⟨b1, g1⟩ : ∃ z, z = h0.size := ⟨_, rfl⟩
  rw [← g1] at A1 D1 st1
  have sz_b1 : h0.size ≤ b1 := Nat.le_trans (Keep.refl h0 []).1 (Nat.le_of_eq g1.symm)
  have g_b1 : n0 ≤ b1 := Nat.le_trans Z0 sz_b1
  have ne_d1_b1 : d1 ≠ b1 := Nat.ne_of_lt (Nat.lt_of_lt_of_le Ad.lt (Nat.le_of_eq g1.symm))
  have ne_oc_b1 : oc ≠ b1 := Nat.ne_of_lt (Nat.lt_of_lt_of_le B0.1.lt (Nat.le_of_eq g1.symm))
  have K1 : Keep h0 h1 [] := (Keep.refl h0 []).ext E1
  have F_value_b1 : Fld Z h1 b1 "java/lang/AbstractStringBuilder" "value" "[B" .null := D1 (Or.inl (hw _ (M 73))) (ty := (.array .byte)) (by decide)
  have F_coder_b1 : Fld Z h1 b1 "java/lang/AbstractStringBuilder" "coder" "B" (.int (0 : Int32)) := D1 (Or.inl (hw _ (M 75))) (ty := .byte) (by decide)
  have F_count_b1 : Fld Z h1 b1 "java/lang/AbstractStringBuilder" "count" "I" (.int (0 : Int32)) := D1 (Or.inl (hw _ (M 101))) (ty := .int) (by decide)
  have Ch1 : CHr Z consts_1 s.vm h0 s.vm h1 := Ch0.trans (CHr.ext E1 Ch0.1)
  have Sf1_b1 : Safe Z consts_1 s.vm h1 b1 := Safe.ext E1 Ch0.1 (Safe.new (Nat.le_of_eq g1.symm))
  have hkk1 : 0 ≤ h1.size := Nat.le_trans (Nat.zero_le _) E1.1
  obtain ⟨_, _, ⟨T2, L2, k2, n2⟩, -, X2, ⟨Lc2, hQ2, l2, y2, z2⟩, st2⟩ := X1.specialBack hx (y := (⟨"java/lang/StringBuilder", "<init>", "()V"⟩ : MethodName)) rfl hown (mvT hZ (hw _ (M 61))) (mvT hZ (hw _ (M 62))) (mvT hZ (hw _ (M 63))) (by decide) (backOf (W := 1) ((bInit l Z a0 hw zc b1 h1 n0 (Nat.le_trans Z0 K1.1) (S_CS.ext E1) hz A1 F_value_b1 F_coder_b1 F_count_b1 g_b1) []) hZ (hw _ (M 63)) (hw _ (M 60)) (by decide) (by decide)) (g := (mkF m 4 #[.val (.ref oc), .val (.int (0 : Int32))] [(.ref b1), (.ref b1)])) rfl (by rw [hml]; rfl) (Steps.refl _) (a := b1) (argsL := []) (rest := [(.ref b1)]) (lenOf pd_ocV rfl) rfl (by show 2 * 0 + _ ≤ _; exact Nat.le_of_eq rfl) (hb hby d8_4) (fun _ _ => ⟨rfl, e1, (by decide : 1 + 1 ≤ _), (by decide : 4 + 16 ≤ _)⟩)
  dsimp only [Pt.U, Pt.locs, Pt.cells, Pt.slots] at X2 l2 y2 z2 st2 hQ2
  subst l2 y2 z2
  obtain ⟨va2, kA2, rfl, N2q, Kq2, sz2q, Bq2⟩ := hQ2
  have sz_va2 : h0.size ≤ va2 := Nat.le_trans K1.1 sz2q
  have g_va2 : n0 ≤ va2 := Nat.le_trans Z0 sz_va2
  have ne_b1_va2 : b1 ≠ va2 := Nat.ne_of_lt (Nat.lt_of_lt_of_le A1.lt sz2q)
  have ne_d1_va2 : d1 ≠ va2 := Nat.ne_of_lt (Nat.lt_of_lt_of_le (Ad.ext E1).lt sz2q)
  have ne_oc_va2 : oc ≠ va2 := Nat.ne_of_lt (Nat.lt_of_lt_of_le (B0.1.ext E1).lt sz2q)
  have K2 : Keep h0 T2.heap [] := K1.trans Kq2 (allS (Or.inr sz_b1) all0)
  have Ch2 : CHr Z consts_1 s.vm h0 s.vm T2.heap := Ch1.trans (CHr.keep Kq2 (sfS Sf1_b1 sf0) Ch1.1)
  have Sf2_b1 : Safe Z consts_1 s.vm T2.heap b1 := Safe.keep Kq2 (sfS Sf1_b1 sf0) Ch1.1 Sf1_b1
  have Sf2_va2 : Safe Z consts_1 s.vm T2.heap va2 := Safe.keep Kq2 (sfS Sf1_b1 sf0) Ch1.1 (Safe.new sz2q)
  have hkk2 : 0 ≤ T2.heap.size := Nat.le_trans hkk1 Kq2.1
  have N2 := Fr.app N0 N2q
  obtain ⟨c3, T3, h3, k3, sb3, kS3, X3, e3, E3, hS3, hk3, hZ3, hown3, Es3, Fc3, Fv3, Va3, -, -, CR3, -, hn3, st3⟩ := ldcCH (s := s) (vm0 := s.vm) X2 hx hZ hown (hw _ (M 76)) (own_strA hw) rfl hSi hkk2 (own_EW hw) (List.mem_of_getElem? (i := 0) rfl) Ch2.1 lit_8 (z := (14 : Int32)) (by decide) (by rfl) (g := (mkF m 7 #[.val (.ref oc), .val (.int (0 : Int32))] [(.ref b1)])) rfl (hb hby d8_7) (n := 56) (by decide) (by decide) (by decide) (by decide)
  have K3 : Keep h0 h3 [] := K2.ext E3
  have Ch3 : CHr Z consts_1 s.vm h0 T3.vm h3 := Ch2.trans CR3
  have Sf3_b1 : Safe Z consts_1 T3.vm h3 b1 := CHr.safe CR3 Bq2.1.lt Sf2_b1
  have Sf3_va2 : Safe Z consts_1 T3.vm h3 va2 := CHr.safe CR3 Bq2.2.2.2.2.lt Sf2_va2
  obtain ⟨cq4, kq4, q4a, q4b, q4c⟩ := isOf hZ3 e3 (Bq2.1.ext E3)
  obtain ⟨_, _, ⟨T4, L4, k4, n4⟩, -, X4, ⟨Lc4, hQ4, l4, y4, z4⟩, st4⟩ := X3.virtualBack hx (y := (⟨"java/lang/StringBuilder", "append", "(Ljava/lang/String;)Ljava/lang/StringBuilder;"⟩ : MethodName)) (z := (⟨"java/lang/StringBuilder", "append", "(Ljava/lang/String;)Ljava/lang/StringBuilder;"⟩ : MethodName)) hown3 (mvT hZ3 (hw _ (M 77))) (mvT hZ3 (hw _ (M 78))) (notFace_of_selects (args := #[]) (mvT hZ3 (hw _ (M 80)))) (mvT hZ3 (hw _ (M 80))) (mvT hZ3 (hw _ (M 79))) (by decide) (backOf (W := 0) ((bAppN l Z a0 hw b1 va2 kA2 (16 : Int32) (0 : Int32) (List.replicate (16 : Int32).toNatClampNeg (.int (0 : Int32))) c3 sb3 kS3 (14 : Int32) tx_8 zc (14 : Int32) (-2 : Int32) tx_9 h3 n0 (Nat.le_trans Z0 K3.1) ⟨(Bq2.1.ext E3), (Bq2.2.1.ext E3), (Bq2.2.2.1.ext E3), (Bq2.2.2.2.1.ext E3), (Bq2.2.2.2.2.ext E3)⟩ ⟨Es3, Fc3, Fv3, Va3⟩ ((own_sta_keepN (S_CS.ext E1) Kq2 (nsS (A1.nostat) ns0)).ext E3) hz g_b1 g_va2 (Ne.symm (hn3 va2 Sf3_va2).2) (by decide) (by decide) (by decide) (by decide) (by decide) (Nat.le_of_ble_eq_true rfl) (Nat.le_of_ble_eq_true rfl) (by rfl)) []) hZ3 (hw _ (M 81)) (hw _ (M 60)) (by decide) (by decide)) q4a q4c (g := (mkF m 9 #[.val (.ref oc), .val (.int (0 : Int32))] [(.ref c3), (.ref b1)])) rfl (by rw [hml]; rfl) (Steps.refl _) (argsL := [(.ref c3)]) (rest := []) (lenOf pd_oLjava_lang_String_cLjava_lang_StringBuilder_ rfl) rfl (by show 2 * 0 + _ ≤ _; exact Nat.le_of_eq rfl) (hb hby d8_9) (fun _ _ => ⟨rfl, e3, (by decide : 4 + 0 ≤ _), (by decide : 80 + 0 ≤ _)⟩)
  dsimp only [Pt.U, Pt.locs, Pt.cells, Pt.slots] at X4 l4 y4 z4 st4 hQ4
  subst l4 y4 z4
  obtain ⟨vb4, kb4, rfl, N4q, Kq4, or4, gg4, Bq4⟩ := hQ4
  have sz_vb4 : h0.size ≤ vb4 := or4.elim (fun q => by rw [q]; exact sz_va2) (fun q => Nat.le_trans K3.1 q)
  have g_vb4 : n0 ≤ vb4 := gg4
  have Sn4 : Safe Z consts_1 T3.vm h3 vb4 := or4.elim (fun q => by rw [q]; exact Sf3_va2) (fun q => Safe.new q)
  have ne_b1_vb4 : b1 ≠ vb4 := or4.elim (fun q => by rw [q]; exact ne_b1_va2) (fun q => Nat.ne_of_lt (Nat.lt_of_lt_of_le (Bq2.1.ext E3).lt q))
  have ne_d1_vb4 : d1 ≠ vb4 := or4.elim (fun q => by rw [q]; exact ne_d1_va2) (fun q => Nat.ne_of_lt (Nat.lt_of_lt_of_le ((own_arr_keep (Ad.ext E1) Kq2 (ninS ne_d1_b1 nin0)).ext E3).lt q))
  have ne_oc_vb4 : oc ≠ vb4 := or4.elim (fun q => by rw [q]; exact ne_oc_va2) (fun q => Nat.ne_of_lt (Nat.lt_of_lt_of_le (((B0.1.ext E1).keep Kq2).ext E3).lt q))
  have K4 : Keep h0 T4.heap [] := K3.trans Kq4 (allS (Or.inr sz_b1) (allS (Or.inr sz_va2) all0))
  have Ch4 : CHr Z consts_1 s.vm h0 T3.vm T4.heap := Ch3.trans (CHr.keep Kq4 (sfS Sf3_b1 (sfS Sf3_va2 sf0)) Ch3.1)
  have Sf4_b1 : Safe Z consts_1 T3.vm T4.heap b1 := Safe.keep Kq4 (sfS Sf3_b1 (sfS Sf3_va2 sf0)) Ch3.1 Sf3_b1
  have Sf4_va2 : Safe Z consts_1 T3.vm T4.heap va2 := Safe.keep Kq4 (sfS Sf3_b1 (sfS Sf3_va2 sf0)) Ch3.1 Sf3_va2
  have Sf4_vb4 : Safe Z consts_1 T3.vm T4.heap vb4 := Safe.keep Kq4 (sfS Sf3_b1 (sfS Sf3_va2 sf0)) Ch3.1 Sn4
  have hkk4 : k3 ≤ T4.heap.size := Nat.le_trans hk3 Kq4.1
  have N4 := Fr.app N2 N4q
  have f5 := ((((B0.2.2.1.ext E1).keep Kq2 (ninS ne_oc_b1 nin0)).ext E3).keep Kq4 (ninS ne_oc_b1 (ninS ne_oc_va2 nin0)))
  obtain ⟨T6, X6, e6, st6⟩ := getF X4 hx hZ3 hown3 (host := "") (Or.inl (hw _ (M 17))) Via.refl rfl f5 (g := (mkF m 13 #[.val (.ref oc), .val (.int (0 : Int32))] [(.ref oc), (.ref b1)])) rfl rfl (hb hby d8_13)
  have f7 := (own_sta_keepN ((own_sta_keepN (S_CS.ext E1) Kq2 (nsS (A1.nostat) ns0)).ext E3) Kq4 (nsS ((Bq2.1.ext E3).nostat) (nsS ((Bq2.2.2.2.2.ext E3).nostat) ns0)))
  have f8 := (own_sta_keepN ((own_sta_keepN (S_D1.ext E1) Kq2 (nsS (A1.nostat) ns0)).ext E3) Kq4 (nsS ((Bq2.1.ext E3).nostat) (nsS ((Bq2.2.2.2.2.ext E3).nostat) ns0)))
  have f9 := (own_arr_keep ((own_arr_keep (Ad.ext E1) Kq2 (ninS ne_d1_b1 nin0)).ext E3) Kq4 (ninS ne_d1_b1 (ninS ne_d1_va2 nin0)))
  obtain ⟨cq10, kq10, q10a, q10b, q10c⟩ := isOf hZ3 e6 Bq4.1
  obtain ⟨_, _, ⟨T10, L10, k10, n10⟩, -, X10, ⟨Lc10, hQ10, l10, y10, z10⟩, st10⟩ := X6.virtualBack hx (y := (⟨"java/lang/StringBuilder", "append", "(J)Ljava/lang/StringBuilder;"⟩ : MethodName)) (z := (⟨"java/lang/StringBuilder", "append", "(J)Ljava/lang/StringBuilder;"⟩ : MethodName)) hown3 (mvT hZ3 (hw _ (M 127))) (mvT hZ3 (hw _ (M 128))) (notFace_of_selects (args := #[]) (mvT hZ3 (hw _ (M 130)))) (mvT hZ3 (hw _ (M 130))) (mvT hZ3 (hw _ (M 129))) (by decide) (backOf (W := 0) ((bAppJ l Z a0 hw b1 vb4 kb4 (16 : Int32) (14 : Int32) tx_9 zc (15 : Int32) (-1 : Int32) tx_10 d1 cd T4.heap n0 (Nat.le_trans Z0 K4.1) ⟨Bq4.1, Bq4.2.1, Bq4.2.2.1, Bq4.2.2.2.1, Bq4.2.2.2.2⟩ f7 hz g_b1 g_vb4 (by decide) (by decide) (by decide) f8 f9 hind hatd (by decide) (by decide) (Nat.le_of_ble_eq_true rfl) (by rfl)) []) hZ3 (hw _ (M 131)) (hw _ (M 60)) (by decide) (by decide)) q10a q10c (g := (mkF m 16 #[.val (.ref oc), .val (.int (0 : Int32))] [(.long (0 : Int64)), (.ref b1)])) rfl (by rw [hml]; rfl) (Steps.refl _) (argsL := [(.long (0 : Int64))]) (rest := []) (lenOf pd_oJcLjava_lang_StringBuilder_ rfl) rfl (by show 2 * 0 + _ ≤ _; exact Nat.le_of_eq rfl) (hb hby d8_16) (fun _ _ => ⟨rfl, e6, (by decide : 4 + 0 ≤ _), (by decide : 80 + 0 ≤ _)⟩)
  dsimp only [Pt.U, Pt.locs, Pt.cells, Pt.slots] at X10 l10 y10 z10 st10 hQ10
  subst l10 y10 z10
  obtain ⟨vb10, kb10, rfl, N10q, Kq10, or10, gg10, Bq10⟩ := hQ10
  have sz_vb10 : h0.size ≤ vb10 := or10.elim (fun q => by rw [q]; exact sz_vb4) (fun q => Nat.le_trans K4.1 q)
  have g_vb10 : n0 ≤ vb10 := gg10
  have Sn10 : Safe Z consts_1 T3.vm T4.heap vb10 := or10.elim (fun q => by rw [q]; exact Sf4_vb4) (fun q => Safe.new q)
  have ne_b1_vb10 : b1 ≠ vb10 := or10.elim (fun q => by rw [q]; exact ne_b1_vb4) (fun q => Nat.ne_of_lt (Nat.lt_of_lt_of_le Bq4.1.lt q))
  have ne_d1_vb10 : d1 ≠ vb10 := or10.elim (fun q => by rw [q]; exact ne_d1_vb4) (fun q => Nat.ne_of_lt (Nat.lt_of_lt_of_le f9.lt q))
  have ne_oc_vb10 : oc ≠ vb10 := or10.elim (fun q => by rw [q]; exact ne_oc_vb4) (fun q => Nat.ne_of_lt (Nat.lt_of_lt_of_le ((((B0.1.ext E1).keep Kq2).ext E3).keep Kq4).lt q))
  have K10 : Keep h0 T10.heap [] := K4.trans Kq10 (allS (Or.inr sz_b1) (allS (Or.inr sz_vb4) all0))
  have Ch10 : CHr Z consts_1 s.vm h0 T3.vm T10.heap := Ch4.trans (CHr.keep Kq10 (sfS Sf4_b1 (sfS Sf4_vb4 sf0)) Ch4.1)
  have Sf10_b1 : Safe Z consts_1 T3.vm T10.heap b1 := Safe.keep Kq10 (sfS Sf4_b1 (sfS Sf4_vb4 sf0)) Ch4.1 Sf4_b1
  have Sf10_vb4 : Safe Z consts_1 T3.vm T10.heap vb4 := Safe.keep Kq10 (sfS Sf4_b1 (sfS Sf4_vb4 sf0)) Ch4.1 Sf4_vb4
  have Sf10_vb10 : Safe Z consts_1 T3.vm T10.heap vb10 := Safe.keep Kq10 (sfS Sf4_b1 (sfS Sf4_vb4 sf0)) Ch4.1 Sn10
  have hkk10 : k3 ≤ T10.heap.size := Nat.le_trans hkk4 Kq10.1
  have N10 := Fr.app N4 N10q
  obtain ⟨c11, T11, h11, k11, sb11, kS11, X11, e11, E11, hS11, hk11, hZ11, hown11, Es11, Fc11, Fv11, Va11, -, -, CR11, -, hn11, st11⟩ := ldcCH (s := s) (vm0 := T3.vm) X10 hx hZ3 hown3 (hw _ (M 152)) (own_strA hw) rfl hS3 hkk10 (own_EW hw) (List.mem_of_getElem? (i := 1) rfl) Ch10.1 lit_7 (z := (9 : Int32)) (by decide) (by rfl) (g := (mkF m 19 #[.val (.ref oc), .val (.int (0 : Int32))] [(.ref b1)])) rfl (hb hby d8_19) (n := 36) (by decide) (by decide) (by decide) (by decide)
  have K11 : Keep h0 h11 [] := K10.ext E11
  have Ch11 : CHr Z consts_1 s.vm h0 T11.vm h11 := Ch10.trans CR11
  have Sf11_b1 : Safe Z consts_1 T11.vm h11 b1 := CHr.safe CR11 Bq10.1.lt Sf10_b1
  have Sf11_vb10 : Safe Z consts_1 T11.vm h11 vb10 := CHr.safe CR11 Bq10.2.2.2.2.lt Sf10_vb10
  obtain ⟨cq12, kq12, q12a, q12b, q12c⟩ := isOf hZ11 e11 (Bq10.1.ext E11)
  obtain ⟨_, _, ⟨T12, L12, k12, n12⟩, -, X12, ⟨Lc12, hQ12, l12, y12, z12⟩, st12⟩ := X11.virtualBack hx (y := (⟨"java/lang/StringBuilder", "append", "(Ljava/lang/String;)Ljava/lang/StringBuilder;"⟩ : MethodName)) (z := (⟨"java/lang/StringBuilder", "append", "(Ljava/lang/String;)Ljava/lang/StringBuilder;"⟩ : MethodName)) hown11 (mvT hZ11 (hw _ (M 77))) (mvT hZ11 (hw _ (M 78))) (notFace_of_selects (args := #[]) (mvT hZ11 (hw _ (M 80)))) (mvT hZ11 (hw _ (M 80))) (mvT hZ11 (hw _ (M 79))) (by decide) (backOf (W := 0) ((bAppG l Z a0 hw b1 vb10 kb10 (16 : Int32) (15 : Int32) tx_10 c11 sb11 kS11 (9 : Int32) tx_7 zc (24 : Int32) (8 : Int32) (18 : Int32) (34 : Int32) tx_11 tx_12 h11 n0 (Nat.le_trans Z0 K11.1) ⟨(Bq10.1.ext E11), (Bq10.2.1.ext E11), (Bq10.2.2.1.ext E11), (Bq10.2.2.2.1.ext E11), (Bq10.2.2.2.2.ext E11)⟩ ⟨Es11, Fc11, Fv11, Va11⟩ ((own_sta_keepN f7 Kq10 (nsS (Bq4.1.nostat) (nsS (Bq4.2.2.2.2.nostat) ns0))).ext E11) hz g_b1 g_vb10 (Ne.symm (hn11 vb10 Sf11_vb10).2) (by decide) (by decide) (by decide) (by decide) (by decide) (by decide) (by decide) (by decide) (by decide) (by decide) (by decide) (by decide) (Nat.le_of_ble_eq_true rfl) (by decide) (Nat.le_of_ble_eq_true rfl) (by decide) (by decide) (by rfl) (Nat.le_of_ble_eq_true rfl) (Nat.le_of_ble_eq_true rfl) (by rfl)) []) hZ11 (hw _ (M 81)) (hw _ (M 60)) (by decide) (by decide)) q12a q12c (g := (mkF m 21 #[.val (.ref oc), .val (.int (0 : Int32))] [(.ref c11), (.ref b1)])) rfl (by rw [hml]; rfl) (Steps.refl _) (argsL := [(.ref c11)]) (rest := []) (lenOf pd_oLjava_lang_String_cLjava_lang_StringBuilder_ rfl) rfl (by show 2 * 0 + _ ≤ _; exact Nat.le_of_eq rfl) (hb hby d8_21) (fun _ _ => ⟨rfl, e11, (by decide : 6 + 1 ≤ _), (by decide : 120 + 70 ≤ _)⟩)
  dsimp only [Pt.U, Pt.locs, Pt.cells, Pt.slots] at X12 l12 y12 z12 st12 hQ12
  subst l12 y12 z12
  obtain ⟨vb12, kb12, rfl, N12q, Kq12, or12, gg12, Bq12⟩ := hQ12
  have sz_vb12 : h0.size ≤ vb12 := or12.elim (fun q => by rw [q]; exact sz_vb10) (fun q => Nat.le_trans K11.1 q)
  have g_vb12 : n0 ≤ vb12 := gg12
  have Sn12 : Safe Z consts_1 T11.vm h11 vb12 := or12.elim (fun q => by rw [q]; exact Sf11_vb10) (fun q => Safe.new q)
  have ne_b1_vb12 : b1 ≠ vb12 := or12.elim (fun q => by rw [q]; exact ne_b1_vb10) (fun q => Nat.ne_of_lt (Nat.lt_of_lt_of_le (Bq10.1.ext E11).lt q))
  have ne_d1_vb12 : d1 ≠ vb12 := or12.elim (fun q => by rw [q]; exact ne_d1_vb10) (fun q => Nat.ne_of_lt (Nat.lt_of_lt_of_le ((own_arr_keep f9 Kq10 (ninS ne_d1_b1 (ninS ne_d1_vb4 nin0))).ext E11).lt q))
  have ne_oc_vb12 : oc ≠ vb12 := or12.elim (fun q => by rw [q]; exact ne_oc_vb10) (fun q => Nat.ne_of_lt (Nat.lt_of_lt_of_le ((((((B0.1.ext E1).keep Kq2).ext E3).keep Kq4).keep Kq10).ext E11).lt q))
  have K12 : Keep h0 T12.heap [] := K11.trans Kq12 (allS (Or.inr sz_b1) (allS (Or.inr sz_vb10) all0))
  have Ch12 : CHr Z consts_1 s.vm h0 T11.vm T12.heap := Ch11.trans (CHr.keep Kq12 (sfS Sf11_b1 (sfS Sf11_vb10 sf0)) Ch11.1)
  have Sf12_b1 : Safe Z consts_1 T11.vm T12.heap b1 := Safe.keep Kq12 (sfS Sf11_b1 (sfS Sf11_vb10 sf0)) Ch11.1 Sf11_b1
  have Sf12_vb10 : Safe Z consts_1 T11.vm T12.heap vb10 := Safe.keep Kq12 (sfS Sf11_b1 (sfS Sf11_vb10 sf0)) Ch11.1 Sf11_vb10
  have Sf12_vb12 : Safe Z consts_1 T11.vm T12.heap vb12 := Safe.keep Kq12 (sfS Sf11_b1 (sfS Sf11_vb10 sf0)) Ch11.1 Sn12
  have hkk12 : k11 ≤ T12.heap.size := Nat.le_trans hk11 Kq12.1
  have N12 := Fr.app N10 N12q
  have f13 := (((((((B0.2.2.2.1.ext E1).keep Kq2 (ninS ne_oc_b1 nin0)).ext E3).keep Kq4 (ninS ne_oc_b1 (ninS ne_oc_va2 nin0))).keep Kq10 (ninS ne_oc_b1 (ninS ne_oc_vb4 nin0))).ext E11).keep Kq12 (ninS ne_oc_b1 (ninS ne_oc_vb10 nin0)))
  obtain ⟨T14, X14, e14, st14⟩ := getF X12 hx hZ11 hown11 (host := "") (Or.inl (hw _ (M 19))) Via.refl rfl f13 (g := (mkF m 25 #[.val (.ref oc), .val (.int (0 : Int32))] [(.ref oc), (.ref b1)])) rfl rfl (hb hby d8_25)
  have f15 := (own_sta_keepN ((own_sta_keepN f7 Kq10 (nsS (Bq4.1.nostat) (nsS (Bq4.2.2.2.2.nostat) ns0))).ext E11) Kq12 (nsS ((Bq10.1.ext E11).nostat) (nsS ((Bq10.2.2.2.2.ext E11).nostat) ns0)))
  have f16 := (own_sta_keepN ((own_sta_keepN f8 Kq10 (nsS (Bq4.1.nostat) (nsS (Bq4.2.2.2.2.nostat) ns0))).ext E11) Kq12 (nsS ((Bq10.1.ext E11).nostat) (nsS ((Bq10.2.2.2.2.ext E11).nostat) ns0)))
  have f17 := (own_arr_keep ((own_arr_keep f9 Kq10 (ninS ne_d1_b1 (ninS ne_d1_vb4 nin0))).ext E11) Kq12 (ninS ne_d1_b1 (ninS ne_d1_vb10 nin0)))
  obtain ⟨cq18, kq18, q18a, q18b, q18c⟩ := isOf hZ11 e14 Bq12.1
  obtain ⟨_, _, ⟨T18, L18, k18, n18⟩, -, X18, ⟨Lc18, hQ18, l18, y18, z18⟩, st18⟩ := X14.virtualBack hx (y := (⟨"java/lang/StringBuilder", "append", "(J)Ljava/lang/StringBuilder;"⟩ : MethodName)) (z := (⟨"java/lang/StringBuilder", "append", "(J)Ljava/lang/StringBuilder;"⟩ : MethodName)) hown11 (mvT hZ11 (hw _ (M 127))) (mvT hZ11 (hw _ (M 128))) (notFace_of_selects (args := #[]) (mvT hZ11 (hw _ (M 130)))) (mvT hZ11 (hw _ (M 130))) (mvT hZ11 (hw _ (M 129))) (by decide) (backOf (W := 0) ((bAppJ l Z a0 hw b1 vb12 kb12 (34 : Int32) (24 : Int32) tx_12 zc (25 : Int32) (-9 : Int32) tx_13 d1 cd T12.heap n0 (Nat.le_trans Z0 K12.1) ⟨Bq12.1, Bq12.2.1, Bq12.2.2.1, Bq12.2.2.2.1, Bq12.2.2.2.2⟩ f15 hz g_b1 g_vb12 (by decide) (by decide) (by decide) f16 f17 hind hatd (by decide) (by decide) (Nat.le_of_ble_eq_true rfl) (by rfl)) []) hZ11 (hw _ (M 131)) (hw _ (M 60)) (by decide) (by decide)) q18a q18c (g := (mkF m 28 #[.val (.ref oc), .val (.int (0 : Int32))] [(.long (0 : Int64)), (.ref b1)])) rfl (by rw [hml]; rfl) (Steps.refl _) (argsL := [(.long (0 : Int64))]) (rest := []) (lenOf pd_oJcLjava_lang_StringBuilder_ rfl) rfl (by show 2 * 0 + _ ≤ _; exact Nat.le_of_eq rfl) (hb hby d8_28) (fun _ _ => ⟨rfl, e14, (by decide : 7 + 0 ≤ _), (by decide : 190 + 0 ≤ _)⟩)
  dsimp only [Pt.U, Pt.locs, Pt.cells, Pt.slots] at X18 l18 y18 z18 st18 hQ18
  subst l18 y18 z18
  obtain ⟨vb18, kb18, rfl, N18q, Kq18, or18, gg18, Bq18⟩ := hQ18
  have sz_vb18 : h0.size ≤ vb18 := or18.elim (fun q => by rw [q]; exact sz_vb12) (fun q => Nat.le_trans K12.1 q)
  have g_vb18 : n0 ≤ vb18 := gg18
  have Sn18 : Safe Z consts_1 T11.vm T12.heap vb18 := or18.elim (fun q => by rw [q]; exact Sf12_vb12) (fun q => Safe.new q)
  have ne_b1_vb18 : b1 ≠ vb18 := or18.elim (fun q => by rw [q]; exact ne_b1_vb12) (fun q => Nat.ne_of_lt (Nat.lt_of_lt_of_le Bq12.1.lt q))
  have ne_d1_vb18 : d1 ≠ vb18 := or18.elim (fun q => by rw [q]; exact ne_d1_vb12) (fun q => Nat.ne_of_lt (Nat.lt_of_lt_of_le f17.lt q))
  have ne_oc_vb18 : oc ≠ vb18 := or18.elim (fun q => by rw [q]; exact ne_oc_vb12) (fun q => Nat.ne_of_lt (Nat.lt_of_lt_of_le (((((((B0.1.ext E1).keep Kq2).ext E3).keep Kq4).keep Kq10).ext E11).keep Kq12).lt q))
  have K18 : Keep h0 T18.heap [] := K12.trans Kq18 (allS (Or.inr sz_b1) (allS (Or.inr sz_vb12) all0))
  have Ch18 : CHr Z consts_1 s.vm h0 T11.vm T18.heap := Ch12.trans (CHr.keep Kq18 (sfS Sf12_b1 (sfS Sf12_vb12 sf0)) Ch12.1)
  have Sf18_b1 : Safe Z consts_1 T11.vm T18.heap b1 := Safe.keep Kq18 (sfS Sf12_b1 (sfS Sf12_vb12 sf0)) Ch12.1 Sf12_b1
  have Sf18_vb12 : Safe Z consts_1 T11.vm T18.heap vb12 := Safe.keep Kq18 (sfS Sf12_b1 (sfS Sf12_vb12 sf0)) Ch12.1 Sf12_vb12
  have Sf18_vb18 : Safe Z consts_1 T11.vm T18.heap vb18 := Safe.keep Kq18 (sfS Sf12_b1 (sfS Sf12_vb12 sf0)) Ch12.1 Sn18
  have hkk18 : k11 ≤ T18.heap.size := Nat.le_trans hkk12 Kq18.1
  have N18 := Fr.app N12 N18q
  have f19 := ((((((((B0.2.1.ext E1).keep Kq2 (ninS ne_oc_b1 nin0)).ext E3).keep Kq4 (ninS ne_oc_b1 (ninS ne_oc_va2 nin0))).keep Kq10 (ninS ne_oc_b1 (ninS ne_oc_vb4 nin0))).ext E11).keep Kq12 (ninS ne_oc_b1 (ninS ne_oc_vb10 nin0))).keep Kq18 (ninS ne_oc_b1 (ninS ne_oc_vb12 nin0)))
  obtain ⟨T20, X20, e20, st20⟩ := getF X18 hx hZ11 hown11 (host := "") (Or.inl (hw _ (M 15))) Via.refl rfl f19 (g := (mkF m 32 #[.val (.ref oc), .val (.int (0 : Int32))] [(.ref oc), (.ref b1)])) rfl rfl (hb hby d8_32)
  have f21 := (own_sta_keepN (own_sta_keepN ((own_sta_keepN (own_sta_keepN ((own_sta_keepN (S_SKIP.ext E1) Kq2 (nsS (A1.nostat) ns0)).ext E3) Kq4 (nsS ((Bq2.1.ext E3).nostat) (nsS ((Bq2.2.2.2.2.ext E3).nostat) ns0))) Kq10 (nsS (Bq4.1.nostat) (nsS (Bq4.2.2.2.2.nostat) ns0))).ext E11) Kq12 (nsS ((Bq10.1.ext E11).nostat) (nsS ((Bq10.2.2.2.2.ext E11).nostat) ns0))) Kq18 (nsS (Bq12.1.nostat) (nsS (Bq12.2.2.2.2.nostat) ns0)))
  obtain ⟨T22, X22, e22, st22⟩ := getS2 X20 hx hZ11 hown11 (host := "") (Or.inl (hw _ (M 176))) Via.refl e20 f21 (g := (mkF m 35 #[.val (.ref oc), .val (.int (0 : Int32))] [(.ref so), (.ref b1)])) rfl (hb hby d8_35)
  obtain ⟨c23, T23, h23, k23, sb23, kS23, X23, e23, E23, hS23, hk23, hZ23, hown23, Es23, Fc23, Fv23, Va23, -, -, CR23, -, hn23, st23⟩ := ldcCH (s := s) (vm0 := T11.vm) X22 hx hZ11 hown11 (hw _ (M 178)) (own_strA hw) e22 hS11 hkk18 (own_EW hw) (List.mem_of_getElem? (i := 3) rfl) Ch18.1 lit_5 (z := (0 : Int32)) (by decide) (by rfl) (g := (mkF m 66 #[.val (.ref oc), .val (.int (0 : Int32))] [(.ref b1)])) rfl (hb hby d8_66) (n := 0) (by decide) (by decide) (by decide) (by decide)
  have K23 : Keep h0 h23 [] := K18.ext E23
  have Ch23 : CHr Z consts_1 s.vm h0 T23.vm h23 := Ch18.trans CR23
  have Sf23_b1 : Safe Z consts_1 T23.vm h23 b1 := CHr.safe CR23 Bq18.1.lt Sf18_b1
  have Sf23_vb18 : Safe Z consts_1 T23.vm h23 vb18 := CHr.safe CR23 Bq18.2.2.2.2.lt Sf18_vb18
  obtain ⟨cq24, kq24, q24a, q24b, q24c⟩ := isOf hZ23 e23 (Bq18.1.ext E23)
  obtain ⟨_, _, ⟨T24, L24, k24, n24⟩, -, X24, ⟨Lc24, hQ24, l24, y24, z24⟩, st24⟩ := X23.virtualBack hx (y := (⟨"java/lang/StringBuilder", "append", "(Ljava/lang/String;)Ljava/lang/StringBuilder;"⟩ : MethodName)) (z := (⟨"java/lang/StringBuilder", "append", "(Ljava/lang/String;)Ljava/lang/StringBuilder;"⟩ : MethodName)) hown23 (mvT hZ23 (hw _ (M 77))) (mvT hZ23 (hw _ (M 78))) (notFace_of_selects (args := #[]) (mvT hZ23 (hw _ (M 80)))) (mvT hZ23 (hw _ (M 80))) (mvT hZ23 (hw _ (M 79))) (by decide) (backOf (W := 0) ((bAppN l Z a0 hw b1 vb18 kb18 (34 : Int32) (25 : Int32) tx_13 c23 sb23 kS23 (0 : Int32) tx_5 zc (25 : Int32) (-9 : Int32) tx_13 h23 n0 (Nat.le_trans Z0 K23.1) ⟨(Bq18.1.ext E23), (Bq18.2.1.ext E23), (Bq18.2.2.1.ext E23), (Bq18.2.2.2.1.ext E23), (Bq18.2.2.2.2.ext E23)⟩ ⟨Es23, Fc23, Fv23, Va23⟩ ((own_sta_keepN f15 Kq18 (nsS (Bq12.1.nostat) (nsS (Bq12.2.2.2.2.nostat) ns0))).ext E23) hz g_b1 g_vb18 (Ne.symm (hn23 vb18 Sf23_vb18).2) (by decide) (by decide) (by decide) (by decide) (by decide) (Nat.le_of_ble_eq_true rfl) (Nat.le_of_ble_eq_true rfl) (by rfl)) []) hZ23 (hw _ (M 81)) (hw _ (M 60)) (by decide) (by decide)) q24a q24c (g := (mkF m 68 #[.val (.ref oc), .val (.int (0 : Int32))] [(.ref c23), (.ref b1)])) rfl (by rw [hml]; rfl) (Steps.refl _) (argsL := [(.ref c23)]) (rest := []) (lenOf pd_oLjava_lang_String_cLjava_lang_StringBuilder_ rfl) rfl (by show 2 * 0 + _ ≤ _; exact Nat.le_of_eq rfl) (hb hby d8_68) (fun _ _ => ⟨rfl, e23, (by decide : 9 + 0 ≤ _), (by decide : 194 + 0 ≤ _)⟩)
  dsimp only [Pt.U, Pt.locs, Pt.cells, Pt.slots] at X24 l24 y24 z24 st24 hQ24
  subst l24 y24 z24
  have f25 := (((((((((B0.1.ext E1).keep Kq2).ext E3).keep Kq4).keep Kq10).ext E11).keep Kq12).keep Kq18).ext E23)
  obtain ⟨vb24, kb24, rfl, N24q, Kq24, or24, gg24, Bq24⟩ := hQ24
  have sz_vb24 : h0.size ≤ vb24 := or24.elim (fun q => by rw [q]; exact sz_vb18) (fun q => Nat.le_trans K23.1 q)
  have g_vb24 : n0 ≤ vb24 := gg24
  have Sn24 : Safe Z consts_1 T23.vm h23 vb24 := or24.elim (fun q => by rw [q]; exact Sf23_vb18) (fun q => Safe.new q)
  have ne_b1_vb24 : b1 ≠ vb24 := or24.elim (fun q => by rw [q]; exact ne_b1_vb18) (fun q => Nat.ne_of_lt (Nat.lt_of_lt_of_le (Bq18.1.ext E23).lt q))
  have ne_d1_vb24 : d1 ≠ vb24 := or24.elim (fun q => by rw [q]; exact ne_d1_vb18) (fun q => Nat.ne_of_lt (Nat.lt_of_lt_of_le ((own_arr_keep f17 Kq18 (ninS ne_d1_b1 (ninS ne_d1_vb12 nin0))).ext E23).lt q))
  have ne_oc_vb24 : oc ≠ vb24 := or24.elim (fun q => by rw [q]; exact ne_oc_vb18) (fun q => Nat.ne_of_lt (Nat.lt_of_lt_of_le f25.lt q))
  have K24 : Keep h0 T24.heap [] := K23.trans Kq24 (allS (Or.inr sz_b1) (allS (Or.inr sz_vb18) all0))
  have Ch24 : CHr Z consts_1 s.vm h0 T23.vm T24.heap := Ch23.trans (CHr.keep Kq24 (sfS Sf23_b1 (sfS Sf23_vb18 sf0)) Ch23.1)
  have Sf24_b1 : Safe Z consts_1 T23.vm T24.heap b1 := Safe.keep Kq24 (sfS Sf23_b1 (sfS Sf23_vb18 sf0)) Ch23.1 Sf23_b1
  have Sf24_vb18 : Safe Z consts_1 T23.vm T24.heap vb18 := Safe.keep Kq24 (sfS Sf23_b1 (sfS Sf23_vb18 sf0)) Ch23.1 Sf23_vb18
  have Sf24_vb24 : Safe Z consts_1 T23.vm T24.heap vb24 := Safe.keep Kq24 (sfS Sf23_b1 (sfS Sf23_vb18 sf0)) Ch23.1 Sn24
  have hkk24 : k23 ≤ T24.heap.size := Nat.le_trans hk23 Kq24.1
  have N24 := Fr.app N18 N24q
  have f27 := (own_arr_keep ((own_arr_keep f17 Kq18 (ninS ne_d1_b1 (ninS ne_d1_vb12 nin0))).ext E23) Kq24 (ninS ne_d1_b1 (ninS ne_d1_vb18 nin0)))
  obtain ⟨c26, T26, h26, k26, sb26, kS26, X26, e26, E26, hS26, hk26, hZ26, hown26, Es26, Fc26, Fv26, Va26, -, -, CR26, -, hn26, st26⟩ := ldcCH (s := s) (vm0 := T23.vm) X24 hx hZ23 hown23 (hw _ (M 178)) (own_strA hw) rfl hS23 hkk24 (own_EW hw) (List.mem_of_getElem? (i := 3) rfl) Ch24.1 lit_5 (z := (0 : Int32)) (by decide) (by rfl) (g := (mkF m 100 #[.val (.ref oc), .val (.int (0 : Int32))] [(.ref b1)])) rfl (hb hby d8_100) (n := 0) (by decide) (by decide) (by decide) (by decide)
  have K26 : Keep h0 h26 [] := K24.ext E26
  have Ch26 : CHr Z consts_1 s.vm h0 T26.vm h26 := Ch24.trans CR26
  have Sf26_b1 : Safe Z consts_1 T26.vm h26 b1 := CHr.safe CR26 Bq24.1.lt Sf24_b1
  have Sf26_vb24 : Safe Z consts_1 T26.vm h26 vb24 := CHr.safe CR26 Bq24.2.2.2.2.lt Sf24_vb24
  have f28 := ((own_sta_keepN ((own_sta_keepN f15 Kq18 (nsS (Bq12.1.nostat) (nsS (Bq12.2.2.2.2.nostat) ns0))).ext E23) Kq24 (nsS ((Bq18.1.ext E23).nostat) (nsS ((Bq18.2.2.2.2.ext E23).nostat) ns0))).ext E26)
  obtain ⟨cq29, kq29, q29a, q29b, q29c⟩ := isOf hZ26 e26 (Bq24.1.ext E26)
  obtain ⟨_, _, ⟨T29, L29, k29, n29⟩, -, X29, ⟨Lc29, hQ29, l29, y29, z29⟩, st29⟩ := X26.virtualBack hx (y := (⟨"java/lang/StringBuilder", "append", "(Ljava/lang/String;)Ljava/lang/StringBuilder;"⟩ : MethodName)) (z := (⟨"java/lang/StringBuilder", "append", "(Ljava/lang/String;)Ljava/lang/StringBuilder;"⟩ : MethodName)) hown26 (mvT hZ26 (hw _ (M 77))) (mvT hZ26 (hw _ (M 78))) (notFace_of_selects (args := #[]) (mvT hZ26 (hw _ (M 80)))) (mvT hZ26 (hw _ (M 80))) (mvT hZ26 (hw _ (M 79))) (by decide) (backOf (W := 0) ((bAppN l Z a0 hw b1 vb24 kb24 (34 : Int32) (25 : Int32) tx_13 c26 sb26 kS26 (0 : Int32) tx_5 zc (25 : Int32) (-9 : Int32) tx_13 h26 n0 (Nat.le_trans Z0 K26.1) ⟨(Bq24.1.ext E26), (Bq24.2.1.ext E26), (Bq24.2.2.1.ext E26), (Bq24.2.2.2.1.ext E26), (Bq24.2.2.2.2.ext E26)⟩ ⟨Es26, Fc26, Fv26, Va26⟩ f28 hz g_b1 g_vb24 (Ne.symm (hn26 vb24 Sf26_vb24).2) (by decide) (by decide) (by decide) (by decide) (by decide) (Nat.le_of_ble_eq_true rfl) (Nat.le_of_ble_eq_true rfl) (by rfl)) []) hZ26 (hw _ (M 81)) (hw _ (M 60)) (by decide) (by decide)) q29a q29c (g := (mkF m 102 #[.val (.ref oc), .val (.int (0 : Int32))] [(.ref c26), (.ref b1)])) rfl (by rw [hml]; rfl) (Steps.refl _) (argsL := [(.ref c26)]) (rest := []) (lenOf pd_oLjava_lang_String_cLjava_lang_StringBuilder_ rfl) rfl (by show 2 * 0 + _ ≤ _; exact Nat.le_of_eq rfl) (hb hby d8_102) (fun _ _ => ⟨rfl, e26, (by decide : 11 + 0 ≤ _), (by decide : 198 + 0 ≤ _)⟩)
  dsimp only [Pt.U, Pt.locs, Pt.cells, Pt.slots] at X29 l29 y29 z29 st29 hQ29
  subst l29 y29 z29
  obtain ⟨vb29, kb29, rfl, N29q, Kq29, or29, gg29, Bq29⟩ := hQ29
  have sz_vb29 : h0.size ≤ vb29 := or29.elim (fun q => by rw [q]; exact sz_vb24) (fun q => Nat.le_trans K26.1 q)
  have g_vb29 : n0 ≤ vb29 := gg29
  have Sn29 : Safe Z consts_1 T26.vm h26 vb29 := or29.elim (fun q => by rw [q]; exact Sf26_vb24) (fun q => Safe.new q)
  have ne_b1_vb29 : b1 ≠ vb29 := or29.elim (fun q => by rw [q]; exact ne_b1_vb24) (fun q => Nat.ne_of_lt (Nat.lt_of_lt_of_le (Bq24.1.ext E26).lt q))
  have ne_d1_vb29 : d1 ≠ vb29 := or29.elim (fun q => by rw [q]; exact ne_d1_vb24) (fun q => Nat.ne_of_lt (Nat.lt_of_lt_of_le (f27.ext E26).lt q))
  have ne_oc_vb29 : oc ≠ vb29 := or29.elim (fun q => by rw [q]; exact ne_oc_vb24) (fun q => Nat.ne_of_lt (Nat.lt_of_lt_of_le ((f25.keep Kq24).ext E26).lt q))
  have K29 : Keep h0 T29.heap [] := K26.trans Kq29 (allS (Or.inr sz_b1) (allS (Or.inr sz_vb24) all0))
  have Ch29 : CHr Z consts_1 s.vm h0 T26.vm T29.heap := Ch26.trans (CHr.keep Kq29 (sfS Sf26_b1 (sfS Sf26_vb24 sf0)) Ch26.1)
  have Sf29_b1 : Safe Z consts_1 T26.vm T29.heap b1 := Safe.keep Kq29 (sfS Sf26_b1 (sfS Sf26_vb24 sf0)) Ch26.1 Sf26_b1
  have Sf29_vb24 : Safe Z consts_1 T26.vm T29.heap vb24 := Safe.keep Kq29 (sfS Sf26_b1 (sfS Sf26_vb24 sf0)) Ch26.1 Sf26_vb24
  have Sf29_vb29 : Safe Z consts_1 T26.vm T29.heap vb29 := Safe.keep Kq29 (sfS Sf26_b1 (sfS Sf26_vb24 sf0)) Ch26.1 Sn29
  have hkk29 : k26 ≤ T29.heap.size := Nat.le_trans hk26 Kq29.1
  have N29 := Fr.app N24 N29q
  have f30 := (own_sta_keepN f28 Kq29 (nsS ((Bq24.1.ext E26).nostat) (nsS ((Bq24.2.2.2.2.ext E26).nostat) ns0)))
  obtain ⟨cq31, kq31, q31a, q31b, q31c⟩ := isOf hZ26 rfl Bq29.1
  obtain ⟨_, _, ⟨T31, L31, k31, n31⟩, -, X31, ⟨Lc31, hQ31, l31, y31, z31⟩, st31⟩ := X29.virtualBack hx (y := (⟨"java/lang/StringBuilder", "toString", "()Ljava/lang/String;"⟩ : MethodName)) (z := (⟨"java/lang/StringBuilder", "toString", "()Ljava/lang/String;"⟩ : MethodName)) hown26 (mvT hZ26 (hw _ (M 179))) (mvT hZ26 (hw _ (M 180))) (notFace_of_selects (args := #[]) (mvT hZ26 (hw _ (M 182)))) (mvT hZ26 (hw _ (M 182))) (mvT hZ26 (hw _ (M 181))) (by decide) (backOf (W := 0) ((bToS l Z a0 hw b1 vb29 kb29 (34 : Int32) (25 : Int32) tx_13 zc tx_0 T29.heap n0 (Nat.le_trans Z0 K29.1) ⟨Bq29.1, Bq29.2.1, Bq29.2.2.1, Bq29.2.2.2.1, Bq29.2.2.2.2⟩ f30 hz (by decide) (Nat.le_of_ble_eq_true rfl) (by decide) (Nat.le_of_ble_eq_true rfl) (by rfl) (by decide)) []) hZ26 (hw _ (M 183)) (hw _ (M 60)) (by decide) (by decide)) q31a q31c (g := (mkF m 105 #[.val (.ref oc), .val (.int (0 : Int32))] [(.ref b1)])) rfl (by rw [hml]; rfl) (Steps.refl _) (argsL := []) (rest := []) (lenOf pd_ocLjava_lang_String_ rfl) rfl (by show 2 * 0 + _ ≤ _; exact Nat.le_of_eq rfl) (hb hby d8_105) (fun _ _ => ⟨rfl, rfl, (by decide : 11 + 2 ≤ _), (by decide : 198 + 49 ≤ _)⟩)
  dsimp only [Pt.U, Pt.locs, Pt.cells, Pt.slots] at X31 l31 y31 z31 st31 hQ31
  subst l31 y31 z31
  obtain ⟨os31, sr31, kS31, rfl, N31q, Kq31, so31q, sr31q, Tq31⟩ := hQ31
  have sz_os31 : h0.size ≤ os31 := Nat.le_trans K29.1 so31q
  have g_os31 : n0 ≤ os31 := Nat.le_trans Z0 sz_os31
  have ne_b1_os31 : b1 ≠ os31 := Nat.ne_of_lt (Nat.lt_of_lt_of_le Bq29.1.lt so31q)
  have ne_d1_os31 : d1 ≠ os31 := Nat.ne_of_lt (Nat.lt_of_lt_of_le (own_arr_keep (f27.ext E26) Kq29 (ninS ne_d1_b1 (ninS ne_d1_vb24 nin0))).lt so31q)
  have ne_oc_os31 : oc ≠ os31 := Nat.ne_of_lt (Nat.lt_of_lt_of_le (((f25.keep Kq24).ext E26).keep Kq29).lt so31q)
  have ne_vb29_os31 : vb29 ≠ os31 := Nat.ne_of_lt (Nat.lt_of_lt_of_le Bq29.2.2.2.2.lt so31q)
  have sz_sr31 : h0.size ≤ sr31 := Nat.le_trans K29.1 sr31q
  have g_sr31 : n0 ≤ sr31 := Nat.le_trans Z0 sz_sr31
  have ne_b1_sr31 : b1 ≠ sr31 := Nat.ne_of_lt (Nat.lt_of_lt_of_le Bq29.1.lt sr31q)
  have ne_d1_sr31 : d1 ≠ sr31 := Nat.ne_of_lt (Nat.lt_of_lt_of_le (own_arr_keep (f27.ext E26) Kq29 (ninS ne_d1_b1 (ninS ne_d1_vb24 nin0))).lt sr31q)
  have ne_oc_sr31 : oc ≠ sr31 := Nat.ne_of_lt (Nat.lt_of_lt_of_le (((f25.keep Kq24).ext E26).keep Kq29).lt sr31q)
  have ne_vb29_sr31 : vb29 ≠ sr31 := Nat.ne_of_lt (Nat.lt_of_lt_of_le Bq29.2.2.2.2.lt sr31q)
  have K31 : Keep h0 T31.heap [] := K29.trans Kq31 all0
  have Ch31 : CHr Z consts_1 s.vm h0 T26.vm T31.heap := Ch29.trans (CHr.keep Kq31 sf0 Ch29.1)
  have Sf31_b1 : Safe Z consts_1 T26.vm T31.heap b1 := Safe.keep Kq31 sf0 Ch29.1 Sf29_b1
  have Sf31_vb29 : Safe Z consts_1 T26.vm T31.heap vb29 := Safe.keep Kq31 sf0 Ch29.1 Sf29_vb29
  have Sf31_os31 : Safe Z consts_1 T26.vm T31.heap os31 := Safe.keep Kq31 sf0 Ch29.1 (Safe.new so31q)
  have Sf31_sr31 : Safe Z consts_1 T26.vm T31.heap sr31 := Safe.keep Kq31 sf0 Ch29.1 (Safe.new sr31q)
  have hkk31 : k26 ≤ T31.heap.size := Nat.le_trans hkk29 Kq31.1
  have N31 := Fr.app N29 N31q
  obtain ⟨fs, hr, hrun, hended, hret, hW, hnew, hsame⟩ := X31.leaveW hS26 hkk31 (v := some (.ref os31)) (fun h => by rw [Bd.returns] at h; cases h)
  refine ⟨_, _, pre0 _ ?_, hrun, hended, _, _, rfl, ?_, ?_, hret, hW, hnew, hsame.mono (by decide) (by decide)⟩
  · show Steps p.tables e below (s₁.setTop (mkF m 0 #[.val (.ref oc), .val (.int (0 : Int32))] [])) _
    refine st1 _ ?_
    show Steps p.tables e below (T1.setTop (mkF m 3 #[.val (.ref oc), .val (.int (0 : Int32))] [(.ref b1)])) _
    refine XS.dup X1.here hx rfl (hb hby d8_3) rfl rfl ?_
    refine st2.trans ?_
    show Steps p.tables e below (T2.setTop (mkF m 7 #[.val (.ref oc), .val (.int (0 : Int32))] [(.ref b1)])) _
    refine st3 _ ?_
    show Steps p.tables e below (T3.setTop (mkF m 9 #[.val (.ref oc), .val (.int (0 : Int32))] [(.ref c3), (.ref b1)])) _
    refine st4.trans ?_
    show Steps p.tables e below (T4.setTop (mkF m 12 #[.val (.ref oc), .val (.int (0 : Int32))] [(.ref b1)])) _
    refine XS.aloadN X4.here hx rfl (hb hby d8_12) rfl rfl ?_
    refine st6 _ ?_
    show Steps p.tables e below (T6.setTop (mkF m 16 #[.val (.ref oc), .val (.int (0 : Int32))] [(.long (0 : Int64)), (.ref b1)])) _
    refine st10.trans ?_
    show Steps p.tables e below (T10.setTop (mkF m 19 #[.val (.ref oc), .val (.int (0 : Int32))] [(.ref b1)])) _
    refine st11 _ ?_
    show Steps p.tables e below (T11.setTop (mkF m 21 #[.val (.ref oc), .val (.int (0 : Int32))] [(.ref c11), (.ref b1)])) _
    refine st12.trans ?_
    show Steps p.tables e below (T12.setTop (mkF m 24 #[.val (.ref oc), .val (.int (0 : Int32))] [(.ref b1)])) _
    refine XS.aloadN X12.here hx rfl (hb hby d8_24) rfl rfl ?_
    refine st14 _ ?_
    show Steps p.tables e below (T14.setTop (mkF m 28 #[.val (.ref oc), .val (.int (0 : Int32))] [(.long (0 : Int64)), (.ref b1)])) _
    refine st18.trans ?_
    show Steps p.tables e below (T18.setTop (mkF m 31 #[.val (.ref oc), .val (.int (0 : Int32))] [(.ref b1)])) _
    refine XS.aloadN X18.here hx rfl (hb hby d8_31) rfl rfl ?_
    refine st20 _ ?_
    show Steps p.tables e below (T20.setTop (mkF m 35 #[.val (.ref oc), .val (.int (0 : Int32))] [(.ref so), (.ref b1)])) _
    refine st22 _ ?_
    show Steps p.tables e below (T22.setTop (mkF m 38 #[.val (.ref oc), .val (.int (0 : Int32))] [(.ref sk), (.ref so), (.ref b1)])) _
    refine Jvm.RoadKit.acmp (g := (mkF m 38 #[.val (.ref oc), .val (.int (0 : Int32))] [(.ref sk), (.ref so), (.ref b1)])) X22 hx rfl rfl rfl (pc0 := 38) (pc' := 66) (same := false) rfl (hb hby d8_38) rfl (decide_eq_false fun q => ha38 (Value.ref.inj q)) (by decide) (by decide) ?_
    show Steps p.tables e below (T22.setTop (mkF m 66 #[.val (.ref oc), .val (.int (0 : Int32))] [(.ref b1)])) _
    refine st23 _ ?_
    show Steps p.tables e below (T23.setTop (mkF m 68 #[.val (.ref oc), .val (.int (0 : Int32))] [(.ref c23), (.ref b1)])) _
    refine st24.trans ?_
    show Steps p.tables e below (T24.setTop (mkF m 71 #[.val (.ref oc), .val (.int (0 : Int32))] [(.ref b1)])) _
    refine XS.iloadN X24.here hx rfl (hb hby d8_71) rfl ?_
    refine XS.ifYes X24.here hx rfl (pc0 := 72) (pc' := 100) rfl (hb hby d8_72) rfl ((if0 _ _).trans (teq (by decide : (0 : Int32) = (0 : Int32))).1) (by decide) (by decide) ?_
    show Steps p.tables e below (T24.setTop (mkF m 100 #[.val (.ref oc), .val (.int (0 : Int32))] [(.ref b1)])) _
    refine st26 _ ?_
    show Steps p.tables e below (T26.setTop (mkF m 102 #[.val (.ref oc), .val (.int (0 : Int32))] [(.ref c26), (.ref b1)])) _
    refine st29.trans ?_
    show Steps p.tables e below (T29.setTop (mkF m 105 #[.val (.ref oc), .val (.int (0 : Int32))] [(.ref b1)])) _
    refine st31.trans ?_
    show Steps p.tables e below (T31.setTop (mkF m 108 #[.val (.ref oc), .val (.int (0 : Int32))] [(.ref os31)])) _
    jvm_step X31.here [X31.here.top, hx, (hb hby d8_108), X31.method', Bd.returns, Value.isRef, FieldType.isReference]
    first | (intro acts; rw [hr _ acts rfl rfl rfl]) | rw [hr _ _ rfl rfl rfl]
    exact Steps.refl _
  · show (QU Z (25 : Int32) tx_0 h0 n0) _ T31.heap _
    exact ⟨_, _, _, rfl, N31, K31, sz_os31, sz_sr31, ⟨Tq31.1, Tq31.2.1, Tq31.2.2.1, Tq31.2.2.2⟩⟩
  · show CHr Z consts_1 s.vm s.heap T31.vm T31.heap
    rw [hh]
    exact Ch31.trans (CHv.at (s := s) (vm0 := T26.vm) X31 hZ26 (own_EW hw) Ch31.1)
def Q1 (n0 : Nat) (v : Option Value) (h : Heap) (L : List Loc) : Prop := v = some (.int (1 : Int32)) ∧ Fr n0 L
theorem pd_oLcom_example_known_origins_knownorigins_store_IfStored_cLcom_example_known_origins_knownorigins_store_LoadCount_ : parseMethodDescriptor "(Lcom/example/known_origins/knownorigins/store/IfStored;)Lcom/example/known_origins/knownorigins/store/LoadCount;" = some ⟨[(.object "com/example/known_origins/knownorigins/store/IfStored")], some (.object "com/example/known_origins/knownorigins/store/LoadCount")⟩ := by decide +kernel
theorem pd_ocJ : parseMethodDescriptor "()J" = some ⟨[], some .long⟩ := by decide +kernel
theorem pd_oZcLjava_lang_String_ : parseMethodDescriptor "(Z)Ljava/lang/String;" = some ⟨[.boolean], some (.object "java/lang/String")⟩ := by decide +kernel
theorem pd_oLjava_lang_Object_cZ : parseMethodDescriptor "(Ljava/lang/Object;)Z" = some ⟨[(.object "java/lang/Object")], some .boolean⟩ := by decide +kernel
theorem pd_oLcom_example_known_origins_knownorigins_store_LoadCount_cLcom_example_known_origins_knownorigins_store_LoadCount_ : parseMethodDescriptor "(Lcom/example/known_origins/knownorigins/store/LoadCount;)Lcom/example/known_origins/knownorigins/store/LoadCount;" = some ⟨[(.object "com/example/known_origins/knownorigins/store/LoadCount")], some (.object "com/example/known_origins/knownorigins/store/LoadCount")⟩ := by decide +kernel
theorem pn_0 : plainName "com/example/known_origins/knownorigins/store/LoadCountNonePinLaw" = true := by first | (simp [plainName, overriddenIn]; done) | decide +kernel
theorem ef_0 (m : MethodId) (x0 : Int32) (x1 : Int64) (x2 : Int64) (x3 : Int64) (x4 : Int64) : entryFrame m #[(.int x0), (.long x1), (.long x2), (.long x3), (.long x4)] maxLocals = mkF m 0 #[.val (.int x0), .val (.long x1), .second, .val (.long x2), .second, .val (.long x3), .second, .val (.long x4), .second, .unset, .unset, .unset, .unset, .unset, .unset, .unset, .unset, .unset, .unset] [] := by first | (simp [entryFrame, mkF, argsToLocals, Value.category, maxLocals]; done) | rfl
set_option maxRecDepth 65536 in
set_option maxHeartbeats 40000000 in
theorem law_11 (l : Launch) (Z : State) (a0 : Array Value) (hw : ∀ d ∈ tables_1, d.before a0 Z = true) (sel : Int32) (qg qt qk qd : Int64) (sk re : Addr) (zc : Int32) (d1 : Addr) (cd : Cell) (h0 : Heap) (n0 : Nat) (Z0 : n0 ≤ h0.size) (S_SKIP : Sta Z h0 "com/example/known_origins/knownorigins/store/IfStored" "SKIP" "Lcom/example/known_origins/knownorigins/store/IfStored;" (.ref sk)) (S_REFUSE : Sta Z h0 "com/example/known_origins/knownorigins/store/IfStored" "REFUSE" "Lcom/example/known_origins/knownorigins/store/IfStored;" (.ref re)) (hrs : ¬ (re = sk)) (S_CS : Sta Z h0 "java/lang/String" "COMPACT_STRINGS" "Z" (.int zc)) (hz : ¬ (zc = (0 : Int32))) (S_D1 : Sta Z h0 "java/lang/Integer" "DigitOnes" "[B" (.ref d1)) (Ad : Arr Z h0 d1 cd .byte) (hind : ¬ ((0 : Int32) < 0 ∨ cd.slots.size ≤ (0 : Int32).toNatClampNeg)) (hatd : cd.slots[(0 : Int32).toNatClampNeg]? = some (.int (48 : Int32))) (hc3 : ¬ ((sel &&& (1 : Int32)) = (0 : Int32))) (hc16 : ¬ ((sel &&& (2 : Int32)) = (0 : Int32))) :
    MH l Z x code maxLocals ret room_1 #[(.int sel), (.long qg), (.long qt), (.long qk), (.long qd)] h0 (Q1 n0) := by
  intro ws
  refine MetFree.of_bodySF (plainFor_of_name pn_0) hisR ?_
  intro p e s m args below meth c s₁ Bd hml0 hP hK
  obtain ⟨rfl, hZ, hh, hCH⟩ := hP
  have hx := Bd.exec
  have hby := Bd.bytes
  have hml : c.maxLocals = 19 := hml0
  have hown : s.vm.findClass "com/example/known_origins/knownorigins/store/LoadCountNonePinLaw" = some m.cls := findClass_of_methodNamed Bd.named
  have hnm := (name_of_methodNamed Bd.named Bd.method).1
  have X0 : Stand p l e room_1 s m #[(.int sel), (.long qg), (.long qt), (.long qk), (.long qd)] below meth c s₁ [] 0 0 := Stand.of_body Bd
  have e0 : s₁.heap = h0 := by rw [← hh, Bd.state]; rfl
  have N0 := Fr.nil n0
  have hSi : s.Since s.vm 0 := (State.WarmedH.refl s).since 0
  have Ch0 : CHr Z consts_1 s.vm h0 s.vm h0 := CHr.refl hCH
  have pre0 : ∀ t_, Steps p.tables e below (s₁.setTop (mkF m 0 #[.val (.int sel), .val (.long qg), .second, .val (.long qt), .second, .val (.long qk), .second, .val (.long qd), .second, .unset, .unset, .unset, .unset, .unset, .unset, .unset, .unset, .unset, .unset] [])) t_ → Steps p.tables e below (s₁.setTop (entryFrame m #[(.int sel), (.long qg), (.long qt), (.long qk), (.long qd)] maxLocals)) t_ := fun t_ k_ => castTop (ef_0 m sel qg qt qk qd) k_
  obtain ⟨T1, X1, e1, st1⟩ := getS2 X0 hx hZ hown (host := "") (Or.inl (hw _ (M 233))) Via.refl e0 S_SKIP (g := (mkF m 31 #[.val (.int sel), .val (.long qg), .second, .val (.long qt), .second, .val (.long qk), .second, .val (.long qd), .second, .val (.int (1 : Int32)), .val (.int (1 : Int32)), .unset, .unset, .unset, .unset, .unset, .unset, .unset, .unset] [])) rfl (hb hby at_31)
  obtain ⟨_, _, ⟨T2, L2, k2, n2⟩, -, X2, ⟨Lc2, hQ2, l2, y2, z2⟩, st2⟩ := Jvm.LawKit.callS X1 hx (y := (⟨"com/example/known_origins/knownorigins/store/LoadCount", "none", "(Lcom/example/known_origins/knownorigins/store/IfStored;)Lcom/example/known_origins/knownorigins/store/LoadCount;"⟩ : MethodName)) hown (mvT hZ (hw _ (M 3))) (mvT hZ (hw _ (M 4))) (mvT hZ (hw _ (M 5))) (mvT hZ (hw _ (M 6))) (by decide) (backOf (W := 0) ((lcNone l Z a0 hw sk h0 n0 (Nat.le_trans Z0 (Keep.refl h0 []).1)) []) hZ (hw _ (M 6)) (hw _ (M 5)) (by decide) (by decide)) (g := (mkF m 44 #[.val (.int sel), .val (.long qg), .second, .val (.long qt), .second, .val (.long qk), .second, .val (.long qd), .second, .val (.int (1 : Int32)), .val (.int (1 : Int32)), .val (.ref sk), .unset, .unset, .unset, .unset, .unset, .unset, .unset] [(.ref sk)])) rfl (by rw [hml]; rfl) (argsL := [(.ref sk)]) (rest := []) (lenOf pd_oLcom_example_known_origins_knownorigins_store_IfStored_cLcom_example_known_origins_knownorigins_store_LoadCount_ rfl) rfl (by show 2 * 0 + _ ≤ _; exact Nat.le_of_eq rfl) (hb hby at_44) (fun _ _ => ⟨rfl, e1, (by decide : 0 + 1 ≤ _), (by decide : 0 + 5 ≤ _)⟩)
  dsimp only [Pt.U, Pt.locs, Pt.cells, Pt.slots] at X2 l2 y2 z2 st2 hQ2
  subst l2 y2 z2
  obtain ⟨oc2, rfl, N2q, Kq2, sz2q, Bq2⟩ := hQ2
  have sz_oc2 : h0.size ≤ oc2 := Nat.le_trans (Keep.refl h0 []).1 sz2q
  have g_oc2 : n0 ≤ oc2 := Nat.le_trans Z0 sz_oc2
  have ne_d1_oc2 : d1 ≠ oc2 := Nat.ne_of_lt (Nat.lt_of_lt_of_le Ad.lt sz2q)
  have K2 : Keep h0 T2.heap [] := (Keep.refl h0 []).trans Kq2 all0
  have Ch2 : CHr Z consts_1 s.vm h0 s.vm T2.heap := Ch0.trans (CHr.keep Kq2 sf0 Ch0.1)
  have Sf2_oc2 : Safe Z consts_1 s.vm T2.heap oc2 := Safe.keep Kq2 sf0 Ch0.1 (Safe.new sz2q)
  have hkk2 : 0 ≤ T2.heap.size := Nat.le_trans (Nat.zero_le _) Kq2.1
  have N2 := Fr.app N0 N2q
  obtain ⟨cq3, kq3, q3a, q3b, q3c⟩ := isOf hZ rfl Bq2.1
  obtain ⟨_, _, ⟨T3, L3, k3, n3⟩, -, X3, ⟨Lc3, hQ3, l3, y3, z3⟩, st3⟩ := X2.virtualBack hx (y := (⟨"com/example/known_origins/knownorigins/store/LoadCount", "graphs", "()J"⟩ : MethodName)) (z := (⟨"com/example/known_origins/knownorigins/store/LoadCount", "graphs", "()J"⟩ : MethodName)) hown (mvT hZ (hw _ (M 25))) (mvT hZ (hw _ (M 26))) (notFace_of_selects (args := #[]) (mvT hZ (hw _ (M 28)))) (mvT hZ (hw _ (M 28))) (mvT hZ (hw _ (M 27))) (by decide) (backOf (W := 0) ((lc_graphs l Z a0 hw oc2 sk (0 : Int64) (0 : Int64) (0 : Int64) (0 : Int64) T2.heap n0 (Nat.le_trans Z0 K2.1) ⟨Bq2.1, Bq2.2.1, Bq2.2.2.1, Bq2.2.2.2.1, Bq2.2.2.2.2.1, Bq2.2.2.2.2.2⟩) []) hZ (hw _ (M 29)) (hw _ (M 5)) (by decide) (by decide)) q3a q3c (g := (mkF m 51 #[.val (.int sel), .val (.long qg), .second, .val (.long qt), .second, .val (.long qk), .second, .val (.long qd), .second, .val (.int (1 : Int32)), .val (.int (1 : Int32)), .val (.ref sk), .val (.ref oc2), .unset, .unset, .unset, .unset, .unset, .unset] [(.ref oc2)])) rfl (by rw [hml]; rfl) (Steps.refl _) (argsL := []) (rest := []) (lenOf pd_ocJ rfl) rfl (by show 2 * 0 + _ ≤ _; exact Nat.le_of_eq rfl) (hb hby at_51) (fun _ _ => ⟨rfl, rfl, (by decide : 1 + 0 ≤ _), (by decide : 5 + 0 ≤ _)⟩)
  dsimp only [Pt.U, Pt.locs, Pt.cells, Pt.slots] at X3 l3 y3 z3 st3 hQ3
  subst l3 y3 z3
  obtain ⟨rfl, N3q, e3⟩ := hQ3
  have N3 := Fr.app N2 N3q
  obtain ⟨cq4, kq4, q4a, q4b, q4c⟩ := isOf hZ e3 Bq2.1
  obtain ⟨_, _, ⟨T4, L4, k4, n4⟩, -, X4, ⟨Lc4, hQ4, l4, y4, z4⟩, st4⟩ := X3.virtualBack hx (y := (⟨"com/example/known_origins/knownorigins/store/LoadCount", "triples", "()J"⟩ : MethodName)) (z := (⟨"com/example/known_origins/knownorigins/store/LoadCount", "triples", "()J"⟩ : MethodName)) hown (mvT hZ (hw _ (M 30))) (mvT hZ (hw _ (M 31))) (notFace_of_selects (args := #[]) (mvT hZ (hw _ (M 33)))) (mvT hZ (hw _ (M 33))) (mvT hZ (hw _ (M 32))) (by decide) (backOf (W := 0) ((lc_triples l Z a0 hw oc2 sk (0 : Int64) (0 : Int64) (0 : Int64) (0 : Int64) T2.heap n0 (Nat.le_trans Z0 K2.1) ⟨Bq2.1, Bq2.2.1, Bq2.2.2.1, Bq2.2.2.2.1, Bq2.2.2.2.2.1, Bq2.2.2.2.2.2⟩) []) hZ (hw _ (M 34)) (hw _ (M 5)) (by decide) (by decide)) q4a q4c (g := (mkF m 61 #[.val (.int sel), .val (.long qg), .second, .val (.long qt), .second, .val (.long qk), .second, .val (.long qd), .second, .val (.int (1 : Int32)), .val (.int (1 : Int32)), .val (.ref sk), .val (.ref oc2), .unset, .unset, .unset, .unset, .unset, .unset] [(.ref oc2)])) rfl (by rw [hml]; rfl) (Steps.refl _) (argsL := []) (rest := []) (lenOf pd_ocJ rfl) rfl (by show 2 * 0 + _ ≤ _; exact Nat.le_of_eq rfl) (hb hby at_61) (fun _ _ => ⟨rfl, e3, (by decide : 1 + 0 ≤ _), (by decide : 5 + 0 ≤ _)⟩)
  dsimp only [Pt.U, Pt.locs, Pt.cells, Pt.slots] at X4 l4 y4 z4 st4 hQ4
  subst l4 y4 z4
  obtain ⟨rfl, N4q, e4⟩ := hQ4
  have N4 := Fr.app N3 N4q
  obtain ⟨cq5, kq5, q5a, q5b, q5c⟩ := isOf hZ e4 Bq2.1
  obtain ⟨_, _, ⟨T5, L5, k5, n5⟩, -, X5, ⟨Lc5, hQ5, l5, y5, z5⟩, st5⟩ := X4.virtualBack hx (y := (⟨"com/example/known_origins/knownorigins/store/LoadCount", "skipped", "()J"⟩ : MethodName)) (z := (⟨"com/example/known_origins/knownorigins/store/LoadCount", "skipped", "()J"⟩ : MethodName)) hown (mvT hZ (hw _ (M 35))) (mvT hZ (hw _ (M 36))) (notFace_of_selects (args := #[]) (mvT hZ (hw _ (M 38)))) (mvT hZ (hw _ (M 38))) (mvT hZ (hw _ (M 37))) (by decide) (backOf (W := 0) ((lc_skipped l Z a0 hw oc2 sk (0 : Int64) (0 : Int64) (0 : Int64) (0 : Int64) T2.heap n0 (Nat.le_trans Z0 K2.1) ⟨Bq2.1, Bq2.2.1, Bq2.2.2.1, Bq2.2.2.2.1, Bq2.2.2.2.2.1, Bq2.2.2.2.2.2⟩) []) hZ (hw _ (M 39)) (hw _ (M 5)) (by decide) (by decide)) q5a q5c (g := (mkF m 71 #[.val (.int sel), .val (.long qg), .second, .val (.long qt), .second, .val (.long qk), .second, .val (.long qd), .second, .val (.int (1 : Int32)), .val (.int (1 : Int32)), .val (.ref sk), .val (.ref oc2), .unset, .unset, .unset, .unset, .unset, .unset] [(.ref oc2)])) rfl (by rw [hml]; rfl) (Steps.refl _) (argsL := []) (rest := []) (lenOf pd_ocJ rfl) rfl (by show 2 * 0 + _ ≤ _; exact Nat.le_of_eq rfl) (hb hby at_71) (fun _ _ => ⟨rfl, e4, (by decide : 1 + 0 ≤ _), (by decide : 5 + 0 ≤ _)⟩)
  dsimp only [Pt.U, Pt.locs, Pt.cells, Pt.slots] at X5 l5 y5 z5 st5 hQ5
  subst l5 y5 z5
  obtain ⟨rfl, N5q, e5⟩ := hQ5
  have N5 := Fr.app N4 N5q
  obtain ⟨cq6, kq6, q6a, q6b, q6c⟩ := isOf hZ e5 Bq2.1
  obtain ⟨_, _, ⟨T6, L6, k6, n6⟩, -, X6, ⟨Lc6, hQ6, l6, y6, z6⟩, st6⟩ := X5.virtualBack hx (y := (⟨"com/example/known_origins/knownorigins/store/LoadCount", "derived", "()J"⟩ : MethodName)) (z := (⟨"com/example/known_origins/knownorigins/store/LoadCount", "derived", "()J"⟩ : MethodName)) hown (mvT hZ (hw _ (M 40))) (mvT hZ (hw _ (M 41))) (notFace_of_selects (args := #[]) (mvT hZ (hw _ (M 43)))) (mvT hZ (hw _ (M 43))) (mvT hZ (hw _ (M 42))) (by decide) (backOf (W := 0) ((lc_derived l Z a0 hw oc2 sk (0 : Int64) (0 : Int64) (0 : Int64) (0 : Int64) T2.heap n0 (Nat.le_trans Z0 K2.1) ⟨Bq2.1, Bq2.2.1, Bq2.2.2.1, Bq2.2.2.2.1, Bq2.2.2.2.2.1, Bq2.2.2.2.2.2⟩) []) hZ (hw _ (M 44)) (hw _ (M 5)) (by decide) (by decide)) q6a q6c (g := (mkF m 81 #[.val (.int sel), .val (.long qg), .second, .val (.long qt), .second, .val (.long qk), .second, .val (.long qd), .second, .val (.int (1 : Int32)), .val (.int (1 : Int32)), .val (.ref sk), .val (.ref oc2), .unset, .unset, .unset, .unset, .unset, .unset] [(.ref oc2)])) rfl (by rw [hml]; rfl) (Steps.refl _) (argsL := []) (rest := []) (lenOf pd_ocJ rfl) rfl (by show 2 * 0 + _ ≤ _; exact Nat.le_of_eq rfl) (hb hby at_81) (fun _ _ => ⟨rfl, e5, (by decide : 1 + 0 ≤ _), (by decide : 5 + 0 ≤ _)⟩)
  dsimp only [Pt.U, Pt.locs, Pt.cells, Pt.slots] at X6 l6 y6 z6 st6 hQ6
  subst l6 y6 z6
  obtain ⟨rfl, N6q, e6⟩ := hQ6
  have N6 := Fr.app N5 N6q
  obtain ⟨c7, T7, h7, k7, sb7, kS7, X7, e7, E7, hS7, hk7, hZ7, hown7, Es7, Fc7, Fv7, Va7, -, -, CR7, -, hn7, st7⟩ := ldcCH (s := s) (vm0 := s.vm) X6 hx hZ hown (hw _ (M 238)) (own_strA hw) e6 hSi hkk2 (own_EW hw) (List.mem_of_getElem? (i := 5) rfl) Ch2.1 lit_3 (z := (45 : Int32)) (by decide) (by rfl) (g := (mkF m 106 #[.val (.int sel), .val (.long qg), .second, .val (.long qt), .second, .val (.long qk), .second, .val (.long qd), .second, .val (.int (1 : Int32)), .val (.int (1 : Int32)), .val (.ref sk), .val (.ref oc2), .val (.int (1 : Int32)), .unset, .unset, .unset, .unset, .unset] [])) rfl (hb hby at_106) (n := 180) (by decide) (by decide) (by decide) (by decide)
  have K7 : Keep h0 h7 [] := K2.ext E7
  have Ch7 : CHr Z consts_1 s.vm h0 T7.vm h7 := Ch2.trans CR7
  have Sf7_oc2 : Safe Z consts_1 T7.vm h7 oc2 := CHr.safe CR7 Bq2.1.lt Sf2_oc2
  obtain ⟨cq8, kq8, q8a, q8b, q8c⟩ := isOf hZ7 e7 (Bq2.1.ext E7)
  obtain ⟨_, _, ⟨T8, L8, k8, n8⟩, -, X8, sc8, gr8, ⟨Lc8, hQ8, l8, y8, z8, ch8⟩, st8⟩ := X7.virtualBackS hx (y := (⟨"com/example/known_origins/knownorigins/store/LoadCount", "line", "(Z)Ljava/lang/String;"⟩ : MethodName)) (z := (⟨"com/example/known_origins/knownorigins/store/LoadCount", "line", "(Z)Ljava/lang/String;"⟩ : MethodName)) hown7 (mvT hZ7 (hw _ (M 53))) (mvT hZ7 (hw _ (M 54))) (notFace_of_selects (args := #[]) (mvT hZ7 (hw _ (M 56)))) (mvT hZ7 (hw _ (M 56))) (mvT hZ7 (hw _ (M 55))) (by decide) (backOfSH (W := 1) ((line_11 l Z a0 hw oc2 sk zc d1 cd h7 n0 (Nat.le_trans Z0 K7.1) ⟨(Bq2.1.ext E7), (Bq2.2.1.ext E7), (Bq2.2.2.1.ext E7), (Bq2.2.2.2.1.ext E7), (Bq2.2.2.2.2.1.ext E7), (Bq2.2.2.2.2.2.ext E7)⟩ ((own_sta_keepN S_SKIP Kq2 ns0).ext E7) ((own_sta_keepN S_CS Kq2 ns0).ext E7) hz ((own_sta_keepN S_D1 Kq2 ns0).ext E7) ((own_arr_keep Ad Kq2 nin0).ext E7) hind hatd) []) hZ7 (hw _ (M 57)) (hw _ (M 5)) (by decide) (by decide) (own_EW hw) Ch7.1) q8a q8c (g := (mkF m 142 #[.val (.int sel), .val (.long qg), .second, .val (.long qt), .second, .val (.long qk), .second, .val (.long qd), .second, .val (.int (1 : Int32)), .val (.int (1 : Int32)), .val (.ref sk), .val (.ref oc2), .val (.int (1 : Int32)), .val (.ref c7), .unset, .unset, .unset, .unset] [(.int (1 : Int32)), (.ref oc2), (.ref c7)])) rfl (by rw [hml]; rfl) (Steps.refl _) (argsL := [(.int (1 : Int32))]) (rest := [(.ref c7)]) (lenOf pd_oZcLjava_lang_String_ rfl) rfl (by show 2 * 0 + _ ≤ _; exact Nat.le_of_eq rfl) (hb hby at_142) (fun _ _ => ⟨rfl, e7, (by decide : 3 + 22 ≤ _), (by decide : 189 + 527 ≤ _)⟩)
  dsimp only [Pt.U, Pt.locs, Pt.cells, Pt.slots] at X8 l8 y8 z8 st8 hQ8 sc8 gr8
  subst l8 y8 z8
  dsimp only [Pt.U, Pt.locs, Pt.cells, Pt.slots] at ch8
  obtain ⟨Y8, hS8, hZ8, hown8⟩ := rebS (s := s) hS7 (by rw [e7]; exact hk7) X8 sc8 gr8 hZ7 hown7
  obtain ⟨os8, sr8, kS8, rfl, N8q, Kq8, so8q, sr8q, Tq8⟩ := hQ8
  have sz_os8 : h0.size ≤ os8 := Nat.le_trans K7.1 so8q
  have g_os8 : n0 ≤ os8 := Nat.le_trans Z0 sz_os8
  have ne_c7_os8 : c7 ≠ os8 := Nat.ne_of_lt (Nat.lt_of_lt_of_le Es7.lt so8q)
  have ne_d1_os8 : d1 ≠ os8 := Nat.ne_of_lt (Nat.lt_of_lt_of_le ((own_arr_keep Ad Kq2 nin0).ext E7).lt so8q)
  have ne_oc2_os8 : oc2 ≠ os8 := Nat.ne_of_lt (Nat.lt_of_lt_of_le (Bq2.1.ext E7).lt so8q)
  have ne_sb7_os8 : sb7 ≠ os8 := Nat.ne_of_lt (Nat.lt_of_lt_of_le Va7.lt so8q)
  have sz_sr8 : h0.size ≤ sr8 := Nat.le_trans K7.1 sr8q
  have g_sr8 : n0 ≤ sr8 := Nat.le_trans Z0 sz_sr8
  have ne_c7_sr8 : c7 ≠ sr8 := Nat.ne_of_lt (Nat.lt_of_lt_of_le Es7.lt sr8q)
  have ne_d1_sr8 : d1 ≠ sr8 := Nat.ne_of_lt (Nat.lt_of_lt_of_le ((own_arr_keep Ad Kq2 nin0).ext E7).lt sr8q)
  have ne_oc2_sr8 : oc2 ≠ sr8 := Nat.ne_of_lt (Nat.lt_of_lt_of_le (Bq2.1.ext E7).lt sr8q)
  have ne_sb7_sr8 : sb7 ≠ sr8 := Nat.ne_of_lt (Nat.lt_of_lt_of_le Va7.lt sr8q)
  have K8 : Keep h0 T8.heap [] := K7.trans Kq8 all0
  have Ch8 : CHr Z consts_1 s.vm h0 T8.vm T8.heap := Ch7.trans ch8
  have Sf8_oc2 : Safe Z consts_1 T8.vm T8.heap oc2 := CHr.safe ch8 (Bq2.1.ext E7).lt Sf7_oc2
  have N8 := Fr.app N6 N8q
  obtain ⟨cq9, kq9, q9a, q9b, q9c⟩ := isOf hZ8 rfl (Es7.keep Kq8)
  obtain ⟨_, _, ⟨T9, L9, k9, n9⟩, -, X9, ⟨Lc9, hQ9, l9, y9, z9⟩, st9⟩ := Y8.virtualBack hx (y := (⟨"java/lang/String", "equals", "(Ljava/lang/Object;)Z"⟩ : MethodName)) (z := (⟨"java/lang/String", "equals", "(Ljava/lang/Object;)Z"⟩ : MethodName)) hown8 (mvT hZ8 (hw _ (M 216))) (mvT hZ8 (hw _ (M 217))) (notFace_of_selects (args := #[]) (mvT hZ8 (hw _ (M 219)))) (mvT hZ8 (hw _ (M 219))) (mvT hZ8 (hw _ (M 218))) (by decide) (backOf (W := 0) ((sEquals l Z a0 hw c7 sb7 kS7 (45 : Int32) tx_3 zc os8 sr8 kS8 T8.heap n0 (Nat.le_trans Z0 K8.1) ⟨(Es7.keep Kq8), (Fc7.keep Kq8 nin0), (Fv7.keep Kq8 nin0), (Va7.keep Kq8 nin0)⟩ (own_sta_keepN ((own_sta_keepN S_CS Kq2 ns0).ext E7) Kq8 ns0) hz ⟨Tq8.1, Tq8.2.1, Tq8.2.2.1, Tq8.2.2.2⟩ ne_c7_os8) []) hZ8 (hw _ (M 220)) (hw _ (M 46)) (by decide) (by decide)) q9a q9c (g := (mkF m 145 #[.val (.int sel), .val (.long qg), .second, .val (.long qt), .second, .val (.long qk), .second, .val (.long qd), .second, .val (.int (1 : Int32)), .val (.int (1 : Int32)), .val (.ref sk), .val (.ref oc2), .val (.int (1 : Int32)), .val (.ref c7), .unset, .unset, .unset, .unset] [(.ref os8), (.ref c7)])) rfl (by rw [hml]; rfl) (Steps.refl _) (argsL := [(.ref os8)]) (rest := []) (lenOf pd_oLjava_lang_Object_cZ rfl) rfl (by show 2 * 0 + _ ≤ _; exact Nat.le_of_eq rfl) (hb hby at_145) (fun _ _ => ⟨rfl, rfl, (by decide : 25 + 0 ≤ _), (by decide : 716 + 0 ≤ _)⟩)
  dsimp only [Pt.U, Pt.locs, Pt.cells, Pt.slots] at X9 l9 y9 z9 st9 hQ9
  subst l9 y9 z9
  obtain ⟨rfl, N9q, e9⟩ := hQ9
  have N9 := Fr.app N8 N9q
  obtain ⟨T10, h10, X10, e10, E10, A10, D10, -, st10⟩ := newO X9 hx hZ8 hown8 (hw _ (M 226)) (hw _ (M 8)) (hw _ (M 5)) e9 (g := (mkF m 150 #[.val (.int sel), .val (.long qg), .second, .val (.long qt), .second, .val (.long qk), .second, .val (.long qd), .second, .val (.int (1 : Int32)), .val (.int (1 : Int32)), .val (.ref sk), .val (.ref oc2), .val (.int (1 : Int32)), .val (.ref c7), .val (.int (1 : Int32)), .unset, .unset, .unset] [])) rfl (hb hby at_150) (by decide) (by decide)
  obtain ⟨b10, g10⟩ : ∃ z, z = T8.heap.size := ⟨_, rfl⟩
  rw [← g10] at A10 D10 st10
  have sz_b10 : h0.size ≤ b10 := Nat.le_trans K8.1 (Nat.le_of_eq g10.symm)
  have g_b10 : n0 ≤ b10 := Nat.le_trans Z0 sz_b10
  have ne_c7_b10 : c7 ≠ b10 := Nat.ne_of_lt (Nat.lt_of_lt_of_le (Es7.keep Kq8).lt (Nat.le_of_eq g10.symm))
  have ne_d1_b10 : d1 ≠ b10 := Nat.ne_of_lt (Nat.lt_of_lt_of_le (own_arr_keep ((own_arr_keep Ad Kq2 nin0).ext E7) Kq8 nin0).lt (Nat.le_of_eq g10.symm))
  have ne_oc2_b10 : oc2 ≠ b10 := Nat.ne_of_lt (Nat.lt_of_lt_of_le ((Bq2.1.ext E7).keep Kq8).lt (Nat.le_of_eq g10.symm))
  have ne_os8_b10 : os8 ≠ b10 := Nat.ne_of_lt (Nat.lt_of_lt_of_le Tq8.1.lt (Nat.le_of_eq g10.symm))
  have ne_sb7_b10 : sb7 ≠ b10 := Nat.ne_of_lt (Nat.lt_of_lt_of_le (Va7.keep Kq8 nin0).lt (Nat.le_of_eq g10.symm))
  have ne_sr8_b10 : sr8 ≠ b10 := Nat.ne_of_lt (Nat.lt_of_lt_of_le Tq8.2.2.2.lt (Nat.le_of_eq g10.symm))
  have K10 : Keep h0 h10 [] := K8.ext E10
  have F_ifStored_b10 : Fld Z h10 b10 "com/example/known_origins/knownorigins/store/LoadCount" "ifStored" "Lcom/example/known_origins/knownorigins/store/IfStored;" .null := D10 (Or.inr (hw _ (M 16))) (ty := (.object "com/example/known_origins/knownorigins/store/IfStored")) (by decide)
  have F_graphs_b10 : Fld Z h10 b10 "com/example/known_origins/knownorigins/store/LoadCount" "graphs" "J" (.long (0 : Int64)) := D10 (Or.inr (hw _ (M 18))) (ty := .long) (by decide)
  have F_triples_b10 : Fld Z h10 b10 "com/example/known_origins/knownorigins/store/LoadCount" "triples" "J" (.long (0 : Int64)) := D10 (Or.inr (hw _ (M 20))) (ty := .long) (by decide)
  have F_skipped_b10 : Fld Z h10 b10 "com/example/known_origins/knownorigins/store/LoadCount" "skipped" "J" (.long (0 : Int64)) := D10 (Or.inr (hw _ (M 22))) (ty := .long) (by decide)
  have F_derived_b10 : Fld Z h10 b10 "com/example/known_origins/knownorigins/store/LoadCount" "derived" "J" (.long (0 : Int64)) := D10 (Or.inr (hw _ (M 24))) (ty := .long) (by decide)
  have Ch10 : CHr Z consts_1 s.vm h0 T8.vm h10 := Ch8.trans (CHr.ext E10 Ch8.1)
  have Sf10_oc2 : Safe Z consts_1 T8.vm h10 oc2 := Safe.ext E10 Ch8.1 Sf8_oc2
  have Sf10_b10 : Safe Z consts_1 T8.vm h10 b10 := Safe.ext E10 Ch8.1 (Safe.new (Nat.le_of_eq g10.symm))
  have hkk10 : T8.heap.size ≤ h10.size := Nat.le_trans (Nat.le_refl _) E10.1
  obtain ⟨_, _, ⟨T11, L11, k11, n11⟩, -, X11, ⟨Lc11, hQ11, l11, y11, z11⟩, st11⟩ := X10.specialBack hx (y := (⟨"com/example/known_origins/knownorigins/store/LoadCount", "<init>", "(Lcom/example/known_origins/knownorigins/store/IfStored;JJJJ)V"⟩ : MethodName)) rfl hown8 (mvT hZ8 (hw _ (M 227))) (mvT hZ8 (hw _ (M 10))) (mvT hZ8 (hw _ (M 11))) (by decide) (backOf (W := 1) ((lcInit l Z a0 hw b10 sk qg qt qk qd h10 n0 (Nat.le_trans Z0 K10.1) F_ifStored_b10 F_graphs_b10 F_triples_b10 F_skipped_b10 F_derived_b10 A10 g_b10) []) hZ8 (hw _ (M 11)) (hw _ (M 5)) (by decide) (by decide)) (g := (mkF m 162 #[.val (.int sel), .val (.long qg), .second, .val (.long qt), .second, .val (.long qk), .second, .val (.long qd), .second, .val (.int (1 : Int32)), .val (.int (1 : Int32)), .val (.ref sk), .val (.ref oc2), .val (.int (1 : Int32)), .val (.ref c7), .val (.int (1 : Int32)), .unset, .unset, .unset] [(.long qd), (.long qk), (.long qt), (.long qg), (.ref sk), (.ref b10), (.ref b10)])) rfl (by rw [hml]; rfl) (Steps.refl _) (a := b10) (argsL := [(.ref sk), (.long qg), (.long qt), (.long qk), (.long qd)]) (rest := [(.ref b10)]) (lenOf pd_oLcom_example_known_origins_knownorigins_store_IfStored_JJJJcV rfl) rfl (by show 2 * 0 + _ ≤ _; exact Nat.le_of_eq rfl) (hb hby at_162) (fun _ _ => ⟨rfl, e10, (by decide : 26 + 0 ≤ _), (by decide : 721 + 0 ≤ _)⟩)
  dsimp only [Pt.U, Pt.locs, Pt.cells, Pt.slots] at X11 l11 y11 z11 st11 hQ11
  subst l11 y11 z11
  obtain ⟨rfl, N11q, Kq11, Bq11⟩ := hQ11
  have K11 : Keep h0 T11.heap [] := K10.trans Kq11 (allS (Or.inr sz_b10) all0)
  have Ch11 : CHr Z consts_1 s.vm h0 T8.vm T11.heap := Ch10.trans (CHr.keep Kq11 (sfS Sf10_b10 sf0) Ch10.1)
  have Sf11_oc2 : Safe Z consts_1 T8.vm T11.heap oc2 := Safe.keep Kq11 (sfS Sf10_b10 sf0) Ch10.1 Sf10_oc2
  have Sf11_b10 : Safe Z consts_1 T8.vm T11.heap b10 := Safe.keep Kq11 (sfS Sf10_b10 sf0) Ch10.1 Sf10_b10
  have hkk11 : T8.heap.size ≤ T11.heap.size := Nat.le_trans hkk10 Kq11.1
  have N11 := Fr.app N9 N11q
  obtain ⟨cq12, kq12, q12a, q12b, q12c⟩ := isOf hZ8 rfl ((((Bq2.1.ext E7).keep Kq8).ext E10).keep Kq11)
  obtain ⟨_, _, ⟨T12, L12, k12, n12⟩, -, X12, ⟨Lc12, hQ12, l12, y12, z12⟩, st12⟩ := X11.virtualBack hx (y := (⟨"com/example/known_origins/knownorigins/store/LoadCount", "plus", "(Lcom/example/known_origins/knownorigins/store/LoadCount;)Lcom/example/known_origins/knownorigins/store/LoadCount;"⟩ : MethodName)) (z := (⟨"com/example/known_origins/knownorigins/store/LoadCount", "plus", "(Lcom/example/known_origins/knownorigins/store/LoadCount;)Lcom/example/known_origins/knownorigins/store/LoadCount;"⟩ : MethodName)) hown8 (mvT hZ8 (hw _ (M 228))) (mvT hZ8 (hw _ (M 229))) (notFace_of_selects (args := #[]) (mvT hZ8 (hw _ (M 231)))) (mvT hZ8 (hw _ (M 231))) (mvT hZ8 (hw _ (M 230))) (by decide) (backOf (W := 0) ((lcPlus l Z a0 hw oc2 b10 sk qg qt qk qd T11.heap n0 (Nat.le_trans Z0 K11.1) ⟨((((Bq2.1.ext E7).keep Kq8).ext E10).keep Kq11), ((((Bq2.2.1.ext E7).keep Kq8 nin0).ext E10).keep Kq11 (ninS ne_oc2_b10 nin0)), ((((Bq2.2.2.1.ext E7).keep Kq8 nin0).ext E10).keep Kq11 (ninS ne_oc2_b10 nin0)), ((((Bq2.2.2.2.1.ext E7).keep Kq8 nin0).ext E10).keep Kq11 (ninS ne_oc2_b10 nin0)), ((((Bq2.2.2.2.2.1.ext E7).keep Kq8 nin0).ext E10).keep Kq11 (ninS ne_oc2_b10 nin0)), ((((Bq2.2.2.2.2.2.ext E7).keep Kq8 nin0).ext E10).keep Kq11 (ninS ne_oc2_b10 nin0))⟩ ⟨Bq11.1, Bq11.2.1, Bq11.2.2.1, Bq11.2.2.2.1, Bq11.2.2.2.2.1, Bq11.2.2.2.2.2⟩) []) hZ8 (hw _ (M 232)) (hw _ (M 5)) (by decide) (by decide)) q12a q12c (g := (mkF m 171 #[.val (.int sel), .val (.long qg), .second, .val (.long qt), .second, .val (.long qk), .second, .val (.long qd), .second, .val (.int (1 : Int32)), .val (.int (1 : Int32)), .val (.ref sk), .val (.ref oc2), .val (.int (1 : Int32)), .val (.ref c7), .val (.int (1 : Int32)), .val (.ref b10), .unset, .unset] [(.ref b10), (.ref oc2)])) rfl (by rw [hml]; rfl) (Steps.refl _) (argsL := [(.ref b10)]) (rest := []) (lenOf pd_oLcom_example_known_origins_knownorigins_store_LoadCount_cLcom_example_known_origins_knownorigins_store_LoadCount_ rfl) rfl (by show 2 * 0 + _ ≤ _; exact Nat.le_of_eq rfl) (hb hby at_171) (fun _ _ => ⟨rfl, rfl, (by decide : 26 + 1 ≤ _), (by decide : 721 + 5 ≤ _)⟩)
  dsimp only [Pt.U, Pt.locs, Pt.cells, Pt.slots] at X12 l12 y12 z12 st12 hQ12
  subst l12 y12 z12
  have f13 := (own_arr_keep ((own_arr_keep ((own_arr_keep Ad Kq2 nin0).ext E7) Kq8 nin0).ext E10) Kq11 (ninS ne_d1_b10 nin0))
  obtain ⟨oc12, rfl, N12q, Kq12, sz12q, Bq12⟩ := hQ12
  have sz_oc12 : h0.size ≤ oc12 := Nat.le_trans K11.1 sz12q
  have g_oc12 : n0 ≤ oc12 := Nat.le_trans Z0 sz_oc12
  have ne_b10_oc12 : b10 ≠ oc12 := Nat.ne_of_lt (Nat.lt_of_lt_of_le Bq11.1.lt sz12q)
  have ne_c7_oc12 : c7 ≠ oc12 := Nat.ne_of_lt (Nat.lt_of_lt_of_le (((Es7.keep Kq8).ext E10).keep Kq11).lt sz12q)
  have ne_d1_oc12 : d1 ≠ oc12 := Nat.ne_of_lt (Nat.lt_of_lt_of_le f13.lt sz12q)
  have ne_oc2_oc12 : oc2 ≠ oc12 := Nat.ne_of_lt (Nat.lt_of_lt_of_le ((((Bq2.1.ext E7).keep Kq8).ext E10).keep Kq11).lt sz12q)
  have ne_os8_oc12 : os8 ≠ oc12 := Nat.ne_of_lt (Nat.lt_of_lt_of_le ((Tq8.1.ext E10).keep Kq11).lt sz12q)
  have ne_sb7_oc12 : sb7 ≠ oc12 := Nat.ne_of_lt (Nat.lt_of_lt_of_le (((Va7.keep Kq8 nin0).ext E10).keep Kq11 (ninS ne_sb7_b10 nin0)).lt sz12q)
  have ne_sr8_oc12 : sr8 ≠ oc12 := Nat.ne_of_lt (Nat.lt_of_lt_of_le ((Tq8.2.2.2.ext E10).keep Kq11 (ninS ne_sr8_b10 nin0)).lt sz12q)
  have K12 : Keep h0 T12.heap [] := K11.trans Kq12 all0
  have Ch12 : CHr Z consts_1 s.vm h0 T8.vm T12.heap := Ch11.trans (CHr.keep Kq12 sf0 Ch11.1)
  have Sf12_oc2 : Safe Z consts_1 T8.vm T12.heap oc2 := Safe.keep Kq12 sf0 Ch11.1 Sf11_oc2
  have Sf12_b10 : Safe Z consts_1 T8.vm T12.heap b10 := Safe.keep Kq12 sf0 Ch11.1 Sf11_b10
  have Sf12_oc12 : Safe Z consts_1 T8.vm T12.heap oc12 := Safe.keep Kq12 sf0 Ch11.1 (Safe.new sz12q)
  have hkk12 : T8.heap.size ≤ T12.heap.size := Nat.le_trans hkk11 Kq12.1
  have N12 := Fr.app N11 N12q
  obtain ⟨cq14, kq14, q14a, q14b, q14c⟩ := isOf hZ8 rfl Bq12.1
  obtain ⟨_, _, ⟨T14, L14, k14, n14⟩, -, X14, ⟨Lc14, hQ14, l14, y14, z14⟩, st14⟩ := X12.virtualBack hx (y := (⟨"com/example/known_origins/knownorigins/store/LoadCount", "graphs", "()J"⟩ : MethodName)) (z := (⟨"com/example/known_origins/knownorigins/store/LoadCount", "graphs", "()J"⟩ : MethodName)) hown8 (mvT hZ8 (hw _ (M 25))) (mvT hZ8 (hw _ (M 26))) (notFace_of_selects (args := #[]) (mvT hZ8 (hw _ (M 28)))) (mvT hZ8 (hw _ (M 28))) (mvT hZ8 (hw _ (M 27))) (by decide) (backOf (W := 0) ((lc_graphs l Z a0 hw oc12 sk qg qt qk qd T12.heap n0 (Nat.le_trans Z0 K12.1) ⟨Bq12.1, Bq12.2.1, Bq12.2.2.1, Bq12.2.2.2.1, Bq12.2.2.2.2.1, Bq12.2.2.2.2.2⟩) []) hZ8 (hw _ (M 29)) (hw _ (M 5)) (by decide) (by decide)) q14a q14c (g := (mkF m 178 #[.val (.int sel), .val (.long qg), .second, .val (.long qt), .second, .val (.long qk), .second, .val (.long qd), .second, .val (.int (1 : Int32)), .val (.int (1 : Int32)), .val (.ref sk), .val (.ref oc2), .val (.int (1 : Int32)), .val (.ref c7), .val (.int (1 : Int32)), .val (.ref b10), .val (.ref oc12), .unset] [(.ref oc12)])) rfl (by rw [hml]; rfl) (Steps.refl _) (argsL := []) (rest := []) (lenOf pd_ocJ rfl) rfl (by show 2 * 0 + _ ≤ _; exact Nat.le_of_eq rfl) (hb hby at_178) (fun _ _ => ⟨rfl, rfl, (by decide : 27 + 0 ≤ _), (by decide : 726 + 0 ≤ _)⟩)
  dsimp only [Pt.U, Pt.locs, Pt.cells, Pt.slots] at X14 l14 y14 z14 st14 hQ14
  subst l14 y14 z14
  obtain ⟨rfl, N14q, e14⟩ := hQ14
  have N14 := Fr.app N12 N14q
  obtain ⟨cq15, kq15, q15a, q15b, q15c⟩ := isOf hZ8 e14 Bq12.1
  obtain ⟨_, _, ⟨T15, L15, k15, n15⟩, -, X15, ⟨Lc15, hQ15, l15, y15, z15⟩, st15⟩ := X14.virtualBack hx (y := (⟨"com/example/known_origins/knownorigins/store/LoadCount", "triples", "()J"⟩ : MethodName)) (z := (⟨"com/example/known_origins/knownorigins/store/LoadCount", "triples", "()J"⟩ : MethodName)) hown8 (mvT hZ8 (hw _ (M 30))) (mvT hZ8 (hw _ (M 31))) (notFace_of_selects (args := #[]) (mvT hZ8 (hw _ (M 33)))) (mvT hZ8 (hw _ (M 33))) (mvT hZ8 (hw _ (M 32))) (by decide) (backOf (W := 0) ((lc_triples l Z a0 hw oc12 sk qg qt qk qd T12.heap n0 (Nat.le_trans Z0 K12.1) ⟨Bq12.1, Bq12.2.1, Bq12.2.2.1, Bq12.2.2.2.1, Bq12.2.2.2.2.1, Bq12.2.2.2.2.2⟩) []) hZ8 (hw _ (M 34)) (hw _ (M 5)) (by decide) (by decide)) q15a q15c (g := (mkF m 188 #[.val (.int sel), .val (.long qg), .second, .val (.long qt), .second, .val (.long qk), .second, .val (.long qd), .second, .val (.int (1 : Int32)), .val (.int (1 : Int32)), .val (.ref sk), .val (.ref oc2), .val (.int (1 : Int32)), .val (.ref c7), .val (.int (1 : Int32)), .val (.ref b10), .val (.ref oc12), .unset] [(.ref oc12)])) rfl (by rw [hml]; rfl) (Steps.refl _) (argsL := []) (rest := []) (lenOf pd_ocJ rfl) rfl (by show 2 * 0 + _ ≤ _; exact Nat.le_of_eq rfl) (hb hby at_188) (fun _ _ => ⟨rfl, e14, (by decide : 27 + 0 ≤ _), (by decide : 726 + 0 ≤ _)⟩)
  dsimp only [Pt.U, Pt.locs, Pt.cells, Pt.slots] at X15 l15 y15 z15 st15 hQ15
  subst l15 y15 z15
  obtain ⟨rfl, N15q, e15⟩ := hQ15
  have N15 := Fr.app N14 N15q
  obtain ⟨cq16, kq16, q16a, q16b, q16c⟩ := isOf hZ8 e15 Bq12.1
  obtain ⟨_, _, ⟨T16, L16, k16, n16⟩, -, X16, ⟨Lc16, hQ16, l16, y16, z16⟩, st16⟩ := X15.virtualBack hx (y := (⟨"com/example/known_origins/knownorigins/store/LoadCount", "skipped", "()J"⟩ : MethodName)) (z := (⟨"com/example/known_origins/knownorigins/store/LoadCount", "skipped", "()J"⟩ : MethodName)) hown8 (mvT hZ8 (hw _ (M 35))) (mvT hZ8 (hw _ (M 36))) (notFace_of_selects (args := #[]) (mvT hZ8 (hw _ (M 38)))) (mvT hZ8 (hw _ (M 38))) (mvT hZ8 (hw _ (M 37))) (by decide) (backOf (W := 0) ((lc_skipped l Z a0 hw oc12 sk qg qt qk qd T12.heap n0 (Nat.le_trans Z0 K12.1) ⟨Bq12.1, Bq12.2.1, Bq12.2.2.1, Bq12.2.2.2.1, Bq12.2.2.2.2.1, Bq12.2.2.2.2.2⟩) []) hZ8 (hw _ (M 39)) (hw _ (M 5)) (by decide) (by decide)) q16a q16c (g := (mkF m 198 #[.val (.int sel), .val (.long qg), .second, .val (.long qt), .second, .val (.long qk), .second, .val (.long qd), .second, .val (.int (1 : Int32)), .val (.int (1 : Int32)), .val (.ref sk), .val (.ref oc2), .val (.int (1 : Int32)), .val (.ref c7), .val (.int (1 : Int32)), .val (.ref b10), .val (.ref oc12), .unset] [(.ref oc12)])) rfl (by rw [hml]; rfl) (Steps.refl _) (argsL := []) (rest := []) (lenOf pd_ocJ rfl) rfl (by show 2 * 0 + _ ≤ _; exact Nat.le_of_eq rfl) (hb hby at_198) (fun _ _ => ⟨rfl, e15, (by decide : 27 + 0 ≤ _), (by decide : 726 + 0 ≤ _)⟩)
  dsimp only [Pt.U, Pt.locs, Pt.cells, Pt.slots] at X16 l16 y16 z16 st16 hQ16
  subst l16 y16 z16
  obtain ⟨rfl, N16q, e16⟩ := hQ16
  have N16 := Fr.app N15 N16q
  obtain ⟨cq17, kq17, q17a, q17b, q17c⟩ := isOf hZ8 e16 Bq12.1
  obtain ⟨_, _, ⟨T17, L17, k17, n17⟩, -, X17, ⟨Lc17, hQ17, l17, y17, z17⟩, st17⟩ := X16.virtualBack hx (y := (⟨"com/example/known_origins/knownorigins/store/LoadCount", "derived", "()J"⟩ : MethodName)) (z := (⟨"com/example/known_origins/knownorigins/store/LoadCount", "derived", "()J"⟩ : MethodName)) hown8 (mvT hZ8 (hw _ (M 40))) (mvT hZ8 (hw _ (M 41))) (notFace_of_selects (args := #[]) (mvT hZ8 (hw _ (M 43)))) (mvT hZ8 (hw _ (M 43))) (mvT hZ8 (hw _ (M 42))) (by decide) (backOf (W := 0) ((lc_derived l Z a0 hw oc12 sk qg qt qk qd T12.heap n0 (Nat.le_trans Z0 K12.1) ⟨Bq12.1, Bq12.2.1, Bq12.2.2.1, Bq12.2.2.2.1, Bq12.2.2.2.2.1, Bq12.2.2.2.2.2⟩) []) hZ8 (hw _ (M 44)) (hw _ (M 5)) (by decide) (by decide)) q17a q17c (g := (mkF m 209 #[.val (.int sel), .val (.long qg), .second, .val (.long qt), .second, .val (.long qk), .second, .val (.long qd), .second, .val (.int (1 : Int32)), .val (.int (1 : Int32)), .val (.ref sk), .val (.ref oc2), .val (.int (1 : Int32)), .val (.ref c7), .val (.int (1 : Int32)), .val (.ref b10), .val (.ref oc12), .unset] [(.ref oc12)])) rfl (by rw [hml]; rfl) (Steps.refl _) (argsL := []) (rest := []) (lenOf pd_ocJ rfl) rfl (by show 2 * 0 + _ ≤ _; exact Nat.le_of_eq rfl) (hb hby at_209) (fun _ _ => ⟨rfl, e16, (by decide : 27 + 0 ≤ _), (by decide : 726 + 0 ≤ _)⟩)
  dsimp only [Pt.U, Pt.locs, Pt.cells, Pt.slots] at X17 l17 y17 z17 st17 hQ17
  subst l17 y17 z17
  obtain ⟨rfl, N17q, e17⟩ := hQ17
  have N17 := Fr.app N16 N17q
  obtain ⟨fs, hr, hrun, hended, hret, hW, hnew, hsame⟩ := X17.leaveW hS8 (by rw [e17]; exact hkk12) (v := some (.int (1 : Int32))) (fun h => by rw [Bd.returns] at h; cases h)
  refine ⟨_, _, pre0 _ ?_, hrun, hended, _, _, rfl, ?_, ?_, hret, hW, hnew, hsame.mono (by decide) (by decide)⟩
  · show Steps p.tables e below (s₁.setTop (mkF m 0 #[.val (.int sel), .val (.long qg), .second, .val (.long qt), .second, .val (.long qk), .second, .val (.long qd), .second, .unset, .unset, .unset, .unset, .unset, .unset, .unset, .unset, .unset, .unset] [])) _
    refine XS.iloadN X0.here hx rfl (hb hby at_0) rfl ?_
    refine XS.iconst X0.here hx rfl (hb hby at_1) ?_
    refine XS.iand X0.here hx rfl (hb hby at_2) rfl ?_
    show Steps p.tables e below (s₁.setTop (mkF m 3 #[.val (.int sel), .val (.long qg), .second, .val (.long qt), .second, .val (.long qk), .second, .val (.long qd), .second, .unset, .unset, .unset, .unset, .unset, .unset, .unset, .unset, .unset, .unset] [(.int (sel &&& (1 : Int32)))])) _
    refine XS.ifNo X0.here hx rfl (hb hby at_3) rfl ((if0 _ _).trans (feq hc3).1) ?_
    show Steps p.tables e below (s₁.setTop (mkF m 6 #[.val (.int sel), .val (.long qg), .second, .val (.long qt), .second, .val (.long qk), .second, .val (.long qd), .second, .unset, .unset, .unset, .unset, .unset, .unset, .unset, .unset, .unset, .unset] [])) _
    refine XS.iconst X0.here hx rfl (hb hby at_6) ?_
    refine XS.goto X0.here hx rfl (pc0 := 7) (pc' := 11) rfl (hb hby at_7) (by decide) (by decide) ?_
    show Steps p.tables e below (s₁.setTop (mkF m 11 #[.val (.int sel), .val (.long qg), .second, .val (.long qt), .second, .val (.long qk), .second, .val (.long qd), .second, .unset, .unset, .unset, .unset, .unset, .unset, .unset, .unset, .unset, .unset] [(.int (1 : Int32))])) _
    refine XS.istore X0.here hx rfl (hb hby at_11) rfl (l' := #[.val (.int sel), .val (.long qg), .second, .val (.long qt), .second, .val (.long qk), .second, .val (.long qd), .second, .val (.int (1 : Int32)), .unset, .unset, .unset, .unset, .unset, .unset, .unset, .unset, .unset]) rfl ?_
    show Steps p.tables e below (s₁.setTop (mkF m 13 #[.val (.int sel), .val (.long qg), .second, .val (.long qt), .second, .val (.long qk), .second, .val (.long qd), .second, .val (.int (1 : Int32)), .unset, .unset, .unset, .unset, .unset, .unset, .unset, .unset, .unset] [])) _
    refine XS.iloadN X0.here hx rfl (hb hby at_13) rfl ?_
    refine XS.iconst X0.here hx rfl (hb hby at_14) ?_
    refine XS.iand X0.here hx rfl (hb hby at_15) rfl ?_
    show Steps p.tables e below (s₁.setTop (mkF m 16 #[.val (.int sel), .val (.long qg), .second, .val (.long qt), .second, .val (.long qk), .second, .val (.long qd), .second, .val (.int (1 : Int32)), .unset, .unset, .unset, .unset, .unset, .unset, .unset, .unset, .unset] [(.int (sel &&& (2 : Int32)))])) _
    refine XS.ifNo X0.here hx rfl (hb hby at_16) rfl ((if0 _ _).trans (feq hc16).1) ?_
    show Steps p.tables e below (s₁.setTop (mkF m 19 #[.val (.int sel), .val (.long qg), .second, .val (.long qt), .second, .val (.long qk), .second, .val (.long qd), .second, .val (.int (1 : Int32)), .unset, .unset, .unset, .unset, .unset, .unset, .unset, .unset, .unset] [])) _
    refine XS.iconst X0.here hx rfl (hb hby at_19) ?_
    refine XS.goto X0.here hx rfl (pc0 := 20) (pc' := 24) rfl (hb hby at_20) (by decide) (by decide) ?_
    show Steps p.tables e below (s₁.setTop (mkF m 24 #[.val (.int sel), .val (.long qg), .second, .val (.long qt), .second, .val (.long qk), .second, .val (.long qd), .second, .val (.int (1 : Int32)), .unset, .unset, .unset, .unset, .unset, .unset, .unset, .unset, .unset] [(.int (1 : Int32))])) _
    refine XS.istore X0.here hx rfl (hb hby at_24) rfl (l' := #[.val (.int sel), .val (.long qg), .second, .val (.long qt), .second, .val (.long qk), .second, .val (.long qd), .second, .val (.int (1 : Int32)), .val (.int (1 : Int32)), .unset, .unset, .unset, .unset, .unset, .unset, .unset, .unset]) rfl ?_
    show Steps p.tables e below (s₁.setTop (mkF m 26 #[.val (.int sel), .val (.long qg), .second, .val (.long qt), .second, .val (.long qk), .second, .val (.long qd), .second, .val (.int (1 : Int32)), .val (.int (1 : Int32)), .unset, .unset, .unset, .unset, .unset, .unset, .unset, .unset] [])) _
    refine XS.iload X0.here hx rfl (hb hby at_26) rfl ?_
    refine XS.ifNo X0.here hx rfl (hb hby at_28) rfl ((if0 _ _).trans (feq (by decide : ¬ ((1 : Int32) = (0 : Int32)))).1) ?_
    show Steps p.tables e below (s₁.setTop (mkF m 31 #[.val (.int sel), .val (.long qg), .second, .val (.long qt), .second, .val (.long qk), .second, .val (.long qd), .second, .val (.int (1 : Int32)), .val (.int (1 : Int32)), .unset, .unset, .unset, .unset, .unset, .unset, .unset, .unset] [])) _
    refine st1 _ ?_
    show Steps p.tables e below (T1.setTop (mkF m 34 #[.val (.int sel), .val (.long qg), .second, .val (.long qt), .second, .val (.long qk), .second, .val (.long qd), .second, .val (.int (1 : Int32)), .val (.int (1 : Int32)), .unset, .unset, .unset, .unset, .unset, .unset, .unset, .unset] [(.ref sk)])) _
    refine XS.goto X1.here hx rfl (pc0 := 34) (pc' := 40) rfl (hb hby at_34) (by decide) (by decide) ?_
    show Steps p.tables e below (T1.setTop (mkF m 40 #[.val (.int sel), .val (.long qg), .second, .val (.long qt), .second, .val (.long qk), .second, .val (.long qd), .second, .val (.int (1 : Int32)), .val (.int (1 : Int32)), .unset, .unset, .unset, .unset, .unset, .unset, .unset, .unset] [(.ref sk)])) _
    refine XS.astore X1.here hx rfl (hb hby at_40) rfl rfl (l' := #[.val (.int sel), .val (.long qg), .second, .val (.long qt), .second, .val (.long qk), .second, .val (.long qd), .second, .val (.int (1 : Int32)), .val (.int (1 : Int32)), .val (.ref sk), .unset, .unset, .unset, .unset, .unset, .unset, .unset]) rfl ?_
    show Steps p.tables e below (T1.setTop (mkF m 42 #[.val (.int sel), .val (.long qg), .second, .val (.long qt), .second, .val (.long qk), .second, .val (.long qd), .second, .val (.int (1 : Int32)), .val (.int (1 : Int32)), .val (.ref sk), .unset, .unset, .unset, .unset, .unset, .unset, .unset] [])) _
    refine XS.aload X1.here hx rfl (hb hby at_42) rfl rfl ?_
    refine st2 _ ?_
    show Steps p.tables e below (T2.setTop (mkF m 47 #[.val (.int sel), .val (.long qg), .second, .val (.long qt), .second, .val (.long qk), .second, .val (.long qd), .second, .val (.int (1 : Int32)), .val (.int (1 : Int32)), .val (.ref sk), .unset, .unset, .unset, .unset, .unset, .unset, .unset] [(.ref oc2)])) _
    refine XS.astore X2.here hx rfl (hb hby at_47) rfl rfl (l' := #[.val (.int sel), .val (.long qg), .second, .val (.long qt), .second, .val (.long qk), .second, .val (.long qd), .second, .val (.int (1 : Int32)), .val (.int (1 : Int32)), .val (.ref sk), .val (.ref oc2), .unset, .unset, .unset, .unset, .unset, .unset]) rfl ?_
    show Steps p.tables e below (T2.setTop (mkF m 49 #[.val (.int sel), .val (.long qg), .second, .val (.long qt), .second, .val (.long qk), .second, .val (.long qd), .second, .val (.int (1 : Int32)), .val (.int (1 : Int32)), .val (.ref sk), .val (.ref oc2), .unset, .unset, .unset, .unset, .unset, .unset] [])) _
    refine XS.aload X2.here hx rfl (hb hby at_49) rfl rfl ?_
    refine st3.trans ?_
    show Steps p.tables e below (T3.setTop (mkF m 54 #[.val (.int sel), .val (.long qg), .second, .val (.long qt), .second, .val (.long qk), .second, .val (.long qd), .second, .val (.int (1 : Int32)), .val (.int (1 : Int32)), .val (.ref sk), .val (.ref oc2), .unset, .unset, .unset, .unset, .unset, .unset] [(.long (0 : Int64))])) _
    refine XS.lconst X3.here hx rfl (hb hby at_54) ?_
    refine XS.lcmp X3.here hx rfl (hb hby at_55) rfl ?_
    show Steps p.tables e below (T3.setTop (mkF m 56 #[.val (.int sel), .val (.long qg), .second, .val (.long qt), .second, .val (.long qk), .second, .val (.long qd), .second, .val (.int (1 : Int32)), .val (.int (1 : Int32)), .val (.ref sk), .val (.ref oc2), .unset, .unset, .unset, .unset, .unset, .unset] [(.int (lcmpW (0 : Int64) (0 : Int64)))])) _
    rw [(by decide : (lcmpW (0 : Int64) (0 : Int64)) = (0 : Int32))]
    show Steps p.tables e below (T3.setTop (mkF m 56 #[.val (.int sel), .val (.long qg), .second, .val (.long qt), .second, .val (.long qk), .second, .val (.long qd), .second, .val (.int (1 : Int32)), .val (.int (1 : Int32)), .val (.ref sk), .val (.ref oc2), .unset, .unset, .unset, .unset, .unset, .unset] [(.int (0 : Int32))])) _
    refine XS.ifNo X3.here hx rfl (hb hby at_56) rfl ((if0 _ _).trans (teq (by decide : (0 : Int32) = (0 : Int32))).2) ?_
    show Steps p.tables e below (T3.setTop (mkF m 59 #[.val (.int sel), .val (.long qg), .second, .val (.long qt), .second, .val (.long qk), .second, .val (.long qd), .second, .val (.int (1 : Int32)), .val (.int (1 : Int32)), .val (.ref sk), .val (.ref oc2), .unset, .unset, .unset, .unset, .unset, .unset] [])) _
    refine XS.aload X3.here hx rfl (hb hby at_59) rfl rfl ?_
    refine st4.trans ?_
    show Steps p.tables e below (T4.setTop (mkF m 64 #[.val (.int sel), .val (.long qg), .second, .val (.long qt), .second, .val (.long qk), .second, .val (.long qd), .second, .val (.int (1 : Int32)), .val (.int (1 : Int32)), .val (.ref sk), .val (.ref oc2), .unset, .unset, .unset, .unset, .unset, .unset] [(.long (0 : Int64))])) _
    refine XS.lconst X4.here hx rfl (hb hby at_64) ?_
    refine XS.lcmp X4.here hx rfl (hb hby at_65) rfl ?_
    show Steps p.tables e below (T4.setTop (mkF m 66 #[.val (.int sel), .val (.long qg), .second, .val (.long qt), .second, .val (.long qk), .second, .val (.long qd), .second, .val (.int (1 : Int32)), .val (.int (1 : Int32)), .val (.ref sk), .val (.ref oc2), .unset, .unset, .unset, .unset, .unset, .unset] [(.int (lcmpW (0 : Int64) (0 : Int64)))])) _
    rw [(by decide : (lcmpW (0 : Int64) (0 : Int64)) = (0 : Int32))]
    show Steps p.tables e below (T4.setTop (mkF m 66 #[.val (.int sel), .val (.long qg), .second, .val (.long qt), .second, .val (.long qk), .second, .val (.long qd), .second, .val (.int (1 : Int32)), .val (.int (1 : Int32)), .val (.ref sk), .val (.ref oc2), .unset, .unset, .unset, .unset, .unset, .unset] [(.int (0 : Int32))])) _
    refine XS.ifNo X4.here hx rfl (hb hby at_66) rfl ((if0 _ _).trans (teq (by decide : (0 : Int32) = (0 : Int32))).2) ?_
    show Steps p.tables e below (T4.setTop (mkF m 69 #[.val (.int sel), .val (.long qg), .second, .val (.long qt), .second, .val (.long qk), .second, .val (.long qd), .second, .val (.int (1 : Int32)), .val (.int (1 : Int32)), .val (.ref sk), .val (.ref oc2), .unset, .unset, .unset, .unset, .unset, .unset] [])) _
    refine XS.aload X4.here hx rfl (hb hby at_69) rfl rfl ?_
    refine st5.trans ?_
    show Steps p.tables e below (T5.setTop (mkF m 74 #[.val (.int sel), .val (.long qg), .second, .val (.long qt), .second, .val (.long qk), .second, .val (.long qd), .second, .val (.int (1 : Int32)), .val (.int (1 : Int32)), .val (.ref sk), .val (.ref oc2), .unset, .unset, .unset, .unset, .unset, .unset] [(.long (0 : Int64))])) _
    refine XS.lconst X5.here hx rfl (hb hby at_74) ?_
    refine XS.lcmp X5.here hx rfl (hb hby at_75) rfl ?_
    show Steps p.tables e below (T5.setTop (mkF m 76 #[.val (.int sel), .val (.long qg), .second, .val (.long qt), .second, .val (.long qk), .second, .val (.long qd), .second, .val (.int (1 : Int32)), .val (.int (1 : Int32)), .val (.ref sk), .val (.ref oc2), .unset, .unset, .unset, .unset, .unset, .unset] [(.int (lcmpW (0 : Int64) (0 : Int64)))])) _
    rw [(by decide : (lcmpW (0 : Int64) (0 : Int64)) = (0 : Int32))]
    show Steps p.tables e below (T5.setTop (mkF m 76 #[.val (.int sel), .val (.long qg), .second, .val (.long qt), .second, .val (.long qk), .second, .val (.long qd), .second, .val (.int (1 : Int32)), .val (.int (1 : Int32)), .val (.ref sk), .val (.ref oc2), .unset, .unset, .unset, .unset, .unset, .unset] [(.int (0 : Int32))])) _
    refine XS.ifNo X5.here hx rfl (hb hby at_76) rfl ((if0 _ _).trans (teq (by decide : (0 : Int32) = (0 : Int32))).2) ?_
    show Steps p.tables e below (T5.setTop (mkF m 79 #[.val (.int sel), .val (.long qg), .second, .val (.long qt), .second, .val (.long qk), .second, .val (.long qd), .second, .val (.int (1 : Int32)), .val (.int (1 : Int32)), .val (.ref sk), .val (.ref oc2), .unset, .unset, .unset, .unset, .unset, .unset] [])) _
    refine XS.aload X5.here hx rfl (hb hby at_79) rfl rfl ?_
    refine st6.trans ?_
    show Steps p.tables e below (T6.setTop (mkF m 84 #[.val (.int sel), .val (.long qg), .second, .val (.long qt), .second, .val (.long qk), .second, .val (.long qd), .second, .val (.int (1 : Int32)), .val (.int (1 : Int32)), .val (.ref sk), .val (.ref oc2), .unset, .unset, .unset, .unset, .unset, .unset] [(.long (0 : Int64))])) _
    refine XS.lconst X6.here hx rfl (hb hby at_84) ?_
    refine XS.lcmp X6.here hx rfl (hb hby at_85) rfl ?_
    show Steps p.tables e below (T6.setTop (mkF m 86 #[.val (.int sel), .val (.long qg), .second, .val (.long qt), .second, .val (.long qk), .second, .val (.long qd), .second, .val (.int (1 : Int32)), .val (.int (1 : Int32)), .val (.ref sk), .val (.ref oc2), .unset, .unset, .unset, .unset, .unset, .unset] [(.int (lcmpW (0 : Int64) (0 : Int64)))])) _
    rw [(by decide : (lcmpW (0 : Int64) (0 : Int64)) = (0 : Int32))]
    show Steps p.tables e below (T6.setTop (mkF m 86 #[.val (.int sel), .val (.long qg), .second, .val (.long qt), .second, .val (.long qk), .second, .val (.long qd), .second, .val (.int (1 : Int32)), .val (.int (1 : Int32)), .val (.ref sk), .val (.ref oc2), .unset, .unset, .unset, .unset, .unset, .unset] [(.int (0 : Int32))])) _
    refine XS.ifNo X6.here hx rfl (hb hby at_86) rfl ((if0 _ _).trans (teq (by decide : (0 : Int32) = (0 : Int32))).2) ?_
    show Steps p.tables e below (T6.setTop (mkF m 89 #[.val (.int sel), .val (.long qg), .second, .val (.long qt), .second, .val (.long qk), .second, .val (.long qd), .second, .val (.int (1 : Int32)), .val (.int (1 : Int32)), .val (.ref sk), .val (.ref oc2), .unset, .unset, .unset, .unset, .unset, .unset] [])) _
    refine XS.iconst X6.here hx rfl (hb hby at_89) ?_
    refine XS.goto X6.here hx rfl (pc0 := 90) (pc' := 94) rfl (hb hby at_90) (by decide) (by decide) ?_
    show Steps p.tables e below (T6.setTop (mkF m 94 #[.val (.int sel), .val (.long qg), .second, .val (.long qt), .second, .val (.long qk), .second, .val (.long qd), .second, .val (.int (1 : Int32)), .val (.int (1 : Int32)), .val (.ref sk), .val (.ref oc2), .unset, .unset, .unset, .unset, .unset, .unset] [(.int (1 : Int32))])) _
    refine XS.istore X6.here hx rfl (hb hby at_94) rfl (l' := #[.val (.int sel), .val (.long qg), .second, .val (.long qt), .second, .val (.long qk), .second, .val (.long qd), .second, .val (.int (1 : Int32)), .val (.int (1 : Int32)), .val (.ref sk), .val (.ref oc2), .val (.int (1 : Int32)), .unset, .unset, .unset, .unset, .unset]) rfl ?_
    show Steps p.tables e below (T6.setTop (mkF m 96 #[.val (.int sel), .val (.long qg), .second, .val (.long qt), .second, .val (.long qk), .second, .val (.long qd), .second, .val (.int (1 : Int32)), .val (.int (1 : Int32)), .val (.ref sk), .val (.ref oc2), .val (.int (1 : Int32)), .unset, .unset, .unset, .unset, .unset] [])) _
    refine XS.iload X6.here hx rfl (hb hby at_96) rfl ?_
    refine XS.ifNo X6.here hx rfl (hb hby at_98) rfl ((if0 _ _).trans (feq (by decide : ¬ ((1 : Int32) = (0 : Int32)))).1) ?_
    show Steps p.tables e below (T6.setTop (mkF m 101 #[.val (.int sel), .val (.long qg), .second, .val (.long qt), .second, .val (.long qk), .second, .val (.long qd), .second, .val (.int (1 : Int32)), .val (.int (1 : Int32)), .val (.ref sk), .val (.ref oc2), .val (.int (1 : Int32)), .unset, .unset, .unset, .unset, .unset] [])) _
    refine XS.iload X6.here hx rfl (hb hby at_101) rfl ?_
    refine XS.ifNo X6.here hx rfl (hb hby at_103) rfl ((if0 _ _).trans (feq (by decide : ¬ ((1 : Int32) = (0 : Int32)))).1) ?_
    show Steps p.tables e below (T6.setTop (mkF m 106 #[.val (.int sel), .val (.long qg), .second, .val (.long qt), .second, .val (.long qk), .second, .val (.long qd), .second, .val (.int (1 : Int32)), .val (.int (1 : Int32)), .val (.ref sk), .val (.ref oc2), .val (.int (1 : Int32)), .unset, .unset, .unset, .unset, .unset] [])) _
    refine st7 _ ?_
    show Steps p.tables e below (T7.setTop (mkF m 108 #[.val (.int sel), .val (.long qg), .second, .val (.long qt), .second, .val (.long qk), .second, .val (.long qd), .second, .val (.int (1 : Int32)), .val (.int (1 : Int32)), .val (.ref sk), .val (.ref oc2), .val (.int (1 : Int32)), .unset, .unset, .unset, .unset, .unset] [(.ref c7)])) _
    refine XS.astore X7.here hx rfl (hb hby at_108) rfl rfl (l' := #[.val (.int sel), .val (.long qg), .second, .val (.long qt), .second, .val (.long qk), .second, .val (.long qd), .second, .val (.int (1 : Int32)), .val (.int (1 : Int32)), .val (.ref sk), .val (.ref oc2), .val (.int (1 : Int32)), .val (.ref c7), .unset, .unset, .unset, .unset]) rfl ?_
    show Steps p.tables e below (T7.setTop (mkF m 110 #[.val (.int sel), .val (.long qg), .second, .val (.long qt), .second, .val (.long qk), .second, .val (.long qd), .second, .val (.int (1 : Int32)), .val (.int (1 : Int32)), .val (.ref sk), .val (.ref oc2), .val (.int (1 : Int32)), .val (.ref c7), .unset, .unset, .unset, .unset] [])) _
    refine XS.goto X7.here hx rfl (pc0 := 110) (pc' := 136) rfl (hb hby at_110) (by decide) (by decide) ?_
    show Steps p.tables e below (T7.setTop (mkF m 136 #[.val (.int sel), .val (.long qg), .second, .val (.long qt), .second, .val (.long qk), .second, .val (.long qd), .second, .val (.int (1 : Int32)), .val (.int (1 : Int32)), .val (.ref sk), .val (.ref oc2), .val (.int (1 : Int32)), .val (.ref c7), .unset, .unset, .unset, .unset] [])) _
    refine XS.aload X7.here hx rfl (hb hby at_136) rfl rfl ?_
    refine XS.aload X7.here hx rfl (hb hby at_138) rfl rfl ?_
    refine XS.iload X7.here hx rfl (hb hby at_140) rfl ?_
    refine st8.trans ?_
    show Steps p.tables e below (T8.setTop (mkF m 145 #[.val (.int sel), .val (.long qg), .second, .val (.long qt), .second, .val (.long qk), .second, .val (.long qd), .second, .val (.int (1 : Int32)), .val (.int (1 : Int32)), .val (.ref sk), .val (.ref oc2), .val (.int (1 : Int32)), .val (.ref c7), .unset, .unset, .unset, .unset] [(.ref os8), (.ref c7)])) _
    refine st9.trans ?_
    show Steps p.tables e below (T9.setTop (mkF m 148 #[.val (.int sel), .val (.long qg), .second, .val (.long qt), .second, .val (.long qk), .second, .val (.long qd), .second, .val (.int (1 : Int32)), .val (.int (1 : Int32)), .val (.ref sk), .val (.ref oc2), .val (.int (1 : Int32)), .val (.ref c7), .unset, .unset, .unset, .unset] [(.int (1 : Int32))])) _
    refine XS.istore X9.here hx rfl (hb hby at_148) rfl (l' := #[.val (.int sel), .val (.long qg), .second, .val (.long qt), .second, .val (.long qk), .second, .val (.long qd), .second, .val (.int (1 : Int32)), .val (.int (1 : Int32)), .val (.ref sk), .val (.ref oc2), .val (.int (1 : Int32)), .val (.ref c7), .val (.int (1 : Int32)), .unset, .unset, .unset]) rfl ?_
    show Steps p.tables e below (T9.setTop (mkF m 150 #[.val (.int sel), .val (.long qg), .second, .val (.long qt), .second, .val (.long qk), .second, .val (.long qd), .second, .val (.int (1 : Int32)), .val (.int (1 : Int32)), .val (.ref sk), .val (.ref oc2), .val (.int (1 : Int32)), .val (.ref c7), .val (.int (1 : Int32)), .unset, .unset, .unset] [])) _
    refine st10 _ ?_
    show Steps p.tables e below (T10.setTop (mkF m 153 #[.val (.int sel), .val (.long qg), .second, .val (.long qt), .second, .val (.long qk), .second, .val (.long qd), .second, .val (.int (1 : Int32)), .val (.int (1 : Int32)), .val (.ref sk), .val (.ref oc2), .val (.int (1 : Int32)), .val (.ref c7), .val (.int (1 : Int32)), .unset, .unset, .unset] [(.ref b10)])) _
    refine XS.dup X10.here hx rfl (hb hby at_153) rfl rfl ?_
    refine XS.aload X10.here hx rfl (hb hby at_154) rfl rfl ?_
    refine XS.lloadN X10.here hx rfl (hb hby at_156) rfl ?_
    refine XS.lloadN X10.here hx rfl (hb hby at_157) rfl ?_
    show Steps p.tables e below (T10.setTop (mkF m 158 #[.val (.int sel), .val (.long qg), .second, .val (.long qt), .second, .val (.long qk), .second, .val (.long qd), .second, .val (.int (1 : Int32)), .val (.int (1 : Int32)), .val (.ref sk), .val (.ref oc2), .val (.int (1 : Int32)), .val (.ref c7), .val (.int (1 : Int32)), .unset, .unset, .unset] [(.long qt), (.long qg), (.ref sk), (.ref b10), (.ref b10)])) _
    refine XS.lload X10.here hx rfl (hb hby at_158) rfl ?_
    refine XS.lload X10.here hx rfl (hb hby at_160) rfl ?_
    refine st11.trans ?_
    show Steps p.tables e below (T11.setTop (mkF m 165 #[.val (.int sel), .val (.long qg), .second, .val (.long qt), .second, .val (.long qk), .second, .val (.long qd), .second, .val (.int (1 : Int32)), .val (.int (1 : Int32)), .val (.ref sk), .val (.ref oc2), .val (.int (1 : Int32)), .val (.ref c7), .val (.int (1 : Int32)), .unset, .unset, .unset] [(.ref b10)])) _
    refine XS.astore X11.here hx rfl (hb hby at_165) rfl rfl (l' := #[.val (.int sel), .val (.long qg), .second, .val (.long qt), .second, .val (.long qk), .second, .val (.long qd), .second, .val (.int (1 : Int32)), .val (.int (1 : Int32)), .val (.ref sk), .val (.ref oc2), .val (.int (1 : Int32)), .val (.ref c7), .val (.int (1 : Int32)), .val (.ref b10), .unset, .unset]) rfl ?_
    show Steps p.tables e below (T11.setTop (mkF m 167 #[.val (.int sel), .val (.long qg), .second, .val (.long qt), .second, .val (.long qk), .second, .val (.long qd), .second, .val (.int (1 : Int32)), .val (.int (1 : Int32)), .val (.ref sk), .val (.ref oc2), .val (.int (1 : Int32)), .val (.ref c7), .val (.int (1 : Int32)), .val (.ref b10), .unset, .unset] [])) _
    refine XS.aload X11.here hx rfl (hb hby at_167) rfl rfl ?_
    refine XS.aload X11.here hx rfl (hb hby at_169) rfl rfl ?_
    refine st12.trans ?_
    show Steps p.tables e below (T12.setTop (mkF m 174 #[.val (.int sel), .val (.long qg), .second, .val (.long qt), .second, .val (.long qk), .second, .val (.long qd), .second, .val (.int (1 : Int32)), .val (.int (1 : Int32)), .val (.ref sk), .val (.ref oc2), .val (.int (1 : Int32)), .val (.ref c7), .val (.int (1 : Int32)), .val (.ref b10), .unset, .unset] [(.ref oc12)])) _
    refine XS.astore X12.here hx rfl (hb hby at_174) rfl rfl (l' := #[.val (.int sel), .val (.long qg), .second, .val (.long qt), .second, .val (.long qk), .second, .val (.long qd), .second, .val (.int (1 : Int32)), .val (.int (1 : Int32)), .val (.ref sk), .val (.ref oc2), .val (.int (1 : Int32)), .val (.ref c7), .val (.int (1 : Int32)), .val (.ref b10), .val (.ref oc12), .unset]) rfl ?_
    show Steps p.tables e below (T12.setTop (mkF m 176 #[.val (.int sel), .val (.long qg), .second, .val (.long qt), .second, .val (.long qk), .second, .val (.long qd), .second, .val (.int (1 : Int32)), .val (.int (1 : Int32)), .val (.ref sk), .val (.ref oc2), .val (.int (1 : Int32)), .val (.ref c7), .val (.int (1 : Int32)), .val (.ref b10), .val (.ref oc12), .unset] [])) _
    refine XS.aload X12.here hx rfl (hb hby at_176) rfl rfl ?_
    refine st14.trans ?_
    show Steps p.tables e below (T14.setTop (mkF m 181 #[.val (.int sel), .val (.long qg), .second, .val (.long qt), .second, .val (.long qk), .second, .val (.long qd), .second, .val (.int (1 : Int32)), .val (.int (1 : Int32)), .val (.ref sk), .val (.ref oc2), .val (.int (1 : Int32)), .val (.ref c7), .val (.int (1 : Int32)), .val (.ref b10), .val (.ref oc12), .unset] [(.long qg)])) _
    refine XS.lloadN X14.here hx rfl (hb hby at_181) rfl ?_
    refine XS.lcmp X14.here hx rfl (hb hby at_182) rfl ?_
    show Steps p.tables e below (T14.setTop (mkF m 183 #[.val (.int sel), .val (.long qg), .second, .val (.long qt), .second, .val (.long qk), .second, .val (.long qd), .second, .val (.int (1 : Int32)), .val (.int (1 : Int32)), .val (.ref sk), .val (.ref oc2), .val (.int (1 : Int32)), .val (.ref c7), .val (.int (1 : Int32)), .val (.ref b10), .val (.ref oc12), .unset] [(.int (lcmpW qg qg))])) _
    rw [((lw_eq qg qg).mpr rfl)]
    show Steps p.tables e below (T14.setTop (mkF m 183 #[.val (.int sel), .val (.long qg), .second, .val (.long qt), .second, .val (.long qk), .second, .val (.long qd), .second, .val (.int (1 : Int32)), .val (.int (1 : Int32)), .val (.ref sk), .val (.ref oc2), .val (.int (1 : Int32)), .val (.ref c7), .val (.int (1 : Int32)), .val (.ref b10), .val (.ref oc12), .unset] [(.int (0 : Int32))])) _
    refine XS.ifNo X14.here hx rfl (hb hby at_183) rfl ((if0 _ _).trans (teq (by decide : (0 : Int32) = (0 : Int32))).2) ?_
    show Steps p.tables e below (T14.setTop (mkF m 186 #[.val (.int sel), .val (.long qg), .second, .val (.long qt), .second, .val (.long qk), .second, .val (.long qd), .second, .val (.int (1 : Int32)), .val (.int (1 : Int32)), .val (.ref sk), .val (.ref oc2), .val (.int (1 : Int32)), .val (.ref c7), .val (.int (1 : Int32)), .val (.ref b10), .val (.ref oc12), .unset] [])) _
    refine XS.aload X14.here hx rfl (hb hby at_186) rfl rfl ?_
    refine st15.trans ?_
    show Steps p.tables e below (T15.setTop (mkF m 191 #[.val (.int sel), .val (.long qg), .second, .val (.long qt), .second, .val (.long qk), .second, .val (.long qd), .second, .val (.int (1 : Int32)), .val (.int (1 : Int32)), .val (.ref sk), .val (.ref oc2), .val (.int (1 : Int32)), .val (.ref c7), .val (.int (1 : Int32)), .val (.ref b10), .val (.ref oc12), .unset] [(.long qt)])) _
    refine XS.lloadN X15.here hx rfl (hb hby at_191) rfl ?_
    refine XS.lcmp X15.here hx rfl (hb hby at_192) rfl ?_
    show Steps p.tables e below (T15.setTop (mkF m 193 #[.val (.int sel), .val (.long qg), .second, .val (.long qt), .second, .val (.long qk), .second, .val (.long qd), .second, .val (.int (1 : Int32)), .val (.int (1 : Int32)), .val (.ref sk), .val (.ref oc2), .val (.int (1 : Int32)), .val (.ref c7), .val (.int (1 : Int32)), .val (.ref b10), .val (.ref oc12), .unset] [(.int (lcmpW qt qt))])) _
    rw [((lw_eq qt qt).mpr rfl)]
    show Steps p.tables e below (T15.setTop (mkF m 193 #[.val (.int sel), .val (.long qg), .second, .val (.long qt), .second, .val (.long qk), .second, .val (.long qd), .second, .val (.int (1 : Int32)), .val (.int (1 : Int32)), .val (.ref sk), .val (.ref oc2), .val (.int (1 : Int32)), .val (.ref c7), .val (.int (1 : Int32)), .val (.ref b10), .val (.ref oc12), .unset] [(.int (0 : Int32))])) _
    refine XS.ifNo X15.here hx rfl (hb hby at_193) rfl ((if0 _ _).trans (teq (by decide : (0 : Int32) = (0 : Int32))).2) ?_
    show Steps p.tables e below (T15.setTop (mkF m 196 #[.val (.int sel), .val (.long qg), .second, .val (.long qt), .second, .val (.long qk), .second, .val (.long qd), .second, .val (.int (1 : Int32)), .val (.int (1 : Int32)), .val (.ref sk), .val (.ref oc2), .val (.int (1 : Int32)), .val (.ref c7), .val (.int (1 : Int32)), .val (.ref b10), .val (.ref oc12), .unset] [])) _
    refine XS.aload X15.here hx rfl (hb hby at_196) rfl rfl ?_
    refine st16.trans ?_
    show Steps p.tables e below (T16.setTop (mkF m 201 #[.val (.int sel), .val (.long qg), .second, .val (.long qt), .second, .val (.long qk), .second, .val (.long qd), .second, .val (.int (1 : Int32)), .val (.int (1 : Int32)), .val (.ref sk), .val (.ref oc2), .val (.int (1 : Int32)), .val (.ref c7), .val (.int (1 : Int32)), .val (.ref b10), .val (.ref oc12), .unset] [(.long qk)])) _
    refine XS.lload X16.here hx rfl (hb hby at_201) rfl ?_
    refine XS.lcmp X16.here hx rfl (hb hby at_203) rfl ?_
    show Steps p.tables e below (T16.setTop (mkF m 204 #[.val (.int sel), .val (.long qg), .second, .val (.long qt), .second, .val (.long qk), .second, .val (.long qd), .second, .val (.int (1 : Int32)), .val (.int (1 : Int32)), .val (.ref sk), .val (.ref oc2), .val (.int (1 : Int32)), .val (.ref c7), .val (.int (1 : Int32)), .val (.ref b10), .val (.ref oc12), .unset] [(.int (lcmpW qk qk))])) _
    rw [((lw_eq qk qk).mpr rfl)]
    show Steps p.tables e below (T16.setTop (mkF m 204 #[.val (.int sel), .val (.long qg), .second, .val (.long qt), .second, .val (.long qk), .second, .val (.long qd), .second, .val (.int (1 : Int32)), .val (.int (1 : Int32)), .val (.ref sk), .val (.ref oc2), .val (.int (1 : Int32)), .val (.ref c7), .val (.int (1 : Int32)), .val (.ref b10), .val (.ref oc12), .unset] [(.int (0 : Int32))])) _
    refine XS.ifNo X16.here hx rfl (hb hby at_204) rfl ((if0 _ _).trans (teq (by decide : (0 : Int32) = (0 : Int32))).2) ?_
    show Steps p.tables e below (T16.setTop (mkF m 207 #[.val (.int sel), .val (.long qg), .second, .val (.long qt), .second, .val (.long qk), .second, .val (.long qd), .second, .val (.int (1 : Int32)), .val (.int (1 : Int32)), .val (.ref sk), .val (.ref oc2), .val (.int (1 : Int32)), .val (.ref c7), .val (.int (1 : Int32)), .val (.ref b10), .val (.ref oc12), .unset] [])) _
    refine XS.aload X16.here hx rfl (hb hby at_207) rfl rfl ?_
    refine st17.trans ?_
    show Steps p.tables e below (T17.setTop (mkF m 212 #[.val (.int sel), .val (.long qg), .second, .val (.long qt), .second, .val (.long qk), .second, .val (.long qd), .second, .val (.int (1 : Int32)), .val (.int (1 : Int32)), .val (.ref sk), .val (.ref oc2), .val (.int (1 : Int32)), .val (.ref c7), .val (.int (1 : Int32)), .val (.ref b10), .val (.ref oc12), .unset] [(.long qd)])) _
    refine XS.lload X17.here hx rfl (hb hby at_212) rfl ?_
    refine XS.lcmp X17.here hx rfl (hb hby at_214) rfl ?_
    show Steps p.tables e below (T17.setTop (mkF m 215 #[.val (.int sel), .val (.long qg), .second, .val (.long qt), .second, .val (.long qk), .second, .val (.long qd), .second, .val (.int (1 : Int32)), .val (.int (1 : Int32)), .val (.ref sk), .val (.ref oc2), .val (.int (1 : Int32)), .val (.ref c7), .val (.int (1 : Int32)), .val (.ref b10), .val (.ref oc12), .unset] [(.int (lcmpW qd qd))])) _
    rw [((lw_eq qd qd).mpr rfl)]
    show Steps p.tables e below (T17.setTop (mkF m 215 #[.val (.int sel), .val (.long qg), .second, .val (.long qt), .second, .val (.long qk), .second, .val (.long qd), .second, .val (.int (1 : Int32)), .val (.int (1 : Int32)), .val (.ref sk), .val (.ref oc2), .val (.int (1 : Int32)), .val (.ref c7), .val (.int (1 : Int32)), .val (.ref b10), .val (.ref oc12), .unset] [(.int (0 : Int32))])) _
    refine XS.ifNo X17.here hx rfl (hb hby at_215) rfl ((if0 _ _).trans (teq (by decide : (0 : Int32) = (0 : Int32))).2) ?_
    show Steps p.tables e below (T17.setTop (mkF m 218 #[.val (.int sel), .val (.long qg), .second, .val (.long qt), .second, .val (.long qk), .second, .val (.long qd), .second, .val (.int (1 : Int32)), .val (.int (1 : Int32)), .val (.ref sk), .val (.ref oc2), .val (.int (1 : Int32)), .val (.ref c7), .val (.int (1 : Int32)), .val (.ref b10), .val (.ref oc12), .unset] [])) _
    refine XS.iconst X17.here hx rfl (hb hby at_218) ?_
    refine XS.goto X17.here hx rfl (pc0 := 219) (pc' := 223) rfl (hb hby at_219) (by decide) (by decide) ?_
    show Steps p.tables e below (T17.setTop (mkF m 223 #[.val (.int sel), .val (.long qg), .second, .val (.long qt), .second, .val (.long qk), .second, .val (.long qd), .second, .val (.int (1 : Int32)), .val (.int (1 : Int32)), .val (.ref sk), .val (.ref oc2), .val (.int (1 : Int32)), .val (.ref c7), .val (.int (1 : Int32)), .val (.ref b10), .val (.ref oc12), .unset] [(.int (1 : Int32))])) _
    refine XS.istore X17.here hx rfl (hb hby at_223) rfl (l' := #[.val (.int sel), .val (.long qg), .second, .val (.long qt), .second, .val (.long qk), .second, .val (.long qd), .second, .val (.int (1 : Int32)), .val (.int (1 : Int32)), .val (.ref sk), .val (.ref oc2), .val (.int (1 : Int32)), .val (.ref c7), .val (.int (1 : Int32)), .val (.ref b10), .val (.ref oc12), .val (.int (1 : Int32))]) rfl ?_
    show Steps p.tables e below (T17.setTop (mkF m 225 #[.val (.int sel), .val (.long qg), .second, .val (.long qt), .second, .val (.long qk), .second, .val (.long qd), .second, .val (.int (1 : Int32)), .val (.int (1 : Int32)), .val (.ref sk), .val (.ref oc2), .val (.int (1 : Int32)), .val (.ref c7), .val (.int (1 : Int32)), .val (.ref b10), .val (.ref oc12), .val (.int (1 : Int32))] [])) _
    refine XS.iload X17.here hx rfl (hb hby at_225) rfl ?_
    refine XS.ifNo X17.here hx rfl (hb hby at_227) rfl ((if0 _ _).trans (feq (by decide : ¬ ((1 : Int32) = (0 : Int32)))).1) ?_
    show Steps p.tables e below (T17.setTop (mkF m 230 #[.val (.int sel), .val (.long qg), .second, .val (.long qt), .second, .val (.long qk), .second, .val (.long qd), .second, .val (.int (1 : Int32)), .val (.int (1 : Int32)), .val (.ref sk), .val (.ref oc2), .val (.int (1 : Int32)), .val (.ref c7), .val (.int (1 : Int32)), .val (.ref b10), .val (.ref oc12), .val (.int (1 : Int32))] [])) _
    refine XS.iload X17.here hx rfl (hb hby at_230) rfl ?_
    refine XS.ifNo X17.here hx rfl (hb hby at_232) rfl ((if0 _ _).trans (feq (by decide : ¬ ((1 : Int32) = (0 : Int32)))).1) ?_
    show Steps p.tables e below (T17.setTop (mkF m 235 #[.val (.int sel), .val (.long qg), .second, .val (.long qt), .second, .val (.long qk), .second, .val (.long qd), .second, .val (.int (1 : Int32)), .val (.int (1 : Int32)), .val (.ref sk), .val (.ref oc2), .val (.int (1 : Int32)), .val (.ref c7), .val (.int (1 : Int32)), .val (.ref b10), .val (.ref oc12), .val (.int (1 : Int32))] [])) _
    refine XS.iload X17.here hx rfl (hb hby at_235) rfl ?_
    refine XS.ifNo X17.here hx rfl (hb hby at_237) rfl ((if0 _ _).trans (feq (by decide : ¬ ((1 : Int32) = (0 : Int32)))).1) ?_
    show Steps p.tables e below (T17.setTop (mkF m 240 #[.val (.int sel), .val (.long qg), .second, .val (.long qt), .second, .val (.long qk), .second, .val (.long qd), .second, .val (.int (1 : Int32)), .val (.int (1 : Int32)), .val (.ref sk), .val (.ref oc2), .val (.int (1 : Int32)), .val (.ref c7), .val (.int (1 : Int32)), .val (.ref b10), .val (.ref oc12), .val (.int (1 : Int32))] [])) _
    refine XS.iconst X17.here hx rfl (hb hby at_240) ?_
    refine XS.goto X17.here hx rfl (pc0 := 241) (pc' := 245) rfl (hb hby at_241) (by decide) (by decide) ?_
    show Steps p.tables e below (T17.setTop (mkF m 245 #[.val (.int sel), .val (.long qg), .second, .val (.long qt), .second, .val (.long qk), .second, .val (.long qd), .second, .val (.int (1 : Int32)), .val (.int (1 : Int32)), .val (.ref sk), .val (.ref oc2), .val (.int (1 : Int32)), .val (.ref c7), .val (.int (1 : Int32)), .val (.ref b10), .val (.ref oc12), .val (.int (1 : Int32))] [(.int (1 : Int32))])) _
    exact retN X17 hx (t := .boolean) Bd.returns (by simp) (hb hby at_245) hr
  · show (Q1 n0) _ T17.heap _
    rw [e17]
    exact ⟨rfl, N17⟩
  · show CHr Z consts_1 s.vm s.heap T17.vm T17.heap
    rw [hh, e17]
    exact Ch12.trans (CHv.at (s := s) (vm0 := T8.vm) X17 hZ8 (own_EW hw) Ch12.1)
set_option maxRecDepth 65536 in
set_option maxHeartbeats 40000000 in
theorem law_10 (l : Launch) (Z : State) (a0 : Array Value) (hw : ∀ d ∈ tables_1, d.before a0 Z = true) (sel : Int32) (qg qt qk qd : Int64) (sk re : Addr) (zc : Int32) (d1 : Addr) (cd : Cell) (h0 : Heap) (n0 : Nat) (Z0 : n0 ≤ h0.size) (S_SKIP : Sta Z h0 "com/example/known_origins/knownorigins/store/IfStored" "SKIP" "Lcom/example/known_origins/knownorigins/store/IfStored;" (.ref sk)) (S_REFUSE : Sta Z h0 "com/example/known_origins/knownorigins/store/IfStored" "REFUSE" "Lcom/example/known_origins/knownorigins/store/IfStored;" (.ref re)) (hrs : ¬ (re = sk)) (S_CS : Sta Z h0 "java/lang/String" "COMPACT_STRINGS" "Z" (.int zc)) (hz : ¬ (zc = (0 : Int32))) (S_D1 : Sta Z h0 "java/lang/Integer" "DigitOnes" "[B" (.ref d1)) (Ad : Arr Z h0 d1 cd .byte) (hind : ¬ ((0 : Int32) < 0 ∨ cd.slots.size ≤ (0 : Int32).toNatClampNeg)) (hatd : cd.slots[(0 : Int32).toNatClampNeg]? = some (.int (48 : Int32))) (hc3 : ¬ ((sel &&& (1 : Int32)) = (0 : Int32))) (hc16 : (sel &&& (2 : Int32)) = (0 : Int32)) :
    MH l Z x code maxLocals ret room_1 #[(.int sel), (.long qg), (.long qt), (.long qk), (.long qd)] h0 (Q1 n0) := by
  intro ws
  refine MetFree.of_bodySF (plainFor_of_name pn_0) hisR ?_
  intro p e s m args below meth c s₁ Bd hml0 hP hK
  obtain ⟨rfl, hZ, hh, hCH⟩ := hP
  have hx := Bd.exec
  have hby := Bd.bytes
  have hml : c.maxLocals = 19 := hml0
  have hown : s.vm.findClass "com/example/known_origins/knownorigins/store/LoadCountNonePinLaw" = some m.cls := findClass_of_methodNamed Bd.named
  have hnm := (name_of_methodNamed Bd.named Bd.method).1
  have X0 : Stand p l e room_1 s m #[(.int sel), (.long qg), (.long qt), (.long qk), (.long qd)] below meth c s₁ [] 0 0 := Stand.of_body Bd
  have e0 : s₁.heap = h0 := by rw [← hh, Bd.state]; rfl
  have N0 := Fr.nil n0
  have hSi : s.Since s.vm 0 := (State.WarmedH.refl s).since 0
  have Ch0 : CHr Z consts_1 s.vm h0 s.vm h0 := CHr.refl hCH
  have pre0 : ∀ t_, Steps p.tables e below (s₁.setTop (mkF m 0 #[.val (.int sel), .val (.long qg), .second, .val (.long qt), .second, .val (.long qk), .second, .val (.long qd), .second, .unset, .unset, .unset, .unset, .unset, .unset, .unset, .unset, .unset, .unset] [])) t_ → Steps p.tables e below (s₁.setTop (entryFrame m #[(.int sel), (.long qg), (.long qt), (.long qk), (.long qd)] maxLocals)) t_ := fun t_ k_ => castTop (ef_0 m sel qg qt qk qd) k_
  obtain ⟨T1, X1, e1, st1⟩ := getS2 X0 hx hZ hown (host := "") (Or.inl (hw _ (M 233))) Via.refl e0 S_SKIP (g := (mkF m 31 #[.val (.int sel), .val (.long qg), .second, .val (.long qt), .second, .val (.long qk), .second, .val (.long qd), .second, .val (.int (1 : Int32)), .val (.int (0 : Int32)), .unset, .unset, .unset, .unset, .unset, .unset, .unset, .unset] [])) rfl (hb hby at_31)
  obtain ⟨_, _, ⟨T2, L2, k2, n2⟩, -, X2, ⟨Lc2, hQ2, l2, y2, z2⟩, st2⟩ := Jvm.LawKit.callS X1 hx (y := (⟨"com/example/known_origins/knownorigins/store/LoadCount", "none", "(Lcom/example/known_origins/knownorigins/store/IfStored;)Lcom/example/known_origins/knownorigins/store/LoadCount;"⟩ : MethodName)) hown (mvT hZ (hw _ (M 3))) (mvT hZ (hw _ (M 4))) (mvT hZ (hw _ (M 5))) (mvT hZ (hw _ (M 6))) (by decide) (backOf (W := 0) ((lcNone l Z a0 hw sk h0 n0 (Nat.le_trans Z0 (Keep.refl h0 []).1)) []) hZ (hw _ (M 6)) (hw _ (M 5)) (by decide) (by decide)) (g := (mkF m 44 #[.val (.int sel), .val (.long qg), .second, .val (.long qt), .second, .val (.long qk), .second, .val (.long qd), .second, .val (.int (1 : Int32)), .val (.int (0 : Int32)), .val (.ref sk), .unset, .unset, .unset, .unset, .unset, .unset, .unset] [(.ref sk)])) rfl (by rw [hml]; rfl) (argsL := [(.ref sk)]) (rest := []) (lenOf pd_oLcom_example_known_origins_knownorigins_store_IfStored_cLcom_example_known_origins_knownorigins_store_LoadCount_ rfl) rfl (by show 2 * 0 + _ ≤ _; exact Nat.le_of_eq rfl) (hb hby at_44) (fun _ _ => ⟨rfl, e1, (by decide : 0 + 1 ≤ _), (by decide : 0 + 5 ≤ _)⟩)
  dsimp only [Pt.U, Pt.locs, Pt.cells, Pt.slots] at X2 l2 y2 z2 st2 hQ2
  subst l2 y2 z2
  obtain ⟨oc2, rfl, N2q, Kq2, sz2q, Bq2⟩ := hQ2
  have sz_oc2 : h0.size ≤ oc2 := Nat.le_trans (Keep.refl h0 []).1 sz2q
  have g_oc2 : n0 ≤ oc2 := Nat.le_trans Z0 sz_oc2
  have ne_d1_oc2 : d1 ≠ oc2 := Nat.ne_of_lt (Nat.lt_of_lt_of_le Ad.lt sz2q)
  have K2 : Keep h0 T2.heap [] := (Keep.refl h0 []).trans Kq2 all0
  have Ch2 : CHr Z consts_1 s.vm h0 s.vm T2.heap := Ch0.trans (CHr.keep Kq2 sf0 Ch0.1)
  have Sf2_oc2 : Safe Z consts_1 s.vm T2.heap oc2 := Safe.keep Kq2 sf0 Ch0.1 (Safe.new sz2q)
  have hkk2 : 0 ≤ T2.heap.size := Nat.le_trans (Nat.zero_le _) Kq2.1
  have N2 := Fr.app N0 N2q
  obtain ⟨cq3, kq3, q3a, q3b, q3c⟩ := isOf hZ rfl Bq2.1
  obtain ⟨_, _, ⟨T3, L3, k3, n3⟩, -, X3, ⟨Lc3, hQ3, l3, y3, z3⟩, st3⟩ := X2.virtualBack hx (y := (⟨"com/example/known_origins/knownorigins/store/LoadCount", "graphs", "()J"⟩ : MethodName)) (z := (⟨"com/example/known_origins/knownorigins/store/LoadCount", "graphs", "()J"⟩ : MethodName)) hown (mvT hZ (hw _ (M 25))) (mvT hZ (hw _ (M 26))) (notFace_of_selects (args := #[]) (mvT hZ (hw _ (M 28)))) (mvT hZ (hw _ (M 28))) (mvT hZ (hw _ (M 27))) (by decide) (backOf (W := 0) ((lc_graphs l Z a0 hw oc2 sk (0 : Int64) (0 : Int64) (0 : Int64) (0 : Int64) T2.heap n0 (Nat.le_trans Z0 K2.1) ⟨Bq2.1, Bq2.2.1, Bq2.2.2.1, Bq2.2.2.2.1, Bq2.2.2.2.2.1, Bq2.2.2.2.2.2⟩) []) hZ (hw _ (M 29)) (hw _ (M 5)) (by decide) (by decide)) q3a q3c (g := (mkF m 51 #[.val (.int sel), .val (.long qg), .second, .val (.long qt), .second, .val (.long qk), .second, .val (.long qd), .second, .val (.int (1 : Int32)), .val (.int (0 : Int32)), .val (.ref sk), .val (.ref oc2), .unset, .unset, .unset, .unset, .unset, .unset] [(.ref oc2)])) rfl (by rw [hml]; rfl) (Steps.refl _) (argsL := []) (rest := []) (lenOf pd_ocJ rfl) rfl (by show 2 * 0 + _ ≤ _; exact Nat.le_of_eq rfl) (hb hby at_51) (fun _ _ => ⟨rfl, rfl, (by decide : 1 + 0 ≤ _), (by decide : 5 + 0 ≤ _)⟩)
  dsimp only [Pt.U, Pt.locs, Pt.cells, Pt.slots] at X3 l3 y3 z3 st3 hQ3
  subst l3 y3 z3
  obtain ⟨rfl, N3q, e3⟩ := hQ3
  have N3 := Fr.app N2 N3q
  obtain ⟨cq4, kq4, q4a, q4b, q4c⟩ := isOf hZ e3 Bq2.1
  obtain ⟨_, _, ⟨T4, L4, k4, n4⟩, -, X4, ⟨Lc4, hQ4, l4, y4, z4⟩, st4⟩ := X3.virtualBack hx (y := (⟨"com/example/known_origins/knownorigins/store/LoadCount", "triples", "()J"⟩ : MethodName)) (z := (⟨"com/example/known_origins/knownorigins/store/LoadCount", "triples", "()J"⟩ : MethodName)) hown (mvT hZ (hw _ (M 30))) (mvT hZ (hw _ (M 31))) (notFace_of_selects (args := #[]) (mvT hZ (hw _ (M 33)))) (mvT hZ (hw _ (M 33))) (mvT hZ (hw _ (M 32))) (by decide) (backOf (W := 0) ((lc_triples l Z a0 hw oc2 sk (0 : Int64) (0 : Int64) (0 : Int64) (0 : Int64) T2.heap n0 (Nat.le_trans Z0 K2.1) ⟨Bq2.1, Bq2.2.1, Bq2.2.2.1, Bq2.2.2.2.1, Bq2.2.2.2.2.1, Bq2.2.2.2.2.2⟩) []) hZ (hw _ (M 34)) (hw _ (M 5)) (by decide) (by decide)) q4a q4c (g := (mkF m 61 #[.val (.int sel), .val (.long qg), .second, .val (.long qt), .second, .val (.long qk), .second, .val (.long qd), .second, .val (.int (1 : Int32)), .val (.int (0 : Int32)), .val (.ref sk), .val (.ref oc2), .unset, .unset, .unset, .unset, .unset, .unset] [(.ref oc2)])) rfl (by rw [hml]; rfl) (Steps.refl _) (argsL := []) (rest := []) (lenOf pd_ocJ rfl) rfl (by show 2 * 0 + _ ≤ _; exact Nat.le_of_eq rfl) (hb hby at_61) (fun _ _ => ⟨rfl, e3, (by decide : 1 + 0 ≤ _), (by decide : 5 + 0 ≤ _)⟩)
  dsimp only [Pt.U, Pt.locs, Pt.cells, Pt.slots] at X4 l4 y4 z4 st4 hQ4
  subst l4 y4 z4
  obtain ⟨rfl, N4q, e4⟩ := hQ4
  have N4 := Fr.app N3 N4q
  obtain ⟨cq5, kq5, q5a, q5b, q5c⟩ := isOf hZ e4 Bq2.1
  obtain ⟨_, _, ⟨T5, L5, k5, n5⟩, -, X5, ⟨Lc5, hQ5, l5, y5, z5⟩, st5⟩ := X4.virtualBack hx (y := (⟨"com/example/known_origins/knownorigins/store/LoadCount", "skipped", "()J"⟩ : MethodName)) (z := (⟨"com/example/known_origins/knownorigins/store/LoadCount", "skipped", "()J"⟩ : MethodName)) hown (mvT hZ (hw _ (M 35))) (mvT hZ (hw _ (M 36))) (notFace_of_selects (args := #[]) (mvT hZ (hw _ (M 38)))) (mvT hZ (hw _ (M 38))) (mvT hZ (hw _ (M 37))) (by decide) (backOf (W := 0) ((lc_skipped l Z a0 hw oc2 sk (0 : Int64) (0 : Int64) (0 : Int64) (0 : Int64) T2.heap n0 (Nat.le_trans Z0 K2.1) ⟨Bq2.1, Bq2.2.1, Bq2.2.2.1, Bq2.2.2.2.1, Bq2.2.2.2.2.1, Bq2.2.2.2.2.2⟩) []) hZ (hw _ (M 39)) (hw _ (M 5)) (by decide) (by decide)) q5a q5c (g := (mkF m 71 #[.val (.int sel), .val (.long qg), .second, .val (.long qt), .second, .val (.long qk), .second, .val (.long qd), .second, .val (.int (1 : Int32)), .val (.int (0 : Int32)), .val (.ref sk), .val (.ref oc2), .unset, .unset, .unset, .unset, .unset, .unset] [(.ref oc2)])) rfl (by rw [hml]; rfl) (Steps.refl _) (argsL := []) (rest := []) (lenOf pd_ocJ rfl) rfl (by show 2 * 0 + _ ≤ _; exact Nat.le_of_eq rfl) (hb hby at_71) (fun _ _ => ⟨rfl, e4, (by decide : 1 + 0 ≤ _), (by decide : 5 + 0 ≤ _)⟩)
  dsimp only [Pt.U, Pt.locs, Pt.cells, Pt.slots] at X5 l5 y5 z5 st5 hQ5
  subst l5 y5 z5
  obtain ⟨rfl, N5q, e5⟩ := hQ5
  have N5 := Fr.app N4 N5q
  obtain ⟨cq6, kq6, q6a, q6b, q6c⟩ := isOf hZ e5 Bq2.1
  obtain ⟨_, _, ⟨T6, L6, k6, n6⟩, -, X6, ⟨Lc6, hQ6, l6, y6, z6⟩, st6⟩ := X5.virtualBack hx (y := (⟨"com/example/known_origins/knownorigins/store/LoadCount", "derived", "()J"⟩ : MethodName)) (z := (⟨"com/example/known_origins/knownorigins/store/LoadCount", "derived", "()J"⟩ : MethodName)) hown (mvT hZ (hw _ (M 40))) (mvT hZ (hw _ (M 41))) (notFace_of_selects (args := #[]) (mvT hZ (hw _ (M 43)))) (mvT hZ (hw _ (M 43))) (mvT hZ (hw _ (M 42))) (by decide) (backOf (W := 0) ((lc_derived l Z a0 hw oc2 sk (0 : Int64) (0 : Int64) (0 : Int64) (0 : Int64) T2.heap n0 (Nat.le_trans Z0 K2.1) ⟨Bq2.1, Bq2.2.1, Bq2.2.2.1, Bq2.2.2.2.1, Bq2.2.2.2.2.1, Bq2.2.2.2.2.2⟩) []) hZ (hw _ (M 44)) (hw _ (M 5)) (by decide) (by decide)) q6a q6c (g := (mkF m 81 #[.val (.int sel), .val (.long qg), .second, .val (.long qt), .second, .val (.long qk), .second, .val (.long qd), .second, .val (.int (1 : Int32)), .val (.int (0 : Int32)), .val (.ref sk), .val (.ref oc2), .unset, .unset, .unset, .unset, .unset, .unset] [(.ref oc2)])) rfl (by rw [hml]; rfl) (Steps.refl _) (argsL := []) (rest := []) (lenOf pd_ocJ rfl) rfl (by show 2 * 0 + _ ≤ _; exact Nat.le_of_eq rfl) (hb hby at_81) (fun _ _ => ⟨rfl, e5, (by decide : 1 + 0 ≤ _), (by decide : 5 + 0 ≤ _)⟩)
  dsimp only [Pt.U, Pt.locs, Pt.cells, Pt.slots] at X6 l6 y6 z6 st6 hQ6
  subst l6 y6 z6
  obtain ⟨rfl, N6q, e6⟩ := hQ6
  have N6 := Fr.app N5 N6q
  obtain ⟨c7, T7, h7, k7, sb7, kS7, X7, e7, E7, hS7, hk7, hZ7, hown7, Es7, Fc7, Fv7, Va7, -, -, CR7, -, hn7, st7⟩ := ldcCH (s := s) (vm0 := s.vm) X6 hx hZ hown (hw _ (M 234)) (own_strA hw) e6 hSi hkk2 (own_EW hw) (List.mem_of_getElem? (i := 6) rfl) Ch2.1 lit_2 (z := (35 : Int32)) (by decide) (by rfl) (g := (mkF m 113 #[.val (.int sel), .val (.long qg), .second, .val (.long qt), .second, .val (.long qk), .second, .val (.long qd), .second, .val (.int (1 : Int32)), .val (.int (0 : Int32)), .val (.ref sk), .val (.ref oc2), .val (.int (1 : Int32)), .unset, .unset, .unset, .unset, .unset] [])) rfl (hb hby at_113) (n := 140) (by decide) (by decide) (by decide) (by decide)
  have K7 : Keep h0 h7 [] := K2.ext E7
  have Ch7 : CHr Z consts_1 s.vm h0 T7.vm h7 := Ch2.trans CR7
  have Sf7_oc2 : Safe Z consts_1 T7.vm h7 oc2 := CHr.safe CR7 Bq2.1.lt Sf2_oc2
  obtain ⟨cq8, kq8, q8a, q8b, q8c⟩ := isOf hZ7 e7 (Bq2.1.ext E7)
  obtain ⟨_, _, ⟨T8, L8, k8, n8⟩, -, X8, sc8, gr8, ⟨Lc8, hQ8, l8, y8, z8, ch8⟩, st8⟩ := X7.virtualBackS hx (y := (⟨"com/example/known_origins/knownorigins/store/LoadCount", "line", "(Z)Ljava/lang/String;"⟩ : MethodName)) (z := (⟨"com/example/known_origins/knownorigins/store/LoadCount", "line", "(Z)Ljava/lang/String;"⟩ : MethodName)) hown7 (mvT hZ7 (hw _ (M 53))) (mvT hZ7 (hw _ (M 54))) (notFace_of_selects (args := #[]) (mvT hZ7 (hw _ (M 56)))) (mvT hZ7 (hw _ (M 56))) (mvT hZ7 (hw _ (M 55))) (by decide) (backOfSH (W := 1) ((line_10 l Z a0 hw oc2 sk zc d1 cd h7 n0 (Nat.le_trans Z0 K7.1) ⟨(Bq2.1.ext E7), (Bq2.2.1.ext E7), (Bq2.2.2.1.ext E7), (Bq2.2.2.2.1.ext E7), (Bq2.2.2.2.2.1.ext E7), (Bq2.2.2.2.2.2.ext E7)⟩ ((own_sta_keepN S_SKIP Kq2 ns0).ext E7) ((own_sta_keepN S_CS Kq2 ns0).ext E7) hz ((own_sta_keepN S_D1 Kq2 ns0).ext E7) ((own_arr_keep Ad Kq2 nin0).ext E7) hind hatd) []) hZ7 (hw _ (M 57)) (hw _ (M 5)) (by decide) (by decide) (own_EW hw) Ch7.1) q8a q8c (g := (mkF m 142 #[.val (.int sel), .val (.long qg), .second, .val (.long qt), .second, .val (.long qk), .second, .val (.long qd), .second, .val (.int (1 : Int32)), .val (.int (0 : Int32)), .val (.ref sk), .val (.ref oc2), .val (.int (1 : Int32)), .val (.ref c7), .unset, .unset, .unset, .unset] [(.int (0 : Int32)), (.ref oc2), (.ref c7)])) rfl (by rw [hml]; rfl) (Steps.refl _) (argsL := [(.int (0 : Int32))]) (rest := [(.ref c7)]) (lenOf pd_oZcLjava_lang_String_ rfl) rfl (by show 2 * 0 + _ ≤ _; exact Nat.le_of_eq rfl) (hb hby at_142) (fun _ _ => ⟨rfl, e7, (by decide : 3 + 18 ≤ _), (by decide : 149 + 422 ≤ _)⟩)
  dsimp only [Pt.U, Pt.locs, Pt.cells, Pt.slots] at X8 l8 y8 z8 st8 hQ8 sc8 gr8
  subst l8 y8 z8
  dsimp only [Pt.U, Pt.locs, Pt.cells, Pt.slots] at ch8
  obtain ⟨Y8, hS8, hZ8, hown8⟩ := rebS (s := s) hS7 (by rw [e7]; exact hk7) X8 sc8 gr8 hZ7 hown7
  obtain ⟨os8, sr8, kS8, rfl, N8q, Kq8, so8q, sr8q, Tq8⟩ := hQ8
  have sz_os8 : h0.size ≤ os8 := Nat.le_trans K7.1 so8q
  have g_os8 : n0 ≤ os8 := Nat.le_trans Z0 sz_os8
  have ne_c7_os8 : c7 ≠ os8 := Nat.ne_of_lt (Nat.lt_of_lt_of_le Es7.lt so8q)
  have ne_d1_os8 : d1 ≠ os8 := Nat.ne_of_lt (Nat.lt_of_lt_of_le ((own_arr_keep Ad Kq2 nin0).ext E7).lt so8q)
  have ne_oc2_os8 : oc2 ≠ os8 := Nat.ne_of_lt (Nat.lt_of_lt_of_le (Bq2.1.ext E7).lt so8q)
  have ne_sb7_os8 : sb7 ≠ os8 := Nat.ne_of_lt (Nat.lt_of_lt_of_le Va7.lt so8q)
  have sz_sr8 : h0.size ≤ sr8 := Nat.le_trans K7.1 sr8q
  have g_sr8 : n0 ≤ sr8 := Nat.le_trans Z0 sz_sr8
  have ne_c7_sr8 : c7 ≠ sr8 := Nat.ne_of_lt (Nat.lt_of_lt_of_le Es7.lt sr8q)
  have ne_d1_sr8 : d1 ≠ sr8 := Nat.ne_of_lt (Nat.lt_of_lt_of_le ((own_arr_keep Ad Kq2 nin0).ext E7).lt sr8q)
  have ne_oc2_sr8 : oc2 ≠ sr8 := Nat.ne_of_lt (Nat.lt_of_lt_of_le (Bq2.1.ext E7).lt sr8q)
  have ne_sb7_sr8 : sb7 ≠ sr8 := Nat.ne_of_lt (Nat.lt_of_lt_of_le Va7.lt sr8q)
  have K8 : Keep h0 T8.heap [] := K7.trans Kq8 all0
  have Ch8 : CHr Z consts_1 s.vm h0 T8.vm T8.heap := Ch7.trans ch8
  have Sf8_oc2 : Safe Z consts_1 T8.vm T8.heap oc2 := CHr.safe ch8 (Bq2.1.ext E7).lt Sf7_oc2
  have N8 := Fr.app N6 N8q
  obtain ⟨cq9, kq9, q9a, q9b, q9c⟩ := isOf hZ8 rfl (Es7.keep Kq8)
  obtain ⟨_, _, ⟨T9, L9, k9, n9⟩, -, X9, ⟨Lc9, hQ9, l9, y9, z9⟩, st9⟩ := Y8.virtualBack hx (y := (⟨"java/lang/String", "equals", "(Ljava/lang/Object;)Z"⟩ : MethodName)) (z := (⟨"java/lang/String", "equals", "(Ljava/lang/Object;)Z"⟩ : MethodName)) hown8 (mvT hZ8 (hw _ (M 216))) (mvT hZ8 (hw _ (M 217))) (notFace_of_selects (args := #[]) (mvT hZ8 (hw _ (M 219)))) (mvT hZ8 (hw _ (M 219))) (mvT hZ8 (hw _ (M 218))) (by decide) (backOf (W := 0) ((sEquals l Z a0 hw c7 sb7 kS7 (35 : Int32) tx_2 zc os8 sr8 kS8 T8.heap n0 (Nat.le_trans Z0 K8.1) ⟨(Es7.keep Kq8), (Fc7.keep Kq8 nin0), (Fv7.keep Kq8 nin0), (Va7.keep Kq8 nin0)⟩ (own_sta_keepN ((own_sta_keepN S_CS Kq2 ns0).ext E7) Kq8 ns0) hz ⟨Tq8.1, Tq8.2.1, Tq8.2.2.1, Tq8.2.2.2⟩ ne_c7_os8) []) hZ8 (hw _ (M 220)) (hw _ (M 46)) (by decide) (by decide)) q9a q9c (g := (mkF m 145 #[.val (.int sel), .val (.long qg), .second, .val (.long qt), .second, .val (.long qk), .second, .val (.long qd), .second, .val (.int (1 : Int32)), .val (.int (0 : Int32)), .val (.ref sk), .val (.ref oc2), .val (.int (1 : Int32)), .val (.ref c7), .unset, .unset, .unset, .unset] [(.ref os8), (.ref c7)])) rfl (by rw [hml]; rfl) (Steps.refl _) (argsL := [(.ref os8)]) (rest := []) (lenOf pd_oLjava_lang_Object_cZ rfl) rfl (by show 2 * 0 + _ ≤ _; exact Nat.le_of_eq rfl) (hb hby at_145) (fun _ _ => ⟨rfl, rfl, (by decide : 21 + 0 ≤ _), (by decide : 571 + 0 ≤ _)⟩)
  dsimp only [Pt.U, Pt.locs, Pt.cells, Pt.slots] at X9 l9 y9 z9 st9 hQ9
  subst l9 y9 z9
  obtain ⟨rfl, N9q, e9⟩ := hQ9
  have N9 := Fr.app N8 N9q
  obtain ⟨T10, h10, X10, e10, E10, A10, D10, -, st10⟩ := newO X9 hx hZ8 hown8 (hw _ (M 226)) (hw _ (M 8)) (hw _ (M 5)) e9 (g := (mkF m 150 #[.val (.int sel), .val (.long qg), .second, .val (.long qt), .second, .val (.long qk), .second, .val (.long qd), .second, .val (.int (1 : Int32)), .val (.int (0 : Int32)), .val (.ref sk), .val (.ref oc2), .val (.int (1 : Int32)), .val (.ref c7), .val (.int (1 : Int32)), .unset, .unset, .unset] [])) rfl (hb hby at_150) (by decide) (by decide)
  obtain ⟨b10, g10⟩ : ∃ z, z = T8.heap.size := ⟨_, rfl⟩
  rw [← g10] at A10 D10 st10
  have sz_b10 : h0.size ≤ b10 := Nat.le_trans K8.1 (Nat.le_of_eq g10.symm)
  have g_b10 : n0 ≤ b10 := Nat.le_trans Z0 sz_b10
  have ne_c7_b10 : c7 ≠ b10 := Nat.ne_of_lt (Nat.lt_of_lt_of_le (Es7.keep Kq8).lt (Nat.le_of_eq g10.symm))
  have ne_d1_b10 : d1 ≠ b10 := Nat.ne_of_lt (Nat.lt_of_lt_of_le (own_arr_keep ((own_arr_keep Ad Kq2 nin0).ext E7) Kq8 nin0).lt (Nat.le_of_eq g10.symm))
  have ne_oc2_b10 : oc2 ≠ b10 := Nat.ne_of_lt (Nat.lt_of_lt_of_le ((Bq2.1.ext E7).keep Kq8).lt (Nat.le_of_eq g10.symm))
  have ne_os8_b10 : os8 ≠ b10 := Nat.ne_of_lt (Nat.lt_of_lt_of_le Tq8.1.lt (Nat.le_of_eq g10.symm))
  have ne_sb7_b10 : sb7 ≠ b10 := Nat.ne_of_lt (Nat.lt_of_lt_of_le (Va7.keep Kq8 nin0).lt (Nat.le_of_eq g10.symm))
  have ne_sr8_b10 : sr8 ≠ b10 := Nat.ne_of_lt (Nat.lt_of_lt_of_le Tq8.2.2.2.lt (Nat.le_of_eq g10.symm))
  have K10 : Keep h0 h10 [] := K8.ext E10
  have F_ifStored_b10 : Fld Z h10 b10 "com/example/known_origins/knownorigins/store/LoadCount" "ifStored" "Lcom/example/known_origins/knownorigins/store/IfStored;" .null := D10 (Or.inr (hw _ (M 16))) (ty := (.object "com/example/known_origins/knownorigins/store/IfStored")) (by decide)
  have F_graphs_b10 : Fld Z h10 b10 "com/example/known_origins/knownorigins/store/LoadCount" "graphs" "J" (.long (0 : Int64)) := D10 (Or.inr (hw _ (M 18))) (ty := .long) (by decide)
  have F_triples_b10 : Fld Z h10 b10 "com/example/known_origins/knownorigins/store/LoadCount" "triples" "J" (.long (0 : Int64)) := D10 (Or.inr (hw _ (M 20))) (ty := .long) (by decide)
  have F_skipped_b10 : Fld Z h10 b10 "com/example/known_origins/knownorigins/store/LoadCount" "skipped" "J" (.long (0 : Int64)) := D10 (Or.inr (hw _ (M 22))) (ty := .long) (by decide)
  have F_derived_b10 : Fld Z h10 b10 "com/example/known_origins/knownorigins/store/LoadCount" "derived" "J" (.long (0 : Int64)) := D10 (Or.inr (hw _ (M 24))) (ty := .long) (by decide)
  have Ch10 : CHr Z consts_1 s.vm h0 T8.vm h10 := Ch8.trans (CHr.ext E10 Ch8.1)
  have Sf10_oc2 : Safe Z consts_1 T8.vm h10 oc2 := Safe.ext E10 Ch8.1 Sf8_oc2
  have Sf10_b10 : Safe Z consts_1 T8.vm h10 b10 := Safe.ext E10 Ch8.1 (Safe.new (Nat.le_of_eq g10.symm))
  have hkk10 : T8.heap.size ≤ h10.size := Nat.le_trans (Nat.le_refl _) E10.1
  obtain ⟨_, _, ⟨T11, L11, k11, n11⟩, -, X11, ⟨Lc11, hQ11, l11, y11, z11⟩, st11⟩ := X10.specialBack hx (y := (⟨"com/example/known_origins/knownorigins/store/LoadCount", "<init>", "(Lcom/example/known_origins/knownorigins/store/IfStored;JJJJ)V"⟩ : MethodName)) rfl hown8 (mvT hZ8 (hw _ (M 227))) (mvT hZ8 (hw _ (M 10))) (mvT hZ8 (hw _ (M 11))) (by decide) (backOf (W := 1) ((lcInit l Z a0 hw b10 sk qg qt qk qd h10 n0 (Nat.le_trans Z0 K10.1) F_ifStored_b10 F_graphs_b10 F_triples_b10 F_skipped_b10 F_derived_b10 A10 g_b10) []) hZ8 (hw _ (M 11)) (hw _ (M 5)) (by decide) (by decide)) (g := (mkF m 162 #[.val (.int sel), .val (.long qg), .second, .val (.long qt), .second, .val (.long qk), .second, .val (.long qd), .second, .val (.int (1 : Int32)), .val (.int (0 : Int32)), .val (.ref sk), .val (.ref oc2), .val (.int (1 : Int32)), .val (.ref c7), .val (.int (1 : Int32)), .unset, .unset, .unset] [(.long qd), (.long qk), (.long qt), (.long qg), (.ref sk), (.ref b10), (.ref b10)])) rfl (by rw [hml]; rfl) (Steps.refl _) (a := b10) (argsL := [(.ref sk), (.long qg), (.long qt), (.long qk), (.long qd)]) (rest := [(.ref b10)]) (lenOf pd_oLcom_example_known_origins_knownorigins_store_IfStored_JJJJcV rfl) rfl (by show 2 * 0 + _ ≤ _; exact Nat.le_of_eq rfl) (hb hby at_162) (fun _ _ => ⟨rfl, e10, (by decide : 22 + 0 ≤ _), (by decide : 576 + 0 ≤ _)⟩)
  dsimp only [Pt.U, Pt.locs, Pt.cells, Pt.slots] at X11 l11 y11 z11 st11 hQ11
  subst l11 y11 z11
  obtain ⟨rfl, N11q, Kq11, Bq11⟩ := hQ11
  have K11 : Keep h0 T11.heap [] := K10.trans Kq11 (allS (Or.inr sz_b10) all0)
  have Ch11 : CHr Z consts_1 s.vm h0 T8.vm T11.heap := Ch10.trans (CHr.keep Kq11 (sfS Sf10_b10 sf0) Ch10.1)
  have Sf11_oc2 : Safe Z consts_1 T8.vm T11.heap oc2 := Safe.keep Kq11 (sfS Sf10_b10 sf0) Ch10.1 Sf10_oc2
  have Sf11_b10 : Safe Z consts_1 T8.vm T11.heap b10 := Safe.keep Kq11 (sfS Sf10_b10 sf0) Ch10.1 Sf10_b10
  have hkk11 : T8.heap.size ≤ T11.heap.size := Nat.le_trans hkk10 Kq11.1
  have N11 := Fr.app N9 N11q
  obtain ⟨cq12, kq12, q12a, q12b, q12c⟩ := isOf hZ8 rfl ((((Bq2.1.ext E7).keep Kq8).ext E10).keep Kq11)
  obtain ⟨_, _, ⟨T12, L12, k12, n12⟩, -, X12, ⟨Lc12, hQ12, l12, y12, z12⟩, st12⟩ := X11.virtualBack hx (y := (⟨"com/example/known_origins/knownorigins/store/LoadCount", "plus", "(Lcom/example/known_origins/knownorigins/store/LoadCount;)Lcom/example/known_origins/knownorigins/store/LoadCount;"⟩ : MethodName)) (z := (⟨"com/example/known_origins/knownorigins/store/LoadCount", "plus", "(Lcom/example/known_origins/knownorigins/store/LoadCount;)Lcom/example/known_origins/knownorigins/store/LoadCount;"⟩ : MethodName)) hown8 (mvT hZ8 (hw _ (M 228))) (mvT hZ8 (hw _ (M 229))) (notFace_of_selects (args := #[]) (mvT hZ8 (hw _ (M 231)))) (mvT hZ8 (hw _ (M 231))) (mvT hZ8 (hw _ (M 230))) (by decide) (backOf (W := 0) ((lcPlus l Z a0 hw oc2 b10 sk qg qt qk qd T11.heap n0 (Nat.le_trans Z0 K11.1) ⟨((((Bq2.1.ext E7).keep Kq8).ext E10).keep Kq11), ((((Bq2.2.1.ext E7).keep Kq8 nin0).ext E10).keep Kq11 (ninS ne_oc2_b10 nin0)), ((((Bq2.2.2.1.ext E7).keep Kq8 nin0).ext E10).keep Kq11 (ninS ne_oc2_b10 nin0)), ((((Bq2.2.2.2.1.ext E7).keep Kq8 nin0).ext E10).keep Kq11 (ninS ne_oc2_b10 nin0)), ((((Bq2.2.2.2.2.1.ext E7).keep Kq8 nin0).ext E10).keep Kq11 (ninS ne_oc2_b10 nin0)), ((((Bq2.2.2.2.2.2.ext E7).keep Kq8 nin0).ext E10).keep Kq11 (ninS ne_oc2_b10 nin0))⟩ ⟨Bq11.1, Bq11.2.1, Bq11.2.2.1, Bq11.2.2.2.1, Bq11.2.2.2.2.1, Bq11.2.2.2.2.2⟩) []) hZ8 (hw _ (M 232)) (hw _ (M 5)) (by decide) (by decide)) q12a q12c (g := (mkF m 171 #[.val (.int sel), .val (.long qg), .second, .val (.long qt), .second, .val (.long qk), .second, .val (.long qd), .second, .val (.int (1 : Int32)), .val (.int (0 : Int32)), .val (.ref sk), .val (.ref oc2), .val (.int (1 : Int32)), .val (.ref c7), .val (.int (1 : Int32)), .val (.ref b10), .unset, .unset] [(.ref b10), (.ref oc2)])) rfl (by rw [hml]; rfl) (Steps.refl _) (argsL := [(.ref b10)]) (rest := []) (lenOf pd_oLcom_example_known_origins_knownorigins_store_LoadCount_cLcom_example_known_origins_knownorigins_store_LoadCount_ rfl) rfl (by show 2 * 0 + _ ≤ _; exact Nat.le_of_eq rfl) (hb hby at_171) (fun _ _ => ⟨rfl, rfl, (by decide : 22 + 1 ≤ _), (by decide : 576 + 5 ≤ _)⟩)
  dsimp only [Pt.U, Pt.locs, Pt.cells, Pt.slots] at X12 l12 y12 z12 st12 hQ12
  subst l12 y12 z12
  have f13 := (own_arr_keep ((own_arr_keep ((own_arr_keep Ad Kq2 nin0).ext E7) Kq8 nin0).ext E10) Kq11 (ninS ne_d1_b10 nin0))
  obtain ⟨oc12, rfl, N12q, Kq12, sz12q, Bq12⟩ := hQ12
  have sz_oc12 : h0.size ≤ oc12 := Nat.le_trans K11.1 sz12q
  have g_oc12 : n0 ≤ oc12 := Nat.le_trans Z0 sz_oc12
  have ne_b10_oc12 : b10 ≠ oc12 := Nat.ne_of_lt (Nat.lt_of_lt_of_le Bq11.1.lt sz12q)
  have ne_c7_oc12 : c7 ≠ oc12 := Nat.ne_of_lt (Nat.lt_of_lt_of_le (((Es7.keep Kq8).ext E10).keep Kq11).lt sz12q)
  have ne_d1_oc12 : d1 ≠ oc12 := Nat.ne_of_lt (Nat.lt_of_lt_of_le f13.lt sz12q)
  have ne_oc2_oc12 : oc2 ≠ oc12 := Nat.ne_of_lt (Nat.lt_of_lt_of_le ((((Bq2.1.ext E7).keep Kq8).ext E10).keep Kq11).lt sz12q)
  have ne_os8_oc12 : os8 ≠ oc12 := Nat.ne_of_lt (Nat.lt_of_lt_of_le ((Tq8.1.ext E10).keep Kq11).lt sz12q)
  have ne_sb7_oc12 : sb7 ≠ oc12 := Nat.ne_of_lt (Nat.lt_of_lt_of_le (((Va7.keep Kq8 nin0).ext E10).keep Kq11 (ninS ne_sb7_b10 nin0)).lt sz12q)
  have ne_sr8_oc12 : sr8 ≠ oc12 := Nat.ne_of_lt (Nat.lt_of_lt_of_le ((Tq8.2.2.2.ext E10).keep Kq11 (ninS ne_sr8_b10 nin0)).lt sz12q)
  have K12 : Keep h0 T12.heap [] := K11.trans Kq12 all0
  have Ch12 : CHr Z consts_1 s.vm h0 T8.vm T12.heap := Ch11.trans (CHr.keep Kq12 sf0 Ch11.1)
  have Sf12_oc2 : Safe Z consts_1 T8.vm T12.heap oc2 := Safe.keep Kq12 sf0 Ch11.1 Sf11_oc2
  have Sf12_b10 : Safe Z consts_1 T8.vm T12.heap b10 := Safe.keep Kq12 sf0 Ch11.1 Sf11_b10
  have Sf12_oc12 : Safe Z consts_1 T8.vm T12.heap oc12 := Safe.keep Kq12 sf0 Ch11.1 (Safe.new sz12q)
  have hkk12 : T8.heap.size ≤ T12.heap.size := Nat.le_trans hkk11 Kq12.1
  have N12 := Fr.app N11 N12q
  obtain ⟨cq14, kq14, q14a, q14b, q14c⟩ := isOf hZ8 rfl Bq12.1
  obtain ⟨_, _, ⟨T14, L14, k14, n14⟩, -, X14, ⟨Lc14, hQ14, l14, y14, z14⟩, st14⟩ := X12.virtualBack hx (y := (⟨"com/example/known_origins/knownorigins/store/LoadCount", "graphs", "()J"⟩ : MethodName)) (z := (⟨"com/example/known_origins/knownorigins/store/LoadCount", "graphs", "()J"⟩ : MethodName)) hown8 (mvT hZ8 (hw _ (M 25))) (mvT hZ8 (hw _ (M 26))) (notFace_of_selects (args := #[]) (mvT hZ8 (hw _ (M 28)))) (mvT hZ8 (hw _ (M 28))) (mvT hZ8 (hw _ (M 27))) (by decide) (backOf (W := 0) ((lc_graphs l Z a0 hw oc12 sk qg qt qk qd T12.heap n0 (Nat.le_trans Z0 K12.1) ⟨Bq12.1, Bq12.2.1, Bq12.2.2.1, Bq12.2.2.2.1, Bq12.2.2.2.2.1, Bq12.2.2.2.2.2⟩) []) hZ8 (hw _ (M 29)) (hw _ (M 5)) (by decide) (by decide)) q14a q14c (g := (mkF m 178 #[.val (.int sel), .val (.long qg), .second, .val (.long qt), .second, .val (.long qk), .second, .val (.long qd), .second, .val (.int (1 : Int32)), .val (.int (0 : Int32)), .val (.ref sk), .val (.ref oc2), .val (.int (1 : Int32)), .val (.ref c7), .val (.int (1 : Int32)), .val (.ref b10), .val (.ref oc12), .unset] [(.ref oc12)])) rfl (by rw [hml]; rfl) (Steps.refl _) (argsL := []) (rest := []) (lenOf pd_ocJ rfl) rfl (by show 2 * 0 + _ ≤ _; exact Nat.le_of_eq rfl) (hb hby at_178) (fun _ _ => ⟨rfl, rfl, (by decide : 23 + 0 ≤ _), (by decide : 581 + 0 ≤ _)⟩)
  dsimp only [Pt.U, Pt.locs, Pt.cells, Pt.slots] at X14 l14 y14 z14 st14 hQ14
  subst l14 y14 z14
  obtain ⟨rfl, N14q, e14⟩ := hQ14
  have N14 := Fr.app N12 N14q
  obtain ⟨cq15, kq15, q15a, q15b, q15c⟩ := isOf hZ8 e14 Bq12.1
  obtain ⟨_, _, ⟨T15, L15, k15, n15⟩, -, X15, ⟨Lc15, hQ15, l15, y15, z15⟩, st15⟩ := X14.virtualBack hx (y := (⟨"com/example/known_origins/knownorigins/store/LoadCount", "triples", "()J"⟩ : MethodName)) (z := (⟨"com/example/known_origins/knownorigins/store/LoadCount", "triples", "()J"⟩ : MethodName)) hown8 (mvT hZ8 (hw _ (M 30))) (mvT hZ8 (hw _ (M 31))) (notFace_of_selects (args := #[]) (mvT hZ8 (hw _ (M 33)))) (mvT hZ8 (hw _ (M 33))) (mvT hZ8 (hw _ (M 32))) (by decide) (backOf (W := 0) ((lc_triples l Z a0 hw oc12 sk qg qt qk qd T12.heap n0 (Nat.le_trans Z0 K12.1) ⟨Bq12.1, Bq12.2.1, Bq12.2.2.1, Bq12.2.2.2.1, Bq12.2.2.2.2.1, Bq12.2.2.2.2.2⟩) []) hZ8 (hw _ (M 34)) (hw _ (M 5)) (by decide) (by decide)) q15a q15c (g := (mkF m 188 #[.val (.int sel), .val (.long qg), .second, .val (.long qt), .second, .val (.long qk), .second, .val (.long qd), .second, .val (.int (1 : Int32)), .val (.int (0 : Int32)), .val (.ref sk), .val (.ref oc2), .val (.int (1 : Int32)), .val (.ref c7), .val (.int (1 : Int32)), .val (.ref b10), .val (.ref oc12), .unset] [(.ref oc12)])) rfl (by rw [hml]; rfl) (Steps.refl _) (argsL := []) (rest := []) (lenOf pd_ocJ rfl) rfl (by show 2 * 0 + _ ≤ _; exact Nat.le_of_eq rfl) (hb hby at_188) (fun _ _ => ⟨rfl, e14, (by decide : 23 + 0 ≤ _), (by decide : 581 + 0 ≤ _)⟩)
  dsimp only [Pt.U, Pt.locs, Pt.cells, Pt.slots] at X15 l15 y15 z15 st15 hQ15
  subst l15 y15 z15
  obtain ⟨rfl, N15q, e15⟩ := hQ15
  have N15 := Fr.app N14 N15q
  obtain ⟨cq16, kq16, q16a, q16b, q16c⟩ := isOf hZ8 e15 Bq12.1
  obtain ⟨_, _, ⟨T16, L16, k16, n16⟩, -, X16, ⟨Lc16, hQ16, l16, y16, z16⟩, st16⟩ := X15.virtualBack hx (y := (⟨"com/example/known_origins/knownorigins/store/LoadCount", "skipped", "()J"⟩ : MethodName)) (z := (⟨"com/example/known_origins/knownorigins/store/LoadCount", "skipped", "()J"⟩ : MethodName)) hown8 (mvT hZ8 (hw _ (M 35))) (mvT hZ8 (hw _ (M 36))) (notFace_of_selects (args := #[]) (mvT hZ8 (hw _ (M 38)))) (mvT hZ8 (hw _ (M 38))) (mvT hZ8 (hw _ (M 37))) (by decide) (backOf (W := 0) ((lc_skipped l Z a0 hw oc12 sk qg qt qk qd T12.heap n0 (Nat.le_trans Z0 K12.1) ⟨Bq12.1, Bq12.2.1, Bq12.2.2.1, Bq12.2.2.2.1, Bq12.2.2.2.2.1, Bq12.2.2.2.2.2⟩) []) hZ8 (hw _ (M 39)) (hw _ (M 5)) (by decide) (by decide)) q16a q16c (g := (mkF m 198 #[.val (.int sel), .val (.long qg), .second, .val (.long qt), .second, .val (.long qk), .second, .val (.long qd), .second, .val (.int (1 : Int32)), .val (.int (0 : Int32)), .val (.ref sk), .val (.ref oc2), .val (.int (1 : Int32)), .val (.ref c7), .val (.int (1 : Int32)), .val (.ref b10), .val (.ref oc12), .unset] [(.ref oc12)])) rfl (by rw [hml]; rfl) (Steps.refl _) (argsL := []) (rest := []) (lenOf pd_ocJ rfl) rfl (by show 2 * 0 + _ ≤ _; exact Nat.le_of_eq rfl) (hb hby at_198) (fun _ _ => ⟨rfl, e15, (by decide : 23 + 0 ≤ _), (by decide : 581 + 0 ≤ _)⟩)
  dsimp only [Pt.U, Pt.locs, Pt.cells, Pt.slots] at X16 l16 y16 z16 st16 hQ16
  subst l16 y16 z16
  obtain ⟨rfl, N16q, e16⟩ := hQ16
  have N16 := Fr.app N15 N16q
  obtain ⟨cq17, kq17, q17a, q17b, q17c⟩ := isOf hZ8 e16 Bq12.1
  obtain ⟨_, _, ⟨T17, L17, k17, n17⟩, -, X17, ⟨Lc17, hQ17, l17, y17, z17⟩, st17⟩ := X16.virtualBack hx (y := (⟨"com/example/known_origins/knownorigins/store/LoadCount", "derived", "()J"⟩ : MethodName)) (z := (⟨"com/example/known_origins/knownorigins/store/LoadCount", "derived", "()J"⟩ : MethodName)) hown8 (mvT hZ8 (hw _ (M 40))) (mvT hZ8 (hw _ (M 41))) (notFace_of_selects (args := #[]) (mvT hZ8 (hw _ (M 43)))) (mvT hZ8 (hw _ (M 43))) (mvT hZ8 (hw _ (M 42))) (by decide) (backOf (W := 0) ((lc_derived l Z a0 hw oc12 sk qg qt qk qd T12.heap n0 (Nat.le_trans Z0 K12.1) ⟨Bq12.1, Bq12.2.1, Bq12.2.2.1, Bq12.2.2.2.1, Bq12.2.2.2.2.1, Bq12.2.2.2.2.2⟩) []) hZ8 (hw _ (M 44)) (hw _ (M 5)) (by decide) (by decide)) q17a q17c (g := (mkF m 209 #[.val (.int sel), .val (.long qg), .second, .val (.long qt), .second, .val (.long qk), .second, .val (.long qd), .second, .val (.int (1 : Int32)), .val (.int (0 : Int32)), .val (.ref sk), .val (.ref oc2), .val (.int (1 : Int32)), .val (.ref c7), .val (.int (1 : Int32)), .val (.ref b10), .val (.ref oc12), .unset] [(.ref oc12)])) rfl (by rw [hml]; rfl) (Steps.refl _) (argsL := []) (rest := []) (lenOf pd_ocJ rfl) rfl (by show 2 * 0 + _ ≤ _; exact Nat.le_of_eq rfl) (hb hby at_209) (fun _ _ => ⟨rfl, e16, (by decide : 23 + 0 ≤ _), (by decide : 581 + 0 ≤ _)⟩)
  dsimp only [Pt.U, Pt.locs, Pt.cells, Pt.slots] at X17 l17 y17 z17 st17 hQ17
  subst l17 y17 z17
  obtain ⟨rfl, N17q, e17⟩ := hQ17
  have N17 := Fr.app N16 N17q
  obtain ⟨fs, hr, hrun, hended, hret, hW, hnew, hsame⟩ := X17.leaveW hS8 (by rw [e17]; exact hkk12) (v := some (.int (1 : Int32))) (fun h => by rw [Bd.returns] at h; cases h)
  refine ⟨_, _, pre0 _ ?_, hrun, hended, _, _, rfl, ?_, ?_, hret, hW, hnew, hsame.mono (by decide) (by decide)⟩
  · show Steps p.tables e below (s₁.setTop (mkF m 0 #[.val (.int sel), .val (.long qg), .second, .val (.long qt), .second, .val (.long qk), .second, .val (.long qd), .second, .unset, .unset, .unset, .unset, .unset, .unset, .unset, .unset, .unset, .unset] [])) _
    refine XS.iloadN X0.here hx rfl (hb hby at_0) rfl ?_
    refine XS.iconst X0.here hx rfl (hb hby at_1) ?_
    refine XS.iand X0.here hx rfl (hb hby at_2) rfl ?_
    show Steps p.tables e below (s₁.setTop (mkF m 3 #[.val (.int sel), .val (.long qg), .second, .val (.long qt), .second, .val (.long qk), .second, .val (.long qd), .second, .unset, .unset, .unset, .unset, .unset, .unset, .unset, .unset, .unset, .unset] [(.int (sel &&& (1 : Int32)))])) _
    refine XS.ifNo X0.here hx rfl (hb hby at_3) rfl ((if0 _ _).trans (feq hc3).1) ?_
    show Steps p.tables e below (s₁.setTop (mkF m 6 #[.val (.int sel), .val (.long qg), .second, .val (.long qt), .second, .val (.long qk), .second, .val (.long qd), .second, .unset, .unset, .unset, .unset, .unset, .unset, .unset, .unset, .unset, .unset] [])) _
    refine XS.iconst X0.here hx rfl (hb hby at_6) ?_
    refine XS.goto X0.here hx rfl (pc0 := 7) (pc' := 11) rfl (hb hby at_7) (by decide) (by decide) ?_
    show Steps p.tables e below (s₁.setTop (mkF m 11 #[.val (.int sel), .val (.long qg), .second, .val (.long qt), .second, .val (.long qk), .second, .val (.long qd), .second, .unset, .unset, .unset, .unset, .unset, .unset, .unset, .unset, .unset, .unset] [(.int (1 : Int32))])) _
    refine XS.istore X0.here hx rfl (hb hby at_11) rfl (l' := #[.val (.int sel), .val (.long qg), .second, .val (.long qt), .second, .val (.long qk), .second, .val (.long qd), .second, .val (.int (1 : Int32)), .unset, .unset, .unset, .unset, .unset, .unset, .unset, .unset, .unset]) rfl ?_
    show Steps p.tables e below (s₁.setTop (mkF m 13 #[.val (.int sel), .val (.long qg), .second, .val (.long qt), .second, .val (.long qk), .second, .val (.long qd), .second, .val (.int (1 : Int32)), .unset, .unset, .unset, .unset, .unset, .unset, .unset, .unset, .unset] [])) _
    refine XS.iloadN X0.here hx rfl (hb hby at_13) rfl ?_
    refine XS.iconst X0.here hx rfl (hb hby at_14) ?_
    refine XS.iand X0.here hx rfl (hb hby at_15) rfl ?_
    show Steps p.tables e below (s₁.setTop (mkF m 16 #[.val (.int sel), .val (.long qg), .second, .val (.long qt), .second, .val (.long qk), .second, .val (.long qd), .second, .val (.int (1 : Int32)), .unset, .unset, .unset, .unset, .unset, .unset, .unset, .unset, .unset] [(.int (sel &&& (2 : Int32)))])) _
    refine XS.ifYes X0.here hx rfl (pc0 := 16) (pc' := 23) rfl (hb hby at_16) rfl ((if0 _ _).trans (teq hc16).1) (by decide) (by decide) ?_
    show Steps p.tables e below (s₁.setTop (mkF m 23 #[.val (.int sel), .val (.long qg), .second, .val (.long qt), .second, .val (.long qk), .second, .val (.long qd), .second, .val (.int (1 : Int32)), .unset, .unset, .unset, .unset, .unset, .unset, .unset, .unset, .unset] [])) _
    refine XS.iconst X0.here hx rfl (hb hby at_23) ?_
    refine XS.istore X0.here hx rfl (hb hby at_24) rfl (l' := #[.val (.int sel), .val (.long qg), .second, .val (.long qt), .second, .val (.long qk), .second, .val (.long qd), .second, .val (.int (1 : Int32)), .val (.int (0 : Int32)), .unset, .unset, .unset, .unset, .unset, .unset, .unset, .unset]) rfl ?_
    show Steps p.tables e below (s₁.setTop (mkF m 26 #[.val (.int sel), .val (.long qg), .second, .val (.long qt), .second, .val (.long qk), .second, .val (.long qd), .second, .val (.int (1 : Int32)), .val (.int (0 : Int32)), .unset, .unset, .unset, .unset, .unset, .unset, .unset, .unset] [])) _
    refine XS.iload X0.here hx rfl (hb hby at_26) rfl ?_
    refine XS.ifNo X0.here hx rfl (hb hby at_28) rfl ((if0 _ _).trans (feq (by decide : ¬ ((1 : Int32) = (0 : Int32)))).1) ?_
    show Steps p.tables e below (s₁.setTop (mkF m 31 #[.val (.int sel), .val (.long qg), .second, .val (.long qt), .second, .val (.long qk), .second, .val (.long qd), .second, .val (.int (1 : Int32)), .val (.int (0 : Int32)), .unset, .unset, .unset, .unset, .unset, .unset, .unset, .unset] [])) _
    refine st1 _ ?_
    show Steps p.tables e below (T1.setTop (mkF m 34 #[.val (.int sel), .val (.long qg), .second, .val (.long qt), .second, .val (.long qk), .second, .val (.long qd), .second, .val (.int (1 : Int32)), .val (.int (0 : Int32)), .unset, .unset, .unset, .unset, .unset, .unset, .unset, .unset] [(.ref sk)])) _
    refine XS.goto X1.here hx rfl (pc0 := 34) (pc' := 40) rfl (hb hby at_34) (by decide) (by decide) ?_
    show Steps p.tables e below (T1.setTop (mkF m 40 #[.val (.int sel), .val (.long qg), .second, .val (.long qt), .second, .val (.long qk), .second, .val (.long qd), .second, .val (.int (1 : Int32)), .val (.int (0 : Int32)), .unset, .unset, .unset, .unset, .unset, .unset, .unset, .unset] [(.ref sk)])) _
    refine XS.astore X1.here hx rfl (hb hby at_40) rfl rfl (l' := #[.val (.int sel), .val (.long qg), .second, .val (.long qt), .second, .val (.long qk), .second, .val (.long qd), .second, .val (.int (1 : Int32)), .val (.int (0 : Int32)), .val (.ref sk), .unset, .unset, .unset, .unset, .unset, .unset, .unset]) rfl ?_
    show Steps p.tables e below (T1.setTop (mkF m 42 #[.val (.int sel), .val (.long qg), .second, .val (.long qt), .second, .val (.long qk), .second, .val (.long qd), .second, .val (.int (1 : Int32)), .val (.int (0 : Int32)), .val (.ref sk), .unset, .unset, .unset, .unset, .unset, .unset, .unset] [])) _
    refine XS.aload X1.here hx rfl (hb hby at_42) rfl rfl ?_
    refine st2 _ ?_
    show Steps p.tables e below (T2.setTop (mkF m 47 #[.val (.int sel), .val (.long qg), .second, .val (.long qt), .second, .val (.long qk), .second, .val (.long qd), .second, .val (.int (1 : Int32)), .val (.int (0 : Int32)), .val (.ref sk), .unset, .unset, .unset, .unset, .unset, .unset, .unset] [(.ref oc2)])) _
    refine XS.astore X2.here hx rfl (hb hby at_47) rfl rfl (l' := #[.val (.int sel), .val (.long qg), .second, .val (.long qt), .second, .val (.long qk), .second, .val (.long qd), .second, .val (.int (1 : Int32)), .val (.int (0 : Int32)), .val (.ref sk), .val (.ref oc2), .unset, .unset, .unset, .unset, .unset, .unset]) rfl ?_
    show Steps p.tables e below (T2.setTop (mkF m 49 #[.val (.int sel), .val (.long qg), .second, .val (.long qt), .second, .val (.long qk), .second, .val (.long qd), .second, .val (.int (1 : Int32)), .val (.int (0 : Int32)), .val (.ref sk), .val (.ref oc2), .unset, .unset, .unset, .unset, .unset, .unset] [])) _
    refine XS.aload X2.here hx rfl (hb hby at_49) rfl rfl ?_
    refine st3.trans ?_
    show Steps p.tables e below (T3.setTop (mkF m 54 #[.val (.int sel), .val (.long qg), .second, .val (.long qt), .second, .val (.long qk), .second, .val (.long qd), .second, .val (.int (1 : Int32)), .val (.int (0 : Int32)), .val (.ref sk), .val (.ref oc2), .unset, .unset, .unset, .unset, .unset, .unset] [(.long (0 : Int64))])) _
    refine XS.lconst X3.here hx rfl (hb hby at_54) ?_
    refine XS.lcmp X3.here hx rfl (hb hby at_55) rfl ?_
    show Steps p.tables e below (T3.setTop (mkF m 56 #[.val (.int sel), .val (.long qg), .second, .val (.long qt), .second, .val (.long qk), .second, .val (.long qd), .second, .val (.int (1 : Int32)), .val (.int (0 : Int32)), .val (.ref sk), .val (.ref oc2), .unset, .unset, .unset, .unset, .unset, .unset] [(.int (lcmpW (0 : Int64) (0 : Int64)))])) _
    rw [(by decide : (lcmpW (0 : Int64) (0 : Int64)) = (0 : Int32))]
    show Steps p.tables e below (T3.setTop (mkF m 56 #[.val (.int sel), .val (.long qg), .second, .val (.long qt), .second, .val (.long qk), .second, .val (.long qd), .second, .val (.int (1 : Int32)), .val (.int (0 : Int32)), .val (.ref sk), .val (.ref oc2), .unset, .unset, .unset, .unset, .unset, .unset] [(.int (0 : Int32))])) _
    refine XS.ifNo X3.here hx rfl (hb hby at_56) rfl ((if0 _ _).trans (teq (by decide : (0 : Int32) = (0 : Int32))).2) ?_
    show Steps p.tables e below (T3.setTop (mkF m 59 #[.val (.int sel), .val (.long qg), .second, .val (.long qt), .second, .val (.long qk), .second, .val (.long qd), .second, .val (.int (1 : Int32)), .val (.int (0 : Int32)), .val (.ref sk), .val (.ref oc2), .unset, .unset, .unset, .unset, .unset, .unset] [])) _
    refine XS.aload X3.here hx rfl (hb hby at_59) rfl rfl ?_
    refine st4.trans ?_
    show Steps p.tables e below (T4.setTop (mkF m 64 #[.val (.int sel), .val (.long qg), .second, .val (.long qt), .second, .val (.long qk), .second, .val (.long qd), .second, .val (.int (1 : Int32)), .val (.int (0 : Int32)), .val (.ref sk), .val (.ref oc2), .unset, .unset, .unset, .unset, .unset, .unset] [(.long (0 : Int64))])) _
    refine XS.lconst X4.here hx rfl (hb hby at_64) ?_
    refine XS.lcmp X4.here hx rfl (hb hby at_65) rfl ?_
    show Steps p.tables e below (T4.setTop (mkF m 66 #[.val (.int sel), .val (.long qg), .second, .val (.long qt), .second, .val (.long qk), .second, .val (.long qd), .second, .val (.int (1 : Int32)), .val (.int (0 : Int32)), .val (.ref sk), .val (.ref oc2), .unset, .unset, .unset, .unset, .unset, .unset] [(.int (lcmpW (0 : Int64) (0 : Int64)))])) _
    rw [(by decide : (lcmpW (0 : Int64) (0 : Int64)) = (0 : Int32))]
    show Steps p.tables e below (T4.setTop (mkF m 66 #[.val (.int sel), .val (.long qg), .second, .val (.long qt), .second, .val (.long qk), .second, .val (.long qd), .second, .val (.int (1 : Int32)), .val (.int (0 : Int32)), .val (.ref sk), .val (.ref oc2), .unset, .unset, .unset, .unset, .unset, .unset] [(.int (0 : Int32))])) _
    refine XS.ifNo X4.here hx rfl (hb hby at_66) rfl ((if0 _ _).trans (teq (by decide : (0 : Int32) = (0 : Int32))).2) ?_
    show Steps p.tables e below (T4.setTop (mkF m 69 #[.val (.int sel), .val (.long qg), .second, .val (.long qt), .second, .val (.long qk), .second, .val (.long qd), .second, .val (.int (1 : Int32)), .val (.int (0 : Int32)), .val (.ref sk), .val (.ref oc2), .unset, .unset, .unset, .unset, .unset, .unset] [])) _
    refine XS.aload X4.here hx rfl (hb hby at_69) rfl rfl ?_
    refine st5.trans ?_
    show Steps p.tables e below (T5.setTop (mkF m 74 #[.val (.int sel), .val (.long qg), .second, .val (.long qt), .second, .val (.long qk), .second, .val (.long qd), .second, .val (.int (1 : Int32)), .val (.int (0 : Int32)), .val (.ref sk), .val (.ref oc2), .unset, .unset, .unset, .unset, .unset, .unset] [(.long (0 : Int64))])) _
    refine XS.lconst X5.here hx rfl (hb hby at_74) ?_
    refine XS.lcmp X5.here hx rfl (hb hby at_75) rfl ?_
    show Steps p.tables e below (T5.setTop (mkF m 76 #[.val (.int sel), .val (.long qg), .second, .val (.long qt), .second, .val (.long qk), .second, .val (.long qd), .second, .val (.int (1 : Int32)), .val (.int (0 : Int32)), .val (.ref sk), .val (.ref oc2), .unset, .unset, .unset, .unset, .unset, .unset] [(.int (lcmpW (0 : Int64) (0 : Int64)))])) _
    rw [(by decide : (lcmpW (0 : Int64) (0 : Int64)) = (0 : Int32))]
    show Steps p.tables e below (T5.setTop (mkF m 76 #[.val (.int sel), .val (.long qg), .second, .val (.long qt), .second, .val (.long qk), .second, .val (.long qd), .second, .val (.int (1 : Int32)), .val (.int (0 : Int32)), .val (.ref sk), .val (.ref oc2), .unset, .unset, .unset, .unset, .unset, .unset] [(.int (0 : Int32))])) _
    refine XS.ifNo X5.here hx rfl (hb hby at_76) rfl ((if0 _ _).trans (teq (by decide : (0 : Int32) = (0 : Int32))).2) ?_
    show Steps p.tables e below (T5.setTop (mkF m 79 #[.val (.int sel), .val (.long qg), .second, .val (.long qt), .second, .val (.long qk), .second, .val (.long qd), .second, .val (.int (1 : Int32)), .val (.int (0 : Int32)), .val (.ref sk), .val (.ref oc2), .unset, .unset, .unset, .unset, .unset, .unset] [])) _
    refine XS.aload X5.here hx rfl (hb hby at_79) rfl rfl ?_
    refine st6.trans ?_
    show Steps p.tables e below (T6.setTop (mkF m 84 #[.val (.int sel), .val (.long qg), .second, .val (.long qt), .second, .val (.long qk), .second, .val (.long qd), .second, .val (.int (1 : Int32)), .val (.int (0 : Int32)), .val (.ref sk), .val (.ref oc2), .unset, .unset, .unset, .unset, .unset, .unset] [(.long (0 : Int64))])) _
    refine XS.lconst X6.here hx rfl (hb hby at_84) ?_
    refine XS.lcmp X6.here hx rfl (hb hby at_85) rfl ?_
    show Steps p.tables e below (T6.setTop (mkF m 86 #[.val (.int sel), .val (.long qg), .second, .val (.long qt), .second, .val (.long qk), .second, .val (.long qd), .second, .val (.int (1 : Int32)), .val (.int (0 : Int32)), .val (.ref sk), .val (.ref oc2), .unset, .unset, .unset, .unset, .unset, .unset] [(.int (lcmpW (0 : Int64) (0 : Int64)))])) _
    rw [(by decide : (lcmpW (0 : Int64) (0 : Int64)) = (0 : Int32))]
    show Steps p.tables e below (T6.setTop (mkF m 86 #[.val (.int sel), .val (.long qg), .second, .val (.long qt), .second, .val (.long qk), .second, .val (.long qd), .second, .val (.int (1 : Int32)), .val (.int (0 : Int32)), .val (.ref sk), .val (.ref oc2), .unset, .unset, .unset, .unset, .unset, .unset] [(.int (0 : Int32))])) _
    refine XS.ifNo X6.here hx rfl (hb hby at_86) rfl ((if0 _ _).trans (teq (by decide : (0 : Int32) = (0 : Int32))).2) ?_
    show Steps p.tables e below (T6.setTop (mkF m 89 #[.val (.int sel), .val (.long qg), .second, .val (.long qt), .second, .val (.long qk), .second, .val (.long qd), .second, .val (.int (1 : Int32)), .val (.int (0 : Int32)), .val (.ref sk), .val (.ref oc2), .unset, .unset, .unset, .unset, .unset, .unset] [])) _
    refine XS.iconst X6.here hx rfl (hb hby at_89) ?_
    refine XS.goto X6.here hx rfl (pc0 := 90) (pc' := 94) rfl (hb hby at_90) (by decide) (by decide) ?_
    show Steps p.tables e below (T6.setTop (mkF m 94 #[.val (.int sel), .val (.long qg), .second, .val (.long qt), .second, .val (.long qk), .second, .val (.long qd), .second, .val (.int (1 : Int32)), .val (.int (0 : Int32)), .val (.ref sk), .val (.ref oc2), .unset, .unset, .unset, .unset, .unset, .unset] [(.int (1 : Int32))])) _
    refine XS.istore X6.here hx rfl (hb hby at_94) rfl (l' := #[.val (.int sel), .val (.long qg), .second, .val (.long qt), .second, .val (.long qk), .second, .val (.long qd), .second, .val (.int (1 : Int32)), .val (.int (0 : Int32)), .val (.ref sk), .val (.ref oc2), .val (.int (1 : Int32)), .unset, .unset, .unset, .unset, .unset]) rfl ?_
    show Steps p.tables e below (T6.setTop (mkF m 96 #[.val (.int sel), .val (.long qg), .second, .val (.long qt), .second, .val (.long qk), .second, .val (.long qd), .second, .val (.int (1 : Int32)), .val (.int (0 : Int32)), .val (.ref sk), .val (.ref oc2), .val (.int (1 : Int32)), .unset, .unset, .unset, .unset, .unset] [])) _
    refine XS.iload X6.here hx rfl (hb hby at_96) rfl ?_
    refine XS.ifNo X6.here hx rfl (hb hby at_98) rfl ((if0 _ _).trans (feq (by decide : ¬ ((1 : Int32) = (0 : Int32)))).1) ?_
    show Steps p.tables e below (T6.setTop (mkF m 101 #[.val (.int sel), .val (.long qg), .second, .val (.long qt), .second, .val (.long qk), .second, .val (.long qd), .second, .val (.int (1 : Int32)), .val (.int (0 : Int32)), .val (.ref sk), .val (.ref oc2), .val (.int (1 : Int32)), .unset, .unset, .unset, .unset, .unset] [])) _
    refine XS.iload X6.here hx rfl (hb hby at_101) rfl ?_
    refine XS.ifYes X6.here hx rfl (pc0 := 103) (pc' := 113) rfl (hb hby at_103) rfl ((if0 _ _).trans (teq (by decide : (0 : Int32) = (0 : Int32))).1) (by decide) (by decide) ?_
    show Steps p.tables e below (T6.setTop (mkF m 113 #[.val (.int sel), .val (.long qg), .second, .val (.long qt), .second, .val (.long qk), .second, .val (.long qd), .second, .val (.int (1 : Int32)), .val (.int (0 : Int32)), .val (.ref sk), .val (.ref oc2), .val (.int (1 : Int32)), .unset, .unset, .unset, .unset, .unset] [])) _
    refine st7 _ ?_
    show Steps p.tables e below (T7.setTop (mkF m 115 #[.val (.int sel), .val (.long qg), .second, .val (.long qt), .second, .val (.long qk), .second, .val (.long qd), .second, .val (.int (1 : Int32)), .val (.int (0 : Int32)), .val (.ref sk), .val (.ref oc2), .val (.int (1 : Int32)), .unset, .unset, .unset, .unset, .unset] [(.ref c7)])) _
    refine XS.astore X7.here hx rfl (hb hby at_115) rfl rfl (l' := #[.val (.int sel), .val (.long qg), .second, .val (.long qt), .second, .val (.long qk), .second, .val (.long qd), .second, .val (.int (1 : Int32)), .val (.int (0 : Int32)), .val (.ref sk), .val (.ref oc2), .val (.int (1 : Int32)), .val (.ref c7), .unset, .unset, .unset, .unset]) rfl ?_
    show Steps p.tables e below (T7.setTop (mkF m 117 #[.val (.int sel), .val (.long qg), .second, .val (.long qt), .second, .val (.long qk), .second, .val (.long qd), .second, .val (.int (1 : Int32)), .val (.int (0 : Int32)), .val (.ref sk), .val (.ref oc2), .val (.int (1 : Int32)), .val (.ref c7), .unset, .unset, .unset, .unset] [])) _
    refine XS.goto X7.here hx rfl (pc0 := 117) (pc' := 136) rfl (hb hby at_117) (by decide) (by decide) ?_
    show Steps p.tables e below (T7.setTop (mkF m 136 #[.val (.int sel), .val (.long qg), .second, .val (.long qt), .second, .val (.long qk), .second, .val (.long qd), .second, .val (.int (1 : Int32)), .val (.int (0 : Int32)), .val (.ref sk), .val (.ref oc2), .val (.int (1 : Int32)), .val (.ref c7), .unset, .unset, .unset, .unset] [])) _
    refine XS.aload X7.here hx rfl (hb hby at_136) rfl rfl ?_
    refine XS.aload X7.here hx rfl (hb hby at_138) rfl rfl ?_
    refine XS.iload X7.here hx rfl (hb hby at_140) rfl ?_
    refine st8.trans ?_
    show Steps p.tables e below (T8.setTop (mkF m 145 #[.val (.int sel), .val (.long qg), .second, .val (.long qt), .second, .val (.long qk), .second, .val (.long qd), .second, .val (.int (1 : Int32)), .val (.int (0 : Int32)), .val (.ref sk), .val (.ref oc2), .val (.int (1 : Int32)), .val (.ref c7), .unset, .unset, .unset, .unset] [(.ref os8), (.ref c7)])) _
    refine st9.trans ?_
    show Steps p.tables e below (T9.setTop (mkF m 148 #[.val (.int sel), .val (.long qg), .second, .val (.long qt), .second, .val (.long qk), .second, .val (.long qd), .second, .val (.int (1 : Int32)), .val (.int (0 : Int32)), .val (.ref sk), .val (.ref oc2), .val (.int (1 : Int32)), .val (.ref c7), .unset, .unset, .unset, .unset] [(.int (1 : Int32))])) _
    refine XS.istore X9.here hx rfl (hb hby at_148) rfl (l' := #[.val (.int sel), .val (.long qg), .second, .val (.long qt), .second, .val (.long qk), .second, .val (.long qd), .second, .val (.int (1 : Int32)), .val (.int (0 : Int32)), .val (.ref sk), .val (.ref oc2), .val (.int (1 : Int32)), .val (.ref c7), .val (.int (1 : Int32)), .unset, .unset, .unset]) rfl ?_
    show Steps p.tables e below (T9.setTop (mkF m 150 #[.val (.int sel), .val (.long qg), .second, .val (.long qt), .second, .val (.long qk), .second, .val (.long qd), .second, .val (.int (1 : Int32)), .val (.int (0 : Int32)), .val (.ref sk), .val (.ref oc2), .val (.int (1 : Int32)), .val (.ref c7), .val (.int (1 : Int32)), .unset, .unset, .unset] [])) _
    refine st10 _ ?_
    show Steps p.tables e below (T10.setTop (mkF m 153 #[.val (.int sel), .val (.long qg), .second, .val (.long qt), .second, .val (.long qk), .second, .val (.long qd), .second, .val (.int (1 : Int32)), .val (.int (0 : Int32)), .val (.ref sk), .val (.ref oc2), .val (.int (1 : Int32)), .val (.ref c7), .val (.int (1 : Int32)), .unset, .unset, .unset] [(.ref b10)])) _
    refine XS.dup X10.here hx rfl (hb hby at_153) rfl rfl ?_
    refine XS.aload X10.here hx rfl (hb hby at_154) rfl rfl ?_
    refine XS.lloadN X10.here hx rfl (hb hby at_156) rfl ?_
    refine XS.lloadN X10.here hx rfl (hb hby at_157) rfl ?_
    show Steps p.tables e below (T10.setTop (mkF m 158 #[.val (.int sel), .val (.long qg), .second, .val (.long qt), .second, .val (.long qk), .second, .val (.long qd), .second, .val (.int (1 : Int32)), .val (.int (0 : Int32)), .val (.ref sk), .val (.ref oc2), .val (.int (1 : Int32)), .val (.ref c7), .val (.int (1 : Int32)), .unset, .unset, .unset] [(.long qt), (.long qg), (.ref sk), (.ref b10), (.ref b10)])) _
    refine XS.lload X10.here hx rfl (hb hby at_158) rfl ?_
    refine XS.lload X10.here hx rfl (hb hby at_160) rfl ?_
    refine st11.trans ?_
    show Steps p.tables e below (T11.setTop (mkF m 165 #[.val (.int sel), .val (.long qg), .second, .val (.long qt), .second, .val (.long qk), .second, .val (.long qd), .second, .val (.int (1 : Int32)), .val (.int (0 : Int32)), .val (.ref sk), .val (.ref oc2), .val (.int (1 : Int32)), .val (.ref c7), .val (.int (1 : Int32)), .unset, .unset, .unset] [(.ref b10)])) _
    refine XS.astore X11.here hx rfl (hb hby at_165) rfl rfl (l' := #[.val (.int sel), .val (.long qg), .second, .val (.long qt), .second, .val (.long qk), .second, .val (.long qd), .second, .val (.int (1 : Int32)), .val (.int (0 : Int32)), .val (.ref sk), .val (.ref oc2), .val (.int (1 : Int32)), .val (.ref c7), .val (.int (1 : Int32)), .val (.ref b10), .unset, .unset]) rfl ?_
    show Steps p.tables e below (T11.setTop (mkF m 167 #[.val (.int sel), .val (.long qg), .second, .val (.long qt), .second, .val (.long qk), .second, .val (.long qd), .second, .val (.int (1 : Int32)), .val (.int (0 : Int32)), .val (.ref sk), .val (.ref oc2), .val (.int (1 : Int32)), .val (.ref c7), .val (.int (1 : Int32)), .val (.ref b10), .unset, .unset] [])) _
    refine XS.aload X11.here hx rfl (hb hby at_167) rfl rfl ?_
    refine XS.aload X11.here hx rfl (hb hby at_169) rfl rfl ?_
    refine st12.trans ?_
    show Steps p.tables e below (T12.setTop (mkF m 174 #[.val (.int sel), .val (.long qg), .second, .val (.long qt), .second, .val (.long qk), .second, .val (.long qd), .second, .val (.int (1 : Int32)), .val (.int (0 : Int32)), .val (.ref sk), .val (.ref oc2), .val (.int (1 : Int32)), .val (.ref c7), .val (.int (1 : Int32)), .val (.ref b10), .unset, .unset] [(.ref oc12)])) _
    refine XS.astore X12.here hx rfl (hb hby at_174) rfl rfl (l' := #[.val (.int sel), .val (.long qg), .second, .val (.long qt), .second, .val (.long qk), .second, .val (.long qd), .second, .val (.int (1 : Int32)), .val (.int (0 : Int32)), .val (.ref sk), .val (.ref oc2), .val (.int (1 : Int32)), .val (.ref c7), .val (.int (1 : Int32)), .val (.ref b10), .val (.ref oc12), .unset]) rfl ?_
    show Steps p.tables e below (T12.setTop (mkF m 176 #[.val (.int sel), .val (.long qg), .second, .val (.long qt), .second, .val (.long qk), .second, .val (.long qd), .second, .val (.int (1 : Int32)), .val (.int (0 : Int32)), .val (.ref sk), .val (.ref oc2), .val (.int (1 : Int32)), .val (.ref c7), .val (.int (1 : Int32)), .val (.ref b10), .val (.ref oc12), .unset] [])) _
    refine XS.aload X12.here hx rfl (hb hby at_176) rfl rfl ?_
    refine st14.trans ?_
    show Steps p.tables e below (T14.setTop (mkF m 181 #[.val (.int sel), .val (.long qg), .second, .val (.long qt), .second, .val (.long qk), .second, .val (.long qd), .second, .val (.int (1 : Int32)), .val (.int (0 : Int32)), .val (.ref sk), .val (.ref oc2), .val (.int (1 : Int32)), .val (.ref c7), .val (.int (1 : Int32)), .val (.ref b10), .val (.ref oc12), .unset] [(.long qg)])) _
    refine XS.lloadN X14.here hx rfl (hb hby at_181) rfl ?_
    refine XS.lcmp X14.here hx rfl (hb hby at_182) rfl ?_
    show Steps p.tables e below (T14.setTop (mkF m 183 #[.val (.int sel), .val (.long qg), .second, .val (.long qt), .second, .val (.long qk), .second, .val (.long qd), .second, .val (.int (1 : Int32)), .val (.int (0 : Int32)), .val (.ref sk), .val (.ref oc2), .val (.int (1 : Int32)), .val (.ref c7), .val (.int (1 : Int32)), .val (.ref b10), .val (.ref oc12), .unset] [(.int (lcmpW qg qg))])) _
    rw [((lw_eq qg qg).mpr rfl)]
    show Steps p.tables e below (T14.setTop (mkF m 183 #[.val (.int sel), .val (.long qg), .second, .val (.long qt), .second, .val (.long qk), .second, .val (.long qd), .second, .val (.int (1 : Int32)), .val (.int (0 : Int32)), .val (.ref sk), .val (.ref oc2), .val (.int (1 : Int32)), .val (.ref c7), .val (.int (1 : Int32)), .val (.ref b10), .val (.ref oc12), .unset] [(.int (0 : Int32))])) _
    refine XS.ifNo X14.here hx rfl (hb hby at_183) rfl ((if0 _ _).trans (teq (by decide : (0 : Int32) = (0 : Int32))).2) ?_
    show Steps p.tables e below (T14.setTop (mkF m 186 #[.val (.int sel), .val (.long qg), .second, .val (.long qt), .second, .val (.long qk), .second, .val (.long qd), .second, .val (.int (1 : Int32)), .val (.int (0 : Int32)), .val (.ref sk), .val (.ref oc2), .val (.int (1 : Int32)), .val (.ref c7), .val (.int (1 : Int32)), .val (.ref b10), .val (.ref oc12), .unset] [])) _
    refine XS.aload X14.here hx rfl (hb hby at_186) rfl rfl ?_
    refine st15.trans ?_
    show Steps p.tables e below (T15.setTop (mkF m 191 #[.val (.int sel), .val (.long qg), .second, .val (.long qt), .second, .val (.long qk), .second, .val (.long qd), .second, .val (.int (1 : Int32)), .val (.int (0 : Int32)), .val (.ref sk), .val (.ref oc2), .val (.int (1 : Int32)), .val (.ref c7), .val (.int (1 : Int32)), .val (.ref b10), .val (.ref oc12), .unset] [(.long qt)])) _
    refine XS.lloadN X15.here hx rfl (hb hby at_191) rfl ?_
    refine XS.lcmp X15.here hx rfl (hb hby at_192) rfl ?_
    show Steps p.tables e below (T15.setTop (mkF m 193 #[.val (.int sel), .val (.long qg), .second, .val (.long qt), .second, .val (.long qk), .second, .val (.long qd), .second, .val (.int (1 : Int32)), .val (.int (0 : Int32)), .val (.ref sk), .val (.ref oc2), .val (.int (1 : Int32)), .val (.ref c7), .val (.int (1 : Int32)), .val (.ref b10), .val (.ref oc12), .unset] [(.int (lcmpW qt qt))])) _
    rw [((lw_eq qt qt).mpr rfl)]
    show Steps p.tables e below (T15.setTop (mkF m 193 #[.val (.int sel), .val (.long qg), .second, .val (.long qt), .second, .val (.long qk), .second, .val (.long qd), .second, .val (.int (1 : Int32)), .val (.int (0 : Int32)), .val (.ref sk), .val (.ref oc2), .val (.int (1 : Int32)), .val (.ref c7), .val (.int (1 : Int32)), .val (.ref b10), .val (.ref oc12), .unset] [(.int (0 : Int32))])) _
    refine XS.ifNo X15.here hx rfl (hb hby at_193) rfl ((if0 _ _).trans (teq (by decide : (0 : Int32) = (0 : Int32))).2) ?_
    show Steps p.tables e below (T15.setTop (mkF m 196 #[.val (.int sel), .val (.long qg), .second, .val (.long qt), .second, .val (.long qk), .second, .val (.long qd), .second, .val (.int (1 : Int32)), .val (.int (0 : Int32)), .val (.ref sk), .val (.ref oc2), .val (.int (1 : Int32)), .val (.ref c7), .val (.int (1 : Int32)), .val (.ref b10), .val (.ref oc12), .unset] [])) _
    refine XS.aload X15.here hx rfl (hb hby at_196) rfl rfl ?_
    refine st16.trans ?_
    show Steps p.tables e below (T16.setTop (mkF m 201 #[.val (.int sel), .val (.long qg), .second, .val (.long qt), .second, .val (.long qk), .second, .val (.long qd), .second, .val (.int (1 : Int32)), .val (.int (0 : Int32)), .val (.ref sk), .val (.ref oc2), .val (.int (1 : Int32)), .val (.ref c7), .val (.int (1 : Int32)), .val (.ref b10), .val (.ref oc12), .unset] [(.long qk)])) _
    refine XS.lload X16.here hx rfl (hb hby at_201) rfl ?_
    refine XS.lcmp X16.here hx rfl (hb hby at_203) rfl ?_
    show Steps p.tables e below (T16.setTop (mkF m 204 #[.val (.int sel), .val (.long qg), .second, .val (.long qt), .second, .val (.long qk), .second, .val (.long qd), .second, .val (.int (1 : Int32)), .val (.int (0 : Int32)), .val (.ref sk), .val (.ref oc2), .val (.int (1 : Int32)), .val (.ref c7), .val (.int (1 : Int32)), .val (.ref b10), .val (.ref oc12), .unset] [(.int (lcmpW qk qk))])) _
    rw [((lw_eq qk qk).mpr rfl)]
    show Steps p.tables e below (T16.setTop (mkF m 204 #[.val (.int sel), .val (.long qg), .second, .val (.long qt), .second, .val (.long qk), .second, .val (.long qd), .second, .val (.int (1 : Int32)), .val (.int (0 : Int32)), .val (.ref sk), .val (.ref oc2), .val (.int (1 : Int32)), .val (.ref c7), .val (.int (1 : Int32)), .val (.ref b10), .val (.ref oc12), .unset] [(.int (0 : Int32))])) _
    refine XS.ifNo X16.here hx rfl (hb hby at_204) rfl ((if0 _ _).trans (teq (by decide : (0 : Int32) = (0 : Int32))).2) ?_
    show Steps p.tables e below (T16.setTop (mkF m 207 #[.val (.int sel), .val (.long qg), .second, .val (.long qt), .second, .val (.long qk), .second, .val (.long qd), .second, .val (.int (1 : Int32)), .val (.int (0 : Int32)), .val (.ref sk), .val (.ref oc2), .val (.int (1 : Int32)), .val (.ref c7), .val (.int (1 : Int32)), .val (.ref b10), .val (.ref oc12), .unset] [])) _
    refine XS.aload X16.here hx rfl (hb hby at_207) rfl rfl ?_
    refine st17.trans ?_
    show Steps p.tables e below (T17.setTop (mkF m 212 #[.val (.int sel), .val (.long qg), .second, .val (.long qt), .second, .val (.long qk), .second, .val (.long qd), .second, .val (.int (1 : Int32)), .val (.int (0 : Int32)), .val (.ref sk), .val (.ref oc2), .val (.int (1 : Int32)), .val (.ref c7), .val (.int (1 : Int32)), .val (.ref b10), .val (.ref oc12), .unset] [(.long qd)])) _
    refine XS.lload X17.here hx rfl (hb hby at_212) rfl ?_
    refine XS.lcmp X17.here hx rfl (hb hby at_214) rfl ?_
    show Steps p.tables e below (T17.setTop (mkF m 215 #[.val (.int sel), .val (.long qg), .second, .val (.long qt), .second, .val (.long qk), .second, .val (.long qd), .second, .val (.int (1 : Int32)), .val (.int (0 : Int32)), .val (.ref sk), .val (.ref oc2), .val (.int (1 : Int32)), .val (.ref c7), .val (.int (1 : Int32)), .val (.ref b10), .val (.ref oc12), .unset] [(.int (lcmpW qd qd))])) _
    rw [((lw_eq qd qd).mpr rfl)]
    show Steps p.tables e below (T17.setTop (mkF m 215 #[.val (.int sel), .val (.long qg), .second, .val (.long qt), .second, .val (.long qk), .second, .val (.long qd), .second, .val (.int (1 : Int32)), .val (.int (0 : Int32)), .val (.ref sk), .val (.ref oc2), .val (.int (1 : Int32)), .val (.ref c7), .val (.int (1 : Int32)), .val (.ref b10), .val (.ref oc12), .unset] [(.int (0 : Int32))])) _
    refine XS.ifNo X17.here hx rfl (hb hby at_215) rfl ((if0 _ _).trans (teq (by decide : (0 : Int32) = (0 : Int32))).2) ?_
    show Steps p.tables e below (T17.setTop (mkF m 218 #[.val (.int sel), .val (.long qg), .second, .val (.long qt), .second, .val (.long qk), .second, .val (.long qd), .second, .val (.int (1 : Int32)), .val (.int (0 : Int32)), .val (.ref sk), .val (.ref oc2), .val (.int (1 : Int32)), .val (.ref c7), .val (.int (1 : Int32)), .val (.ref b10), .val (.ref oc12), .unset] [])) _
    refine XS.iconst X17.here hx rfl (hb hby at_218) ?_
    refine XS.goto X17.here hx rfl (pc0 := 219) (pc' := 223) rfl (hb hby at_219) (by decide) (by decide) ?_
    show Steps p.tables e below (T17.setTop (mkF m 223 #[.val (.int sel), .val (.long qg), .second, .val (.long qt), .second, .val (.long qk), .second, .val (.long qd), .second, .val (.int (1 : Int32)), .val (.int (0 : Int32)), .val (.ref sk), .val (.ref oc2), .val (.int (1 : Int32)), .val (.ref c7), .val (.int (1 : Int32)), .val (.ref b10), .val (.ref oc12), .unset] [(.int (1 : Int32))])) _
    refine XS.istore X17.here hx rfl (hb hby at_223) rfl (l' := #[.val (.int sel), .val (.long qg), .second, .val (.long qt), .second, .val (.long qk), .second, .val (.long qd), .second, .val (.int (1 : Int32)), .val (.int (0 : Int32)), .val (.ref sk), .val (.ref oc2), .val (.int (1 : Int32)), .val (.ref c7), .val (.int (1 : Int32)), .val (.ref b10), .val (.ref oc12), .val (.int (1 : Int32))]) rfl ?_
    show Steps p.tables e below (T17.setTop (mkF m 225 #[.val (.int sel), .val (.long qg), .second, .val (.long qt), .second, .val (.long qk), .second, .val (.long qd), .second, .val (.int (1 : Int32)), .val (.int (0 : Int32)), .val (.ref sk), .val (.ref oc2), .val (.int (1 : Int32)), .val (.ref c7), .val (.int (1 : Int32)), .val (.ref b10), .val (.ref oc12), .val (.int (1 : Int32))] [])) _
    refine XS.iload X17.here hx rfl (hb hby at_225) rfl ?_
    refine XS.ifNo X17.here hx rfl (hb hby at_227) rfl ((if0 _ _).trans (feq (by decide : ¬ ((1 : Int32) = (0 : Int32)))).1) ?_
    show Steps p.tables e below (T17.setTop (mkF m 230 #[.val (.int sel), .val (.long qg), .second, .val (.long qt), .second, .val (.long qk), .second, .val (.long qd), .second, .val (.int (1 : Int32)), .val (.int (0 : Int32)), .val (.ref sk), .val (.ref oc2), .val (.int (1 : Int32)), .val (.ref c7), .val (.int (1 : Int32)), .val (.ref b10), .val (.ref oc12), .val (.int (1 : Int32))] [])) _
    refine XS.iload X17.here hx rfl (hb hby at_230) rfl ?_
    refine XS.ifNo X17.here hx rfl (hb hby at_232) rfl ((if0 _ _).trans (feq (by decide : ¬ ((1 : Int32) = (0 : Int32)))).1) ?_
    show Steps p.tables e below (T17.setTop (mkF m 235 #[.val (.int sel), .val (.long qg), .second, .val (.long qt), .second, .val (.long qk), .second, .val (.long qd), .second, .val (.int (1 : Int32)), .val (.int (0 : Int32)), .val (.ref sk), .val (.ref oc2), .val (.int (1 : Int32)), .val (.ref c7), .val (.int (1 : Int32)), .val (.ref b10), .val (.ref oc12), .val (.int (1 : Int32))] [])) _
    refine XS.iload X17.here hx rfl (hb hby at_235) rfl ?_
    refine XS.ifNo X17.here hx rfl (hb hby at_237) rfl ((if0 _ _).trans (feq (by decide : ¬ ((1 : Int32) = (0 : Int32)))).1) ?_
    show Steps p.tables e below (T17.setTop (mkF m 240 #[.val (.int sel), .val (.long qg), .second, .val (.long qt), .second, .val (.long qk), .second, .val (.long qd), .second, .val (.int (1 : Int32)), .val (.int (0 : Int32)), .val (.ref sk), .val (.ref oc2), .val (.int (1 : Int32)), .val (.ref c7), .val (.int (1 : Int32)), .val (.ref b10), .val (.ref oc12), .val (.int (1 : Int32))] [])) _
    refine XS.iconst X17.here hx rfl (hb hby at_240) ?_
    refine XS.goto X17.here hx rfl (pc0 := 241) (pc' := 245) rfl (hb hby at_241) (by decide) (by decide) ?_
    show Steps p.tables e below (T17.setTop (mkF m 245 #[.val (.int sel), .val (.long qg), .second, .val (.long qt), .second, .val (.long qk), .second, .val (.long qd), .second, .val (.int (1 : Int32)), .val (.int (0 : Int32)), .val (.ref sk), .val (.ref oc2), .val (.int (1 : Int32)), .val (.ref c7), .val (.int (1 : Int32)), .val (.ref b10), .val (.ref oc12), .val (.int (1 : Int32))] [(.int (1 : Int32))])) _
    exact retN X17 hx (t := .boolean) Bd.returns (by simp) (hb hby at_245) hr
  · show (Q1 n0) _ T17.heap _
    rw [e17]
    exact ⟨rfl, N17⟩
  · show CHr Z consts_1 s.vm s.heap T17.vm T17.heap
    rw [hh, e17]
    exact Ch12.trans (CHv.at (s := s) (vm0 := T8.vm) X17 hZ8 (own_EW hw) Ch12.1)
set_option maxRecDepth 65536 in
set_option maxHeartbeats 40000000 in
theorem law_01 (l : Launch) (Z : State) (a0 : Array Value) (hw : ∀ d ∈ tables_1, d.before a0 Z = true) (sel : Int32) (qg qt qk qd : Int64) (sk re : Addr) (zc : Int32) (d1 : Addr) (cd : Cell) (h0 : Heap) (n0 : Nat) (Z0 : n0 ≤ h0.size) (S_SKIP : Sta Z h0 "com/example/known_origins/knownorigins/store/IfStored" "SKIP" "Lcom/example/known_origins/knownorigins/store/IfStored;" (.ref sk)) (S_REFUSE : Sta Z h0 "com/example/known_origins/knownorigins/store/IfStored" "REFUSE" "Lcom/example/known_origins/knownorigins/store/IfStored;" (.ref re)) (hrs : ¬ (re = sk)) (S_CS : Sta Z h0 "java/lang/String" "COMPACT_STRINGS" "Z" (.int zc)) (hz : ¬ (zc = (0 : Int32))) (S_D1 : Sta Z h0 "java/lang/Integer" "DigitOnes" "[B" (.ref d1)) (Ad : Arr Z h0 d1 cd .byte) (hind : ¬ ((0 : Int32) < 0 ∨ cd.slots.size ≤ (0 : Int32).toNatClampNeg)) (hatd : cd.slots[(0 : Int32).toNatClampNeg]? = some (.int (48 : Int32))) (hc3 : (sel &&& (1 : Int32)) = (0 : Int32)) (hc16 : ¬ ((sel &&& (2 : Int32)) = (0 : Int32))) :
    MH l Z x code maxLocals ret room_1 #[(.int sel), (.long qg), (.long qt), (.long qk), (.long qd)] h0 (Q1 n0) := by
  intro ws
  refine MetFree.of_bodySF (plainFor_of_name pn_0) hisR ?_
  intro p e s m args below meth c s₁ Bd hml0 hP hK
  obtain ⟨rfl, hZ, hh, hCH⟩ := hP
  have hx := Bd.exec
  have hby := Bd.bytes
  have hml : c.maxLocals = 19 := hml0
  have hown : s.vm.findClass "com/example/known_origins/knownorigins/store/LoadCountNonePinLaw" = some m.cls := findClass_of_methodNamed Bd.named
  have hnm := (name_of_methodNamed Bd.named Bd.method).1
  have X0 : Stand p l e room_1 s m #[(.int sel), (.long qg), (.long qt), (.long qk), (.long qd)] below meth c s₁ [] 0 0 := Stand.of_body Bd
  have e0 : s₁.heap = h0 := by rw [← hh, Bd.state]; rfl
  have N0 := Fr.nil n0
  have hSi : s.Since s.vm 0 := (State.WarmedH.refl s).since 0
  have Ch0 : CHr Z consts_1 s.vm h0 s.vm h0 := CHr.refl hCH
  have pre0 : ∀ t_, Steps p.tables e below (s₁.setTop (mkF m 0 #[.val (.int sel), .val (.long qg), .second, .val (.long qt), .second, .val (.long qk), .second, .val (.long qd), .second, .unset, .unset, .unset, .unset, .unset, .unset, .unset, .unset, .unset, .unset] [])) t_ → Steps p.tables e below (s₁.setTop (entryFrame m #[(.int sel), (.long qg), (.long qt), (.long qk), (.long qd)] maxLocals)) t_ := fun t_ k_ => castTop (ef_0 m sel qg qt qk qd) k_
  obtain ⟨T1, X1, e1, st1⟩ := getS2 X0 hx hZ hown (host := "") (Or.inl (hw _ (M 0))) Via.refl e0 S_REFUSE (g := (mkF m 37 #[.val (.int sel), .val (.long qg), .second, .val (.long qt), .second, .val (.long qk), .second, .val (.long qd), .second, .val (.int (0 : Int32)), .val (.int (1 : Int32)), .unset, .unset, .unset, .unset, .unset, .unset, .unset, .unset] [])) rfl (hb hby at_37)
  obtain ⟨_, _, ⟨T2, L2, k2, n2⟩, -, X2, ⟨Lc2, hQ2, l2, y2, z2⟩, st2⟩ := Jvm.LawKit.callS X1 hx (y := (⟨"com/example/known_origins/knownorigins/store/LoadCount", "none", "(Lcom/example/known_origins/knownorigins/store/IfStored;)Lcom/example/known_origins/knownorigins/store/LoadCount;"⟩ : MethodName)) hown (mvT hZ (hw _ (M 3))) (mvT hZ (hw _ (M 4))) (mvT hZ (hw _ (M 5))) (mvT hZ (hw _ (M 6))) (by decide) (backOf (W := 0) ((lcNone l Z a0 hw re h0 n0 (Nat.le_trans Z0 (Keep.refl h0 []).1)) []) hZ (hw _ (M 6)) (hw _ (M 5)) (by decide) (by decide)) (g := (mkF m 44 #[.val (.int sel), .val (.long qg), .second, .val (.long qt), .second, .val (.long qk), .second, .val (.long qd), .second, .val (.int (0 : Int32)), .val (.int (1 : Int32)), .val (.ref re), .unset, .unset, .unset, .unset, .unset, .unset, .unset] [(.ref re)])) rfl (by rw [hml]; rfl) (argsL := [(.ref re)]) (rest := []) (lenOf pd_oLcom_example_known_origins_knownorigins_store_IfStored_cLcom_example_known_origins_knownorigins_store_LoadCount_ rfl) rfl (by show 2 * 0 + _ ≤ _; exact Nat.le_of_eq rfl) (hb hby at_44) (fun _ _ => ⟨rfl, e1, (by decide : 0 + 1 ≤ _), (by decide : 0 + 5 ≤ _)⟩)
  dsimp only [Pt.U, Pt.locs, Pt.cells, Pt.slots] at X2 l2 y2 z2 st2 hQ2
  subst l2 y2 z2
  obtain ⟨oc2, rfl, N2q, Kq2, sz2q, Bq2⟩ := hQ2
  have sz_oc2 : h0.size ≤ oc2 := Nat.le_trans (Keep.refl h0 []).1 sz2q
  have g_oc2 : n0 ≤ oc2 := Nat.le_trans Z0 sz_oc2
  have ne_d1_oc2 : d1 ≠ oc2 := Nat.ne_of_lt (Nat.lt_of_lt_of_le Ad.lt sz2q)
  have K2 : Keep h0 T2.heap [] := (Keep.refl h0 []).trans Kq2 all0
  have Ch2 : CHr Z consts_1 s.vm h0 s.vm T2.heap := Ch0.trans (CHr.keep Kq2 sf0 Ch0.1)
  have Sf2_oc2 : Safe Z consts_1 s.vm T2.heap oc2 := Safe.keep Kq2 sf0 Ch0.1 (Safe.new sz2q)
  have hkk2 : 0 ≤ T2.heap.size := Nat.le_trans (Nat.zero_le _) Kq2.1
  have N2 := Fr.app N0 N2q
  obtain ⟨cq3, kq3, q3a, q3b, q3c⟩ := isOf hZ rfl Bq2.1
  obtain ⟨_, _, ⟨T3, L3, k3, n3⟩, -, X3, ⟨Lc3, hQ3, l3, y3, z3⟩, st3⟩ := X2.virtualBack hx (y := (⟨"com/example/known_origins/knownorigins/store/LoadCount", "graphs", "()J"⟩ : MethodName)) (z := (⟨"com/example/known_origins/knownorigins/store/LoadCount", "graphs", "()J"⟩ : MethodName)) hown (mvT hZ (hw _ (M 25))) (mvT hZ (hw _ (M 26))) (notFace_of_selects (args := #[]) (mvT hZ (hw _ (M 28)))) (mvT hZ (hw _ (M 28))) (mvT hZ (hw _ (M 27))) (by decide) (backOf (W := 0) ((lc_graphs l Z a0 hw oc2 re (0 : Int64) (0 : Int64) (0 : Int64) (0 : Int64) T2.heap n0 (Nat.le_trans Z0 K2.1) ⟨Bq2.1, Bq2.2.1, Bq2.2.2.1, Bq2.2.2.2.1, Bq2.2.2.2.2.1, Bq2.2.2.2.2.2⟩) []) hZ (hw _ (M 29)) (hw _ (M 5)) (by decide) (by decide)) q3a q3c (g := (mkF m 51 #[.val (.int sel), .val (.long qg), .second, .val (.long qt), .second, .val (.long qk), .second, .val (.long qd), .second, .val (.int (0 : Int32)), .val (.int (1 : Int32)), .val (.ref re), .val (.ref oc2), .unset, .unset, .unset, .unset, .unset, .unset] [(.ref oc2)])) rfl (by rw [hml]; rfl) (Steps.refl _) (argsL := []) (rest := []) (lenOf pd_ocJ rfl) rfl (by show 2 * 0 + _ ≤ _; exact Nat.le_of_eq rfl) (hb hby at_51) (fun _ _ => ⟨rfl, rfl, (by decide : 1 + 0 ≤ _), (by decide : 5 + 0 ≤ _)⟩)
  dsimp only [Pt.U, Pt.locs, Pt.cells, Pt.slots] at X3 l3 y3 z3 st3 hQ3
  subst l3 y3 z3
  obtain ⟨rfl, N3q, e3⟩ := hQ3
  have N3 := Fr.app N2 N3q
  obtain ⟨cq4, kq4, q4a, q4b, q4c⟩ := isOf hZ e3 Bq2.1
  obtain ⟨_, _, ⟨T4, L4, k4, n4⟩, -, X4, ⟨Lc4, hQ4, l4, y4, z4⟩, st4⟩ := X3.virtualBack hx (y := (⟨"com/example/known_origins/knownorigins/store/LoadCount", "triples", "()J"⟩ : MethodName)) (z := (⟨"com/example/known_origins/knownorigins/store/LoadCount", "triples", "()J"⟩ : MethodName)) hown (mvT hZ (hw _ (M 30))) (mvT hZ (hw _ (M 31))) (notFace_of_selects (args := #[]) (mvT hZ (hw _ (M 33)))) (mvT hZ (hw _ (M 33))) (mvT hZ (hw _ (M 32))) (by decide) (backOf (W := 0) ((lc_triples l Z a0 hw oc2 re (0 : Int64) (0 : Int64) (0 : Int64) (0 : Int64) T2.heap n0 (Nat.le_trans Z0 K2.1) ⟨Bq2.1, Bq2.2.1, Bq2.2.2.1, Bq2.2.2.2.1, Bq2.2.2.2.2.1, Bq2.2.2.2.2.2⟩) []) hZ (hw _ (M 34)) (hw _ (M 5)) (by decide) (by decide)) q4a q4c (g := (mkF m 61 #[.val (.int sel), .val (.long qg), .second, .val (.long qt), .second, .val (.long qk), .second, .val (.long qd), .second, .val (.int (0 : Int32)), .val (.int (1 : Int32)), .val (.ref re), .val (.ref oc2), .unset, .unset, .unset, .unset, .unset, .unset] [(.ref oc2)])) rfl (by rw [hml]; rfl) (Steps.refl _) (argsL := []) (rest := []) (lenOf pd_ocJ rfl) rfl (by show 2 * 0 + _ ≤ _; exact Nat.le_of_eq rfl) (hb hby at_61) (fun _ _ => ⟨rfl, e3, (by decide : 1 + 0 ≤ _), (by decide : 5 + 0 ≤ _)⟩)
  dsimp only [Pt.U, Pt.locs, Pt.cells, Pt.slots] at X4 l4 y4 z4 st4 hQ4
  subst l4 y4 z4
  obtain ⟨rfl, N4q, e4⟩ := hQ4
  have N4 := Fr.app N3 N4q
  obtain ⟨cq5, kq5, q5a, q5b, q5c⟩ := isOf hZ e4 Bq2.1
  obtain ⟨_, _, ⟨T5, L5, k5, n5⟩, -, X5, ⟨Lc5, hQ5, l5, y5, z5⟩, st5⟩ := X4.virtualBack hx (y := (⟨"com/example/known_origins/knownorigins/store/LoadCount", "skipped", "()J"⟩ : MethodName)) (z := (⟨"com/example/known_origins/knownorigins/store/LoadCount", "skipped", "()J"⟩ : MethodName)) hown (mvT hZ (hw _ (M 35))) (mvT hZ (hw _ (M 36))) (notFace_of_selects (args := #[]) (mvT hZ (hw _ (M 38)))) (mvT hZ (hw _ (M 38))) (mvT hZ (hw _ (M 37))) (by decide) (backOf (W := 0) ((lc_skipped l Z a0 hw oc2 re (0 : Int64) (0 : Int64) (0 : Int64) (0 : Int64) T2.heap n0 (Nat.le_trans Z0 K2.1) ⟨Bq2.1, Bq2.2.1, Bq2.2.2.1, Bq2.2.2.2.1, Bq2.2.2.2.2.1, Bq2.2.2.2.2.2⟩) []) hZ (hw _ (M 39)) (hw _ (M 5)) (by decide) (by decide)) q5a q5c (g := (mkF m 71 #[.val (.int sel), .val (.long qg), .second, .val (.long qt), .second, .val (.long qk), .second, .val (.long qd), .second, .val (.int (0 : Int32)), .val (.int (1 : Int32)), .val (.ref re), .val (.ref oc2), .unset, .unset, .unset, .unset, .unset, .unset] [(.ref oc2)])) rfl (by rw [hml]; rfl) (Steps.refl _) (argsL := []) (rest := []) (lenOf pd_ocJ rfl) rfl (by show 2 * 0 + _ ≤ _; exact Nat.le_of_eq rfl) (hb hby at_71) (fun _ _ => ⟨rfl, e4, (by decide : 1 + 0 ≤ _), (by decide : 5 + 0 ≤ _)⟩)
  dsimp only [Pt.U, Pt.locs, Pt.cells, Pt.slots] at X5 l5 y5 z5 st5 hQ5
  subst l5 y5 z5
  obtain ⟨rfl, N5q, e5⟩ := hQ5
  have N5 := Fr.app N4 N5q
  obtain ⟨cq6, kq6, q6a, q6b, q6c⟩ := isOf hZ e5 Bq2.1
  obtain ⟨_, _, ⟨T6, L6, k6, n6⟩, -, X6, ⟨Lc6, hQ6, l6, y6, z6⟩, st6⟩ := X5.virtualBack hx (y := (⟨"com/example/known_origins/knownorigins/store/LoadCount", "derived", "()J"⟩ : MethodName)) (z := (⟨"com/example/known_origins/knownorigins/store/LoadCount", "derived", "()J"⟩ : MethodName)) hown (mvT hZ (hw _ (M 40))) (mvT hZ (hw _ (M 41))) (notFace_of_selects (args := #[]) (mvT hZ (hw _ (M 43)))) (mvT hZ (hw _ (M 43))) (mvT hZ (hw _ (M 42))) (by decide) (backOf (W := 0) ((lc_derived l Z a0 hw oc2 re (0 : Int64) (0 : Int64) (0 : Int64) (0 : Int64) T2.heap n0 (Nat.le_trans Z0 K2.1) ⟨Bq2.1, Bq2.2.1, Bq2.2.2.1, Bq2.2.2.2.1, Bq2.2.2.2.2.1, Bq2.2.2.2.2.2⟩) []) hZ (hw _ (M 44)) (hw _ (M 5)) (by decide) (by decide)) q6a q6c (g := (mkF m 81 #[.val (.int sel), .val (.long qg), .second, .val (.long qt), .second, .val (.long qk), .second, .val (.long qd), .second, .val (.int (0 : Int32)), .val (.int (1 : Int32)), .val (.ref re), .val (.ref oc2), .unset, .unset, .unset, .unset, .unset, .unset] [(.ref oc2)])) rfl (by rw [hml]; rfl) (Steps.refl _) (argsL := []) (rest := []) (lenOf pd_ocJ rfl) rfl (by show 2 * 0 + _ ≤ _; exact Nat.le_of_eq rfl) (hb hby at_81) (fun _ _ => ⟨rfl, e5, (by decide : 1 + 0 ≤ _), (by decide : 5 + 0 ≤ _)⟩)
  dsimp only [Pt.U, Pt.locs, Pt.cells, Pt.slots] at X6 l6 y6 z6 st6 hQ6
  subst l6 y6 z6
  obtain ⟨rfl, N6q, e6⟩ := hQ6
  have N6 := Fr.app N5 N6q
  obtain ⟨c7, T7, h7, k7, sb7, kS7, X7, e7, E7, hS7, hk7, hZ7, hown7, Es7, Fc7, Fv7, Va7, -, -, CR7, -, hn7, st7⟩ := ldcCH (s := s) (vm0 := s.vm) X6 hx hZ hown (hw _ (M 236)) (own_strA hw) e6 hSi hkk2 (own_EW hw) (List.mem_of_getElem? (i := 7) rfl) Ch2.1 lit_1 (z := (35 : Int32)) (by decide) (by rfl) (g := (mkF m 125 #[.val (.int sel), .val (.long qg), .second, .val (.long qt), .second, .val (.long qk), .second, .val (.long qd), .second, .val (.int (0 : Int32)), .val (.int (1 : Int32)), .val (.ref re), .val (.ref oc2), .val (.int (1 : Int32)), .unset, .unset, .unset, .unset, .unset] [])) rfl (hb hby at_125) (n := 140) (by decide) (by decide) (by decide) (by decide)
  have K7 : Keep h0 h7 [] := K2.ext E7
  have Ch7 : CHr Z consts_1 s.vm h0 T7.vm h7 := Ch2.trans CR7
  have Sf7_oc2 : Safe Z consts_1 T7.vm h7 oc2 := CHr.safe CR7 Bq2.1.lt Sf2_oc2
  obtain ⟨cq8, kq8, q8a, q8b, q8c⟩ := isOf hZ7 e7 (Bq2.1.ext E7)
  obtain ⟨_, _, ⟨T8, L8, k8, n8⟩, -, X8, sc8, gr8, ⟨Lc8, hQ8, l8, y8, z8, ch8⟩, st8⟩ := X7.virtualBackS hx (y := (⟨"com/example/known_origins/knownorigins/store/LoadCount", "line", "(Z)Ljava/lang/String;"⟩ : MethodName)) (z := (⟨"com/example/known_origins/knownorigins/store/LoadCount", "line", "(Z)Ljava/lang/String;"⟩ : MethodName)) hown7 (mvT hZ7 (hw _ (M 53))) (mvT hZ7 (hw _ (M 54))) (notFace_of_selects (args := #[]) (mvT hZ7 (hw _ (M 56)))) (mvT hZ7 (hw _ (M 56))) (mvT hZ7 (hw _ (M 55))) (by decide) (backOfSH (W := 1) ((line_01 l Z a0 hw oc2 sk re zc d1 cd h7 n0 (Nat.le_trans Z0 K7.1) ⟨(Bq2.1.ext E7), (Bq2.2.1.ext E7), (Bq2.2.2.1.ext E7), (Bq2.2.2.2.1.ext E7), (Bq2.2.2.2.2.1.ext E7), (Bq2.2.2.2.2.2.ext E7)⟩ ((own_sta_keepN S_SKIP Kq2 ns0).ext E7) ((own_sta_keepN S_CS Kq2 ns0).ext E7) hz ((own_sta_keepN S_D1 Kq2 ns0).ext E7) ((own_arr_keep Ad Kq2 nin0).ext E7) hind hatd hrs) []) hZ7 (hw _ (M 57)) (hw _ (M 5)) (by decide) (by decide) (own_EW hw) Ch7.1) q8a q8c (g := (mkF m 142 #[.val (.int sel), .val (.long qg), .second, .val (.long qt), .second, .val (.long qk), .second, .val (.long qd), .second, .val (.int (0 : Int32)), .val (.int (1 : Int32)), .val (.ref re), .val (.ref oc2), .val (.int (1 : Int32)), .val (.ref c7), .unset, .unset, .unset, .unset] [(.int (1 : Int32)), (.ref oc2), (.ref c7)])) rfl (by rw [hml]; rfl) (Steps.refl _) (argsL := [(.int (1 : Int32))]) (rest := [(.ref c7)]) (lenOf pd_oZcLjava_lang_String_ rfl) rfl (by show 2 * 0 + _ ≤ _; exact Nat.le_of_eq rfl) (hb hby at_142) (fun _ _ => ⟨rfl, e7, (by decide : 3 + 18 ≤ _), (by decide : 149 + 422 ≤ _)⟩)
  dsimp only [Pt.U, Pt.locs, Pt.cells, Pt.slots] at X8 l8 y8 z8 st8 hQ8 sc8 gr8
  subst l8 y8 z8
  dsimp only [Pt.U, Pt.locs, Pt.cells, Pt.slots] at ch8
  obtain ⟨Y8, hS8, hZ8, hown8⟩ := rebS (s := s) hS7 (by rw [e7]; exact hk7) X8 sc8 gr8 hZ7 hown7
  obtain ⟨os8, sr8, kS8, rfl, N8q, Kq8, so8q, sr8q, Tq8⟩ := hQ8
  have sz_os8 : h0.size ≤ os8 := Nat.le_trans K7.1 so8q
  have g_os8 : n0 ≤ os8 := Nat.le_trans Z0 sz_os8
  have ne_c7_os8 : c7 ≠ os8 := Nat.ne_of_lt (Nat.lt_of_lt_of_le Es7.lt so8q)
  have ne_d1_os8 : d1 ≠ os8 := Nat.ne_of_lt (Nat.lt_of_lt_of_le ((own_arr_keep Ad Kq2 nin0).ext E7).lt so8q)
  have ne_oc2_os8 : oc2 ≠ os8 := Nat.ne_of_lt (Nat.lt_of_lt_of_le (Bq2.1.ext E7).lt so8q)
  have ne_sb7_os8 : sb7 ≠ os8 := Nat.ne_of_lt (Nat.lt_of_lt_of_le Va7.lt so8q)
  have sz_sr8 : h0.size ≤ sr8 := Nat.le_trans K7.1 sr8q
  have g_sr8 : n0 ≤ sr8 := Nat.le_trans Z0 sz_sr8
  have ne_c7_sr8 : c7 ≠ sr8 := Nat.ne_of_lt (Nat.lt_of_lt_of_le Es7.lt sr8q)
  have ne_d1_sr8 : d1 ≠ sr8 := Nat.ne_of_lt (Nat.lt_of_lt_of_le ((own_arr_keep Ad Kq2 nin0).ext E7).lt sr8q)
  have ne_oc2_sr8 : oc2 ≠ sr8 := Nat.ne_of_lt (Nat.lt_of_lt_of_le (Bq2.1.ext E7).lt sr8q)
  have ne_sb7_sr8 : sb7 ≠ sr8 := Nat.ne_of_lt (Nat.lt_of_lt_of_le Va7.lt sr8q)
  have K8 : Keep h0 T8.heap [] := K7.trans Kq8 all0
  have Ch8 : CHr Z consts_1 s.vm h0 T8.vm T8.heap := Ch7.trans ch8
  have Sf8_oc2 : Safe Z consts_1 T8.vm T8.heap oc2 := CHr.safe ch8 (Bq2.1.ext E7).lt Sf7_oc2
  have N8 := Fr.app N6 N8q
  obtain ⟨cq9, kq9, q9a, q9b, q9c⟩ := isOf hZ8 rfl (Es7.keep Kq8)
  obtain ⟨_, _, ⟨T9, L9, k9, n9⟩, -, X9, ⟨Lc9, hQ9, l9, y9, z9⟩, st9⟩ := Y8.virtualBack hx (y := (⟨"java/lang/String", "equals", "(Ljava/lang/Object;)Z"⟩ : MethodName)) (z := (⟨"java/lang/String", "equals", "(Ljava/lang/Object;)Z"⟩ : MethodName)) hown8 (mvT hZ8 (hw _ (M 216))) (mvT hZ8 (hw _ (M 217))) (notFace_of_selects (args := #[]) (mvT hZ8 (hw _ (M 219)))) (mvT hZ8 (hw _ (M 219))) (mvT hZ8 (hw _ (M 218))) (by decide) (backOf (W := 0) ((sEquals l Z a0 hw c7 sb7 kS7 (35 : Int32) tx_1 zc os8 sr8 kS8 T8.heap n0 (Nat.le_trans Z0 K8.1) ⟨(Es7.keep Kq8), (Fc7.keep Kq8 nin0), (Fv7.keep Kq8 nin0), (Va7.keep Kq8 nin0)⟩ (own_sta_keepN ((own_sta_keepN S_CS Kq2 ns0).ext E7) Kq8 ns0) hz ⟨Tq8.1, Tq8.2.1, Tq8.2.2.1, Tq8.2.2.2⟩ ne_c7_os8) []) hZ8 (hw _ (M 220)) (hw _ (M 46)) (by decide) (by decide)) q9a q9c (g := (mkF m 145 #[.val (.int sel), .val (.long qg), .second, .val (.long qt), .second, .val (.long qk), .second, .val (.long qd), .second, .val (.int (0 : Int32)), .val (.int (1 : Int32)), .val (.ref re), .val (.ref oc2), .val (.int (1 : Int32)), .val (.ref c7), .unset, .unset, .unset, .unset] [(.ref os8), (.ref c7)])) rfl (by rw [hml]; rfl) (Steps.refl _) (argsL := [(.ref os8)]) (rest := []) (lenOf pd_oLjava_lang_Object_cZ rfl) rfl (by show 2 * 0 + _ ≤ _; exact Nat.le_of_eq rfl) (hb hby at_145) (fun _ _ => ⟨rfl, rfl, (by decide : 21 + 0 ≤ _), (by decide : 571 + 0 ≤ _)⟩)
  dsimp only [Pt.U, Pt.locs, Pt.cells, Pt.slots] at X9 l9 y9 z9 st9 hQ9
  subst l9 y9 z9
  obtain ⟨rfl, N9q, e9⟩ := hQ9
  have N9 := Fr.app N8 N9q
  obtain ⟨T10, h10, X10, e10, E10, A10, D10, -, st10⟩ := newO X9 hx hZ8 hown8 (hw _ (M 226)) (hw _ (M 8)) (hw _ (M 5)) e9 (g := (mkF m 150 #[.val (.int sel), .val (.long qg), .second, .val (.long qt), .second, .val (.long qk), .second, .val (.long qd), .second, .val (.int (0 : Int32)), .val (.int (1 : Int32)), .val (.ref re), .val (.ref oc2), .val (.int (1 : Int32)), .val (.ref c7), .val (.int (1 : Int32)), .unset, .unset, .unset] [])) rfl (hb hby at_150) (by decide) (by decide)
  obtain ⟨b10, g10⟩ : ∃ z, z = T8.heap.size := ⟨_, rfl⟩
  rw [← g10] at A10 D10 st10
  have sz_b10 : h0.size ≤ b10 := Nat.le_trans K8.1 (Nat.le_of_eq g10.symm)
  have g_b10 : n0 ≤ b10 := Nat.le_trans Z0 sz_b10
  have ne_c7_b10 : c7 ≠ b10 := Nat.ne_of_lt (Nat.lt_of_lt_of_le (Es7.keep Kq8).lt (Nat.le_of_eq g10.symm))
  have ne_d1_b10 : d1 ≠ b10 := Nat.ne_of_lt (Nat.lt_of_lt_of_le (own_arr_keep ((own_arr_keep Ad Kq2 nin0).ext E7) Kq8 nin0).lt (Nat.le_of_eq g10.symm))
  have ne_oc2_b10 : oc2 ≠ b10 := Nat.ne_of_lt (Nat.lt_of_lt_of_le ((Bq2.1.ext E7).keep Kq8).lt (Nat.le_of_eq g10.symm))
  have ne_os8_b10 : os8 ≠ b10 := Nat.ne_of_lt (Nat.lt_of_lt_of_le Tq8.1.lt (Nat.le_of_eq g10.symm))
  have ne_sb7_b10 : sb7 ≠ b10 := Nat.ne_of_lt (Nat.lt_of_lt_of_le (Va7.keep Kq8 nin0).lt (Nat.le_of_eq g10.symm))
  have ne_sr8_b10 : sr8 ≠ b10 := Nat.ne_of_lt (Nat.lt_of_lt_of_le Tq8.2.2.2.lt (Nat.le_of_eq g10.symm))
  have K10 : Keep h0 h10 [] := K8.ext E10
  have F_ifStored_b10 : Fld Z h10 b10 "com/example/known_origins/knownorigins/store/LoadCount" "ifStored" "Lcom/example/known_origins/knownorigins/store/IfStored;" .null := D10 (Or.inr (hw _ (M 16))) (ty := (.object "com/example/known_origins/knownorigins/store/IfStored")) (by decide)
  have F_graphs_b10 : Fld Z h10 b10 "com/example/known_origins/knownorigins/store/LoadCount" "graphs" "J" (.long (0 : Int64)) := D10 (Or.inr (hw _ (M 18))) (ty := .long) (by decide)
  have F_triples_b10 : Fld Z h10 b10 "com/example/known_origins/knownorigins/store/LoadCount" "triples" "J" (.long (0 : Int64)) := D10 (Or.inr (hw _ (M 20))) (ty := .long) (by decide)
  have F_skipped_b10 : Fld Z h10 b10 "com/example/known_origins/knownorigins/store/LoadCount" "skipped" "J" (.long (0 : Int64)) := D10 (Or.inr (hw _ (M 22))) (ty := .long) (by decide)
  have F_derived_b10 : Fld Z h10 b10 "com/example/known_origins/knownorigins/store/LoadCount" "derived" "J" (.long (0 : Int64)) := D10 (Or.inr (hw _ (M 24))) (ty := .long) (by decide)
  have Ch10 : CHr Z consts_1 s.vm h0 T8.vm h10 := Ch8.trans (CHr.ext E10 Ch8.1)
  have Sf10_oc2 : Safe Z consts_1 T8.vm h10 oc2 := Safe.ext E10 Ch8.1 Sf8_oc2
  have Sf10_b10 : Safe Z consts_1 T8.vm h10 b10 := Safe.ext E10 Ch8.1 (Safe.new (Nat.le_of_eq g10.symm))
  have hkk10 : T8.heap.size ≤ h10.size := Nat.le_trans (Nat.le_refl _) E10.1
  obtain ⟨_, _, ⟨T11, L11, k11, n11⟩, -, X11, ⟨Lc11, hQ11, l11, y11, z11⟩, st11⟩ := X10.specialBack hx (y := (⟨"com/example/known_origins/knownorigins/store/LoadCount", "<init>", "(Lcom/example/known_origins/knownorigins/store/IfStored;JJJJ)V"⟩ : MethodName)) rfl hown8 (mvT hZ8 (hw _ (M 227))) (mvT hZ8 (hw _ (M 10))) (mvT hZ8 (hw _ (M 11))) (by decide) (backOf (W := 1) ((lcInit l Z a0 hw b10 re qg qt qk qd h10 n0 (Nat.le_trans Z0 K10.1) F_ifStored_b10 F_graphs_b10 F_triples_b10 F_skipped_b10 F_derived_b10 A10 g_b10) []) hZ8 (hw _ (M 11)) (hw _ (M 5)) (by decide) (by decide)) (g := (mkF m 162 #[.val (.int sel), .val (.long qg), .second, .val (.long qt), .second, .val (.long qk), .second, .val (.long qd), .second, .val (.int (0 : Int32)), .val (.int (1 : Int32)), .val (.ref re), .val (.ref oc2), .val (.int (1 : Int32)), .val (.ref c7), .val (.int (1 : Int32)), .unset, .unset, .unset] [(.long qd), (.long qk), (.long qt), (.long qg), (.ref re), (.ref b10), (.ref b10)])) rfl (by rw [hml]; rfl) (Steps.refl _) (a := b10) (argsL := [(.ref re), (.long qg), (.long qt), (.long qk), (.long qd)]) (rest := [(.ref b10)]) (lenOf pd_oLcom_example_known_origins_knownorigins_store_IfStored_JJJJcV rfl) rfl (by show 2 * 0 + _ ≤ _; exact Nat.le_of_eq rfl) (hb hby at_162) (fun _ _ => ⟨rfl, e10, (by decide : 22 + 0 ≤ _), (by decide : 576 + 0 ≤ _)⟩)
  dsimp only [Pt.U, Pt.locs, Pt.cells, Pt.slots] at X11 l11 y11 z11 st11 hQ11
  subst l11 y11 z11
  obtain ⟨rfl, N11q, Kq11, Bq11⟩ := hQ11
  have K11 : Keep h0 T11.heap [] := K10.trans Kq11 (allS (Or.inr sz_b10) all0)
  have Ch11 : CHr Z consts_1 s.vm h0 T8.vm T11.heap := Ch10.trans (CHr.keep Kq11 (sfS Sf10_b10 sf0) Ch10.1)
  have Sf11_oc2 : Safe Z consts_1 T8.vm T11.heap oc2 := Safe.keep Kq11 (sfS Sf10_b10 sf0) Ch10.1 Sf10_oc2
  have Sf11_b10 : Safe Z consts_1 T8.vm T11.heap b10 := Safe.keep Kq11 (sfS Sf10_b10 sf0) Ch10.1 Sf10_b10
  have hkk11 : T8.heap.size ≤ T11.heap.size := Nat.le_trans hkk10 Kq11.1
  have N11 := Fr.app N9 N11q
  obtain ⟨cq12, kq12, q12a, q12b, q12c⟩ := isOf hZ8 rfl ((((Bq2.1.ext E7).keep Kq8).ext E10).keep Kq11)
  obtain ⟨_, _, ⟨T12, L12, k12, n12⟩, -, X12, ⟨Lc12, hQ12, l12, y12, z12⟩, st12⟩ := X11.virtualBack hx (y := (⟨"com/example/known_origins/knownorigins/store/LoadCount", "plus", "(Lcom/example/known_origins/knownorigins/store/LoadCount;)Lcom/example/known_origins/knownorigins/store/LoadCount;"⟩ : MethodName)) (z := (⟨"com/example/known_origins/knownorigins/store/LoadCount", "plus", "(Lcom/example/known_origins/knownorigins/store/LoadCount;)Lcom/example/known_origins/knownorigins/store/LoadCount;"⟩ : MethodName)) hown8 (mvT hZ8 (hw _ (M 228))) (mvT hZ8 (hw _ (M 229))) (notFace_of_selects (args := #[]) (mvT hZ8 (hw _ (M 231)))) (mvT hZ8 (hw _ (M 231))) (mvT hZ8 (hw _ (M 230))) (by decide) (backOf (W := 0) ((lcPlus l Z a0 hw oc2 b10 re qg qt qk qd T11.heap n0 (Nat.le_trans Z0 K11.1) ⟨((((Bq2.1.ext E7).keep Kq8).ext E10).keep Kq11), ((((Bq2.2.1.ext E7).keep Kq8 nin0).ext E10).keep Kq11 (ninS ne_oc2_b10 nin0)), ((((Bq2.2.2.1.ext E7).keep Kq8 nin0).ext E10).keep Kq11 (ninS ne_oc2_b10 nin0)), ((((Bq2.2.2.2.1.ext E7).keep Kq8 nin0).ext E10).keep Kq11 (ninS ne_oc2_b10 nin0)), ((((Bq2.2.2.2.2.1.ext E7).keep Kq8 nin0).ext E10).keep Kq11 (ninS ne_oc2_b10 nin0)), ((((Bq2.2.2.2.2.2.ext E7).keep Kq8 nin0).ext E10).keep Kq11 (ninS ne_oc2_b10 nin0))⟩ ⟨Bq11.1, Bq11.2.1, Bq11.2.2.1, Bq11.2.2.2.1, Bq11.2.2.2.2.1, Bq11.2.2.2.2.2⟩) []) hZ8 (hw _ (M 232)) (hw _ (M 5)) (by decide) (by decide)) q12a q12c (g := (mkF m 171 #[.val (.int sel), .val (.long qg), .second, .val (.long qt), .second, .val (.long qk), .second, .val (.long qd), .second, .val (.int (0 : Int32)), .val (.int (1 : Int32)), .val (.ref re), .val (.ref oc2), .val (.int (1 : Int32)), .val (.ref c7), .val (.int (1 : Int32)), .val (.ref b10), .unset, .unset] [(.ref b10), (.ref oc2)])) rfl (by rw [hml]; rfl) (Steps.refl _) (argsL := [(.ref b10)]) (rest := []) (lenOf pd_oLcom_example_known_origins_knownorigins_store_LoadCount_cLcom_example_known_origins_knownorigins_store_LoadCount_ rfl) rfl (by show 2 * 0 + _ ≤ _; exact Nat.le_of_eq rfl) (hb hby at_171) (fun _ _ => ⟨rfl, rfl, (by decide : 22 + 1 ≤ _), (by decide : 576 + 5 ≤ _)⟩)
  dsimp only [Pt.U, Pt.locs, Pt.cells, Pt.slots] at X12 l12 y12 z12 st12 hQ12
  subst l12 y12 z12
  have f13 := (own_arr_keep ((own_arr_keep ((own_arr_keep Ad Kq2 nin0).ext E7) Kq8 nin0).ext E10) Kq11 (ninS ne_d1_b10 nin0))
  obtain ⟨oc12, rfl, N12q, Kq12, sz12q, Bq12⟩ := hQ12
  have sz_oc12 : h0.size ≤ oc12 := Nat.le_trans K11.1 sz12q
  have g_oc12 : n0 ≤ oc12 := Nat.le_trans Z0 sz_oc12
  have ne_b10_oc12 : b10 ≠ oc12 := Nat.ne_of_lt (Nat.lt_of_lt_of_le Bq11.1.lt sz12q)
  have ne_c7_oc12 : c7 ≠ oc12 := Nat.ne_of_lt (Nat.lt_of_lt_of_le (((Es7.keep Kq8).ext E10).keep Kq11).lt sz12q)
  have ne_d1_oc12 : d1 ≠ oc12 := Nat.ne_of_lt (Nat.lt_of_lt_of_le f13.lt sz12q)
  have ne_oc2_oc12 : oc2 ≠ oc12 := Nat.ne_of_lt (Nat.lt_of_lt_of_le ((((Bq2.1.ext E7).keep Kq8).ext E10).keep Kq11).lt sz12q)
  have ne_os8_oc12 : os8 ≠ oc12 := Nat.ne_of_lt (Nat.lt_of_lt_of_le ((Tq8.1.ext E10).keep Kq11).lt sz12q)
  have ne_sb7_oc12 : sb7 ≠ oc12 := Nat.ne_of_lt (Nat.lt_of_lt_of_le (((Va7.keep Kq8 nin0).ext E10).keep Kq11 (ninS ne_sb7_b10 nin0)).lt sz12q)
  have ne_sr8_oc12 : sr8 ≠ oc12 := Nat.ne_of_lt (Nat.lt_of_lt_of_le ((Tq8.2.2.2.ext E10).keep Kq11 (ninS ne_sr8_b10 nin0)).lt sz12q)
  have K12 : Keep h0 T12.heap [] := K11.trans Kq12 all0
  have Ch12 : CHr Z consts_1 s.vm h0 T8.vm T12.heap := Ch11.trans (CHr.keep Kq12 sf0 Ch11.1)
  have Sf12_oc2 : Safe Z consts_1 T8.vm T12.heap oc2 := Safe.keep Kq12 sf0 Ch11.1 Sf11_oc2
  have Sf12_b10 : Safe Z consts_1 T8.vm T12.heap b10 := Safe.keep Kq12 sf0 Ch11.1 Sf11_b10
  have Sf12_oc12 : Safe Z consts_1 T8.vm T12.heap oc12 := Safe.keep Kq12 sf0 Ch11.1 (Safe.new sz12q)
  have hkk12 : T8.heap.size ≤ T12.heap.size := Nat.le_trans hkk11 Kq12.1
  have N12 := Fr.app N11 N12q
  obtain ⟨cq14, kq14, q14a, q14b, q14c⟩ := isOf hZ8 rfl Bq12.1
  obtain ⟨_, _, ⟨T14, L14, k14, n14⟩, -, X14, ⟨Lc14, hQ14, l14, y14, z14⟩, st14⟩ := X12.virtualBack hx (y := (⟨"com/example/known_origins/knownorigins/store/LoadCount", "graphs", "()J"⟩ : MethodName)) (z := (⟨"com/example/known_origins/knownorigins/store/LoadCount", "graphs", "()J"⟩ : MethodName)) hown8 (mvT hZ8 (hw _ (M 25))) (mvT hZ8 (hw _ (M 26))) (notFace_of_selects (args := #[]) (mvT hZ8 (hw _ (M 28)))) (mvT hZ8 (hw _ (M 28))) (mvT hZ8 (hw _ (M 27))) (by decide) (backOf (W := 0) ((lc_graphs l Z a0 hw oc12 re qg qt qk qd T12.heap n0 (Nat.le_trans Z0 K12.1) ⟨Bq12.1, Bq12.2.1, Bq12.2.2.1, Bq12.2.2.2.1, Bq12.2.2.2.2.1, Bq12.2.2.2.2.2⟩) []) hZ8 (hw _ (M 29)) (hw _ (M 5)) (by decide) (by decide)) q14a q14c (g := (mkF m 178 #[.val (.int sel), .val (.long qg), .second, .val (.long qt), .second, .val (.long qk), .second, .val (.long qd), .second, .val (.int (0 : Int32)), .val (.int (1 : Int32)), .val (.ref re), .val (.ref oc2), .val (.int (1 : Int32)), .val (.ref c7), .val (.int (1 : Int32)), .val (.ref b10), .val (.ref oc12), .unset] [(.ref oc12)])) rfl (by rw [hml]; rfl) (Steps.refl _) (argsL := []) (rest := []) (lenOf pd_ocJ rfl) rfl (by show 2 * 0 + _ ≤ _; exact Nat.le_of_eq rfl) (hb hby at_178) (fun _ _ => ⟨rfl, rfl, (by decide : 23 + 0 ≤ _), (by decide : 581 + 0 ≤ _)⟩)
  dsimp only [Pt.U, Pt.locs, Pt.cells, Pt.slots] at X14 l14 y14 z14 st14 hQ14
  subst l14 y14 z14
  obtain ⟨rfl, N14q, e14⟩ := hQ14
  have N14 := Fr.app N12 N14q
  obtain ⟨cq15, kq15, q15a, q15b, q15c⟩ := isOf hZ8 e14 Bq12.1
  obtain ⟨_, _, ⟨T15, L15, k15, n15⟩, -, X15, ⟨Lc15, hQ15, l15, y15, z15⟩, st15⟩ := X14.virtualBack hx (y := (⟨"com/example/known_origins/knownorigins/store/LoadCount", "triples", "()J"⟩ : MethodName)) (z := (⟨"com/example/known_origins/knownorigins/store/LoadCount", "triples", "()J"⟩ : MethodName)) hown8 (mvT hZ8 (hw _ (M 30))) (mvT hZ8 (hw _ (M 31))) (notFace_of_selects (args := #[]) (mvT hZ8 (hw _ (M 33)))) (mvT hZ8 (hw _ (M 33))) (mvT hZ8 (hw _ (M 32))) (by decide) (backOf (W := 0) ((lc_triples l Z a0 hw oc12 re qg qt qk qd T12.heap n0 (Nat.le_trans Z0 K12.1) ⟨Bq12.1, Bq12.2.1, Bq12.2.2.1, Bq12.2.2.2.1, Bq12.2.2.2.2.1, Bq12.2.2.2.2.2⟩) []) hZ8 (hw _ (M 34)) (hw _ (M 5)) (by decide) (by decide)) q15a q15c (g := (mkF m 188 #[.val (.int sel), .val (.long qg), .second, .val (.long qt), .second, .val (.long qk), .second, .val (.long qd), .second, .val (.int (0 : Int32)), .val (.int (1 : Int32)), .val (.ref re), .val (.ref oc2), .val (.int (1 : Int32)), .val (.ref c7), .val (.int (1 : Int32)), .val (.ref b10), .val (.ref oc12), .unset] [(.ref oc12)])) rfl (by rw [hml]; rfl) (Steps.refl _) (argsL := []) (rest := []) (lenOf pd_ocJ rfl) rfl (by show 2 * 0 + _ ≤ _; exact Nat.le_of_eq rfl) (hb hby at_188) (fun _ _ => ⟨rfl, e14, (by decide : 23 + 0 ≤ _), (by decide : 581 + 0 ≤ _)⟩)
  dsimp only [Pt.U, Pt.locs, Pt.cells, Pt.slots] at X15 l15 y15 z15 st15 hQ15
  subst l15 y15 z15
  obtain ⟨rfl, N15q, e15⟩ := hQ15
  have N15 := Fr.app N14 N15q
  obtain ⟨cq16, kq16, q16a, q16b, q16c⟩ := isOf hZ8 e15 Bq12.1
  obtain ⟨_, _, ⟨T16, L16, k16, n16⟩, -, X16, ⟨Lc16, hQ16, l16, y16, z16⟩, st16⟩ := X15.virtualBack hx (y := (⟨"com/example/known_origins/knownorigins/store/LoadCount", "skipped", "()J"⟩ : MethodName)) (z := (⟨"com/example/known_origins/knownorigins/store/LoadCount", "skipped", "()J"⟩ : MethodName)) hown8 (mvT hZ8 (hw _ (M 35))) (mvT hZ8 (hw _ (M 36))) (notFace_of_selects (args := #[]) (mvT hZ8 (hw _ (M 38)))) (mvT hZ8 (hw _ (M 38))) (mvT hZ8 (hw _ (M 37))) (by decide) (backOf (W := 0) ((lc_skipped l Z a0 hw oc12 re qg qt qk qd T12.heap n0 (Nat.le_trans Z0 K12.1) ⟨Bq12.1, Bq12.2.1, Bq12.2.2.1, Bq12.2.2.2.1, Bq12.2.2.2.2.1, Bq12.2.2.2.2.2⟩) []) hZ8 (hw _ (M 39)) (hw _ (M 5)) (by decide) (by decide)) q16a q16c (g := (mkF m 198 #[.val (.int sel), .val (.long qg), .second, .val (.long qt), .second, .val (.long qk), .second, .val (.long qd), .second, .val (.int (0 : Int32)), .val (.int (1 : Int32)), .val (.ref re), .val (.ref oc2), .val (.int (1 : Int32)), .val (.ref c7), .val (.int (1 : Int32)), .val (.ref b10), .val (.ref oc12), .unset] [(.ref oc12)])) rfl (by rw [hml]; rfl) (Steps.refl _) (argsL := []) (rest := []) (lenOf pd_ocJ rfl) rfl (by show 2 * 0 + _ ≤ _; exact Nat.le_of_eq rfl) (hb hby at_198) (fun _ _ => ⟨rfl, e15, (by decide : 23 + 0 ≤ _), (by decide : 581 + 0 ≤ _)⟩)
  dsimp only [Pt.U, Pt.locs, Pt.cells, Pt.slots] at X16 l16 y16 z16 st16 hQ16
  subst l16 y16 z16
  obtain ⟨rfl, N16q, e16⟩ := hQ16
  have N16 := Fr.app N15 N16q
  obtain ⟨cq17, kq17, q17a, q17b, q17c⟩ := isOf hZ8 e16 Bq12.1
  obtain ⟨_, _, ⟨T17, L17, k17, n17⟩, -, X17, ⟨Lc17, hQ17, l17, y17, z17⟩, st17⟩ := X16.virtualBack hx (y := (⟨"com/example/known_origins/knownorigins/store/LoadCount", "derived", "()J"⟩ : MethodName)) (z := (⟨"com/example/known_origins/knownorigins/store/LoadCount", "derived", "()J"⟩ : MethodName)) hown8 (mvT hZ8 (hw _ (M 40))) (mvT hZ8 (hw _ (M 41))) (notFace_of_selects (args := #[]) (mvT hZ8 (hw _ (M 43)))) (mvT hZ8 (hw _ (M 43))) (mvT hZ8 (hw _ (M 42))) (by decide) (backOf (W := 0) ((lc_derived l Z a0 hw oc12 re qg qt qk qd T12.heap n0 (Nat.le_trans Z0 K12.1) ⟨Bq12.1, Bq12.2.1, Bq12.2.2.1, Bq12.2.2.2.1, Bq12.2.2.2.2.1, Bq12.2.2.2.2.2⟩) []) hZ8 (hw _ (M 44)) (hw _ (M 5)) (by decide) (by decide)) q17a q17c (g := (mkF m 209 #[.val (.int sel), .val (.long qg), .second, .val (.long qt), .second, .val (.long qk), .second, .val (.long qd), .second, .val (.int (0 : Int32)), .val (.int (1 : Int32)), .val (.ref re), .val (.ref oc2), .val (.int (1 : Int32)), .val (.ref c7), .val (.int (1 : Int32)), .val (.ref b10), .val (.ref oc12), .unset] [(.ref oc12)])) rfl (by rw [hml]; rfl) (Steps.refl _) (argsL := []) (rest := []) (lenOf pd_ocJ rfl) rfl (by show 2 * 0 + _ ≤ _; exact Nat.le_of_eq rfl) (hb hby at_209) (fun _ _ => ⟨rfl, e16, (by decide : 23 + 0 ≤ _), (by decide : 581 + 0 ≤ _)⟩)
  dsimp only [Pt.U, Pt.locs, Pt.cells, Pt.slots] at X17 l17 y17 z17 st17 hQ17
  subst l17 y17 z17
  obtain ⟨rfl, N17q, e17⟩ := hQ17
  have N17 := Fr.app N16 N17q
  obtain ⟨fs, hr, hrun, hended, hret, hW, hnew, hsame⟩ := X17.leaveW hS8 (by rw [e17]; exact hkk12) (v := some (.int (1 : Int32))) (fun h => by rw [Bd.returns] at h; cases h)
  refine ⟨_, _, pre0 _ ?_, hrun, hended, _, _, rfl, ?_, ?_, hret, hW, hnew, hsame.mono (by decide) (by decide)⟩
  · show Steps p.tables e below (s₁.setTop (mkF m 0 #[.val (.int sel), .val (.long qg), .second, .val (.long qt), .second, .val (.long qk), .second, .val (.long qd), .second, .unset, .unset, .unset, .unset, .unset, .unset, .unset, .unset, .unset, .unset] [])) _
    refine XS.iloadN X0.here hx rfl (hb hby at_0) rfl ?_
    refine XS.iconst X0.here hx rfl (hb hby at_1) ?_
    refine XS.iand X0.here hx rfl (hb hby at_2) rfl ?_
    show Steps p.tables e below (s₁.setTop (mkF m 3 #[.val (.int sel), .val (.long qg), .second, .val (.long qt), .second, .val (.long qk), .second, .val (.long qd), .second, .unset, .unset, .unset, .unset, .unset, .unset, .unset, .unset, .unset, .unset] [(.int (sel &&& (1 : Int32)))])) _
    refine XS.ifYes X0.here hx rfl (pc0 := 3) (pc' := 10) rfl (hb hby at_3) rfl ((if0 _ _).trans (teq hc3).1) (by decide) (by decide) ?_
    show Steps p.tables e below (s₁.setTop (mkF m 10 #[.val (.int sel), .val (.long qg), .second, .val (.long qt), .second, .val (.long qk), .second, .val (.long qd), .second, .unset, .unset, .unset, .unset, .unset, .unset, .unset, .unset, .unset, .unset] [])) _
    refine XS.iconst X0.here hx rfl (hb hby at_10) ?_
    refine XS.istore X0.here hx rfl (hb hby at_11) rfl (l' := #[.val (.int sel), .val (.long qg), .second, .val (.long qt), .second, .val (.long qk), .second, .val (.long qd), .second, .val (.int (0 : Int32)), .unset, .unset, .unset, .unset, .unset, .unset, .unset, .unset, .unset]) rfl ?_
    show Steps p.tables e below (s₁.setTop (mkF m 13 #[.val (.int sel), .val (.long qg), .second, .val (.long qt), .second, .val (.long qk), .second, .val (.long qd), .second, .val (.int (0 : Int32)), .unset, .unset, .unset, .unset, .unset, .unset, .unset, .unset, .unset] [])) _
    refine XS.iloadN X0.here hx rfl (hb hby at_13) rfl ?_
    refine XS.iconst X0.here hx rfl (hb hby at_14) ?_
    refine XS.iand X0.here hx rfl (hb hby at_15) rfl ?_
    show Steps p.tables e below (s₁.setTop (mkF m 16 #[.val (.int sel), .val (.long qg), .second, .val (.long qt), .second, .val (.long qk), .second, .val (.long qd), .second, .val (.int (0 : Int32)), .unset, .unset, .unset, .unset, .unset, .unset, .unset, .unset, .unset] [(.int (sel &&& (2 : Int32)))])) _
    refine XS.ifNo X0.here hx rfl (hb hby at_16) rfl ((if0 _ _).trans (feq hc16).1) ?_
    show Steps p.tables e below (s₁.setTop (mkF m 19 #[.val (.int sel), .val (.long qg), .second, .val (.long qt), .second, .val (.long qk), .second, .val (.long qd), .second, .val (.int (0 : Int32)), .unset, .unset, .unset, .unset, .unset, .unset, .unset, .unset, .unset] [])) _
    refine XS.iconst X0.here hx rfl (hb hby at_19) ?_
    refine XS.goto X0.here hx rfl (pc0 := 20) (pc' := 24) rfl (hb hby at_20) (by decide) (by decide) ?_
    show Steps p.tables e below (s₁.setTop (mkF m 24 #[.val (.int sel), .val (.long qg), .second, .val (.long qt), .second, .val (.long qk), .second, .val (.long qd), .second, .val (.int (0 : Int32)), .unset, .unset, .unset, .unset, .unset, .unset, .unset, .unset, .unset] [(.int (1 : Int32))])) _
    refine XS.istore X0.here hx rfl (hb hby at_24) rfl (l' := #[.val (.int sel), .val (.long qg), .second, .val (.long qt), .second, .val (.long qk), .second, .val (.long qd), .second, .val (.int (0 : Int32)), .val (.int (1 : Int32)), .unset, .unset, .unset, .unset, .unset, .unset, .unset, .unset]) rfl ?_
    show Steps p.tables e below (s₁.setTop (mkF m 26 #[.val (.int sel), .val (.long qg), .second, .val (.long qt), .second, .val (.long qk), .second, .val (.long qd), .second, .val (.int (0 : Int32)), .val (.int (1 : Int32)), .unset, .unset, .unset, .unset, .unset, .unset, .unset, .unset] [])) _
    refine XS.iload X0.here hx rfl (hb hby at_26) rfl ?_
    refine XS.ifYes X0.here hx rfl (pc0 := 28) (pc' := 37) rfl (hb hby at_28) rfl ((if0 _ _).trans (teq (by decide : (0 : Int32) = (0 : Int32))).1) (by decide) (by decide) ?_
    show Steps p.tables e below (s₁.setTop (mkF m 37 #[.val (.int sel), .val (.long qg), .second, .val (.long qt), .second, .val (.long qk), .second, .val (.long qd), .second, .val (.int (0 : Int32)), .val (.int (1 : Int32)), .unset, .unset, .unset, .unset, .unset, .unset, .unset, .unset] [])) _
    refine st1 _ ?_
    show Steps p.tables e below (T1.setTop (mkF m 40 #[.val (.int sel), .val (.long qg), .second, .val (.long qt), .second, .val (.long qk), .second, .val (.long qd), .second, .val (.int (0 : Int32)), .val (.int (1 : Int32)), .unset, .unset, .unset, .unset, .unset, .unset, .unset, .unset] [(.ref re)])) _
    refine XS.astore X1.here hx rfl (hb hby at_40) rfl rfl (l' := #[.val (.int sel), .val (.long qg), .second, .val (.long qt), .second, .val (.long qk), .second, .val (.long qd), .second, .val (.int (0 : Int32)), .val (.int (1 : Int32)), .val (.ref re), .unset, .unset, .unset, .unset, .unset, .unset, .unset]) rfl ?_
    show Steps p.tables e below (T1.setTop (mkF m 42 #[.val (.int sel), .val (.long qg), .second, .val (.long qt), .second, .val (.long qk), .second, .val (.long qd), .second, .val (.int (0 : Int32)), .val (.int (1 : Int32)), .val (.ref re), .unset, .unset, .unset, .unset, .unset, .unset, .unset] [])) _
    refine XS.aload X1.here hx rfl (hb hby at_42) rfl rfl ?_
    refine st2 _ ?_
    show Steps p.tables e below (T2.setTop (mkF m 47 #[.val (.int sel), .val (.long qg), .second, .val (.long qt), .second, .val (.long qk), .second, .val (.long qd), .second, .val (.int (0 : Int32)), .val (.int (1 : Int32)), .val (.ref re), .unset, .unset, .unset, .unset, .unset, .unset, .unset] [(.ref oc2)])) _
    refine XS.astore X2.here hx rfl (hb hby at_47) rfl rfl (l' := #[.val (.int sel), .val (.long qg), .second, .val (.long qt), .second, .val (.long qk), .second, .val (.long qd), .second, .val (.int (0 : Int32)), .val (.int (1 : Int32)), .val (.ref re), .val (.ref oc2), .unset, .unset, .unset, .unset, .unset, .unset]) rfl ?_
    show Steps p.tables e below (T2.setTop (mkF m 49 #[.val (.int sel), .val (.long qg), .second, .val (.long qt), .second, .val (.long qk), .second, .val (.long qd), .second, .val (.int (0 : Int32)), .val (.int (1 : Int32)), .val (.ref re), .val (.ref oc2), .unset, .unset, .unset, .unset, .unset, .unset] [])) _
    refine XS.aload X2.here hx rfl (hb hby at_49) rfl rfl ?_
    refine st3.trans ?_
    show Steps p.tables e below (T3.setTop (mkF m 54 #[.val (.int sel), .val (.long qg), .second, .val (.long qt), .second, .val (.long qk), .second, .val (.long qd), .second, .val (.int (0 : Int32)), .val (.int (1 : Int32)), .val (.ref re), .val (.ref oc2), .unset, .unset, .unset, .unset, .unset, .unset] [(.long (0 : Int64))])) _
    refine XS.lconst X3.here hx rfl (hb hby at_54) ?_
    refine XS.lcmp X3.here hx rfl (hb hby at_55) rfl ?_
    show Steps p.tables e below (T3.setTop (mkF m 56 #[.val (.int sel), .val (.long qg), .second, .val (.long qt), .second, .val (.long qk), .second, .val (.long qd), .second, .val (.int (0 : Int32)), .val (.int (1 : Int32)), .val (.ref re), .val (.ref oc2), .unset, .unset, .unset, .unset, .unset, .unset] [(.int (lcmpW (0 : Int64) (0 : Int64)))])) _
    rw [(by decide : (lcmpW (0 : Int64) (0 : Int64)) = (0 : Int32))]
    show Steps p.tables e below (T3.setTop (mkF m 56 #[.val (.int sel), .val (.long qg), .second, .val (.long qt), .second, .val (.long qk), .second, .val (.long qd), .second, .val (.int (0 : Int32)), .val (.int (1 : Int32)), .val (.ref re), .val (.ref oc2), .unset, .unset, .unset, .unset, .unset, .unset] [(.int (0 : Int32))])) _
    refine XS.ifNo X3.here hx rfl (hb hby at_56) rfl ((if0 _ _).trans (teq (by decide : (0 : Int32) = (0 : Int32))).2) ?_
    show Steps p.tables e below (T3.setTop (mkF m 59 #[.val (.int sel), .val (.long qg), .second, .val (.long qt), .second, .val (.long qk), .second, .val (.long qd), .second, .val (.int (0 : Int32)), .val (.int (1 : Int32)), .val (.ref re), .val (.ref oc2), .unset, .unset, .unset, .unset, .unset, .unset] [])) _
    refine XS.aload X3.here hx rfl (hb hby at_59) rfl rfl ?_
    refine st4.trans ?_
    show Steps p.tables e below (T4.setTop (mkF m 64 #[.val (.int sel), .val (.long qg), .second, .val (.long qt), .second, .val (.long qk), .second, .val (.long qd), .second, .val (.int (0 : Int32)), .val (.int (1 : Int32)), .val (.ref re), .val (.ref oc2), .unset, .unset, .unset, .unset, .unset, .unset] [(.long (0 : Int64))])) _
    refine XS.lconst X4.here hx rfl (hb hby at_64) ?_
    refine XS.lcmp X4.here hx rfl (hb hby at_65) rfl ?_
    show Steps p.tables e below (T4.setTop (mkF m 66 #[.val (.int sel), .val (.long qg), .second, .val (.long qt), .second, .val (.long qk), .second, .val (.long qd), .second, .val (.int (0 : Int32)), .val (.int (1 : Int32)), .val (.ref re), .val (.ref oc2), .unset, .unset, .unset, .unset, .unset, .unset] [(.int (lcmpW (0 : Int64) (0 : Int64)))])) _
    rw [(by decide : (lcmpW (0 : Int64) (0 : Int64)) = (0 : Int32))]
    show Steps p.tables e below (T4.setTop (mkF m 66 #[.val (.int sel), .val (.long qg), .second, .val (.long qt), .second, .val (.long qk), .second, .val (.long qd), .second, .val (.int (0 : Int32)), .val (.int (1 : Int32)), .val (.ref re), .val (.ref oc2), .unset, .unset, .unset, .unset, .unset, .unset] [(.int (0 : Int32))])) _
    refine XS.ifNo X4.here hx rfl (hb hby at_66) rfl ((if0 _ _).trans (teq (by decide : (0 : Int32) = (0 : Int32))).2) ?_
    show Steps p.tables e below (T4.setTop (mkF m 69 #[.val (.int sel), .val (.long qg), .second, .val (.long qt), .second, .val (.long qk), .second, .val (.long qd), .second, .val (.int (0 : Int32)), .val (.int (1 : Int32)), .val (.ref re), .val (.ref oc2), .unset, .unset, .unset, .unset, .unset, .unset] [])) _
    refine XS.aload X4.here hx rfl (hb hby at_69) rfl rfl ?_
    refine st5.trans ?_
    show Steps p.tables e below (T5.setTop (mkF m 74 #[.val (.int sel), .val (.long qg), .second, .val (.long qt), .second, .val (.long qk), .second, .val (.long qd), .second, .val (.int (0 : Int32)), .val (.int (1 : Int32)), .val (.ref re), .val (.ref oc2), .unset, .unset, .unset, .unset, .unset, .unset] [(.long (0 : Int64))])) _
    refine XS.lconst X5.here hx rfl (hb hby at_74) ?_
    refine XS.lcmp X5.here hx rfl (hb hby at_75) rfl ?_
    show Steps p.tables e below (T5.setTop (mkF m 76 #[.val (.int sel), .val (.long qg), .second, .val (.long qt), .second, .val (.long qk), .second, .val (.long qd), .second, .val (.int (0 : Int32)), .val (.int (1 : Int32)), .val (.ref re), .val (.ref oc2), .unset, .unset, .unset, .unset, .unset, .unset] [(.int (lcmpW (0 : Int64) (0 : Int64)))])) _
    rw [(by decide : (lcmpW (0 : Int64) (0 : Int64)) = (0 : Int32))]
    show Steps p.tables e below (T5.setTop (mkF m 76 #[.val (.int sel), .val (.long qg), .second, .val (.long qt), .second, .val (.long qk), .second, .val (.long qd), .second, .val (.int (0 : Int32)), .val (.int (1 : Int32)), .val (.ref re), .val (.ref oc2), .unset, .unset, .unset, .unset, .unset, .unset] [(.int (0 : Int32))])) _
    refine XS.ifNo X5.here hx rfl (hb hby at_76) rfl ((if0 _ _).trans (teq (by decide : (0 : Int32) = (0 : Int32))).2) ?_
    show Steps p.tables e below (T5.setTop (mkF m 79 #[.val (.int sel), .val (.long qg), .second, .val (.long qt), .second, .val (.long qk), .second, .val (.long qd), .second, .val (.int (0 : Int32)), .val (.int (1 : Int32)), .val (.ref re), .val (.ref oc2), .unset, .unset, .unset, .unset, .unset, .unset] [])) _
    refine XS.aload X5.here hx rfl (hb hby at_79) rfl rfl ?_
    refine st6.trans ?_
    show Steps p.tables e below (T6.setTop (mkF m 84 #[.val (.int sel), .val (.long qg), .second, .val (.long qt), .second, .val (.long qk), .second, .val (.long qd), .second, .val (.int (0 : Int32)), .val (.int (1 : Int32)), .val (.ref re), .val (.ref oc2), .unset, .unset, .unset, .unset, .unset, .unset] [(.long (0 : Int64))])) _
    refine XS.lconst X6.here hx rfl (hb hby at_84) ?_
    refine XS.lcmp X6.here hx rfl (hb hby at_85) rfl ?_
    show Steps p.tables e below (T6.setTop (mkF m 86 #[.val (.int sel), .val (.long qg), .second, .val (.long qt), .second, .val (.long qk), .second, .val (.long qd), .second, .val (.int (0 : Int32)), .val (.int (1 : Int32)), .val (.ref re), .val (.ref oc2), .unset, .unset, .unset, .unset, .unset, .unset] [(.int (lcmpW (0 : Int64) (0 : Int64)))])) _
    rw [(by decide : (lcmpW (0 : Int64) (0 : Int64)) = (0 : Int32))]
    show Steps p.tables e below (T6.setTop (mkF m 86 #[.val (.int sel), .val (.long qg), .second, .val (.long qt), .second, .val (.long qk), .second, .val (.long qd), .second, .val (.int (0 : Int32)), .val (.int (1 : Int32)), .val (.ref re), .val (.ref oc2), .unset, .unset, .unset, .unset, .unset, .unset] [(.int (0 : Int32))])) _
    refine XS.ifNo X6.here hx rfl (hb hby at_86) rfl ((if0 _ _).trans (teq (by decide : (0 : Int32) = (0 : Int32))).2) ?_
    show Steps p.tables e below (T6.setTop (mkF m 89 #[.val (.int sel), .val (.long qg), .second, .val (.long qt), .second, .val (.long qk), .second, .val (.long qd), .second, .val (.int (0 : Int32)), .val (.int (1 : Int32)), .val (.ref re), .val (.ref oc2), .unset, .unset, .unset, .unset, .unset, .unset] [])) _
    refine XS.iconst X6.here hx rfl (hb hby at_89) ?_
    refine XS.goto X6.here hx rfl (pc0 := 90) (pc' := 94) rfl (hb hby at_90) (by decide) (by decide) ?_
    show Steps p.tables e below (T6.setTop (mkF m 94 #[.val (.int sel), .val (.long qg), .second, .val (.long qt), .second, .val (.long qk), .second, .val (.long qd), .second, .val (.int (0 : Int32)), .val (.int (1 : Int32)), .val (.ref re), .val (.ref oc2), .unset, .unset, .unset, .unset, .unset, .unset] [(.int (1 : Int32))])) _
    refine XS.istore X6.here hx rfl (hb hby at_94) rfl (l' := #[.val (.int sel), .val (.long qg), .second, .val (.long qt), .second, .val (.long qk), .second, .val (.long qd), .second, .val (.int (0 : Int32)), .val (.int (1 : Int32)), .val (.ref re), .val (.ref oc2), .val (.int (1 : Int32)), .unset, .unset, .unset, .unset, .unset]) rfl ?_
    show Steps p.tables e below (T6.setTop (mkF m 96 #[.val (.int sel), .val (.long qg), .second, .val (.long qt), .second, .val (.long qk), .second, .val (.long qd), .second, .val (.int (0 : Int32)), .val (.int (1 : Int32)), .val (.ref re), .val (.ref oc2), .val (.int (1 : Int32)), .unset, .unset, .unset, .unset, .unset] [])) _
    refine XS.iload X6.here hx rfl (hb hby at_96) rfl ?_
    refine XS.ifYes X6.here hx rfl (pc0 := 98) (pc' := 120) rfl (hb hby at_98) rfl ((if0 _ _).trans (teq (by decide : (0 : Int32) = (0 : Int32))).1) (by decide) (by decide) ?_
    show Steps p.tables e below (T6.setTop (mkF m 120 #[.val (.int sel), .val (.long qg), .second, .val (.long qt), .second, .val (.long qk), .second, .val (.long qd), .second, .val (.int (0 : Int32)), .val (.int (1 : Int32)), .val (.ref re), .val (.ref oc2), .val (.int (1 : Int32)), .unset, .unset, .unset, .unset, .unset] [])) _
    refine XS.iload X6.here hx rfl (hb hby at_120) rfl ?_
    refine XS.ifNo X6.here hx rfl (hb hby at_122) rfl ((if0 _ _).trans (feq (by decide : ¬ ((1 : Int32) = (0 : Int32)))).1) ?_
    show Steps p.tables e below (T6.setTop (mkF m 125 #[.val (.int sel), .val (.long qg), .second, .val (.long qt), .second, .val (.long qk), .second, .val (.long qd), .second, .val (.int (0 : Int32)), .val (.int (1 : Int32)), .val (.ref re), .val (.ref oc2), .val (.int (1 : Int32)), .unset, .unset, .unset, .unset, .unset] [])) _
    refine st7 _ ?_
    show Steps p.tables e below (T7.setTop (mkF m 127 #[.val (.int sel), .val (.long qg), .second, .val (.long qt), .second, .val (.long qk), .second, .val (.long qd), .second, .val (.int (0 : Int32)), .val (.int (1 : Int32)), .val (.ref re), .val (.ref oc2), .val (.int (1 : Int32)), .unset, .unset, .unset, .unset, .unset] [(.ref c7)])) _
    refine XS.astore X7.here hx rfl (hb hby at_127) rfl rfl (l' := #[.val (.int sel), .val (.long qg), .second, .val (.long qt), .second, .val (.long qk), .second, .val (.long qd), .second, .val (.int (0 : Int32)), .val (.int (1 : Int32)), .val (.ref re), .val (.ref oc2), .val (.int (1 : Int32)), .val (.ref c7), .unset, .unset, .unset, .unset]) rfl ?_
    show Steps p.tables e below (T7.setTop (mkF m 129 #[.val (.int sel), .val (.long qg), .second, .val (.long qt), .second, .val (.long qk), .second, .val (.long qd), .second, .val (.int (0 : Int32)), .val (.int (1 : Int32)), .val (.ref re), .val (.ref oc2), .val (.int (1 : Int32)), .val (.ref c7), .unset, .unset, .unset, .unset] [])) _
    refine XS.goto X7.here hx rfl (pc0 := 129) (pc' := 136) rfl (hb hby at_129) (by decide) (by decide) ?_
    show Steps p.tables e below (T7.setTop (mkF m 136 #[.val (.int sel), .val (.long qg), .second, .val (.long qt), .second, .val (.long qk), .second, .val (.long qd), .second, .val (.int (0 : Int32)), .val (.int (1 : Int32)), .val (.ref re), .val (.ref oc2), .val (.int (1 : Int32)), .val (.ref c7), .unset, .unset, .unset, .unset] [])) _
    refine XS.aload X7.here hx rfl (hb hby at_136) rfl rfl ?_
    refine XS.aload X7.here hx rfl (hb hby at_138) rfl rfl ?_
    refine XS.iload X7.here hx rfl (hb hby at_140) rfl ?_
    refine st8.trans ?_
    show Steps p.tables e below (T8.setTop (mkF m 145 #[.val (.int sel), .val (.long qg), .second, .val (.long qt), .second, .val (.long qk), .second, .val (.long qd), .second, .val (.int (0 : Int32)), .val (.int (1 : Int32)), .val (.ref re), .val (.ref oc2), .val (.int (1 : Int32)), .val (.ref c7), .unset, .unset, .unset, .unset] [(.ref os8), (.ref c7)])) _
    refine st9.trans ?_
    show Steps p.tables e below (T9.setTop (mkF m 148 #[.val (.int sel), .val (.long qg), .second, .val (.long qt), .second, .val (.long qk), .second, .val (.long qd), .second, .val (.int (0 : Int32)), .val (.int (1 : Int32)), .val (.ref re), .val (.ref oc2), .val (.int (1 : Int32)), .val (.ref c7), .unset, .unset, .unset, .unset] [(.int (1 : Int32))])) _
    refine XS.istore X9.here hx rfl (hb hby at_148) rfl (l' := #[.val (.int sel), .val (.long qg), .second, .val (.long qt), .second, .val (.long qk), .second, .val (.long qd), .second, .val (.int (0 : Int32)), .val (.int (1 : Int32)), .val (.ref re), .val (.ref oc2), .val (.int (1 : Int32)), .val (.ref c7), .val (.int (1 : Int32)), .unset, .unset, .unset]) rfl ?_
    show Steps p.tables e below (T9.setTop (mkF m 150 #[.val (.int sel), .val (.long qg), .second, .val (.long qt), .second, .val (.long qk), .second, .val (.long qd), .second, .val (.int (0 : Int32)), .val (.int (1 : Int32)), .val (.ref re), .val (.ref oc2), .val (.int (1 : Int32)), .val (.ref c7), .val (.int (1 : Int32)), .unset, .unset, .unset] [])) _
    refine st10 _ ?_
    show Steps p.tables e below (T10.setTop (mkF m 153 #[.val (.int sel), .val (.long qg), .second, .val (.long qt), .second, .val (.long qk), .second, .val (.long qd), .second, .val (.int (0 : Int32)), .val (.int (1 : Int32)), .val (.ref re), .val (.ref oc2), .val (.int (1 : Int32)), .val (.ref c7), .val (.int (1 : Int32)), .unset, .unset, .unset] [(.ref b10)])) _
    refine XS.dup X10.here hx rfl (hb hby at_153) rfl rfl ?_
    refine XS.aload X10.here hx rfl (hb hby at_154) rfl rfl ?_
    refine XS.lloadN X10.here hx rfl (hb hby at_156) rfl ?_
    refine XS.lloadN X10.here hx rfl (hb hby at_157) rfl ?_
    show Steps p.tables e below (T10.setTop (mkF m 158 #[.val (.int sel), .val (.long qg), .second, .val (.long qt), .second, .val (.long qk), .second, .val (.long qd), .second, .val (.int (0 : Int32)), .val (.int (1 : Int32)), .val (.ref re), .val (.ref oc2), .val (.int (1 : Int32)), .val (.ref c7), .val (.int (1 : Int32)), .unset, .unset, .unset] [(.long qt), (.long qg), (.ref re), (.ref b10), (.ref b10)])) _
    refine XS.lload X10.here hx rfl (hb hby at_158) rfl ?_
    refine XS.lload X10.here hx rfl (hb hby at_160) rfl ?_
    refine st11.trans ?_
    show Steps p.tables e below (T11.setTop (mkF m 165 #[.val (.int sel), .val (.long qg), .second, .val (.long qt), .second, .val (.long qk), .second, .val (.long qd), .second, .val (.int (0 : Int32)), .val (.int (1 : Int32)), .val (.ref re), .val (.ref oc2), .val (.int (1 : Int32)), .val (.ref c7), .val (.int (1 : Int32)), .unset, .unset, .unset] [(.ref b10)])) _
    refine XS.astore X11.here hx rfl (hb hby at_165) rfl rfl (l' := #[.val (.int sel), .val (.long qg), .second, .val (.long qt), .second, .val (.long qk), .second, .val (.long qd), .second, .val (.int (0 : Int32)), .val (.int (1 : Int32)), .val (.ref re), .val (.ref oc2), .val (.int (1 : Int32)), .val (.ref c7), .val (.int (1 : Int32)), .val (.ref b10), .unset, .unset]) rfl ?_
    show Steps p.tables e below (T11.setTop (mkF m 167 #[.val (.int sel), .val (.long qg), .second, .val (.long qt), .second, .val (.long qk), .second, .val (.long qd), .second, .val (.int (0 : Int32)), .val (.int (1 : Int32)), .val (.ref re), .val (.ref oc2), .val (.int (1 : Int32)), .val (.ref c7), .val (.int (1 : Int32)), .val (.ref b10), .unset, .unset] [])) _
    refine XS.aload X11.here hx rfl (hb hby at_167) rfl rfl ?_
    refine XS.aload X11.here hx rfl (hb hby at_169) rfl rfl ?_
    refine st12.trans ?_
    show Steps p.tables e below (T12.setTop (mkF m 174 #[.val (.int sel), .val (.long qg), .second, .val (.long qt), .second, .val (.long qk), .second, .val (.long qd), .second, .val (.int (0 : Int32)), .val (.int (1 : Int32)), .val (.ref re), .val (.ref oc2), .val (.int (1 : Int32)), .val (.ref c7), .val (.int (1 : Int32)), .val (.ref b10), .unset, .unset] [(.ref oc12)])) _
    refine XS.astore X12.here hx rfl (hb hby at_174) rfl rfl (l' := #[.val (.int sel), .val (.long qg), .second, .val (.long qt), .second, .val (.long qk), .second, .val (.long qd), .second, .val (.int (0 : Int32)), .val (.int (1 : Int32)), .val (.ref re), .val (.ref oc2), .val (.int (1 : Int32)), .val (.ref c7), .val (.int (1 : Int32)), .val (.ref b10), .val (.ref oc12), .unset]) rfl ?_
    show Steps p.tables e below (T12.setTop (mkF m 176 #[.val (.int sel), .val (.long qg), .second, .val (.long qt), .second, .val (.long qk), .second, .val (.long qd), .second, .val (.int (0 : Int32)), .val (.int (1 : Int32)), .val (.ref re), .val (.ref oc2), .val (.int (1 : Int32)), .val (.ref c7), .val (.int (1 : Int32)), .val (.ref b10), .val (.ref oc12), .unset] [])) _
    refine XS.aload X12.here hx rfl (hb hby at_176) rfl rfl ?_
    refine st14.trans ?_
    show Steps p.tables e below (T14.setTop (mkF m 181 #[.val (.int sel), .val (.long qg), .second, .val (.long qt), .second, .val (.long qk), .second, .val (.long qd), .second, .val (.int (0 : Int32)), .val (.int (1 : Int32)), .val (.ref re), .val (.ref oc2), .val (.int (1 : Int32)), .val (.ref c7), .val (.int (1 : Int32)), .val (.ref b10), .val (.ref oc12), .unset] [(.long qg)])) _
    refine XS.lloadN X14.here hx rfl (hb hby at_181) rfl ?_
    refine XS.lcmp X14.here hx rfl (hb hby at_182) rfl ?_
    show Steps p.tables e below (T14.setTop (mkF m 183 #[.val (.int sel), .val (.long qg), .second, .val (.long qt), .second, .val (.long qk), .second, .val (.long qd), .second, .val (.int (0 : Int32)), .val (.int (1 : Int32)), .val (.ref re), .val (.ref oc2), .val (.int (1 : Int32)), .val (.ref c7), .val (.int (1 : Int32)), .val (.ref b10), .val (.ref oc12), .unset] [(.int (lcmpW qg qg))])) _
    rw [((lw_eq qg qg).mpr rfl)]
    show Steps p.tables e below (T14.setTop (mkF m 183 #[.val (.int sel), .val (.long qg), .second, .val (.long qt), .second, .val (.long qk), .second, .val (.long qd), .second, .val (.int (0 : Int32)), .val (.int (1 : Int32)), .val (.ref re), .val (.ref oc2), .val (.int (1 : Int32)), .val (.ref c7), .val (.int (1 : Int32)), .val (.ref b10), .val (.ref oc12), .unset] [(.int (0 : Int32))])) _
    refine XS.ifNo X14.here hx rfl (hb hby at_183) rfl ((if0 _ _).trans (teq (by decide : (0 : Int32) = (0 : Int32))).2) ?_
    show Steps p.tables e below (T14.setTop (mkF m 186 #[.val (.int sel), .val (.long qg), .second, .val (.long qt), .second, .val (.long qk), .second, .val (.long qd), .second, .val (.int (0 : Int32)), .val (.int (1 : Int32)), .val (.ref re), .val (.ref oc2), .val (.int (1 : Int32)), .val (.ref c7), .val (.int (1 : Int32)), .val (.ref b10), .val (.ref oc12), .unset] [])) _
    refine XS.aload X14.here hx rfl (hb hby at_186) rfl rfl ?_
    refine st15.trans ?_
    show Steps p.tables e below (T15.setTop (mkF m 191 #[.val (.int sel), .val (.long qg), .second, .val (.long qt), .second, .val (.long qk), .second, .val (.long qd), .second, .val (.int (0 : Int32)), .val (.int (1 : Int32)), .val (.ref re), .val (.ref oc2), .val (.int (1 : Int32)), .val (.ref c7), .val (.int (1 : Int32)), .val (.ref b10), .val (.ref oc12), .unset] [(.long qt)])) _
    refine XS.lloadN X15.here hx rfl (hb hby at_191) rfl ?_
    refine XS.lcmp X15.here hx rfl (hb hby at_192) rfl ?_
    show Steps p.tables e below (T15.setTop (mkF m 193 #[.val (.int sel), .val (.long qg), .second, .val (.long qt), .second, .val (.long qk), .second, .val (.long qd), .second, .val (.int (0 : Int32)), .val (.int (1 : Int32)), .val (.ref re), .val (.ref oc2), .val (.int (1 : Int32)), .val (.ref c7), .val (.int (1 : Int32)), .val (.ref b10), .val (.ref oc12), .unset] [(.int (lcmpW qt qt))])) _
    rw [((lw_eq qt qt).mpr rfl)]
    show Steps p.tables e below (T15.setTop (mkF m 193 #[.val (.int sel), .val (.long qg), .second, .val (.long qt), .second, .val (.long qk), .second, .val (.long qd), .second, .val (.int (0 : Int32)), .val (.int (1 : Int32)), .val (.ref re), .val (.ref oc2), .val (.int (1 : Int32)), .val (.ref c7), .val (.int (1 : Int32)), .val (.ref b10), .val (.ref oc12), .unset] [(.int (0 : Int32))])) _
    refine XS.ifNo X15.here hx rfl (hb hby at_193) rfl ((if0 _ _).trans (teq (by decide : (0 : Int32) = (0 : Int32))).2) ?_
    show Steps p.tables e below (T15.setTop (mkF m 196 #[.val (.int sel), .val (.long qg), .second, .val (.long qt), .second, .val (.long qk), .second, .val (.long qd), .second, .val (.int (0 : Int32)), .val (.int (1 : Int32)), .val (.ref re), .val (.ref oc2), .val (.int (1 : Int32)), .val (.ref c7), .val (.int (1 : Int32)), .val (.ref b10), .val (.ref oc12), .unset] [])) _
    refine XS.aload X15.here hx rfl (hb hby at_196) rfl rfl ?_
    refine st16.trans ?_
    show Steps p.tables e below (T16.setTop (mkF m 201 #[.val (.int sel), .val (.long qg), .second, .val (.long qt), .second, .val (.long qk), .second, .val (.long qd), .second, .val (.int (0 : Int32)), .val (.int (1 : Int32)), .val (.ref re), .val (.ref oc2), .val (.int (1 : Int32)), .val (.ref c7), .val (.int (1 : Int32)), .val (.ref b10), .val (.ref oc12), .unset] [(.long qk)])) _
    refine XS.lload X16.here hx rfl (hb hby at_201) rfl ?_
    refine XS.lcmp X16.here hx rfl (hb hby at_203) rfl ?_
    show Steps p.tables e below (T16.setTop (mkF m 204 #[.val (.int sel), .val (.long qg), .second, .val (.long qt), .second, .val (.long qk), .second, .val (.long qd), .second, .val (.int (0 : Int32)), .val (.int (1 : Int32)), .val (.ref re), .val (.ref oc2), .val (.int (1 : Int32)), .val (.ref c7), .val (.int (1 : Int32)), .val (.ref b10), .val (.ref oc12), .unset] [(.int (lcmpW qk qk))])) _
    rw [((lw_eq qk qk).mpr rfl)]
    show Steps p.tables e below (T16.setTop (mkF m 204 #[.val (.int sel), .val (.long qg), .second, .val (.long qt), .second, .val (.long qk), .second, .val (.long qd), .second, .val (.int (0 : Int32)), .val (.int (1 : Int32)), .val (.ref re), .val (.ref oc2), .val (.int (1 : Int32)), .val (.ref c7), .val (.int (1 : Int32)), .val (.ref b10), .val (.ref oc12), .unset] [(.int (0 : Int32))])) _
    refine XS.ifNo X16.here hx rfl (hb hby at_204) rfl ((if0 _ _).trans (teq (by decide : (0 : Int32) = (0 : Int32))).2) ?_
    show Steps p.tables e below (T16.setTop (mkF m 207 #[.val (.int sel), .val (.long qg), .second, .val (.long qt), .second, .val (.long qk), .second, .val (.long qd), .second, .val (.int (0 : Int32)), .val (.int (1 : Int32)), .val (.ref re), .val (.ref oc2), .val (.int (1 : Int32)), .val (.ref c7), .val (.int (1 : Int32)), .val (.ref b10), .val (.ref oc12), .unset] [])) _
    refine XS.aload X16.here hx rfl (hb hby at_207) rfl rfl ?_
    refine st17.trans ?_
    show Steps p.tables e below (T17.setTop (mkF m 212 #[.val (.int sel), .val (.long qg), .second, .val (.long qt), .second, .val (.long qk), .second, .val (.long qd), .second, .val (.int (0 : Int32)), .val (.int (1 : Int32)), .val (.ref re), .val (.ref oc2), .val (.int (1 : Int32)), .val (.ref c7), .val (.int (1 : Int32)), .val (.ref b10), .val (.ref oc12), .unset] [(.long qd)])) _
    refine XS.lload X17.here hx rfl (hb hby at_212) rfl ?_
    refine XS.lcmp X17.here hx rfl (hb hby at_214) rfl ?_
    show Steps p.tables e below (T17.setTop (mkF m 215 #[.val (.int sel), .val (.long qg), .second, .val (.long qt), .second, .val (.long qk), .second, .val (.long qd), .second, .val (.int (0 : Int32)), .val (.int (1 : Int32)), .val (.ref re), .val (.ref oc2), .val (.int (1 : Int32)), .val (.ref c7), .val (.int (1 : Int32)), .val (.ref b10), .val (.ref oc12), .unset] [(.int (lcmpW qd qd))])) _
    rw [((lw_eq qd qd).mpr rfl)]
    show Steps p.tables e below (T17.setTop (mkF m 215 #[.val (.int sel), .val (.long qg), .second, .val (.long qt), .second, .val (.long qk), .second, .val (.long qd), .second, .val (.int (0 : Int32)), .val (.int (1 : Int32)), .val (.ref re), .val (.ref oc2), .val (.int (1 : Int32)), .val (.ref c7), .val (.int (1 : Int32)), .val (.ref b10), .val (.ref oc12), .unset] [(.int (0 : Int32))])) _
    refine XS.ifNo X17.here hx rfl (hb hby at_215) rfl ((if0 _ _).trans (teq (by decide : (0 : Int32) = (0 : Int32))).2) ?_
    show Steps p.tables e below (T17.setTop (mkF m 218 #[.val (.int sel), .val (.long qg), .second, .val (.long qt), .second, .val (.long qk), .second, .val (.long qd), .second, .val (.int (0 : Int32)), .val (.int (1 : Int32)), .val (.ref re), .val (.ref oc2), .val (.int (1 : Int32)), .val (.ref c7), .val (.int (1 : Int32)), .val (.ref b10), .val (.ref oc12), .unset] [])) _
    refine XS.iconst X17.here hx rfl (hb hby at_218) ?_
    refine XS.goto X17.here hx rfl (pc0 := 219) (pc' := 223) rfl (hb hby at_219) (by decide) (by decide) ?_
    show Steps p.tables e below (T17.setTop (mkF m 223 #[.val (.int sel), .val (.long qg), .second, .val (.long qt), .second, .val (.long qk), .second, .val (.long qd), .second, .val (.int (0 : Int32)), .val (.int (1 : Int32)), .val (.ref re), .val (.ref oc2), .val (.int (1 : Int32)), .val (.ref c7), .val (.int (1 : Int32)), .val (.ref b10), .val (.ref oc12), .unset] [(.int (1 : Int32))])) _
    refine XS.istore X17.here hx rfl (hb hby at_223) rfl (l' := #[.val (.int sel), .val (.long qg), .second, .val (.long qt), .second, .val (.long qk), .second, .val (.long qd), .second, .val (.int (0 : Int32)), .val (.int (1 : Int32)), .val (.ref re), .val (.ref oc2), .val (.int (1 : Int32)), .val (.ref c7), .val (.int (1 : Int32)), .val (.ref b10), .val (.ref oc12), .val (.int (1 : Int32))]) rfl ?_
    show Steps p.tables e below (T17.setTop (mkF m 225 #[.val (.int sel), .val (.long qg), .second, .val (.long qt), .second, .val (.long qk), .second, .val (.long qd), .second, .val (.int (0 : Int32)), .val (.int (1 : Int32)), .val (.ref re), .val (.ref oc2), .val (.int (1 : Int32)), .val (.ref c7), .val (.int (1 : Int32)), .val (.ref b10), .val (.ref oc12), .val (.int (1 : Int32))] [])) _
    refine XS.iload X17.here hx rfl (hb hby at_225) rfl ?_
    refine XS.ifNo X17.here hx rfl (hb hby at_227) rfl ((if0 _ _).trans (feq (by decide : ¬ ((1 : Int32) = (0 : Int32)))).1) ?_
    show Steps p.tables e below (T17.setTop (mkF m 230 #[.val (.int sel), .val (.long qg), .second, .val (.long qt), .second, .val (.long qk), .second, .val (.long qd), .second, .val (.int (0 : Int32)), .val (.int (1 : Int32)), .val (.ref re), .val (.ref oc2), .val (.int (1 : Int32)), .val (.ref c7), .val (.int (1 : Int32)), .val (.ref b10), .val (.ref oc12), .val (.int (1 : Int32))] [])) _
    refine XS.iload X17.here hx rfl (hb hby at_230) rfl ?_
    refine XS.ifNo X17.here hx rfl (hb hby at_232) rfl ((if0 _ _).trans (feq (by decide : ¬ ((1 : Int32) = (0 : Int32)))).1) ?_
    show Steps p.tables e below (T17.setTop (mkF m 235 #[.val (.int sel), .val (.long qg), .second, .val (.long qt), .second, .val (.long qk), .second, .val (.long qd), .second, .val (.int (0 : Int32)), .val (.int (1 : Int32)), .val (.ref re), .val (.ref oc2), .val (.int (1 : Int32)), .val (.ref c7), .val (.int (1 : Int32)), .val (.ref b10), .val (.ref oc12), .val (.int (1 : Int32))] [])) _
    refine XS.iload X17.here hx rfl (hb hby at_235) rfl ?_
    refine XS.ifNo X17.here hx rfl (hb hby at_237) rfl ((if0 _ _).trans (feq (by decide : ¬ ((1 : Int32) = (0 : Int32)))).1) ?_
    show Steps p.tables e below (T17.setTop (mkF m 240 #[.val (.int sel), .val (.long qg), .second, .val (.long qt), .second, .val (.long qk), .second, .val (.long qd), .second, .val (.int (0 : Int32)), .val (.int (1 : Int32)), .val (.ref re), .val (.ref oc2), .val (.int (1 : Int32)), .val (.ref c7), .val (.int (1 : Int32)), .val (.ref b10), .val (.ref oc12), .val (.int (1 : Int32))] [])) _
    refine XS.iconst X17.here hx rfl (hb hby at_240) ?_
    refine XS.goto X17.here hx rfl (pc0 := 241) (pc' := 245) rfl (hb hby at_241) (by decide) (by decide) ?_
    show Steps p.tables e below (T17.setTop (mkF m 245 #[.val (.int sel), .val (.long qg), .second, .val (.long qt), .second, .val (.long qk), .second, .val (.long qd), .second, .val (.int (0 : Int32)), .val (.int (1 : Int32)), .val (.ref re), .val (.ref oc2), .val (.int (1 : Int32)), .val (.ref c7), .val (.int (1 : Int32)), .val (.ref b10), .val (.ref oc12), .val (.int (1 : Int32))] [(.int (1 : Int32))])) _
    exact retN X17 hx (t := .boolean) Bd.returns (by simp) (hb hby at_245) hr
  · show (Q1 n0) _ T17.heap _
    rw [e17]
    exact ⟨rfl, N17⟩
  · show CHr Z consts_1 s.vm s.heap T17.vm T17.heap
    rw [hh, e17]
    exact Ch12.trans (CHv.at (s := s) (vm0 := T8.vm) X17 hZ8 (own_EW hw) Ch12.1)
set_option maxRecDepth 65536 in
set_option maxHeartbeats 40000000 in
theorem law_00 (l : Launch) (Z : State) (a0 : Array Value) (hw : ∀ d ∈ tables_1, d.before a0 Z = true) (sel : Int32) (qg qt qk qd : Int64) (sk re : Addr) (zc : Int32) (d1 : Addr) (cd : Cell) (h0 : Heap) (n0 : Nat) (Z0 : n0 ≤ h0.size) (S_SKIP : Sta Z h0 "com/example/known_origins/knownorigins/store/IfStored" "SKIP" "Lcom/example/known_origins/knownorigins/store/IfStored;" (.ref sk)) (S_REFUSE : Sta Z h0 "com/example/known_origins/knownorigins/store/IfStored" "REFUSE" "Lcom/example/known_origins/knownorigins/store/IfStored;" (.ref re)) (hrs : ¬ (re = sk)) (S_CS : Sta Z h0 "java/lang/String" "COMPACT_STRINGS" "Z" (.int zc)) (hz : ¬ (zc = (0 : Int32))) (S_D1 : Sta Z h0 "java/lang/Integer" "DigitOnes" "[B" (.ref d1)) (Ad : Arr Z h0 d1 cd .byte) (hind : ¬ ((0 : Int32) < 0 ∨ cd.slots.size ≤ (0 : Int32).toNatClampNeg)) (hatd : cd.slots[(0 : Int32).toNatClampNeg]? = some (.int (48 : Int32))) (hc3 : (sel &&& (1 : Int32)) = (0 : Int32)) (hc16 : (sel &&& (2 : Int32)) = (0 : Int32)) :
    MH l Z x code maxLocals ret room_1 #[(.int sel), (.long qg), (.long qt), (.long qk), (.long qd)] h0 (Q1 n0) := by
  intro ws
  refine MetFree.of_bodySF (plainFor_of_name pn_0) hisR ?_
  intro p e s m args below meth c s₁ Bd hml0 hP hK
  obtain ⟨rfl, hZ, hh, hCH⟩ := hP
  have hx := Bd.exec
  have hby := Bd.bytes
  have hml : c.maxLocals = 19 := hml0
  have hown : s.vm.findClass "com/example/known_origins/knownorigins/store/LoadCountNonePinLaw" = some m.cls := findClass_of_methodNamed Bd.named
  have hnm := (name_of_methodNamed Bd.named Bd.method).1
  have X0 : Stand p l e room_1 s m #[(.int sel), (.long qg), (.long qt), (.long qk), (.long qd)] below meth c s₁ [] 0 0 := Stand.of_body Bd
  have e0 : s₁.heap = h0 := by rw [← hh, Bd.state]; rfl
  have N0 := Fr.nil n0
  have hSi : s.Since s.vm 0 := (State.WarmedH.refl s).since 0
  have Ch0 : CHr Z consts_1 s.vm h0 s.vm h0 := CHr.refl hCH
  have pre0 : ∀ t_, Steps p.tables e below (s₁.setTop (mkF m 0 #[.val (.int sel), .val (.long qg), .second, .val (.long qt), .second, .val (.long qk), .second, .val (.long qd), .second, .unset, .unset, .unset, .unset, .unset, .unset, .unset, .unset, .unset, .unset] [])) t_ → Steps p.tables e below (s₁.setTop (entryFrame m #[(.int sel), (.long qg), (.long qt), (.long qk), (.long qd)] maxLocals)) t_ := fun t_ k_ => castTop (ef_0 m sel qg qt qk qd) k_
  obtain ⟨T1, X1, e1, st1⟩ := getS2 X0 hx hZ hown (host := "") (Or.inl (hw _ (M 0))) Via.refl e0 S_REFUSE (g := (mkF m 37 #[.val (.int sel), .val (.long qg), .second, .val (.long qt), .second, .val (.long qk), .second, .val (.long qd), .second, .val (.int (0 : Int32)), .val (.int (0 : Int32)), .unset, .unset, .unset, .unset, .unset, .unset, .unset, .unset] [])) rfl (hb hby at_37)
  obtain ⟨_, _, ⟨T2, L2, k2, n2⟩, -, X2, ⟨Lc2, hQ2, l2, y2, z2⟩, st2⟩ := Jvm.LawKit.callS X1 hx (y := (⟨"com/example/known_origins/knownorigins/store/LoadCount", "none", "(Lcom/example/known_origins/knownorigins/store/IfStored;)Lcom/example/known_origins/knownorigins/store/LoadCount;"⟩ : MethodName)) hown (mvT hZ (hw _ (M 3))) (mvT hZ (hw _ (M 4))) (mvT hZ (hw _ (M 5))) (mvT hZ (hw _ (M 6))) (by decide) (backOf (W := 0) ((lcNone l Z a0 hw re h0 n0 (Nat.le_trans Z0 (Keep.refl h0 []).1)) []) hZ (hw _ (M 6)) (hw _ (M 5)) (by decide) (by decide)) (g := (mkF m 44 #[.val (.int sel), .val (.long qg), .second, .val (.long qt), .second, .val (.long qk), .second, .val (.long qd), .second, .val (.int (0 : Int32)), .val (.int (0 : Int32)), .val (.ref re), .unset, .unset, .unset, .unset, .unset, .unset, .unset] [(.ref re)])) rfl (by rw [hml]; rfl) (argsL := [(.ref re)]) (rest := []) (lenOf pd_oLcom_example_known_origins_knownorigins_store_IfStored_cLcom_example_known_origins_knownorigins_store_LoadCount_ rfl) rfl (by show 2 * 0 + _ ≤ _; exact Nat.le_of_eq rfl) (hb hby at_44) (fun _ _ => ⟨rfl, e1, (by decide : 0 + 1 ≤ _), (by decide : 0 + 5 ≤ _)⟩)
  dsimp only [Pt.U, Pt.locs, Pt.cells, Pt.slots] at X2 l2 y2 z2 st2 hQ2
  subst l2 y2 z2
  obtain ⟨oc2, rfl, N2q, Kq2, sz2q, Bq2⟩ := hQ2
  have sz_oc2 : h0.size ≤ oc2 := Nat.le_trans (Keep.refl h0 []).1 sz2q
  have g_oc2 : n0 ≤ oc2 := Nat.le_trans Z0 sz_oc2
  have ne_d1_oc2 : d1 ≠ oc2 := Nat.ne_of_lt (Nat.lt_of_lt_of_le Ad.lt sz2q)
  have K2 : Keep h0 T2.heap [] := (Keep.refl h0 []).trans Kq2 all0
  have Ch2 : CHr Z consts_1 s.vm h0 s.vm T2.heap := Ch0.trans (CHr.keep Kq2 sf0 Ch0.1)
  have Sf2_oc2 : Safe Z consts_1 s.vm T2.heap oc2 := Safe.keep Kq2 sf0 Ch0.1 (Safe.new sz2q)
  have hkk2 : 0 ≤ T2.heap.size := Nat.le_trans (Nat.zero_le _) Kq2.1
  have N2 := Fr.app N0 N2q
  obtain ⟨cq3, kq3, q3a, q3b, q3c⟩ := isOf hZ rfl Bq2.1
  obtain ⟨_, _, ⟨T3, L3, k3, n3⟩, -, X3, ⟨Lc3, hQ3, l3, y3, z3⟩, st3⟩ := X2.virtualBack hx (y := (⟨"com/example/known_origins/knownorigins/store/LoadCount", "graphs", "()J"⟩ : MethodName)) (z := (⟨"com/example/known_origins/knownorigins/store/LoadCount", "graphs", "()J"⟩ : MethodName)) hown (mvT hZ (hw _ (M 25))) (mvT hZ (hw _ (M 26))) (notFace_of_selects (args := #[]) (mvT hZ (hw _ (M 28)))) (mvT hZ (hw _ (M 28))) (mvT hZ (hw _ (M 27))) (by decide) (backOf (W := 0) ((lc_graphs l Z a0 hw oc2 re (0 : Int64) (0 : Int64) (0 : Int64) (0 : Int64) T2.heap n0 (Nat.le_trans Z0 K2.1) ⟨Bq2.1, Bq2.2.1, Bq2.2.2.1, Bq2.2.2.2.1, Bq2.2.2.2.2.1, Bq2.2.2.2.2.2⟩) []) hZ (hw _ (M 29)) (hw _ (M 5)) (by decide) (by decide)) q3a q3c (g := (mkF m 51 #[.val (.int sel), .val (.long qg), .second, .val (.long qt), .second, .val (.long qk), .second, .val (.long qd), .second, .val (.int (0 : Int32)), .val (.int (0 : Int32)), .val (.ref re), .val (.ref oc2), .unset, .unset, .unset, .unset, .unset, .unset] [(.ref oc2)])) rfl (by rw [hml]; rfl) (Steps.refl _) (argsL := []) (rest := []) (lenOf pd_ocJ rfl) rfl (by show 2 * 0 + _ ≤ _; exact Nat.le_of_eq rfl) (hb hby at_51) (fun _ _ => ⟨rfl, rfl, (by decide : 1 + 0 ≤ _), (by decide : 5 + 0 ≤ _)⟩)
  dsimp only [Pt.U, Pt.locs, Pt.cells, Pt.slots] at X3 l3 y3 z3 st3 hQ3
  subst l3 y3 z3
  obtain ⟨rfl, N3q, e3⟩ := hQ3
  have N3 := Fr.app N2 N3q
  obtain ⟨cq4, kq4, q4a, q4b, q4c⟩ := isOf hZ e3 Bq2.1
  obtain ⟨_, _, ⟨T4, L4, k4, n4⟩, -, X4, ⟨Lc4, hQ4, l4, y4, z4⟩, st4⟩ := X3.virtualBack hx (y := (⟨"com/example/known_origins/knownorigins/store/LoadCount", "triples", "()J"⟩ : MethodName)) (z := (⟨"com/example/known_origins/knownorigins/store/LoadCount", "triples", "()J"⟩ : MethodName)) hown (mvT hZ (hw _ (M 30))) (mvT hZ (hw _ (M 31))) (notFace_of_selects (args := #[]) (mvT hZ (hw _ (M 33)))) (mvT hZ (hw _ (M 33))) (mvT hZ (hw _ (M 32))) (by decide) (backOf (W := 0) ((lc_triples l Z a0 hw oc2 re (0 : Int64) (0 : Int64) (0 : Int64) (0 : Int64) T2.heap n0 (Nat.le_trans Z0 K2.1) ⟨Bq2.1, Bq2.2.1, Bq2.2.2.1, Bq2.2.2.2.1, Bq2.2.2.2.2.1, Bq2.2.2.2.2.2⟩) []) hZ (hw _ (M 34)) (hw _ (M 5)) (by decide) (by decide)) q4a q4c (g := (mkF m 61 #[.val (.int sel), .val (.long qg), .second, .val (.long qt), .second, .val (.long qk), .second, .val (.long qd), .second, .val (.int (0 : Int32)), .val (.int (0 : Int32)), .val (.ref re), .val (.ref oc2), .unset, .unset, .unset, .unset, .unset, .unset] [(.ref oc2)])) rfl (by rw [hml]; rfl) (Steps.refl _) (argsL := []) (rest := []) (lenOf pd_ocJ rfl) rfl (by show 2 * 0 + _ ≤ _; exact Nat.le_of_eq rfl) (hb hby at_61) (fun _ _ => ⟨rfl, e3, (by decide : 1 + 0 ≤ _), (by decide : 5 + 0 ≤ _)⟩)
  dsimp only [Pt.U, Pt.locs, Pt.cells, Pt.slots] at X4 l4 y4 z4 st4 hQ4
  subst l4 y4 z4
  obtain ⟨rfl, N4q, e4⟩ := hQ4
  have N4 := Fr.app N3 N4q
  obtain ⟨cq5, kq5, q5a, q5b, q5c⟩ := isOf hZ e4 Bq2.1
  obtain ⟨_, _, ⟨T5, L5, k5, n5⟩, -, X5, ⟨Lc5, hQ5, l5, y5, z5⟩, st5⟩ := X4.virtualBack hx (y := (⟨"com/example/known_origins/knownorigins/store/LoadCount", "skipped", "()J"⟩ : MethodName)) (z := (⟨"com/example/known_origins/knownorigins/store/LoadCount", "skipped", "()J"⟩ : MethodName)) hown (mvT hZ (hw _ (M 35))) (mvT hZ (hw _ (M 36))) (notFace_of_selects (args := #[]) (mvT hZ (hw _ (M 38)))) (mvT hZ (hw _ (M 38))) (mvT hZ (hw _ (M 37))) (by decide) (backOf (W := 0) ((lc_skipped l Z a0 hw oc2 re (0 : Int64) (0 : Int64) (0 : Int64) (0 : Int64) T2.heap n0 (Nat.le_trans Z0 K2.1) ⟨Bq2.1, Bq2.2.1, Bq2.2.2.1, Bq2.2.2.2.1, Bq2.2.2.2.2.1, Bq2.2.2.2.2.2⟩) []) hZ (hw _ (M 39)) (hw _ (M 5)) (by decide) (by decide)) q5a q5c (g := (mkF m 71 #[.val (.int sel), .val (.long qg), .second, .val (.long qt), .second, .val (.long qk), .second, .val (.long qd), .second, .val (.int (0 : Int32)), .val (.int (0 : Int32)), .val (.ref re), .val (.ref oc2), .unset, .unset, .unset, .unset, .unset, .unset] [(.ref oc2)])) rfl (by rw [hml]; rfl) (Steps.refl _) (argsL := []) (rest := []) (lenOf pd_ocJ rfl) rfl (by show 2 * 0 + _ ≤ _; exact Nat.le_of_eq rfl) (hb hby at_71) (fun _ _ => ⟨rfl, e4, (by decide : 1 + 0 ≤ _), (by decide : 5 + 0 ≤ _)⟩)
  dsimp only [Pt.U, Pt.locs, Pt.cells, Pt.slots] at X5 l5 y5 z5 st5 hQ5
  subst l5 y5 z5
  obtain ⟨rfl, N5q, e5⟩ := hQ5
  have N5 := Fr.app N4 N5q
  obtain ⟨cq6, kq6, q6a, q6b, q6c⟩ := isOf hZ e5 Bq2.1
  obtain ⟨_, _, ⟨T6, L6, k6, n6⟩, -, X6, ⟨Lc6, hQ6, l6, y6, z6⟩, st6⟩ := X5.virtualBack hx (y := (⟨"com/example/known_origins/knownorigins/store/LoadCount", "derived", "()J"⟩ : MethodName)) (z := (⟨"com/example/known_origins/knownorigins/store/LoadCount", "derived", "()J"⟩ : MethodName)) hown (mvT hZ (hw _ (M 40))) (mvT hZ (hw _ (M 41))) (notFace_of_selects (args := #[]) (mvT hZ (hw _ (M 43)))) (mvT hZ (hw _ (M 43))) (mvT hZ (hw _ (M 42))) (by decide) (backOf (W := 0) ((lc_derived l Z a0 hw oc2 re (0 : Int64) (0 : Int64) (0 : Int64) (0 : Int64) T2.heap n0 (Nat.le_trans Z0 K2.1) ⟨Bq2.1, Bq2.2.1, Bq2.2.2.1, Bq2.2.2.2.1, Bq2.2.2.2.2.1, Bq2.2.2.2.2.2⟩) []) hZ (hw _ (M 44)) (hw _ (M 5)) (by decide) (by decide)) q6a q6c (g := (mkF m 81 #[.val (.int sel), .val (.long qg), .second, .val (.long qt), .second, .val (.long qk), .second, .val (.long qd), .second, .val (.int (0 : Int32)), .val (.int (0 : Int32)), .val (.ref re), .val (.ref oc2), .unset, .unset, .unset, .unset, .unset, .unset] [(.ref oc2)])) rfl (by rw [hml]; rfl) (Steps.refl _) (argsL := []) (rest := []) (lenOf pd_ocJ rfl) rfl (by show 2 * 0 + _ ≤ _; exact Nat.le_of_eq rfl) (hb hby at_81) (fun _ _ => ⟨rfl, e5, (by decide : 1 + 0 ≤ _), (by decide : 5 + 0 ≤ _)⟩)
  dsimp only [Pt.U, Pt.locs, Pt.cells, Pt.slots] at X6 l6 y6 z6 st6 hQ6
  subst l6 y6 z6
  obtain ⟨rfl, N6q, e6⟩ := hQ6
  have N6 := Fr.app N5 N6q
  obtain ⟨c7, T7, h7, k7, sb7, kS7, X7, e7, E7, hS7, hk7, hZ7, hown7, Es7, Fc7, Fv7, Va7, -, -, CR7, -, hn7, st7⟩ := ldcCH (s := s) (vm0 := s.vm) X6 hx hZ hown (hw _ (M 45)) (own_strA hw) e6 hSi hkk2 (own_EW hw) (List.mem_of_getElem? (i := 8) rfl) Ch2.1 lit_0 (z := (25 : Int32)) (by decide) (by rfl) (g := (mkF m 132 #[.val (.int sel), .val (.long qg), .second, .val (.long qt), .second, .val (.long qk), .second, .val (.long qd), .second, .val (.int (0 : Int32)), .val (.int (0 : Int32)), .val (.ref re), .val (.ref oc2), .val (.int (1 : Int32)), .unset, .unset, .unset, .unset, .unset] [])) rfl (hb hby at_132) (n := 100) (by decide) (by decide) (by decide) (by decide)
  have K7 : Keep h0 h7 [] := K2.ext E7
  have Ch7 : CHr Z consts_1 s.vm h0 T7.vm h7 := Ch2.trans CR7
  have Sf7_oc2 : Safe Z consts_1 T7.vm h7 oc2 := CHr.safe CR7 Bq2.1.lt Sf2_oc2
  obtain ⟨cq8, kq8, q8a, q8b, q8c⟩ := isOf hZ7 e7 (Bq2.1.ext E7)
  obtain ⟨_, _, ⟨T8, L8, k8, n8⟩, -, X8, sc8, gr8, ⟨Lc8, hQ8, l8, y8, z8, ch8⟩, st8⟩ := X7.virtualBackS hx (y := (⟨"com/example/known_origins/knownorigins/store/LoadCount", "line", "(Z)Ljava/lang/String;"⟩ : MethodName)) (z := (⟨"com/example/known_origins/knownorigins/store/LoadCount", "line", "(Z)Ljava/lang/String;"⟩ : MethodName)) hown7 (mvT hZ7 (hw _ (M 53))) (mvT hZ7 (hw _ (M 54))) (notFace_of_selects (args := #[]) (mvT hZ7 (hw _ (M 56)))) (mvT hZ7 (hw _ (M 56))) (mvT hZ7 (hw _ (M 55))) (by decide) (backOfSH (W := 1) ((line_00 l Z a0 hw oc2 sk re zc d1 cd h7 n0 (Nat.le_trans Z0 K7.1) ⟨(Bq2.1.ext E7), (Bq2.2.1.ext E7), (Bq2.2.2.1.ext E7), (Bq2.2.2.2.1.ext E7), (Bq2.2.2.2.2.1.ext E7), (Bq2.2.2.2.2.2.ext E7)⟩ ((own_sta_keepN S_SKIP Kq2 ns0).ext E7) ((own_sta_keepN S_CS Kq2 ns0).ext E7) hz ((own_sta_keepN S_D1 Kq2 ns0).ext E7) ((own_arr_keep Ad Kq2 nin0).ext E7) hind hatd hrs) []) hZ7 (hw _ (M 57)) (hw _ (M 5)) (by decide) (by decide) (own_EW hw) Ch7.1) q8a q8c (g := (mkF m 142 #[.val (.int sel), .val (.long qg), .second, .val (.long qt), .second, .val (.long qk), .second, .val (.long qd), .second, .val (.int (0 : Int32)), .val (.int (0 : Int32)), .val (.ref re), .val (.ref oc2), .val (.int (1 : Int32)), .val (.ref c7), .unset, .unset, .unset, .unset] [(.int (0 : Int32)), (.ref oc2), (.ref c7)])) rfl (by rw [hml]; rfl) (Steps.refl _) (argsL := [(.int (0 : Int32))]) (rest := [(.ref c7)]) (lenOf pd_oZcLjava_lang_String_ rfl) rfl (by show 2 * 0 + _ ≤ _; exact Nat.le_of_eq rfl) (hb hby at_142) (fun _ _ => ⟨rfl, e7, (by decide : 3 + 13 ≤ _), (by decide : 109 + 247 ≤ _)⟩)
  dsimp only [Pt.U, Pt.locs, Pt.cells, Pt.slots] at X8 l8 y8 z8 st8 hQ8 sc8 gr8
  subst l8 y8 z8
  dsimp only [Pt.U, Pt.locs, Pt.cells, Pt.slots] at ch8
  obtain ⟨Y8, hS8, hZ8, hown8⟩ := rebS (s := s) hS7 (by rw [e7]; exact hk7) X8 sc8 gr8 hZ7 hown7
  obtain ⟨os8, sr8, kS8, rfl, N8q, Kq8, so8q, sr8q, Tq8⟩ := hQ8
  have sz_os8 : h0.size ≤ os8 := Nat.le_trans K7.1 so8q
  have g_os8 : n0 ≤ os8 := Nat.le_trans Z0 sz_os8
  have ne_c7_os8 : c7 ≠ os8 := Nat.ne_of_lt (Nat.lt_of_lt_of_le Es7.lt so8q)
  have ne_d1_os8 : d1 ≠ os8 := Nat.ne_of_lt (Nat.lt_of_lt_of_le ((own_arr_keep Ad Kq2 nin0).ext E7).lt so8q)
  have ne_oc2_os8 : oc2 ≠ os8 := Nat.ne_of_lt (Nat.lt_of_lt_of_le (Bq2.1.ext E7).lt so8q)
  have ne_sb7_os8 : sb7 ≠ os8 := Nat.ne_of_lt (Nat.lt_of_lt_of_le Va7.lt so8q)
  have sz_sr8 : h0.size ≤ sr8 := Nat.le_trans K7.1 sr8q
  have g_sr8 : n0 ≤ sr8 := Nat.le_trans Z0 sz_sr8
  have ne_c7_sr8 : c7 ≠ sr8 := Nat.ne_of_lt (Nat.lt_of_lt_of_le Es7.lt sr8q)
  have ne_d1_sr8 : d1 ≠ sr8 := Nat.ne_of_lt (Nat.lt_of_lt_of_le ((own_arr_keep Ad Kq2 nin0).ext E7).lt sr8q)
  have ne_oc2_sr8 : oc2 ≠ sr8 := Nat.ne_of_lt (Nat.lt_of_lt_of_le (Bq2.1.ext E7).lt sr8q)
  have ne_sb7_sr8 : sb7 ≠ sr8 := Nat.ne_of_lt (Nat.lt_of_lt_of_le Va7.lt sr8q)
  have K8 : Keep h0 T8.heap [] := K7.trans Kq8 all0
  have Ch8 : CHr Z consts_1 s.vm h0 T8.vm T8.heap := Ch7.trans ch8
  have Sf8_oc2 : Safe Z consts_1 T8.vm T8.heap oc2 := CHr.safe ch8 (Bq2.1.ext E7).lt Sf7_oc2
  have N8 := Fr.app N6 N8q
  obtain ⟨cq9, kq9, q9a, q9b, q9c⟩ := isOf hZ8 rfl (Es7.keep Kq8)
  obtain ⟨_, _, ⟨T9, L9, k9, n9⟩, -, X9, ⟨Lc9, hQ9, l9, y9, z9⟩, st9⟩ := Y8.virtualBack hx (y := (⟨"java/lang/String", "equals", "(Ljava/lang/Object;)Z"⟩ : MethodName)) (z := (⟨"java/lang/String", "equals", "(Ljava/lang/Object;)Z"⟩ : MethodName)) hown8 (mvT hZ8 (hw _ (M 216))) (mvT hZ8 (hw _ (M 217))) (notFace_of_selects (args := #[]) (mvT hZ8 (hw _ (M 219)))) (mvT hZ8 (hw _ (M 219))) (mvT hZ8 (hw _ (M 218))) (by decide) (backOf (W := 0) ((sEquals l Z a0 hw c7 sb7 kS7 (25 : Int32) tx_0 zc os8 sr8 kS8 T8.heap n0 (Nat.le_trans Z0 K8.1) ⟨(Es7.keep Kq8), (Fc7.keep Kq8 nin0), (Fv7.keep Kq8 nin0), (Va7.keep Kq8 nin0)⟩ (own_sta_keepN ((own_sta_keepN S_CS Kq2 ns0).ext E7) Kq8 ns0) hz ⟨Tq8.1, Tq8.2.1, Tq8.2.2.1, Tq8.2.2.2⟩ ne_c7_os8) []) hZ8 (hw _ (M 220)) (hw _ (M 46)) (by decide) (by decide)) q9a q9c (g := (mkF m 145 #[.val (.int sel), .val (.long qg), .second, .val (.long qt), .second, .val (.long qk), .second, .val (.long qd), .second, .val (.int (0 : Int32)), .val (.int (0 : Int32)), .val (.ref re), .val (.ref oc2), .val (.int (1 : Int32)), .val (.ref c7), .unset, .unset, .unset, .unset] [(.ref os8), (.ref c7)])) rfl (by rw [hml]; rfl) (Steps.refl _) (argsL := [(.ref os8)]) (rest := []) (lenOf pd_oLjava_lang_Object_cZ rfl) rfl (by show 2 * 0 + _ ≤ _; exact Nat.le_of_eq rfl) (hb hby at_145) (fun _ _ => ⟨rfl, rfl, (by decide : 16 + 0 ≤ _), (by decide : 356 + 0 ≤ _)⟩)
  dsimp only [Pt.U, Pt.locs, Pt.cells, Pt.slots] at X9 l9 y9 z9 st9 hQ9
  subst l9 y9 z9
  obtain ⟨rfl, N9q, e9⟩ := hQ9
  have N9 := Fr.app N8 N9q
  obtain ⟨T10, h10, X10, e10, E10, A10, D10, -, st10⟩ := newO X9 hx hZ8 hown8 (hw _ (M 226)) (hw _ (M 8)) (hw _ (M 5)) e9 (g := (mkF m 150 #[.val (.int sel), .val (.long qg), .second, .val (.long qt), .second, .val (.long qk), .second, .val (.long qd), .second, .val (.int (0 : Int32)), .val (.int (0 : Int32)), .val (.ref re), .val (.ref oc2), .val (.int (1 : Int32)), .val (.ref c7), .val (.int (1 : Int32)), .unset, .unset, .unset] [])) rfl (hb hby at_150) (by decide) (by decide)
  obtain ⟨b10, g10⟩ : ∃ z, z = T8.heap.size := ⟨_, rfl⟩
  rw [← g10] at A10 D10 st10
  have sz_b10 : h0.size ≤ b10 := Nat.le_trans K8.1 (Nat.le_of_eq g10.symm)
  have g_b10 : n0 ≤ b10 := Nat.le_trans Z0 sz_b10
  have ne_c7_b10 : c7 ≠ b10 := Nat.ne_of_lt (Nat.lt_of_lt_of_le (Es7.keep Kq8).lt (Nat.le_of_eq g10.symm))
  have ne_d1_b10 : d1 ≠ b10 := Nat.ne_of_lt (Nat.lt_of_lt_of_le (own_arr_keep ((own_arr_keep Ad Kq2 nin0).ext E7) Kq8 nin0).lt (Nat.le_of_eq g10.symm))
  have ne_oc2_b10 : oc2 ≠ b10 := Nat.ne_of_lt (Nat.lt_of_lt_of_le ((Bq2.1.ext E7).keep Kq8).lt (Nat.le_of_eq g10.symm))
  have ne_os8_b10 : os8 ≠ b10 := Nat.ne_of_lt (Nat.lt_of_lt_of_le Tq8.1.lt (Nat.le_of_eq g10.symm))
  have ne_sb7_b10 : sb7 ≠ b10 := Nat.ne_of_lt (Nat.lt_of_lt_of_le (Va7.keep Kq8 nin0).lt (Nat.le_of_eq g10.symm))
  have ne_sr8_b10 : sr8 ≠ b10 := Nat.ne_of_lt (Nat.lt_of_lt_of_le Tq8.2.2.2.lt (Nat.le_of_eq g10.symm))
  have K10 : Keep h0 h10 [] := K8.ext E10
  have F_ifStored_b10 : Fld Z h10 b10 "com/example/known_origins/knownorigins/store/LoadCount" "ifStored" "Lcom/example/known_origins/knownorigins/store/IfStored;" .null := D10 (Or.inr (hw _ (M 16))) (ty := (.object "com/example/known_origins/knownorigins/store/IfStored")) (by decide)
  have F_graphs_b10 : Fld Z h10 b10 "com/example/known_origins/knownorigins/store/LoadCount" "graphs" "J" (.long (0 : Int64)) := D10 (Or.inr (hw _ (M 18))) (ty := .long) (by decide)
  have F_triples_b10 : Fld Z h10 b10 "com/example/known_origins/knownorigins/store/LoadCount" "triples" "J" (.long (0 : Int64)) := D10 (Or.inr (hw _ (M 20))) (ty := .long) (by decide)
  have F_skipped_b10 : Fld Z h10 b10 "com/example/known_origins/knownorigins/store/LoadCount" "skipped" "J" (.long (0 : Int64)) := D10 (Or.inr (hw _ (M 22))) (ty := .long) (by decide)
  have F_derived_b10 : Fld Z h10 b10 "com/example/known_origins/knownorigins/store/LoadCount" "derived" "J" (.long (0 : Int64)) := D10 (Or.inr (hw _ (M 24))) (ty := .long) (by decide)
  have Ch10 : CHr Z consts_1 s.vm h0 T8.vm h10 := Ch8.trans (CHr.ext E10 Ch8.1)
  have Sf10_oc2 : Safe Z consts_1 T8.vm h10 oc2 := Safe.ext E10 Ch8.1 Sf8_oc2
  have Sf10_b10 : Safe Z consts_1 T8.vm h10 b10 := Safe.ext E10 Ch8.1 (Safe.new (Nat.le_of_eq g10.symm))
  have hkk10 : T8.heap.size ≤ h10.size := Nat.le_trans (Nat.le_refl _) E10.1
  obtain ⟨_, _, ⟨T11, L11, k11, n11⟩, -, X11, ⟨Lc11, hQ11, l11, y11, z11⟩, st11⟩ := X10.specialBack hx (y := (⟨"com/example/known_origins/knownorigins/store/LoadCount", "<init>", "(Lcom/example/known_origins/knownorigins/store/IfStored;JJJJ)V"⟩ : MethodName)) rfl hown8 (mvT hZ8 (hw _ (M 227))) (mvT hZ8 (hw _ (M 10))) (mvT hZ8 (hw _ (M 11))) (by decide) (backOf (W := 1) ((lcInit l Z a0 hw b10 re qg qt qk qd h10 n0 (Nat.le_trans Z0 K10.1) F_ifStored_b10 F_graphs_b10 F_triples_b10 F_skipped_b10 F_derived_b10 A10 g_b10) []) hZ8 (hw _ (M 11)) (hw _ (M 5)) (by decide) (by decide)) (g := (mkF m 162 #[.val (.int sel), .val (.long qg), .second, .val (.long qt), .second, .val (.long qk), .second, .val (.long qd), .second, .val (.int (0 : Int32)), .val (.int (0 : Int32)), .val (.ref re), .val (.ref oc2), .val (.int (1 : Int32)), .val (.ref c7), .val (.int (1 : Int32)), .unset, .unset, .unset] [(.long qd), (.long qk), (.long qt), (.long qg), (.ref re), (.ref b10), (.ref b10)])) rfl (by rw [hml]; rfl) (Steps.refl _) (a := b10) (argsL := [(.ref re), (.long qg), (.long qt), (.long qk), (.long qd)]) (rest := [(.ref b10)]) (lenOf pd_oLcom_example_known_origins_knownorigins_store_IfStored_JJJJcV rfl) rfl (by show 2 * 0 + _ ≤ _; exact Nat.le_of_eq rfl) (hb hby at_162) (fun _ _ => ⟨rfl, e10, (by decide : 17 + 0 ≤ _), (by decide : 361 + 0 ≤ _)⟩)
  dsimp only [Pt.U, Pt.locs, Pt.cells, Pt.slots] at X11 l11 y11 z11 st11 hQ11
  subst l11 y11 z11
  obtain ⟨rfl, N11q, Kq11, Bq11⟩ := hQ11
  have K11 : Keep h0 T11.heap [] := K10.trans Kq11 (allS (Or.inr sz_b10) all0)
  have Ch11 : CHr Z consts_1 s.vm h0 T8.vm T11.heap := Ch10.trans (CHr.keep Kq11 (sfS Sf10_b10 sf0) Ch10.1)
  have Sf11_oc2 : Safe Z consts_1 T8.vm T11.heap oc2 := Safe.keep Kq11 (sfS Sf10_b10 sf0) Ch10.1 Sf10_oc2
  have Sf11_b10 : Safe Z consts_1 T8.vm T11.heap b10 := Safe.keep Kq11 (sfS Sf10_b10 sf0) Ch10.1 Sf10_b10
  have hkk11 : T8.heap.size ≤ T11.heap.size := Nat.le_trans hkk10 Kq11.1
  have N11 := Fr.app N9 N11q
  obtain ⟨cq12, kq12, q12a, q12b, q12c⟩ := isOf hZ8 rfl ((((Bq2.1.ext E7).keep Kq8).ext E10).keep Kq11)
  obtain ⟨_, _, ⟨T12, L12, k12, n12⟩, -, X12, ⟨Lc12, hQ12, l12, y12, z12⟩, st12⟩ := X11.virtualBack hx (y := (⟨"com/example/known_origins/knownorigins/store/LoadCount", "plus", "(Lcom/example/known_origins/knownorigins/store/LoadCount;)Lcom/example/known_origins/knownorigins/store/LoadCount;"⟩ : MethodName)) (z := (⟨"com/example/known_origins/knownorigins/store/LoadCount", "plus", "(Lcom/example/known_origins/knownorigins/store/LoadCount;)Lcom/example/known_origins/knownorigins/store/LoadCount;"⟩ : MethodName)) hown8 (mvT hZ8 (hw _ (M 228))) (mvT hZ8 (hw _ (M 229))) (notFace_of_selects (args := #[]) (mvT hZ8 (hw _ (M 231)))) (mvT hZ8 (hw _ (M 231))) (mvT hZ8 (hw _ (M 230))) (by decide) (backOf (W := 0) ((lcPlus l Z a0 hw oc2 b10 re qg qt qk qd T11.heap n0 (Nat.le_trans Z0 K11.1) ⟨((((Bq2.1.ext E7).keep Kq8).ext E10).keep Kq11), ((((Bq2.2.1.ext E7).keep Kq8 nin0).ext E10).keep Kq11 (ninS ne_oc2_b10 nin0)), ((((Bq2.2.2.1.ext E7).keep Kq8 nin0).ext E10).keep Kq11 (ninS ne_oc2_b10 nin0)), ((((Bq2.2.2.2.1.ext E7).keep Kq8 nin0).ext E10).keep Kq11 (ninS ne_oc2_b10 nin0)), ((((Bq2.2.2.2.2.1.ext E7).keep Kq8 nin0).ext E10).keep Kq11 (ninS ne_oc2_b10 nin0)), ((((Bq2.2.2.2.2.2.ext E7).keep Kq8 nin0).ext E10).keep Kq11 (ninS ne_oc2_b10 nin0))⟩ ⟨Bq11.1, Bq11.2.1, Bq11.2.2.1, Bq11.2.2.2.1, Bq11.2.2.2.2.1, Bq11.2.2.2.2.2⟩) []) hZ8 (hw _ (M 232)) (hw _ (M 5)) (by decide) (by decide)) q12a q12c (g := (mkF m 171 #[.val (.int sel), .val (.long qg), .second, .val (.long qt), .second, .val (.long qk), .second, .val (.long qd), .second, .val (.int (0 : Int32)), .val (.int (0 : Int32)), .val (.ref re), .val (.ref oc2), .val (.int (1 : Int32)), .val (.ref c7), .val (.int (1 : Int32)), .val (.ref b10), .unset, .unset] [(.ref b10), (.ref oc2)])) rfl (by rw [hml]; rfl) (Steps.refl _) (argsL := [(.ref b10)]) (rest := []) (lenOf pd_oLcom_example_known_origins_knownorigins_store_LoadCount_cLcom_example_known_origins_knownorigins_store_LoadCount_ rfl) rfl (by show 2 * 0 + _ ≤ _; exact Nat.le_of_eq rfl) (hb hby at_171) (fun _ _ => ⟨rfl, rfl, (by decide : 17 + 1 ≤ _), (by decide : 361 + 5 ≤ _)⟩)
  dsimp only [Pt.U, Pt.locs, Pt.cells, Pt.slots] at X12 l12 y12 z12 st12 hQ12
  subst l12 y12 z12
  have f13 := (own_arr_keep ((own_arr_keep ((own_arr_keep Ad Kq2 nin0).ext E7) Kq8 nin0).ext E10) Kq11 (ninS ne_d1_b10 nin0))
  obtain ⟨oc12, rfl, N12q, Kq12, sz12q, Bq12⟩ := hQ12
  have sz_oc12 : h0.size ≤ oc12 := Nat.le_trans K11.1 sz12q
  have g_oc12 : n0 ≤ oc12 := Nat.le_trans Z0 sz_oc12
  have ne_b10_oc12 : b10 ≠ oc12 := Nat.ne_of_lt (Nat.lt_of_lt_of_le Bq11.1.lt sz12q)
  have ne_c7_oc12 : c7 ≠ oc12 := Nat.ne_of_lt (Nat.lt_of_lt_of_le (((Es7.keep Kq8).ext E10).keep Kq11).lt sz12q)
  have ne_d1_oc12 : d1 ≠ oc12 := Nat.ne_of_lt (Nat.lt_of_lt_of_le f13.lt sz12q)
  have ne_oc2_oc12 : oc2 ≠ oc12 := Nat.ne_of_lt (Nat.lt_of_lt_of_le ((((Bq2.1.ext E7).keep Kq8).ext E10).keep Kq11).lt sz12q)
  have ne_os8_oc12 : os8 ≠ oc12 := Nat.ne_of_lt (Nat.lt_of_lt_of_le ((Tq8.1.ext E10).keep Kq11).lt sz12q)
  have ne_sb7_oc12 : sb7 ≠ oc12 := Nat.ne_of_lt (Nat.lt_of_lt_of_le (((Va7.keep Kq8 nin0).ext E10).keep Kq11 (ninS ne_sb7_b10 nin0)).lt sz12q)
  have ne_sr8_oc12 : sr8 ≠ oc12 := Nat.ne_of_lt (Nat.lt_of_lt_of_le ((Tq8.2.2.2.ext E10).keep Kq11 (ninS ne_sr8_b10 nin0)).lt sz12q)
  have K12 : Keep h0 T12.heap [] := K11.trans Kq12 all0
  have Ch12 : CHr Z consts_1 s.vm h0 T8.vm T12.heap := Ch11.trans (CHr.keep Kq12 sf0 Ch11.1)
  have Sf12_oc2 : Safe Z consts_1 T8.vm T12.heap oc2 := Safe.keep Kq12 sf0 Ch11.1 Sf11_oc2
  have Sf12_b10 : Safe Z consts_1 T8.vm T12.heap b10 := Safe.keep Kq12 sf0 Ch11.1 Sf11_b10
  have Sf12_oc12 : Safe Z consts_1 T8.vm T12.heap oc12 := Safe.keep Kq12 sf0 Ch11.1 (Safe.new sz12q)
  have hkk12 : T8.heap.size ≤ T12.heap.size := Nat.le_trans hkk11 Kq12.1
  have N12 := Fr.app N11 N12q
  obtain ⟨cq14, kq14, q14a, q14b, q14c⟩ := isOf hZ8 rfl Bq12.1
  obtain ⟨_, _, ⟨T14, L14, k14, n14⟩, -, X14, ⟨Lc14, hQ14, l14, y14, z14⟩, st14⟩ := X12.virtualBack hx (y := (⟨"com/example/known_origins/knownorigins/store/LoadCount", "graphs", "()J"⟩ : MethodName)) (z := (⟨"com/example/known_origins/knownorigins/store/LoadCount", "graphs", "()J"⟩ : MethodName)) hown8 (mvT hZ8 (hw _ (M 25))) (mvT hZ8 (hw _ (M 26))) (notFace_of_selects (args := #[]) (mvT hZ8 (hw _ (M 28)))) (mvT hZ8 (hw _ (M 28))) (mvT hZ8 (hw _ (M 27))) (by decide) (backOf (W := 0) ((lc_graphs l Z a0 hw oc12 re qg qt qk qd T12.heap n0 (Nat.le_trans Z0 K12.1) ⟨Bq12.1, Bq12.2.1, Bq12.2.2.1, Bq12.2.2.2.1, Bq12.2.2.2.2.1, Bq12.2.2.2.2.2⟩) []) hZ8 (hw _ (M 29)) (hw _ (M 5)) (by decide) (by decide)) q14a q14c (g := (mkF m 178 #[.val (.int sel), .val (.long qg), .second, .val (.long qt), .second, .val (.long qk), .second, .val (.long qd), .second, .val (.int (0 : Int32)), .val (.int (0 : Int32)), .val (.ref re), .val (.ref oc2), .val (.int (1 : Int32)), .val (.ref c7), .val (.int (1 : Int32)), .val (.ref b10), .val (.ref oc12), .unset] [(.ref oc12)])) rfl (by rw [hml]; rfl) (Steps.refl _) (argsL := []) (rest := []) (lenOf pd_ocJ rfl) rfl (by show 2 * 0 + _ ≤ _; exact Nat.le_of_eq rfl) (hb hby at_178) (fun _ _ => ⟨rfl, rfl, (by decide : 18 + 0 ≤ _), (by decide : 366 + 0 ≤ _)⟩)
  dsimp only [Pt.U, Pt.locs, Pt.cells, Pt.slots] at X14 l14 y14 z14 st14 hQ14
  subst l14 y14 z14
  obtain ⟨rfl, N14q, e14⟩ := hQ14
  have N14 := Fr.app N12 N14q
  obtain ⟨cq15, kq15, q15a, q15b, q15c⟩ := isOf hZ8 e14 Bq12.1
  obtain ⟨_, _, ⟨T15, L15, k15, n15⟩, -, X15, ⟨Lc15, hQ15, l15, y15, z15⟩, st15⟩ := X14.virtualBack hx (y := (⟨"com/example/known_origins/knownorigins/store/LoadCount", "triples", "()J"⟩ : MethodName)) (z := (⟨"com/example/known_origins/knownorigins/store/LoadCount", "triples", "()J"⟩ : MethodName)) hown8 (mvT hZ8 (hw _ (M 30))) (mvT hZ8 (hw _ (M 31))) (notFace_of_selects (args := #[]) (mvT hZ8 (hw _ (M 33)))) (mvT hZ8 (hw _ (M 33))) (mvT hZ8 (hw _ (M 32))) (by decide) (backOf (W := 0) ((lc_triples l Z a0 hw oc12 re qg qt qk qd T12.heap n0 (Nat.le_trans Z0 K12.1) ⟨Bq12.1, Bq12.2.1, Bq12.2.2.1, Bq12.2.2.2.1, Bq12.2.2.2.2.1, Bq12.2.2.2.2.2⟩) []) hZ8 (hw _ (M 34)) (hw _ (M 5)) (by decide) (by decide)) q15a q15c (g := (mkF m 188 #[.val (.int sel), .val (.long qg), .second, .val (.long qt), .second, .val (.long qk), .second, .val (.long qd), .second, .val (.int (0 : Int32)), .val (.int (0 : Int32)), .val (.ref re), .val (.ref oc2), .val (.int (1 : Int32)), .val (.ref c7), .val (.int (1 : Int32)), .val (.ref b10), .val (.ref oc12), .unset] [(.ref oc12)])) rfl (by rw [hml]; rfl) (Steps.refl _) (argsL := []) (rest := []) (lenOf pd_ocJ rfl) rfl (by show 2 * 0 + _ ≤ _; exact Nat.le_of_eq rfl) (hb hby at_188) (fun _ _ => ⟨rfl, e14, (by decide : 18 + 0 ≤ _), (by decide : 366 + 0 ≤ _)⟩)
  dsimp only [Pt.U, Pt.locs, Pt.cells, Pt.slots] at X15 l15 y15 z15 st15 hQ15
  subst l15 y15 z15
  obtain ⟨rfl, N15q, e15⟩ := hQ15
  have N15 := Fr.app N14 N15q
  obtain ⟨cq16, kq16, q16a, q16b, q16c⟩ := isOf hZ8 e15 Bq12.1
  obtain ⟨_, _, ⟨T16, L16, k16, n16⟩, -, X16, ⟨Lc16, hQ16, l16, y16, z16⟩, st16⟩ := X15.virtualBack hx (y := (⟨"com/example/known_origins/knownorigins/store/LoadCount", "skipped", "()J"⟩ : MethodName)) (z := (⟨"com/example/known_origins/knownorigins/store/LoadCount", "skipped", "()J"⟩ : MethodName)) hown8 (mvT hZ8 (hw _ (M 35))) (mvT hZ8 (hw _ (M 36))) (notFace_of_selects (args := #[]) (mvT hZ8 (hw _ (M 38)))) (mvT hZ8 (hw _ (M 38))) (mvT hZ8 (hw _ (M 37))) (by decide) (backOf (W := 0) ((lc_skipped l Z a0 hw oc12 re qg qt qk qd T12.heap n0 (Nat.le_trans Z0 K12.1) ⟨Bq12.1, Bq12.2.1, Bq12.2.2.1, Bq12.2.2.2.1, Bq12.2.2.2.2.1, Bq12.2.2.2.2.2⟩) []) hZ8 (hw _ (M 39)) (hw _ (M 5)) (by decide) (by decide)) q16a q16c (g := (mkF m 198 #[.val (.int sel), .val (.long qg), .second, .val (.long qt), .second, .val (.long qk), .second, .val (.long qd), .second, .val (.int (0 : Int32)), .val (.int (0 : Int32)), .val (.ref re), .val (.ref oc2), .val (.int (1 : Int32)), .val (.ref c7), .val (.int (1 : Int32)), .val (.ref b10), .val (.ref oc12), .unset] [(.ref oc12)])) rfl (by rw [hml]; rfl) (Steps.refl _) (argsL := []) (rest := []) (lenOf pd_ocJ rfl) rfl (by show 2 * 0 + _ ≤ _; exact Nat.le_of_eq rfl) (hb hby at_198) (fun _ _ => ⟨rfl, e15, (by decide : 18 + 0 ≤ _), (by decide : 366 + 0 ≤ _)⟩)
  dsimp only [Pt.U, Pt.locs, Pt.cells, Pt.slots] at X16 l16 y16 z16 st16 hQ16
  subst l16 y16 z16
  obtain ⟨rfl, N16q, e16⟩ := hQ16
  have N16 := Fr.app N15 N16q
  obtain ⟨cq17, kq17, q17a, q17b, q17c⟩ := isOf hZ8 e16 Bq12.1
  obtain ⟨_, _, ⟨T17, L17, k17, n17⟩, -, X17, ⟨Lc17, hQ17, l17, y17, z17⟩, st17⟩ := X16.virtualBack hx (y := (⟨"com/example/known_origins/knownorigins/store/LoadCount", "derived", "()J"⟩ : MethodName)) (z := (⟨"com/example/known_origins/knownorigins/store/LoadCount", "derived", "()J"⟩ : MethodName)) hown8 (mvT hZ8 (hw _ (M 40))) (mvT hZ8 (hw _ (M 41))) (notFace_of_selects (args := #[]) (mvT hZ8 (hw _ (M 43)))) (mvT hZ8 (hw _ (M 43))) (mvT hZ8 (hw _ (M 42))) (by decide) (backOf (W := 0) ((lc_derived l Z a0 hw oc12 re qg qt qk qd T12.heap n0 (Nat.le_trans Z0 K12.1) ⟨Bq12.1, Bq12.2.1, Bq12.2.2.1, Bq12.2.2.2.1, Bq12.2.2.2.2.1, Bq12.2.2.2.2.2⟩) []) hZ8 (hw _ (M 44)) (hw _ (M 5)) (by decide) (by decide)) q17a q17c (g := (mkF m 209 #[.val (.int sel), .val (.long qg), .second, .val (.long qt), .second, .val (.long qk), .second, .val (.long qd), .second, .val (.int (0 : Int32)), .val (.int (0 : Int32)), .val (.ref re), .val (.ref oc2), .val (.int (1 : Int32)), .val (.ref c7), .val (.int (1 : Int32)), .val (.ref b10), .val (.ref oc12), .unset] [(.ref oc12)])) rfl (by rw [hml]; rfl) (Steps.refl _) (argsL := []) (rest := []) (lenOf pd_ocJ rfl) rfl (by show 2 * 0 + _ ≤ _; exact Nat.le_of_eq rfl) (hb hby at_209) (fun _ _ => ⟨rfl, e16, (by decide : 18 + 0 ≤ _), (by decide : 366 + 0 ≤ _)⟩)
  dsimp only [Pt.U, Pt.locs, Pt.cells, Pt.slots] at X17 l17 y17 z17 st17 hQ17
  subst l17 y17 z17
  obtain ⟨rfl, N17q, e17⟩ := hQ17
  have N17 := Fr.app N16 N17q
  obtain ⟨fs, hr, hrun, hended, hret, hW, hnew, hsame⟩ := X17.leaveW hS8 (by rw [e17]; exact hkk12) (v := some (.int (1 : Int32))) (fun h => by rw [Bd.returns] at h; cases h)
  refine ⟨_, _, pre0 _ ?_, hrun, hended, _, _, rfl, ?_, ?_, hret, hW, hnew, hsame.mono (by decide) (by decide)⟩
  · show Steps p.tables e below (s₁.setTop (mkF m 0 #[.val (.int sel), .val (.long qg), .second, .val (.long qt), .second, .val (.long qk), .second, .val (.long qd), .second, .unset, .unset, .unset, .unset, .unset, .unset, .unset, .unset, .unset, .unset] [])) _
    refine XS.iloadN X0.here hx rfl (hb hby at_0) rfl ?_
    refine XS.iconst X0.here hx rfl (hb hby at_1) ?_
    refine XS.iand X0.here hx rfl (hb hby at_2) rfl ?_
    show Steps p.tables e below (s₁.setTop (mkF m 3 #[.val (.int sel), .val (.long qg), .second, .val (.long qt), .second, .val (.long qk), .second, .val (.long qd), .second, .unset, .unset, .unset, .unset, .unset, .unset, .unset, .unset, .unset, .unset] [(.int (sel &&& (1 : Int32)))])) _
    refine XS.ifYes X0.here hx rfl (pc0 := 3) (pc' := 10) rfl (hb hby at_3) rfl ((if0 _ _).trans (teq hc3).1) (by decide) (by decide) ?_
    show Steps p.tables e below (s₁.setTop (mkF m 10 #[.val (.int sel), .val (.long qg), .second, .val (.long qt), .second, .val (.long qk), .second, .val (.long qd), .second, .unset, .unset, .unset, .unset, .unset, .unset, .unset, .unset, .unset, .unset] [])) _
    refine XS.iconst X0.here hx rfl (hb hby at_10) ?_
    refine XS.istore X0.here hx rfl (hb hby at_11) rfl (l' := #[.val (.int sel), .val (.long qg), .second, .val (.long qt), .second, .val (.long qk), .second, .val (.long qd), .second, .val (.int (0 : Int32)), .unset, .unset, .unset, .unset, .unset, .unset, .unset, .unset, .unset]) rfl ?_
    show Steps p.tables e below (s₁.setTop (mkF m 13 #[.val (.int sel), .val (.long qg), .second, .val (.long qt), .second, .val (.long qk), .second, .val (.long qd), .second, .val (.int (0 : Int32)), .unset, .unset, .unset, .unset, .unset, .unset, .unset, .unset, .unset] [])) _
    refine XS.iloadN X0.here hx rfl (hb hby at_13) rfl ?_
    refine XS.iconst X0.here hx rfl (hb hby at_14) ?_
    refine XS.iand X0.here hx rfl (hb hby at_15) rfl ?_
    show Steps p.tables e below (s₁.setTop (mkF m 16 #[.val (.int sel), .val (.long qg), .second, .val (.long qt), .second, .val (.long qk), .second, .val (.long qd), .second, .val (.int (0 : Int32)), .unset, .unset, .unset, .unset, .unset, .unset, .unset, .unset, .unset] [(.int (sel &&& (2 : Int32)))])) _
    refine XS.ifYes X0.here hx rfl (pc0 := 16) (pc' := 23) rfl (hb hby at_16) rfl ((if0 _ _).trans (teq hc16).1) (by decide) (by decide) ?_
    show Steps p.tables e below (s₁.setTop (mkF m 23 #[.val (.int sel), .val (.long qg), .second, .val (.long qt), .second, .val (.long qk), .second, .val (.long qd), .second, .val (.int (0 : Int32)), .unset, .unset, .unset, .unset, .unset, .unset, .unset, .unset, .unset] [])) _
    refine XS.iconst X0.here hx rfl (hb hby at_23) ?_
    refine XS.istore X0.here hx rfl (hb hby at_24) rfl (l' := #[.val (.int sel), .val (.long qg), .second, .val (.long qt), .second, .val (.long qk), .second, .val (.long qd), .second, .val (.int (0 : Int32)), .val (.int (0 : Int32)), .unset, .unset, .unset, .unset, .unset, .unset, .unset, .unset]) rfl ?_
    show Steps p.tables e below (s₁.setTop (mkF m 26 #[.val (.int sel), .val (.long qg), .second, .val (.long qt), .second, .val (.long qk), .second, .val (.long qd), .second, .val (.int (0 : Int32)), .val (.int (0 : Int32)), .unset, .unset, .unset, .unset, .unset, .unset, .unset, .unset] [])) _
    refine XS.iload X0.here hx rfl (hb hby at_26) rfl ?_
    refine XS.ifYes X0.here hx rfl (pc0 := 28) (pc' := 37) rfl (hb hby at_28) rfl ((if0 _ _).trans (teq (by decide : (0 : Int32) = (0 : Int32))).1) (by decide) (by decide) ?_
    show Steps p.tables e below (s₁.setTop (mkF m 37 #[.val (.int sel), .val (.long qg), .second, .val (.long qt), .second, .val (.long qk), .second, .val (.long qd), .second, .val (.int (0 : Int32)), .val (.int (0 : Int32)), .unset, .unset, .unset, .unset, .unset, .unset, .unset, .unset] [])) _
    refine st1 _ ?_
    show Steps p.tables e below (T1.setTop (mkF m 40 #[.val (.int sel), .val (.long qg), .second, .val (.long qt), .second, .val (.long qk), .second, .val (.long qd), .second, .val (.int (0 : Int32)), .val (.int (0 : Int32)), .unset, .unset, .unset, .unset, .unset, .unset, .unset, .unset] [(.ref re)])) _
    refine XS.astore X1.here hx rfl (hb hby at_40) rfl rfl (l' := #[.val (.int sel), .val (.long qg), .second, .val (.long qt), .second, .val (.long qk), .second, .val (.long qd), .second, .val (.int (0 : Int32)), .val (.int (0 : Int32)), .val (.ref re), .unset, .unset, .unset, .unset, .unset, .unset, .unset]) rfl ?_
    show Steps p.tables e below (T1.setTop (mkF m 42 #[.val (.int sel), .val (.long qg), .second, .val (.long qt), .second, .val (.long qk), .second, .val (.long qd), .second, .val (.int (0 : Int32)), .val (.int (0 : Int32)), .val (.ref re), .unset, .unset, .unset, .unset, .unset, .unset, .unset] [])) _
    refine XS.aload X1.here hx rfl (hb hby at_42) rfl rfl ?_
    refine st2 _ ?_
    show Steps p.tables e below (T2.setTop (mkF m 47 #[.val (.int sel), .val (.long qg), .second, .val (.long qt), .second, .val (.long qk), .second, .val (.long qd), .second, .val (.int (0 : Int32)), .val (.int (0 : Int32)), .val (.ref re), .unset, .unset, .unset, .unset, .unset, .unset, .unset] [(.ref oc2)])) _
    refine XS.astore X2.here hx rfl (hb hby at_47) rfl rfl (l' := #[.val (.int sel), .val (.long qg), .second, .val (.long qt), .second, .val (.long qk), .second, .val (.long qd), .second, .val (.int (0 : Int32)), .val (.int (0 : Int32)), .val (.ref re), .val (.ref oc2), .unset, .unset, .unset, .unset, .unset, .unset]) rfl ?_
    show Steps p.tables e below (T2.setTop (mkF m 49 #[.val (.int sel), .val (.long qg), .second, .val (.long qt), .second, .val (.long qk), .second, .val (.long qd), .second, .val (.int (0 : Int32)), .val (.int (0 : Int32)), .val (.ref re), .val (.ref oc2), .unset, .unset, .unset, .unset, .unset, .unset] [])) _
    refine XS.aload X2.here hx rfl (hb hby at_49) rfl rfl ?_
    refine st3.trans ?_
    show Steps p.tables e below (T3.setTop (mkF m 54 #[.val (.int sel), .val (.long qg), .second, .val (.long qt), .second, .val (.long qk), .second, .val (.long qd), .second, .val (.int (0 : Int32)), .val (.int (0 : Int32)), .val (.ref re), .val (.ref oc2), .unset, .unset, .unset, .unset, .unset, .unset] [(.long (0 : Int64))])) _
    refine XS.lconst X3.here hx rfl (hb hby at_54) ?_
    refine XS.lcmp X3.here hx rfl (hb hby at_55) rfl ?_
    show Steps p.tables e below (T3.setTop (mkF m 56 #[.val (.int sel), .val (.long qg), .second, .val (.long qt), .second, .val (.long qk), .second, .val (.long qd), .second, .val (.int (0 : Int32)), .val (.int (0 : Int32)), .val (.ref re), .val (.ref oc2), .unset, .unset, .unset, .unset, .unset, .unset] [(.int (lcmpW (0 : Int64) (0 : Int64)))])) _
    rw [(by decide : (lcmpW (0 : Int64) (0 : Int64)) = (0 : Int32))]
    show Steps p.tables e below (T3.setTop (mkF m 56 #[.val (.int sel), .val (.long qg), .second, .val (.long qt), .second, .val (.long qk), .second, .val (.long qd), .second, .val (.int (0 : Int32)), .val (.int (0 : Int32)), .val (.ref re), .val (.ref oc2), .unset, .unset, .unset, .unset, .unset, .unset] [(.int (0 : Int32))])) _
    refine XS.ifNo X3.here hx rfl (hb hby at_56) rfl ((if0 _ _).trans (teq (by decide : (0 : Int32) = (0 : Int32))).2) ?_
    show Steps p.tables e below (T3.setTop (mkF m 59 #[.val (.int sel), .val (.long qg), .second, .val (.long qt), .second, .val (.long qk), .second, .val (.long qd), .second, .val (.int (0 : Int32)), .val (.int (0 : Int32)), .val (.ref re), .val (.ref oc2), .unset, .unset, .unset, .unset, .unset, .unset] [])) _
    refine XS.aload X3.here hx rfl (hb hby at_59) rfl rfl ?_
    refine st4.trans ?_
    show Steps p.tables e below (T4.setTop (mkF m 64 #[.val (.int sel), .val (.long qg), .second, .val (.long qt), .second, .val (.long qk), .second, .val (.long qd), .second, .val (.int (0 : Int32)), .val (.int (0 : Int32)), .val (.ref re), .val (.ref oc2), .unset, .unset, .unset, .unset, .unset, .unset] [(.long (0 : Int64))])) _
    refine XS.lconst X4.here hx rfl (hb hby at_64) ?_
    refine XS.lcmp X4.here hx rfl (hb hby at_65) rfl ?_
    show Steps p.tables e below (T4.setTop (mkF m 66 #[.val (.int sel), .val (.long qg), .second, .val (.long qt), .second, .val (.long qk), .second, .val (.long qd), .second, .val (.int (0 : Int32)), .val (.int (0 : Int32)), .val (.ref re), .val (.ref oc2), .unset, .unset, .unset, .unset, .unset, .unset] [(.int (lcmpW (0 : Int64) (0 : Int64)))])) _
    rw [(by decide : (lcmpW (0 : Int64) (0 : Int64)) = (0 : Int32))]
    show Steps p.tables e below (T4.setTop (mkF m 66 #[.val (.int sel), .val (.long qg), .second, .val (.long qt), .second, .val (.long qk), .second, .val (.long qd), .second, .val (.int (0 : Int32)), .val (.int (0 : Int32)), .val (.ref re), .val (.ref oc2), .unset, .unset, .unset, .unset, .unset, .unset] [(.int (0 : Int32))])) _
    refine XS.ifNo X4.here hx rfl (hb hby at_66) rfl ((if0 _ _).trans (teq (by decide : (0 : Int32) = (0 : Int32))).2) ?_
    show Steps p.tables e below (T4.setTop (mkF m 69 #[.val (.int sel), .val (.long qg), .second, .val (.long qt), .second, .val (.long qk), .second, .val (.long qd), .second, .val (.int (0 : Int32)), .val (.int (0 : Int32)), .val (.ref re), .val (.ref oc2), .unset, .unset, .unset, .unset, .unset, .unset] [])) _
    refine XS.aload X4.here hx rfl (hb hby at_69) rfl rfl ?_
    refine st5.trans ?_
    show Steps p.tables e below (T5.setTop (mkF m 74 #[.val (.int sel), .val (.long qg), .second, .val (.long qt), .second, .val (.long qk), .second, .val (.long qd), .second, .val (.int (0 : Int32)), .val (.int (0 : Int32)), .val (.ref re), .val (.ref oc2), .unset, .unset, .unset, .unset, .unset, .unset] [(.long (0 : Int64))])) _
    refine XS.lconst X5.here hx rfl (hb hby at_74) ?_
    refine XS.lcmp X5.here hx rfl (hb hby at_75) rfl ?_
    show Steps p.tables e below (T5.setTop (mkF m 76 #[.val (.int sel), .val (.long qg), .second, .val (.long qt), .second, .val (.long qk), .second, .val (.long qd), .second, .val (.int (0 : Int32)), .val (.int (0 : Int32)), .val (.ref re), .val (.ref oc2), .unset, .unset, .unset, .unset, .unset, .unset] [(.int (lcmpW (0 : Int64) (0 : Int64)))])) _
    rw [(by decide : (lcmpW (0 : Int64) (0 : Int64)) = (0 : Int32))]
    show Steps p.tables e below (T5.setTop (mkF m 76 #[.val (.int sel), .val (.long qg), .second, .val (.long qt), .second, .val (.long qk), .second, .val (.long qd), .second, .val (.int (0 : Int32)), .val (.int (0 : Int32)), .val (.ref re), .val (.ref oc2), .unset, .unset, .unset, .unset, .unset, .unset] [(.int (0 : Int32))])) _
    refine XS.ifNo X5.here hx rfl (hb hby at_76) rfl ((if0 _ _).trans (teq (by decide : (0 : Int32) = (0 : Int32))).2) ?_
    show Steps p.tables e below (T5.setTop (mkF m 79 #[.val (.int sel), .val (.long qg), .second, .val (.long qt), .second, .val (.long qk), .second, .val (.long qd), .second, .val (.int (0 : Int32)), .val (.int (0 : Int32)), .val (.ref re), .val (.ref oc2), .unset, .unset, .unset, .unset, .unset, .unset] [])) _
    refine XS.aload X5.here hx rfl (hb hby at_79) rfl rfl ?_
    refine st6.trans ?_
    show Steps p.tables e below (T6.setTop (mkF m 84 #[.val (.int sel), .val (.long qg), .second, .val (.long qt), .second, .val (.long qk), .second, .val (.long qd), .second, .val (.int (0 : Int32)), .val (.int (0 : Int32)), .val (.ref re), .val (.ref oc2), .unset, .unset, .unset, .unset, .unset, .unset] [(.long (0 : Int64))])) _
    refine XS.lconst X6.here hx rfl (hb hby at_84) ?_
    refine XS.lcmp X6.here hx rfl (hb hby at_85) rfl ?_
    show Steps p.tables e below (T6.setTop (mkF m 86 #[.val (.int sel), .val (.long qg), .second, .val (.long qt), .second, .val (.long qk), .second, .val (.long qd), .second, .val (.int (0 : Int32)), .val (.int (0 : Int32)), .val (.ref re), .val (.ref oc2), .unset, .unset, .unset, .unset, .unset, .unset] [(.int (lcmpW (0 : Int64) (0 : Int64)))])) _
    rw [(by decide : (lcmpW (0 : Int64) (0 : Int64)) = (0 : Int32))]
    show Steps p.tables e below (T6.setTop (mkF m 86 #[.val (.int sel), .val (.long qg), .second, .val (.long qt), .second, .val (.long qk), .second, .val (.long qd), .second, .val (.int (0 : Int32)), .val (.int (0 : Int32)), .val (.ref re), .val (.ref oc2), .unset, .unset, .unset, .unset, .unset, .unset] [(.int (0 : Int32))])) _
    refine XS.ifNo X6.here hx rfl (hb hby at_86) rfl ((if0 _ _).trans (teq (by decide : (0 : Int32) = (0 : Int32))).2) ?_
    show Steps p.tables e below (T6.setTop (mkF m 89 #[.val (.int sel), .val (.long qg), .second, .val (.long qt), .second, .val (.long qk), .second, .val (.long qd), .second, .val (.int (0 : Int32)), .val (.int (0 : Int32)), .val (.ref re), .val (.ref oc2), .unset, .unset, .unset, .unset, .unset, .unset] [])) _
    refine XS.iconst X6.here hx rfl (hb hby at_89) ?_
    refine XS.goto X6.here hx rfl (pc0 := 90) (pc' := 94) rfl (hb hby at_90) (by decide) (by decide) ?_
    show Steps p.tables e below (T6.setTop (mkF m 94 #[.val (.int sel), .val (.long qg), .second, .val (.long qt), .second, .val (.long qk), .second, .val (.long qd), .second, .val (.int (0 : Int32)), .val (.int (0 : Int32)), .val (.ref re), .val (.ref oc2), .unset, .unset, .unset, .unset, .unset, .unset] [(.int (1 : Int32))])) _
    refine XS.istore X6.here hx rfl (hb hby at_94) rfl (l' := #[.val (.int sel), .val (.long qg), .second, .val (.long qt), .second, .val (.long qk), .second, .val (.long qd), .second, .val (.int (0 : Int32)), .val (.int (0 : Int32)), .val (.ref re), .val (.ref oc2), .val (.int (1 : Int32)), .unset, .unset, .unset, .unset, .unset]) rfl ?_
    show Steps p.tables e below (T6.setTop (mkF m 96 #[.val (.int sel), .val (.long qg), .second, .val (.long qt), .second, .val (.long qk), .second, .val (.long qd), .second, .val (.int (0 : Int32)), .val (.int (0 : Int32)), .val (.ref re), .val (.ref oc2), .val (.int (1 : Int32)), .unset, .unset, .unset, .unset, .unset] [])) _
    refine XS.iload X6.here hx rfl (hb hby at_96) rfl ?_
    refine XS.ifYes X6.here hx rfl (pc0 := 98) (pc' := 120) rfl (hb hby at_98) rfl ((if0 _ _).trans (teq (by decide : (0 : Int32) = (0 : Int32))).1) (by decide) (by decide) ?_
    show Steps p.tables e below (T6.setTop (mkF m 120 #[.val (.int sel), .val (.long qg), .second, .val (.long qt), .second, .val (.long qk), .second, .val (.long qd), .second, .val (.int (0 : Int32)), .val (.int (0 : Int32)), .val (.ref re), .val (.ref oc2), .val (.int (1 : Int32)), .unset, .unset, .unset, .unset, .unset] [])) _
    refine XS.iload X6.here hx rfl (hb hby at_120) rfl ?_
    refine XS.ifYes X6.here hx rfl (pc0 := 122) (pc' := 132) rfl (hb hby at_122) rfl ((if0 _ _).trans (teq (by decide : (0 : Int32) = (0 : Int32))).1) (by decide) (by decide) ?_
    show Steps p.tables e below (T6.setTop (mkF m 132 #[.val (.int sel), .val (.long qg), .second, .val (.long qt), .second, .val (.long qk), .second, .val (.long qd), .second, .val (.int (0 : Int32)), .val (.int (0 : Int32)), .val (.ref re), .val (.ref oc2), .val (.int (1 : Int32)), .unset, .unset, .unset, .unset, .unset] [])) _
    refine st7 _ ?_
    show Steps p.tables e below (T7.setTop (mkF m 134 #[.val (.int sel), .val (.long qg), .second, .val (.long qt), .second, .val (.long qk), .second, .val (.long qd), .second, .val (.int (0 : Int32)), .val (.int (0 : Int32)), .val (.ref re), .val (.ref oc2), .val (.int (1 : Int32)), .unset, .unset, .unset, .unset, .unset] [(.ref c7)])) _
    refine XS.astore X7.here hx rfl (hb hby at_134) rfl rfl (l' := #[.val (.int sel), .val (.long qg), .second, .val (.long qt), .second, .val (.long qk), .second, .val (.long qd), .second, .val (.int (0 : Int32)), .val (.int (0 : Int32)), .val (.ref re), .val (.ref oc2), .val (.int (1 : Int32)), .val (.ref c7), .unset, .unset, .unset, .unset]) rfl ?_
    show Steps p.tables e below (T7.setTop (mkF m 136 #[.val (.int sel), .val (.long qg), .second, .val (.long qt), .second, .val (.long qk), .second, .val (.long qd), .second, .val (.int (0 : Int32)), .val (.int (0 : Int32)), .val (.ref re), .val (.ref oc2), .val (.int (1 : Int32)), .val (.ref c7), .unset, .unset, .unset, .unset] [])) _
    refine XS.aload X7.here hx rfl (hb hby at_136) rfl rfl ?_
    refine XS.aload X7.here hx rfl (hb hby at_138) rfl rfl ?_
    refine XS.iload X7.here hx rfl (hb hby at_140) rfl ?_
    refine st8.trans ?_
    show Steps p.tables e below (T8.setTop (mkF m 145 #[.val (.int sel), .val (.long qg), .second, .val (.long qt), .second, .val (.long qk), .second, .val (.long qd), .second, .val (.int (0 : Int32)), .val (.int (0 : Int32)), .val (.ref re), .val (.ref oc2), .val (.int (1 : Int32)), .val (.ref c7), .unset, .unset, .unset, .unset] [(.ref os8), (.ref c7)])) _
    refine st9.trans ?_
    show Steps p.tables e below (T9.setTop (mkF m 148 #[.val (.int sel), .val (.long qg), .second, .val (.long qt), .second, .val (.long qk), .second, .val (.long qd), .second, .val (.int (0 : Int32)), .val (.int (0 : Int32)), .val (.ref re), .val (.ref oc2), .val (.int (1 : Int32)), .val (.ref c7), .unset, .unset, .unset, .unset] [(.int (1 : Int32))])) _
    refine XS.istore X9.here hx rfl (hb hby at_148) rfl (l' := #[.val (.int sel), .val (.long qg), .second, .val (.long qt), .second, .val (.long qk), .second, .val (.long qd), .second, .val (.int (0 : Int32)), .val (.int (0 : Int32)), .val (.ref re), .val (.ref oc2), .val (.int (1 : Int32)), .val (.ref c7), .val (.int (1 : Int32)), .unset, .unset, .unset]) rfl ?_
    show Steps p.tables e below (T9.setTop (mkF m 150 #[.val (.int sel), .val (.long qg), .second, .val (.long qt), .second, .val (.long qk), .second, .val (.long qd), .second, .val (.int (0 : Int32)), .val (.int (0 : Int32)), .val (.ref re), .val (.ref oc2), .val (.int (1 : Int32)), .val (.ref c7), .val (.int (1 : Int32)), .unset, .unset, .unset] [])) _
    refine st10 _ ?_
    show Steps p.tables e below (T10.setTop (mkF m 153 #[.val (.int sel), .val (.long qg), .second, .val (.long qt), .second, .val (.long qk), .second, .val (.long qd), .second, .val (.int (0 : Int32)), .val (.int (0 : Int32)), .val (.ref re), .val (.ref oc2), .val (.int (1 : Int32)), .val (.ref c7), .val (.int (1 : Int32)), .unset, .unset, .unset] [(.ref b10)])) _
    refine XS.dup X10.here hx rfl (hb hby at_153) rfl rfl ?_
    refine XS.aload X10.here hx rfl (hb hby at_154) rfl rfl ?_
    refine XS.lloadN X10.here hx rfl (hb hby at_156) rfl ?_
    refine XS.lloadN X10.here hx rfl (hb hby at_157) rfl ?_
    show Steps p.tables e below (T10.setTop (mkF m 158 #[.val (.int sel), .val (.long qg), .second, .val (.long qt), .second, .val (.long qk), .second, .val (.long qd), .second, .val (.int (0 : Int32)), .val (.int (0 : Int32)), .val (.ref re), .val (.ref oc2), .val (.int (1 : Int32)), .val (.ref c7), .val (.int (1 : Int32)), .unset, .unset, .unset] [(.long qt), (.long qg), (.ref re), (.ref b10), (.ref b10)])) _
    refine XS.lload X10.here hx rfl (hb hby at_158) rfl ?_
    refine XS.lload X10.here hx rfl (hb hby at_160) rfl ?_
    refine st11.trans ?_
    show Steps p.tables e below (T11.setTop (mkF m 165 #[.val (.int sel), .val (.long qg), .second, .val (.long qt), .second, .val (.long qk), .second, .val (.long qd), .second, .val (.int (0 : Int32)), .val (.int (0 : Int32)), .val (.ref re), .val (.ref oc2), .val (.int (1 : Int32)), .val (.ref c7), .val (.int (1 : Int32)), .unset, .unset, .unset] [(.ref b10)])) _
    refine XS.astore X11.here hx rfl (hb hby at_165) rfl rfl (l' := #[.val (.int sel), .val (.long qg), .second, .val (.long qt), .second, .val (.long qk), .second, .val (.long qd), .second, .val (.int (0 : Int32)), .val (.int (0 : Int32)), .val (.ref re), .val (.ref oc2), .val (.int (1 : Int32)), .val (.ref c7), .val (.int (1 : Int32)), .val (.ref b10), .unset, .unset]) rfl ?_
    show Steps p.tables e below (T11.setTop (mkF m 167 #[.val (.int sel), .val (.long qg), .second, .val (.long qt), .second, .val (.long qk), .second, .val (.long qd), .second, .val (.int (0 : Int32)), .val (.int (0 : Int32)), .val (.ref re), .val (.ref oc2), .val (.int (1 : Int32)), .val (.ref c7), .val (.int (1 : Int32)), .val (.ref b10), .unset, .unset] [])) _
    refine XS.aload X11.here hx rfl (hb hby at_167) rfl rfl ?_
    refine XS.aload X11.here hx rfl (hb hby at_169) rfl rfl ?_
    refine st12.trans ?_
    show Steps p.tables e below (T12.setTop (mkF m 174 #[.val (.int sel), .val (.long qg), .second, .val (.long qt), .second, .val (.long qk), .second, .val (.long qd), .second, .val (.int (0 : Int32)), .val (.int (0 : Int32)), .val (.ref re), .val (.ref oc2), .val (.int (1 : Int32)), .val (.ref c7), .val (.int (1 : Int32)), .val (.ref b10), .unset, .unset] [(.ref oc12)])) _
    refine XS.astore X12.here hx rfl (hb hby at_174) rfl rfl (l' := #[.val (.int sel), .val (.long qg), .second, .val (.long qt), .second, .val (.long qk), .second, .val (.long qd), .second, .val (.int (0 : Int32)), .val (.int (0 : Int32)), .val (.ref re), .val (.ref oc2), .val (.int (1 : Int32)), .val (.ref c7), .val (.int (1 : Int32)), .val (.ref b10), .val (.ref oc12), .unset]) rfl ?_
    show Steps p.tables e below (T12.setTop (mkF m 176 #[.val (.int sel), .val (.long qg), .second, .val (.long qt), .second, .val (.long qk), .second, .val (.long qd), .second, .val (.int (0 : Int32)), .val (.int (0 : Int32)), .val (.ref re), .val (.ref oc2), .val (.int (1 : Int32)), .val (.ref c7), .val (.int (1 : Int32)), .val (.ref b10), .val (.ref oc12), .unset] [])) _
    refine XS.aload X12.here hx rfl (hb hby at_176) rfl rfl ?_
    refine st14.trans ?_
    show Steps p.tables e below (T14.setTop (mkF m 181 #[.val (.int sel), .val (.long qg), .second, .val (.long qt), .second, .val (.long qk), .second, .val (.long qd), .second, .val (.int (0 : Int32)), .val (.int (0 : Int32)), .val (.ref re), .val (.ref oc2), .val (.int (1 : Int32)), .val (.ref c7), .val (.int (1 : Int32)), .val (.ref b10), .val (.ref oc12), .unset] [(.long qg)])) _
    refine XS.lloadN X14.here hx rfl (hb hby at_181) rfl ?_
    refine XS.lcmp X14.here hx rfl (hb hby at_182) rfl ?_
    show Steps p.tables e below (T14.setTop (mkF m 183 #[.val (.int sel), .val (.long qg), .second, .val (.long qt), .second, .val (.long qk), .second, .val (.long qd), .second, .val (.int (0 : Int32)), .val (.int (0 : Int32)), .val (.ref re), .val (.ref oc2), .val (.int (1 : Int32)), .val (.ref c7), .val (.int (1 : Int32)), .val (.ref b10), .val (.ref oc12), .unset] [(.int (lcmpW qg qg))])) _
    rw [((lw_eq qg qg).mpr rfl)]
    show Steps p.tables e below (T14.setTop (mkF m 183 #[.val (.int sel), .val (.long qg), .second, .val (.long qt), .second, .val (.long qk), .second, .val (.long qd), .second, .val (.int (0 : Int32)), .val (.int (0 : Int32)), .val (.ref re), .val (.ref oc2), .val (.int (1 : Int32)), .val (.ref c7), .val (.int (1 : Int32)), .val (.ref b10), .val (.ref oc12), .unset] [(.int (0 : Int32))])) _
    refine XS.ifNo X14.here hx rfl (hb hby at_183) rfl ((if0 _ _).trans (teq (by decide : (0 : Int32) = (0 : Int32))).2) ?_
    show Steps p.tables e below (T14.setTop (mkF m 186 #[.val (.int sel), .val (.long qg), .second, .val (.long qt), .second, .val (.long qk), .second, .val (.long qd), .second, .val (.int (0 : Int32)), .val (.int (0 : Int32)), .val (.ref re), .val (.ref oc2), .val (.int (1 : Int32)), .val (.ref c7), .val (.int (1 : Int32)), .val (.ref b10), .val (.ref oc12), .unset] [])) _
    refine XS.aload X14.here hx rfl (hb hby at_186) rfl rfl ?_
    refine st15.trans ?_
    show Steps p.tables e below (T15.setTop (mkF m 191 #[.val (.int sel), .val (.long qg), .second, .val (.long qt), .second, .val (.long qk), .second, .val (.long qd), .second, .val (.int (0 : Int32)), .val (.int (0 : Int32)), .val (.ref re), .val (.ref oc2), .val (.int (1 : Int32)), .val (.ref c7), .val (.int (1 : Int32)), .val (.ref b10), .val (.ref oc12), .unset] [(.long qt)])) _
    refine XS.lloadN X15.here hx rfl (hb hby at_191) rfl ?_
    refine XS.lcmp X15.here hx rfl (hb hby at_192) rfl ?_
    show Steps p.tables e below (T15.setTop (mkF m 193 #[.val (.int sel), .val (.long qg), .second, .val (.long qt), .second, .val (.long qk), .second, .val (.long qd), .second, .val (.int (0 : Int32)), .val (.int (0 : Int32)), .val (.ref re), .val (.ref oc2), .val (.int (1 : Int32)), .val (.ref c7), .val (.int (1 : Int32)), .val (.ref b10), .val (.ref oc12), .unset] [(.int (lcmpW qt qt))])) _
    rw [((lw_eq qt qt).mpr rfl)]
    show Steps p.tables e below (T15.setTop (mkF m 193 #[.val (.int sel), .val (.long qg), .second, .val (.long qt), .second, .val (.long qk), .second, .val (.long qd), .second, .val (.int (0 : Int32)), .val (.int (0 : Int32)), .val (.ref re), .val (.ref oc2), .val (.int (1 : Int32)), .val (.ref c7), .val (.int (1 : Int32)), .val (.ref b10), .val (.ref oc12), .unset] [(.int (0 : Int32))])) _
    refine XS.ifNo X15.here hx rfl (hb hby at_193) rfl ((if0 _ _).trans (teq (by decide : (0 : Int32) = (0 : Int32))).2) ?_
    show Steps p.tables e below (T15.setTop (mkF m 196 #[.val (.int sel), .val (.long qg), .second, .val (.long qt), .second, .val (.long qk), .second, .val (.long qd), .second, .val (.int (0 : Int32)), .val (.int (0 : Int32)), .val (.ref re), .val (.ref oc2), .val (.int (1 : Int32)), .val (.ref c7), .val (.int (1 : Int32)), .val (.ref b10), .val (.ref oc12), .unset] [])) _
    refine XS.aload X15.here hx rfl (hb hby at_196) rfl rfl ?_
    refine st16.trans ?_
    show Steps p.tables e below (T16.setTop (mkF m 201 #[.val (.int sel), .val (.long qg), .second, .val (.long qt), .second, .val (.long qk), .second, .val (.long qd), .second, .val (.int (0 : Int32)), .val (.int (0 : Int32)), .val (.ref re), .val (.ref oc2), .val (.int (1 : Int32)), .val (.ref c7), .val (.int (1 : Int32)), .val (.ref b10), .val (.ref oc12), .unset] [(.long qk)])) _
    refine XS.lload X16.here hx rfl (hb hby at_201) rfl ?_
    refine XS.lcmp X16.here hx rfl (hb hby at_203) rfl ?_
    show Steps p.tables e below (T16.setTop (mkF m 204 #[.val (.int sel), .val (.long qg), .second, .val (.long qt), .second, .val (.long qk), .second, .val (.long qd), .second, .val (.int (0 : Int32)), .val (.int (0 : Int32)), .val (.ref re), .val (.ref oc2), .val (.int (1 : Int32)), .val (.ref c7), .val (.int (1 : Int32)), .val (.ref b10), .val (.ref oc12), .unset] [(.int (lcmpW qk qk))])) _
    rw [((lw_eq qk qk).mpr rfl)]
    show Steps p.tables e below (T16.setTop (mkF m 204 #[.val (.int sel), .val (.long qg), .second, .val (.long qt), .second, .val (.long qk), .second, .val (.long qd), .second, .val (.int (0 : Int32)), .val (.int (0 : Int32)), .val (.ref re), .val (.ref oc2), .val (.int (1 : Int32)), .val (.ref c7), .val (.int (1 : Int32)), .val (.ref b10), .val (.ref oc12), .unset] [(.int (0 : Int32))])) _
    refine XS.ifNo X16.here hx rfl (hb hby at_204) rfl ((if0 _ _).trans (teq (by decide : (0 : Int32) = (0 : Int32))).2) ?_
    show Steps p.tables e below (T16.setTop (mkF m 207 #[.val (.int sel), .val (.long qg), .second, .val (.long qt), .second, .val (.long qk), .second, .val (.long qd), .second, .val (.int (0 : Int32)), .val (.int (0 : Int32)), .val (.ref re), .val (.ref oc2), .val (.int (1 : Int32)), .val (.ref c7), .val (.int (1 : Int32)), .val (.ref b10), .val (.ref oc12), .unset] [])) _
    refine XS.aload X16.here hx rfl (hb hby at_207) rfl rfl ?_
    refine st17.trans ?_
    show Steps p.tables e below (T17.setTop (mkF m 212 #[.val (.int sel), .val (.long qg), .second, .val (.long qt), .second, .val (.long qk), .second, .val (.long qd), .second, .val (.int (0 : Int32)), .val (.int (0 : Int32)), .val (.ref re), .val (.ref oc2), .val (.int (1 : Int32)), .val (.ref c7), .val (.int (1 : Int32)), .val (.ref b10), .val (.ref oc12), .unset] [(.long qd)])) _
    refine XS.lload X17.here hx rfl (hb hby at_212) rfl ?_
    refine XS.lcmp X17.here hx rfl (hb hby at_214) rfl ?_
    show Steps p.tables e below (T17.setTop (mkF m 215 #[.val (.int sel), .val (.long qg), .second, .val (.long qt), .second, .val (.long qk), .second, .val (.long qd), .second, .val (.int (0 : Int32)), .val (.int (0 : Int32)), .val (.ref re), .val (.ref oc2), .val (.int (1 : Int32)), .val (.ref c7), .val (.int (1 : Int32)), .val (.ref b10), .val (.ref oc12), .unset] [(.int (lcmpW qd qd))])) _
    rw [((lw_eq qd qd).mpr rfl)]
    show Steps p.tables e below (T17.setTop (mkF m 215 #[.val (.int sel), .val (.long qg), .second, .val (.long qt), .second, .val (.long qk), .second, .val (.long qd), .second, .val (.int (0 : Int32)), .val (.int (0 : Int32)), .val (.ref re), .val (.ref oc2), .val (.int (1 : Int32)), .val (.ref c7), .val (.int (1 : Int32)), .val (.ref b10), .val (.ref oc12), .unset] [(.int (0 : Int32))])) _
    refine XS.ifNo X17.here hx rfl (hb hby at_215) rfl ((if0 _ _).trans (teq (by decide : (0 : Int32) = (0 : Int32))).2) ?_
    show Steps p.tables e below (T17.setTop (mkF m 218 #[.val (.int sel), .val (.long qg), .second, .val (.long qt), .second, .val (.long qk), .second, .val (.long qd), .second, .val (.int (0 : Int32)), .val (.int (0 : Int32)), .val (.ref re), .val (.ref oc2), .val (.int (1 : Int32)), .val (.ref c7), .val (.int (1 : Int32)), .val (.ref b10), .val (.ref oc12), .unset] [])) _
    refine XS.iconst X17.here hx rfl (hb hby at_218) ?_
    refine XS.goto X17.here hx rfl (pc0 := 219) (pc' := 223) rfl (hb hby at_219) (by decide) (by decide) ?_
    show Steps p.tables e below (T17.setTop (mkF m 223 #[.val (.int sel), .val (.long qg), .second, .val (.long qt), .second, .val (.long qk), .second, .val (.long qd), .second, .val (.int (0 : Int32)), .val (.int (0 : Int32)), .val (.ref re), .val (.ref oc2), .val (.int (1 : Int32)), .val (.ref c7), .val (.int (1 : Int32)), .val (.ref b10), .val (.ref oc12), .unset] [(.int (1 : Int32))])) _
    refine XS.istore X17.here hx rfl (hb hby at_223) rfl (l' := #[.val (.int sel), .val (.long qg), .second, .val (.long qt), .second, .val (.long qk), .second, .val (.long qd), .second, .val (.int (0 : Int32)), .val (.int (0 : Int32)), .val (.ref re), .val (.ref oc2), .val (.int (1 : Int32)), .val (.ref c7), .val (.int (1 : Int32)), .val (.ref b10), .val (.ref oc12), .val (.int (1 : Int32))]) rfl ?_
    show Steps p.tables e below (T17.setTop (mkF m 225 #[.val (.int sel), .val (.long qg), .second, .val (.long qt), .second, .val (.long qk), .second, .val (.long qd), .second, .val (.int (0 : Int32)), .val (.int (0 : Int32)), .val (.ref re), .val (.ref oc2), .val (.int (1 : Int32)), .val (.ref c7), .val (.int (1 : Int32)), .val (.ref b10), .val (.ref oc12), .val (.int (1 : Int32))] [])) _
    refine XS.iload X17.here hx rfl (hb hby at_225) rfl ?_
    refine XS.ifNo X17.here hx rfl (hb hby at_227) rfl ((if0 _ _).trans (feq (by decide : ¬ ((1 : Int32) = (0 : Int32)))).1) ?_
    show Steps p.tables e below (T17.setTop (mkF m 230 #[.val (.int sel), .val (.long qg), .second, .val (.long qt), .second, .val (.long qk), .second, .val (.long qd), .second, .val (.int (0 : Int32)), .val (.int (0 : Int32)), .val (.ref re), .val (.ref oc2), .val (.int (1 : Int32)), .val (.ref c7), .val (.int (1 : Int32)), .val (.ref b10), .val (.ref oc12), .val (.int (1 : Int32))] [])) _
    refine XS.iload X17.here hx rfl (hb hby at_230) rfl ?_
    refine XS.ifNo X17.here hx rfl (hb hby at_232) rfl ((if0 _ _).trans (feq (by decide : ¬ ((1 : Int32) = (0 : Int32)))).1) ?_
    show Steps p.tables e below (T17.setTop (mkF m 235 #[.val (.int sel), .val (.long qg), .second, .val (.long qt), .second, .val (.long qk), .second, .val (.long qd), .second, .val (.int (0 : Int32)), .val (.int (0 : Int32)), .val (.ref re), .val (.ref oc2), .val (.int (1 : Int32)), .val (.ref c7), .val (.int (1 : Int32)), .val (.ref b10), .val (.ref oc12), .val (.int (1 : Int32))] [])) _
    refine XS.iload X17.here hx rfl (hb hby at_235) rfl ?_
    refine XS.ifNo X17.here hx rfl (hb hby at_237) rfl ((if0 _ _).trans (feq (by decide : ¬ ((1 : Int32) = (0 : Int32)))).1) ?_
    show Steps p.tables e below (T17.setTop (mkF m 240 #[.val (.int sel), .val (.long qg), .second, .val (.long qt), .second, .val (.long qk), .second, .val (.long qd), .second, .val (.int (0 : Int32)), .val (.int (0 : Int32)), .val (.ref re), .val (.ref oc2), .val (.int (1 : Int32)), .val (.ref c7), .val (.int (1 : Int32)), .val (.ref b10), .val (.ref oc12), .val (.int (1 : Int32))] [])) _
    refine XS.iconst X17.here hx rfl (hb hby at_240) ?_
    refine XS.goto X17.here hx rfl (pc0 := 241) (pc' := 245) rfl (hb hby at_241) (by decide) (by decide) ?_
    show Steps p.tables e below (T17.setTop (mkF m 245 #[.val (.int sel), .val (.long qg), .second, .val (.long qt), .second, .val (.long qk), .second, .val (.long qd), .second, .val (.int (0 : Int32)), .val (.int (0 : Int32)), .val (.ref re), .val (.ref oc2), .val (.int (1 : Int32)), .val (.ref c7), .val (.int (1 : Int32)), .val (.ref b10), .val (.ref oc12), .val (.int (1 : Int32))] [(.int (1 : Int32))])) _
    exact retN X17 hx (t := .boolean) Bd.returns (by simp) (hb hby at_245) hr
  · show (Q1 n0) _ T17.heap _
    rw [e17]
    exact ⟨rfl, N17⟩
  · show CHr Z consts_1 s.vm s.heap T17.vm T17.heap
    rw [hh, e17]
    exact Ch12.trans (CHv.at (s := s) (vm0 := T8.vm) X17 hZ8 (own_EW hw) Ch12.1)
theorem own_eq_int {t : Term} {n : Int32} {args : Array Value} {Z : State} (h : (Jvm.Cond.eq t (.int n)).value args Z none Z [] = some true) : t.eval args Z none [] Z = some (.int n) := by
  have hn : (Term.int n).eval args Z none [] Z = some (.int n) := rfl
  simp only [Cond.value, hn] at h
  cases ht : t.eval args Z none [] Z with
  | none => simp [ht] at h
  | some x => cases x <;> simp [ht] at h ⊢; exact h
theorem own_eq_ref {t u : Term} {a : Addr} {args : Array Value} {Z : State} (h : (Jvm.Cond.eq t u).value args Z none Z [] = some true) (hu : u.eval args Z none [] Z = some (.ref a)) : t.eval args Z none [] Z = some (.ref a) := by
  simp only [Cond.value, hu] at h
  cases ht : t.eval args Z none [] Z with
  | none => simp [ht] at h
  | some x => cases x <;> simp [ht] at h ⊢; exact h
theorem own_ne {Z : State} {a b : Addr} {C n d : String} {u v : Value} (h1 : Z.fieldOf? a C n d = some u) (h2 : Z.fieldOf? b C n d = some v) (h : u ≠ v) : ¬ (a = b) := fun e => by
  subst e; rw [h1] at h2; exact h (Option.some.inj h2)
theorem own_digit {s : State} {args : Array Value} (hex : (Jvm.Cond.exactly (Jvm.Term.static "java/lang/Integer" "DigitOnes" "[B") "[B").before args s = true) (hlen : (Jvm.Cond.eq (.length (Jvm.Term.static "java/lang/Integer" "DigitOnes" "[B")) (.int (100 : Int32))).before args s = true) (hall : (Jvm.Cond.all (Jvm.Term.static "java/lang/Integer" "DigitOnes" "[B") (.eq (.elem (Jvm.Term.static "java/lang/Integer" "DigitOnes" "[B") (.index 0)) (.add (.int (48 : Int32)) (.rem (.index 0) (.int (10 : Int32)))))).before args s = true) (harr : (Jvm.Cond.arrayClass .byte).before args s = true) :
    ∃ (d : Addr) (D : Cell), ((Jvm.Term.static "java/lang/Integer" "DigitOnes" "[B")).eval args s none [] s = some (.ref d) ∧ Arr s s.heap d D .byte ∧ ¬ ((0 : Int32) < 0 ∨ D.slots.size ≤ (0 : Int32).toNatClampNeg) ∧ D.slots[(0 : Int32).toNatClampNeg]? = some (.int (48 : Int32)) := by
  obtain ⟨d, cB, D, kB, hev, hfcB, hcellD, hkB, hstatD, hclsD, -⟩ := Cond.exactly_spec hex
  have hl := own_eq_int (Cond.before_iff.mp hlen)
  obtain ⟨d', D', hev', hat, hlen'⟩ := Term.length_spec hl
  cases hev.symm.trans hev'
  obtain ⟨hcellD', hkn, -, -⟩ := State.arrayAt?_spec hat
  cases hcellD.symm.trans hcellD'
  obtain ⟨cB', kB', comp, hnB, hkB', hkind⟩ := Cond.arrayClass_spec harr
  have eBA : ("[" ++ FieldType.toString .byte) = "[B" := by decide
  rw [eBA] at hnB
  cases hfcB.symm.trans hnB
  cases hkB.symm.trans hkB'
  have hpos : 0 < D.slots.size := by
    refine Nat.pos_of_ne_zero fun q => ?_
    rw [q] at hlen'
    exact absurd hlen' (by decide)
  have h := Cond.all_elim hev hat (Cond.before_iff.mp hall) 0 hpos
  have e1 : (Term.elem (Jvm.Term.static "java/lang/Integer" "DigitOnes" "[B") (.index 0)).eval args s none [0] s = some (.int (48 : Int32)) := eqv_i (by rfl) h
  have hev0 : ((Jvm.Term.static "java/lang/Integer" "DigitOnes" "[B")).eval args s none [0] s = some (.ref d) := hev
  have e2 := elem_f (a := Term.index 0) (j := (0 : Int32)) hev0 rfl hat (by decide)
  exact ⟨d, D, hev, ⟨hcellD, ⟨(fun q h => by rw [h] at hstatD; cases hstatD), kB, (by rw [hclsD]; exact hkB), comp, hkind⟩, hkn⟩, fun q => q.elim (by decide) (fun z => absurd hpos (Nat.not_lt.mpr z)), e2.symm.trans e1⟩
set_option maxRecDepth 65536 in
set_option maxHeartbeats 40000000 in
theorem comes_1 {Post : Tables → Env → Array Value → State → Outcome → State → Prop} (hpost : ∀ tb e args s v u, (limb_1_1.after args s (.returned v) u = true ∧ limb_1_2.after args s (.returned v) u = true ∧ True) → Jvm.Pilot.@@N@@.Jvm.D.FramedW s (.returned v) u (Jvm.fieldLocs frame_1_writes args s ++ Jvm.arrayLocs frame_1_arrays args s ++ Jvm.staticLocs frame_1_statics s) 64 9856 → Post tb e args s (.returned v) u) :
    ArmFor flags0 classFile x code maxLocals ret World_1 tables_1 room_1 Calls_1 rest_1 Pre_1 Post := by
  intro l hfl _ _ p e ha hc hk s m args below hf hA hF happ hP
  obtain ⟨hcalls, hrest, hpre⟩ := hP
  obtain ⟨-, -, -, hnamed, -, -, -, hat⟩ := (Spec.applies_iff hf).mp happ
  obtain ⟨hg, hn⟩ := and_e (Cond.before_iff.mp (show (Jvm.Cond.and given_1 narrow_1).before args s = true from hpre))
  obtain ⟨g1a, g1b⟩ := and_e hg
  obtain ⟨g2a, g2b⟩ := and_e g1b
  obtain ⟨g3a, g3b⟩ := and_e g2b
  obtain ⟨g4a, g4b⟩ := and_e g3b
  obtain ⟨g5a, g5b⟩ := and_e g4b
  obtain ⟨g6a, g6b⟩ := and_e hn
  obtain ⟨g7a, g7b⟩ := and_e g6b
  obtain ⟨g8a, g8b⟩ := and_e g7b
  obtain ⟨w0, w1, w2, w3, w4, rfl⟩ : ∃ w0 w1 w2 w3 w4 : Value, args = #[w0, w1, w2, w3, w4] := by
    have hs : args.size = 5 := by simpa [Cond.value, given_1] using g1a
    obtain ⟨L⟩ := args
    match L, hs with
    | [w0, w1, w2, w3, w4], _ => exact ⟨w0, w1, w2, w3, w4, rfl⟩
  have hw := fun d (hd : d ∈ tables_1) => atoms_spec (ws := Jvm.Cond.code x code maxLocals ret :: tables_1) hat d (List.mem_cons_of_mem _ hd)
  obtain ⟨hsets, hown0⟩ := atoms_of _ (rest_1_c_eq ▸ (show rest_1_c.before _ s = true from hrest))
  obtain ⟨i0, ei0⟩ := is_v g2a
  obtain rfl : w0 = (.int i0) := Option.some.inj ei0
  obtain ⟨i1, ei1⟩ := isL_v g3a
  obtain rfl : w1 = (.long i1) := Option.some.inj ei1
  obtain ⟨i2, ei2⟩ := isL_v g4a
  obtain rfl : w2 = (.long i2) := Option.some.inj ei2
  obtain ⟨i3, ei3⟩ := isL_v g5a
  obtain rfl : w3 = (.long i3) := Option.some.inj ei3
  obtain ⟨i4, ei4⟩ := isL_v g5b
  obtain rfl : w4 = (.long i4) := Option.some.inj ei4
  obtain ⟨w_REFUSE, ev_REFUSE⟩ := exa_v g6a
  have S_REFUSE : Sta s s.heap "com/example/known_origins/knownorigins/store/IfStored" "REFUSE" "Lcom/example/known_origins/knownorigins/store/IfStored;" (.ref w_REFUSE) := Sta.start ev_REFUSE (Or.inr ⟨(hw _ (M 1)), (hw _ (M 2))⟩)
  obtain ⟨w_SKIP, ev_SKIP⟩ := exa_v g7a
  have S_SKIP : Sta s s.heap "com/example/known_origins/knownorigins/store/IfStored" "SKIP" "Lcom/example/known_origins/knownorigins/store/IfStored;" (.ref w_SKIP) := Sta.start ev_SKIP (Or.inr ⟨(hw _ (M 1)), (hw _ (M 177))⟩)
  have o_REFUSE : s.fieldOf? w_REFUSE "java/lang/Enum" "ordinal" "I" = some (.int (0 : Int32)) := (fld_at ev_REFUSE).symm.trans (own_eq_int g8a)
  have o_SKIP : s.fieldOf? w_SKIP "java/lang/Enum" "ordinal" "I" = some (.int (1 : Int32)) := (fld_at ev_SKIP).symm.trans (own_eq_int g8b)
  have hrs := own_ne o_REFUSE o_SKIP (by decide)
  obtain ⟨zc, evz⟩ := is_v (Cond.before_iff.mp (hsets _ (List.mem_of_getElem? (i := 1) rfl)))
  have S_CS : Sta s s.heap "java/lang/String" "COMPACT_STRINGS" "Z" (.int zc) := Sta.start evz (Or.inl (hsets _ (List.mem_of_getElem? (i := 0) rfl)))
  have hz : ¬ (zc = (0 : Int32)) := gotF (Cond.eq_ints evz rfl) (not_v (Cond.before_iff.mp (hsets _ (List.mem_of_getElem? (i := 2) rfl))))
  obtain ⟨d1, cd, evd, Ad, hind, hatd⟩ := own_digit (hsets _ (List.mem_of_getElem? (i := 12) rfl)) (hsets _ (List.mem_of_getElem? (i := 13) rfl)) (hsets _ (List.mem_of_getElem? (i := 14) rfl)) (hw _ (M 48))
  have S_D1 : Sta s s.heap "java/lang/Integer" "DigitOnes" "[B" (.ref d1) := Sta.start evd (Or.inl (hsets _ (List.mem_of_getElem? (i := 11) rfl)))
  have hCH : CHv s consts_1 s.vm s.heap := CHv.start (own_EW hw) hcalls.1 (hsets _ (List.mem_of_getElem? (i := 2) rfl)) (hw _ (M 48)) (hw _ (M 47))
  have C0 : MH l s x code maxLocals ret room_1 #[.int i0, .long i1, .long i2, .long i3, .long i4] s.heap (Q1 s.heap.size) := by
    by_cases h1 : (i0 &&& (1 : Int32)) = (0 : Int32) <;> by_cases h2 : (i0 &&& (2 : Int32)) = (0 : Int32)
    · exact law_00 l s _ hw i0 i1 i2 i3 i4 w_SKIP w_REFUSE zc d1 cd s.heap s.heap.size (Nat.le_refl _) S_SKIP S_REFUSE hrs S_CS hz S_D1 Ad hind hatd h1 h2
    · exact law_01 l s _ hw i0 i1 i2 i3 i4 w_SKIP w_REFUSE zc d1 cd s.heap s.heap.size (Nat.le_refl _) S_SKIP S_REFUSE hrs S_CS hz S_D1 Ad hind hatd h1 h2
    · exact law_10 l s _ hw i0 i1 i2 i3 i4 w_SKIP w_REFUSE zc d1 cd s.heap s.heap.size (Nat.le_refl _) S_SKIP S_REFUSE hrs S_CS hz S_D1 Ad hind hatd h1 h2
    · exact law_11 l s _ hw i0 i1 i2 i3 i4 w_SKIP w_REFUSE zc d1 cd s.heap s.heap.size (Nat.le_refl _) S_SKIP S_REFUSE hrs S_CS hz S_D1 Ad hind hatd h1 h2
  obtain ⟨n, o, h1, h2, h3, _, L, rfl, ⟨rfl, N⟩, -, hq⟩ := C0 tables_1 p e ha hc hk s m _ below hf ((Spec.applies_iff_loose hf).mp happ).1 ⟨rfl, State.Warmed39.refl s, rfl, hCH⟩ trivial
  refine ⟨n, _, h1, h2, h3, hpost _ _ _ _ _ _ ⟨Cond.after_iff.mpr rfl, Cond.after_iff.mpr (eq_i res_at (Term.int_eval (1)) rfl), trivial⟩ ⟨hq.1, hq.2.1, hq.2.2.1, (hq.2.2.2.sift fun y hy => Or.inr (N y hy)).mono (by decide) (by decide)⟩⟩
theorem main_1_1 : Claimed_1_1 := comes_1 fun _ _ _ _ _ _ h hF => ⟨h.1, hF⟩
theorem main_1_2 : Claimed_1_2 := comes_1 fun _ _ _ _ _ _ h hF => ⟨h.2.1, hF⟩
end Jvm.Pilot.@@N@@
namespace Jvm.Pilot.@@N@@
open Jvm Jvm.ClassFile Sem Op Lib Jvm.Free Jvm.Stand Jvm.Pilot.@@N@@.Jvm.D
/-! MADE BY PROGRAM (witnessworld.py) out of the Statement's table words and the real class files: 28 classes; the members and pool entries that the words name. The judged class is class 1, her method 1. -/
namespace start1
open Jvm.ClassFile
def u (s : String) : CpInfo := .utf8 (stringToUtf16 s)
/-- a pool by its gaps: so many unusable entries, then the entry; so many at the end -/
def gap : Nat → List CpInfo → List CpInfo
  | 0, r => r
  | n + 1, r => .unusable :: gap n r
def poolList (es : List (Nat × CpInfo)) (last : Nat) : List CpInfo := es.foldr (fun e r => gap e.1 (e.2 :: r)) (gap last [])
def pool (es : List (Nat × CpInfo)) (last : Nat) : Array CpInfo := ⟨poolList es last⟩
def fileOf (pool : Array CpInfo) (this : Nat) (attrs : Array Attribute := #[]) (ms : Array MethodInfo := #[]) (fl : Nat := 33) (sup : Nat := 0) (ifs : Array Nat := #[]) (fds : Array FieldInfo := #[]) : ClassFile where
  minorVersion := 0
  majorVersion := 65
  constantPool := pool
  accessFlags := fl
  thisClass := this
  superClass := sup
  interfaces := ifs
  fields := fds
  methods := ms
  attributes := attrs
def plain (name : String) (sup : Option ClassId) : Class where
  name := name
  kind := .ordinary
  loader := none
  accessFlags := 33
  super := sup
  interfaces := #[]
  cf := none
  fields := #[]
  methods := #[]
  instanceTypes := #[]
  staticTypes := #[]
  resolved := #[]
  callSites := []
  init := .initialized
  statics := none
  mirror := none

def pool0 : Array CpInfo := pool [(5, u "<init>"), (0, u "()V"), (1, .class_ 10), (1, u "java/lang/Object")] 113

def k0c0 : Code := { maxStack := 0, maxLocals := 1, code := object_method_1_code, exceptionTable := #[], attributes := #[] }
def k0m0 : Method := { name := "<init>", desc := "()V", sig := { parameters := [], returnType := none }, accessFlags := 1, code := some k0c0 }
/-- java/lang/Object -/
def k0 : Class := { plain "java/lang/Object" none with
  accessFlags := 33
  interfaces := #[]
  cf := some (fileOf pool0 8 #[] #[{ accessFlags := 1, nameIndex := 5, descriptorIndex := 6, attributes := #[] }] 33 0 #[] #[])
  fields := #[]
  methods := #[k0m0]
  instanceTypes := #[]
  staticTypes := #[]
  resolved := Array.replicate 124 none
  statics := none }

def pool1 : Array CpInfo := pool [(2, .class_ 4), (1, u "java/lang/Object"), (0, u "<init>"), (0, u "()V"), (0, .fieldref 8 9), (0, .class_ 10), (0, .nameAndType 11 12), (0, u "com/example/known_origins/knownorigins/store/IfStored"), (0, u "SKIP"), (0, u "Lcom/example/known_origins/knownorigins/store/IfStored;"), (0, .fieldref 8 14), (0, .nameAndType 15 12), (0, u "REFUSE"), (0, .methodref 17 18), (0, .class_ 19), (0, .nameAndType 20 21), (0, u "com/example/known_origins/knownorigins/store/LoadCount"), (0, u "none"), (0, u "(Lcom/example/known_origins/knownorigins/store/IfStored;)Lcom/example/known_origins/knownorigins/store/LoadCount;"), (0, .methodref 17 23), (0, .nameAndType 24 25), (0, u "graphs"), (0, u "()J"), (0, .methodref 17 27), (0, .nameAndType 28 25), (0, u "triples"), (0, .methodref 17 30), (0, .nameAndType 31 25), (0, u "skipped"), (0, .methodref 17 33), (0, .nameAndType 34 25), (0, u "derived"), (0, .string 36), (0, u "loaded graphs=0 triples=0 skipped=0 derived=0"), (0, .string 38), (0, u "loaded graphs=0 triples=0 skipped=0"), (0, .string 40), (0, u "loaded graphs=0 triples=0 derived=0"), (0, .string 42), (0, u "loaded graphs=0 triples=0"), (0, .methodref 17 44), (0, .nameAndType 45 46), (0, u "line"), (0, u "(Z)Ljava/lang/String;"), (0, .methodref 48 49), (0, .class_ 50), (0, .nameAndType 51 52), (0, u "java/lang/String"), (0, u "equals"), (0, u "(Ljava/lang/Object;)Z"), (0, .methodref 17 54), (0, .nameAndType 5 55), (0, u "(Lcom/example/known_origins/knownorigins/store/IfStored;JJJJ)V"), (0, .methodref 17 57), (0, .nameAndType 58 59), (0, u "plus"), (0, u "(Lcom/example/known_origins/knownorigins/store/LoadCount;)Lcom/example/known_origins/knownorigins/store/LoadCount;"), (0, .class_ 61), (0, u "com/example/known_origins/knownorigins/store/LoadCountNonePinLaw"), (2, u "law"), (0, u "(IJJJJ)Z")] 3

def k1m0 : Method := { name := "<init>", desc := "()V", sig := { parameters := [], returnType := none }, accessFlags := 1, code := none }
def k1c1 : Code := { maxStack := 11, maxLocals := 19, code := code, exceptionTable := #[], attributes := #[] }
def k1m1 : Method := { name := "law", desc := "(IJJJJ)Z", sig := { parameters := [.int, .long, .long, .long, .long], returnType := some .boolean }, accessFlags := 9, code := some k1c1 }
/-- com/example/known_origins/knownorigins/store/LoadCountNonePinLaw -/
def k1 : Class := { plain "com/example/known_origins/knownorigins/store/LoadCountNonePinLaw" (some 0) with
  accessFlags := 49
  interfaces := #[]
  cf := some (fileOf pool1 60 #[] #[{ accessFlags := 1, nameIndex := 5, descriptorIndex := 6, attributes := #[] }, { accessFlags := 9, nameIndex := 64, descriptorIndex := 65, attributes := #[] }] 49 2 #[] #[])
  fields := #[]
  methods := #[k1m0, k1m1]
  instanceTypes := #[]
  staticTypes := #[]
  resolved := Array.replicate 69 none
  statics := none }

def pool2 : Array CpInfo := pool [(1, .class_ 2), (0, u "java/lang/constant/Constable"), (0, .class_ 4), (0, u "java/lang/Object")] 6

/-- java/lang/constant/Constable -/
def k2 : Class := { plain "java/lang/constant/Constable" (some 0) with
  accessFlags := 1537
  interfaces := #[]
  cf := some (fileOf pool2 1 #[] #[] 1537 3 #[] #[])
  fields := #[]
  methods := #[]
  instanceTypes := #[]
  staticTypes := #[]
  resolved := Array.replicate 11 none
  statics := none }

def pool3 : Array CpInfo := pool [(1, .class_ 2), (0, u "java/lang/Comparable"), (0, .class_ 4), (0, u "java/lang/Object")] 7

/-- java/lang/Comparable -/
def k3 : Class := { plain "java/lang/Comparable" (some 0) with
  accessFlags := 1537
  interfaces := #[]
  cf := some (fileOf pool3 1 #[] #[] 1537 3 #[] #[])
  fields := #[]
  methods := #[]
  instanceTypes := #[]
  staticTypes := #[]
  resolved := Array.replicate 12 none
  statics := none }

def pool4 : Array CpInfo := pool [(1, .class_ 2), (0, u "java/io/Serializable"), (0, .class_ 4), (0, u "java/lang/Object")] 2

/-- java/io/Serializable -/
def k4 : Class := { plain "java/io/Serializable" (some 0) with
  accessFlags := 1537
  interfaces := #[]
  cf := some (fileOf pool4 1 #[] #[] 1537 3 #[] #[])
  fields := #[]
  methods := #[]
  instanceTypes := #[]
  staticTypes := #[]
  resolved := Array.replicate 7 none
  statics := none }

def pool5 : Array CpInfo := pool [(2, .class_ 4), (1, u "java/lang/Enum"), (0, u "name"), (0, u "Ljava/lang/String;"), (2, u "ordinal"), (0, u "I"), (1, .class_ 14), (1, u "java/lang/Object"), (4, u "hash"), (86, .class_ 108), (1, u "java/lang/Enum$EnumDesc"), (2, .class_ 112), (0, u "java/lang/constant/Constable"), (0, .class_ 114), (0, u "java/lang/Comparable"), (0, .class_ 116), (0, u "java/io/Serializable")] 87

/-- java/lang/Enum -/
def k5 : Class := { plain "java/lang/Enum" (some 0) with
  accessFlags := 1057
  interfaces := #[2, 3, 4]
  cf := some (fileOf pool5 2 #[.nestMembers #[106]] #[] 1057 12 #[111, 113, 115] #[{ accessFlags := 18, nameIndex := 5, descriptorIndex := 6, attributes := #[] }, { accessFlags := 18, nameIndex := 9, descriptorIndex := 10, attributes := #[] }, { accessFlags := 2, nameIndex := 19, descriptorIndex := 10, attributes := #[] }])
  fields := #[{ name := "name", type := (.object "java/lang/String"), accessFlags := 18, slot := 0, constantValue := 0 }, { name := "ordinal", type := .int, accessFlags := 18, slot := 1, constantValue := 0 }, { name := "hash", type := .int, accessFlags := 2, slot := 2, constantValue := 0 }]
  methods := #[]
  instanceTypes := #[(.object "java/lang/String"), .int, .int]
  staticTypes := #[]
  resolved := Array.replicate 204 none
  statics := none }

def pool6 : Array CpInfo := pool [(1, .class_ 2), (0, u "com/example/known_origins/knownorigins/store/IfStored"), (2, u "REFUSE"), (0, u "Lcom/example/known_origins/knownorigins/store/IfStored;"), (2, u "SKIP"), (2, u "$VALUES"), (0, u "[Lcom/example/known_origins/knownorigins/store/IfStored;"), (6, .class_ 22), (1, u "java/lang/Enum")] 24

/-- com/example/known_origins/knownorigins/store/IfStored -/
def k6 : Class := { plain "com/example/known_origins/knownorigins/store/IfStored" (some 5) with
  accessFlags := 16433
  interfaces := #[]
  cf := some (fileOf pool6 1 #[] #[] 16433 20 #[] #[{ accessFlags := 16409, nameIndex := 5, descriptorIndex := 6, attributes := #[] }, { accessFlags := 16409, nameIndex := 9, descriptorIndex := 6, attributes := #[] }, { accessFlags := 4122, nameIndex := 12, descriptorIndex := 13, attributes := #[] }])
  fields := #[{ name := "REFUSE", type := (.object "com/example/known_origins/knownorigins/store/IfStored"), accessFlags := 16409, slot := 0, constantValue := 0 }, { name := "SKIP", type := (.object "com/example/known_origins/knownorigins/store/IfStored"), accessFlags := 16409, slot := 1, constantValue := 0 }, { name := "$VALUES", type := (.array (.object "com/example/known_origins/knownorigins/store/IfStored")), accessFlags := 4122, slot := 2, constantValue := 0 }]
  methods := #[]
  instanceTypes := #[(.object "java/lang/String"), .int, .int]
  staticTypes := #[(.object "com/example/known_origins/knownorigins/store/IfStored"), (.object "com/example/known_origins/knownorigins/store/IfStored"), (.array (.object "com/example/known_origins/knownorigins/store/IfStored"))]
  resolved := Array.replicate 47 none
  statics := some 0 }

def pool7 : Array CpInfo := pool [(1, .methodref 2 3), (0, .class_ 4), (0, .nameAndType 5 6), (0, u "java/lang/Object"), (0, u "<init>"), (0, u "()V"), (0, .fieldref 8 9), (0, .class_ 10), (0, .nameAndType 11 12), (0, u "com/example/known_origins/knownorigins/store/LoadCount"), (0, u "ifStored"), (0, u "Lcom/example/known_origins/knownorigins/store/IfStored;"), (0, .fieldref 8 14), (0, .nameAndType 15 16), (0, u "graphs"), (0, u "J"), (0, .fieldref 8 18), (0, .nameAndType 19 16), (0, u "triples"), (0, .fieldref 8 21), (0, .nameAndType 22 16), (0, u "skipped"), (0, .fieldref 8 24), (0, .nameAndType 25 16), (0, u "derived"), (0, .methodref 8 27), (0, .nameAndType 5 28), (0, u "(Lcom/example/known_origins/knownorigins/store/IfStored;JJJJ)V"), (7, .class_ 37), (0, u "java/lang/StringBuilder"), (0, .methodref 36 3), (0, .string 40), (0, u "loaded graphs="), (0, .methodref 36 42), (0, .nameAndType 43 44), (0, u "append"), (0, u "(Ljava/lang/String;)Ljava/lang/StringBuilder;"), (0, .methodref 36 46), (0, .nameAndType 43 47), (0, u "(J)Ljava/lang/StringBuilder;"), (0, .string 49), (0, u " triples="), (0, .fieldref 51 52), (0, .class_ 53), (0, .nameAndType 54 12), (0, u "com/example/known_origins/knownorigins/store/IfStored"), (0, u "SKIP"), (0, .string 56), (0, u " skipped="), (0, .methodref 36 58), (0, .nameAndType 59 60), (0, u "toString"), (0, u "()Ljava/lang/String;"), (0, .string 62), (0, u ""), (0, .string 64), (0, u " derived="), (2, u "none"), (0, u "(Lcom/example/known_origins/knownorigins/store/IfStored;)Lcom/example/known_origins/knownorigins/store/LoadCount;"), (0, u "()J"), (0, u "plus"), (0, u "(Lcom/example/known_origins/knownorigins/store/LoadCount;)Lcom/example/known_origins/knownorigins/store/LoadCount;"), (1, u "line"), (0, u "(Z)Ljava/lang/String;")] 4

def k7c0 : Code := { maxStack := 3, maxLocals := 10, code := prog_24_method_1_code, exceptionTable := #[], attributes := #[] }
def k7m0 : Method := { name := "<init>", desc := "(Lcom/example/known_origins/knownorigins/store/IfStored;JJJJ)V", sig := { parameters := [(.object "com/example/known_origins/knownorigins/store/IfStored"), .long, .long, .long, .long], returnType := none }, accessFlags := 1, code := some k7c0 }
def k7c1 : Code := { maxStack := 11, maxLocals := 1, code := prog_24_method_2_code, exceptionTable := #[], attributes := #[] }
def k7m1 : Method := { name := "none", desc := "(Lcom/example/known_origins/knownorigins/store/IfStored;)Lcom/example/known_origins/knownorigins/store/LoadCount;", sig := { parameters := [(.object "com/example/known_origins/knownorigins/store/IfStored")], returnType := some (.object "com/example/known_origins/knownorigins/store/LoadCount") }, accessFlags := 9, code := some k7c1 }
def k7c2 : Code := { maxStack := 2, maxLocals := 1, code := prog_24_method_3_code, exceptionTable := #[], attributes := #[] }
def k7m2 : Method := { name := "graphs", desc := "()J", sig := { parameters := [], returnType := some .long }, accessFlags := 1, code := some k7c2 }
def k7c3 : Code := { maxStack := 2, maxLocals := 1, code := prog_24_method_4_code, exceptionTable := #[], attributes := #[] }
def k7m3 : Method := { name := "triples", desc := "()J", sig := { parameters := [], returnType := some .long }, accessFlags := 1, code := some k7c3 }
def k7c4 : Code := { maxStack := 2, maxLocals := 1, code := prog_24_method_5_code, exceptionTable := #[], attributes := #[] }
def k7m4 : Method := { name := "skipped", desc := "()J", sig := { parameters := [], returnType := some .long }, accessFlags := 1, code := some k7c4 }
def k7c5 : Code := { maxStack := 2, maxLocals := 1, code := prog_24_method_6_code, exceptionTable := #[], attributes := #[] }
def k7m5 : Method := { name := "derived", desc := "()J", sig := { parameters := [], returnType := some .long }, accessFlags := 1, code := some k7c5 }
def k7c6 : Code := { maxStack := 13, maxLocals := 2, code := prog_24_method_7_code, exceptionTable := #[], attributes := #[] }
def k7m6 : Method := { name := "plus", desc := "(Lcom/example/known_origins/knownorigins/store/LoadCount;)Lcom/example/known_origins/knownorigins/store/LoadCount;", sig := { parameters := [(.object "com/example/known_origins/knownorigins/store/LoadCount")], returnType := some (.object "com/example/known_origins/knownorigins/store/LoadCount") }, accessFlags := 1, code := some k7c6 }
def k7c7 : Code := { maxStack := 4, maxLocals := 2, code := prog_24_method_8_code, exceptionTable := #[], attributes := #[] }
def k7m7 : Method := { name := "line", desc := "(Z)Ljava/lang/String;", sig := { parameters := [.boolean], returnType := some (.object "java/lang/String") }, accessFlags := 1, code := some k7c7 }
/-- com/example/known_origins/knownorigins/store/LoadCount -/
def k7 : Class := { plain "com/example/known_origins/knownorigins/store/LoadCount" (some 0) with
  accessFlags := 33
  interfaces := #[]
  cf := some (fileOf pool7 8 #[] #[{ accessFlags := 1, nameIndex := 5, descriptorIndex := 28, attributes := #[] }, { accessFlags := 9, nameIndex := 67, descriptorIndex := 68, attributes := #[] }, { accessFlags := 1, nameIndex := 15, descriptorIndex := 69, attributes := #[] }, { accessFlags := 1, nameIndex := 19, descriptorIndex := 69, attributes := #[] }, { accessFlags := 1, nameIndex := 22, descriptorIndex := 69, attributes := #[] }, { accessFlags := 1, nameIndex := 25, descriptorIndex := 69, attributes := #[] }, { accessFlags := 1, nameIndex := 70, descriptorIndex := 71, attributes := #[] }, { accessFlags := 1, nameIndex := 73, descriptorIndex := 74, attributes := #[] }] 33 2 #[] #[{ accessFlags := 18, nameIndex := 11, descriptorIndex := 12, attributes := #[] }, { accessFlags := 18, nameIndex := 15, descriptorIndex := 16, attributes := #[] }, { accessFlags := 18, nameIndex := 19, descriptorIndex := 16, attributes := #[] }, { accessFlags := 18, nameIndex := 22, descriptorIndex := 16, attributes := #[] }, { accessFlags := 18, nameIndex := 25, descriptorIndex := 16, attributes := #[] }])
  fields := #[{ name := "ifStored", type := (.object "com/example/known_origins/knownorigins/store/IfStored"), accessFlags := 18, slot := 0, constantValue := 0 }, { name := "graphs", type := .long, accessFlags := 18, slot := 1, constantValue := 0 }, { name := "triples", type := .long, accessFlags := 18, slot := 2, constantValue := 0 }, { name := "skipped", type := .long, accessFlags := 18, slot := 3, constantValue := 0 }, { name := "derived", type := .long, accessFlags := 18, slot := 4, constantValue := 0 }]
  methods := #[k7m0, k7m1, k7m2, k7m3, k7m4, k7m5, k7m6, k7m7]
  instanceTypes := #[(.object "com/example/known_origins/knownorigins/store/IfStored"), .long, .long, .long, .long]
  staticTypes := #[]
  resolved := Array.replicate 79 none
  statics := none }

def pool8 : Array CpInfo := pool [(2, .class_ 4), (1, u "java/lang/CharSequence"), (42, .class_ 48), (0, u "java/lang/CharSequence$1CodePointIterator"), (10, .class_ 60), (0, u "java/lang/CharSequence$1CharIterator"), (5, .class_ 67), (0, u "java/lang/Object")] 63

/-- java/lang/CharSequence -/
def k8 : Class := { plain "java/lang/CharSequence" (some 0) with
  accessFlags := 1537
  interfaces := #[]
  cf := some (fileOf pool8 2 #[.nestMembers #[47, 59]] #[] 1537 66 #[] #[])
  fields := #[]
  methods := #[]
  instanceTypes := #[]
  staticTypes := #[]
  resolved := Array.replicate 131 none
  statics := none }

def pool9 : Array CpInfo := pool [(1, .class_ 2), (0, u "java/lang/constant/ConstantDesc"), (0, .class_ 4), (0, u "java/lang/Object")] 32

/-- java/lang/constant/ConstantDesc -/
def k9 : Class := { plain "java/lang/constant/ConstantDesc" (some 0) with
  accessFlags := 1537
  interfaces := #[]
  cf := some (fileOf pool9 1 #[] #[] 1537 3 #[] #[])
  fields := #[]
  methods := #[]
  instanceTypes := #[]
  staticTypes := #[]
  resolved := Array.replicate 37 none
  statics := none }

def pool10 : Array CpInfo := pool [(1, .methodref 2 3), (0, .class_ 4), (0, .nameAndType 5 6), (0, u "java/lang/Object"), (0, u "<init>"), (0, u "()V"), (2, .fieldref 10 11), (0, .class_ 12), (0, .nameAndType 13 14), (0, u "java/lang/String"), (0, u "value"), (0, u "[B"), (0, .fieldref 10 16), (0, .nameAndType 17 18), (0, u "coder"), (0, u "B"), (2, u "hash"), (0, u "I"), (2, u "hashIsZero"), (0, u "Z"), (11, .fieldref 10 39), (0, .nameAndType 40 26), (0, u "COMPACT_STRINGS"), (13, .methodref 55 56), (0, .class_ 57), (0, .nameAndType 58 59), (0, u "java/util/Arrays"), (0, u "copyOfRange"), (0, u "([BII)[B"), (47, .class_ 109), (1, u "java/lang/StringLatin1"), (32, u "()Z"), (50, .class_ 195), (1, u "java/lang/System"), (16, .methodref 193 213), (0, .nameAndType 214 215), (0, u "arraycopy"), (0, u "(Ljava/lang/Object;ILjava/lang/Object;II)V"), (118, u "()I"), (0, .methodref 10 336), (0, .nameAndType 17 337), (0, u "()B"), (2, u "()[B"), (148, .methodref 10 490), (0, .nameAndType 5 491), (0, u "(Ljava/lang/AbstractStringBuilder;Ljava/lang/Void;)V"), (1, .nameAndType 494 142), (0, u "isLatin1"), (11, .nameAndType 507 334), (0, u "length"), (24, u "getBytes"), (8, .methodref 107 542), (0, .nameAndType 543 544), (0, u "equals"), (0, u "([B[B)Z"), (4, .methodref 550 506), (0, .class_ 551), (0, u "java/lang/AbstractStringBuilder"), (0, .methodref 550 553), (0, .nameAndType 554 340), (0, u "getValue"), (18, u "(Ljava/lang/Object;)Z"), (1, .class_ 576), (0, u "java/lang/CharSequence"), (22, u "CASE_INSENSITIVE_ORDER"), (0, u "Ljava/util/Comparator;"), (220, u "([BIB)V"), (225, .methodref 550 493), (53, u "serialPersistentFields"), (0, u "[Ljava/io/ObjectStreamField;"), (0, .class_ 1104), (0, u "java/lang/String$CaseInsensitiveComparator"), (1, .class_ 1107), (0, u "java/io/Serializable"), (0, .class_ 1109), (0, u "java/lang/Comparable"), (0, .class_ 1111), (0, u "java/lang/constant/Constable"), (0, .class_ 1113), (0, u "java/lang/constant/ConstantDesc"), (2, u "serialVersionUID"), (0, u "J"), (3, u "REPL"), (0, u "C"), (2, u "LATIN1"), (1, u "UTF16"), (105, u "(Ljava/lang/StringBuilder;)V")] 217

def k10m0 : Method := { name := "<init>", desc := "()V", sig := { parameters := [], returnType := none }, accessFlags := 1, code := none }
def k10c1 : Code := { maxStack := 3, maxLocals := 2, code := jdk_42_method_53_code, exceptionTable := #[], attributes := #[] }
def k10m1 : Method := { name := "<init>", desc := "(Ljava/lang/StringBuilder;)V", sig := { parameters := [(.object "java/lang/StringBuilder")], returnType := none }, accessFlags := 1, code := some k10c1 }
def k10c2 : Code := { maxStack := 2, maxLocals := 1, code := jdk_42_method_54_code, exceptionTable := #[], attributes := #[] }
def k10m2 : Method := { name := "length", desc := "()I", sig := { parameters := [], returnType := some .int }, accessFlags := 1, code := some k10c2 }
def k10c3 : Code := { maxStack := 2, maxLocals := 3, code := jdk_42_method_66_code, exceptionTable := #[], attributes := #[] }
def k10m3 : Method := { name := "equals", desc := "(Ljava/lang/Object;)Z", sig := { parameters := [(.object "java/lang/Object")], returnType := some .boolean }, accessFlags := 1, code := some k10c3 }
def k10c4 : Code := { maxStack := 5, maxLocals := 4, code := jdk_42_method_147_code, exceptionTable := #[], attributes := #[] }
def k10m4 : Method := { name := "getBytes", desc := "([BIB)V", sig := { parameters := [(.array .byte), .int, .byte], returnType := none }, accessFlags := 0, code := some k10c4 }
def k10c5 : Code := { maxStack := 5, maxLocals := 5, code := jdk_42_method_150_code, exceptionTable := #[], attributes := #[] }
def k10m5 : Method := { name := "<init>", desc := "(Ljava/lang/AbstractStringBuilder;Ljava/lang/Void;)V", sig := { parameters := [(.object "java/lang/AbstractStringBuilder"), (.object "java/lang/Void")], returnType := none }, accessFlags := 0, code := some k10c5 }
def k10c6 : Code := { maxStack := 1, maxLocals := 1, code := jdk_42_method_152_code, exceptionTable := #[], attributes := #[] }
def k10m6 : Method := { name := "coder", desc := "()B", sig := { parameters := [], returnType := some .byte }, accessFlags := 0, code := some k10c6 }
/-- java/lang/String -/
def k10 : Class := { plain "java/lang/String" (some 0) with
  accessFlags := 49
  interfaces := #[4, 3, 8, 2, 9]
  cf := some (fileOf pool10 10 #[.nestMembers #[1103]] #[{ accessFlags := 1, nameIndex := 5, descriptorIndex := 6, attributes := #[] }, { accessFlags := 1, nameIndex := 5, descriptorIndex := 1233, attributes := #[] }, { accessFlags := 1, nameIndex := 507, descriptorIndex := 334, attributes := #[] }, { accessFlags := 1, nameIndex := 543, descriptorIndex := 573, attributes := #[] }, { accessFlags := 0, nameIndex := 532, descriptorIndex := 821, attributes := #[] }, { accessFlags := 0, nameIndex := 5, descriptorIndex := 491, attributes := #[] }, { accessFlags := 0, nameIndex := 17, descriptorIndex := 337, attributes := #[] }] 49 2 #[1106, 1108, 575, 1110, 1112] #[{ accessFlags := 18, nameIndex := 13, descriptorIndex := 14, attributes := #[] }, { accessFlags := 18, nameIndex := 17, descriptorIndex := 18, attributes := #[] }, { accessFlags := 2, nameIndex := 21, descriptorIndex := 22, attributes := #[] }, { accessFlags := 2, nameIndex := 25, descriptorIndex := 26, attributes := #[] }, { accessFlags := 26, nameIndex := 1116, descriptorIndex := 1117, attributes := #[] }, { accessFlags := 24, nameIndex := 40, descriptorIndex := 26, attributes := #[] }, { accessFlags := 26, nameIndex := 1101, descriptorIndex := 1102, attributes := #[] }, { accessFlags := 26, nameIndex := 1121, descriptorIndex := 1122, attributes := #[] }, { accessFlags := 25, nameIndex := 599, descriptorIndex := 600, attributes := #[] }, { accessFlags := 24, nameIndex := 1125, descriptorIndex := 18, attributes := #[] }, { accessFlags := 24, nameIndex := 1127, descriptorIndex := 18, attributes := #[] }])
  fields := #[{ name := "value", type := (.array .byte), accessFlags := 18, slot := 0, constantValue := 0 }, { name := "coder", type := .byte, accessFlags := 18, slot := 1, constantValue := 0 }, { name := "hash", type := .int, accessFlags := 2, slot := 2, constantValue := 0 }, { name := "hashIsZero", type := .boolean, accessFlags := 2, slot := 3, constantValue := 0 }, { name := "serialVersionUID", type := .long, accessFlags := 26, slot := 0, constantValue := 0 }, { name := "COMPACT_STRINGS", type := .boolean, accessFlags := 24, slot := 1, constantValue := 0 }, { name := "serialPersistentFields", type := (.array (.object "java/io/ObjectStreamField")), accessFlags := 26, slot := 2, constantValue := 0 }, { name := "REPL", type := .char, accessFlags := 26, slot := 3, constantValue := 0 }, { name := "CASE_INSENSITIVE_ORDER", type := (.object "java/util/Comparator"), accessFlags := 25, slot := 4, constantValue := 0 }, { name := "LATIN1", type := .byte, accessFlags := 24, slot := 5, constantValue := 0 }, { name := "UTF16", type := .byte, accessFlags := 24, slot := 6, constantValue := 0 }]
  methods := #[k10m0, k10m1, k10m2, k10m3, k10m4, k10m5, k10m6]
  instanceTypes := #[(.array .byte), .byte, .int, .boolean]
  staticTypes := #[.long, .boolean, (.array (.object "java/io/ObjectStreamField")), .char, (.object "java/util/Comparator"), .byte, .byte]
  resolved := Array.replicate 1451 none
  statics := some 1 }

def pool11 : Array CpInfo := pool [(1, .class_ 2), (0, u "java/lang/Appendable"), (0, .class_ 4), (0, u "java/lang/Object")] 9

/-- java/lang/Appendable -/
def k11 : Class := { plain "java/lang/Appendable" (some 0) with
  accessFlags := 1537
  interfaces := #[]
  cf := some (fileOf pool11 1 #[] #[] 1537 3 #[] #[])
  fields := #[]
  methods := #[]
  instanceTypes := #[]
  staticTypes := #[]
  resolved := Array.replicate 14 none
  statics := none }

def pool12 : Array CpInfo := pool [(1, .class_ 2), (0, u "java/lang/String"), (0, .methodref 4 5), (0, .class_ 6), (0, .nameAndType 7 8), (0, u "java/lang/Object"), (0, u "<init>"), (0, u "()V"), (1, .class_ 12), (1, u "java/lang/AbstractStringBuilder"), (0, u "EMPTYVALUE"), (0, u "[B"), (0, .fieldref 10 16), (0, .nameAndType 17 14), (0, u "value"), (0, .fieldref 1 19), (0, .nameAndType 20 21), (0, u "COMPACT_STRINGS"), (0, u "Z"), (0, .fieldref 10 23), (0, .nameAndType 24 25), (0, u "coder"), (0, u "B"), (6, .methodref 1 33), (0, .nameAndType 34 35), (0, u "length"), (0, u "()I"), (3, .integer 2147483647), (0, .methodref 1 41), (0, .nameAndType 24 42), (0, u "()B"), (2, u "append"), (0, u "(Ljava/lang/String;)Ljava/lang/AbstractStringBuilder;"), (1, .class_ 49), (0, u "java/lang/CharSequence"), (19, u "(Ljava/lang/String;)V"), (5, u "maybeLatin1"), (3, .fieldref 10 80), (0, .nameAndType 81 82), (0, u "count"), (0, u "I"), (0, .methodref 10 84), (0, .nameAndType 85 86), (0, u "isLatin1"), (0, u "()Z"), (13, .methodref 10 101), (0, .nameAndType 102 103), (0, u "ensureCapacityInternal"), (0, u "(I)V"), (0, .methodref 10 105), (0, .nameAndType 106 107), (0, u "newCapacity"), (0, u "(I)I"), (0, .methodref 109 110), (0, .class_ 111), (0, .nameAndType 112 113), (0, u "java/util/Arrays"), (0, u "copyOf"), (0, u "([BI)[B"), (0, .methodref 115 116), (0, .class_ 117), (0, .nameAndType 118 119), (0, u "jdk/internal/util/ArraysSupport"), (0, u "newLength"), (0, u "(III)I"), (68, u "getChars"), (19, .methodref 10 209), (0, .nameAndType 210 211), (0, u "putStringAt"), (0, u "(ILjava/lang/String;)V"), (5, u "inflateIfNeededFor"), (2, .nameAndType 221 222), (0, u "getBytes"), (0, u "([BIB)V"), (24, u "stringSize"), (6, .methodref 255 256), (0, .class_ 257), (0, .nameAndType 247 258), (0, u "java/lang/Long"), (0, u "(J)I"), (0, .methodref 255 260), (0, .nameAndType 188 261), (0, u "(JI[B)I"), (135, .methodref 10 398), (0, .nameAndType 217 69), (0, .methodref 1 220), (3, u "()[B"), (40, .class_ 445), (0, u "java/lang/Appendable"), (67, u "(J)Ljava/lang/AbstractStringBuilder;"), (38, u "getValue")] 56

def k12m0 : Method := { name := "<init>", desc := "()V", sig := { parameters := [], returnType := none }, accessFlags := 0, code := none }
def k12c1 : Code := { maxStack := 2, maxLocals := 2, code := jdk_68_method_2_code, exceptionTable := #[], attributes := #[] }
def k12m1 : Method := { name := "<init>", desc := "(I)V", sig := { parameters := [.int], returnType := none }, accessFlags := 0, code := some k12c1 }
def k12c2 : Code := { maxStack := 1, maxLocals := 1, code := jdk_68_method_6_code, exceptionTable := #[], attributes := #[] }
def k12m2 : Method := { name := "length", desc := "()I", sig := { parameters := [], returnType := some .int }, accessFlags := 1, code := some k12c2 }
def k12c3 : Code := { maxStack := 4, maxLocals := 3, code := jdk_68_method_9_code, exceptionTable := #[], attributes := #[] }
def k12m3 : Method := { name := "ensureCapacityInternal", desc := "(I)V", sig := { parameters := [.int], returnType := none }, accessFlags := 2, code := some k12c3 }
def k12c4 : Code := { maxStack := 5, maxLocals := 6, code := jdk_68_method_10_code, exceptionTable := #[], attributes := #[] }
def k12m4 : Method := { name := "newCapacity", desc := "(I)I", sig := { parameters := [.int], returnType := some .int }, accessFlags := 2, code := some k12c4 }
def k12c5 : Code := { maxStack := 3, maxLocals := 3, code := jdk_68_method_22_code, exceptionTable := #[], attributes := #[] }
def k12m5 : Method := { name := "append", desc := "(Ljava/lang/String;)Ljava/lang/AbstractStringBuilder;", sig := { parameters := [(.object "java/lang/String")], returnType := some (.object "java/lang/AbstractStringBuilder") }, accessFlags := 1, code := some k12c5 }
def k12c6 : Code := { maxStack := 5, maxLocals := 5, code := jdk_68_method_33_code, exceptionTable := #[], attributes := #[] }
def k12m6 : Method := { name := "append", desc := "(J)Ljava/lang/AbstractStringBuilder;", sig := { parameters := [.long], returnType := some (.object "java/lang/AbstractStringBuilder") }, accessFlags := 1, code := some k12c6 }
def k12c7 : Code := { maxStack := 1, maxLocals := 1, code := jdk_68_method_64_code, exceptionTable := #[], attributes := #[] }
def k12m7 : Method := { name := "getValue", desc := "()[B", sig := { parameters := [], returnType := some (.array .byte) }, accessFlags := 16, code := some k12c7 }
def k12c8 : Code := { maxStack := 1, maxLocals := 1, code := jdk_68_method_68_code, exceptionTable := #[], attributes := #[] }
def k12m8 : Method := { name := "isLatin1", desc := "()Z", sig := { parameters := [], returnType := some .boolean }, accessFlags := 16, code := some k12c8 }
def k12c9 : Code := { maxStack := 2, maxLocals := 2, code := jdk_68_method_71_code, exceptionTable := #[], attributes := #[] }
def k12m9 : Method := { name := "inflateIfNeededFor", desc := "(Ljava/lang/String;)V", sig := { parameters := [(.object "java/lang/String")], returnType := none }, accessFlags := 2, code := some k12c9 }
def k12c10 : Code := { maxStack := 4, maxLocals := 3, code := jdk_68_method_73_code, exceptionTable := #[], attributes := #[] }
def k12m10 : Method := { name := "putStringAt", desc := "(ILjava/lang/String;)V", sig := { parameters := [.int, (.object "java/lang/String")], returnType := none }, accessFlags := 2, code := some k12c10 }
/-- java/lang/AbstractStringBuilder -/
def k12 : Class := { plain "java/lang/AbstractStringBuilder" (some 0) with
  accessFlags := 1056
  interfaces := #[11, 8]
  cf := some (fileOf pool12 10 #[] #[{ accessFlags := 0, nameIndex := 7, descriptorIndex := 8, attributes := #[] }, { accessFlags := 0, nameIndex := 7, descriptorIndex := 103, attributes := #[] }, { accessFlags := 1, nameIndex := 34, descriptorIndex := 35, attributes := #[] }, { accessFlags := 2, nameIndex := 102, descriptorIndex := 103, attributes := #[] }, { accessFlags := 2, nameIndex := 106, descriptorIndex := 107, attributes := #[] }, { accessFlags := 1, nameIndex := 45, descriptorIndex := 46, attributes := #[] }, { accessFlags := 1, nameIndex := 45, descriptorIndex := 513, attributes := #[] }, { accessFlags := 16, nameIndex := 552, descriptorIndex := 403, attributes := #[] }, { accessFlags := 16, nameIndex := 85, descriptorIndex := 86, attributes := #[] }, { accessFlags := 2, nameIndex := 217, descriptorIndex := 69, attributes := #[] }, { accessFlags := 2, nameIndex := 210, descriptorIndex := 211, attributes := #[] }] 1056 4 #[444, 48] #[{ accessFlags := 0, nameIndex := 17, descriptorIndex := 14, attributes := #[] }, { accessFlags := 0, nameIndex := 24, descriptorIndex := 25, attributes := #[] }, { accessFlags := 0, nameIndex := 75, descriptorIndex := 21, attributes := #[] }, { accessFlags := 0, nameIndex := 81, descriptorIndex := 82, attributes := #[] }, { accessFlags := 26, nameIndex := 13, descriptorIndex := 14, attributes := #[] }])
  fields := #[{ name := "value", type := (.array .byte), accessFlags := 0, slot := 0, constantValue := 0 }, { name := "coder", type := .byte, accessFlags := 0, slot := 1, constantValue := 0 }, { name := "maybeLatin1", type := .boolean, accessFlags := 0, slot := 2, constantValue := 0 }, { name := "count", type := .int, accessFlags := 0, slot := 3, constantValue := 0 }, { name := "EMPTYVALUE", type := (.array .byte), accessFlags := 26, slot := 0, constantValue := 0 }]
  methods := #[k12m0, k12m1, k12m2, k12m3, k12m4, k12m5, k12m6, k12m7, k12m8, k12m9, k12m10]
  instanceTypes := #[(.array .byte), .byte, .boolean, .int]
  staticTypes := #[(.array .byte)]
  resolved := Array.replicate 609 none
  statics := none }

def pool13 : Array CpInfo := pool [(1, .methodref 2 3), (0, .class_ 4), (0, .nameAndType 5 6), (0, u "java/lang/AbstractStringBuilder"), (0, u "<init>"), (0, u "(I)V"), (11, .class_ 20), (1, u "java/lang/String"), (3, .class_ 26), (1, u "java/lang/StringBuilder"), (0, u "append"), (0, u "(Ljava/lang/String;)Ljava/lang/StringBuilder;"), (0, .methodref 2 30), (0, .nameAndType 27 31), (0, u "(Ljava/lang/String;)Ljava/lang/AbstractStringBuilder;"), (24, .methodref 2 57), (0, .nameAndType 27 58), (0, u "(J)Ljava/lang/AbstractStringBuilder;"), (78, .methodref 18 138), (0, .nameAndType 5 139), (0, u "(Ljava/lang/StringBuilder;)V"), (5, u "()V"), (10, u "()I"), (124, u "(J)Ljava/lang/StringBuilder;"), (61, .methodref 2 344), (0, .nameAndType 345 156), (0, u "length"), (3, .class_ 350), (0, u "java/lang/Appendable"), (0, .class_ 352), (0, u "java/io/Serializable"), (0, .class_ 354), (0, u "java/lang/Comparable"), (0, .class_ 356), (0, u "java/lang/CharSequence"), (0, u "serialVersionUID"), (0, u "J"), (40, u "toString"), (0, u "()Ljava/lang/String;")] 21

def k13c0 : Code := { maxStack := 2, maxLocals := 1, code := jdk_67_method_1_code, exceptionTable := #[], attributes := #[] }
def k13m0 : Method := { name := "<init>", desc := "()V", sig := { parameters := [], returnType := none }, accessFlags := 1, code := some k13c0 }
def k13c1 : Code := { maxStack := 2, maxLocals := 2, code := jdk_67_method_7_code, exceptionTable := #[], attributes := #[] }
def k13m1 : Method := { name := "append", desc := "(Ljava/lang/String;)Ljava/lang/StringBuilder;", sig := { parameters := [(.object "java/lang/String")], returnType := some (.object "java/lang/StringBuilder") }, accessFlags := 1, code := some k13c1 }
def k13c2 : Code := { maxStack := 3, maxLocals := 3, code := jdk_67_method_16_code, exceptionTable := #[], attributes := #[] }
def k13m2 : Method := { name := "append", desc := "(J)Ljava/lang/StringBuilder;", sig := { parameters := [.long], returnType := some (.object "java/lang/StringBuilder") }, accessFlags := 1, code := some k13c2 }
def k13c3 : Code := { maxStack := 3, maxLocals := 1, code := jdk_67_method_42_code, exceptionTable := #[], attributes := #[] }
def k13m3 : Method := { name := "toString", desc := "()Ljava/lang/String;", sig := { parameters := [], returnType := some (.object "java/lang/String") }, accessFlags := 1, code := some k13c3 }
def k13c4 : Code := { maxStack := 1, maxLocals := 1, code := jdk_67_method_93_code, exceptionTable := #[], attributes := #[] }
def k13m4 : Method := { name := "length", desc := "()I", sig := { parameters := [], returnType := some .int }, accessFlags := 4161, code := some k13c4 }
/-- java/lang/StringBuilder -/
def k13 : Class := { plain "java/lang/StringBuilder" (some 12) with
  accessFlags := 49
  interfaces := #[11, 4, 3, 8]
  cf := some (fileOf pool13 24 #[] #[{ accessFlags := 1, nameIndex := 5, descriptorIndex := 145, attributes := #[] }, { accessFlags := 1, nameIndex := 27, descriptorIndex := 28, attributes := #[] }, { accessFlags := 1, nameIndex := 27, descriptorIndex := 281, attributes := #[] }, { accessFlags := 1, nameIndex := 399, descriptorIndex := 400, attributes := #[] }, { accessFlags := 4161, nameIndex := 345, descriptorIndex := 156, attributes := #[] }] 49 2 #[349, 351, 353, 355] #[{ accessFlags := 24, nameIndex := 357, descriptorIndex := 358, attributes := #[] }])
  fields := #[{ name := "serialVersionUID", type := .long, accessFlags := 24, slot := 0, constantValue := 0 }]
  methods := #[k13m0, k13m1, k13m2, k13m3, k13m4]
  instanceTypes := #[(.array .byte), .byte, .boolean, .int]
  staticTypes := #[.long]
  resolved := Array.replicate 422 none
  statics := none }

def pool14 : Array CpInfo := pool [(2, .class_ 4), (1, u "java/lang/Object"), (0, u "<init>"), (0, u "()V"), (1, .class_ 10), (1, u "java/lang/System"), (0, u "allowSecurityManager"), (0, u "I"), (16, u "cons"), (0, u "Ljava/io/Console;"), (77, .class_ 110), (1, u "java/lang/System$CallersHolder"), (43, u "initialErrStream"), (0, u "Ljava/io/PrintStream;"), (19, u "security"), (0, u "Ljava/lang/SecurityManager;"), (31, .class_ 209), (0, u "java/lang/System$1"), (7, u "props"), (0, u "Ljava/util/Properties;"), (2, u "lineSeparator"), (0, u "Ljava/lang/String;"), (96, .class_ 321), (1, u "java/lang/System$LoggerFinder"), (5, .class_ 328), (0, u "java/lang/System$Logger"), (67, u "err"), (2, u "out"), (91, u "notSupportedJnuEncoding"), (15, u "in"), (17, u "initialIn"), (0, u "Ljava/io/InputStream;"), (35, u "bootLayer"), (0, u "Ljava/lang/ModuleLayer;"), (99, .class_ 664), (0, u "java/lang/System$2"), (9, u "NEVER"), (2, u "MAYBE"), (49, u "arraycopy"), (0, u "(Ljava/lang/Object;ILjava/lang/Object;II)V"), (72, .class_ 802), (0, u "java/lang/System$Logger$Level")] 31

def k14m0 : Method := { name := "<init>", desc := "()V", sig := { parameters := [], returnType := none }, accessFlags := 2, code := none }
def k14m1 : Method := { name := "arraycopy", desc := "(Ljava/lang/Object;ILjava/lang/Object;II)V", sig := { parameters := [(.object "java/lang/Object"), .int, (.object "java/lang/Object"), .int, .int], returnType := none }, accessFlags := 265, code := none }
/-- java/lang/System -/
def k14 : Class := { plain "java/lang/System" (some 0) with
  accessFlags := 49
  interfaces := #[]
  cf := some (fileOf pool14 8 #[.nestMembers #[319, 327, 801, 108, 663, 208]] #[{ accessFlags := 2, nameIndex := 5, descriptorIndex := 6, attributes := #[] }, { accessFlags := 265, nameIndex := 727, descriptorIndex := 728, attributes := #[] }] 49 2 #[] #[{ accessFlags := 25, nameIndex := 507, descriptorIndex := 526, attributes := #[] }, { accessFlags := 25, nameIndex := 399, descriptorIndex := 155, attributes := #[] }, { accessFlags := 25, nameIndex := 396, descriptorIndex := 155, attributes := #[] }, { accessFlags := 10, nameIndex := 525, descriptorIndex := 526, attributes := #[] }, { accessFlags := 26, nameIndex := 674, descriptorIndex := 12, attributes := #[] }, { accessFlags := 26, nameIndex := 677, descriptorIndex := 12, attributes := #[] }, { accessFlags := 10, nameIndex := 11, descriptorIndex := 12, attributes := #[] }, { accessFlags := 74, nameIndex := 175, descriptorIndex := 176, attributes := #[] }, { accessFlags := 10, nameIndex := 491, descriptorIndex := 222, attributes := #[] }, { accessFlags := 74, nameIndex := 29, descriptorIndex := 30, attributes := #[] }, { accessFlags := 74, nameIndex := 154, descriptorIndex := 155, attributes := #[] }, { accessFlags := 10, nameIndex := 217, descriptorIndex := 218, attributes := #[] }, { accessFlags := 10, nameIndex := 221, descriptorIndex := 222, attributes := #[] }, { accessFlags := 8, nameIndex := 562, descriptorIndex := 563, attributes := #[] }])
  fields := #[{ name := "in", type := (.object "java/io/InputStream"), accessFlags := 25, slot := 0, constantValue := 0 }, { name := "out", type := (.object "java/io/PrintStream"), accessFlags := 25, slot := 1, constantValue := 0 }, { name := "err", type := (.object "java/io/PrintStream"), accessFlags := 25, slot := 2, constantValue := 0 }, { name := "initialIn", type := (.object "java/io/InputStream"), accessFlags := 10, slot := 3, constantValue := 0 }, { name := "NEVER", type := .int, accessFlags := 26, slot := 4, constantValue := 0 }, { name := "MAYBE", type := .int, accessFlags := 26, slot := 5, constantValue := 0 }, { name := "allowSecurityManager", type := .int, accessFlags := 10, slot := 6, constantValue := 0 }, { name := "security", type := (.object "java/lang/SecurityManager"), accessFlags := 74, slot := 7, constantValue := 0 }, { name := "notSupportedJnuEncoding", type := (.object "java/lang/String"), accessFlags := 10, slot := 8, constantValue := 0 }, { name := "cons", type := (.object "java/io/Console"), accessFlags := 74, slot := 9, constantValue := 0 }, { name := "initialErrStream", type := (.object "java/io/PrintStream"), accessFlags := 74, slot := 10, constantValue := 0 }, { name := "props", type := (.object "java/util/Properties"), accessFlags := 10, slot := 11, constantValue := 0 }, { name := "lineSeparator", type := (.object "java/lang/String"), accessFlags := 10, slot := 12, constantValue := 0 }, { name := "bootLayer", type := (.object "java/lang/ModuleLayer"), accessFlags := 8, slot := 13, constantValue := 0 }]
  methods := #[k14m0, k14m1]
  instanceTypes := #[]
  staticTypes := #[(.object "java/io/InputStream"), (.object "java/io/PrintStream"), (.object "java/io/PrintStream"), (.object "java/io/InputStream"), .int, .int, .int, (.object "java/lang/SecurityManager"), (.object "java/lang/String"), (.object "java/io/Console"), (.object "java/io/PrintStream"), (.object "java/util/Properties"), (.object "java/lang/String"), (.object "java/lang/ModuleLayer")]
  resolved := Array.replicate 834 none
  statics := none }

def pool15 : Array CpInfo := pool [(2, .class_ 4), (1, u "java/lang/Object"), (0, u "<init>"), (0, u "()V"), (1, .class_ 10), (1, u "java/lang/Number"), (2, .class_ 14), (0, u "java/io/Serializable"), (0, u "serialVersionUID"), (0, u "J")] 20

def k15m0 : Method := { name := "<init>", desc := "()V", sig := { parameters := [], returnType := none }, accessFlags := 1, code := none }
/-- java/lang/Number -/
def k15 : Class := { plain "java/lang/Number" (some 0) with
  accessFlags := 1057
  interfaces := #[4]
  cf := some (fileOf pool15 8 #[] #[{ accessFlags := 1, nameIndex := 5, descriptorIndex := 6, attributes := #[] }] 1057 2 #[13] #[{ accessFlags := 26, nameIndex := 15, descriptorIndex := 16, attributes := #[] }])
  fields := #[{ name := "serialVersionUID", type := .long, accessFlags := 26, slot := 0, constantValue := 0 }]
  methods := #[k15m0]
  instanceTypes := #[]
  staticTypes := #[.long]
  resolved := Array.replicate 37 none
  statics := none }

def pool16 : Array CpInfo := pool [(1, .class_ 2), (0, u "java/lang/Long"), (15, .class_ 20), (1, u "java/lang/Integer"), (80, u "(J)I"), (18, u "stringSize"), (2, u "getChars"), (0, u "(JI[B)I"), (4, .long 18446744071562067968), (3, .fieldref 18 134), (0, .nameAndType 135 136), (0, u "DigitOnes"), (0, u "[B"), (3, .long 18446744073709551606), (94, .class_ 237), (1, u "java/lang/Long$LongCache"), (33, .class_ 272), (0, u "java/lang/Number"), (2, u "value"), (0, u "J"), (84, u "TYPE"), (0, u "Ljava/lang/Class;"), (0, .class_ 364), (0, u "java/lang/Comparable"), (0, .class_ 366), (0, u "java/lang/constant/Constable"), (0, .class_ 368), (0, u "java/lang/constant/ConstantDesc"), (0, u "MIN_VALUE"), (1, u "MAX_VALUE"), (4, u "SIZE"), (0, u "I"), (1, u "BYTES"), (1, u "serialVersionUID")] 142

def k16c0 : Code := { maxStack := 4, maxLocals := 11, code := jdk_35_method_14_code, exceptionTable := #[], attributes := #[] }
def k16m0 : Method := { name := "getChars", desc := "(JI[B)I", sig := { parameters := [.long, .int, (.array .byte)], returnType := some .int }, accessFlags := 8, code := some k16c0 }
def k16c1 : Code := { maxStack := 4, maxLocals := 6, code := jdk_35_method_15_code, exceptionTable := #[], attributes := #[] }
def k16m1 : Method := { name := "stringSize", desc := "(J)I", sig := { parameters := [.long], returnType := some .int }, accessFlags := 8, code := some k16c1 }
/-- java/lang/Long -/
def k16 : Class := { plain "java/lang/Long" (some 15) with
  accessFlags := 49
  interfaces := #[3, 2, 9]
  cf := some (fileOf pool16 1 #[.nestMembers #[235]] #[{ accessFlags := 8, nameIndex := 123, descriptorIndex := 124, attributes := #[] }, { accessFlags := 8, nameIndex := 120, descriptorIndex := 101, attributes := #[] }] 49 271 #[363, 365, 367] #[{ accessFlags := 25, nameIndex := 369, descriptorIndex := 276, attributes := #[] }, { accessFlags := 25, nameIndex := 371, descriptorIndex := 276, attributes := #[] }, { accessFlags := 25, nameIndex := 361, descriptorIndex := 362, attributes := #[] }, { accessFlags := 18, nameIndex := 275, descriptorIndex := 276, attributes := #[] }, { accessFlags := 25, nameIndex := 376, descriptorIndex := 377, attributes := #[] }, { accessFlags := 25, nameIndex := 379, descriptorIndex := 377, attributes := #[] }, { accessFlags := 26, nameIndex := 381, descriptorIndex := 276, attributes := #[] }])
  fields := #[{ name := "MIN_VALUE", type := .long, accessFlags := 25, slot := 0, constantValue := 0 }, { name := "MAX_VALUE", type := .long, accessFlags := 25, slot := 1, constantValue := 0 }, { name := "TYPE", type := (.object "java/lang/Class"), accessFlags := 25, slot := 2, constantValue := 0 }, { name := "value", type := .long, accessFlags := 18, slot := 0, constantValue := 0 }, { name := "SIZE", type := .int, accessFlags := 25, slot := 3, constantValue := 0 }, { name := "BYTES", type := .int, accessFlags := 25, slot := 4, constantValue := 0 }, { name := "serialVersionUID", type := .long, accessFlags := 26, slot := 5, constantValue := 0 }]
  methods := #[k16m0, k16m1]
  instanceTypes := #[.long]
  staticTypes := #[.long, .long, (.object "java/lang/Class"), .int, .int, .long]
  resolved := Array.replicate 524 none
  statics := none }

def pool17 : Array CpInfo := pool [(1, .class_ 2), (0, u "java/lang/Integer"), (16, u "digits"), (0, u "[C"), (64, u "DigitOnes"), (0, u "[B"), (2, u "DigitTens"), (99, .class_ 190), (0, u "java/lang/Integer$IntegerCache"), (3, u "I"), (8, .class_ 204), (0, u "java/lang/Number"), (2, u "value"), (94, u "TYPE"), (0, u "Ljava/lang/Class;"), (0, .class_ 305), (0, u "java/lang/Comparable"), (0, .class_ 307), (0, u "java/lang/constant/Constable"), (0, .class_ 309), (0, u "java/lang/constant/ConstantDesc"), (0, u "MIN_VALUE"), (1, u "MAX_VALUE"), (3, u "SIZE"), (1, u "BYTES"), (1, u "serialVersionUID"), (0, u "J")] 131

/-- java/lang/Integer -/
def k17 : Class := { plain "java/lang/Integer" (some 15) with
  accessFlags := 49
  interfaces := #[3, 2, 9]
  cf := some (fileOf pool17 1 #[.nestMembers #[189]] #[] 49 203 #[304, 306, 308] #[{ accessFlags := 25, nameIndex := 310, descriptorIndex := 194, attributes := #[] }, { accessFlags := 25, nameIndex := 312, descriptorIndex := 194, attributes := #[] }, { accessFlags := 25, nameIndex := 302, descriptorIndex := 303, attributes := #[] }, { accessFlags := 24, nameIndex := 19, descriptorIndex := 20, attributes := #[] }, { accessFlags := 24, nameIndex := 89, descriptorIndex := 86, attributes := #[] }, { accessFlags := 24, nameIndex := 85, descriptorIndex := 86, attributes := #[] }, { accessFlags := 18, nameIndex := 207, descriptorIndex := 194, attributes := #[] }, { accessFlags := 25, nameIndex := 316, descriptorIndex := 194, attributes := #[] }, { accessFlags := 25, nameIndex := 318, descriptorIndex := 194, attributes := #[] }, { accessFlags := 26, nameIndex := 320, descriptorIndex := 321, attributes := #[] }])
  fields := #[{ name := "MIN_VALUE", type := .int, accessFlags := 25, slot := 0, constantValue := 0 }, { name := "MAX_VALUE", type := .int, accessFlags := 25, slot := 1, constantValue := 0 }, { name := "TYPE", type := (.object "java/lang/Class"), accessFlags := 25, slot := 2, constantValue := 0 }, { name := "digits", type := (.array .char), accessFlags := 24, slot := 3, constantValue := 0 }, { name := "DigitTens", type := (.array .byte), accessFlags := 24, slot := 4, constantValue := 0 }, { name := "DigitOnes", type := (.array .byte), accessFlags := 24, slot := 5, constantValue := 0 }, { name := "value", type := .int, accessFlags := 18, slot := 0, constantValue := 0 }, { name := "SIZE", type := .int, accessFlags := 25, slot := 6, constantValue := 0 }, { name := "BYTES", type := .int, accessFlags := 25, slot := 7, constantValue := 0 }, { name := "serialVersionUID", type := .long, accessFlags := 26, slot := 8, constantValue := 0 }]
  methods := #[]
  instanceTypes := #[.int]
  staticTypes := #[.int, .int, (.object "java/lang/Class"), (.array .char), (.array .byte), (.array .byte), .int, .int, .long]
  resolved := Array.replicate 453 none
  statics := some 2 }

def pool18 : Array CpInfo := pool [(9, u "<init>"), (6, .class_ 18), (1, u "java/lang/Object"), (0, u "()V"), (1, .class_ 23), (1, u "jdk/internal/util/ArraysSupport"), (0, u "LOG2_ARRAY_LONG_INDEX_SCALE"), (0, u "I"), (2, u "U"), (0, u "Ljdk/internal/misc/Unsafe;"), (8, u "BIG_ENDIAN"), (0, u "Z"), (8, u "LOG2_BYTE_BIT_SIZE"), (4, u "LOG2_ARRAY_INT_INDEX_SCALE"), (54, u "JLA"), (0, u "Ljdk/internal/access/JavaLangAccess;"), (11, u "LOG2_ARRAY_BOOLEAN_INDEX_SCALE"), (9, u "LOG2_ARRAY_BYTE_INDEX_SCALE"), (5, u "LOG2_ARRAY_CHAR_INDEX_SCALE"), (5, u "LOG2_ARRAY_SHORT_INDEX_SCALE"), (18, u "LOG2_ARRAY_FLOAT_INDEX_SCALE"), (24, u "LOG2_ARRAY_DOUBLE_INDEX_SCALE"), (6, .methodref 195 196), (0, .class_ 197), (0, .nameAndType 198 199), (0, u "java/lang/Math"), (0, u "max"), (0, u "(II)I"), (0, .integer 2147483639), (76, u "T_BOOLEAN"), (2, u "T_CHAR"), (1, u "T_FLOAT"), (1, u "T_DOUBLE"), (1, u "T_BYTE"), (1, u "T_SHORT"), (1, u "T_INT"), (1, u "T_LONG"), (1, u "SOFT_MAX_ARRAY_LENGTH"), (56, u "newLength"), (0, u "(III)I")] 25

def k18m0 : Method := { name := "<init>", desc := "()V", sig := { parameters := [], returnType := none }, accessFlags := 2, code := none }
def k18c1 : Code := { maxStack := 3, maxLocals := 4, code := jdk_48_method_27_code, exceptionTable := #[], attributes := #[] }
def k18m1 : Method := { name := "newLength", desc := "(III)I", sig := { parameters := [.int, .int, .int], returnType := some .int }, accessFlags := 9, code := some k18c1 }
/-- jdk/internal/util/ArraysSupport -/
def k18 : Class := { plain "jdk/internal/util/ArraysSupport" (some 0) with
  accessFlags := 33
  interfaces := #[]
  cf := some (fileOf pool18 21 #[] #[{ accessFlags := 2, nameIndex := 9, descriptorIndex := 19, attributes := #[] }, { accessFlags := 9, nameIndex := 351, descriptorIndex := 352, attributes := #[] }] 33 16 #[] #[{ accessFlags := 24, nameIndex := 28, descriptorIndex := 29, attributes := #[] }, { accessFlags := 26, nameIndex := 38, descriptorIndex := 39, attributes := #[] }, { accessFlags := 25, nameIndex := 121, descriptorIndex := 25, attributes := #[] }, { accessFlags := 25, nameIndex := 131, descriptorIndex := 25, attributes := #[] }, { accessFlags := 25, nameIndex := 137, descriptorIndex := 25, attributes := #[] }, { accessFlags := 25, nameIndex := 143, descriptorIndex := 25, attributes := #[] }, { accessFlags := 25, nameIndex := 53, descriptorIndex := 25, attributes := #[] }, { accessFlags := 25, nameIndex := 24, descriptorIndex := 25, attributes := #[] }, { accessFlags := 25, nameIndex := 162, descriptorIndex := 25, attributes := #[] }, { accessFlags := 25, nameIndex := 187, descriptorIndex := 25, attributes := #[] }, { accessFlags := 26, nameIndex := 48, descriptorIndex := 25, attributes := #[] }, { accessFlags := 25, nameIndex := 277, descriptorIndex := 25, attributes := #[] }, { accessFlags := 25, nameIndex := 280, descriptorIndex := 25, attributes := #[] }, { accessFlags := 25, nameIndex := 282, descriptorIndex := 25, attributes := #[] }, { accessFlags := 25, nameIndex := 284, descriptorIndex := 25, attributes := #[] }, { accessFlags := 25, nameIndex := 286, descriptorIndex := 25, attributes := #[] }, { accessFlags := 25, nameIndex := 288, descriptorIndex := 25, attributes := #[] }, { accessFlags := 25, nameIndex := 290, descriptorIndex := 25, attributes := #[] }, { accessFlags := 25, nameIndex := 292, descriptorIndex := 25, attributes := #[] }, { accessFlags := 26, nameIndex := 108, descriptorIndex := 109, attributes := #[] }, { accessFlags := 25, nameIndex := 294, descriptorIndex := 25, attributes := #[] }])
  fields := #[{ name := "U", type := (.object "jdk/internal/misc/Unsafe"), accessFlags := 24, slot := 0, constantValue := 0 }, { name := "BIG_ENDIAN", type := .boolean, accessFlags := 26, slot := 1, constantValue := 0 }, { name := "LOG2_ARRAY_BOOLEAN_INDEX_SCALE", type := .int, accessFlags := 25, slot := 2, constantValue := 0 }, { name := "LOG2_ARRAY_BYTE_INDEX_SCALE", type := .int, accessFlags := 25, slot := 3, constantValue := 0 }, { name := "LOG2_ARRAY_CHAR_INDEX_SCALE", type := .int, accessFlags := 25, slot := 4, constantValue := 0 }, { name := "LOG2_ARRAY_SHORT_INDEX_SCALE", type := .int, accessFlags := 25, slot := 5, constantValue := 0 }, { name := "LOG2_ARRAY_INT_INDEX_SCALE", type := .int, accessFlags := 25, slot := 6, constantValue := 0 }, { name := "LOG2_ARRAY_LONG_INDEX_SCALE", type := .int, accessFlags := 25, slot := 7, constantValue := 0 }, { name := "LOG2_ARRAY_FLOAT_INDEX_SCALE", type := .int, accessFlags := 25, slot := 8, constantValue := 0 }, { name := "LOG2_ARRAY_DOUBLE_INDEX_SCALE", type := .int, accessFlags := 25, slot := 9, constantValue := 0 }, { name := "LOG2_BYTE_BIT_SIZE", type := .int, accessFlags := 26, slot := 10, constantValue := 0 }, { name := "T_BOOLEAN", type := .int, accessFlags := 25, slot := 11, constantValue := 0 }, { name := "T_CHAR", type := .int, accessFlags := 25, slot := 12, constantValue := 0 }, { name := "T_FLOAT", type := .int, accessFlags := 25, slot := 13, constantValue := 0 }, { name := "T_DOUBLE", type := .int, accessFlags := 25, slot := 14, constantValue := 0 }, { name := "T_BYTE", type := .int, accessFlags := 25, slot := 15, constantValue := 0 }, { name := "T_SHORT", type := .int, accessFlags := 25, slot := 16, constantValue := 0 }, { name := "T_INT", type := .int, accessFlags := 25, slot := 17, constantValue := 0 }, { name := "T_LONG", type := .int, accessFlags := 25, slot := 18, constantValue := 0 }, { name := "JLA", type := (.object "jdk/internal/access/JavaLangAccess"), accessFlags := 26, slot := 19, constantValue := 0 }, { name := "SOFT_MAX_ARRAY_LENGTH", type := .int, accessFlags := 25, slot := 20, constantValue := 0 }]
  methods := #[k18m0, k18m1]
  instanceTypes := #[]
  staticTypes := #[(.object "jdk/internal/misc/Unsafe"), .boolean, .int, .int, .int, .int, .int, .int, .int, .int, .int, .int, .int, .int, .int, .int, .int, .int, .int, (.object "jdk/internal/access/JavaLangAccess"), .int]
  resolved := Array.replicate 378 none
  statics := none }

def pool19 : Array CpInfo := pool [(1, .class_ 2), (0, u "java/lang/Math"), (1, .class_ 6), (1, u "java/lang/Object"), (0, u "<init>"), (0, u "()V"), (89, .class_ 100), (1, u "java/lang/Math$RandomNumberGeneratorHolder"), (71, u "negativeZeroFloatBits"), (0, u "J"), (2, u "negativeZeroDoubleBits"), (21, u "max"), (2, u "min"), (43, u "$assertionsDisabled"), (0, u "Z"), (88, u "(II)I"), (2, u "twoToTheDoubleScaleDown"), (0, u "D"), (4, u "twoToTheDoubleScaleUp"), (9, u "E"), (3, u "PI"), (2, u "TAU"), (2, u "DEGREES_TO_RADIANS"), (0, u "RADIANS_TO_DEGREES")] 94

def k19m0 : Method := { name := "<init>", desc := "()V", sig := { parameters := [], returnType := none }, accessFlags := 2, code := none }
def k19c1 : Code := { maxStack := 2, maxLocals := 2, code := jdk_29_method_65_code, exceptionTable := #[], attributes := #[] }
def k19m1 : Method := { name := "max", desc := "(II)I", sig := { parameters := [.int, .int], returnType := some .int }, accessFlags := 9, code := some k19c1 }
def k19c2 : Code := { maxStack := 2, maxLocals := 2, code := jdk_29_method_69_code, exceptionTable := #[], attributes := #[] }
def k19m2 : Method := { name := "min", desc := "(II)I", sig := { parameters := [.int, .int], returnType := some .int }, accessFlags := 9, code := some k19c2 }
/-- java/lang/Math -/
def k19 : Class := { plain "java/lang/Math" (some 0) with
  accessFlags := 49
  interfaces := #[]
  cf := some (fileOf pool19 1 #[.nestMembers #[98]] #[{ accessFlags := 2, nameIndex := 7, descriptorIndex := 8, attributes := #[] }, { accessFlags := 9, nameIndex := 198, descriptorIndex := 335, attributes := #[] }, { accessFlags := 9, nameIndex := 201, descriptorIndex := 335, attributes := #[] }] 49 4 #[] #[{ accessFlags := 25, nameIndex := 354, descriptorIndex := 339, attributes := #[] }, { accessFlags := 25, nameIndex := 358, descriptorIndex := 339, attributes := #[] }, { accessFlags := 25, nameIndex := 361, descriptorIndex := 339, attributes := #[] }, { accessFlags := 26, nameIndex := 364, descriptorIndex := 339, attributes := #[] }, { accessFlags := 26, nameIndex := 365, descriptorIndex := 339, attributes := #[] }, { accessFlags := 26, nameIndex := 172, descriptorIndex := 173, attributes := #[] }, { accessFlags := 26, nameIndex := 176, descriptorIndex := 173, attributes := #[] }, { accessFlags := 8, nameIndex := 344, descriptorIndex := 339, attributes := #[] }, { accessFlags := 8, nameIndex := 338, descriptorIndex := 339, attributes := #[] }, { accessFlags := 4120, nameIndex := 245, descriptorIndex := 246, attributes := #[] }])
  fields := #[{ name := "E", type := .double, accessFlags := 25, slot := 0, constantValue := 0 }, { name := "PI", type := .double, accessFlags := 25, slot := 1, constantValue := 0 }, { name := "TAU", type := .double, accessFlags := 25, slot := 2, constantValue := 0 }, { name := "DEGREES_TO_RADIANS", type := .double, accessFlags := 26, slot := 3, constantValue := 0 }, { name := "RADIANS_TO_DEGREES", type := .double, accessFlags := 26, slot := 4, constantValue := 0 }, { name := "negativeZeroFloatBits", type := .long, accessFlags := 26, slot := 5, constantValue := 0 }, { name := "negativeZeroDoubleBits", type := .long, accessFlags := 26, slot := 6, constantValue := 0 }, { name := "twoToTheDoubleScaleUp", type := .double, accessFlags := 8, slot := 7, constantValue := 0 }, { name := "twoToTheDoubleScaleDown", type := .double, accessFlags := 8, slot := 8, constantValue := 0 }, { name := "$assertionsDisabled", type := .boolean, accessFlags := 4120, slot := 9, constantValue := 0 }]
  methods := #[k19m0, k19m1, k19m2]
  instanceTypes := #[]
  staticTypes := #[.double, .double, .double, .double, .double, .long, .long, .double, .double, .boolean]
  resolved := Array.replicate 460 none
  statics := none }

def pool20 : Array CpInfo := pool [(2, .class_ 4), (1, u "java/lang/Object"), (0, u "<init>"), (0, u "()V"), (7, .class_ 16), (1, u "java/util/Arrays"), (57, .class_ 76), (1, u "java/util/Arrays$NaturalOrder"), (36, .class_ 115), (1, u "java/util/Arrays$LegacyMergeSort"), (1, u "Z"), (21, u "copyOfRange"), (10, .methodref 151 152), (0, .class_ 153), (0, .nameAndType 154 155), (0, u "java/lang/System"), (0, u "arraycopy"), (0, u "(Ljava/lang/Object;ILjava/lang/Object;II)V"), (146, u "copyOf"), (1, .methodref 305 306), (0, .class_ 307), (0, .nameAndType 308 309), (0, u "java/lang/Math"), (0, u "min"), (0, u "(II)I"), (29, .methodref 14 340), (0, .nameAndType 341 342), (0, u "copyOfRangeByte"), (0, u "([BII)[B"), (0, .methodref 14 344), (0, .nameAndType 345 346), (0, u "checkLength"), (0, u "(II)V"), (28, .class_ 376), (0, u "java/util/Arrays$ArrayList"), (68, u "$assertionsDisabled"), (269, u "MIN_ARRAY_SORT_GRAN"), (0, u "I"), (2, u "INSERTIONSORT_THRESHOLD"), (149, u "([BI)[B"), (105, .class_ 976), (0, u "java/util/Arrays$ArrayItr")] 52

def k20m0 : Method := { name := "<init>", desc := "()V", sig := { parameters := [], returnType := none }, accessFlags := 2, code := none }
def k20c1 : Code := { maxStack := 6, maxLocals := 3, code := jdk_65_method_121_code, exceptionTable := #[], attributes := #[] }
def k20m1 : Method := { name := "copyOf", desc := "([BI)[B", sig := { parameters := [(.array .byte), .int], returnType := some (.array .byte) }, accessFlags := 9, code := some k20c1 }
def k20c2 : Code := { maxStack := 4, maxLocals := 2, code := jdk_65_method_131_code, exceptionTable := #[], attributes := #[] }
def k20m2 : Method := { name := "checkLength", desc := "(II)V", sig := { parameters := [.int, .int], returnType := none }, accessFlags := 10, code := some k20c2 }
def k20c3 : Code := { maxStack := 3, maxLocals := 3, code := jdk_65_method_132_code, exceptionTable := #[], attributes := #[] }
def k20m3 : Method := { name := "copyOfRange", desc := "([BII)[B", sig := { parameters := [(.array .byte), .int, .int], returnType := some (.array .byte) }, accessFlags := 9, code := some k20c3 }
def k20c4 : Code := { maxStack := 6, maxLocals := 5, code := jdk_65_method_133_code, exceptionTable := #[], attributes := #[] }
def k20m4 : Method := { name := "copyOfRangeByte", desc := "([BII)[B", sig := { parameters := [(.array .byte), .int, .int], returnType := some (.array .byte) }, accessFlags := 10, code := some k20c4 }
/-- java/util/Arrays -/
def k20 : Class := { plain "java/util/Arrays" (some 0) with
  accessFlags := 49
  interfaces := #[]
  cf := some (fileOf pool20 14 #[.nestMembers #[975, 375, 113, 74]] #[{ accessFlags := 2, nameIndex := 5, descriptorIndex := 6, attributes := #[] }, { accessFlags := 9, nameIndex := 302, descriptorIndex := 869, attributes := #[] }, { accessFlags := 10, nameIndex := 345, descriptorIndex := 346, attributes := #[] }, { accessFlags := 9, nameIndex := 139, descriptorIndex := 342, attributes := #[] }, { accessFlags := 10, nameIndex := 341, descriptorIndex := 342, attributes := #[] }] 49 2 #[] #[{ accessFlags := 26, nameIndex := 715, descriptorIndex := 716, attributes := #[] }, { accessFlags := 26, nameIndex := 719, descriptorIndex := 716, attributes := #[] }, { accessFlags := 4120, nameIndex := 445, descriptorIndex := 117, attributes := #[] }])
  fields := #[{ name := "MIN_ARRAY_SORT_GRAN", type := .int, accessFlags := 26, slot := 0, constantValue := 0 }, { name := "INSERTIONSORT_THRESHOLD", type := .int, accessFlags := 26, slot := 1, constantValue := 0 }, { name := "$assertionsDisabled", type := .boolean, accessFlags := 4120, slot := 2, constantValue := 0 }]
  methods := #[k20m0, k20m1, k20m2, k20m3, k20m4]
  instanceTypes := #[]
  staticTypes := #[.int, .int, .boolean]
  resolved := Array.replicate 1029 none
  statics := none }

def pool21 : Array CpInfo := pool [(4, .class_ 6), (1, u "java/lang/Object"), (0, u "<init>"), (0, u "()V"), (5, .class_ 16), (1, u "java/lang/StringLatin1"), (104, u "$assertionsDisabled"), (0, u "Z"), (98, .class_ 223), (1, u "java/lang/StringLatin1$LinesSpliterator"), (57, u "equals"), (0, u "([B[B)Z"), (107, .class_ 391), (0, u "java/lang/StringLatin1$CharsSpliterator")] 3

def k21m0 : Method := { name := "<init>", desc := "()V", sig := { parameters := [], returnType := none }, accessFlags := 0, code := none }
def k21c1 : Code := { maxStack := 3, maxLocals := 3, code := jdk_43_method_13_code, exceptionTable := #[], attributes := #[] }
def k21m1 : Method := { name := "equals", desc := "([B[B)Z", sig := { parameters := [(.array .byte), (.array .byte)], returnType := some .boolean }, accessFlags := 9, code := some k21c1 }
/-- java/lang/StringLatin1 -/
def k21 : Class := { plain "java/lang/StringLatin1" (some 0) with
  accessFlags := 48
  interfaces := #[]
  cf := some (fileOf pool21 14 #[.nestMembers #[390, 221]] #[{ accessFlags := 0, nameIndex := 7, descriptorIndex := 8, attributes := #[] }, { accessFlags := 9, nameIndex := 281, descriptorIndex := 282, attributes := #[] }] 48 4 #[] #[{ accessFlags := 4120, nameIndex := 121, descriptorIndex := 122, attributes := #[] }])
  fields := #[{ name := "$assertionsDisabled", type := .boolean, accessFlags := 4120, slot := 0, constantValue := 0 }]
  methods := #[k21m0, k21m1]
  instanceTypes := #[]
  staticTypes := #[.boolean]
  resolved := Array.replicate 395 none
  statics := none }

def pool22 : Array CpInfo := pool [(2, .class_ 4), (1, u "java/lang/Object"), (0, u "<init>"), (0, u "()V"), (17, .class_ 26), (1, u "jdk/internal/util/Preconditions"), (28, .class_ 56), (0, u "jdk/internal/util/Preconditions$4"), (57, .class_ 115), (0, u "jdk/internal/util/Preconditions$1"), (7, u "SIOOBE_FORMATTER"), (0, u "Ljava/util/function/BiFunction;"), (0, .class_ 126), (0, u "jdk/internal/util/Preconditions$2"), (3, u "AIOOBE_FORMATTER"), (0, .class_ 132), (0, u "jdk/internal/util/Preconditions$3"), (3, u "IOOBE_FORMATTER")] 57

def k22m0 : Method := { name := "<init>", desc := "()V", sig := { parameters := [], returnType := none }, accessFlags := 1, code := none }
/-- jdk/internal/util/Preconditions -/
def k22 : Class := { plain "jdk/internal/util/Preconditions" (some 0) with
  accessFlags := 33
  interfaces := #[]
  cf := some (fileOf pool22 24 #[.nestMembers #[55, 131, 125, 114]] #[{ accessFlags := 1, nameIndex := 5, descriptorIndex := 6, attributes := #[] }] 33 2 #[] #[{ accessFlags := 25, nameIndex := 123, descriptorIndex := 124, attributes := #[] }, { accessFlags := 25, nameIndex := 130, descriptorIndex := 124, attributes := #[] }, { accessFlags := 25, nameIndex := 136, descriptorIndex := 124, attributes := #[] }])
  fields := #[{ name := "SIOOBE_FORMATTER", type := (.object "java/util/function/BiFunction"), accessFlags := 25, slot := 0, constantValue := 0 }, { name := "AIOOBE_FORMATTER", type := (.object "java/util/function/BiFunction"), accessFlags := 25, slot := 1, constantValue := 0 }, { name := "IOOBE_FORMATTER", type := (.object "java/util/function/BiFunction"), accessFlags := 25, slot := 2, constantValue := 0 }]
  methods := #[k22m0]
  instanceTypes := #[]
  staticTypes := #[(.object "java/util/function/BiFunction"), (.object "java/util/function/BiFunction"), (.object "java/util/function/BiFunction")]
  resolved := Array.replicate 194 none
  statics := some 3 }

def pool23 : Array CpInfo := pool [(1, u "java/lang/Cloneable"), (0, .class_ 1), (0, u "java/lang/Object"), (0, .class_ 3)] 3

/-- java/lang/Cloneable -/
def k23 : Class := { plain "java/lang/Cloneable" (some 0) with
  accessFlags := 1537
  interfaces := #[]
  cf := some (fileOf pool23 2 #[] #[] 1537 4 #[] #[])
  fields := #[]
  methods := #[]
  instanceTypes := #[]
  staticTypes := #[]
  resolved := Array.replicate 8 none
  statics := none }

/-- the primitive byte -/
def k24 : Class := { plain "byte" none with kind := .primitive 'B', accessFlags := 0x411 }
/-- [B -/
def k25 : Class := { plain "[B" (some 0) with kind := .array 24 .byte, interfaces := #[23, 4], accessFlags := 1041 }

/-- the primitive int -/
def k26 : Class := { plain "int" none with kind := .primitive 'I', accessFlags := 0x411 }
/-- [I -/
def k27 : Class := { plain "[I" (some 0) with kind := .array 26 .int, interfaces := #[23, 4], accessFlags := 1041 }

def heap : Heap := #[{ cls := 6, slots := #[.ref 4, .ref 5, .null], vm := .statics 6 },
  { cls := 10, slots := #[.long 0, .int 1, .null, .int 0, .null, .int 0, .int 0], vm := .statics 10 },
  { cls := 17, slots := #[.int 0, .int 0, .null, .null, .ref 7, .ref 6, .int 0, .int 0, .long 0], vm := .statics 17 },
  { cls := 22, slots := #[.null, .null, .null], vm := .statics 22 },
  { cls := 6, slots := #[.null, .int 0, .int 0], vm := .none },
  { cls := 6, slots := #[.null, .int 1, .int 0], vm := .none },
  { cls := 25, slots := #[.int 48, .int 49, .int 50, .int 51, .int 52, .int 53, .int 54, .int 55, .int 56, .int 57, .int 48, .int 49, .int 50, .int 51, .int 52, .int 53, .int 54, .int 55, .int 56, .int 57, .int 48, .int 49, .int 50, .int 51, .int 52, .int 53, .int 54, .int 55, .int 56, .int 57, .int 48, .int 49, .int 50, .int 51, .int 52, .int 53, .int 54, .int 55, .int 56, .int 57, .int 48, .int 49, .int 50, .int 51, .int 52, .int 53, .int 54, .int 55, .int 56, .int 57, .int 48, .int 49, .int 50, .int 51, .int 52, .int 53, .int 54, .int 55, .int 56, .int 57, .int 48, .int 49, .int 50, .int 51, .int 52, .int 53, .int 54, .int 55, .int 56, .int 57, .int 48, .int 49, .int 50, .int 51, .int 52, .int 53, .int 54, .int 55, .int 56, .int 57, .int 48, .int 49, .int 50, .int 51, .int 52, .int 53, .int 54, .int 55, .int 56, .int 57, .int 48, .int 49, .int 50, .int 51, .int 52, .int 53, .int 54, .int 55, .int 56, .int 57], vm := .none },
  { cls := 25, slots := #[.int 48, .int 48, .int 48, .int 48, .int 48, .int 48, .int 48, .int 48, .int 48, .int 48, .int 49, .int 49, .int 49, .int 49, .int 49, .int 49, .int 49, .int 49, .int 49, .int 49, .int 50, .int 50, .int 50, .int 50, .int 50, .int 50, .int 50, .int 50, .int 50, .int 50, .int 51, .int 51, .int 51, .int 51, .int 51, .int 51, .int 51, .int 51, .int 51, .int 51, .int 52, .int 52, .int 52, .int 52, .int 52, .int 52, .int 52, .int 52, .int 52, .int 52, .int 53, .int 53, .int 53, .int 53, .int 53, .int 53, .int 53, .int 53, .int 53, .int 53, .int 54, .int 54, .int 54, .int 54, .int 54, .int 54, .int 54, .int 54, .int 54, .int 54, .int 55, .int 55, .int 55, .int 55, .int 55, .int 55, .int 55, .int 55, .int 55, .int 55, .int 56, .int 56, .int 56, .int 56, .int 56, .int 56, .int 56, .int 56, .int 56, .int 56, .int 57, .int 57, .int 57, .int 57, .int 57, .int 57, .int 57, .int 57, .int 57, .int 57], vm := .none }]
def classes : Array Class := #[k0, k1, k2, k3, k4, k5, k6, k7, k8, k9, k10, k11, k12, k13, k14, k15, k16, k17, k18, k19, k20, k21, k22, k23, k24, k25, k26, k27]
def interned : List (Array UInt16 × Addr) := []
def slotsUsed : Nat := 228
def theMethod : MethodId := ⟨1, 1⟩
def args0 : Array Value := #[.int 3, .long 4, .long 5, .long 6, .long 7]
def aboutOver (below : List Frame) : State where
  vm := { classes := classes, interned := interned.toArray }
  heap := heap
  slotsUsed := slotsUsed
  threads := #[{ frames := .invoking theMethod args0 :: below }]
def below0 : List Frame := [.native { method := ⟨0, 0⟩, args := #[] }]
def about1 : State := aboutOver below0
def p0 : Program := .bare "" "" ""
def e0 : Env := launch0.env 0 0 0
theorem w_frames : about1.frames = Frame.invoking theMethod args0 :: below0 := rfl
set_option maxRecDepth 65536 in
theorem w_args : argsFit about1.vm theMethod args0 = true := by decide +kernel
set_option maxRecDepth 65536 in
theorem w_heap : heapFits about1 = true := by decide +kernel
set_option maxRecDepth 65536 in
theorem w_runnable : about1.curStatus? = some .runnable := by decide +kernel
set_option maxRecDepth 65536 in
theorem w_alone : about1.alone = true := by decide +kernel
set_option maxRecDepth 65536 in
theorem w_named : about1.methodNamed? x = some theMethod := by decide +kernel
set_option maxRecDepth 65536 in
theorem w_hears : about1.hears theMethod below0 = true := by decide +kernel
set_option maxRecDepth 65536 in
theorem w_ripe : about1.ripe theMethod args0 below0 = true := by decide +kernel
theorem w_running : about1.status = .running := rfl
set_option maxRecDepth 65536 in
theorem w_room : about1.hasRoom e0.platform room_1 = true :=
  launch0.hasRoom_least _ room_1 (by decide +kernel) (by decide +kernel) (by decide +kernel) (by decide +kernel) (by decide +kernel) (by decide +kernel)
theorem allAtoms_all (ts : List Jvm.Cond) (a : Array Jvm.Value) (st : Jvm.State) : (allAtoms ts).before a st = ts.all (fun c => c.before a st) := by
  induction ts with
  | nil => rfl
  | cons c t ih =>
    show (Jvm.Cond.and c (allAtoms t)).before a st = _
    rw [Jvm.Cond.before_and, ih, List.all_cons]
def words1 : List Jvm.Cond := Jvm.Cond.code x code maxLocals ret :: tables_1
/-- a 'code' word, met by the world's own term for the bytes: nothing is compared byte by byte -/
theorem code_word {y : MethodName} {bytes : ByteArray} {mx : Nat} {rt : Option FieldType} {a : Array Value} {s : State} {m : MethodId} {meth : Method} {c : Code} (h1 : s.methodNamed? y = some m) (h2 : s.vm.method? m = some meth) (h3 : meth.code = some c) (h4 : c.code = bytes)
    (h5 : (c.maxLocals == mx && c.exceptionTable.isEmpty && decide (c.maxStack ≤ mostOperands) && decide (meth.sig.returnType = rt) && !meth.locks && decide (parseMethodDescriptor y.desc = some meth.sig)) = true) : (Jvm.Cond.code y bytes mx rt).before a s = true := by
  simp only [Bool.and_eq_true, beq_iff_eq, Bool.not_eq_true', decide_eq_true_eq] at h5
  obtain ⟨⟨⟨⟨⟨g1, g2⟩, g3⟩, g4⟩, g5⟩, g6⟩ := h5
  simp [Cond.before, Cond.holds, Cond.value, h1, h2, h3, h4, g1, g2, g3, g4, g5, g6]
def isCode : Jvm.Cond → Bool
  | .code _ _ _ _ => true
  | _ => false
theorem all_split {L : List Jvm.Cond} {P : Jvm.Cond → Bool} (h1 : L.all (fun c => isCode c || P c) = true) (h2 : ∀ c ∈ L.filter isCode, P c = true) : L.all P = true := by
  refine List.all_eq_true.mpr fun c hc => ?_
  have h := List.all_eq_true.mp h1 c hc
  rcases Bool.eq_false_or_eq_true (isCode c) with hi | hi
  · exact h2 c (List.mem_filter.mpr ⟨hc, hi⟩)
  · simpa [hi] using h
set_option maxRecDepth 65536 in
theorem w_c0 : (Jvm.Cond.code x code maxLocals ret).before args0 about1 = true := code_word (m := ⟨1, 1⟩) (meth := k1m1) (c := k1c1) (by decide +kernel) rfl rfl rfl (by decide +kernel)
set_option maxRecDepth 65536 in
theorem w_c1 : (Jvm.Cond.code ({ cls := "com/example/known_origins/knownorigins/store/LoadCount", name := "none", desc := "(Lcom/example/known_origins/knownorigins/store/IfStored;)Lcom/example/known_origins/knownorigins/store/LoadCount;" } : Jvm.MethodName) prog_24_method_2_code (1 : Nat) (Option.some (Jvm.ClassFile.FieldType.object "com/example/known_origins/knownorigins/store/LoadCount"))).before args0 about1 = true := code_word (m := ⟨7, 1⟩) (meth := k7m1) (c := k7c1) (by decide +kernel) rfl rfl rfl (by decide +kernel)
set_option maxRecDepth 65536 in
theorem w_c2 : (Jvm.Cond.code ({ cls := "com/example/known_origins/knownorigins/store/LoadCount", name := "<init>", desc := "(Lcom/example/known_origins/knownorigins/store/IfStored;JJJJ)V" } : Jvm.MethodName) prog_24_method_1_code (10 : Nat) (Option.none : Option Jvm.ClassFile.FieldType)).before args0 about1 = true := code_word (m := ⟨7, 0⟩) (meth := k7m0) (c := k7c0) (by decide +kernel) rfl rfl rfl (by decide +kernel)
set_option maxRecDepth 65536 in
theorem w_c3 : (Jvm.Cond.code ({ cls := "java/lang/Object", name := "<init>", desc := "()V" } : Jvm.MethodName) object_method_1_code (1 : Nat) (Option.none : Option Jvm.ClassFile.FieldType)).before args0 about1 = true := code_word (m := ⟨0, 0⟩) (meth := k0m0) (c := k0c0) (by decide +kernel) rfl rfl rfl (by decide +kernel)
set_option maxRecDepth 65536 in
theorem w_c4 : (Jvm.Cond.code ({ cls := "com/example/known_origins/knownorigins/store/LoadCount", name := "graphs", desc := "()J" } : Jvm.MethodName) prog_24_method_3_code (1 : Nat) (Option.some Jvm.ClassFile.FieldType.long)).before args0 about1 = true := code_word (m := ⟨7, 2⟩) (meth := k7m2) (c := k7c2) (by decide +kernel) rfl rfl rfl (by decide +kernel)
set_option maxRecDepth 65536 in
theorem w_c5 : (Jvm.Cond.code ({ cls := "com/example/known_origins/knownorigins/store/LoadCount", name := "triples", desc := "()J" } : Jvm.MethodName) prog_24_method_4_code (1 : Nat) (Option.some Jvm.ClassFile.FieldType.long)).before args0 about1 = true := code_word (m := ⟨7, 3⟩) (meth := k7m3) (c := k7c3) (by decide +kernel) rfl rfl rfl (by decide +kernel)
set_option maxRecDepth 65536 in
theorem w_c6 : (Jvm.Cond.code ({ cls := "com/example/known_origins/knownorigins/store/LoadCount", name := "skipped", desc := "()J" } : Jvm.MethodName) prog_24_method_5_code (1 : Nat) (Option.some Jvm.ClassFile.FieldType.long)).before args0 about1 = true := code_word (m := ⟨7, 4⟩) (meth := k7m4) (c := k7c4) (by decide +kernel) rfl rfl rfl (by decide +kernel)
set_option maxRecDepth 65536 in
theorem w_c7 : (Jvm.Cond.code ({ cls := "com/example/known_origins/knownorigins/store/LoadCount", name := "derived", desc := "()J" } : Jvm.MethodName) prog_24_method_6_code (1 : Nat) (Option.some Jvm.ClassFile.FieldType.long)).before args0 about1 = true := code_word (m := ⟨7, 5⟩) (meth := k7m5) (c := k7c5) (by decide +kernel) rfl rfl rfl (by decide +kernel)
set_option maxRecDepth 65536 in
theorem w_c8 : (Jvm.Cond.code ({ cls := "com/example/known_origins/knownorigins/store/LoadCount", name := "line", desc := "(Z)Ljava/lang/String;" } : Jvm.MethodName) prog_24_method_8_code (2 : Nat) (Option.some (Jvm.ClassFile.FieldType.object "java/lang/String"))).before args0 about1 = true := code_word (m := ⟨7, 7⟩) (meth := k7m7) (c := k7c7) (by decide +kernel) rfl rfl rfl (by decide +kernel)
set_option maxRecDepth 65536 in
theorem w_c9 : (Jvm.Cond.code ({ cls := "java/lang/StringBuilder", name := "<init>", desc := "()V" } : Jvm.MethodName) jdk_67_method_1_code (1 : Nat) (Option.none : Option Jvm.ClassFile.FieldType)).before args0 about1 = true := code_word (m := ⟨13, 0⟩) (meth := k13m0) (c := k13c0) (by decide +kernel) rfl rfl rfl (by decide +kernel)
set_option maxRecDepth 65536 in
theorem w_c10 : (Jvm.Cond.code ({ cls := "java/lang/AbstractStringBuilder", name := "<init>", desc := "(I)V" } : Jvm.MethodName) jdk_68_method_2_code (2 : Nat) (Option.none : Option Jvm.ClassFile.FieldType)).before args0 about1 = true := code_word (m := ⟨12, 1⟩) (meth := k12m1) (c := k12c1) (by decide +kernel) rfl rfl rfl (by decide +kernel)
set_option maxRecDepth 65536 in
theorem w_c11 : (Jvm.Cond.code ({ cls := "java/lang/StringBuilder", name := "append", desc := "(Ljava/lang/String;)Ljava/lang/StringBuilder;" } : Jvm.MethodName) jdk_67_method_7_code (2 : Nat) (Option.some (Jvm.ClassFile.FieldType.object "java/lang/StringBuilder"))).before args0 about1 = true := code_word (m := ⟨13, 1⟩) (meth := k13m1) (c := k13c1) (by decide +kernel) rfl rfl rfl (by decide +kernel)
set_option maxRecDepth 65536 in
theorem w_c12 : (Jvm.Cond.code ({ cls := "java/lang/AbstractStringBuilder", name := "append", desc := "(Ljava/lang/String;)Ljava/lang/AbstractStringBuilder;" } : Jvm.MethodName) jdk_68_method_22_code (3 : Nat) (Option.some (Jvm.ClassFile.FieldType.object "java/lang/AbstractStringBuilder"))).before args0 about1 = true := code_word (m := ⟨12, 5⟩) (meth := k12m5) (c := k12c5) (by decide +kernel) rfl rfl rfl (by decide +kernel)
set_option maxRecDepth 65536 in
theorem w_c13 : (Jvm.Cond.code ({ cls := "java/lang/String", name := "length", desc := "()I" } : Jvm.MethodName) jdk_42_method_54_code (1 : Nat) (Option.some Jvm.ClassFile.FieldType.int)).before args0 about1 = true := code_word (m := ⟨10, 2⟩) (meth := k10m2) (c := k10c2) (by decide +kernel) rfl rfl rfl (by decide +kernel)
set_option maxRecDepth 65536 in
theorem w_c14 : (Jvm.Cond.code ({ cls := "java/lang/String", name := "coder", desc := "()B" } : Jvm.MethodName) jdk_42_method_152_code (1 : Nat) (Option.some Jvm.ClassFile.FieldType.byte)).before args0 about1 = true := code_word (m := ⟨10, 6⟩) (meth := k10m6) (c := k10c6) (by decide +kernel) rfl rfl rfl (by decide +kernel)
set_option maxRecDepth 65536 in
theorem w_c15 : (Jvm.Cond.code ({ cls := "java/lang/AbstractStringBuilder", name := "ensureCapacityInternal", desc := "(I)V" } : Jvm.MethodName) jdk_68_method_9_code (3 : Nat) (Option.none : Option Jvm.ClassFile.FieldType)).before args0 about1 = true := code_word (m := ⟨12, 3⟩) (meth := k12m3) (c := k12c3) (by decide +kernel) rfl rfl rfl (by decide +kernel)
set_option maxRecDepth 65536 in
theorem w_c16 : (Jvm.Cond.code ({ cls := "java/lang/AbstractStringBuilder", name := "putStringAt", desc := "(ILjava/lang/String;)V" } : Jvm.MethodName) jdk_68_method_73_code (3 : Nat) (Option.none : Option Jvm.ClassFile.FieldType)).before args0 about1 = true := code_word (m := ⟨12, 10⟩) (meth := k12m10) (c := k12c10) (by decide +kernel) rfl rfl rfl (by decide +kernel)
set_option maxRecDepth 65536 in
theorem w_c17 : (Jvm.Cond.code ({ cls := "java/lang/AbstractStringBuilder", name := "inflateIfNeededFor", desc := "(Ljava/lang/String;)V" } : Jvm.MethodName) jdk_68_method_71_code (2 : Nat) (Option.none : Option Jvm.ClassFile.FieldType)).before args0 about1 = true := code_word (m := ⟨12, 9⟩) (meth := k12m9) (c := k12c9) (by decide +kernel) rfl rfl rfl (by decide +kernel)
set_option maxRecDepth 65536 in
theorem w_c18 : (Jvm.Cond.code ({ cls := "java/lang/String", name := "getBytes", desc := "([BIB)V" } : Jvm.MethodName) jdk_42_method_147_code (4 : Nat) (Option.none : Option Jvm.ClassFile.FieldType)).before args0 about1 = true := code_word (m := ⟨10, 4⟩) (meth := k10m4) (c := k10c4) (by decide +kernel) rfl rfl rfl (by decide +kernel)
set_option maxRecDepth 65536 in
theorem w_c19 : (Jvm.Cond.code ({ cls := "java/lang/StringBuilder", name := "append", desc := "(J)Ljava/lang/StringBuilder;" } : Jvm.MethodName) jdk_67_method_16_code (3 : Nat) (Option.some (Jvm.ClassFile.FieldType.object "java/lang/StringBuilder"))).before args0 about1 = true := code_word (m := ⟨13, 2⟩) (meth := k13m2) (c := k13c2) (by decide +kernel) rfl rfl rfl (by decide +kernel)
set_option maxRecDepth 65536 in
theorem w_c20 : (Jvm.Cond.code ({ cls := "java/lang/AbstractStringBuilder", name := "append", desc := "(J)Ljava/lang/AbstractStringBuilder;" } : Jvm.MethodName) jdk_68_method_33_code (5 : Nat) (Option.some (Jvm.ClassFile.FieldType.object "java/lang/AbstractStringBuilder"))).before args0 about1 = true := code_word (m := ⟨12, 6⟩) (meth := k12m6) (c := k12c6) (by decide +kernel) rfl rfl rfl (by decide +kernel)
set_option maxRecDepth 65536 in
theorem w_c21 : (Jvm.Cond.code ({ cls := "java/lang/Long", name := "stringSize", desc := "(J)I" } : Jvm.MethodName) jdk_35_method_15_code (6 : Nat) (Option.some Jvm.ClassFile.FieldType.int)).before args0 about1 = true := code_word (m := ⟨16, 1⟩) (meth := k16m1) (c := k16c1) (by decide +kernel) rfl rfl rfl (by decide +kernel)
set_option maxRecDepth 65536 in
theorem w_c22 : (Jvm.Cond.code ({ cls := "java/lang/AbstractStringBuilder", name := "isLatin1", desc := "()Z" } : Jvm.MethodName) jdk_68_method_68_code (1 : Nat) (Option.some Jvm.ClassFile.FieldType.boolean)).before args0 about1 = true := code_word (m := ⟨12, 8⟩) (meth := k12m8) (c := k12c8) (by decide +kernel) rfl rfl rfl (by decide +kernel)
set_option maxRecDepth 65536 in
theorem w_c23 : (Jvm.Cond.code ({ cls := "java/lang/Long", name := "getChars", desc := "(JI[B)I" } : Jvm.MethodName) jdk_35_method_14_code (11 : Nat) (Option.some Jvm.ClassFile.FieldType.int)).before args0 about1 = true := code_word (m := ⟨16, 0⟩) (meth := k16m0) (c := k16c0) (by decide +kernel) rfl rfl rfl (by decide +kernel)
set_option maxRecDepth 65536 in
theorem w_c24 : (Jvm.Cond.code ({ cls := "java/lang/AbstractStringBuilder", name := "newCapacity", desc := "(I)I" } : Jvm.MethodName) jdk_68_method_10_code (6 : Nat) (Option.some Jvm.ClassFile.FieldType.int)).before args0 about1 = true := code_word (m := ⟨12, 4⟩) (meth := k12m4) (c := k12c4) (by decide +kernel) rfl rfl rfl (by decide +kernel)
set_option maxRecDepth 65536 in
theorem w_c25 : (Jvm.Cond.code ({ cls := "jdk/internal/util/ArraysSupport", name := "newLength", desc := "(III)I" } : Jvm.MethodName) jdk_48_method_27_code (4 : Nat) (Option.some Jvm.ClassFile.FieldType.int)).before args0 about1 = true := code_word (m := ⟨18, 1⟩) (meth := k18m1) (c := k18c1) (by decide +kernel) rfl rfl rfl (by decide +kernel)
set_option maxRecDepth 65536 in
theorem w_c26 : (Jvm.Cond.code ({ cls := "java/lang/Math", name := "max", desc := "(II)I" } : Jvm.MethodName) jdk_29_method_65_code (2 : Nat) (Option.some Jvm.ClassFile.FieldType.int)).before args0 about1 = true := code_word (m := ⟨19, 1⟩) (meth := k19m1) (c := k19c1) (by decide +kernel) rfl rfl rfl (by decide +kernel)
set_option maxRecDepth 65536 in
theorem w_c27 : (Jvm.Cond.code ({ cls := "java/util/Arrays", name := "copyOf", desc := "([BI)[B" } : Jvm.MethodName) jdk_65_method_121_code (3 : Nat) (Option.some (Jvm.ClassFile.FieldType.array Jvm.ClassFile.FieldType.byte))).before args0 about1 = true := code_word (m := ⟨20, 1⟩) (meth := k20m1) (c := k20c1) (by decide +kernel) rfl rfl rfl (by decide +kernel)
set_option maxRecDepth 65536 in
theorem w_c28 : (Jvm.Cond.code ({ cls := "java/lang/Math", name := "min", desc := "(II)I" } : Jvm.MethodName) jdk_29_method_69_code (2 : Nat) (Option.some Jvm.ClassFile.FieldType.int)).before args0 about1 = true := code_word (m := ⟨19, 2⟩) (meth := k19m2) (c := k19c2) (by decide +kernel) rfl rfl rfl (by decide +kernel)
set_option maxRecDepth 65536 in
theorem w_c29 : (Jvm.Cond.code ({ cls := "java/lang/StringBuilder", name := "toString", desc := "()Ljava/lang/String;" } : Jvm.MethodName) jdk_67_method_42_code (1 : Nat) (Option.some (Jvm.ClassFile.FieldType.object "java/lang/String"))).before args0 about1 = true := code_word (m := ⟨13, 3⟩) (meth := k13m3) (c := k13c3) (by decide +kernel) rfl rfl rfl (by decide +kernel)
set_option maxRecDepth 65536 in
theorem w_c30 : (Jvm.Cond.code ({ cls := "java/lang/String", name := "<init>", desc := "(Ljava/lang/StringBuilder;)V" } : Jvm.MethodName) jdk_42_method_53_code (2 : Nat) (Option.none : Option Jvm.ClassFile.FieldType)).before args0 about1 = true := code_word (m := ⟨10, 1⟩) (meth := k10m1) (c := k10c1) (by decide +kernel) rfl rfl rfl (by decide +kernel)
set_option maxRecDepth 65536 in
theorem w_c31 : (Jvm.Cond.code ({ cls := "java/lang/String", name := "<init>", desc := "(Ljava/lang/AbstractStringBuilder;Ljava/lang/Void;)V" } : Jvm.MethodName) jdk_42_method_150_code (5 : Nat) (Option.none : Option Jvm.ClassFile.FieldType)).before args0 about1 = true := code_word (m := ⟨10, 5⟩) (meth := k10m5) (c := k10c5) (by decide +kernel) rfl rfl rfl (by decide +kernel)
set_option maxRecDepth 65536 in
theorem w_c32 : (Jvm.Cond.code ({ cls := "java/lang/AbstractStringBuilder", name := "getValue", desc := "()[B" } : Jvm.MethodName) jdk_68_method_64_code (1 : Nat) (Option.some (Jvm.ClassFile.FieldType.array Jvm.ClassFile.FieldType.byte))).before args0 about1 = true := code_word (m := ⟨12, 7⟩) (meth := k12m7) (c := k12c7) (by decide +kernel) rfl rfl rfl (by decide +kernel)
set_option maxRecDepth 65536 in
theorem w_c33 : (Jvm.Cond.code ({ cls := "java/lang/StringBuilder", name := "length", desc := "()I" } : Jvm.MethodName) jdk_67_method_93_code (1 : Nat) (Option.some Jvm.ClassFile.FieldType.int)).before args0 about1 = true := code_word (m := ⟨13, 4⟩) (meth := k13m4) (c := k13c4) (by decide +kernel) rfl rfl rfl (by decide +kernel)
set_option maxRecDepth 65536 in
theorem w_c34 : (Jvm.Cond.code ({ cls := "java/lang/AbstractStringBuilder", name := "length", desc := "()I" } : Jvm.MethodName) jdk_68_method_6_code (1 : Nat) (Option.some Jvm.ClassFile.FieldType.int)).before args0 about1 = true := code_word (m := ⟨12, 2⟩) (meth := k12m2) (c := k12c2) (by decide +kernel) rfl rfl rfl (by decide +kernel)
set_option maxRecDepth 65536 in
theorem w_c35 : (Jvm.Cond.code ({ cls := "java/util/Arrays", name := "copyOfRange", desc := "([BII)[B" } : Jvm.MethodName) jdk_65_method_132_code (3 : Nat) (Option.some (Jvm.ClassFile.FieldType.array Jvm.ClassFile.FieldType.byte))).before args0 about1 = true := code_word (m := ⟨20, 3⟩) (meth := k20m3) (c := k20c3) (by decide +kernel) rfl rfl rfl (by decide +kernel)
set_option maxRecDepth 65536 in
theorem w_c36 : (Jvm.Cond.code ({ cls := "java/util/Arrays", name := "copyOfRangeByte", desc := "([BII)[B" } : Jvm.MethodName) jdk_65_method_133_code (5 : Nat) (Option.some (Jvm.ClassFile.FieldType.array Jvm.ClassFile.FieldType.byte))).before args0 about1 = true := code_word (m := ⟨20, 4⟩) (meth := k20m4) (c := k20c4) (by decide +kernel) rfl rfl rfl (by decide +kernel)
set_option maxRecDepth 65536 in
theorem w_c37 : (Jvm.Cond.code ({ cls := "java/util/Arrays", name := "checkLength", desc := "(II)V" } : Jvm.MethodName) jdk_65_method_131_code (2 : Nat) (Option.none : Option Jvm.ClassFile.FieldType)).before args0 about1 = true := code_word (m := ⟨20, 2⟩) (meth := k20m2) (c := k20c2) (by decide +kernel) rfl rfl rfl (by decide +kernel)
set_option maxRecDepth 65536 in
theorem w_c38 : (Jvm.Cond.code ({ cls := "java/lang/String", name := "equals", desc := "(Ljava/lang/Object;)Z" } : Jvm.MethodName) jdk_42_method_66_code (3 : Nat) (Option.some Jvm.ClassFile.FieldType.boolean)).before args0 about1 = true := code_word (m := ⟨10, 3⟩) (meth := k10m3) (c := k10c3) (by decide +kernel) rfl rfl rfl (by decide +kernel)
set_option maxRecDepth 65536 in
theorem w_c39 : (Jvm.Cond.code ({ cls := "java/lang/StringLatin1", name := "equals", desc := "([B[B)Z" } : Jvm.MethodName) jdk_43_method_13_code (3 : Nat) (Option.some Jvm.ClassFile.FieldType.boolean)).before args0 about1 = true := code_word (m := ⟨21, 1⟩) (meth := k21m1) (c := k21c1) (by decide +kernel) rfl rfl rfl (by decide +kernel)
set_option maxRecDepth 65536 in
theorem w_c40 : (Jvm.Cond.code ({ cls := "com/example/known_origins/knownorigins/store/LoadCount", name := "plus", desc := "(Lcom/example/known_origins/knownorigins/store/LoadCount;)Lcom/example/known_origins/knownorigins/store/LoadCount;" } : Jvm.MethodName) prog_24_method_7_code (2 : Nat) (Option.some (Jvm.ClassFile.FieldType.object "com/example/known_origins/knownorigins/store/LoadCount"))).before args0 about1 = true := code_word (m := ⟨7, 6⟩) (meth := k7m6) (c := k7c6) (by decide +kernel) rfl rfl rfl (by decide +kernel)
def codes1 : List Jvm.Cond := [Jvm.Cond.code x code maxLocals ret, Jvm.Cond.code ({ cls := "com/example/known_origins/knownorigins/store/LoadCount", name := "none", desc := "(Lcom/example/known_origins/knownorigins/store/IfStored;)Lcom/example/known_origins/knownorigins/store/LoadCount;" } : Jvm.MethodName) prog_24_method_2_code (1 : Nat) (Option.some (Jvm.ClassFile.FieldType.object "com/example/known_origins/knownorigins/store/LoadCount")), Jvm.Cond.code ({ cls := "com/example/known_origins/knownorigins/store/LoadCount", name := "<init>", desc := "(Lcom/example/known_origins/knownorigins/store/IfStored;JJJJ)V" } : Jvm.MethodName) prog_24_method_1_code (10 : Nat) (Option.none : Option Jvm.ClassFile.FieldType), Jvm.Cond.code ({ cls := "java/lang/Object", name := "<init>", desc := "()V" } : Jvm.MethodName) object_method_1_code (1 : Nat) (Option.none : Option Jvm.ClassFile.FieldType), Jvm.Cond.code ({ cls := "com/example/known_origins/knownorigins/store/LoadCount", name := "graphs", desc := "()J" } : Jvm.MethodName) prog_24_method_3_code (1 : Nat) (Option.some Jvm.ClassFile.FieldType.long), Jvm.Cond.code ({ cls := "com/example/known_origins/knownorigins/store/LoadCount", name := "triples", desc := "()J" } : Jvm.MethodName) prog_24_method_4_code (1 : Nat) (Option.some Jvm.ClassFile.FieldType.long), Jvm.Cond.code ({ cls := "com/example/known_origins/knownorigins/store/LoadCount", name := "skipped", desc := "()J" } : Jvm.MethodName) prog_24_method_5_code (1 : Nat) (Option.some Jvm.ClassFile.FieldType.long), Jvm.Cond.code ({ cls := "com/example/known_origins/knownorigins/store/LoadCount", name := "derived", desc := "()J" } : Jvm.MethodName) prog_24_method_6_code (1 : Nat) (Option.some Jvm.ClassFile.FieldType.long), Jvm.Cond.code ({ cls := "com/example/known_origins/knownorigins/store/LoadCount", name := "line", desc := "(Z)Ljava/lang/String;" } : Jvm.MethodName) prog_24_method_8_code (2 : Nat) (Option.some (Jvm.ClassFile.FieldType.object "java/lang/String")), Jvm.Cond.code ({ cls := "java/lang/StringBuilder", name := "<init>", desc := "()V" } : Jvm.MethodName) jdk_67_method_1_code (1 : Nat) (Option.none : Option Jvm.ClassFile.FieldType), Jvm.Cond.code ({ cls := "java/lang/AbstractStringBuilder", name := "<init>", desc := "(I)V" } : Jvm.MethodName) jdk_68_method_2_code (2 : Nat) (Option.none : Option Jvm.ClassFile.FieldType), Jvm.Cond.code ({ cls := "java/lang/StringBuilder", name := "append", desc := "(Ljava/lang/String;)Ljava/lang/StringBuilder;" } : Jvm.MethodName) jdk_67_method_7_code (2 : Nat) (Option.some (Jvm.ClassFile.FieldType.object "java/lang/StringBuilder")), Jvm.Cond.code ({ cls := "java/lang/AbstractStringBuilder", name := "append", desc := "(Ljava/lang/String;)Ljava/lang/AbstractStringBuilder;" } : Jvm.MethodName) jdk_68_method_22_code (3 : Nat) (Option.some (Jvm.ClassFile.FieldType.object "java/lang/AbstractStringBuilder")), Jvm.Cond.code ({ cls := "java/lang/String", name := "length", desc := "()I" } : Jvm.MethodName) jdk_42_method_54_code (1 : Nat) (Option.some Jvm.ClassFile.FieldType.int), Jvm.Cond.code ({ cls := "java/lang/String", name := "coder", desc := "()B" } : Jvm.MethodName) jdk_42_method_152_code (1 : Nat) (Option.some Jvm.ClassFile.FieldType.byte), Jvm.Cond.code ({ cls := "java/lang/AbstractStringBuilder", name := "ensureCapacityInternal", desc := "(I)V" } : Jvm.MethodName) jdk_68_method_9_code (3 : Nat) (Option.none : Option Jvm.ClassFile.FieldType), Jvm.Cond.code ({ cls := "java/lang/AbstractStringBuilder", name := "putStringAt", desc := "(ILjava/lang/String;)V" } : Jvm.MethodName) jdk_68_method_73_code (3 : Nat) (Option.none : Option Jvm.ClassFile.FieldType), Jvm.Cond.code ({ cls := "java/lang/AbstractStringBuilder", name := "inflateIfNeededFor", desc := "(Ljava/lang/String;)V" } : Jvm.MethodName) jdk_68_method_71_code (2 : Nat) (Option.none : Option Jvm.ClassFile.FieldType), Jvm.Cond.code ({ cls := "java/lang/String", name := "getBytes", desc := "([BIB)V" } : Jvm.MethodName) jdk_42_method_147_code (4 : Nat) (Option.none : Option Jvm.ClassFile.FieldType), Jvm.Cond.code ({ cls := "java/lang/StringBuilder", name := "append", desc := "(J)Ljava/lang/StringBuilder;" } : Jvm.MethodName) jdk_67_method_16_code (3 : Nat) (Option.some (Jvm.ClassFile.FieldType.object "java/lang/StringBuilder")), Jvm.Cond.code ({ cls := "java/lang/AbstractStringBuilder", name := "append", desc := "(J)Ljava/lang/AbstractStringBuilder;" } : Jvm.MethodName) jdk_68_method_33_code (5 : Nat) (Option.some (Jvm.ClassFile.FieldType.object "java/lang/AbstractStringBuilder")), Jvm.Cond.code ({ cls := "java/lang/Long", name := "stringSize", desc := "(J)I" } : Jvm.MethodName) jdk_35_method_15_code (6 : Nat) (Option.some Jvm.ClassFile.FieldType.int), Jvm.Cond.code ({ cls := "java/lang/AbstractStringBuilder", name := "isLatin1", desc := "()Z" } : Jvm.MethodName) jdk_68_method_68_code (1 : Nat) (Option.some Jvm.ClassFile.FieldType.boolean), Jvm.Cond.code ({ cls := "java/lang/Long", name := "getChars", desc := "(JI[B)I" } : Jvm.MethodName) jdk_35_method_14_code (11 : Nat) (Option.some Jvm.ClassFile.FieldType.int), Jvm.Cond.code ({ cls := "java/lang/AbstractStringBuilder", name := "newCapacity", desc := "(I)I" } : Jvm.MethodName) jdk_68_method_10_code (6 : Nat) (Option.some Jvm.ClassFile.FieldType.int), Jvm.Cond.code ({ cls := "jdk/internal/util/ArraysSupport", name := "newLength", desc := "(III)I" } : Jvm.MethodName) jdk_48_method_27_code (4 : Nat) (Option.some Jvm.ClassFile.FieldType.int), Jvm.Cond.code ({ cls := "java/lang/Math", name := "max", desc := "(II)I" } : Jvm.MethodName) jdk_29_method_65_code (2 : Nat) (Option.some Jvm.ClassFile.FieldType.int), Jvm.Cond.code ({ cls := "java/util/Arrays", name := "copyOf", desc := "([BI)[B" } : Jvm.MethodName) jdk_65_method_121_code (3 : Nat) (Option.some (Jvm.ClassFile.FieldType.array Jvm.ClassFile.FieldType.byte)), Jvm.Cond.code ({ cls := "java/lang/Math", name := "min", desc := "(II)I" } : Jvm.MethodName) jdk_29_method_69_code (2 : Nat) (Option.some Jvm.ClassFile.FieldType.int), Jvm.Cond.code ({ cls := "java/lang/StringBuilder", name := "toString", desc := "()Ljava/lang/String;" } : Jvm.MethodName) jdk_67_method_42_code (1 : Nat) (Option.some (Jvm.ClassFile.FieldType.object "java/lang/String")), Jvm.Cond.code ({ cls := "java/lang/String", name := "<init>", desc := "(Ljava/lang/StringBuilder;)V" } : Jvm.MethodName) jdk_42_method_53_code (2 : Nat) (Option.none : Option Jvm.ClassFile.FieldType), Jvm.Cond.code ({ cls := "java/lang/String", name := "<init>", desc := "(Ljava/lang/AbstractStringBuilder;Ljava/lang/Void;)V" } : Jvm.MethodName) jdk_42_method_150_code (5 : Nat) (Option.none : Option Jvm.ClassFile.FieldType), Jvm.Cond.code ({ cls := "java/lang/AbstractStringBuilder", name := "getValue", desc := "()[B" } : Jvm.MethodName) jdk_68_method_64_code (1 : Nat) (Option.some (Jvm.ClassFile.FieldType.array Jvm.ClassFile.FieldType.byte)), Jvm.Cond.code ({ cls := "java/lang/StringBuilder", name := "length", desc := "()I" } : Jvm.MethodName) jdk_67_method_93_code (1 : Nat) (Option.some Jvm.ClassFile.FieldType.int), Jvm.Cond.code ({ cls := "java/lang/AbstractStringBuilder", name := "length", desc := "()I" } : Jvm.MethodName) jdk_68_method_6_code (1 : Nat) (Option.some Jvm.ClassFile.FieldType.int), Jvm.Cond.code ({ cls := "java/util/Arrays", name := "copyOfRange", desc := "([BII)[B" } : Jvm.MethodName) jdk_65_method_132_code (3 : Nat) (Option.some (Jvm.ClassFile.FieldType.array Jvm.ClassFile.FieldType.byte)), Jvm.Cond.code ({ cls := "java/util/Arrays", name := "copyOfRangeByte", desc := "([BII)[B" } : Jvm.MethodName) jdk_65_method_133_code (5 : Nat) (Option.some (Jvm.ClassFile.FieldType.array Jvm.ClassFile.FieldType.byte)), Jvm.Cond.code ({ cls := "java/util/Arrays", name := "checkLength", desc := "(II)V" } : Jvm.MethodName) jdk_65_method_131_code (2 : Nat) (Option.none : Option Jvm.ClassFile.FieldType), Jvm.Cond.code ({ cls := "java/lang/String", name := "equals", desc := "(Ljava/lang/Object;)Z" } : Jvm.MethodName) jdk_42_method_66_code (3 : Nat) (Option.some Jvm.ClassFile.FieldType.boolean), Jvm.Cond.code ({ cls := "java/lang/StringLatin1", name := "equals", desc := "([B[B)Z" } : Jvm.MethodName) jdk_43_method_13_code (3 : Nat) (Option.some Jvm.ClassFile.FieldType.boolean), Jvm.Cond.code ({ cls := "com/example/known_origins/knownorigins/store/LoadCount", name := "plus", desc := "(Lcom/example/known_origins/knownorigins/store/LoadCount;)Lcom/example/known_origins/knownorigins/store/LoadCount;" } : Jvm.MethodName) prog_24_method_7_code (2 : Nat) (Option.some (Jvm.ClassFile.FieldType.object "com/example/known_origins/knownorigins/store/LoadCount"))]
set_option maxRecDepth 65536 in
theorem codes_eq : words1.filter isCode = codes1 := rfl
theorem w_codes : ∀ c ∈ words1.filter isCode, c.before args0 about1 = true := by
  rw [codes_eq]
  intro c hc
  simp only [codes1, List.mem_cons, List.not_mem_nil, or_false] at hc
  rcases hc with rfl | rfl | rfl | rfl | rfl | rfl | rfl | rfl | rfl | rfl | rfl | rfl | rfl | rfl | rfl | rfl | rfl | rfl | rfl | rfl | rfl | rfl | rfl | rfl | rfl | rfl | rfl | rfl | rfl | rfl | rfl | rfl | rfl | rfl | rfl | rfl | rfl | rfl | rfl | rfl | rfl
  · exact w_c0
  · exact w_c1
  · exact w_c2
  · exact w_c3
  · exact w_c4
  · exact w_c5
  · exact w_c6
  · exact w_c7
  · exact w_c8
  · exact w_c9
  · exact w_c10
  · exact w_c11
  · exact w_c12
  · exact w_c13
  · exact w_c14
  · exact w_c15
  · exact w_c16
  · exact w_c17
  · exact w_c18
  · exact w_c19
  · exact w_c20
  · exact w_c21
  · exact w_c22
  · exact w_c23
  · exact w_c24
  · exact w_c25
  · exact w_c26
  · exact w_c27
  · exact w_c28
  · exact w_c29
  · exact w_c30
  · exact w_c31
  · exact w_c32
  · exact w_c33
  · exact w_c34
  · exact w_c35
  · exact w_c36
  · exact w_c37
  · exact w_c38
  · exact w_c39
  · exact w_c40
set_option maxRecDepth 65536 in
theorem w_t1 : (words1.take 24).all (fun c => isCode c || c.before args0 about1) = true := by decide +kernel
set_option maxRecDepth 65536 in
theorem w_t2 : ((words1.drop 24).take 24).all (fun c => isCode c || c.before args0 about1) = true := by decide +kernel
set_option maxRecDepth 65536 in
theorem w_t3 : (((words1.drop 24).drop 24).take 24).all (fun c => isCode c || c.before args0 about1) = true := by decide +kernel
set_option maxRecDepth 65536 in
theorem w_t4 : ((((words1.drop 24).drop 24).drop 24).take 24).all (fun c => isCode c || c.before args0 about1) = true := by decide +kernel
set_option maxRecDepth 65536 in
theorem w_t5 : (((((words1.drop 24).drop 24).drop 24).drop 24).take 24).all (fun c => isCode c || c.before args0 about1) = true := by decide +kernel
set_option maxRecDepth 65536 in
theorem w_t6 : ((((((words1.drop 24).drop 24).drop 24).drop 24).drop 24).take 24).all (fun c => isCode c || c.before args0 about1) = true := by decide +kernel
set_option maxRecDepth 65536 in
theorem w_t7 : (((((((words1.drop 24).drop 24).drop 24).drop 24).drop 24).drop 24).take 24).all (fun c => isCode c || c.before args0 about1) = true := by decide +kernel
set_option maxRecDepth 65536 in
theorem w_t8 : ((((((((words1.drop 24).drop 24).drop 24).drop 24).drop 24).drop 24).drop 24).take 24).all (fun c => isCode c || c.before args0 about1) = true := by decide +kernel
set_option maxRecDepth 65536 in
theorem w_t9 : (((((((((words1.drop 24).drop 24).drop 24).drop 24).drop 24).drop 24).drop 24).drop 24).take 24).all (fun c => isCode c || c.before args0 about1) = true := by decide +kernel
set_option maxRecDepth 65536 in
theorem w_t10 : (((((((((words1.drop 24).drop 24).drop 24).drop 24).drop 24).drop 24).drop 24).drop 24).drop 24).all (fun c => isCode c || c.before args0 about1) = true := by decide +kernel
theorem w_tables : (allAtoms (Jvm.Cond.code x code maxLocals ret :: tables_1)).before args0 about1 = true := by
  rw [allAtoms_all]
  show words1.all (fun c => c.before args0 about1) = true
  refine all_split ?_ w_codes
  rw [← List.take_append_drop 24 words1, List.all_append, w_t1, ← List.take_append_drop 24 (words1.drop 24), List.all_append, w_t2, ← List.take_append_drop 24 ((words1.drop 24).drop 24), List.all_append, w_t3, ← List.take_append_drop 24 (((words1.drop 24).drop 24).drop 24), List.all_append, w_t4, ← List.take_append_drop 24 ((((words1.drop 24).drop 24).drop 24).drop 24), List.all_append, w_t5, ← List.take_append_drop 24 (((((words1.drop 24).drop 24).drop 24).drop 24).drop 24), List.all_append, w_t6, ← List.take_append_drop 24 ((((((words1.drop 24).drop 24).drop 24).drop 24).drop 24).drop 24), List.all_append, w_t7, ← List.take_append_drop 24 (((((((words1.drop 24).drop 24).drop 24).drop 24).drop 24).drop 24).drop 24), List.all_append, w_t8, ← List.take_append_drop 24 ((((((((words1.drop 24).drop 24).drop 24).drop 24).drop 24).drop 24).drop 24).drop 24), List.all_append, w_t9, w_t10]
  rfl
set_option maxRecDepth 65536 in
theorem w_rest : rest_1_c.before args0 about1 = true := by decide +kernel
set_option maxRecDepth 65536 in
theorem w_case : (Jvm.Cond.and given_1 narrow_1).before args0 about1 = true := by decide +kernel
set_option maxRecDepth 65536 in
theorem w_consts : constsHeld consts_1 about1 := Jvm.Lit.constsHeldB_iff.mp (by decide +kernel)
theorem w_applies : (headSpec (Jvm.Cond.code x code maxLocals ret :: tables_1) room_1).applies x e0.platform about1 = true :=
  (Spec.applies_iff w_frames).mpr ⟨w_running, w_runnable, w_alone, w_named, w_hears, w_ripe, w_room, w_tables⟩
theorem atStart : AtStart classFile x code maxLocals ret World_1 tables_1 room_1 Calls_1 rest_1 Pre_1 launch0 p0 e0 about1 theMethod args0 below0 :=
  ⟨lists_1, trivial, launch0.admits_env _ _ _, launch0.least_env, fairChoices_fair.cas, fairChoices_fair.clock, w_frames, w_args, w_heap, w_applies, ⟨w_consts, trivial⟩, w_rest, w_case⟩
end start1
theorem witness_1 : WitnessClaimed_1 := ⟨start1.p0, start1.e0, start1.about1, start1.theMethod, start1.args0, start1.below0, start1.atStart⟩
end Jvm.Pilot.@@N@@
