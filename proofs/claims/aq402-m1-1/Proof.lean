import JvmDerived
import JvmDerived.Pilot.@@N@@Statement
import JvmDerived.Pilot.@@N@@Code
set_option linter.unusedVariables false
set_option linter.unusedSimpArgs false
@@BLOCK:NumsL.lean.txt@@
namespace Jvm.Pilot.@@N@@
open Jvm Jvm.ClassFile Sem Op Lib Jvm.Free Jvm.Stand Jvm.LawKit Jvm.RoadKit Bundle Jvm.Pilot.@@N@@.Jvm.D
def QR (r : Value) (h0 : Heap) (n0 : Nat) (v : Option Value) (h : Heap) (L : List Loc) : Prop := v = some r ∧ Fr n0 L ∧ h = h0
def RO (l : Launch) (Z : State) (y : MethodName) (bytes : ByteArray) (ml : Nat) (rt : Option FieldType) (R : Room) (as : Array Value) (h0 : Heap) (n0 : Nat) (r : Value) : Prop :=
  ∀ ws : List Jvm.Cond, MetFree l y (head1 (Jvm.Cond.code y bytes ml rt :: ws) R) (fun a U => a = as ∧ Z.Warmed39 U.vm ∧ U.heap = h0) (fun _ _ _ _ _ => True) (fun _ U o U' => ∃ v L, o = .returned v ∧ QR r h0 n0 v U'.heap L ∧ FrameEnd U o U' L R.cells R.slots)
theorem own_eq_int {t : Term} {n : Int32} {args : Array Value} {Z : State} (h : (Jvm.Cond.eq t (.int n)).value args Z none Z [] = some true) : t.eval args Z none [] Z = some (.int n) := by
  have hn : (Term.int n).eval args Z none [] Z = some (.int n) := rfl
  simp only [Cond.value, hn] at h
  cases ht : t.eval args Z none [] Z with
  | none => simp [ht] at h
  | some x => cases x <;> simp [ht] at h ⊢; exact h
theorem own_eq_ref {t u : Term} {a : Addr} {args : Array Value} {Z : State} (h : (Jvm.Cond.eq t u).value args Z none Z [] = some true) (hu : u.eval args Z none [] Z = some (.ref a)) : t.eval args Z none [] Z = some (.ref a) := by
  simp only [Cond.value, hu] at h
  cases ht : t.eval args Z none [] Z with
  | none => simp [ht] at h
  | some x => cases x <;> simp [ht] at h ⊢; exact h
theorem own_ne {Z : State} {a b : Addr} {C n d : String} {u v : Value} (h1 : Z.fieldOf? a C n d = some u) (h2 : Z.fieldOf? b C n d = some v) (h : u ≠ v) : ¬ (a = b) := fun e => by
  subst e; rw [h1] at h2; exact h (Option.some.inj h2)
theorem own_sel (k n : Int32) (hn : 0 < n.toInt) : 0 ≤ ((k &&& (2147483647 : Int32)) % n).toInt ∧ ((k &&& (2147483647 : Int32)) % n).toInt < n.toInt := by
  have e1 : (k &&& (2147483647 : Int32)).toInt = k.toInt % 2 ^ 31 := Jvm.Kit.i32_mask k 2147483647 (k := 31) (by decide) (by decide)
  have e0 : 0 ≤ (k &&& (2147483647 : Int32)).toInt := by rw [e1]; omega
  have e2 := Jvm.Kit.i32_rem_nonneg (x := (k &&& (2147483647 : Int32))) (y := n) e0
  rw [e2]
  exact ⟨Int.emod_nonneg _ (by omega), Int.emod_lt_of_pos _ hn⟩
theorem own_sel5 (k : Int32) : (k &&& (2147483647 : Int32)) % (5 : Int32) = 0 ∨ (k &&& (2147483647 : Int32)) % (5 : Int32) = 1 ∨ (k &&& (2147483647 : Int32)) % (5 : Int32) = 2 ∨ (k &&& (2147483647 : Int32)) % (5 : Int32) = 3 ∨ (k &&& (2147483647 : Int32)) % (5 : Int32) = 4 := by
  have h := own_sel k 5 (by decide)
  generalize (k &&& (2147483647 : Int32)) % (5 : Int32) = z at *
  have h3 : (5 : Int32).toInt = 5 := rfl
  rw [h3] at h
  have q : z.toInt = 0 ∨ z.toInt = 1 ∨ z.toInt = 2 ∨ z.toInt = 3 ∨ z.toInt = 4 := by omega
  rcases q with q | q | q | q | q
  · exact Or.inl (Int32.toInt_inj.mp q)
  · exact Or.inr (Or.inl (Int32.toInt_inj.mp q))
  · exact Or.inr (Or.inr (Or.inl (Int32.toInt_inj.mp q)))
  · exact Or.inr (Or.inr (Or.inr (Or.inl (Int32.toInt_inj.mp q))))
  · exact Or.inr (Or.inr (Or.inr (Or.inr (Int32.toInt_inj.mp q))))
theorem d1_0 : decode method_2_code 0 = .ok (.iload_n 0, 1) := by decide +kernel
theorem d1_1 : decode method_2_code 1 = .ok (.ifCond .ne 7, 3) := by decide +kernel
theorem d1_4 : decode method_2_code 4 = .ok (.getstatic 7, 3) := by decide +kernel
theorem d1_7 : decode method_2_code 7 = .ok (.areturn, 1) := by decide +kernel
theorem pn_1 : plainName "com/example/shelfmark/shelfmark/RoleIncludesPinLaw" = true := by first | (simp [plainName, overriddenIn]; done) | decide +kernel
theorem ef_1 (m : MethodId) (x0 : Int32) : entryFrame m #[(.int x0)] 1 = mkF m 0 #[.val (.int x0)] [] := by first | (simp [entryFrame, mkF, argsToLocals, Value.category]; done) | rfl
set_option maxRecDepth 65536 in
set_option maxHeartbeats 40000000 in
theorem pick_0 (l : Launch) (Z : State) (a0 : Array Value) (hw : ∀ d ∈ tables_1, d.before a0 Z = true) (i : Int32) (a : Addr) (h0 : Heap) (n0 : Nat) (Z0 : n0 ≤ h0.size) (S_MEMBER : Sta Z h0 "com/example/shelfmark/shelfmark/Role" "MEMBER" "Lcom/example/shelfmark/shelfmark/Role;" (.ref a)) (hc1 : i = (0 : Int32)) :
    RO l Z (⟨"com/example/shelfmark/shelfmark/RoleIncludesPinLaw", "pick", "(I)Lcom/example/shelfmark/shelfmark/Role;"⟩ : MethodName) method_2_code 1 (some (.object "com/example/shelfmark/shelfmark/Role")) ({ frames := 0, cells := 0, slots := 0, locals := 0 } : Room) #[(.int i)] h0 n0 (.ref a) := by
  intro ws
  refine MetFree.of_bodySF (plainFor_of_name pn_1) hisR ?_
  intro p e s m args below meth c s₁ Bd hml0 hP hK
  obtain ⟨rfl, hZ, hh⟩ := hP
  have hx := Bd.exec
  have hby := Bd.bytes
  have hml : c.maxLocals = 1 := hml0
  have hown : s.vm.findClass "com/example/shelfmark/shelfmark/RoleIncludesPinLaw" = some m.cls := findClass_of_methodNamed Bd.named
  have hnm := (name_of_methodNamed Bd.named Bd.method).1
  have X0 : Stand p l e ({ frames := 0, cells := 0, slots := 0, locals := 0 } : Room) s m #[(.int i)] below meth c s₁ [] 0 0 := Stand.of_body Bd
  have e0 : s₁.heap = h0 := by rw [← hh, Bd.state]; rfl
  have N0 := Fr.nil n0
  have pre0 : ∀ t_, Steps p.tables e below (s₁.setTop (mkF m 0 #[.val (.int i)] [])) t_ → Steps p.tables e below (s₁.setTop (entryFrame m #[(.int i)] 1)) t_ := fun t_ k_ => castTop (ef_1 m i) k_
  obtain ⟨T1, X1, e1, st1⟩ := getS2 X0 hx hZ hown (host := "") (Or.inl (hw _ (List.mem_of_getElem? (i := 5) rfl))) Via.refl e0 S_MEMBER (g := (mkF m 4 #[.val (.int i)] [])) rfl (hb hby d1_4)
  obtain ⟨fs, hr, hrun, hended, hW, hsame⟩ := X1.leave (v := some (.ref a)) (fun h => by rw [Bd.returns] at h; cases h)
  refine ⟨_, _, pre0 _ ?_, hrun, hended, _, _, rfl, ?_, ⟨_, rfl⟩, hW, hsame.mono (by decide) (by decide)⟩
  · show Steps p.tables e below (s₁.setTop (mkF m 0 #[.val (.int i)] [])) _
    refine XS.iloadN X0.here hx rfl (hb hby d1_0) rfl ?_
    show Steps p.tables e below (s₁.setTop (mkF m 1 #[.val (.int i)] [(.int i)])) _
    refine XS.ifNo X0.here hx rfl (hb hby d1_1) rfl ((if0 _ _).trans (teq hc1).2) ?_
    show Steps p.tables e below (s₁.setTop (mkF m 4 #[.val (.int i)] [])) _
    refine st1 _ ?_
    show Steps p.tables e below (T1.setTop (mkF m 7 #[.val (.int i)] [(.ref a)])) _
    jvm_step X1.here [X1.here.top, hx, (hb hby d1_7), X1.method', Bd.returns, Value.isRef, FieldType.isReference]
    first | (intro acts; rw [hr _ acts rfl rfl rfl]) | rw [hr _ _ rfl rfl rfl]
    exact Steps.refl _
  · exact ⟨rfl, N0, e1⟩
theorem d1_8 : decode method_2_code 8 = .ok (.iload_n 0, 1) := by decide +kernel
theorem d1_9 : decode method_2_code 9 = .ok (.iconst 1, 1) := by decide +kernel
theorem d1_10 : decode method_2_code 10 = .ok (.if_icmp .ne 7, 3) := by decide +kernel
theorem d1_13 : decode method_2_code 13 = .ok (.getstatic 13, 3) := by decide +kernel
theorem d1_16 : decode method_2_code 16 = .ok (.areturn, 1) := by decide +kernel
set_option maxRecDepth 65536 in
set_option maxHeartbeats 40000000 in
theorem pick_1 (l : Launch) (Z : State) (a0 : Array Value) (hw : ∀ d ∈ tables_1, d.before a0 Z = true) (i : Int32) (a : Addr) (h0 : Heap) (n0 : Nat) (Z0 : n0 ≤ h0.size) (S_EDITOR : Sta Z h0 "com/example/shelfmark/shelfmark/Role" "EDITOR" "Lcom/example/shelfmark/shelfmark/Role;" (.ref a)) (hc1 : ¬ (i = (0 : Int32))) (hc10 : i = (1 : Int32)) :
    RO l Z (⟨"com/example/shelfmark/shelfmark/RoleIncludesPinLaw", "pick", "(I)Lcom/example/shelfmark/shelfmark/Role;"⟩ : MethodName) method_2_code 1 (some (.object "com/example/shelfmark/shelfmark/Role")) ({ frames := 0, cells := 0, slots := 0, locals := 0 } : Room) #[(.int i)] h0 n0 (.ref a) := by
  intro ws
  refine MetFree.of_bodySF (plainFor_of_name pn_1) hisR ?_
  intro p e s m args below meth c s₁ Bd hml0 hP hK
  obtain ⟨rfl, hZ, hh⟩ := hP
  have hx := Bd.exec
  have hby := Bd.bytes
  have hml : c.maxLocals = 1 := hml0
  have hown : s.vm.findClass "com/example/shelfmark/shelfmark/RoleIncludesPinLaw" = some m.cls := findClass_of_methodNamed Bd.named
  have hnm := (name_of_methodNamed Bd.named Bd.method).1
  have X0 : Stand p l e ({ frames := 0, cells := 0, slots := 0, locals := 0 } : Room) s m #[(.int i)] below meth c s₁ [] 0 0 := Stand.of_body Bd
  have e0 : s₁.heap = h0 := by rw [← hh, Bd.state]; rfl
  have N0 := Fr.nil n0
  have pre0 : ∀ t_, Steps p.tables e below (s₁.setTop (mkF m 0 #[.val (.int i)] [])) t_ → Steps p.tables e below (s₁.setTop (entryFrame m #[(.int i)] 1)) t_ := fun t_ k_ => castTop (ef_1 m i) k_
  obtain ⟨T1, X1, e1, st1⟩ := getS2 X0 hx hZ hown (host := "") (Or.inl (hw _ (List.mem_of_getElem? (i := 19) rfl))) Via.refl e0 S_EDITOR (g := (mkF m 13 #[.val (.int i)] [])) rfl (hb hby d1_13)
  obtain ⟨fs, hr, hrun, hended, hW, hsame⟩ := X1.leave (v := some (.ref a)) (fun h => by rw [Bd.returns] at h; cases h)
  refine ⟨_, _, pre0 _ ?_, hrun, hended, _, _, rfl, ?_, ⟨_, rfl⟩, hW, hsame.mono (by decide) (by decide)⟩
  · show Steps p.tables e below (s₁.setTop (mkF m 0 #[.val (.int i)] [])) _
    refine XS.iloadN X0.here hx rfl (hb hby d1_0) rfl ?_
    show Steps p.tables e below (s₁.setTop (mkF m 1 #[.val (.int i)] [(.int i)])) _
    refine XS.ifYes X0.here hx rfl (pc0 := 1) (pc' := 8) rfl (hb hby d1_1) rfl ((if0 _ _).trans (feq hc1).2) (by decide) (by decide) ?_
    show Steps p.tables e below (s₁.setTop (mkF m 8 #[.val (.int i)] [])) _
    refine XS.iloadN X0.here hx rfl (hb hby d1_8) rfl ?_
    show Steps p.tables e below (s₁.setTop (mkF m 9 #[.val (.int i)] [(.int i)])) _
    refine XS.iconst X0.here hx rfl (hb hby d1_9) ?_
    show Steps p.tables e below (s₁.setTop (mkF m 10 #[.val (.int i)] [(.int (1 : Int32)), (.int i)])) _
    refine XS.icmpNo X0.here hx rfl (hb hby d1_10) rfl (teq hc10).2 ?_
    show Steps p.tables e below (s₁.setTop (mkF m 13 #[.val (.int i)] [])) _
    refine st1 _ ?_
    show Steps p.tables e below (T1.setTop (mkF m 16 #[.val (.int i)] [(.ref a)])) _
    jvm_step X1.here [X1.here.top, hx, (hb hby d1_16), X1.method', Bd.returns, Value.isRef, FieldType.isReference]
    first | (intro acts; rw [hr _ acts rfl rfl rfl]) | rw [hr _ _ rfl rfl rfl]
    exact Steps.refl _
  · exact ⟨rfl, N0, e1⟩
theorem d1_17 : decode method_2_code 17 = .ok (.iload_n 0, 1) := by decide +kernel
theorem d1_18 : decode method_2_code 18 = .ok (.iconst 2, 1) := by decide +kernel
theorem d1_19 : decode method_2_code 19 = .ok (.if_icmp .ne 7, 3) := by decide +kernel
theorem d1_22 : decode method_2_code 22 = .ok (.getstatic 16, 3) := by decide +kernel
theorem d1_25 : decode method_2_code 25 = .ok (.areturn, 1) := by decide +kernel
set_option maxRecDepth 65536 in
set_option maxHeartbeats 40000000 in
theorem pick_2 (l : Launch) (Z : State) (a0 : Array Value) (hw : ∀ d ∈ tables_1, d.before a0 Z = true) (i : Int32) (a : Addr) (h0 : Heap) (n0 : Nat) (Z0 : n0 ≤ h0.size) (S_ADMIN : Sta Z h0 "com/example/shelfmark/shelfmark/Role" "ADMIN" "Lcom/example/shelfmark/shelfmark/Role;" (.ref a)) (hc1 : ¬ (i = (0 : Int32))) (hc10 : ¬ (i = (1 : Int32))) (hc19 : i = (2 : Int32)) :
    RO l Z (⟨"com/example/shelfmark/shelfmark/RoleIncludesPinLaw", "pick", "(I)Lcom/example/shelfmark/shelfmark/Role;"⟩ : MethodName) method_2_code 1 (some (.object "com/example/shelfmark/shelfmark/Role")) ({ frames := 0, cells := 0, slots := 0, locals := 0 } : Room) #[(.int i)] h0 n0 (.ref a) := by
  intro ws
  refine MetFree.of_bodySF (plainFor_of_name pn_1) hisR ?_
  intro p e s m args below meth c s₁ Bd hml0 hP hK
  obtain ⟨rfl, hZ, hh⟩ := hP
  have hx := Bd.exec
  have hby := Bd.bytes
  have hml : c.maxLocals = 1 := hml0
  have hown : s.vm.findClass "com/example/shelfmark/shelfmark/RoleIncludesPinLaw" = some m.cls := findClass_of_methodNamed Bd.named
  have hnm := (name_of_methodNamed Bd.named Bd.method).1
  have X0 : Stand p l e ({ frames := 0, cells := 0, slots := 0, locals := 0 } : Room) s m #[(.int i)] below meth c s₁ [] 0 0 := Stand.of_body Bd
  have e0 : s₁.heap = h0 := by rw [← hh, Bd.state]; rfl
  have N0 := Fr.nil n0
  have pre0 : ∀ t_, Steps p.tables e below (s₁.setTop (mkF m 0 #[.val (.int i)] [])) t_ → Steps p.tables e below (s₁.setTop (entryFrame m #[(.int i)] 1)) t_ := fun t_ k_ => castTop (ef_1 m i) k_
  obtain ⟨T1, X1, e1, st1⟩ := getS2 X0 hx hZ hown (host := "") (Or.inl (hw _ (List.mem_of_getElem? (i := 21) rfl))) Via.refl e0 S_ADMIN (g := (mkF m 22 #[.val (.int i)] [])) rfl (hb hby d1_22)
  obtain ⟨fs, hr, hrun, hended, hW, hsame⟩ := X1.leave (v := some (.ref a)) (fun h => by rw [Bd.returns] at h; cases h)
  refine ⟨_, _, pre0 _ ?_, hrun, hended, _, _, rfl, ?_, ⟨_, rfl⟩, hW, hsame.mono (by decide) (by decide)⟩
  · show Steps p.tables e below (s₁.setTop (mkF m 0 #[.val (.int i)] [])) _
    refine XS.iloadN X0.here hx rfl (hb hby d1_0) rfl ?_
    show Steps p.tables e below (s₁.setTop (mkF m 1 #[.val (.int i)] [(.int i)])) _
    refine XS.ifYes X0.here hx rfl (pc0 := 1) (pc' := 8) rfl (hb hby d1_1) rfl ((if0 _ _).trans (feq hc1).2) (by decide) (by decide) ?_
    show Steps p.tables e below (s₁.setTop (mkF m 8 #[.val (.int i)] [])) _
    refine XS.iloadN X0.here hx rfl (hb hby d1_8) rfl ?_
    show Steps p.tables e below (s₁.setTop (mkF m 9 #[.val (.int i)] [(.int i)])) _
    refine XS.iconst X0.here hx rfl (hb hby d1_9) ?_
    show Steps p.tables e below (s₁.setTop (mkF m 10 #[.val (.int i)] [(.int (1 : Int32)), (.int i)])) _
    refine XS.icmpYes X0.here hx rfl (pc0 := 10) (pc' := 17) rfl (hb hby d1_10) rfl (feq hc10).2 (by decide) (by decide) ?_
    show Steps p.tables e below (s₁.setTop (mkF m 17 #[.val (.int i)] [])) _
    refine XS.iloadN X0.here hx rfl (hb hby d1_17) rfl ?_
    show Steps p.tables e below (s₁.setTop (mkF m 18 #[.val (.int i)] [(.int i)])) _
    refine XS.iconst X0.here hx rfl (hb hby d1_18) ?_
    show Steps p.tables e below (s₁.setTop (mkF m 19 #[.val (.int i)] [(.int (2 : Int32)), (.int i)])) _
    refine XS.icmpNo X0.here hx rfl (hb hby d1_19) rfl (teq hc19).2 ?_
    show Steps p.tables e below (s₁.setTop (mkF m 22 #[.val (.int i)] [])) _
    refine st1 _ ?_
    show Steps p.tables e below (T1.setTop (mkF m 25 #[.val (.int i)] [(.ref a)])) _
    jvm_step X1.here [X1.here.top, hx, (hb hby d1_25), X1.method', Bd.returns, Value.isRef, FieldType.isReference]
    first | (intro acts; rw [hr _ acts rfl rfl rfl]) | rw [hr _ _ rfl rfl rfl]
    exact Steps.refl _
  · exact ⟨rfl, N0, e1⟩
theorem d1_26 : decode method_2_code 26 = .ok (.iload_n 0, 1) := by decide +kernel
theorem d1_27 : decode method_2_code 27 = .ok (.iconst 3, 1) := by decide +kernel
theorem d1_28 : decode method_2_code 28 = .ok (.if_icmp .ne 7, 3) := by decide +kernel
theorem d1_31 : decode method_2_code 31 = .ok (.getstatic 19, 3) := by decide +kernel
theorem d1_34 : decode method_2_code 34 = .ok (.areturn, 1) := by decide +kernel
set_option maxRecDepth 65536 in
set_option maxHeartbeats 40000000 in
theorem pick_3 (l : Launch) (Z : State) (a0 : Array Value) (hw : ∀ d ∈ tables_1, d.before a0 Z = true) (i : Int32) (a : Addr) (h0 : Heap) (n0 : Nat) (Z0 : n0 ≤ h0.size) (S_MANAGER : Sta Z h0 "com/example/shelfmark/shelfmark/Role" "MANAGER" "Lcom/example/shelfmark/shelfmark/Role;" (.ref a)) (hc1 : ¬ (i = (0 : Int32))) (hc10 : ¬ (i = (1 : Int32))) (hc19 : ¬ (i = (2 : Int32))) (hc28 : i = (3 : Int32)) :
    RO l Z (⟨"com/example/shelfmark/shelfmark/RoleIncludesPinLaw", "pick", "(I)Lcom/example/shelfmark/shelfmark/Role;"⟩ : MethodName) method_2_code 1 (some (.object "com/example/shelfmark/shelfmark/Role")) ({ frames := 0, cells := 0, slots := 0, locals := 0 } : Room) #[(.int i)] h0 n0 (.ref a) := by
  intro ws
  refine MetFree.of_bodySF (plainFor_of_name pn_1) hisR ?_
  intro p e s m args below meth c s₁ Bd hml0 hP hK
  obtain ⟨rfl, hZ, hh⟩ := hP
  have hx := Bd.exec
  have hby := Bd.bytes
  have hml : c.maxLocals = 1 := hml0
  have hown : s.vm.findClass "com/example/shelfmark/shelfmark/RoleIncludesPinLaw" = some m.cls := findClass_of_methodNamed Bd.named
  have hnm := (name_of_methodNamed Bd.named Bd.method).1
  have X0 : Stand p l e ({ frames := 0, cells := 0, slots := 0, locals := 0 } : Room) s m #[(.int i)] below meth c s₁ [] 0 0 := Stand.of_body Bd
  have e0 : s₁.heap = h0 := by rw [← hh, Bd.state]; rfl
  have N0 := Fr.nil n0
  have pre0 : ∀ t_, Steps p.tables e below (s₁.setTop (mkF m 0 #[.val (.int i)] [])) t_ → Steps p.tables e below (s₁.setTop (entryFrame m #[(.int i)] 1)) t_ := fun t_ k_ => castTop (ef_1 m i) k_
  obtain ⟨T1, X1, e1, st1⟩ := getS2 X0 hx hZ hown (host := "") (Or.inl (hw _ (List.mem_of_getElem? (i := 8) rfl))) Via.refl e0 S_MANAGER (g := (mkF m 31 #[.val (.int i)] [])) rfl (hb hby d1_31)
  obtain ⟨fs, hr, hrun, hended, hW, hsame⟩ := X1.leave (v := some (.ref a)) (fun h => by rw [Bd.returns] at h; cases h)
  refine ⟨_, _, pre0 _ ?_, hrun, hended, _, _, rfl, ?_, ⟨_, rfl⟩, hW, hsame.mono (by decide) (by decide)⟩
  · show Steps p.tables e below (s₁.setTop (mkF m 0 #[.val (.int i)] [])) _
    refine XS.iloadN X0.here hx rfl (hb hby d1_0) rfl ?_
    show Steps p.tables e below (s₁.setTop (mkF m 1 #[.val (.int i)] [(.int i)])) _
    refine XS.ifYes X0.here hx rfl (pc0 := 1) (pc' := 8) rfl (hb hby d1_1) rfl ((if0 _ _).trans (feq hc1).2) (by decide) (by decide) ?_
    show Steps p.tables e below (s₁.setTop (mkF m 8 #[.val (.int i)] [])) _
    refine XS.iloadN X0.here hx rfl (hb hby d1_8) rfl ?_
    show Steps p.tables e below (s₁.setTop (mkF m 9 #[.val (.int i)] [(.int i)])) _
    refine XS.iconst X0.here hx rfl (hb hby d1_9) ?_
    show Steps p.tables e below (s₁.setTop (mkF m 10 #[.val (.int i)] [(.int (1 : Int32)), (.int i)])) _
    refine XS.icmpYes X0.here hx rfl (pc0 := 10) (pc' := 17) rfl (hb hby d1_10) rfl (feq hc10).2 (by decide) (by decide) ?_
    show Steps p.tables e below (s₁.setTop (mkF m 17 #[.val (.int i)] [])) _
    refine XS.iloadN X0.here hx rfl (hb hby d1_17) rfl ?_
    show Steps p.tables e below (s₁.setTop (mkF m 18 #[.val (.int i)] [(.int i)])) _
    refine XS.iconst X0.here hx rfl (hb hby d1_18) ?_
    show Steps p.tables e below (s₁.setTop (mkF m 19 #[.val (.int i)] [(.int (2 : Int32)), (.int i)])) _
    refine XS.icmpYes X0.here hx rfl (pc0 := 19) (pc' := 26) rfl (hb hby d1_19) rfl (feq hc19).2 (by decide) (by decide) ?_
    show Steps p.tables e below (s₁.setTop (mkF m 26 #[.val (.int i)] [])) _
    refine XS.iloadN X0.here hx rfl (hb hby d1_26) rfl ?_
    show Steps p.tables e below (s₁.setTop (mkF m 27 #[.val (.int i)] [(.int i)])) _
    refine XS.iconst X0.here hx rfl (hb hby d1_27) ?_
    show Steps p.tables e below (s₁.setTop (mkF m 28 #[.val (.int i)] [(.int (3 : Int32)), (.int i)])) _
    refine XS.icmpNo X0.here hx rfl (hb hby d1_28) rfl (teq hc28).2 ?_
    show Steps p.tables e below (s₁.setTop (mkF m 31 #[.val (.int i)] [])) _
    refine st1 _ ?_
    show Steps p.tables e below (T1.setTop (mkF m 34 #[.val (.int i)] [(.ref a)])) _
    jvm_step X1.here [X1.here.top, hx, (hb hby d1_34), X1.method', Bd.returns, Value.isRef, FieldType.isReference]
    first | (intro acts; rw [hr _ acts rfl rfl rfl]) | rw [hr _ _ rfl rfl rfl]
    exact Steps.refl _
  · exact ⟨rfl, N0, e1⟩
theorem d1_35 : decode method_2_code 35 = .ok (.getstatic 22, 3) := by decide +kernel
theorem d1_38 : decode method_2_code 38 = .ok (.areturn, 1) := by decide +kernel
set_option maxRecDepth 65536 in
set_option maxHeartbeats 40000000 in
theorem pick_4 (l : Launch) (Z : State) (a0 : Array Value) (hw : ∀ d ∈ tables_1, d.before a0 Z = true) (i : Int32) (a : Addr) (h0 : Heap) (n0 : Nat) (Z0 : n0 ≤ h0.size) (S_MODERATOR : Sta Z h0 "com/example/shelfmark/shelfmark/Role" "MODERATOR" "Lcom/example/shelfmark/shelfmark/Role;" (.ref a)) (hc1 : ¬ (i = (0 : Int32))) (hc10 : ¬ (i = (1 : Int32))) (hc19 : ¬ (i = (2 : Int32))) (hc28 : ¬ (i = (3 : Int32))) :
    RO l Z (⟨"com/example/shelfmark/shelfmark/RoleIncludesPinLaw", "pick", "(I)Lcom/example/shelfmark/shelfmark/Role;"⟩ : MethodName) method_2_code 1 (some (.object "com/example/shelfmark/shelfmark/Role")) ({ frames := 0, cells := 0, slots := 0, locals := 0 } : Room) #[(.int i)] h0 n0 (.ref a) := by
  intro ws
  refine MetFree.of_bodySF (plainFor_of_name pn_1) hisR ?_
  intro p e s m args below meth c s₁ Bd hml0 hP hK
  obtain ⟨rfl, hZ, hh⟩ := hP
  have hx := Bd.exec
  have hby := Bd.bytes
  have hml : c.maxLocals = 1 := hml0
  have hown : s.vm.findClass "com/example/shelfmark/shelfmark/RoleIncludesPinLaw" = some m.cls := findClass_of_methodNamed Bd.named
  have hnm := (name_of_methodNamed Bd.named Bd.method).1
  have X0 : Stand p l e ({ frames := 0, cells := 0, slots := 0, locals := 0 } : Room) s m #[(.int i)] below meth c s₁ [] 0 0 := Stand.of_body Bd
  have e0 : s₁.heap = h0 := by rw [← hh, Bd.state]; rfl
  have N0 := Fr.nil n0
  have pre0 : ∀ t_, Steps p.tables e below (s₁.setTop (mkF m 0 #[.val (.int i)] [])) t_ → Steps p.tables e below (s₁.setTop (entryFrame m #[(.int i)] 1)) t_ := fun t_ k_ => castTop (ef_1 m i) k_
  obtain ⟨T1, X1, e1, st1⟩ := getS2 X0 hx hZ hown (host := "") (Or.inl (hw _ (List.mem_of_getElem? (i := 17) rfl))) Via.refl e0 S_MODERATOR (g := (mkF m 35 #[.val (.int i)] [])) rfl (hb hby d1_35)
  obtain ⟨fs, hr, hrun, hended, hW, hsame⟩ := X1.leave (v := some (.ref a)) (fun h => by rw [Bd.returns] at h; cases h)
  refine ⟨_, _, pre0 _ ?_, hrun, hended, _, _, rfl, ?_, ⟨_, rfl⟩, hW, hsame.mono (by decide) (by decide)⟩
  · show Steps p.tables e below (s₁.setTop (mkF m 0 #[.val (.int i)] [])) _
    refine XS.iloadN X0.here hx rfl (hb hby d1_0) rfl ?_
    show Steps p.tables e below (s₁.setTop (mkF m 1 #[.val (.int i)] [(.int i)])) _
    refine XS.ifYes X0.here hx rfl (pc0 := 1) (pc' := 8) rfl (hb hby d1_1) rfl ((if0 _ _).trans (feq hc1).2) (by decide) (by decide) ?_
    show Steps p.tables e below (s₁.setTop (mkF m 8 #[.val (.int i)] [])) _
    refine XS.iloadN X0.here hx rfl (hb hby d1_8) rfl ?_
    show Steps p.tables e below (s₁.setTop (mkF m 9 #[.val (.int i)] [(.int i)])) _
    refine XS.iconst X0.here hx rfl (hb hby d1_9) ?_
    show Steps p.tables e below (s₁.setTop (mkF m 10 #[.val (.int i)] [(.int (1 : Int32)), (.int i)])) _
    refine XS.icmpYes X0.here hx rfl (pc0 := 10) (pc' := 17) rfl (hb hby d1_10) rfl (feq hc10).2 (by decide) (by decide) ?_
    show Steps p.tables e below (s₁.setTop (mkF m 17 #[.val (.int i)] [])) _
    refine XS.iloadN X0.here hx rfl (hb hby d1_17) rfl ?_
    show Steps p.tables e below (s₁.setTop (mkF m 18 #[.val (.int i)] [(.int i)])) _
    refine XS.iconst X0.here hx rfl (hb hby d1_18) ?_
    show Steps p.tables e below (s₁.setTop (mkF m 19 #[.val (.int i)] [(.int (2 : Int32)), (.int i)])) _
    refine XS.icmpYes X0.here hx rfl (pc0 := 19) (pc' := 26) rfl (hb hby d1_19) rfl (feq hc19).2 (by decide) (by decide) ?_
    show Steps p.tables e below (s₁.setTop (mkF m 26 #[.val (.int i)] [])) _
    refine XS.iloadN X0.here hx rfl (hb hby d1_26) rfl ?_
    show Steps p.tables e below (s₁.setTop (mkF m 27 #[.val (.int i)] [(.int i)])) _
    refine XS.iconst X0.here hx rfl (hb hby d1_27) ?_
    show Steps p.tables e below (s₁.setTop (mkF m 28 #[.val (.int i)] [(.int (3 : Int32)), (.int i)])) _
    refine XS.icmpYes X0.here hx rfl (pc0 := 28) (pc' := 35) rfl (hb hby d1_28) rfl (feq hc28).2 (by decide) (by decide) ?_
    show Steps p.tables e below (s₁.setTop (mkF m 35 #[.val (.int i)] [])) _
    refine st1 _ ?_
    show Steps p.tables e below (T1.setTop (mkF m 38 #[.val (.int i)] [(.ref a)])) _
    jvm_step X1.here [X1.here.top, hx, (hb hby d1_38), X1.method', Bd.returns, Value.isRef, FieldType.isReference]
    first | (intro acts; rw [hr _ acts rfl rfl rfl]) | rw [hr _ _ rfl rfl rfl]
    exact Steps.refl _
  · exact ⟨rfl, N0, e1⟩
theorem d2_0 : decode prog_11_method_6_code 0 = .ok (.aload_n 0, 1) := by decide +kernel
theorem d2_1 : decode prog_11_method_6_code 1 = .ok (.aload_n 1, 1) := by decide +kernel
theorem d2_2 : decode prog_11_method_6_code 2 = .ok (.if_acmp .eq 28, 3) := by decide +kernel
theorem d2_30 : decode prog_11_method_6_code 30 = .ok (.iconst 1, 1) := by decide +kernel
theorem d2_31 : decode prog_11_method_6_code 31 = .ok (.goto 4, 3) := by decide +kernel
theorem d2_35 : decode prog_11_method_6_code 35 = .ok (.ireturn, 1) := by decide +kernel
theorem pn_2 : plainName "com/example/shelfmark/shelfmark/Role" = true := by first | (simp [plainName, overriddenIn]; done) | decide +kernel
theorem ef_2 (m : MethodId) (x0 : Addr) (x1 : Addr) : entryFrame m #[(.ref x0), (.ref x1)] 2 = mkF m 0 #[.val (.ref x0), .val (.ref x1)] [] := by first | (simp [entryFrame, mkF, argsToLocals, Value.category]; done) | rfl
set_option maxRecDepth 65536 in
set_option maxHeartbeats 40000000 in
theorem inc_same (l : Launch) (Z : State) (a0 : Array Value) (hw : ∀ d ∈ tables_1, d.before a0 Z = true) (a : Addr) (h0 : Heap) (n0 : Nat) (Z0 : n0 ≤ h0.size) :
    RO l Z (⟨"com/example/shelfmark/shelfmark/Role", "includes", "(Lcom/example/shelfmark/shelfmark/Role;)Z"⟩ : MethodName) prog_11_method_6_code 2 (some .boolean) ({ frames := 0, cells := 0, slots := 0, locals := 0 } : Room) #[(.ref a), (.ref a)] h0 n0 (.int (1 : Int32)) := by
  intro ws
  refine MetFree.of_bodySF (plainFor_of_name pn_2) hisR ?_
  intro p e s m args below meth c s₁ Bd hml0 hP hK
  obtain ⟨rfl, hZ, hh⟩ := hP
  have hx := Bd.exec
  have hby := Bd.bytes
  have hml : c.maxLocals = 2 := hml0
  have hown : s.vm.findClass "com/example/shelfmark/shelfmark/Role" = some m.cls := findClass_of_methodNamed Bd.named
  have hnm := (name_of_methodNamed Bd.named Bd.method).1
  have X0 : Stand p l e ({ frames := 0, cells := 0, slots := 0, locals := 0 } : Room) s m #[(.ref a), (.ref a)] below meth c s₁ [] 0 0 := Stand.of_body Bd
  have e0 : s₁.heap = h0 := by rw [← hh, Bd.state]; rfl
  have N0 := Fr.nil n0
  have pre0 : ∀ t_, Steps p.tables e below (s₁.setTop (mkF m 0 #[.val (.ref a), .val (.ref a)] [])) t_ → Steps p.tables e below (s₁.setTop (entryFrame m #[(.ref a), (.ref a)] 2)) t_ := fun t_ k_ => castTop (ef_2 m a a) k_
  obtain ⟨fs, hr, hrun, hended, hW, hsame⟩ := X0.leave (v := some (.int (1 : Int32))) (fun h => by rw [Bd.returns] at h; cases h)
  refine ⟨_, _, pre0 _ ?_, hrun, hended, _, _, rfl, ?_, ⟨_, rfl⟩, hW, hsame.mono (by decide) (by decide)⟩
  · show Steps p.tables e below (s₁.setTop (mkF m 0 #[.val (.ref a), .val (.ref a)] [])) _
    refine XS.aloadN X0.here hx rfl (hb hby d2_0) rfl rfl ?_
    show Steps p.tables e below (s₁.setTop (mkF m 1 #[.val (.ref a), .val (.ref a)] [(.ref a)])) _
    refine XS.aloadN X0.here hx rfl (hb hby d2_1) rfl rfl ?_
    show Steps p.tables e below (s₁.setTop (mkF m 2 #[.val (.ref a), .val (.ref a)] [(.ref a), (.ref a)])) _
    refine Jvm.RoadKit.acmp (g := (mkF m 2 #[.val (.ref a), .val (.ref a)] [(.ref a), (.ref a)])) X0 hx rfl rfl rfl (pc0 := 2) (pc' := 30) (same := true) rfl (hb hby d2_2) rfl (decide_eq_true rfl) (by decide) (by decide) ?_
    show Steps p.tables e below (s₁.setTop (mkF m 30 #[.val (.ref a), .val (.ref a)] [])) _
    refine XS.iconst X0.here hx rfl (hb hby d2_30) ?_
    show Steps p.tables e below (s₁.setTop (mkF m 31 #[.val (.ref a), .val (.ref a)] [(.int (1 : Int32))])) _
    refine XS.goto X0.here hx rfl (pc0 := 31) (pc' := 35) rfl (hb hby d2_31) (by decide) (by decide) ?_
    show Steps p.tables e below (s₁.setTop (mkF m 35 #[.val (.ref a), .val (.ref a)] [(.int (1 : Int32))])) _
    exact retN X0 hx (t := .boolean) Bd.returns (by simp) (hb hby d2_35) hr
  · exact ⟨rfl, N0, e0⟩
theorem d2_5 : decode prog_11_method_6_code 5 = .ok (.aload_n 0, 1) := by decide +kernel
theorem d2_6 : decode prog_11_method_6_code 6 = .ok (.getfield 42, 3) := by decide +kernel
theorem d2_9 : decode prog_11_method_6_code 9 = .ok (.ifCond .le 25, 3) := by decide +kernel
theorem d2_34 : decode prog_11_method_6_code 34 = .ok (.iconst 0, 1) := by decide +kernel
set_option maxRecDepth 65536 in
set_option maxHeartbeats 40000000 in
theorem inc_a0 (l : Launch) (Z : State) (a0 : Array Value) (hw : ∀ d ∈ tables_1, d.before a0 Z = true) (a b : Addr) (ra rb : Int32) (h0 : Heap) (n0 : Nat) (Z0 : n0 ≤ h0.size) (F_rank_a : Fld Z h0 a "com/example/shelfmark/shelfmark/Role" "rank" "I" (.int ra)) (ha2 : ¬ (a = b)) (hc9 : ¬ ((0 : Int32) < ra)) :
    RO l Z (⟨"com/example/shelfmark/shelfmark/Role", "includes", "(Lcom/example/shelfmark/shelfmark/Role;)Z"⟩ : MethodName) prog_11_method_6_code 2 (some .boolean) ({ frames := 0, cells := 0, slots := 0, locals := 0 } : Room) #[(.ref a), (.ref b)] h0 n0 (.int (0 : Int32)) := by
  intro ws
  refine MetFree.of_bodySF (plainFor_of_name pn_2) hisR ?_
  intro p e s m args below meth c s₁ Bd hml0 hP hK
  obtain ⟨rfl, hZ, hh⟩ := hP
  have hx := Bd.exec
  have hby := Bd.bytes
  have hml : c.maxLocals = 2 := hml0
  have hown : s.vm.findClass "com/example/shelfmark/shelfmark/Role" = some m.cls := findClass_of_methodNamed Bd.named
  have hnm := (name_of_methodNamed Bd.named Bd.method).1
  have X0 : Stand p l e ({ frames := 0, cells := 0, slots := 0, locals := 0 } : Room) s m #[(.ref a), (.ref b)] below meth c s₁ [] 0 0 := Stand.of_body Bd
  have e0 : s₁.heap = h0 := by rw [← hh, Bd.state]; rfl
  have N0 := Fr.nil n0
  have pre0 : ∀ t_, Steps p.tables e below (s₁.setTop (mkF m 0 #[.val (.ref a), .val (.ref b)] [])) t_ → Steps p.tables e below (s₁.setTop (entryFrame m #[(.ref a), (.ref b)] 2)) t_ := fun t_ k_ => castTop (ef_2 m a b) k_
  obtain ⟨T1, X1, e1, st1⟩ := getF X0 hx hZ hown (host := "") (Or.inl (hw _ (List.mem_of_getElem? (i := 15) rfl))) Via.refl e0 F_rank_a (g := (mkF m 6 #[.val (.ref a), .val (.ref b)] [(.ref a)])) rfl rfl (hb hby d2_6)
  obtain ⟨fs, hr, hrun, hended, hW, hsame⟩ := X1.leave (v := some (.int (0 : Int32))) (fun h => by rw [Bd.returns] at h; cases h)
  refine ⟨_, _, pre0 _ ?_, hrun, hended, _, _, rfl, ?_, ⟨_, rfl⟩, hW, hsame.mono (by decide) (by decide)⟩
  · show Steps p.tables e below (s₁.setTop (mkF m 0 #[.val (.ref a), .val (.ref b)] [])) _
    refine XS.aloadN X0.here hx rfl (hb hby d2_0) rfl rfl ?_
    show Steps p.tables e below (s₁.setTop (mkF m 1 #[.val (.ref a), .val (.ref b)] [(.ref a)])) _
    refine XS.aloadN X0.here hx rfl (hb hby d2_1) rfl rfl ?_
    show Steps p.tables e below (s₁.setTop (mkF m 2 #[.val (.ref a), .val (.ref b)] [(.ref b), (.ref a)])) _
    refine Jvm.RoadKit.acmp (g := (mkF m 2 #[.val (.ref a), .val (.ref b)] [(.ref b), (.ref a)])) X0 hx rfl rfl rfl (pc0 := 2) (pc' := 5) (same := false) rfl (hb hby d2_2) rfl (decide_eq_false fun q => ha2 (Value.ref.inj q)) (by decide) (by decide) ?_
    show Steps p.tables e below (s₁.setTop (mkF m 5 #[.val (.ref a), .val (.ref b)] [])) _
    refine XS.aloadN X0.here hx rfl (hb hby d2_5) rfl rfl ?_
    show Steps p.tables e below (s₁.setTop (mkF m 6 #[.val (.ref a), .val (.ref b)] [(.ref a)])) _
    refine st1 _ ?_
    show Steps p.tables e below (T1.setTop (mkF m 9 #[.val (.ref a), .val (.ref b)] [(.int ra)])) _
    refine XS.ifYes X1.here hx rfl (pc0 := 9) (pc' := 34) rfl (hb hby d2_9) rfl ((if0 _ _).trans (flt hc9).2.2.2) (by decide) (by decide) ?_
    show Steps p.tables e below (T1.setTop (mkF m 34 #[.val (.ref a), .val (.ref b)] [])) _
    refine XS.iconst X1.here hx rfl (hb hby d2_34) ?_
    show Steps p.tables e below (T1.setTop (mkF m 35 #[.val (.ref a), .val (.ref b)] [(.int (0 : Int32))])) _
    exact retN X1 hx (t := .boolean) Bd.returns (by simp) (hb hby d2_35) hr
  · exact ⟨rfl, N0, e1⟩
theorem d2_12 : decode prog_11_method_6_code 12 = .ok (.aload_n 1, 1) := by decide +kernel
theorem d2_13 : decode prog_11_method_6_code 13 = .ok (.getfield 42, 3) := by decide +kernel
theorem d2_16 : decode prog_11_method_6_code 16 = .ok (.ifCond .le 18, 3) := by decide +kernel
set_option maxRecDepth 65536 in
set_option maxHeartbeats 40000000 in
theorem inc_b0 (l : Launch) (Z : State) (a0 : Array Value) (hw : ∀ d ∈ tables_1, d.before a0 Z = true) (a b : Addr) (ra rb : Int32) (h0 : Heap) (n0 : Nat) (Z0 : n0 ≤ h0.size) (F_rank_a : Fld Z h0 a "com/example/shelfmark/shelfmark/Role" "rank" "I" (.int ra)) (F_rank_b : Fld Z h0 b "com/example/shelfmark/shelfmark/Role" "rank" "I" (.int rb)) (ha2 : ¬ (a = b)) (hc9 : (0 : Int32) < ra) (hc16 : ¬ ((0 : Int32) < rb)) :
    RO l Z (⟨"com/example/shelfmark/shelfmark/Role", "includes", "(Lcom/example/shelfmark/shelfmark/Role;)Z"⟩ : MethodName) prog_11_method_6_code 2 (some .boolean) ({ frames := 0, cells := 0, slots := 0, locals := 0 } : Room) #[(.ref a), (.ref b)] h0 n0 (.int (0 : Int32)) := by
  intro ws
  refine MetFree.of_bodySF (plainFor_of_name pn_2) hisR ?_
  intro p e s m args below meth c s₁ Bd hml0 hP hK
  obtain ⟨rfl, hZ, hh⟩ := hP
  have hx := Bd.exec
  have hby := Bd.bytes
  have hml : c.maxLocals = 2 := hml0
  have hown : s.vm.findClass "com/example/shelfmark/shelfmark/Role" = some m.cls := findClass_of_methodNamed Bd.named
  have hnm := (name_of_methodNamed Bd.named Bd.method).1
  have X0 : Stand p l e ({ frames := 0, cells := 0, slots := 0, locals := 0 } : Room) s m #[(.ref a), (.ref b)] below meth c s₁ [] 0 0 := Stand.of_body Bd
  have e0 : s₁.heap = h0 := by rw [← hh, Bd.state]; rfl
  have N0 := Fr.nil n0
  have pre0 : ∀ t_, Steps p.tables e below (s₁.setTop (mkF m 0 #[.val (.ref a), .val (.ref b)] [])) t_ → Steps p.tables e below (s₁.setTop (entryFrame m #[(.ref a), (.ref b)] 2)) t_ := fun t_ k_ => castTop (ef_2 m a b) k_
  obtain ⟨T1, X1, e1, st1⟩ := getF X0 hx hZ hown (host := "") (Or.inl (hw _ (List.mem_of_getElem? (i := 15) rfl))) Via.refl e0 F_rank_a (g := (mkF m 6 #[.val (.ref a), .val (.ref b)] [(.ref a)])) rfl rfl (hb hby d2_6)
  obtain ⟨T2, X2, e2, st2⟩ := getF X1 hx hZ hown (host := "") (Or.inl (hw _ (List.mem_of_getElem? (i := 15) rfl))) Via.refl e1 F_rank_b (g := (mkF m 13 #[.val (.ref a), .val (.ref b)] [(.ref b)])) rfl rfl (hb hby d2_13)
  obtain ⟨fs, hr, hrun, hended, hW, hsame⟩ := X2.leave (v := some (.int (0 : Int32))) (fun h => by rw [Bd.returns] at h; cases h)
  refine ⟨_, _, pre0 _ ?_, hrun, hended, _, _, rfl, ?_, ⟨_, rfl⟩, hW, hsame.mono (by decide) (by decide)⟩
  · show Steps p.tables e below (s₁.setTop (mkF m 0 #[.val (.ref a), .val (.ref b)] [])) _
    refine XS.aloadN X0.here hx rfl (hb hby d2_0) rfl rfl ?_
    show Steps p.tables e below (s₁.setTop (mkF m 1 #[.val (.ref a), .val (.ref b)] [(.ref a)])) _
    refine XS.aloadN X0.here hx rfl (hb hby d2_1) rfl rfl ?_
    show Steps p.tables e below (s₁.setTop (mkF m 2 #[.val (.ref a), .val (.ref b)] [(.ref b), (.ref a)])) _
    refine Jvm.RoadKit.acmp (g := (mkF m 2 #[.val (.ref a), .val (.ref b)] [(.ref b), (.ref a)])) X0 hx rfl rfl rfl (pc0 := 2) (pc' := 5) (same := false) rfl (hb hby d2_2) rfl (decide_eq_false fun q => ha2 (Value.ref.inj q)) (by decide) (by decide) ?_
    show Steps p.tables e below (s₁.setTop (mkF m 5 #[.val (.ref a), .val (.ref b)] [])) _
    refine XS.aloadN X0.here hx rfl (hb hby d2_5) rfl rfl ?_
    show Steps p.tables e below (s₁.setTop (mkF m 6 #[.val (.ref a), .val (.ref b)] [(.ref a)])) _
    refine st1 _ ?_
    show Steps p.tables e below (T1.setTop (mkF m 9 #[.val (.ref a), .val (.ref b)] [(.int ra)])) _
    refine XS.ifNo X1.here hx rfl (hb hby d2_9) rfl ((if0 _ _).trans (tlt hc9).2.2.2) ?_
    show Steps p.tables e below (T1.setTop (mkF m 12 #[.val (.ref a), .val (.ref b)] [])) _
    refine XS.aloadN X1.here hx rfl (hb hby d2_12) rfl rfl ?_
    show Steps p.tables e below (T1.setTop (mkF m 13 #[.val (.ref a), .val (.ref b)] [(.ref b)])) _
    refine st2 _ ?_
    show Steps p.tables e below (T2.setTop (mkF m 16 #[.val (.ref a), .val (.ref b)] [(.int rb)])) _
    refine XS.ifYes X2.here hx rfl (pc0 := 16) (pc' := 34) rfl (hb hby d2_16) rfl ((if0 _ _).trans (flt hc16).2.2.2) (by decide) (by decide) ?_
    show Steps p.tables e below (T2.setTop (mkF m 34 #[.val (.ref a), .val (.ref b)] [])) _
    refine XS.iconst X2.here hx rfl (hb hby d2_34) ?_
    show Steps p.tables e below (T2.setTop (mkF m 35 #[.val (.ref a), .val (.ref b)] [(.int (0 : Int32))])) _
    exact retN X2 hx (t := .boolean) Bd.returns (by simp) (hb hby d2_35) hr
  · exact ⟨rfl, N0, e2⟩
theorem d2_19 : decode prog_11_method_6_code 19 = .ok (.aload_n 0, 1) := by decide +kernel
theorem d2_20 : decode prog_11_method_6_code 20 = .ok (.getfield 42, 3) := by decide +kernel
theorem d2_23 : decode prog_11_method_6_code 23 = .ok (.aload_n 1, 1) := by decide +kernel
theorem d2_24 : decode prog_11_method_6_code 24 = .ok (.getfield 42, 3) := by decide +kernel
theorem d2_27 : decode prog_11_method_6_code 27 = .ok (.if_icmp .lt 7, 3) := by decide +kernel
set_option maxRecDepth 65536 in
set_option maxHeartbeats 40000000 in
theorem inc_lt (l : Launch) (Z : State) (a0 : Array Value) (hw : ∀ d ∈ tables_1, d.before a0 Z = true) (a b : Addr) (ra rb : Int32) (h0 : Heap) (n0 : Nat) (Z0 : n0 ≤ h0.size) (F_rank_a : Fld Z h0 a "com/example/shelfmark/shelfmark/Role" "rank" "I" (.int ra)) (F_rank_b : Fld Z h0 b "com/example/shelfmark/shelfmark/Role" "rank" "I" (.int rb)) (ha2 : ¬ (a = b)) (hc9 : (0 : Int32) < ra) (hc16 : (0 : Int32) < rb) (hc27 : ra < rb) :
    RO l Z (⟨"com/example/shelfmark/shelfmark/Role", "includes", "(Lcom/example/shelfmark/shelfmark/Role;)Z"⟩ : MethodName) prog_11_method_6_code 2 (some .boolean) ({ frames := 0, cells := 0, slots := 0, locals := 0 } : Room) #[(.ref a), (.ref b)] h0 n0 (.int (0 : Int32)) := by
  intro ws
  refine MetFree.of_bodySF (plainFor_of_name pn_2) hisR ?_
  intro p e s m args below meth c s₁ Bd hml0 hP hK
  obtain ⟨rfl, hZ, hh⟩ := hP
  have hx := Bd.exec
  have hby := Bd.bytes
  have hml : c.maxLocals = 2 := hml0
  have hown : s.vm.findClass "com/example/shelfmark/shelfmark/Role" = some m.cls := findClass_of_methodNamed Bd.named
  have hnm := (name_of_methodNamed Bd.named Bd.method).1
  have X0 : Stand p l e ({ frames := 0, cells := 0, slots := 0, locals := 0 } : Room) s m #[(.ref a), (.ref b)] below meth c s₁ [] 0 0 := Stand.of_body Bd
  have e0 : s₁.heap = h0 := by rw [← hh, Bd.state]; rfl
  have N0 := Fr.nil n0
  have pre0 : ∀ t_, Steps p.tables e below (s₁.setTop (mkF m 0 #[.val (.ref a), .val (.ref b)] [])) t_ → Steps p.tables e below (s₁.setTop (entryFrame m #[(.ref a), (.ref b)] 2)) t_ := fun t_ k_ => castTop (ef_2 m a b) k_
  obtain ⟨T1, X1, e1, st1⟩ := getF X0 hx hZ hown (host := "") (Or.inl (hw _ (List.mem_of_getElem? (i := 15) rfl))) Via.refl e0 F_rank_a (g := (mkF m 6 #[.val (.ref a), .val (.ref b)] [(.ref a)])) rfl rfl (hb hby d2_6)
  obtain ⟨T2, X2, e2, st2⟩ := getF X1 hx hZ hown (host := "") (Or.inl (hw _ (List.mem_of_getElem? (i := 15) rfl))) Via.refl e1 F_rank_b (g := (mkF m 13 #[.val (.ref a), .val (.ref b)] [(.ref b)])) rfl rfl (hb hby d2_13)
  obtain ⟨T3, X3, e3, st3⟩ := getF X2 hx hZ hown (host := "") (Or.inl (hw _ (List.mem_of_getElem? (i := 15) rfl))) Via.refl e2 F_rank_a (g := (mkF m 20 #[.val (.ref a), .val (.ref b)] [(.ref a)])) rfl rfl (hb hby d2_20)
  obtain ⟨T4, X4, e4, st4⟩ := getF X3 hx hZ hown (host := "") (Or.inl (hw _ (List.mem_of_getElem? (i := 15) rfl))) Via.refl e3 F_rank_b (g := (mkF m 24 #[.val (.ref a), .val (.ref b)] [(.ref b), (.int ra)])) rfl rfl (hb hby d2_24)
  obtain ⟨fs, hr, hrun, hended, hW, hsame⟩ := X4.leave (v := some (.int (0 : Int32))) (fun h => by rw [Bd.returns] at h; cases h)
  refine ⟨_, _, pre0 _ ?_, hrun, hended, _, _, rfl, ?_, ⟨_, rfl⟩, hW, hsame.mono (by decide) (by decide)⟩
  · show Steps p.tables e below (s₁.setTop (mkF m 0 #[.val (.ref a), .val (.ref b)] [])) _
    refine XS.aloadN X0.here hx rfl (hb hby d2_0) rfl rfl ?_
    show Steps p.tables e below (s₁.setTop (mkF m 1 #[.val (.ref a), .val (.ref b)] [(.ref a)])) _
    refine XS.aloadN X0.here hx rfl (hb hby d2_1) rfl rfl ?_
    show Steps p.tables e below (s₁.setTop (mkF m 2 #[.val (.ref a), .val (.ref b)] [(.ref b), (.ref a)])) _
    refine Jvm.RoadKit.acmp (g := (mkF m 2 #[.val (.ref a), .val (.ref b)] [(.ref b), (.ref a)])) X0 hx rfl rfl rfl (pc0 := 2) (pc' := 5) (same := false) rfl (hb hby d2_2) rfl (decide_eq_false fun q => ha2 (Value.ref.inj q)) (by decide) (by decide) ?_
    show Steps p.tables e below (s₁.setTop (mkF m 5 #[.val (.ref a), .val (.ref b)] [])) _
    refine XS.aloadN X0.here hx rfl (hb hby d2_5) rfl rfl ?_
    show Steps p.tables e below (s₁.setTop (mkF m 6 #[.val (.ref a), .val (.ref b)] [(.ref a)])) _
    refine st1 _ ?_
    show Steps p.tables e below (T1.setTop (mkF m 9 #[.val (.ref a), .val (.ref b)] [(.int ra)])) _
    refine XS.ifNo X1.here hx rfl (hb hby d2_9) rfl ((if0 _ _).trans (tlt hc9).2.2.2) ?_
    show Steps p.tables e below (T1.setTop (mkF m 12 #[.val (.ref a), .val (.ref b)] [])) _
    refine XS.aloadN X1.here hx rfl (hb hby d2_12) rfl rfl ?_
    show Steps p.tables e below (T1.setTop (mkF m 13 #[.val (.ref a), .val (.ref b)] [(.ref b)])) _
    refine st2 _ ?_
    show Steps p.tables e below (T2.setTop (mkF m 16 #[.val (.ref a), .val (.ref b)] [(.int rb)])) _
    refine XS.ifNo X2.here hx rfl (hb hby d2_16) rfl ((if0 _ _).trans (tlt hc16).2.2.2) ?_
    show Steps p.tables e below (T2.setTop (mkF m 19 #[.val (.ref a), .val (.ref b)] [])) _
    refine XS.aloadN X2.here hx rfl (hb hby d2_19) rfl rfl ?_
    show Steps p.tables e below (T2.setTop (mkF m 20 #[.val (.ref a), .val (.ref b)] [(.ref a)])) _
    refine st3 _ ?_
    show Steps p.tables e below (T3.setTop (mkF m 23 #[.val (.ref a), .val (.ref b)] [(.int ra)])) _
    refine XS.aloadN X3.here hx rfl (hb hby d2_23) rfl rfl ?_
    show Steps p.tables e below (T3.setTop (mkF m 24 #[.val (.ref a), .val (.ref b)] [(.ref b), (.int ra)])) _
    refine st4 _ ?_
    show Steps p.tables e below (T4.setTop (mkF m 27 #[.val (.ref a), .val (.ref b)] [(.int rb), (.int ra)])) _
    refine XS.icmpYes X4.here hx rfl (pc0 := 27) (pc' := 34) rfl (hb hby d2_27) rfl (tlt hc27).1 (by decide) (by decide) ?_
    show Steps p.tables e below (T4.setTop (mkF m 34 #[.val (.ref a), .val (.ref b)] [])) _
    refine XS.iconst X4.here hx rfl (hb hby d2_34) ?_
    show Steps p.tables e below (T4.setTop (mkF m 35 #[.val (.ref a), .val (.ref b)] [(.int (0 : Int32))])) _
    exact retN X4 hx (t := .boolean) Bd.returns (by simp) (hb hby d2_35) hr
  · exact ⟨rfl, N0, e4⟩
set_option maxRecDepth 65536 in
set_option maxHeartbeats 40000000 in
theorem inc_ge (l : Launch) (Z : State) (a0 : Array Value) (hw : ∀ d ∈ tables_1, d.before a0 Z = true) (a b : Addr) (ra rb : Int32) (h0 : Heap) (n0 : Nat) (Z0 : n0 ≤ h0.size) (F_rank_a : Fld Z h0 a "com/example/shelfmark/shelfmark/Role" "rank" "I" (.int ra)) (F_rank_b : Fld Z h0 b "com/example/shelfmark/shelfmark/Role" "rank" "I" (.int rb)) (ha2 : ¬ (a = b)) (hc9 : (0 : Int32) < ra) (hc16 : (0 : Int32) < rb) (hc27 : ¬ (ra < rb)) :
    RO l Z (⟨"com/example/shelfmark/shelfmark/Role", "includes", "(Lcom/example/shelfmark/shelfmark/Role;)Z"⟩ : MethodName) prog_11_method_6_code 2 (some .boolean) ({ frames := 0, cells := 0, slots := 0, locals := 0 } : Room) #[(.ref a), (.ref b)] h0 n0 (.int (1 : Int32)) := by
  intro ws
  refine MetFree.of_bodySF (plainFor_of_name pn_2) hisR ?_
  intro p e s m args below meth c s₁ Bd hml0 hP hK
  obtain ⟨rfl, hZ, hh⟩ := hP
  have hx := Bd.exec
  have hby := Bd.bytes
  have hml : c.maxLocals = 2 := hml0
  have hown : s.vm.findClass "com/example/shelfmark/shelfmark/Role" = some m.cls := findClass_of_methodNamed Bd.named
  have hnm := (name_of_methodNamed Bd.named Bd.method).1
  have X0 : Stand p l e ({ frames := 0, cells := 0, slots := 0, locals := 0 } : Room) s m #[(.ref a), (.ref b)] below meth c s₁ [] 0 0 := Stand.of_body Bd
  have e0 : s₁.heap = h0 := by rw [← hh, Bd.state]; rfl
  have N0 := Fr.nil n0
  have pre0 : ∀ t_, Steps p.tables e below (s₁.setTop (mkF m 0 #[.val (.ref a), .val (.ref b)] [])) t_ → Steps p.tables e below (s₁.setTop (entryFrame m #[(.ref a), (.ref b)] 2)) t_ := fun t_ k_ => castTop (ef_2 m a b) k_
  obtain ⟨T1, X1, e1, st1⟩ := getF X0 hx hZ hown (host := "") (Or.inl (hw _ (List.mem_of_getElem? (i := 15) rfl))) Via.refl e0 F_rank_a (g := (mkF m 6 #[.val (.ref a), .val (.ref b)] [(.ref a)])) rfl rfl (hb hby d2_6)
  obtain ⟨T2, X2, e2, st2⟩ := getF X1 hx hZ hown (host := "") (Or.inl (hw _ (List.mem_of_getElem? (i := 15) rfl))) Via.refl e1 F_rank_b (g := (mkF m 13 #[.val (.ref a), .val (.ref b)] [(.ref b)])) rfl rfl (hb hby d2_13)
  obtain ⟨T3, X3, e3, st3⟩ := getF X2 hx hZ hown (host := "") (Or.inl (hw _ (List.mem_of_getElem? (i := 15) rfl))) Via.refl e2 F_rank_a (g := (mkF m 20 #[.val (.ref a), .val (.ref b)] [(.ref a)])) rfl rfl (hb hby d2_20)
  obtain ⟨T4, X4, e4, st4⟩ := getF X3 hx hZ hown (host := "") (Or.inl (hw _ (List.mem_of_getElem? (i := 15) rfl))) Via.refl e3 F_rank_b (g := (mkF m 24 #[.val (.ref a), .val (.ref b)] [(.ref b), (.int ra)])) rfl rfl (hb hby d2_24)
  obtain ⟨fs, hr, hrun, hended, hW, hsame⟩ := X4.leave (v := some (.int (1 : Int32))) (fun h => by rw [Bd.returns] at h; cases h)
  refine ⟨_, _, pre0 _ ?_, hrun, hended, _, _, rfl, ?_, ⟨_, rfl⟩, hW, hsame.mono (by decide) (by decide)⟩
  · show Steps p.tables e below (s₁.setTop (mkF m 0 #[.val (.ref a), .val (.ref b)] [])) _
    refine XS.aloadN X0.here hx rfl (hb hby d2_0) rfl rfl ?_
    show Steps p.tables e below (s₁.setTop (mkF m 1 #[.val (.ref a), .val (.ref b)] [(.ref a)])) _
    refine XS.aloadN X0.here hx rfl (hb hby d2_1) rfl rfl ?_
    show Steps p.tables e below (s₁.setTop (mkF m 2 #[.val (.ref a), .val (.ref b)] [(.ref b), (.ref a)])) _
    refine Jvm.RoadKit.acmp (g := (mkF m 2 #[.val (.ref a), .val (.ref b)] [(.ref b), (.ref a)])) X0 hx rfl rfl rfl (pc0 := 2) (pc' := 5) (same := false) rfl (hb hby d2_2) rfl (decide_eq_false fun q => ha2 (Value.ref.inj q)) (by decide) (by decide) ?_
    show Steps p.tables e below (s₁.setTop (mkF m 5 #[.val (.ref a), .val (.ref b)] [])) _
    refine XS.aloadN X0.here hx rfl (hb hby d2_5) rfl rfl ?_
    show Steps p.tables e below (s₁.setTop (mkF m 6 #[.val (.ref a), .val (.ref b)] [(.ref a)])) _
    refine st1 _ ?_
    show Steps p.tables e below (T1.setTop (mkF m 9 #[.val (.ref a), .val (.ref b)] [(.int ra)])) _
    refine XS.ifNo X1.here hx rfl (hb hby d2_9) rfl ((if0 _ _).trans (tlt hc9).2.2.2) ?_
    show Steps p.tables e below (T1.setTop (mkF m 12 #[.val (.ref a), .val (.ref b)] [])) _
    refine XS.aloadN X1.here hx rfl (hb hby d2_12) rfl rfl ?_
    show Steps p.tables e below (T1.setTop (mkF m 13 #[.val (.ref a), .val (.ref b)] [(.ref b)])) _
    refine st2 _ ?_
    show Steps p.tables e below (T2.setTop (mkF m 16 #[.val (.ref a), .val (.ref b)] [(.int rb)])) _
    refine XS.ifNo X2.here hx rfl (hb hby d2_16) rfl ((if0 _ _).trans (tlt hc16).2.2.2) ?_
    show Steps p.tables e below (T2.setTop (mkF m 19 #[.val (.ref a), .val (.ref b)] [])) _
    refine XS.aloadN X2.here hx rfl (hb hby d2_19) rfl rfl ?_
    show Steps p.tables e below (T2.setTop (mkF m 20 #[.val (.ref a), .val (.ref b)] [(.ref a)])) _
    refine st3 _ ?_
    show Steps p.tables e below (T3.setTop (mkF m 23 #[.val (.ref a), .val (.ref b)] [(.int ra)])) _
    refine XS.aloadN X3.here hx rfl (hb hby d2_23) rfl rfl ?_
    show Steps p.tables e below (T3.setTop (mkF m 24 #[.val (.ref a), .val (.ref b)] [(.ref b), (.int ra)])) _
    refine st4 _ ?_
    show Steps p.tables e below (T4.setTop (mkF m 27 #[.val (.ref a), .val (.ref b)] [(.int rb), (.int ra)])) _
    refine XS.icmpNo X4.here hx rfl (hb hby d2_27) rfl (flt hc27).1 ?_
    show Steps p.tables e below (T4.setTop (mkF m 30 #[.val (.ref a), .val (.ref b)] [])) _
    refine XS.iconst X4.here hx rfl (hb hby d2_30) ?_
    show Steps p.tables e below (T4.setTop (mkF m 31 #[.val (.ref a), .val (.ref b)] [(.int (1 : Int32))])) _
    refine XS.goto X4.here hx rfl (pc0 := 31) (pc' := 35) rfl (hb hby d2_31) (by decide) (by decide) ?_
    show Steps p.tables e below (T4.setTop (mkF m 35 #[.val (.ref a), .val (.ref b)] [(.int (1 : Int32))])) _
    exact retN X4 hx (t := .boolean) Bd.returns (by simp) (hb hby d2_35) hr
  · exact ⟨rfl, N0, e4⟩
theorem pd_oIcLcom_example_shelfmark_shelfmark_Role_ : parseMethodDescriptor "(I)Lcom/example/shelfmark/shelfmark/Role;" = some ⟨[.int], some (.object "com/example/shelfmark/shelfmark/Role")⟩ := by decide +kernel
theorem pd_oLcom_example_shelfmark_shelfmark_Role_cZ : parseMethodDescriptor "(Lcom/example/shelfmark/shelfmark/Role;)Z" = some ⟨[(.object "com/example/shelfmark/shelfmark/Role")], some .boolean⟩ := by decide +kernel
theorem pn_0 : plainName "com/example/shelfmark/shelfmark/RoleIncludesPinLaw" = true := by first | (simp [plainName, overriddenIn]; done) | decide +kernel
theorem ef_0 (m : MethodId) (x0 : Int32) (x1 : Int32) : entryFrame m #[(.int x0), (.int x1)] maxLocals = mkF m 0 #[.val (.int x0), .val (.int x1), .unset, .unset, .unset, .unset, .unset] [] := by first | (simp [entryFrame, mkF, argsToLocals, Value.category, maxLocals]; done) | rfl
set_option maxRecDepth 65536 in
set_option maxHeartbeats 40000000 in
theorem law_4n (l : Launch) (Z : State) (a0 : Array Value) (hw : ∀ d ∈ tables_1, d.before a0 Z = true) (x0 y0 b : Int32) (r o : Addr) (h0 : Heap) (n0 : Nat) (Z0 : n0 ≤ h0.size) (Cr : RO l Z (⟨"com/example/shelfmark/shelfmark/RoleIncludesPinLaw", "pick", "(I)Lcom/example/shelfmark/shelfmark/Role;"⟩ : MethodName) method_2_code 1 (some (.object "com/example/shelfmark/shelfmark/Role")) ({ frames := 0, cells := 0, slots := 0, locals := 0 } : Room) #[(.int ((x0 &&& (2147483647 : Int32)) % (5 : Int32)))] h0 n0 (.ref r)) (Co : RO l Z (⟨"com/example/shelfmark/shelfmark/RoleIncludesPinLaw", "pick", "(I)Lcom/example/shelfmark/shelfmark/Role;"⟩ : MethodName) method_2_code 1 (some (.object "com/example/shelfmark/shelfmark/Role")) ({ frames := 0, cells := 0, slots := 0, locals := 0 } : Room) #[(.int ((y0 &&& (2147483647 : Int32)) % (5 : Int32)))] h0 n0 (.ref o)) (Ci : RO l Z (⟨"com/example/shelfmark/shelfmark/Role", "includes", "(Lcom/example/shelfmark/shelfmark/Role;)Z"⟩ : MethodName) prog_11_method_6_code 2 (some .boolean) ({ frames := 0, cells := 0, slots := 0, locals := 0 } : Room) #[(.ref r), (.ref o)] h0 n0 (.int b)) (E_r : Exa Z h0 r "com/example/shelfmark/shelfmark/Role") (hc28 : ((x0 &&& (2147483647 : Int32)) % (5 : Int32)) = (4 : Int32)) (hc38 : ¬ (((x0 &&& (2147483647 : Int32)) % (5 : Int32)) = ((y0 &&& (2147483647 : Int32)) % (5 : Int32)))) (hc72 : b = (0 : Int32)) :
    RO l Z x code maxLocals ret room_1 #[(.int x0), (.int y0)] h0 n0 (.int (1 : Int32)) := by
  intro ws
  refine MetFree.of_bodySF (plainFor_of_name pn_0) hisR ?_
  intro p e s m args below meth c s₁ Bd hml0 hP hK
  obtain ⟨rfl, hZ, hh⟩ := hP
  have hx := Bd.exec
  have hby := Bd.bytes
  have hml : c.maxLocals = 7 := hml0
  have hown : s.vm.findClass "com/example/shelfmark/shelfmark/RoleIncludesPinLaw" = some m.cls := findClass_of_methodNamed Bd.named
  have hnm := (name_of_methodNamed Bd.named Bd.method).1
  have X0 : Stand p l e room_1 s m #[(.int x0), (.int y0)] below meth c s₁ [] 0 0 := Stand.of_body Bd
  have e0 : s₁.heap = h0 := by rw [← hh, Bd.state]; rfl
  have N0 := Fr.nil n0
  have pre0 : ∀ t_, Steps p.tables e below (s₁.setTop (mkF m 0 #[.val (.int x0), .val (.int y0), .unset, .unset, .unset, .unset, .unset] [])) t_ → Steps p.tables e below (s₁.setTop (entryFrame m #[(.int x0), (.int y0)] maxLocals)) t_ := fun t_ k_ => castTop (ef_0 m x0 y0) k_
  obtain ⟨_, _, ⟨T1, L1, k1, n1⟩, -, X1, ⟨Lc1, hQ1, l1, y1, z1⟩, st1⟩ := Jvm.LawKit.callS X0 hx (y := (⟨"com/example/shelfmark/shelfmark/RoleIncludesPinLaw", "pick", "(I)Lcom/example/shelfmark/shelfmark/Role;"⟩ : MethodName)) hown (mvT hZ (hw _ (List.mem_of_getElem? (i := 1) rfl))) (mvT hZ (hw _ (List.mem_of_getElem? (i := 2) rfl))) (mvT hZ (hw _ (List.mem_of_getElem? (i := 3) rfl))) (mvT hZ (hw _ (List.mem_of_getElem? (i := 4) rfl))) (by decide) (backOf (W := 0) (Cr []) hZ (hw _ (List.mem_of_getElem? (i := 4) rfl)) (hw _ (List.mem_of_getElem? (i := 3) rfl)) (by decide) (by decide)) (g := (mkF m 15 #[.val (.int x0), .val (.int y0), .val (.int ((x0 &&& (2147483647 : Int32)) % (5 : Int32))), .val (.int ((y0 &&& (2147483647 : Int32)) % (5 : Int32))), .unset, .unset, .unset] [(.int ((x0 &&& (2147483647 : Int32)) % (5 : Int32)))])) rfl (by rw [hml]; rfl) (argsL := [(.int ((x0 &&& (2147483647 : Int32)) % (5 : Int32)))]) (rest := []) (lenOf pd_oIcLcom_example_shelfmark_shelfmark_Role_ rfl) rfl (by show 2 * 0 + _ ≤ _; exact Nat.le_of_eq rfl) (hb hby at_15) (fun _ _ => ⟨rfl, e0, (by decide : 0 + 0 ≤ _), (by decide : 0 + 0 ≤ _)⟩)
  dsimp only [Pt.U, Pt.locs, Pt.cells, Pt.slots] at X1 l1 y1 z1 st1 hQ1
  subst l1 y1 z1
  obtain ⟨rfl, N1q, e1⟩ := hQ1
  have N1 := Fr.app N0 N1q
  obtain ⟨_, _, ⟨T2, L2, k2, n2⟩, -, X2, ⟨Lc2, hQ2, l2, y2, z2⟩, st2⟩ := Jvm.LawKit.callS X1 hx (y := (⟨"com/example/shelfmark/shelfmark/RoleIncludesPinLaw", "pick", "(I)Lcom/example/shelfmark/shelfmark/Role;"⟩ : MethodName)) hown (mvT hZ (hw _ (List.mem_of_getElem? (i := 1) rfl))) (mvT hZ (hw _ (List.mem_of_getElem? (i := 2) rfl))) (mvT hZ (hw _ (List.mem_of_getElem? (i := 3) rfl))) (mvT hZ (hw _ (List.mem_of_getElem? (i := 4) rfl))) (by decide) (backOf (W := 0) (Co []) hZ (hw _ (List.mem_of_getElem? (i := 4) rfl)) (hw _ (List.mem_of_getElem? (i := 3) rfl)) (by decide) (by decide)) (g := (mkF m 21 #[.val (.int x0), .val (.int y0), .val (.int ((x0 &&& (2147483647 : Int32)) % (5 : Int32))), .val (.int ((y0 &&& (2147483647 : Int32)) % (5 : Int32))), .val (.ref r), .unset, .unset] [(.int ((y0 &&& (2147483647 : Int32)) % (5 : Int32)))])) rfl (by rw [hml]; rfl) (argsL := [(.int ((y0 &&& (2147483647 : Int32)) % (5 : Int32)))]) (rest := []) (lenOf pd_oIcLcom_example_shelfmark_shelfmark_Role_ rfl) rfl (by show 2 * 0 + _ ≤ _; exact Nat.le_of_eq rfl) (hb hby at_21) (fun _ _ => ⟨rfl, e1, (by decide : 0 + 0 ≤ _), (by decide : 0 + 0 ≤ _)⟩)
  dsimp only [Pt.U, Pt.locs, Pt.cells, Pt.slots] at X2 l2 y2 z2 st2 hQ2
  subst l2 y2 z2
  obtain ⟨rfl, N2q, e2⟩ := hQ2
  have N2 := Fr.app N1 N2q
  obtain ⟨cq3, kq3, q3a, q3b, q3c⟩ := isOf hZ e2 E_r
  obtain ⟨_, _, ⟨T3, L3, k3, n3⟩, -, X3, ⟨Lc3, hQ3, l3, y3, z3⟩, st3⟩ := X2.virtualBack hx (y := (⟨"com/example/shelfmark/shelfmark/Role", "includes", "(Lcom/example/shelfmark/shelfmark/Role;)Z"⟩ : MethodName)) (z := (⟨"com/example/shelfmark/shelfmark/Role", "includes", "(Lcom/example/shelfmark/shelfmark/Role;)Z"⟩ : MethodName)) hown (mvT hZ (hw _ (List.mem_of_getElem? (i := 10) rfl))) (mvT hZ (hw _ (List.mem_of_getElem? (i := 11) rfl))) (notFace_of_selects (args := #[]) (mvT hZ (hw _ (List.mem_of_getElem? (i := 13) rfl)))) (mvT hZ (hw _ (List.mem_of_getElem? (i := 13) rfl))) (mvT hZ (hw _ (List.mem_of_getElem? (i := 12) rfl))) (by decide) (backOf (W := 0) (Ci []) hZ (hw _ (List.mem_of_getElem? (i := 14) rfl)) (hw _ (List.mem_of_getElem? (i := 6) rfl)) (by decide) (by decide)) q3a q3c (g := (mkF m 67 #[.val (.int x0), .val (.int y0), .val (.int ((x0 &&& (2147483647 : Int32)) % (5 : Int32))), .val (.int ((y0 &&& (2147483647 : Int32)) % (5 : Int32))), .val (.ref r), .val (.ref o), .val (.int (0 : Int32))] [(.ref o), (.ref r)])) rfl (by rw [hml]; rfl) (Steps.refl _) (argsL := [(.ref o)]) (rest := []) (lenOf pd_oLcom_example_shelfmark_shelfmark_Role_cZ rfl) rfl (by show 2 * 0 + _ ≤ _; exact Nat.le_of_eq rfl) (hb hby at_67) (fun _ _ => ⟨rfl, e2, (by decide : 0 + 0 ≤ _), (by decide : 0 + 0 ≤ _)⟩)
  dsimp only [Pt.U, Pt.locs, Pt.cells, Pt.slots] at X3 l3 y3 z3 st3 hQ3
  subst l3 y3 z3
  obtain ⟨rfl, N3q, e3⟩ := hQ3
  have N3 := Fr.app N2 N3q
  obtain ⟨fs, hr, hrun, hended, hW, hsame⟩ := X3.leave (v := some (.int (1 : Int32))) (fun h => by rw [Bd.returns] at h; cases h)
  refine ⟨_, _, pre0 _ ?_, hrun, hended, _, _, rfl, ?_, ⟨_, rfl⟩, hW, hsame.mono (by decide) (by decide)⟩
  · show Steps p.tables e below (s₁.setTop (mkF m 0 #[.val (.int x0), .val (.int y0), .unset, .unset, .unset, .unset, .unset] [])) _
    refine XS.iloadN X0.here hx rfl (hb hby at_0) rfl ?_
    show Steps p.tables e below (s₁.setTop (mkF m 1 #[.val (.int x0), .val (.int y0), .unset, .unset, .unset, .unset, .unset] [(.int x0)])) _
    refine X0.ldcInt hx hown (mvT hZ (hw _ (List.mem_of_getElem? (i := 0) rfl))) (g := (mkF m 1 #[.val (.int x0), .val (.int y0), .unset, .unset, .unset, .unset, .unset] [(.int x0)])) rfl (hb hby at_1) _ ?_
    show Steps p.tables e below (s₁.setTop (mkF m 3 #[.val (.int x0), .val (.int y0), .unset, .unset, .unset, .unset, .unset] [(.int (2147483647 : Int32)), (.int x0)])) _
    refine XS.iand X0.here hx rfl (hb hby at_3) rfl ?_
    show Steps p.tables e below (s₁.setTop (mkF m 4 #[.val (.int x0), .val (.int y0), .unset, .unset, .unset, .unset, .unset] [(.int (x0 &&& (2147483647 : Int32)))])) _
    refine XS.iconst X0.here hx rfl (hb hby at_4) ?_
    show Steps p.tables e below (s₁.setTop (mkF m 5 #[.val (.int x0), .val (.int y0), .unset, .unset, .unset, .unset, .unset] [(.int (5 : Int32)), (.int (x0 &&& (2147483647 : Int32)))])) _
    refine iremM X0 hx rfl (hb hby at_5) rfl (by decide) ?_
    show Steps p.tables e below (s₁.setTop (mkF m 6 #[.val (.int x0), .val (.int y0), .unset, .unset, .unset, .unset, .unset] [(.int ((x0 &&& (2147483647 : Int32)) % (5 : Int32)))])) _
    refine XS.istoreN X0.here hx rfl (hb hby at_6) rfl (l' := #[.val (.int x0), .val (.int y0), .val (.int ((x0 &&& (2147483647 : Int32)) % (5 : Int32))), .unset, .unset, .unset, .unset]) rfl ?_
    show Steps p.tables e below (s₁.setTop (mkF m 7 #[.val (.int x0), .val (.int y0), .val (.int ((x0 &&& (2147483647 : Int32)) % (5 : Int32))), .unset, .unset, .unset, .unset] [])) _
    refine XS.iloadN X0.here hx rfl (hb hby at_7) rfl ?_
    show Steps p.tables e below (s₁.setTop (mkF m 8 #[.val (.int x0), .val (.int y0), .val (.int ((x0 &&& (2147483647 : Int32)) % (5 : Int32))), .unset, .unset, .unset, .unset] [(.int y0)])) _
    refine X0.ldcInt hx hown (mvT hZ (hw _ (List.mem_of_getElem? (i := 0) rfl))) (g := (mkF m 8 #[.val (.int x0), .val (.int y0), .val (.int ((x0 &&& (2147483647 : Int32)) % (5 : Int32))), .unset, .unset, .unset, .unset] [(.int y0)])) rfl (hb hby at_8) _ ?_
    show Steps p.tables e below (s₁.setTop (mkF m 10 #[.val (.int x0), .val (.int y0), .val (.int ((x0 &&& (2147483647 : Int32)) % (5 : Int32))), .unset, .unset, .unset, .unset] [(.int (2147483647 : Int32)), (.int y0)])) _
    refine XS.iand X0.here hx rfl (hb hby at_10) rfl ?_
    show Steps p.tables e below (s₁.setTop (mkF m 11 #[.val (.int x0), .val (.int y0), .val (.int ((x0 &&& (2147483647 : Int32)) % (5 : Int32))), .unset, .unset, .unset, .unset] [(.int (y0 &&& (2147483647 : Int32)))])) _
    refine XS.iconst X0.here hx rfl (hb hby at_11) ?_
    show Steps p.tables e below (s₁.setTop (mkF m 12 #[.val (.int x0), .val (.int y0), .val (.int ((x0 &&& (2147483647 : Int32)) % (5 : Int32))), .unset, .unset, .unset, .unset] [(.int (5 : Int32)), (.int (y0 &&& (2147483647 : Int32)))])) _
    refine iremM X0 hx rfl (hb hby at_12) rfl (by decide) ?_
    show Steps p.tables e below (s₁.setTop (mkF m 13 #[.val (.int x0), .val (.int y0), .val (.int ((x0 &&& (2147483647 : Int32)) % (5 : Int32))), .unset, .unset, .unset, .unset] [(.int ((y0 &&& (2147483647 : Int32)) % (5 : Int32)))])) _
    refine XS.istoreN X0.here hx rfl (hb hby at_13) rfl (l' := #[.val (.int x0), .val (.int y0), .val (.int ((x0 &&& (2147483647 : Int32)) % (5 : Int32))), .val (.int ((y0 &&& (2147483647 : Int32)) % (5 : Int32))), .unset, .unset, .unset]) rfl ?_
    show Steps p.tables e below (s₁.setTop (mkF m 14 #[.val (.int x0), .val (.int y0), .val (.int ((x0 &&& (2147483647 : Int32)) % (5 : Int32))), .val (.int ((y0 &&& (2147483647 : Int32)) % (5 : Int32))), .unset, .unset, .unset] [])) _
    refine XS.iloadN X0.here hx rfl (hb hby at_14) rfl ?_
    show Steps p.tables e below (s₁.setTop (mkF m 15 #[.val (.int x0), .val (.int y0), .val (.int ((x0 &&& (2147483647 : Int32)) % (5 : Int32))), .val (.int ((y0 &&& (2147483647 : Int32)) % (5 : Int32))), .unset, .unset, .unset] [(.int ((x0 &&& (2147483647 : Int32)) % (5 : Int32)))])) _
    refine st1 _ ?_
    show Steps p.tables e below (T1.setTop (mkF m 18 #[.val (.int x0), .val (.int y0), .val (.int ((x0 &&& (2147483647 : Int32)) % (5 : Int32))), .val (.int ((y0 &&& (2147483647 : Int32)) % (5 : Int32))), .unset, .unset, .unset] [(.ref r)])) _
    refine XS.astore X1.here hx rfl (hb hby at_18) rfl rfl (l' := #[.val (.int x0), .val (.int y0), .val (.int ((x0 &&& (2147483647 : Int32)) % (5 : Int32))), .val (.int ((y0 &&& (2147483647 : Int32)) % (5 : Int32))), .val (.ref r), .unset, .unset]) rfl ?_
    show Steps p.tables e below (T1.setTop (mkF m 20 #[.val (.int x0), .val (.int y0), .val (.int ((x0 &&& (2147483647 : Int32)) % (5 : Int32))), .val (.int ((y0 &&& (2147483647 : Int32)) % (5 : Int32))), .val (.ref r), .unset, .unset] [])) _
    refine XS.iloadN X1.here hx rfl (hb hby at_20) rfl ?_
    show Steps p.tables e below (T1.setTop (mkF m 21 #[.val (.int x0), .val (.int y0), .val (.int ((x0 &&& (2147483647 : Int32)) % (5 : Int32))), .val (.int ((y0 &&& (2147483647 : Int32)) % (5 : Int32))), .val (.ref r), .unset, .unset] [(.int ((y0 &&& (2147483647 : Int32)) % (5 : Int32)))])) _
    refine st2 _ ?_
    show Steps p.tables e below (T2.setTop (mkF m 24 #[.val (.int x0), .val (.int y0), .val (.int ((x0 &&& (2147483647 : Int32)) % (5 : Int32))), .val (.int ((y0 &&& (2147483647 : Int32)) % (5 : Int32))), .val (.ref r), .unset, .unset] [(.ref o)])) _
    refine XS.astore X2.here hx rfl (hb hby at_24) rfl rfl (l' := #[.val (.int x0), .val (.int y0), .val (.int ((x0 &&& (2147483647 : Int32)) % (5 : Int32))), .val (.int ((y0 &&& (2147483647 : Int32)) % (5 : Int32))), .val (.ref r), .val (.ref o), .unset]) rfl ?_
    show Steps p.tables e below (T2.setTop (mkF m 26 #[.val (.int x0), .val (.int y0), .val (.int ((x0 &&& (2147483647 : Int32)) % (5 : Int32))), .val (.int ((y0 &&& (2147483647 : Int32)) % (5 : Int32))), .val (.ref r), .val (.ref o), .unset] [])) _
    refine XS.iloadN X2.here hx rfl (hb hby at_26) rfl ?_
    show Steps p.tables e below (T2.setTop (mkF m 27 #[.val (.int x0), .val (.int y0), .val (.int ((x0 &&& (2147483647 : Int32)) % (5 : Int32))), .val (.int ((y0 &&& (2147483647 : Int32)) % (5 : Int32))), .val (.ref r), .val (.ref o), .unset] [(.int ((x0 &&& (2147483647 : Int32)) % (5 : Int32)))])) _
    refine XS.iconst X2.here hx rfl (hb hby at_27) ?_
    show Steps p.tables e below (T2.setTop (mkF m 28 #[.val (.int x0), .val (.int y0), .val (.int ((x0 &&& (2147483647 : Int32)) % (5 : Int32))), .val (.int ((y0 &&& (2147483647 : Int32)) % (5 : Int32))), .val (.ref r), .val (.ref o), .unset] [(.int (4 : Int32)), (.int ((x0 &&& (2147483647 : Int32)) % (5 : Int32)))])) _
    refine XS.icmpYes X2.here hx rfl (pc0 := 28) (pc' := 36) rfl (hb hby at_28) rfl (teq hc28).1 (by decide) (by decide) ?_
    show Steps p.tables e below (T2.setTop (mkF m 36 #[.val (.int x0), .val (.int y0), .val (.int ((x0 &&& (2147483647 : Int32)) % (5 : Int32))), .val (.int ((y0 &&& (2147483647 : Int32)) % (5 : Int32))), .val (.ref r), .val (.ref o), .unset] [])) _
    refine XS.iloadN X2.here hx rfl (hb hby at_36) rfl ?_
    show Steps p.tables e below (T2.setTop (mkF m 37 #[.val (.int x0), .val (.int y0), .val (.int ((x0 &&& (2147483647 : Int32)) % (5 : Int32))), .val (.int ((y0 &&& (2147483647 : Int32)) % (5 : Int32))), .val (.ref r), .val (.ref o), .unset] [(.int ((x0 &&& (2147483647 : Int32)) % (5 : Int32)))])) _
    refine XS.iloadN X2.here hx rfl (hb hby at_37) rfl ?_
    show Steps p.tables e below (T2.setTop (mkF m 38 #[.val (.int x0), .val (.int y0), .val (.int ((x0 &&& (2147483647 : Int32)) % (5 : Int32))), .val (.int ((y0 &&& (2147483647 : Int32)) % (5 : Int32))), .val (.ref r), .val (.ref o), .unset] [(.int ((y0 &&& (2147483647 : Int32)) % (5 : Int32))), (.int ((x0 &&& (2147483647 : Int32)) % (5 : Int32)))])) _
    refine XS.icmpYes X2.here hx rfl (pc0 := 38) (pc' := 45) rfl (hb hby at_38) rfl (feq hc38).2 (by decide) (by decide) ?_
    show Steps p.tables e below (T2.setTop (mkF m 45 #[.val (.int x0), .val (.int y0), .val (.int ((x0 &&& (2147483647 : Int32)) % (5 : Int32))), .val (.int ((y0 &&& (2147483647 : Int32)) % (5 : Int32))), .val (.ref r), .val (.ref o), .unset] [])) _
    refine XS.iconst X2.here hx rfl (hb hby at_45) ?_
    show Steps p.tables e below (T2.setTop (mkF m 46 #[.val (.int x0), .val (.int y0), .val (.int ((x0 &&& (2147483647 : Int32)) % (5 : Int32))), .val (.int ((y0 &&& (2147483647 : Int32)) % (5 : Int32))), .val (.ref r), .val (.ref o), .unset] [(.int (0 : Int32))])) _
    refine XS.istore X2.here hx rfl (hb hby at_46) rfl (l' := #[.val (.int x0), .val (.int y0), .val (.int ((x0 &&& (2147483647 : Int32)) % (5 : Int32))), .val (.int ((y0 &&& (2147483647 : Int32)) % (5 : Int32))), .val (.ref r), .val (.ref o), .val (.int (0 : Int32))]) rfl ?_
    show Steps p.tables e below (T2.setTop (mkF m 48 #[.val (.int x0), .val (.int y0), .val (.int ((x0 &&& (2147483647 : Int32)) % (5 : Int32))), .val (.int ((y0 &&& (2147483647 : Int32)) % (5 : Int32))), .val (.ref r), .val (.ref o), .val (.int (0 : Int32))] [])) _
    refine XS.goto X2.here hx rfl (pc0 := 48) (pc' := 63) rfl (hb hby at_48) (by decide) (by decide) ?_
    show Steps p.tables e below (T2.setTop (mkF m 63 #[.val (.int x0), .val (.int y0), .val (.int ((x0 &&& (2147483647 : Int32)) % (5 : Int32))), .val (.int ((y0 &&& (2147483647 : Int32)) % (5 : Int32))), .val (.ref r), .val (.ref o), .val (.int (0 : Int32))] [])) _
    refine XS.aload X2.here hx rfl (hb hby at_63) rfl rfl ?_
    show Steps p.tables e below (T2.setTop (mkF m 65 #[.val (.int x0), .val (.int y0), .val (.int ((x0 &&& (2147483647 : Int32)) % (5 : Int32))), .val (.int ((y0 &&& (2147483647 : Int32)) % (5 : Int32))), .val (.ref r), .val (.ref o), .val (.int (0 : Int32))] [(.ref r)])) _
    refine XS.aload X2.here hx rfl (hb hby at_65) rfl rfl ?_
    show Steps p.tables e below (T2.setTop (mkF m 67 #[.val (.int x0), .val (.int y0), .val (.int ((x0 &&& (2147483647 : Int32)) % (5 : Int32))), .val (.int ((y0 &&& (2147483647 : Int32)) % (5 : Int32))), .val (.ref r), .val (.ref o), .val (.int (0 : Int32))] [(.ref o), (.ref r)])) _
    refine st3.trans ?_
    show Steps p.tables e below (T3.setTop (mkF m 70 #[.val (.int x0), .val (.int y0), .val (.int ((x0 &&& (2147483647 : Int32)) % (5 : Int32))), .val (.int ((y0 &&& (2147483647 : Int32)) % (5 : Int32))), .val (.ref r), .val (.ref o), .val (.int (0 : Int32))] [(.int b)])) _
    refine XS.iload X3.here hx rfl (hb hby at_70) rfl ?_
    show Steps p.tables e below (T3.setTop (mkF m 72 #[.val (.int x0), .val (.int y0), .val (.int ((x0 &&& (2147483647 : Int32)) % (5 : Int32))), .val (.int ((y0 &&& (2147483647 : Int32)) % (5 : Int32))), .val (.ref r), .val (.ref o), .val (.int (0 : Int32))] [(.int (0 : Int32)), (.int b)])) _
    refine XS.icmpNo X3.here hx rfl (hb hby at_72) rfl (teq hc72).2 ?_
    show Steps p.tables e below (T3.setTop (mkF m 75 #[.val (.int x0), .val (.int y0), .val (.int ((x0 &&& (2147483647 : Int32)) % (5 : Int32))), .val (.int ((y0 &&& (2147483647 : Int32)) % (5 : Int32))), .val (.ref r), .val (.ref o), .val (.int (0 : Int32))] [])) _
    refine XS.iconst X3.here hx rfl (hb hby at_75) ?_
    show Steps p.tables e below (T3.setTop (mkF m 76 #[.val (.int x0), .val (.int y0), .val (.int ((x0 &&& (2147483647 : Int32)) % (5 : Int32))), .val (.int ((y0 &&& (2147483647 : Int32)) % (5 : Int32))), .val (.ref r), .val (.ref o), .val (.int (0 : Int32))] [(.int (1 : Int32))])) _
    refine XS.goto X3.here hx rfl (pc0 := 76) (pc' := 80) rfl (hb hby at_76) (by decide) (by decide) ?_
    show Steps p.tables e below (T3.setTop (mkF m 80 #[.val (.int x0), .val (.int y0), .val (.int ((x0 &&& (2147483647 : Int32)) % (5 : Int32))), .val (.int ((y0 &&& (2147483647 : Int32)) % (5 : Int32))), .val (.ref r), .val (.ref o), .val (.int (0 : Int32))] [(.int (1 : Int32))])) _
    exact retN X3 hx (t := .boolean) Bd.returns (by simp) (hb hby at_80) hr
  · exact ⟨rfl, N3, e3⟩
set_option maxRecDepth 65536 in
set_option maxHeartbeats 40000000 in
theorem law_44 (l : Launch) (Z : State) (a0 : Array Value) (hw : ∀ d ∈ tables_1, d.before a0 Z = true) (x0 y0 b : Int32) (r o : Addr) (h0 : Heap) (n0 : Nat) (Z0 : n0 ≤ h0.size) (Cr : RO l Z (⟨"com/example/shelfmark/shelfmark/RoleIncludesPinLaw", "pick", "(I)Lcom/example/shelfmark/shelfmark/Role;"⟩ : MethodName) method_2_code 1 (some (.object "com/example/shelfmark/shelfmark/Role")) ({ frames := 0, cells := 0, slots := 0, locals := 0 } : Room) #[(.int ((x0 &&& (2147483647 : Int32)) % (5 : Int32)))] h0 n0 (.ref r)) (Co : RO l Z (⟨"com/example/shelfmark/shelfmark/RoleIncludesPinLaw", "pick", "(I)Lcom/example/shelfmark/shelfmark/Role;"⟩ : MethodName) method_2_code 1 (some (.object "com/example/shelfmark/shelfmark/Role")) ({ frames := 0, cells := 0, slots := 0, locals := 0 } : Room) #[(.int ((y0 &&& (2147483647 : Int32)) % (5 : Int32)))] h0 n0 (.ref o)) (Ci : RO l Z (⟨"com/example/shelfmark/shelfmark/Role", "includes", "(Lcom/example/shelfmark/shelfmark/Role;)Z"⟩ : MethodName) prog_11_method_6_code 2 (some .boolean) ({ frames := 0, cells := 0, slots := 0, locals := 0 } : Room) #[(.ref r), (.ref o)] h0 n0 (.int b)) (E_r : Exa Z h0 r "com/example/shelfmark/shelfmark/Role") (hc28 : ((x0 &&& (2147483647 : Int32)) % (5 : Int32)) = (4 : Int32)) (hc38 : ((x0 &&& (2147483647 : Int32)) % (5 : Int32)) = ((y0 &&& (2147483647 : Int32)) % (5 : Int32))) (hc72 : b = (1 : Int32)) :
    RO l Z x code maxLocals ret room_1 #[(.int x0), (.int y0)] h0 n0 (.int (1 : Int32)) := by
  intro ws
  refine MetFree.of_bodySF (plainFor_of_name pn_0) hisR ?_
  intro p e s m args below meth c s₁ Bd hml0 hP hK
  obtain ⟨rfl, hZ, hh⟩ := hP
  have hx := Bd.exec
  have hby := Bd.bytes
  have hml : c.maxLocals = 7 := hml0
  have hown : s.vm.findClass "com/example/shelfmark/shelfmark/RoleIncludesPinLaw" = some m.cls := findClass_of_methodNamed Bd.named
  have hnm := (name_of_methodNamed Bd.named Bd.method).1
  have X0 : Stand p l e room_1 s m #[(.int x0), (.int y0)] below meth c s₁ [] 0 0 := Stand.of_body Bd
  have e0 : s₁.heap = h0 := by rw [← hh, Bd.state]; rfl
  have N0 := Fr.nil n0
  have pre0 : ∀ t_, Steps p.tables e below (s₁.setTop (mkF m 0 #[.val (.int x0), .val (.int y0), .unset, .unset, .unset, .unset, .unset] [])) t_ → Steps p.tables e below (s₁.setTop (entryFrame m #[(.int x0), (.int y0)] maxLocals)) t_ := fun t_ k_ => castTop (ef_0 m x0 y0) k_
  obtain ⟨_, _, ⟨T1, L1, k1, n1⟩, -, X1, ⟨Lc1, hQ1, l1, y1, z1⟩, st1⟩ := Jvm.LawKit.callS X0 hx (y := (⟨"com/example/shelfmark/shelfmark/RoleIncludesPinLaw", "pick", "(I)Lcom/example/shelfmark/shelfmark/Role;"⟩ : MethodName)) hown (mvT hZ (hw _ (List.mem_of_getElem? (i := 1) rfl))) (mvT hZ (hw _ (List.mem_of_getElem? (i := 2) rfl))) (mvT hZ (hw _ (List.mem_of_getElem? (i := 3) rfl))) (mvT hZ (hw _ (List.mem_of_getElem? (i := 4) rfl))) (by decide) (backOf (W := 0) (Cr []) hZ (hw _ (List.mem_of_getElem? (i := 4) rfl)) (hw _ (List.mem_of_getElem? (i := 3) rfl)) (by decide) (by decide)) (g := (mkF m 15 #[.val (.int x0), .val (.int y0), .val (.int ((x0 &&& (2147483647 : Int32)) % (5 : Int32))), .val (.int ((y0 &&& (2147483647 : Int32)) % (5 : Int32))), .unset, .unset, .unset] [(.int ((x0 &&& (2147483647 : Int32)) % (5 : Int32)))])) rfl (by rw [hml]; rfl) (argsL := [(.int ((x0 &&& (2147483647 : Int32)) % (5 : Int32)))]) (rest := []) (lenOf pd_oIcLcom_example_shelfmark_shelfmark_Role_ rfl) rfl (by show 2 * 0 + _ ≤ _; exact Nat.le_of_eq rfl) (hb hby at_15) (fun _ _ => ⟨rfl, e0, (by decide : 0 + 0 ≤ _), (by decide : 0 + 0 ≤ _)⟩)
  dsimp only [Pt.U, Pt.locs, Pt.cells, Pt.slots] at X1 l1 y1 z1 st1 hQ1
  subst l1 y1 z1
  obtain ⟨rfl, N1q, e1⟩ := hQ1
  have N1 := Fr.app N0 N1q
  obtain ⟨_, _, ⟨T2, L2, k2, n2⟩, -, X2, ⟨Lc2, hQ2, l2, y2, z2⟩, st2⟩ := Jvm.LawKit.callS X1 hx (y := (⟨"com/example/shelfmark/shelfmark/RoleIncludesPinLaw", "pick", "(I)Lcom/example/shelfmark/shelfmark/Role;"⟩ : MethodName)) hown (mvT hZ (hw _ (List.mem_of_getElem? (i := 1) rfl))) (mvT hZ (hw _ (List.mem_of_getElem? (i := 2) rfl))) (mvT hZ (hw _ (List.mem_of_getElem? (i := 3) rfl))) (mvT hZ (hw _ (List.mem_of_getElem? (i := 4) rfl))) (by decide) (backOf (W := 0) (Co []) hZ (hw _ (List.mem_of_getElem? (i := 4) rfl)) (hw _ (List.mem_of_getElem? (i := 3) rfl)) (by decide) (by decide)) (g := (mkF m 21 #[.val (.int x0), .val (.int y0), .val (.int ((x0 &&& (2147483647 : Int32)) % (5 : Int32))), .val (.int ((y0 &&& (2147483647 : Int32)) % (5 : Int32))), .val (.ref r), .unset, .unset] [(.int ((y0 &&& (2147483647 : Int32)) % (5 : Int32)))])) rfl (by rw [hml]; rfl) (argsL := [(.int ((y0 &&& (2147483647 : Int32)) % (5 : Int32)))]) (rest := []) (lenOf pd_oIcLcom_example_shelfmark_shelfmark_Role_ rfl) rfl (by show 2 * 0 + _ ≤ _; exact Nat.le_of_eq rfl) (hb hby at_21) (fun _ _ => ⟨rfl, e1, (by decide : 0 + 0 ≤ _), (by decide : 0 + 0 ≤ _)⟩)
  dsimp only [Pt.U, Pt.locs, Pt.cells, Pt.slots] at X2 l2 y2 z2 st2 hQ2
  subst l2 y2 z2
  obtain ⟨rfl, N2q, e2⟩ := hQ2
  have N2 := Fr.app N1 N2q
  obtain ⟨cq3, kq3, q3a, q3b, q3c⟩ := isOf hZ e2 E_r
  obtain ⟨_, _, ⟨T3, L3, k3, n3⟩, -, X3, ⟨Lc3, hQ3, l3, y3, z3⟩, st3⟩ := X2.virtualBack hx (y := (⟨"com/example/shelfmark/shelfmark/Role", "includes", "(Lcom/example/shelfmark/shelfmark/Role;)Z"⟩ : MethodName)) (z := (⟨"com/example/shelfmark/shelfmark/Role", "includes", "(Lcom/example/shelfmark/shelfmark/Role;)Z"⟩ : MethodName)) hown (mvT hZ (hw _ (List.mem_of_getElem? (i := 10) rfl))) (mvT hZ (hw _ (List.mem_of_getElem? (i := 11) rfl))) (notFace_of_selects (args := #[]) (mvT hZ (hw _ (List.mem_of_getElem? (i := 13) rfl)))) (mvT hZ (hw _ (List.mem_of_getElem? (i := 13) rfl))) (mvT hZ (hw _ (List.mem_of_getElem? (i := 12) rfl))) (by decide) (backOf (W := 0) (Ci []) hZ (hw _ (List.mem_of_getElem? (i := 14) rfl)) (hw _ (List.mem_of_getElem? (i := 6) rfl)) (by decide) (by decide)) q3a q3c (g := (mkF m 67 #[.val (.int x0), .val (.int y0), .val (.int ((x0 &&& (2147483647 : Int32)) % (5 : Int32))), .val (.int ((y0 &&& (2147483647 : Int32)) % (5 : Int32))), .val (.ref r), .val (.ref o), .val (.int (1 : Int32))] [(.ref o), (.ref r)])) rfl (by rw [hml]; rfl) (Steps.refl _) (argsL := [(.ref o)]) (rest := []) (lenOf pd_oLcom_example_shelfmark_shelfmark_Role_cZ rfl) rfl (by show 2 * 0 + _ ≤ _; exact Nat.le_of_eq rfl) (hb hby at_67) (fun _ _ => ⟨rfl, e2, (by decide : 0 + 0 ≤ _), (by decide : 0 + 0 ≤ _)⟩)
  dsimp only [Pt.U, Pt.locs, Pt.cells, Pt.slots] at X3 l3 y3 z3 st3 hQ3
  subst l3 y3 z3
  obtain ⟨rfl, N3q, e3⟩ := hQ3
  have N3 := Fr.app N2 N3q
  obtain ⟨fs, hr, hrun, hended, hW, hsame⟩ := X3.leave (v := some (.int (1 : Int32))) (fun h => by rw [Bd.returns] at h; cases h)
  refine ⟨_, _, pre0 _ ?_, hrun, hended, _, _, rfl, ?_, ⟨_, rfl⟩, hW, hsame.mono (by decide) (by decide)⟩
  · show Steps p.tables e below (s₁.setTop (mkF m 0 #[.val (.int x0), .val (.int y0), .unset, .unset, .unset, .unset, .unset] [])) _
    refine XS.iloadN X0.here hx rfl (hb hby at_0) rfl ?_
    show Steps p.tables e below (s₁.setTop (mkF m 1 #[.val (.int x0), .val (.int y0), .unset, .unset, .unset, .unset, .unset] [(.int x0)])) _
    refine X0.ldcInt hx hown (mvT hZ (hw _ (List.mem_of_getElem? (i := 0) rfl))) (g := (mkF m 1 #[.val (.int x0), .val (.int y0), .unset, .unset, .unset, .unset, .unset] [(.int x0)])) rfl (hb hby at_1) _ ?_
    show Steps p.tables e below (s₁.setTop (mkF m 3 #[.val (.int x0), .val (.int y0), .unset, .unset, .unset, .unset, .unset] [(.int (2147483647 : Int32)), (.int x0)])) _
    refine XS.iand X0.here hx rfl (hb hby at_3) rfl ?_
    show Steps p.tables e below (s₁.setTop (mkF m 4 #[.val (.int x0), .val (.int y0), .unset, .unset, .unset, .unset, .unset] [(.int (x0 &&& (2147483647 : Int32)))])) _
    refine XS.iconst X0.here hx rfl (hb hby at_4) ?_
    show Steps p.tables e below (s₁.setTop (mkF m 5 #[.val (.int x0), .val (.int y0), .unset, .unset, .unset, .unset, .unset] [(.int (5 : Int32)), (.int (x0 &&& (2147483647 : Int32)))])) _
    refine iremM X0 hx rfl (hb hby at_5) rfl (by decide) ?_
    show Steps p.tables e below (s₁.setTop (mkF m 6 #[.val (.int x0), .val (.int y0), .unset, .unset, .unset, .unset, .unset] [(.int ((x0 &&& (2147483647 : Int32)) % (5 : Int32)))])) _
    refine XS.istoreN X0.here hx rfl (hb hby at_6) rfl (l' := #[.val (.int x0), .val (.int y0), .val (.int ((x0 &&& (2147483647 : Int32)) % (5 : Int32))), .unset, .unset, .unset, .unset]) rfl ?_
    show Steps p.tables e below (s₁.setTop (mkF m 7 #[.val (.int x0), .val (.int y0), .val (.int ((x0 &&& (2147483647 : Int32)) % (5 : Int32))), .unset, .unset, .unset, .unset] [])) _
    refine XS.iloadN X0.here hx rfl (hb hby at_7) rfl ?_
    show Steps p.tables e below (s₁.setTop (mkF m 8 #[.val (.int x0), .val (.int y0), .val (.int ((x0 &&& (2147483647 : Int32)) % (5 : Int32))), .unset, .unset, .unset, .unset] [(.int y0)])) _
    refine X0.ldcInt hx hown (mvT hZ (hw _ (List.mem_of_getElem? (i := 0) rfl))) (g := (mkF m 8 #[.val (.int x0), .val (.int y0), .val (.int ((x0 &&& (2147483647 : Int32)) % (5 : Int32))), .unset, .unset, .unset, .unset] [(.int y0)])) rfl (hb hby at_8) _ ?_
    show Steps p.tables e below (s₁.setTop (mkF m 10 #[.val (.int x0), .val (.int y0), .val (.int ((x0 &&& (2147483647 : Int32)) % (5 : Int32))), .unset, .unset, .unset, .unset] [(.int (2147483647 : Int32)), (.int y0)])) _
    refine XS.iand X0.here hx rfl (hb hby at_10) rfl ?_
    show Steps p.tables e below (s₁.setTop (mkF m 11 #[.val (.int x0), .val (.int y0), .val (.int ((x0 &&& (2147483647 : Int32)) % (5 : Int32))), .unset, .unset, .unset, .unset] [(.int (y0 &&& (2147483647 : Int32)))])) _
    refine XS.iconst X0.here hx rfl (hb hby at_11) ?_
    show Steps p.tables e below (s₁.setTop (mkF m 12 #[.val (.int x0), .val (.int y0), .val (.int ((x0 &&& (2147483647 : Int32)) % (5 : Int32))), .unset, .unset, .unset, .unset] [(.int (5 : Int32)), (.int (y0 &&& (2147483647 : Int32)))])) _
    refine iremM X0 hx rfl (hb hby at_12) rfl (by decide) ?_
    show Steps p.tables e below (s₁.setTop (mkF m 13 #[.val (.int x0), .val (.int y0), .val (.int ((x0 &&& (2147483647 : Int32)) % (5 : Int32))), .unset, .unset, .unset, .unset] [(.int ((y0 &&& (2147483647 : Int32)) % (5 : Int32)))])) _
    refine XS.istoreN X0.here hx rfl (hb hby at_13) rfl (l' := #[.val (.int x0), .val (.int y0), .val (.int ((x0 &&& (2147483647 : Int32)) % (5 : Int32))), .val (.int ((y0 &&& (2147483647 : Int32)) % (5 : Int32))), .unset, .unset, .unset]) rfl ?_
    show Steps p.tables e below (s₁.setTop (mkF m 14 #[.val (.int x0), .val (.int y0), .val (.int ((x0 &&& (2147483647 : Int32)) % (5 : Int32))), .val (.int ((y0 &&& (2147483647 : Int32)) % (5 : Int32))), .unset, .unset, .unset] [])) _
    refine XS.iloadN X0.here hx rfl (hb hby at_14) rfl ?_
    show Steps p.tables e below (s₁.setTop (mkF m 15 #[.val (.int x0), .val (.int y0), .val (.int ((x0 &&& (2147483647 : Int32)) % (5 : Int32))), .val (.int ((y0 &&& (2147483647 : Int32)) % (5 : Int32))), .unset, .unset, .unset] [(.int ((x0 &&& (2147483647 : Int32)) % (5 : Int32)))])) _
    refine st1 _ ?_
    show Steps p.tables e below (T1.setTop (mkF m 18 #[.val (.int x0), .val (.int y0), .val (.int ((x0 &&& (2147483647 : Int32)) % (5 : Int32))), .val (.int ((y0 &&& (2147483647 : Int32)) % (5 : Int32))), .unset, .unset, .unset] [(.ref r)])) _
    refine XS.astore X1.here hx rfl (hb hby at_18) rfl rfl (l' := #[.val (.int x0), .val (.int y0), .val (.int ((x0 &&& (2147483647 : Int32)) % (5 : Int32))), .val (.int ((y0 &&& (2147483647 : Int32)) % (5 : Int32))), .val (.ref r), .unset, .unset]) rfl ?_
    show Steps p.tables e below (T1.setTop (mkF m 20 #[.val (.int x0), .val (.int y0), .val (.int ((x0 &&& (2147483647 : Int32)) % (5 : Int32))), .val (.int ((y0 &&& (2147483647 : Int32)) % (5 : Int32))), .val (.ref r), .unset, .unset] [])) _
    refine XS.iloadN X1.here hx rfl (hb hby at_20) rfl ?_
    show Steps p.tables e below (T1.setTop (mkF m 21 #[.val (.int x0), .val (.int y0), .val (.int ((x0 &&& (2147483647 : Int32)) % (5 : Int32))), .val (.int ((y0 &&& (2147483647 : Int32)) % (5 : Int32))), .val (.ref r), .unset, .unset] [(.int ((y0 &&& (2147483647 : Int32)) % (5 : Int32)))])) _
    refine st2 _ ?_
    show Steps p.tables e below (T2.setTop (mkF m 24 #[.val (.int x0), .val (.int y0), .val (.int ((x0 &&& (2147483647 : Int32)) % (5 : Int32))), .val (.int ((y0 &&& (2147483647 : Int32)) % (5 : Int32))), .val (.ref r), .unset, .unset] [(.ref o)])) _
    refine XS.astore X2.here hx rfl (hb hby at_24) rfl rfl (l' := #[.val (.int x0), .val (.int y0), .val (.int ((x0 &&& (2147483647 : Int32)) % (5 : Int32))), .val (.int ((y0 &&& (2147483647 : Int32)) % (5 : Int32))), .val (.ref r), .val (.ref o), .unset]) rfl ?_
    show Steps p.tables e below (T2.setTop (mkF m 26 #[.val (.int x0), .val (.int y0), .val (.int ((x0 &&& (2147483647 : Int32)) % (5 : Int32))), .val (.int ((y0 &&& (2147483647 : Int32)) % (5 : Int32))), .val (.ref r), .val (.ref o), .unset] [])) _
    refine XS.iloadN X2.here hx rfl (hb hby at_26) rfl ?_
    show Steps p.tables e below (T2.setTop (mkF m 27 #[.val (.int x0), .val (.int y0), .val (.int ((x0 &&& (2147483647 : Int32)) % (5 : Int32))), .val (.int ((y0 &&& (2147483647 : Int32)) % (5 : Int32))), .val (.ref r), .val (.ref o), .unset] [(.int ((x0 &&& (2147483647 : Int32)) % (5 : Int32)))])) _
    refine XS.iconst X2.here hx rfl (hb hby at_27) ?_
    show Steps p.tables e below (T2.setTop (mkF m 28 #[.val (.int x0), .val (.int y0), .val (.int ((x0 &&& (2147483647 : Int32)) % (5 : Int32))), .val (.int ((y0 &&& (2147483647 : Int32)) % (5 : Int32))), .val (.ref r), .val (.ref o), .unset] [(.int (4 : Int32)), (.int ((x0 &&& (2147483647 : Int32)) % (5 : Int32)))])) _
    refine XS.icmpYes X2.here hx rfl (pc0 := 28) (pc' := 36) rfl (hb hby at_28) rfl (teq hc28).1 (by decide) (by decide) ?_
    show Steps p.tables e below (T2.setTop (mkF m 36 #[.val (.int x0), .val (.int y0), .val (.int ((x0 &&& (2147483647 : Int32)) % (5 : Int32))), .val (.int ((y0 &&& (2147483647 : Int32)) % (5 : Int32))), .val (.ref r), .val (.ref o), .unset] [])) _
    refine XS.iloadN X2.here hx rfl (hb hby at_36) rfl ?_
    show Steps p.tables e below (T2.setTop (mkF m 37 #[.val (.int x0), .val (.int y0), .val (.int ((x0 &&& (2147483647 : Int32)) % (5 : Int32))), .val (.int ((y0 &&& (2147483647 : Int32)) % (5 : Int32))), .val (.ref r), .val (.ref o), .unset] [(.int ((x0 &&& (2147483647 : Int32)) % (5 : Int32)))])) _
    refine XS.iloadN X2.here hx rfl (hb hby at_37) rfl ?_
    show Steps p.tables e below (T2.setTop (mkF m 38 #[.val (.int x0), .val (.int y0), .val (.int ((x0 &&& (2147483647 : Int32)) % (5 : Int32))), .val (.int ((y0 &&& (2147483647 : Int32)) % (5 : Int32))), .val (.ref r), .val (.ref o), .unset] [(.int ((y0 &&& (2147483647 : Int32)) % (5 : Int32))), (.int ((x0 &&& (2147483647 : Int32)) % (5 : Int32)))])) _
    refine XS.icmpNo X2.here hx rfl (hb hby at_38) rfl (teq hc38).2 ?_
    show Steps p.tables e below (T2.setTop (mkF m 41 #[.val (.int x0), .val (.int y0), .val (.int ((x0 &&& (2147483647 : Int32)) % (5 : Int32))), .val (.int ((y0 &&& (2147483647 : Int32)) % (5 : Int32))), .val (.ref r), .val (.ref o), .unset] [])) _
    refine XS.iconst X2.here hx rfl (hb hby at_41) ?_
    show Steps p.tables e below (T2.setTop (mkF m 42 #[.val (.int x0), .val (.int y0), .val (.int ((x0 &&& (2147483647 : Int32)) % (5 : Int32))), .val (.int ((y0 &&& (2147483647 : Int32)) % (5 : Int32))), .val (.ref r), .val (.ref o), .unset] [(.int (1 : Int32))])) _
    refine XS.goto X2.here hx rfl (pc0 := 42) (pc' := 46) rfl (hb hby at_42) (by decide) (by decide) ?_
    show Steps p.tables e below (T2.setTop (mkF m 46 #[.val (.int x0), .val (.int y0), .val (.int ((x0 &&& (2147483647 : Int32)) % (5 : Int32))), .val (.int ((y0 &&& (2147483647 : Int32)) % (5 : Int32))), .val (.ref r), .val (.ref o), .unset] [(.int (1 : Int32))])) _
    refine XS.istore X2.here hx rfl (hb hby at_46) rfl (l' := #[.val (.int x0), .val (.int y0), .val (.int ((x0 &&& (2147483647 : Int32)) % (5 : Int32))), .val (.int ((y0 &&& (2147483647 : Int32)) % (5 : Int32))), .val (.ref r), .val (.ref o), .val (.int (1 : Int32))]) rfl ?_
    show Steps p.tables e below (T2.setTop (mkF m 48 #[.val (.int x0), .val (.int y0), .val (.int ((x0 &&& (2147483647 : Int32)) % (5 : Int32))), .val (.int ((y0 &&& (2147483647 : Int32)) % (5 : Int32))), .val (.ref r), .val (.ref o), .val (.int (1 : Int32))] [])) _
    refine XS.goto X2.here hx rfl (pc0 := 48) (pc' := 63) rfl (hb hby at_48) (by decide) (by decide) ?_
    show Steps p.tables e below (T2.setTop (mkF m 63 #[.val (.int x0), .val (.int y0), .val (.int ((x0 &&& (2147483647 : Int32)) % (5 : Int32))), .val (.int ((y0 &&& (2147483647 : Int32)) % (5 : Int32))), .val (.ref r), .val (.ref o), .val (.int (1 : Int32))] [])) _
    refine XS.aload X2.here hx rfl (hb hby at_63) rfl rfl ?_
    show Steps p.tables e below (T2.setTop (mkF m 65 #[.val (.int x0), .val (.int y0), .val (.int ((x0 &&& (2147483647 : Int32)) % (5 : Int32))), .val (.int ((y0 &&& (2147483647 : Int32)) % (5 : Int32))), .val (.ref r), .val (.ref o), .val (.int (1 : Int32))] [(.ref r)])) _
    refine XS.aload X2.here hx rfl (hb hby at_65) rfl rfl ?_
    show Steps p.tables e below (T2.setTop (mkF m 67 #[.val (.int x0), .val (.int y0), .val (.int ((x0 &&& (2147483647 : Int32)) % (5 : Int32))), .val (.int ((y0 &&& (2147483647 : Int32)) % (5 : Int32))), .val (.ref r), .val (.ref o), .val (.int (1 : Int32))] [(.ref o), (.ref r)])) _
    refine st3.trans ?_
    show Steps p.tables e below (T3.setTop (mkF m 70 #[.val (.int x0), .val (.int y0), .val (.int ((x0 &&& (2147483647 : Int32)) % (5 : Int32))), .val (.int ((y0 &&& (2147483647 : Int32)) % (5 : Int32))), .val (.ref r), .val (.ref o), .val (.int (1 : Int32))] [(.int b)])) _
    refine XS.iload X3.here hx rfl (hb hby at_70) rfl ?_
    show Steps p.tables e below (T3.setTop (mkF m 72 #[.val (.int x0), .val (.int y0), .val (.int ((x0 &&& (2147483647 : Int32)) % (5 : Int32))), .val (.int ((y0 &&& (2147483647 : Int32)) % (5 : Int32))), .val (.ref r), .val (.ref o), .val (.int (1 : Int32))] [(.int (1 : Int32)), (.int b)])) _
    refine XS.icmpNo X3.here hx rfl (hb hby at_72) rfl (teq hc72).2 ?_
    show Steps p.tables e below (T3.setTop (mkF m 75 #[.val (.int x0), .val (.int y0), .val (.int ((x0 &&& (2147483647 : Int32)) % (5 : Int32))), .val (.int ((y0 &&& (2147483647 : Int32)) % (5 : Int32))), .val (.ref r), .val (.ref o), .val (.int (1 : Int32))] [])) _
    refine XS.iconst X3.here hx rfl (hb hby at_75) ?_
    show Steps p.tables e below (T3.setTop (mkF m 76 #[.val (.int x0), .val (.int y0), .val (.int ((x0 &&& (2147483647 : Int32)) % (5 : Int32))), .val (.int ((y0 &&& (2147483647 : Int32)) % (5 : Int32))), .val (.ref r), .val (.ref o), .val (.int (1 : Int32))] [(.int (1 : Int32))])) _
    refine XS.goto X3.here hx rfl (pc0 := 76) (pc' := 80) rfl (hb hby at_76) (by decide) (by decide) ?_
    show Steps p.tables e below (T3.setTop (mkF m 80 #[.val (.int x0), .val (.int y0), .val (.int ((x0 &&& (2147483647 : Int32)) % (5 : Int32))), .val (.int ((y0 &&& (2147483647 : Int32)) % (5 : Int32))), .val (.ref r), .val (.ref o), .val (.int (1 : Int32))] [(.int (1 : Int32))])) _
    exact retN X3 hx (t := .boolean) Bd.returns (by simp) (hb hby at_80) hr
  · exact ⟨rfl, N3, e3⟩
set_option maxRecDepth 65536 in
set_option maxHeartbeats 40000000 in
theorem law_n4 (l : Launch) (Z : State) (a0 : Array Value) (hw : ∀ d ∈ tables_1, d.before a0 Z = true) (x0 y0 b : Int32) (r o : Addr) (h0 : Heap) (n0 : Nat) (Z0 : n0 ≤ h0.size) (Cr : RO l Z (⟨"com/example/shelfmark/shelfmark/RoleIncludesPinLaw", "pick", "(I)Lcom/example/shelfmark/shelfmark/Role;"⟩ : MethodName) method_2_code 1 (some (.object "com/example/shelfmark/shelfmark/Role")) ({ frames := 0, cells := 0, slots := 0, locals := 0 } : Room) #[(.int ((x0 &&& (2147483647 : Int32)) % (5 : Int32)))] h0 n0 (.ref r)) (Co : RO l Z (⟨"com/example/shelfmark/shelfmark/RoleIncludesPinLaw", "pick", "(I)Lcom/example/shelfmark/shelfmark/Role;"⟩ : MethodName) method_2_code 1 (some (.object "com/example/shelfmark/shelfmark/Role")) ({ frames := 0, cells := 0, slots := 0, locals := 0 } : Room) #[(.int ((y0 &&& (2147483647 : Int32)) % (5 : Int32)))] h0 n0 (.ref o)) (Ci : RO l Z (⟨"com/example/shelfmark/shelfmark/Role", "includes", "(Lcom/example/shelfmark/shelfmark/Role;)Z"⟩ : MethodName) prog_11_method_6_code 2 (some .boolean) ({ frames := 0, cells := 0, slots := 0, locals := 0 } : Room) #[(.ref r), (.ref o)] h0 n0 (.int b)) (E_r : Exa Z h0 r "com/example/shelfmark/shelfmark/Role") (hc28 : ¬ (((x0 &&& (2147483647 : Int32)) % (5 : Int32)) = (4 : Int32))) (hc33 : ((y0 &&& (2147483647 : Int32)) % (5 : Int32)) = (4 : Int32)) (hc38 : ¬ (((x0 &&& (2147483647 : Int32)) % (5 : Int32)) = ((y0 &&& (2147483647 : Int32)) % (5 : Int32)))) (hc72 : b = (0 : Int32)) :
    RO l Z x code maxLocals ret room_1 #[(.int x0), (.int y0)] h0 n0 (.int (1 : Int32)) := by
  intro ws
  refine MetFree.of_bodySF (plainFor_of_name pn_0) hisR ?_
  intro p e s m args below meth c s₁ Bd hml0 hP hK
  obtain ⟨rfl, hZ, hh⟩ := hP
  have hx := Bd.exec
  have hby := Bd.bytes
  have hml : c.maxLocals = 7 := hml0
  have hown : s.vm.findClass "com/example/shelfmark/shelfmark/RoleIncludesPinLaw" = some m.cls := findClass_of_methodNamed Bd.named
  have hnm := (name_of_methodNamed Bd.named Bd.method).1
  have X0 : Stand p l e room_1 s m #[(.int x0), (.int y0)] below meth c s₁ [] 0 0 := Stand.of_body Bd
  have e0 : s₁.heap = h0 := by rw [← hh, Bd.state]; rfl
  have N0 := Fr.nil n0
  have pre0 : ∀ t_, Steps p.tables e below (s₁.setTop (mkF m 0 #[.val (.int x0), .val (.int y0), .unset, .unset, .unset, .unset, .unset] [])) t_ → Steps p.tables e below (s₁.setTop (entryFrame m #[(.int x0), (.int y0)] maxLocals)) t_ := fun t_ k_ => castTop (ef_0 m x0 y0) k_
  obtain ⟨_, _, ⟨T1, L1, k1, n1⟩, -, X1, ⟨Lc1, hQ1, l1, y1, z1⟩, st1⟩ := Jvm.LawKit.callS X0 hx (y := (⟨"com/example/shelfmark/shelfmark/RoleIncludesPinLaw", "pick", "(I)Lcom/example/shelfmark/shelfmark/Role;"⟩ : MethodName)) hown (mvT hZ (hw _ (List.mem_of_getElem? (i := 1) rfl))) (mvT hZ (hw _ (List.mem_of_getElem? (i := 2) rfl))) (mvT hZ (hw _ (List.mem_of_getElem? (i := 3) rfl))) (mvT hZ (hw _ (List.mem_of_getElem? (i := 4) rfl))) (by decide) (backOf (W := 0) (Cr []) hZ (hw _ (List.mem_of_getElem? (i := 4) rfl)) (hw _ (List.mem_of_getElem? (i := 3) rfl)) (by decide) (by decide)) (g := (mkF m 15 #[.val (.int x0), .val (.int y0), .val (.int ((x0 &&& (2147483647 : Int32)) % (5 : Int32))), .val (.int ((y0 &&& (2147483647 : Int32)) % (5 : Int32))), .unset, .unset, .unset] [(.int ((x0 &&& (2147483647 : Int32)) % (5 : Int32)))])) rfl (by rw [hml]; rfl) (argsL := [(.int ((x0 &&& (2147483647 : Int32)) % (5 : Int32)))]) (rest := []) (lenOf pd_oIcLcom_example_shelfmark_shelfmark_Role_ rfl) rfl (by show 2 * 0 + _ ≤ _; exact Nat.le_of_eq rfl) (hb hby at_15) (fun _ _ => ⟨rfl, e0, (by decide : 0 + 0 ≤ _), (by decide : 0 + 0 ≤ _)⟩)
  dsimp only [Pt.U, Pt.locs, Pt.cells, Pt.slots] at X1 l1 y1 z1 st1 hQ1
  subst l1 y1 z1
  obtain ⟨rfl, N1q, e1⟩ := hQ1
  have N1 := Fr.app N0 N1q
  obtain ⟨_, _, ⟨T2, L2, k2, n2⟩, -, X2, ⟨Lc2, hQ2, l2, y2, z2⟩, st2⟩ := Jvm.LawKit.callS X1 hx (y := (⟨"com/example/shelfmark/shelfmark/RoleIncludesPinLaw", "pick", "(I)Lcom/example/shelfmark/shelfmark/Role;"⟩ : MethodName)) hown (mvT hZ (hw _ (List.mem_of_getElem? (i := 1) rfl))) (mvT hZ (hw _ (List.mem_of_getElem? (i := 2) rfl))) (mvT hZ (hw _ (List.mem_of_getElem? (i := 3) rfl))) (mvT hZ (hw _ (List.mem_of_getElem? (i := 4) rfl))) (by decide) (backOf (W := 0) (Co []) hZ (hw _ (List.mem_of_getElem? (i := 4) rfl)) (hw _ (List.mem_of_getElem? (i := 3) rfl)) (by decide) (by decide)) (g := (mkF m 21 #[.val (.int x0), .val (.int y0), .val (.int ((x0 &&& (2147483647 : Int32)) % (5 : Int32))), .val (.int ((y0 &&& (2147483647 : Int32)) % (5 : Int32))), .val (.ref r), .unset, .unset] [(.int ((y0 &&& (2147483647 : Int32)) % (5 : Int32)))])) rfl (by rw [hml]; rfl) (argsL := [(.int ((y0 &&& (2147483647 : Int32)) % (5 : Int32)))]) (rest := []) (lenOf pd_oIcLcom_example_shelfmark_shelfmark_Role_ rfl) rfl (by show 2 * 0 + _ ≤ _; exact Nat.le_of_eq rfl) (hb hby at_21) (fun _ _ => ⟨rfl, e1, (by decide : 0 + 0 ≤ _), (by decide : 0 + 0 ≤ _)⟩)
  dsimp only [Pt.U, Pt.locs, Pt.cells, Pt.slots] at X2 l2 y2 z2 st2 hQ2
  subst l2 y2 z2
  obtain ⟨rfl, N2q, e2⟩ := hQ2
  have N2 := Fr.app N1 N2q
  obtain ⟨cq3, kq3, q3a, q3b, q3c⟩ := isOf hZ e2 E_r
  obtain ⟨_, _, ⟨T3, L3, k3, n3⟩, -, X3, ⟨Lc3, hQ3, l3, y3, z3⟩, st3⟩ := X2.virtualBack hx (y := (⟨"com/example/shelfmark/shelfmark/Role", "includes", "(Lcom/example/shelfmark/shelfmark/Role;)Z"⟩ : MethodName)) (z := (⟨"com/example/shelfmark/shelfmark/Role", "includes", "(Lcom/example/shelfmark/shelfmark/Role;)Z"⟩ : MethodName)) hown (mvT hZ (hw _ (List.mem_of_getElem? (i := 10) rfl))) (mvT hZ (hw _ (List.mem_of_getElem? (i := 11) rfl))) (notFace_of_selects (args := #[]) (mvT hZ (hw _ (List.mem_of_getElem? (i := 13) rfl)))) (mvT hZ (hw _ (List.mem_of_getElem? (i := 13) rfl))) (mvT hZ (hw _ (List.mem_of_getElem? (i := 12) rfl))) (by decide) (backOf (W := 0) (Ci []) hZ (hw _ (List.mem_of_getElem? (i := 14) rfl)) (hw _ (List.mem_of_getElem? (i := 6) rfl)) (by decide) (by decide)) q3a q3c (g := (mkF m 67 #[.val (.int x0), .val (.int y0), .val (.int ((x0 &&& (2147483647 : Int32)) % (5 : Int32))), .val (.int ((y0 &&& (2147483647 : Int32)) % (5 : Int32))), .val (.ref r), .val (.ref o), .val (.int (0 : Int32))] [(.ref o), (.ref r)])) rfl (by rw [hml]; rfl) (Steps.refl _) (argsL := [(.ref o)]) (rest := []) (lenOf pd_oLcom_example_shelfmark_shelfmark_Role_cZ rfl) rfl (by show 2 * 0 + _ ≤ _; exact Nat.le_of_eq rfl) (hb hby at_67) (fun _ _ => ⟨rfl, e2, (by decide : 0 + 0 ≤ _), (by decide : 0 + 0 ≤ _)⟩)
  dsimp only [Pt.U, Pt.locs, Pt.cells, Pt.slots] at X3 l3 y3 z3 st3 hQ3
  subst l3 y3 z3
  obtain ⟨rfl, N3q, e3⟩ := hQ3
  have N3 := Fr.app N2 N3q
  obtain ⟨fs, hr, hrun, hended, hW, hsame⟩ := X3.leave (v := some (.int (1 : Int32))) (fun h => by rw [Bd.returns] at h; cases h)
  refine ⟨_, _, pre0 _ ?_, hrun, hended, _, _, rfl, ?_, ⟨_, rfl⟩, hW, hsame.mono (by decide) (by decide)⟩
  · show Steps p.tables e below (s₁.setTop (mkF m 0 #[.val (.int x0), .val (.int y0), .unset, .unset, .unset, .unset, .unset] [])) _
    refine XS.iloadN X0.here hx rfl (hb hby at_0) rfl ?_
    show Steps p.tables e below (s₁.setTop (mkF m 1 #[.val (.int x0), .val (.int y0), .unset, .unset, .unset, .unset, .unset] [(.int x0)])) _
    refine X0.ldcInt hx hown (mvT hZ (hw _ (List.mem_of_getElem? (i := 0) rfl))) (g := (mkF m 1 #[.val (.int x0), .val (.int y0), .unset, .unset, .unset, .unset, .unset] [(.int x0)])) rfl (hb hby at_1) _ ?_
    show Steps p.tables e below (s₁.setTop (mkF m 3 #[.val (.int x0), .val (.int y0), .unset, .unset, .unset, .unset, .unset] [(.int (2147483647 : Int32)), (.int x0)])) _
    refine XS.iand X0.here hx rfl (hb hby at_3) rfl ?_
    show Steps p.tables e below (s₁.setTop (mkF m 4 #[.val (.int x0), .val (.int y0), .unset, .unset, .unset, .unset, .unset] [(.int (x0 &&& (2147483647 : Int32)))])) _
    refine XS.iconst X0.here hx rfl (hb hby at_4) ?_
    show Steps p.tables e below (s₁.setTop (mkF m 5 #[.val (.int x0), .val (.int y0), .unset, .unset, .unset, .unset, .unset] [(.int (5 : Int32)), (.int (x0 &&& (2147483647 : Int32)))])) _
    refine iremM X0 hx rfl (hb hby at_5) rfl (by decide) ?_
    show Steps p.tables e below (s₁.setTop (mkF m 6 #[.val (.int x0), .val (.int y0), .unset, .unset, .unset, .unset, .unset] [(.int ((x0 &&& (2147483647 : Int32)) % (5 : Int32)))])) _
    refine XS.istoreN X0.here hx rfl (hb hby at_6) rfl (l' := #[.val (.int x0), .val (.int y0), .val (.int ((x0 &&& (2147483647 : Int32)) % (5 : Int32))), .unset, .unset, .unset, .unset]) rfl ?_
    show Steps p.tables e below (s₁.setTop (mkF m 7 #[.val (.int x0), .val (.int y0), .val (.int ((x0 &&& (2147483647 : Int32)) % (5 : Int32))), .unset, .unset, .unset, .unset] [])) _
    refine XS.iloadN X0.here hx rfl (hb hby at_7) rfl ?_
    show Steps p.tables e below (s₁.setTop (mkF m 8 #[.val (.int x0), .val (.int y0), .val (.int ((x0 &&& (2147483647 : Int32)) % (5 : Int32))), .unset, .unset, .unset, .unset] [(.int y0)])) _
    refine X0.ldcInt hx hown (mvT hZ (hw _ (List.mem_of_getElem? (i := 0) rfl))) (g := (mkF m 8 #[.val (.int x0), .val (.int y0), .val (.int ((x0 &&& (2147483647 : Int32)) % (5 : Int32))), .unset, .unset, .unset, .unset] [(.int y0)])) rfl (hb hby at_8) _ ?_
    show Steps p.tables e below (s₁.setTop (mkF m 10 #[.val (.int x0), .val (.int y0), .val (.int ((x0 &&& (2147483647 : Int32)) % (5 : Int32))), .unset, .unset, .unset, .unset] [(.int (2147483647 : Int32)), (.int y0)])) _
    refine XS.iand X0.here hx rfl (hb hby at_10) rfl ?_
    show Steps p.tables e below (s₁.setTop (mkF m 11 #[.val (.int x0), .val (.int y0), .val (.int ((x0 &&& (2147483647 : Int32)) % (5 : Int32))), .unset, .unset, .unset, .unset] [(.int (y0 &&& (2147483647 : Int32)))])) _
    refine XS.iconst X0.here hx rfl (hb hby at_11) ?_
    show Steps p.tables e below (s₁.setTop (mkF m 12 #[.val (.int x0), .val (.int y0), .val (.int ((x0 &&& (2147483647 : Int32)) % (5 : Int32))), .unset, .unset, .unset, .unset] [(.int (5 : Int32)), (.int (y0 &&& (2147483647 : Int32)))])) _
    refine iremM X0 hx rfl (hb hby at_12) rfl (by decide) ?_
    show Steps p.tables e below (s₁.setTop (mkF m 13 #[.val (.int x0), .val (.int y0), .val (.int ((x0 &&& (2147483647 : Int32)) % (5 : Int32))), .unset, .unset, .unset, .unset] [(.int ((y0 &&& (2147483647 : Int32)) % (5 : Int32)))])) _
    refine XS.istoreN X0.here hx rfl (hb hby at_13) rfl (l' := #[.val (.int x0), .val (.int y0), .val (.int ((x0 &&& (2147483647 : Int32)) % (5 : Int32))), .val (.int ((y0 &&& (2147483647 : Int32)) % (5 : Int32))), .unset, .unset, .unset]) rfl ?_
    show Steps p.tables e below (s₁.setTop (mkF m 14 #[.val (.int x0), .val (.int y0), .val (.int ((x0 &&& (2147483647 : Int32)) % (5 : Int32))), .val (.int ((y0 &&& (2147483647 : Int32)) % (5 : Int32))), .unset, .unset, .unset] [])) _
    refine XS.iloadN X0.here hx rfl (hb hby at_14) rfl ?_
    show Steps p.tables e below (s₁.setTop (mkF m 15 #[.val (.int x0), .val (.int y0), .val (.int ((x0 &&& (2147483647 : Int32)) % (5 : Int32))), .val (.int ((y0 &&& (2147483647 : Int32)) % (5 : Int32))), .unset, .unset, .unset] [(.int ((x0 &&& (2147483647 : Int32)) % (5 : Int32)))])) _
    refine st1 _ ?_
    show Steps p.tables e below (T1.setTop (mkF m 18 #[.val (.int x0), .val (.int y0), .val (.int ((x0 &&& (2147483647 : Int32)) % (5 : Int32))), .val (.int ((y0 &&& (2147483647 : Int32)) % (5 : Int32))), .unset, .unset, .unset] [(.ref r)])) _
    refine XS.astore X1.here hx rfl (hb hby at_18) rfl rfl (l' := #[.val (.int x0), .val (.int y0), .val (.int ((x0 &&& (2147483647 : Int32)) % (5 : Int32))), .val (.int ((y0 &&& (2147483647 : Int32)) % (5 : Int32))), .val (.ref r), .unset, .unset]) rfl ?_
    show Steps p.tables e below (T1.setTop (mkF m 20 #[.val (.int x0), .val (.int y0), .val (.int ((x0 &&& (2147483647 : Int32)) % (5 : Int32))), .val (.int ((y0 &&& (2147483647 : Int32)) % (5 : Int32))), .val (.ref r), .unset, .unset] [])) _
    refine XS.iloadN X1.here hx rfl (hb hby at_20) rfl ?_
    show Steps p.tables e below (T1.setTop (mkF m 21 #[.val (.int x0), .val (.int y0), .val (.int ((x0 &&& (2147483647 : Int32)) % (5 : Int32))), .val (.int ((y0 &&& (2147483647 : Int32)) % (5 : Int32))), .val (.ref r), .unset, .unset] [(.int ((y0 &&& (2147483647 : Int32)) % (5 : Int32)))])) _
    refine st2 _ ?_
    show Steps p.tables e below (T2.setTop (mkF m 24 #[.val (.int x0), .val (.int y0), .val (.int ((x0 &&& (2147483647 : Int32)) % (5 : Int32))), .val (.int ((y0 &&& (2147483647 : Int32)) % (5 : Int32))), .val (.ref r), .unset, .unset] [(.ref o)])) _
    refine XS.astore X2.here hx rfl (hb hby at_24) rfl rfl (l' := #[.val (.int x0), .val (.int y0), .val (.int ((x0 &&& (2147483647 : Int32)) % (5 : Int32))), .val (.int ((y0 &&& (2147483647 : Int32)) % (5 : Int32))), .val (.ref r), .val (.ref o), .unset]) rfl ?_
    show Steps p.tables e below (T2.setTop (mkF m 26 #[.val (.int x0), .val (.int y0), .val (.int ((x0 &&& (2147483647 : Int32)) % (5 : Int32))), .val (.int ((y0 &&& (2147483647 : Int32)) % (5 : Int32))), .val (.ref r), .val (.ref o), .unset] [])) _
    refine XS.iloadN X2.here hx rfl (hb hby at_26) rfl ?_
    show Steps p.tables e below (T2.setTop (mkF m 27 #[.val (.int x0), .val (.int y0), .val (.int ((x0 &&& (2147483647 : Int32)) % (5 : Int32))), .val (.int ((y0 &&& (2147483647 : Int32)) % (5 : Int32))), .val (.ref r), .val (.ref o), .unset] [(.int ((x0 &&& (2147483647 : Int32)) % (5 : Int32)))])) _
    refine XS.iconst X2.here hx rfl (hb hby at_27) ?_
    show Steps p.tables e below (T2.setTop (mkF m 28 #[.val (.int x0), .val (.int y0), .val (.int ((x0 &&& (2147483647 : Int32)) % (5 : Int32))), .val (.int ((y0 &&& (2147483647 : Int32)) % (5 : Int32))), .val (.ref r), .val (.ref o), .unset] [(.int (4 : Int32)), (.int ((x0 &&& (2147483647 : Int32)) % (5 : Int32)))])) _
    refine XS.icmpNo X2.here hx rfl (hb hby at_28) rfl (feq hc28).1 ?_
    show Steps p.tables e below (T2.setTop (mkF m 31 #[.val (.int x0), .val (.int y0), .val (.int ((x0 &&& (2147483647 : Int32)) % (5 : Int32))), .val (.int ((y0 &&& (2147483647 : Int32)) % (5 : Int32))), .val (.ref r), .val (.ref o), .unset] [])) _
    refine XS.iloadN X2.here hx rfl (hb hby at_31) rfl ?_
    show Steps p.tables e below (T2.setTop (mkF m 32 #[.val (.int x0), .val (.int y0), .val (.int ((x0 &&& (2147483647 : Int32)) % (5 : Int32))), .val (.int ((y0 &&& (2147483647 : Int32)) % (5 : Int32))), .val (.ref r), .val (.ref o), .unset] [(.int ((y0 &&& (2147483647 : Int32)) % (5 : Int32)))])) _
    refine XS.iconst X2.here hx rfl (hb hby at_32) ?_
    show Steps p.tables e below (T2.setTop (mkF m 33 #[.val (.int x0), .val (.int y0), .val (.int ((x0 &&& (2147483647 : Int32)) % (5 : Int32))), .val (.int ((y0 &&& (2147483647 : Int32)) % (5 : Int32))), .val (.ref r), .val (.ref o), .unset] [(.int (4 : Int32)), (.int ((y0 &&& (2147483647 : Int32)) % (5 : Int32)))])) _
    refine XS.icmpNo X2.here hx rfl (hb hby at_33) rfl (teq hc33).2 ?_
    show Steps p.tables e below (T2.setTop (mkF m 36 #[.val (.int x0), .val (.int y0), .val (.int ((x0 &&& (2147483647 : Int32)) % (5 : Int32))), .val (.int ((y0 &&& (2147483647 : Int32)) % (5 : Int32))), .val (.ref r), .val (.ref o), .unset] [])) _
    refine XS.iloadN X2.here hx rfl (hb hby at_36) rfl ?_
    show Steps p.tables e below (T2.setTop (mkF m 37 #[.val (.int x0), .val (.int y0), .val (.int ((x0 &&& (2147483647 : Int32)) % (5 : Int32))), .val (.int ((y0 &&& (2147483647 : Int32)) % (5 : Int32))), .val (.ref r), .val (.ref o), .unset] [(.int ((x0 &&& (2147483647 : Int32)) % (5 : Int32)))])) _
    refine XS.iloadN X2.here hx rfl (hb hby at_37) rfl ?_
    show Steps p.tables e below (T2.setTop (mkF m 38 #[.val (.int x0), .val (.int y0), .val (.int ((x0 &&& (2147483647 : Int32)) % (5 : Int32))), .val (.int ((y0 &&& (2147483647 : Int32)) % (5 : Int32))), .val (.ref r), .val (.ref o), .unset] [(.int ((y0 &&& (2147483647 : Int32)) % (5 : Int32))), (.int ((x0 &&& (2147483647 : Int32)) % (5 : Int32)))])) _
    refine XS.icmpYes X2.here hx rfl (pc0 := 38) (pc' := 45) rfl (hb hby at_38) rfl (feq hc38).2 (by decide) (by decide) ?_
    show Steps p.tables e below (T2.setTop (mkF m 45 #[.val (.int x0), .val (.int y0), .val (.int ((x0 &&& (2147483647 : Int32)) % (5 : Int32))), .val (.int ((y0 &&& (2147483647 : Int32)) % (5 : Int32))), .val (.ref r), .val (.ref o), .unset] [])) _
    refine XS.iconst X2.here hx rfl (hb hby at_45) ?_
    show Steps p.tables e below (T2.setTop (mkF m 46 #[.val (.int x0), .val (.int y0), .val (.int ((x0 &&& (2147483647 : Int32)) % (5 : Int32))), .val (.int ((y0 &&& (2147483647 : Int32)) % (5 : Int32))), .val (.ref r), .val (.ref o), .unset] [(.int (0 : Int32))])) _
    refine XS.istore X2.here hx rfl (hb hby at_46) rfl (l' := #[.val (.int x0), .val (.int y0), .val (.int ((x0 &&& (2147483647 : Int32)) % (5 : Int32))), .val (.int ((y0 &&& (2147483647 : Int32)) % (5 : Int32))), .val (.ref r), .val (.ref o), .val (.int (0 : Int32))]) rfl ?_
    show Steps p.tables e below (T2.setTop (mkF m 48 #[.val (.int x0), .val (.int y0), .val (.int ((x0 &&& (2147483647 : Int32)) % (5 : Int32))), .val (.int ((y0 &&& (2147483647 : Int32)) % (5 : Int32))), .val (.ref r), .val (.ref o), .val (.int (0 : Int32))] [])) _
    refine XS.goto X2.here hx rfl (pc0 := 48) (pc' := 63) rfl (hb hby at_48) (by decide) (by decide) ?_
    show Steps p.tables e below (T2.setTop (mkF m 63 #[.val (.int x0), .val (.int y0), .val (.int ((x0 &&& (2147483647 : Int32)) % (5 : Int32))), .val (.int ((y0 &&& (2147483647 : Int32)) % (5 : Int32))), .val (.ref r), .val (.ref o), .val (.int (0 : Int32))] [])) _
    refine XS.aload X2.here hx rfl (hb hby at_63) rfl rfl ?_
    show Steps p.tables e below (T2.setTop (mkF m 65 #[.val (.int x0), .val (.int y0), .val (.int ((x0 &&& (2147483647 : Int32)) % (5 : Int32))), .val (.int ((y0 &&& (2147483647 : Int32)) % (5 : Int32))), .val (.ref r), .val (.ref o), .val (.int (0 : Int32))] [(.ref r)])) _
    refine XS.aload X2.here hx rfl (hb hby at_65) rfl rfl ?_
    show Steps p.tables e below (T2.setTop (mkF m 67 #[.val (.int x0), .val (.int y0), .val (.int ((x0 &&& (2147483647 : Int32)) % (5 : Int32))), .val (.int ((y0 &&& (2147483647 : Int32)) % (5 : Int32))), .val (.ref r), .val (.ref o), .val (.int (0 : Int32))] [(.ref o), (.ref r)])) _
    refine st3.trans ?_
    show Steps p.tables e below (T3.setTop (mkF m 70 #[.val (.int x0), .val (.int y0), .val (.int ((x0 &&& (2147483647 : Int32)) % (5 : Int32))), .val (.int ((y0 &&& (2147483647 : Int32)) % (5 : Int32))), .val (.ref r), .val (.ref o), .val (.int (0 : Int32))] [(.int b)])) _
    refine XS.iload X3.here hx rfl (hb hby at_70) rfl ?_
    show Steps p.tables e below (T3.setTop (mkF m 72 #[.val (.int x0), .val (.int y0), .val (.int ((x0 &&& (2147483647 : Int32)) % (5 : Int32))), .val (.int ((y0 &&& (2147483647 : Int32)) % (5 : Int32))), .val (.ref r), .val (.ref o), .val (.int (0 : Int32))] [(.int (0 : Int32)), (.int b)])) _
    refine XS.icmpNo X3.here hx rfl (hb hby at_72) rfl (teq hc72).2 ?_
    show Steps p.tables e below (T3.setTop (mkF m 75 #[.val (.int x0), .val (.int y0), .val (.int ((x0 &&& (2147483647 : Int32)) % (5 : Int32))), .val (.int ((y0 &&& (2147483647 : Int32)) % (5 : Int32))), .val (.ref r), .val (.ref o), .val (.int (0 : Int32))] [])) _
    refine XS.iconst X3.here hx rfl (hb hby at_75) ?_
    show Steps p.tables e below (T3.setTop (mkF m 76 #[.val (.int x0), .val (.int y0), .val (.int ((x0 &&& (2147483647 : Int32)) % (5 : Int32))), .val (.int ((y0 &&& (2147483647 : Int32)) % (5 : Int32))), .val (.ref r), .val (.ref o), .val (.int (0 : Int32))] [(.int (1 : Int32))])) _
    refine XS.goto X3.here hx rfl (pc0 := 76) (pc' := 80) rfl (hb hby at_76) (by decide) (by decide) ?_
    show Steps p.tables e below (T3.setTop (mkF m 80 #[.val (.int x0), .val (.int y0), .val (.int ((x0 &&& (2147483647 : Int32)) % (5 : Int32))), .val (.int ((y0 &&& (2147483647 : Int32)) % (5 : Int32))), .val (.ref r), .val (.ref o), .val (.int (0 : Int32))] [(.int (1 : Int32))])) _
    exact retN X3 hx (t := .boolean) Bd.returns (by simp) (hb hby at_80) hr
  · exact ⟨rfl, N3, e3⟩
set_option maxRecDepth 65536 in
set_option maxHeartbeats 40000000 in
theorem law_lt (l : Launch) (Z : State) (a0 : Array Value) (hw : ∀ d ∈ tables_1, d.before a0 Z = true) (x0 y0 b : Int32) (r o : Addr) (h0 : Heap) (n0 : Nat) (Z0 : n0 ≤ h0.size) (Cr : RO l Z (⟨"com/example/shelfmark/shelfmark/RoleIncludesPinLaw", "pick", "(I)Lcom/example/shelfmark/shelfmark/Role;"⟩ : MethodName) method_2_code 1 (some (.object "com/example/shelfmark/shelfmark/Role")) ({ frames := 0, cells := 0, slots := 0, locals := 0 } : Room) #[(.int ((x0 &&& (2147483647 : Int32)) % (5 : Int32)))] h0 n0 (.ref r)) (Co : RO l Z (⟨"com/example/shelfmark/shelfmark/RoleIncludesPinLaw", "pick", "(I)Lcom/example/shelfmark/shelfmark/Role;"⟩ : MethodName) method_2_code 1 (some (.object "com/example/shelfmark/shelfmark/Role")) ({ frames := 0, cells := 0, slots := 0, locals := 0 } : Room) #[(.int ((y0 &&& (2147483647 : Int32)) % (5 : Int32)))] h0 n0 (.ref o)) (Ci : RO l Z (⟨"com/example/shelfmark/shelfmark/Role", "includes", "(Lcom/example/shelfmark/shelfmark/Role;)Z"⟩ : MethodName) prog_11_method_6_code 2 (some .boolean) ({ frames := 0, cells := 0, slots := 0, locals := 0 } : Room) #[(.ref r), (.ref o)] h0 n0 (.int b)) (E_r : Exa Z h0 r "com/example/shelfmark/shelfmark/Role") (hc28 : ¬ (((x0 &&& (2147483647 : Int32)) % (5 : Int32)) = (4 : Int32))) (hc33 : ¬ (((y0 &&& (2147483647 : Int32)) % (5 : Int32)) = (4 : Int32))) (hc53 : ((x0 &&& (2147483647 : Int32)) % (5 : Int32)) < ((y0 &&& (2147483647 : Int32)) % (5 : Int32))) (hc72 : b = (0 : Int32)) :
    RO l Z x code maxLocals ret room_1 #[(.int x0), (.int y0)] h0 n0 (.int (1 : Int32)) := by
  intro ws
  refine MetFree.of_bodySF (plainFor_of_name pn_0) hisR ?_
  intro p e s m args below meth c s₁ Bd hml0 hP hK
  obtain ⟨rfl, hZ, hh⟩ := hP
  have hx := Bd.exec
  have hby := Bd.bytes
  have hml : c.maxLocals = 7 := hml0
  have hown : s.vm.findClass "com/example/shelfmark/shelfmark/RoleIncludesPinLaw" = some m.cls := findClass_of_methodNamed Bd.named
  have hnm := (name_of_methodNamed Bd.named Bd.method).1
  have X0 : Stand p l e room_1 s m #[(.int x0), (.int y0)] below meth c s₁ [] 0 0 := Stand.of_body Bd
  have e0 : s₁.heap = h0 := by rw [← hh, Bd.state]; rfl
  have N0 := Fr.nil n0
  have pre0 : ∀ t_, Steps p.tables e below (s₁.setTop (mkF m 0 #[.val (.int x0), .val (.int y0), .unset, .unset, .unset, .unset, .unset] [])) t_ → Steps p.tables e below (s₁.setTop (entryFrame m #[(.int x0), (.int y0)] maxLocals)) t_ := fun t_ k_ => castTop (ef_0 m x0 y0) k_
  obtain ⟨_, _, ⟨T1, L1, k1, n1⟩, -, X1, ⟨Lc1, hQ1, l1, y1, z1⟩, st1⟩ := Jvm.LawKit.callS X0 hx (y := (⟨"com/example/shelfmark/shelfmark/RoleIncludesPinLaw", "pick", "(I)Lcom/example/shelfmark/shelfmark/Role;"⟩ : MethodName)) hown (mvT hZ (hw _ (List.mem_of_getElem? (i := 1) rfl))) (mvT hZ (hw _ (List.mem_of_getElem? (i := 2) rfl))) (mvT hZ (hw _ (List.mem_of_getElem? (i := 3) rfl))) (mvT hZ (hw _ (List.mem_of_getElem? (i := 4) rfl))) (by decide) (backOf (W := 0) (Cr []) hZ (hw _ (List.mem_of_getElem? (i := 4) rfl)) (hw _ (List.mem_of_getElem? (i := 3) rfl)) (by decide) (by decide)) (g := (mkF m 15 #[.val (.int x0), .val (.int y0), .val (.int ((x0 &&& (2147483647 : Int32)) % (5 : Int32))), .val (.int ((y0 &&& (2147483647 : Int32)) % (5 : Int32))), .unset, .unset, .unset] [(.int ((x0 &&& (2147483647 : Int32)) % (5 : Int32)))])) rfl (by rw [hml]; rfl) (argsL := [(.int ((x0 &&& (2147483647 : Int32)) % (5 : Int32)))]) (rest := []) (lenOf pd_oIcLcom_example_shelfmark_shelfmark_Role_ rfl) rfl (by show 2 * 0 + _ ≤ _; exact Nat.le_of_eq rfl) (hb hby at_15) (fun _ _ => ⟨rfl, e0, (by decide : 0 + 0 ≤ _), (by decide : 0 + 0 ≤ _)⟩)
  dsimp only [Pt.U, Pt.locs, Pt.cells, Pt.slots] at X1 l1 y1 z1 st1 hQ1
  subst l1 y1 z1
  obtain ⟨rfl, N1q, e1⟩ := hQ1
  have N1 := Fr.app N0 N1q
  obtain ⟨_, _, ⟨T2, L2, k2, n2⟩, -, X2, ⟨Lc2, hQ2, l2, y2, z2⟩, st2⟩ := Jvm.LawKit.callS X1 hx (y := (⟨"com/example/shelfmark/shelfmark/RoleIncludesPinLaw", "pick", "(I)Lcom/example/shelfmark/shelfmark/Role;"⟩ : MethodName)) hown (mvT hZ (hw _ (List.mem_of_getElem? (i := 1) rfl))) (mvT hZ (hw _ (List.mem_of_getElem? (i := 2) rfl))) (mvT hZ (hw _ (List.mem_of_getElem? (i := 3) rfl))) (mvT hZ (hw _ (List.mem_of_getElem? (i := 4) rfl))) (by decide) (backOf (W := 0) (Co []) hZ (hw _ (List.mem_of_getElem? (i := 4) rfl)) (hw _ (List.mem_of_getElem? (i := 3) rfl)) (by decide) (by decide)) (g := (mkF m 21 #[.val (.int x0), .val (.int y0), .val (.int ((x0 &&& (2147483647 : Int32)) % (5 : Int32))), .val (.int ((y0 &&& (2147483647 : Int32)) % (5 : Int32))), .val (.ref r), .unset, .unset] [(.int ((y0 &&& (2147483647 : Int32)) % (5 : Int32)))])) rfl (by rw [hml]; rfl) (argsL := [(.int ((y0 &&& (2147483647 : Int32)) % (5 : Int32)))]) (rest := []) (lenOf pd_oIcLcom_example_shelfmark_shelfmark_Role_ rfl) rfl (by show 2 * 0 + _ ≤ _; exact Nat.le_of_eq rfl) (hb hby at_21) (fun _ _ => ⟨rfl, e1, (by decide : 0 + 0 ≤ _), (by decide : 0 + 0 ≤ _)⟩)
  dsimp only [Pt.U, Pt.locs, Pt.cells, Pt.slots] at X2 l2 y2 z2 st2 hQ2
  subst l2 y2 z2
  obtain ⟨rfl, N2q, e2⟩ := hQ2
  have N2 := Fr.app N1 N2q
  obtain ⟨cq3, kq3, q3a, q3b, q3c⟩ := isOf hZ e2 E_r
  obtain ⟨_, _, ⟨T3, L3, k3, n3⟩, -, X3, ⟨Lc3, hQ3, l3, y3, z3⟩, st3⟩ := X2.virtualBack hx (y := (⟨"com/example/shelfmark/shelfmark/Role", "includes", "(Lcom/example/shelfmark/shelfmark/Role;)Z"⟩ : MethodName)) (z := (⟨"com/example/shelfmark/shelfmark/Role", "includes", "(Lcom/example/shelfmark/shelfmark/Role;)Z"⟩ : MethodName)) hown (mvT hZ (hw _ (List.mem_of_getElem? (i := 10) rfl))) (mvT hZ (hw _ (List.mem_of_getElem? (i := 11) rfl))) (notFace_of_selects (args := #[]) (mvT hZ (hw _ (List.mem_of_getElem? (i := 13) rfl)))) (mvT hZ (hw _ (List.mem_of_getElem? (i := 13) rfl))) (mvT hZ (hw _ (List.mem_of_getElem? (i := 12) rfl))) (by decide) (backOf (W := 0) (Ci []) hZ (hw _ (List.mem_of_getElem? (i := 14) rfl)) (hw _ (List.mem_of_getElem? (i := 6) rfl)) (by decide) (by decide)) q3a q3c (g := (mkF m 67 #[.val (.int x0), .val (.int y0), .val (.int ((x0 &&& (2147483647 : Int32)) % (5 : Int32))), .val (.int ((y0 &&& (2147483647 : Int32)) % (5 : Int32))), .val (.ref r), .val (.ref o), .val (.int (0 : Int32))] [(.ref o), (.ref r)])) rfl (by rw [hml]; rfl) (Steps.refl _) (argsL := [(.ref o)]) (rest := []) (lenOf pd_oLcom_example_shelfmark_shelfmark_Role_cZ rfl) rfl (by show 2 * 0 + _ ≤ _; exact Nat.le_of_eq rfl) (hb hby at_67) (fun _ _ => ⟨rfl, e2, (by decide : 0 + 0 ≤ _), (by decide : 0 + 0 ≤ _)⟩)
  dsimp only [Pt.U, Pt.locs, Pt.cells, Pt.slots] at X3 l3 y3 z3 st3 hQ3
  subst l3 y3 z3
  obtain ⟨rfl, N3q, e3⟩ := hQ3
  have N3 := Fr.app N2 N3q
  obtain ⟨fs, hr, hrun, hended, hW, hsame⟩ := X3.leave (v := some (.int (1 : Int32))) (fun h => by rw [Bd.returns] at h; cases h)
  refine ⟨_, _, pre0 _ ?_, hrun, hended, _, _, rfl, ?_, ⟨_, rfl⟩, hW, hsame.mono (by decide) (by decide)⟩
  · show Steps p.tables e below (s₁.setTop (mkF m 0 #[.val (.int x0), .val (.int y0), .unset, .unset, .unset, .unset, .unset] [])) _
    refine XS.iloadN X0.here hx rfl (hb hby at_0) rfl ?_
    show Steps p.tables e below (s₁.setTop (mkF m 1 #[.val (.int x0), .val (.int y0), .unset, .unset, .unset, .unset, .unset] [(.int x0)])) _
    refine X0.ldcInt hx hown (mvT hZ (hw _ (List.mem_of_getElem? (i := 0) rfl))) (g := (mkF m 1 #[.val (.int x0), .val (.int y0), .unset, .unset, .unset, .unset, .unset] [(.int x0)])) rfl (hb hby at_1) _ ?_
    show Steps p.tables e below (s₁.setTop (mkF m 3 #[.val (.int x0), .val (.int y0), .unset, .unset, .unset, .unset, .unset] [(.int (2147483647 : Int32)), (.int x0)])) _
    refine XS.iand X0.here hx rfl (hb hby at_3) rfl ?_
    show Steps p.tables e below (s₁.setTop (mkF m 4 #[.val (.int x0), .val (.int y0), .unset, .unset, .unset, .unset, .unset] [(.int (x0 &&& (2147483647 : Int32)))])) _
    refine XS.iconst X0.here hx rfl (hb hby at_4) ?_
    show Steps p.tables e below (s₁.setTop (mkF m 5 #[.val (.int x0), .val (.int y0), .unset, .unset, .unset, .unset, .unset] [(.int (5 : Int32)), (.int (x0 &&& (2147483647 : Int32)))])) _
    refine iremM X0 hx rfl (hb hby at_5) rfl (by decide) ?_
    show Steps p.tables e below (s₁.setTop (mkF m 6 #[.val (.int x0), .val (.int y0), .unset, .unset, .unset, .unset, .unset] [(.int ((x0 &&& (2147483647 : Int32)) % (5 : Int32)))])) _
    refine XS.istoreN X0.here hx rfl (hb hby at_6) rfl (l' := #[.val (.int x0), .val (.int y0), .val (.int ((x0 &&& (2147483647 : Int32)) % (5 : Int32))), .unset, .unset, .unset, .unset]) rfl ?_
    show Steps p.tables e below (s₁.setTop (mkF m 7 #[.val (.int x0), .val (.int y0), .val (.int ((x0 &&& (2147483647 : Int32)) % (5 : Int32))), .unset, .unset, .unset, .unset] [])) _
    refine XS.iloadN X0.here hx rfl (hb hby at_7) rfl ?_
    show Steps p.tables e below (s₁.setTop (mkF m 8 #[.val (.int x0), .val (.int y0), .val (.int ((x0 &&& (2147483647 : Int32)) % (5 : Int32))), .unset, .unset, .unset, .unset] [(.int y0)])) _
    refine X0.ldcInt hx hown (mvT hZ (hw _ (List.mem_of_getElem? (i := 0) rfl))) (g := (mkF m 8 #[.val (.int x0), .val (.int y0), .val (.int ((x0 &&& (2147483647 : Int32)) % (5 : Int32))), .unset, .unset, .unset, .unset] [(.int y0)])) rfl (hb hby at_8) _ ?_
    show Steps p.tables e below (s₁.setTop (mkF m 10 #[.val (.int x0), .val (.int y0), .val (.int ((x0 &&& (2147483647 : Int32)) % (5 : Int32))), .unset, .unset, .unset, .unset] [(.int (2147483647 : Int32)), (.int y0)])) _
    refine XS.iand X0.here hx rfl (hb hby at_10) rfl ?_
    show Steps p.tables e below (s₁.setTop (mkF m 11 #[.val (.int x0), .val (.int y0), .val (.int ((x0 &&& (2147483647 : Int32)) % (5 : Int32))), .unset, .unset, .unset, .unset] [(.int (y0 &&& (2147483647 : Int32)))])) _
    refine XS.iconst X0.here hx rfl (hb hby at_11) ?_
    show Steps p.tables e below (s₁.setTop (mkF m 12 #[.val (.int x0), .val (.int y0), .val (.int ((x0 &&& (2147483647 : Int32)) % (5 : Int32))), .unset, .unset, .unset, .unset] [(.int (5 : Int32)), (.int (y0 &&& (2147483647 : Int32)))])) _
    refine iremM X0 hx rfl (hb hby at_12) rfl (by decide) ?_
    show Steps p.tables e below (s₁.setTop (mkF m 13 #[.val (.int x0), .val (.int y0), .val (.int ((x0 &&& (2147483647 : Int32)) % (5 : Int32))), .unset, .unset, .unset, .unset] [(.int ((y0 &&& (2147483647 : Int32)) % (5 : Int32)))])) _
    refine XS.istoreN X0.here hx rfl (hb hby at_13) rfl (l' := #[.val (.int x0), .val (.int y0), .val (.int ((x0 &&& (2147483647 : Int32)) % (5 : Int32))), .val (.int ((y0 &&& (2147483647 : Int32)) % (5 : Int32))), .unset, .unset, .unset]) rfl ?_
    show Steps p.tables e below (s₁.setTop (mkF m 14 #[.val (.int x0), .val (.int y0), .val (.int ((x0 &&& (2147483647 : Int32)) % (5 : Int32))), .val (.int ((y0 &&& (2147483647 : Int32)) % (5 : Int32))), .unset, .unset, .unset] [])) _
    refine XS.iloadN X0.here hx rfl (hb hby at_14) rfl ?_
    show Steps p.tables e below (s₁.setTop (mkF m 15 #[.val (.int x0), .val (.int y0), .val (.int ((x0 &&& (2147483647 : Int32)) % (5 : Int32))), .val (.int ((y0 &&& (2147483647 : Int32)) % (5 : Int32))), .unset, .unset, .unset] [(.int ((x0 &&& (2147483647 : Int32)) % (5 : Int32)))])) _
    refine st1 _ ?_
    show Steps p.tables e below (T1.setTop (mkF m 18 #[.val (.int x0), .val (.int y0), .val (.int ((x0 &&& (2147483647 : Int32)) % (5 : Int32))), .val (.int ((y0 &&& (2147483647 : Int32)) % (5 : Int32))), .unset, .unset, .unset] [(.ref r)])) _
    refine XS.astore X1.here hx rfl (hb hby at_18) rfl rfl (l' := #[.val (.int x0), .val (.int y0), .val (.int ((x0 &&& (2147483647 : Int32)) % (5 : Int32))), .val (.int ((y0 &&& (2147483647 : Int32)) % (5 : Int32))), .val (.ref r), .unset, .unset]) rfl ?_
    show Steps p.tables e below (T1.setTop (mkF m 20 #[.val (.int x0), .val (.int y0), .val (.int ((x0 &&& (2147483647 : Int32)) % (5 : Int32))), .val (.int ((y0 &&& (2147483647 : Int32)) % (5 : Int32))), .val (.ref r), .unset, .unset] [])) _
    refine XS.iloadN X1.here hx rfl (hb hby at_20) rfl ?_
    show Steps p.tables e below (T1.setTop (mkF m 21 #[.val (.int x0), .val (.int y0), .val (.int ((x0 &&& (2147483647 : Int32)) % (5 : Int32))), .val (.int ((y0 &&& (2147483647 : Int32)) % (5 : Int32))), .val (.ref r), .unset, .unset] [(.int ((y0 &&& (2147483647 : Int32)) % (5 : Int32)))])) _
    refine st2 _ ?_
    show Steps p.tables e below (T2.setTop (mkF m 24 #[.val (.int x0), .val (.int y0), .val (.int ((x0 &&& (2147483647 : Int32)) % (5 : Int32))), .val (.int ((y0 &&& (2147483647 : Int32)) % (5 : Int32))), .val (.ref r), .unset, .unset] [(.ref o)])) _
    refine XS.astore X2.here hx rfl (hb hby at_24) rfl rfl (l' := #[.val (.int x0), .val (.int y0), .val (.int ((x0 &&& (2147483647 : Int32)) % (5 : Int32))), .val (.int ((y0 &&& (2147483647 : Int32)) % (5 : Int32))), .val (.ref r), .val (.ref o), .unset]) rfl ?_
    show Steps p.tables e below (T2.setTop (mkF m 26 #[.val (.int x0), .val (.int y0), .val (.int ((x0 &&& (2147483647 : Int32)) % (5 : Int32))), .val (.int ((y0 &&& (2147483647 : Int32)) % (5 : Int32))), .val (.ref r), .val (.ref o), .unset] [])) _
    refine XS.iloadN X2.here hx rfl (hb hby at_26) rfl ?_
    show Steps p.tables e below (T2.setTop (mkF m 27 #[.val (.int x0), .val (.int y0), .val (.int ((x0 &&& (2147483647 : Int32)) % (5 : Int32))), .val (.int ((y0 &&& (2147483647 : Int32)) % (5 : Int32))), .val (.ref r), .val (.ref o), .unset] [(.int ((x0 &&& (2147483647 : Int32)) % (5 : Int32)))])) _
    refine XS.iconst X2.here hx rfl (hb hby at_27) ?_
    show Steps p.tables e below (T2.setTop (mkF m 28 #[.val (.int x0), .val (.int y0), .val (.int ((x0 &&& (2147483647 : Int32)) % (5 : Int32))), .val (.int ((y0 &&& (2147483647 : Int32)) % (5 : Int32))), .val (.ref r), .val (.ref o), .unset] [(.int (4 : Int32)), (.int ((x0 &&& (2147483647 : Int32)) % (5 : Int32)))])) _
    refine XS.icmpNo X2.here hx rfl (hb hby at_28) rfl (feq hc28).1 ?_
    show Steps p.tables e below (T2.setTop (mkF m 31 #[.val (.int x0), .val (.int y0), .val (.int ((x0 &&& (2147483647 : Int32)) % (5 : Int32))), .val (.int ((y0 &&& (2147483647 : Int32)) % (5 : Int32))), .val (.ref r), .val (.ref o), .unset] [])) _
    refine XS.iloadN X2.here hx rfl (hb hby at_31) rfl ?_
    show Steps p.tables e below (T2.setTop (mkF m 32 #[.val (.int x0), .val (.int y0), .val (.int ((x0 &&& (2147483647 : Int32)) % (5 : Int32))), .val (.int ((y0 &&& (2147483647 : Int32)) % (5 : Int32))), .val (.ref r), .val (.ref o), .unset] [(.int ((y0 &&& (2147483647 : Int32)) % (5 : Int32)))])) _
    refine XS.iconst X2.here hx rfl (hb hby at_32) ?_
    show Steps p.tables e below (T2.setTop (mkF m 33 #[.val (.int x0), .val (.int y0), .val (.int ((x0 &&& (2147483647 : Int32)) % (5 : Int32))), .val (.int ((y0 &&& (2147483647 : Int32)) % (5 : Int32))), .val (.ref r), .val (.ref o), .unset] [(.int (4 : Int32)), (.int ((y0 &&& (2147483647 : Int32)) % (5 : Int32)))])) _
    refine XS.icmpYes X2.here hx rfl (pc0 := 33) (pc' := 51) rfl (hb hby at_33) rfl (feq hc33).2 (by decide) (by decide) ?_
    show Steps p.tables e below (T2.setTop (mkF m 51 #[.val (.int x0), .val (.int y0), .val (.int ((x0 &&& (2147483647 : Int32)) % (5 : Int32))), .val (.int ((y0 &&& (2147483647 : Int32)) % (5 : Int32))), .val (.ref r), .val (.ref o), .unset] [])) _
    refine XS.iloadN X2.here hx rfl (hb hby at_51) rfl ?_
    show Steps p.tables e below (T2.setTop (mkF m 52 #[.val (.int x0), .val (.int y0), .val (.int ((x0 &&& (2147483647 : Int32)) % (5 : Int32))), .val (.int ((y0 &&& (2147483647 : Int32)) % (5 : Int32))), .val (.ref r), .val (.ref o), .unset] [(.int ((x0 &&& (2147483647 : Int32)) % (5 : Int32)))])) _
    refine XS.iloadN X2.here hx rfl (hb hby at_52) rfl ?_
    show Steps p.tables e below (T2.setTop (mkF m 53 #[.val (.int x0), .val (.int y0), .val (.int ((x0 &&& (2147483647 : Int32)) % (5 : Int32))), .val (.int ((y0 &&& (2147483647 : Int32)) % (5 : Int32))), .val (.ref r), .val (.ref o), .unset] [(.int ((y0 &&& (2147483647 : Int32)) % (5 : Int32))), (.int ((x0 &&& (2147483647 : Int32)) % (5 : Int32)))])) _
    refine XS.icmpYes X2.here hx rfl (pc0 := 53) (pc' := 60) rfl (hb hby at_53) rfl (tlt hc53).1 (by decide) (by decide) ?_
    show Steps p.tables e below (T2.setTop (mkF m 60 #[.val (.int x0), .val (.int y0), .val (.int ((x0 &&& (2147483647 : Int32)) % (5 : Int32))), .val (.int ((y0 &&& (2147483647 : Int32)) % (5 : Int32))), .val (.ref r), .val (.ref o), .unset] [])) _
    refine XS.iconst X2.here hx rfl (hb hby at_60) ?_
    show Steps p.tables e below (T2.setTop (mkF m 61 #[.val (.int x0), .val (.int y0), .val (.int ((x0 &&& (2147483647 : Int32)) % (5 : Int32))), .val (.int ((y0 &&& (2147483647 : Int32)) % (5 : Int32))), .val (.ref r), .val (.ref o), .unset] [(.int (0 : Int32))])) _
    refine XS.istore X2.here hx rfl (hb hby at_61) rfl (l' := #[.val (.int x0), .val (.int y0), .val (.int ((x0 &&& (2147483647 : Int32)) % (5 : Int32))), .val (.int ((y0 &&& (2147483647 : Int32)) % (5 : Int32))), .val (.ref r), .val (.ref o), .val (.int (0 : Int32))]) rfl ?_
    show Steps p.tables e below (T2.setTop (mkF m 63 #[.val (.int x0), .val (.int y0), .val (.int ((x0 &&& (2147483647 : Int32)) % (5 : Int32))), .val (.int ((y0 &&& (2147483647 : Int32)) % (5 : Int32))), .val (.ref r), .val (.ref o), .val (.int (0 : Int32))] [])) _
    refine XS.aload X2.here hx rfl (hb hby at_63) rfl rfl ?_
    show Steps p.tables e below (T2.setTop (mkF m 65 #[.val (.int x0), .val (.int y0), .val (.int ((x0 &&& (2147483647 : Int32)) % (5 : Int32))), .val (.int ((y0 &&& (2147483647 : Int32)) % (5 : Int32))), .val (.ref r), .val (.ref o), .val (.int (0 : Int32))] [(.ref r)])) _
    refine XS.aload X2.here hx rfl (hb hby at_65) rfl rfl ?_
    show Steps p.tables e below (T2.setTop (mkF m 67 #[.val (.int x0), .val (.int y0), .val (.int ((x0 &&& (2147483647 : Int32)) % (5 : Int32))), .val (.int ((y0 &&& (2147483647 : Int32)) % (5 : Int32))), .val (.ref r), .val (.ref o), .val (.int (0 : Int32))] [(.ref o), (.ref r)])) _
    refine st3.trans ?_
    show Steps p.tables e below (T3.setTop (mkF m 70 #[.val (.int x0), .val (.int y0), .val (.int ((x0 &&& (2147483647 : Int32)) % (5 : Int32))), .val (.int ((y0 &&& (2147483647 : Int32)) % (5 : Int32))), .val (.ref r), .val (.ref o), .val (.int (0 : Int32))] [(.int b)])) _
    refine XS.iload X3.here hx rfl (hb hby at_70) rfl ?_
    show Steps p.tables e below (T3.setTop (mkF m 72 #[.val (.int x0), .val (.int y0), .val (.int ((x0 &&& (2147483647 : Int32)) % (5 : Int32))), .val (.int ((y0 &&& (2147483647 : Int32)) % (5 : Int32))), .val (.ref r), .val (.ref o), .val (.int (0 : Int32))] [(.int (0 : Int32)), (.int b)])) _
    refine XS.icmpNo X3.here hx rfl (hb hby at_72) rfl (teq hc72).2 ?_
    show Steps p.tables e below (T3.setTop (mkF m 75 #[.val (.int x0), .val (.int y0), .val (.int ((x0 &&& (2147483647 : Int32)) % (5 : Int32))), .val (.int ((y0 &&& (2147483647 : Int32)) % (5 : Int32))), .val (.ref r), .val (.ref o), .val (.int (0 : Int32))] [])) _
    refine XS.iconst X3.here hx rfl (hb hby at_75) ?_
    show Steps p.tables e below (T3.setTop (mkF m 76 #[.val (.int x0), .val (.int y0), .val (.int ((x0 &&& (2147483647 : Int32)) % (5 : Int32))), .val (.int ((y0 &&& (2147483647 : Int32)) % (5 : Int32))), .val (.ref r), .val (.ref o), .val (.int (0 : Int32))] [(.int (1 : Int32))])) _
    refine XS.goto X3.here hx rfl (pc0 := 76) (pc' := 80) rfl (hb hby at_76) (by decide) (by decide) ?_
    show Steps p.tables e below (T3.setTop (mkF m 80 #[.val (.int x0), .val (.int y0), .val (.int ((x0 &&& (2147483647 : Int32)) % (5 : Int32))), .val (.int ((y0 &&& (2147483647 : Int32)) % (5 : Int32))), .val (.ref r), .val (.ref o), .val (.int (0 : Int32))] [(.int (1 : Int32))])) _
    exact retN X3 hx (t := .boolean) Bd.returns (by simp) (hb hby at_80) hr
  · exact ⟨rfl, N3, e3⟩
set_option maxRecDepth 65536 in
set_option maxHeartbeats 40000000 in
theorem law_ge (l : Launch) (Z : State) (a0 : Array Value) (hw : ∀ d ∈ tables_1, d.before a0 Z = true) (x0 y0 b : Int32) (r o : Addr) (h0 : Heap) (n0 : Nat) (Z0 : n0 ≤ h0.size) (Cr : RO l Z (⟨"com/example/shelfmark/shelfmark/RoleIncludesPinLaw", "pick", "(I)Lcom/example/shelfmark/shelfmark/Role;"⟩ : MethodName) method_2_code 1 (some (.object "com/example/shelfmark/shelfmark/Role")) ({ frames := 0, cells := 0, slots := 0, locals := 0 } : Room) #[(.int ((x0 &&& (2147483647 : Int32)) % (5 : Int32)))] h0 n0 (.ref r)) (Co : RO l Z (⟨"com/example/shelfmark/shelfmark/RoleIncludesPinLaw", "pick", "(I)Lcom/example/shelfmark/shelfmark/Role;"⟩ : MethodName) method_2_code 1 (some (.object "com/example/shelfmark/shelfmark/Role")) ({ frames := 0, cells := 0, slots := 0, locals := 0 } : Room) #[(.int ((y0 &&& (2147483647 : Int32)) % (5 : Int32)))] h0 n0 (.ref o)) (Ci : RO l Z (⟨"com/example/shelfmark/shelfmark/Role", "includes", "(Lcom/example/shelfmark/shelfmark/Role;)Z"⟩ : MethodName) prog_11_method_6_code 2 (some .boolean) ({ frames := 0, cells := 0, slots := 0, locals := 0 } : Room) #[(.ref r), (.ref o)] h0 n0 (.int b)) (E_r : Exa Z h0 r "com/example/shelfmark/shelfmark/Role") (hc28 : ¬ (((x0 &&& (2147483647 : Int32)) % (5 : Int32)) = (4 : Int32))) (hc33 : ¬ (((y0 &&& (2147483647 : Int32)) % (5 : Int32)) = (4 : Int32))) (hc53 : ¬ (((x0 &&& (2147483647 : Int32)) % (5 : Int32)) < ((y0 &&& (2147483647 : Int32)) % (5 : Int32)))) (hc72 : b = (1 : Int32)) :
    RO l Z x code maxLocals ret room_1 #[(.int x0), (.int y0)] h0 n0 (.int (1 : Int32)) := by
  intro ws
  refine MetFree.of_bodySF (plainFor_of_name pn_0) hisR ?_
  intro p e s m args below meth c s₁ Bd hml0 hP hK
  obtain ⟨rfl, hZ, hh⟩ := hP
  have hx := Bd.exec
  have hby := Bd.bytes
  have hml : c.maxLocals = 7 := hml0
  have hown : s.vm.findClass "com/example/shelfmark/shelfmark/RoleIncludesPinLaw" = some m.cls := findClass_of_methodNamed Bd.named
  have hnm := (name_of_methodNamed Bd.named Bd.method).1
  have X0 : Stand p l e room_1 s m #[(.int x0), (.int y0)] below meth c s₁ [] 0 0 := Stand.of_body Bd
  have e0 : s₁.heap = h0 := by rw [← hh, Bd.state]; rfl
  have N0 := Fr.nil n0
  have pre0 : ∀ t_, Steps p.tables e below (s₁.setTop (mkF m 0 #[.val (.int x0), .val (.int y0), .unset, .unset, .unset, .unset, .unset] [])) t_ → Steps p.tables e below (s₁.setTop (entryFrame m #[(.int x0), (.int y0)] maxLocals)) t_ := fun t_ k_ => castTop (ef_0 m x0 y0) k_
  obtain ⟨_, _, ⟨T1, L1, k1, n1⟩, -, X1, ⟨Lc1, hQ1, l1, y1, z1⟩, st1⟩ := Jvm.LawKit.callS X0 hx (y := (⟨"com/example/shelfmark/shelfmark/RoleIncludesPinLaw", "pick", "(I)Lcom/example/shelfmark/shelfmark/Role;"⟩ : MethodName)) hown (mvT hZ (hw _ (List.mem_of_getElem? (i := 1) rfl))) (mvT hZ (hw _ (List.mem_of_getElem? (i := 2) rfl))) (mvT hZ (hw _ (List.mem_of_getElem? (i := 3) rfl))) (mvT hZ (hw _ (List.mem_of_getElem? (i := 4) rfl))) (by decide) (backOf (W := 0) (Cr []) hZ (hw _ (List.mem_of_getElem? (i := 4) rfl)) (hw _ (List.mem_of_getElem? (i := 3) rfl)) (by decide) (by decide)) (g := (mkF m 15 #[.val (.int x0), .val (.int y0), .val (.int ((x0 &&& (2147483647 : Int32)) % (5 : Int32))), .val (.int ((y0 &&& (2147483647 : Int32)) % (5 : Int32))), .unset, .unset, .unset] [(.int ((x0 &&& (2147483647 : Int32)) % (5 : Int32)))])) rfl (by rw [hml]; rfl) (argsL := [(.int ((x0 &&& (2147483647 : Int32)) % (5 : Int32)))]) (rest := []) (lenOf pd_oIcLcom_example_shelfmark_shelfmark_Role_ rfl) rfl (by show 2 * 0 + _ ≤ _; exact Nat.le_of_eq rfl) (hb hby at_15) (fun _ _ => ⟨rfl, e0, (by decide : 0 + 0 ≤ _), (by decide : 0 + 0 ≤ _)⟩)
  dsimp only [Pt.U, Pt.locs, Pt.cells, Pt.slots] at X1 l1 y1 z1 st1 hQ1
  subst l1 y1 z1
  obtain ⟨rfl, N1q, e1⟩ := hQ1
  have N1 := Fr.app N0 N1q
  obtain ⟨_, _, ⟨T2, L2, k2, n2⟩, -, X2, ⟨Lc2, hQ2, l2, y2, z2⟩, st2⟩ := Jvm.LawKit.callS X1 hx (y := (⟨"com/example/shelfmark/shelfmark/RoleIncludesPinLaw", "pick", "(I)Lcom/example/shelfmark/shelfmark/Role;"⟩ : MethodName)) hown (mvT hZ (hw _ (List.mem_of_getElem? (i := 1) rfl))) (mvT hZ (hw _ (List.mem_of_getElem? (i := 2) rfl))) (mvT hZ (hw _ (List.mem_of_getElem? (i := 3) rfl))) (mvT hZ (hw _ (List.mem_of_getElem? (i := 4) rfl))) (by decide) (backOf (W := 0) (Co []) hZ (hw _ (List.mem_of_getElem? (i := 4) rfl)) (hw _ (List.mem_of_getElem? (i := 3) rfl)) (by decide) (by decide)) (g := (mkF m 21 #[.val (.int x0), .val (.int y0), .val (.int ((x0 &&& (2147483647 : Int32)) % (5 : Int32))), .val (.int ((y0 &&& (2147483647 : Int32)) % (5 : Int32))), .val (.ref r), .unset, .unset] [(.int ((y0 &&& (2147483647 : Int32)) % (5 : Int32)))])) rfl (by rw [hml]; rfl) (argsL := [(.int ((y0 &&& (2147483647 : Int32)) % (5 : Int32)))]) (rest := []) (lenOf pd_oIcLcom_example_shelfmark_shelfmark_Role_ rfl) rfl (by show 2 * 0 + _ ≤ _; exact Nat.le_of_eq rfl) (hb hby at_21) (fun _ _ => ⟨rfl, e1, (by decide : 0 + 0 ≤ _), (by decide : 0 + 0 ≤ _)⟩)
  dsimp only [Pt.U, Pt.locs, Pt.cells, Pt.slots] at X2 l2 y2 z2 st2 hQ2
  subst l2 y2 z2
  obtain ⟨rfl, N2q, e2⟩ := hQ2
  have N2 := Fr.app N1 N2q
  obtain ⟨cq3, kq3, q3a, q3b, q3c⟩ := isOf hZ e2 E_r
  obtain ⟨_, _, ⟨T3, L3, k3, n3⟩, -, X3, ⟨Lc3, hQ3, l3, y3, z3⟩, st3⟩ := X2.virtualBack hx (y := (⟨"com/example/shelfmark/shelfmark/Role", "includes", "(Lcom/example/shelfmark/shelfmark/Role;)Z"⟩ : MethodName)) (z := (⟨"com/example/shelfmark/shelfmark/Role", "includes", "(Lcom/example/shelfmark/shelfmark/Role;)Z"⟩ : MethodName)) hown (mvT hZ (hw _ (List.mem_of_getElem? (i := 10) rfl))) (mvT hZ (hw _ (List.mem_of_getElem? (i := 11) rfl))) (notFace_of_selects (args := #[]) (mvT hZ (hw _ (List.mem_of_getElem? (i := 13) rfl)))) (mvT hZ (hw _ (List.mem_of_getElem? (i := 13) rfl))) (mvT hZ (hw _ (List.mem_of_getElem? (i := 12) rfl))) (by decide) (backOf (W := 0) (Ci []) hZ (hw _ (List.mem_of_getElem? (i := 14) rfl)) (hw _ (List.mem_of_getElem? (i := 6) rfl)) (by decide) (by decide)) q3a q3c (g := (mkF m 67 #[.val (.int x0), .val (.int y0), .val (.int ((x0 &&& (2147483647 : Int32)) % (5 : Int32))), .val (.int ((y0 &&& (2147483647 : Int32)) % (5 : Int32))), .val (.ref r), .val (.ref o), .val (.int (1 : Int32))] [(.ref o), (.ref r)])) rfl (by rw [hml]; rfl) (Steps.refl _) (argsL := [(.ref o)]) (rest := []) (lenOf pd_oLcom_example_shelfmark_shelfmark_Role_cZ rfl) rfl (by show 2 * 0 + _ ≤ _; exact Nat.le_of_eq rfl) (hb hby at_67) (fun _ _ => ⟨rfl, e2, (by decide : 0 + 0 ≤ _), (by decide : 0 + 0 ≤ _)⟩)
  dsimp only [Pt.U, Pt.locs, Pt.cells, Pt.slots] at X3 l3 y3 z3 st3 hQ3
  subst l3 y3 z3
  obtain ⟨rfl, N3q, e3⟩ := hQ3
  have N3 := Fr.app N2 N3q
  obtain ⟨fs, hr, hrun, hended, hW, hsame⟩ := X3.leave (v := some (.int (1 : Int32))) (fun h => by rw [Bd.returns] at h; cases h)
  refine ⟨_, _, pre0 _ ?_, hrun, hended, _, _, rfl, ?_, ⟨_, rfl⟩, hW, hsame.mono (by decide) (by decide)⟩
  · show Steps p.tables e below (s₁.setTop (mkF m 0 #[.val (.int x0), .val (.int y0), .unset, .unset, .unset, .unset, .unset] [])) _
    refine XS.iloadN X0.here hx rfl (hb hby at_0) rfl ?_
    show Steps p.tables e below (s₁.setTop (mkF m 1 #[.val (.int x0), .val (.int y0), .unset, .unset, .unset, .unset, .unset] [(.int x0)])) _
    refine X0.ldcInt hx hown (mvT hZ (hw _ (List.mem_of_getElem? (i := 0) rfl))) (g := (mkF m 1 #[.val (.int x0), .val (.int y0), .unset, .unset, .unset, .unset, .unset] [(.int x0)])) rfl (hb hby at_1) _ ?_
    show Steps p.tables e below (s₁.setTop (mkF m 3 #[.val (.int x0), .val (.int y0), .unset, .unset, .unset, .unset, .unset] [(.int (2147483647 : Int32)), (.int x0)])) _
    refine XS.iand X0.here hx rfl (hb hby at_3) rfl ?_
    show Steps p.tables e below (s₁.setTop (mkF m 4 #[.val (.int x0), .val (.int y0), .unset, .unset, .unset, .unset, .unset] [(.int (x0 &&& (2147483647 : Int32)))])) _
    refine XS.iconst X0.here hx rfl (hb hby at_4) ?_
    show Steps p.tables e below (s₁.setTop (mkF m 5 #[.val (.int x0), .val (.int y0), .unset, .unset, .unset, .unset, .unset] [(.int (5 : Int32)), (.int (x0 &&& (2147483647 : Int32)))])) _
    refine iremM X0 hx rfl (hb hby at_5) rfl (by decide) ?_
    show Steps p.tables e below (s₁.setTop (mkF m 6 #[.val (.int x0), .val (.int y0), .unset, .unset, .unset, .unset, .unset] [(.int ((x0 &&& (2147483647 : Int32)) % (5 : Int32)))])) _
    refine XS.istoreN X0.here hx rfl (hb hby at_6) rfl (l' := #[.val (.int x0), .val (.int y0), .val (.int ((x0 &&& (2147483647 : Int32)) % (5 : Int32))), .unset, .unset, .unset, .unset]) rfl ?_
    show Steps p.tables e below (s₁.setTop (mkF m 7 #[.val (.int x0), .val (.int y0), .val (.int ((x0 &&& (2147483647 : Int32)) % (5 : Int32))), .unset, .unset, .unset, .unset] [])) _
    refine XS.iloadN X0.here hx rfl (hb hby at_7) rfl ?_
    show Steps p.tables e below (s₁.setTop (mkF m 8 #[.val (.int x0), .val (.int y0), .val (.int ((x0 &&& (2147483647 : Int32)) % (5 : Int32))), .unset, .unset, .unset, .unset] [(.int y0)])) _
    refine X0.ldcInt hx hown (mvT hZ (hw _ (List.mem_of_getElem? (i := 0) rfl))) (g := (mkF m 8 #[.val (.int x0), .val (.int y0), .val (.int ((x0 &&& (2147483647 : Int32)) % (5 : Int32))), .unset, .unset, .unset, .unset] [(.int y0)])) rfl (hb hby at_8) _ ?_
    show Steps p.tables e below (s₁.setTop (mkF m 10 #[.val (.int x0), .val (.int y0), .val (.int ((x0 &&& (2147483647 : Int32)) % (5 : Int32))), .unset, .unset, .unset, .unset] [(.int (2147483647 : Int32)), (.int y0)])) _
    refine XS.iand X0.here hx rfl (hb hby at_10) rfl ?_
    show Steps p.tables e below (s₁.setTop (mkF m 11 #[.val (.int x0), .val (.int y0), .val (.int ((x0 &&& (2147483647 : Int32)) % (5 : Int32))), .unset, .unset, .unset, .unset] [(.int (y0 &&& (2147483647 : Int32)))])) _
    refine XS.iconst X0.here hx rfl (hb hby at_11) ?_
    show Steps p.tables e below (s₁.setTop (mkF m 12 #[.val (.int x0), .val (.int y0), .val (.int ((x0 &&& (2147483647 : Int32)) % (5 : Int32))), .unset, .unset, .unset, .unset] [(.int (5 : Int32)), (.int (y0 &&& (2147483647 : Int32)))])) _
    refine iremM X0 hx rfl (hb hby at_12) rfl (by decide) ?_
    show Steps p.tables e below (s₁.setTop (mkF m 13 #[.val (.int x0), .val (.int y0), .val (.int ((x0 &&& (2147483647 : Int32)) % (5 : Int32))), .unset, .unset, .unset, .unset] [(.int ((y0 &&& (2147483647 : Int32)) % (5 : Int32)))])) _
    refine XS.istoreN X0.here hx rfl (hb hby at_13) rfl (l' := #[.val (.int x0), .val (.int y0), .val (.int ((x0 &&& (2147483647 : Int32)) % (5 : Int32))), .val (.int ((y0 &&& (2147483647 : Int32)) % (5 : Int32))), .unset, .unset, .unset]) rfl ?_
    show Steps p.tables e below (s₁.setTop (mkF m 14 #[.val (.int x0), .val (.int y0), .val (.int ((x0 &&& (2147483647 : Int32)) % (5 : Int32))), .val (.int ((y0 &&& (2147483647 : Int32)) % (5 : Int32))), .unset, .unset, .unset] [])) _
    refine XS.iloadN X0.here hx rfl (hb hby at_14) rfl ?_
    show Steps p.tables e below (s₁.setTop (mkF m 15 #[.val (.int x0), .val (.int y0), .val (.int ((x0 &&& (2147483647 : Int32)) % (5 : Int32))), .val (.int ((y0 &&& (2147483647 : Int32)) % (5 : Int32))), .unset, .unset, .unset] [(.int ((x0 &&& (2147483647 : Int32)) % (5 : Int32)))])) _
    refine st1 _ ?_
    show Steps p.tables e below (T1.setTop (mkF m 18 #[.val (.int x0), .val (.int y0), .val (.int ((x0 &&& (2147483647 : Int32)) % (5 : Int32))), .val (.int ((y0 &&& (2147483647 : Int32)) % (5 : Int32))), .unset, .unset, .unset] [(.ref r)])) _
    refine XS.astore X1.here hx rfl (hb hby at_18) rfl rfl (l' := #[.val (.int x0), .val (.int y0), .val (.int ((x0 &&& (2147483647 : Int32)) % (5 : Int32))), .val (.int ((y0 &&& (2147483647 : Int32)) % (5 : Int32))), .val (.ref r), .unset, .unset]) rfl ?_
    show Steps p.tables e below (T1.setTop (mkF m 20 #[.val (.int x0), .val (.int y0), .val (.int ((x0 &&& (2147483647 : Int32)) % (5 : Int32))), .val (.int ((y0 &&& (2147483647 : Int32)) % (5 : Int32))), .val (.ref r), .unset, .unset] [])) _
    refine XS.iloadN X1.here hx rfl (hb hby at_20) rfl ?_
    show Steps p.tables e below (T1.setTop (mkF m 21 #[.val (.int x0), .val (.int y0), .val (.int ((x0 &&& (2147483647 : Int32)) % (5 : Int32))), .val (.int ((y0 &&& (2147483647 : Int32)) % (5 : Int32))), .val (.ref r), .unset, .unset] [(.int ((y0 &&& (2147483647 : Int32)) % (5 : Int32)))])) _
    refine st2 _ ?_
    show Steps p.tables e below (T2.setTop (mkF m 24 #[.val (.int x0), .val (.int y0), .val (.int ((x0 &&& (2147483647 : Int32)) % (5 : Int32))), .val (.int ((y0 &&& (2147483647 : Int32)) % (5 : Int32))), .val (.ref r), .unset, .unset] [(.ref o)])) _
    refine XS.astore X2.here hx rfl (hb hby at_24) rfl rfl (l' := #[.val (.int x0), .val (.int y0), .val (.int ((x0 &&& (2147483647 : Int32)) % (5 : Int32))), .val (.int ((y0 &&& (2147483647 : Int32)) % (5 : Int32))), .val (.ref r), .val (.ref o), .unset]) rfl ?_
    show Steps p.tables e below (T2.setTop (mkF m 26 #[.val (.int x0), .val (.int y0), .val (.int ((x0 &&& (2147483647 : Int32)) % (5 : Int32))), .val (.int ((y0 &&& (2147483647 : Int32)) % (5 : Int32))), .val (.ref r), .val (.ref o), .unset] [])) _
    refine XS.iloadN X2.here hx rfl (hb hby at_26) rfl ?_
    show Steps p.tables e below (T2.setTop (mkF m 27 #[.val (.int x0), .val (.int y0), .val (.int ((x0 &&& (2147483647 : Int32)) % (5 : Int32))), .val (.int ((y0 &&& (2147483647 : Int32)) % (5 : Int32))), .val (.ref r), .val (.ref o), .unset] [(.int ((x0 &&& (2147483647 : Int32)) % (5 : Int32)))])) _
    refine XS.iconst X2.here hx rfl (hb hby at_27) ?_
    show Steps p.tables e below (T2.setTop (mkF m 28 #[.val (.int x0), .val (.int y0), .val (.int ((x0 &&& (2147483647 : Int32)) % (5 : Int32))), .val (.int ((y0 &&& (2147483647 : Int32)) % (5 : Int32))), .val (.ref r), .val (.ref o), .unset] [(.int (4 : Int32)), (.int ((x0 &&& (2147483647 : Int32)) % (5 : Int32)))])) _
    refine XS.icmpNo X2.here hx rfl (hb hby at_28) rfl (feq hc28).1 ?_
    show Steps p.tables e below (T2.setTop (mkF m 31 #[.val (.int x0), .val (.int y0), .val (.int ((x0 &&& (2147483647 : Int32)) % (5 : Int32))), .val (.int ((y0 &&& (2147483647 : Int32)) % (5 : Int32))), .val (.ref r), .val (.ref o), .unset] [])) _
    refine XS.iloadN X2.here hx rfl (hb hby at_31) rfl ?_
    show Steps p.tables e below (T2.setTop (mkF m 32 #[.val (.int x0), .val (.int y0), .val (.int ((x0 &&& (2147483647 : Int32)) % (5 : Int32))), .val (.int ((y0 &&& (2147483647 : Int32)) % (5 : Int32))), .val (.ref r), .val (.ref o), .unset] [(.int ((y0 &&& (2147483647 : Int32)) % (5 : Int32)))])) _
    refine XS.iconst X2.here hx rfl (hb hby at_32) ?_
    show Steps p.tables e below (T2.setTop (mkF m 33 #[.val (.int x0), .val (.int y0), .val (.int ((x0 &&& (2147483647 : Int32)) % (5 : Int32))), .val (.int ((y0 &&& (2147483647 : Int32)) % (5 : Int32))), .val (.ref r), .val (.ref o), .unset] [(.int (4 : Int32)), (.int ((y0 &&& (2147483647 : Int32)) % (5 : Int32)))])) _
    refine XS.icmpYes X2.here hx rfl (pc0 := 33) (pc' := 51) rfl (hb hby at_33) rfl (feq hc33).2 (by decide) (by decide) ?_
    show Steps p.tables e below (T2.setTop (mkF m 51 #[.val (.int x0), .val (.int y0), .val (.int ((x0 &&& (2147483647 : Int32)) % (5 : Int32))), .val (.int ((y0 &&& (2147483647 : Int32)) % (5 : Int32))), .val (.ref r), .val (.ref o), .unset] [])) _
    refine XS.iloadN X2.here hx rfl (hb hby at_51) rfl ?_
    show Steps p.tables e below (T2.setTop (mkF m 52 #[.val (.int x0), .val (.int y0), .val (.int ((x0 &&& (2147483647 : Int32)) % (5 : Int32))), .val (.int ((y0 &&& (2147483647 : Int32)) % (5 : Int32))), .val (.ref r), .val (.ref o), .unset] [(.int ((x0 &&& (2147483647 : Int32)) % (5 : Int32)))])) _
    refine XS.iloadN X2.here hx rfl (hb hby at_52) rfl ?_
    show Steps p.tables e below (T2.setTop (mkF m 53 #[.val (.int x0), .val (.int y0), .val (.int ((x0 &&& (2147483647 : Int32)) % (5 : Int32))), .val (.int ((y0 &&& (2147483647 : Int32)) % (5 : Int32))), .val (.ref r), .val (.ref o), .unset] [(.int ((y0 &&& (2147483647 : Int32)) % (5 : Int32))), (.int ((x0 &&& (2147483647 : Int32)) % (5 : Int32)))])) _
    refine XS.icmpNo X2.here hx rfl (hb hby at_53) rfl (flt hc53).1 ?_
    show Steps p.tables e below (T2.setTop (mkF m 56 #[.val (.int x0), .val (.int y0), .val (.int ((x0 &&& (2147483647 : Int32)) % (5 : Int32))), .val (.int ((y0 &&& (2147483647 : Int32)) % (5 : Int32))), .val (.ref r), .val (.ref o), .unset] [])) _
    refine XS.iconst X2.here hx rfl (hb hby at_56) ?_
    show Steps p.tables e below (T2.setTop (mkF m 57 #[.val (.int x0), .val (.int y0), .val (.int ((x0 &&& (2147483647 : Int32)) % (5 : Int32))), .val (.int ((y0 &&& (2147483647 : Int32)) % (5 : Int32))), .val (.ref r), .val (.ref o), .unset] [(.int (1 : Int32))])) _
    refine XS.goto X2.here hx rfl (pc0 := 57) (pc' := 61) rfl (hb hby at_57) (by decide) (by decide) ?_
    show Steps p.tables e below (T2.setTop (mkF m 61 #[.val (.int x0), .val (.int y0), .val (.int ((x0 &&& (2147483647 : Int32)) % (5 : Int32))), .val (.int ((y0 &&& (2147483647 : Int32)) % (5 : Int32))), .val (.ref r), .val (.ref o), .unset] [(.int (1 : Int32))])) _
    refine XS.istore X2.here hx rfl (hb hby at_61) rfl (l' := #[.val (.int x0), .val (.int y0), .val (.int ((x0 &&& (2147483647 : Int32)) % (5 : Int32))), .val (.int ((y0 &&& (2147483647 : Int32)) % (5 : Int32))), .val (.ref r), .val (.ref o), .val (.int (1 : Int32))]) rfl ?_
    show Steps p.tables e below (T2.setTop (mkF m 63 #[.val (.int x0), .val (.int y0), .val (.int ((x0 &&& (2147483647 : Int32)) % (5 : Int32))), .val (.int ((y0 &&& (2147483647 : Int32)) % (5 : Int32))), .val (.ref r), .val (.ref o), .val (.int (1 : Int32))] [])) _
    refine XS.aload X2.here hx rfl (hb hby at_63) rfl rfl ?_
    show Steps p.tables e below (T2.setTop (mkF m 65 #[.val (.int x0), .val (.int y0), .val (.int ((x0 &&& (2147483647 : Int32)) % (5 : Int32))), .val (.int ((y0 &&& (2147483647 : Int32)) % (5 : Int32))), .val (.ref r), .val (.ref o), .val (.int (1 : Int32))] [(.ref r)])) _
    refine XS.aload X2.here hx rfl (hb hby at_65) rfl rfl ?_
    show Steps p.tables e below (T2.setTop (mkF m 67 #[.val (.int x0), .val (.int y0), .val (.int ((x0 &&& (2147483647 : Int32)) % (5 : Int32))), .val (.int ((y0 &&& (2147483647 : Int32)) % (5 : Int32))), .val (.ref r), .val (.ref o), .val (.int (1 : Int32))] [(.ref o), (.ref r)])) _
    refine st3.trans ?_
    show Steps p.tables e below (T3.setTop (mkF m 70 #[.val (.int x0), .val (.int y0), .val (.int ((x0 &&& (2147483647 : Int32)) % (5 : Int32))), .val (.int ((y0 &&& (2147483647 : Int32)) % (5 : Int32))), .val (.ref r), .val (.ref o), .val (.int (1 : Int32))] [(.int b)])) _
    refine XS.iload X3.here hx rfl (hb hby at_70) rfl ?_
    show Steps p.tables e below (T3.setTop (mkF m 72 #[.val (.int x0), .val (.int y0), .val (.int ((x0 &&& (2147483647 : Int32)) % (5 : Int32))), .val (.int ((y0 &&& (2147483647 : Int32)) % (5 : Int32))), .val (.ref r), .val (.ref o), .val (.int (1 : Int32))] [(.int (1 : Int32)), (.int b)])) _
    refine XS.icmpNo X3.here hx rfl (hb hby at_72) rfl (teq hc72).2 ?_
    show Steps p.tables e below (T3.setTop (mkF m 75 #[.val (.int x0), .val (.int y0), .val (.int ((x0 &&& (2147483647 : Int32)) % (5 : Int32))), .val (.int ((y0 &&& (2147483647 : Int32)) % (5 : Int32))), .val (.ref r), .val (.ref o), .val (.int (1 : Int32))] [])) _
    refine XS.iconst X3.here hx rfl (hb hby at_75) ?_
    show Steps p.tables e below (T3.setTop (mkF m 76 #[.val (.int x0), .val (.int y0), .val (.int ((x0 &&& (2147483647 : Int32)) % (5 : Int32))), .val (.int ((y0 &&& (2147483647 : Int32)) % (5 : Int32))), .val (.ref r), .val (.ref o), .val (.int (1 : Int32))] [(.int (1 : Int32))])) _
    refine XS.goto X3.here hx rfl (pc0 := 76) (pc' := 80) rfl (hb hby at_76) (by decide) (by decide) ?_
    show Steps p.tables e below (T3.setTop (mkF m 80 #[.val (.int x0), .val (.int y0), .val (.int ((x0 &&& (2147483647 : Int32)) % (5 : Int32))), .val (.int ((y0 &&& (2147483647 : Int32)) % (5 : Int32))), .val (.ref r), .val (.ref o), .val (.int (1 : Int32))] [(.int (1 : Int32))])) _
    exact retN X3 hx (t := .boolean) Bd.returns (by simp) (hb hby at_80) hr
  · exact ⟨rfl, N3, e3⟩
set_option maxRecDepth 65536 in
set_option maxHeartbeats 40000000 in
theorem comes_1 {Post : Tables → Env → Array Value → State → Outcome → State → Prop} (hpost : ∀ tb e args s v u, (limb_1_1.after args s (.returned v) u = true ∧ limb_1_2.after args s (.returned v) u = true ∧ True) → FrameEnd s (.returned v) u (Jvm.fieldLocs frame_1_writes args s ++ Jvm.arrayLocs frame_1_arrays args s ++ Jvm.staticLocs frame_1_statics s) 0 0 → Post tb e args s (.returned v) u) :
    ArmFor flags0 classFile x code maxLocals ret World_1 tables_1 room_1 Calls_1 rest_1 Pre_1 Post := by
  intro l hfl _ _ p e ha hc hk s m args below hf hA hF happ hP
  obtain ⟨hcalls, hrest, hpre⟩ := hP
  obtain ⟨-, -, -, hnamed, -, -, -, hat⟩ := (Spec.applies_iff hf).mp happ
  obtain ⟨hg, hn⟩ := and_e (Cond.before_iff.mp (show (Jvm.Cond.and given_1 narrow_1).before args s = true from hpre))
  obtain ⟨g1a, g1b⟩ := and_e hg
  obtain ⟨g2a, g2b⟩ := and_e g1b
  obtain ⟨g3a, g3b⟩ := and_e hn
  obtain ⟨g4a, g4b⟩ := and_e g3b
  obtain ⟨g5a, g5b⟩ := and_e g4b
  obtain ⟨g6a, g6b⟩ := and_e g5b
  obtain ⟨g7a, g7b⟩ := and_e g6b
  obtain ⟨g8a, g8b⟩ := and_e g7b
  obtain ⟨g9a, g9b⟩ := and_e g8b
  obtain ⟨g10a, g10b⟩ := and_e g9b
  obtain ⟨g11a, g11b⟩ := and_e g10b
  obtain ⟨g12a, g12b⟩ := and_e g11b
  obtain ⟨g13a, g13b⟩ := and_e g12b
  obtain ⟨g14a, g14b⟩ := and_e g13b
  obtain ⟨g15a, g15b⟩ := and_e g14b
  obtain ⟨g16a, g16b⟩ := and_e g15b
  obtain ⟨w0, w1, rfl⟩ : ∃ w0 w1 : Value, args = #[w0, w1] := by
    have hs : args.size = 2 := by simpa [Cond.value, given_1] using g1a
    obtain ⟨L⟩ := args
    match L, hs with
    | [w0, w1], _ => exact ⟨w0, w1, rfl⟩
  have hw := fun d (hd : d ∈ tables_1) => atoms_spec (ws := Jvm.Cond.code x code maxLocals ret :: tables_1) hat d (List.mem_cons_of_mem _ hd)
  have hfit : Fit s := fun {y c} hc i hi => by
    obtain ⟨ha, rfl⟩ := Array.getElem?_eq_some_iff.mp hc
    have q := List.all_eq_true.mp ((Array.all_eq_true_iff_forall_mem.mp hF) _ (Array.getElem_mem ha)) i (List.mem_range.mpr hi)
    simpa [Array.getElem?_eq_getElem hi] using q
  obtain ⟨i0, ei0⟩ := is_v g2a
  obtain rfl : w0 = (.int i0) := Option.some.inj ei0
  obtain ⟨i1, ei1⟩ := is_v g2b
  obtain rfl : w1 = (.int i1) := Option.some.inj ei1
  obtain ⟨w_MEMBER, ev_MEMBER⟩ := exa_v g3a
  have S_MEMBER : Sta s s.heap "com/example/shelfmark/shelfmark/Role" "MEMBER" "Lcom/example/shelfmark/shelfmark/Role;" (.ref w_MEMBER) := Sta.start ev_MEMBER (Or.inr ⟨(hw _ (List.mem_of_getElem? (i := 6) rfl)), (hw _ (List.mem_of_getElem? (i := 7) rfl))⟩)
  have E_MEMBER : Exa s s.heap w_MEMBER "com/example/shelfmark/shelfmark/Role" := Exa.start ev_MEMBER g3a
  obtain ⟨w_MANAGER, ev_MANAGER⟩ := exa_v g4a
  have S_MANAGER : Sta s s.heap "com/example/shelfmark/shelfmark/Role" "MANAGER" "Lcom/example/shelfmark/shelfmark/Role;" (.ref w_MANAGER) := Sta.start ev_MANAGER (Or.inr ⟨(hw _ (List.mem_of_getElem? (i := 6) rfl)), (hw _ (List.mem_of_getElem? (i := 9) rfl))⟩)
  have E_MANAGER : Exa s s.heap w_MANAGER "com/example/shelfmark/shelfmark/Role" := Exa.start ev_MANAGER g4a
  obtain ⟨w_MODERATOR, ev_MODERATOR⟩ := exa_v g9a
  have S_MODERATOR : Sta s s.heap "com/example/shelfmark/shelfmark/Role" "MODERATOR" "Lcom/example/shelfmark/shelfmark/Role;" (.ref w_MODERATOR) := Sta.start ev_MODERATOR (Or.inr ⟨(hw _ (List.mem_of_getElem? (i := 6) rfl)), (hw _ (List.mem_of_getElem? (i := 18) rfl))⟩)
  have E_MODERATOR : Exa s s.heap w_MODERATOR "com/example/shelfmark/shelfmark/Role" := Exa.start ev_MODERATOR g9a
  obtain ⟨w_EDITOR, ev_EDITOR⟩ := exa_v g10a
  have S_EDITOR : Sta s s.heap "com/example/shelfmark/shelfmark/Role" "EDITOR" "Lcom/example/shelfmark/shelfmark/Role;" (.ref w_EDITOR) := Sta.start ev_EDITOR (Or.inr ⟨(hw _ (List.mem_of_getElem? (i := 6) rfl)), (hw _ (List.mem_of_getElem? (i := 20) rfl))⟩)
  have E_EDITOR : Exa s s.heap w_EDITOR "com/example/shelfmark/shelfmark/Role" := Exa.start ev_EDITOR g10a
  obtain ⟨w_ADMIN, ev_ADMIN⟩ := exa_v g15a
  have S_ADMIN : Sta s s.heap "com/example/shelfmark/shelfmark/Role" "ADMIN" "Lcom/example/shelfmark/shelfmark/Role;" (.ref w_ADMIN) := Sta.start ev_ADMIN (Or.inr ⟨(hw _ (List.mem_of_getElem? (i := 6) rfl)), (hw _ (List.mem_of_getElem? (i := 22) rfl))⟩)
  have E_ADMIN : Exa s s.heap w_ADMIN "com/example/shelfmark/shelfmark/Role" := Exa.start ev_ADMIN g15a
  have o_ordinal_MEMBER : s.fieldOf? w_MEMBER "java/lang/Enum" "ordinal" "I" = some (.int (0 : Int32)) := (fld_at ev_MEMBER).symm.trans (own_eq_int g5a)
  have F_ordinal_MEMBER := Fld.start o_ordinal_MEMBER
  have o_ordinal_MANAGER : s.fieldOf? w_MANAGER "java/lang/Enum" "ordinal" "I" = some (.int (3 : Int32)) := (fld_at ev_MANAGER).symm.trans (own_eq_int g6a)
  have F_ordinal_MANAGER := Fld.start o_ordinal_MANAGER
  have o_rank_MEMBER : s.fieldOf? w_MEMBER "com/example/shelfmark/shelfmark/Role" "rank" "I" = some (.int (1 : Int32)) := (fld_at ev_MEMBER).symm.trans (own_eq_int g7a)
  have F_rank_MEMBER := Fld.start o_rank_MEMBER
  have o_rank_MANAGER : s.fieldOf? w_MANAGER "com/example/shelfmark/shelfmark/Role" "rank" "I" = some (.int (4 : Int32)) := (fld_at ev_MANAGER).symm.trans (own_eq_int g8a)
  have F_rank_MANAGER := Fld.start o_rank_MANAGER
  have o_ordinal_MODERATOR : s.fieldOf? w_MODERATOR "java/lang/Enum" "ordinal" "I" = some (.int (4 : Int32)) := (fld_at ev_MODERATOR).symm.trans (own_eq_int g11a)
  have F_ordinal_MODERATOR := Fld.start o_ordinal_MODERATOR
  have o_ordinal_EDITOR : s.fieldOf? w_EDITOR "java/lang/Enum" "ordinal" "I" = some (.int (1 : Int32)) := (fld_at ev_EDITOR).symm.trans (own_eq_int g12a)
  have F_ordinal_EDITOR := Fld.start o_ordinal_EDITOR
  have o_rank_MODERATOR : s.fieldOf? w_MODERATOR "com/example/shelfmark/shelfmark/Role" "rank" "I" = some (.int (0 : Int32)) := (fld_at ev_MODERATOR).symm.trans (own_eq_int g13a)
  have F_rank_MODERATOR := Fld.start o_rank_MODERATOR
  have o_rank_EDITOR : s.fieldOf? w_EDITOR "com/example/shelfmark/shelfmark/Role" "rank" "I" = some (.int (2 : Int32)) := (fld_at ev_EDITOR).symm.trans (own_eq_int g14a)
  have F_rank_EDITOR := Fld.start o_rank_EDITOR
  have o_ordinal_ADMIN : s.fieldOf? w_ADMIN "java/lang/Enum" "ordinal" "I" = some (.int (2 : Int32)) := (fld_at ev_ADMIN).symm.trans (own_eq_int g16a)
  have F_ordinal_ADMIN := Fld.start o_ordinal_ADMIN
  have o_rank_ADMIN : s.fieldOf? w_ADMIN "com/example/shelfmark/shelfmark/Role" "rank" "I" = some (.int (3 : Int32)) := (fld_at ev_ADMIN).symm.trans (own_eq_int g16b)
  have F_rank_ADMIN := Fld.start o_rank_ADMIN
  have n_1_0 := own_ne o_ordinal_EDITOR o_ordinal_MEMBER (by decide)
  have n_0_1 : ¬ (w_MEMBER = w_EDITOR) := fun q => n_1_0 q.symm
  have n_2_0 := own_ne o_ordinal_ADMIN o_ordinal_MEMBER (by decide)
  have n_0_2 : ¬ (w_MEMBER = w_ADMIN) := fun q => n_2_0 q.symm
  have n_2_1 := own_ne o_ordinal_ADMIN o_ordinal_EDITOR (by decide)
  have n_1_2 : ¬ (w_EDITOR = w_ADMIN) := fun q => n_2_1 q.symm
  have n_3_0 := own_ne o_ordinal_MANAGER o_ordinal_MEMBER (by decide)
  have n_0_3 : ¬ (w_MEMBER = w_MANAGER) := fun q => n_3_0 q.symm
  have n_3_1 := own_ne o_ordinal_MANAGER o_ordinal_EDITOR (by decide)
  have n_1_3 : ¬ (w_EDITOR = w_MANAGER) := fun q => n_3_1 q.symm
  have n_3_2 := own_ne o_ordinal_MANAGER o_ordinal_ADMIN (by decide)
  have n_2_3 : ¬ (w_ADMIN = w_MANAGER) := fun q => n_3_2 q.symm
  have n_4_0 := own_ne o_ordinal_MODERATOR o_ordinal_MEMBER (by decide)
  have n_0_4 : ¬ (w_MEMBER = w_MODERATOR) := fun q => n_4_0 q.symm
  have n_4_1 := own_ne o_ordinal_MODERATOR o_ordinal_EDITOR (by decide)
  have n_1_4 : ¬ (w_EDITOR = w_MODERATOR) := fun q => n_4_1 q.symm
  have n_4_2 := own_ne o_ordinal_MODERATOR o_ordinal_ADMIN (by decide)
  have n_2_4 : ¬ (w_ADMIN = w_MODERATOR) := fun q => n_4_2 q.symm
  have n_4_3 := own_ne o_ordinal_MODERATOR o_ordinal_MANAGER (by decide)
  have n_3_4 : ¬ (w_MANAGER = w_MODERATOR) := fun q => n_4_3 q.symm
  have C0 : RO l s x code maxLocals ret room_1 #[.int i0, .int i1] s.heap s.heap.size (.int (1 : Int32)) := by
    rcases own_sel5 i0 with q | q | q | q | q <;> rcases own_sel5 i1 with p | p | p | p | p
    · exact law_ge l s _ hw i0 i1 (1 : Int32) w_MEMBER w_MEMBER s.heap s.heap.size (Nat.le_refl _) (Cr := (pick_0 l s _ hw _ w_MEMBER s.heap s.heap.size (Nat.le_refl _) S_MEMBER (hc1 := q))) (Co := (pick_0 l s _ hw _ w_MEMBER s.heap s.heap.size (Nat.le_refl _) S_MEMBER (hc1 := p))) (Ci := (inc_same l s _ hw w_MEMBER s.heap s.heap.size (Nat.le_refl _))) (E_r := E_MEMBER) (hc28 := by rw [q]; decide) (hc33 := by rw [p]; decide) (hc53 := by rw [q, p]; decide) (hc72 := rfl)
    · exact law_lt l s _ hw i0 i1 (0 : Int32) w_MEMBER w_EDITOR s.heap s.heap.size (Nat.le_refl _) (Cr := (pick_0 l s _ hw _ w_MEMBER s.heap s.heap.size (Nat.le_refl _) S_MEMBER (hc1 := q))) (Co := (pick_1 l s _ hw _ w_EDITOR s.heap s.heap.size (Nat.le_refl _) S_EDITOR (hc1 := by rw [p]; decide) (hc10 := p))) (Ci := (inc_lt l s _ hw w_MEMBER w_EDITOR (1 : Int32) (2 : Int32) s.heap s.heap.size (Nat.le_refl _) (F_rank_a := F_rank_MEMBER) (F_rank_b := F_rank_EDITOR) (ha2 := n_0_1) (hc9 := by decide) (hc16 := by decide) (hc27 := by decide))) (E_r := E_MEMBER) (hc28 := by rw [q]; decide) (hc33 := by rw [p]; decide) (hc53 := by rw [q, p]; decide) (hc72 := rfl)
    · exact law_lt l s _ hw i0 i1 (0 : Int32) w_MEMBER w_ADMIN s.heap s.heap.size (Nat.le_refl _) (Cr := (pick_0 l s _ hw _ w_MEMBER s.heap s.heap.size (Nat.le_refl _) S_MEMBER (hc1 := q))) (Co := (pick_2 l s _ hw _ w_ADMIN s.heap s.heap.size (Nat.le_refl _) S_ADMIN (hc1 := by rw [p]; decide) (hc10 := by rw [p]; decide) (hc19 := p))) (Ci := (inc_lt l s _ hw w_MEMBER w_ADMIN (1 : Int32) (3 : Int32) s.heap s.heap.size (Nat.le_refl _) (F_rank_a := F_rank_MEMBER) (F_rank_b := F_rank_ADMIN) (ha2 := n_0_2) (hc9 := by decide) (hc16 := by decide) (hc27 := by decide))) (E_r := E_MEMBER) (hc28 := by rw [q]; decide) (hc33 := by rw [p]; decide) (hc53 := by rw [q, p]; decide) (hc72 := rfl)
    · exact law_lt l s _ hw i0 i1 (0 : Int32) w_MEMBER w_MANAGER s.heap s.heap.size (Nat.le_refl _) (Cr := (pick_0 l s _ hw _ w_MEMBER s.heap s.heap.size (Nat.le_refl _) S_MEMBER (hc1 := q))) (Co := (pick_3 l s _ hw _ w_MANAGER s.heap s.heap.size (Nat.le_refl _) S_MANAGER (hc1 := by rw [p]; decide) (hc10 := by rw [p]; decide) (hc19 := by rw [p]; decide) (hc28 := p))) (Ci := (inc_lt l s _ hw w_MEMBER w_MANAGER (1 : Int32) (4 : Int32) s.heap s.heap.size (Nat.le_refl _) (F_rank_a := F_rank_MEMBER) (F_rank_b := F_rank_MANAGER) (ha2 := n_0_3) (hc9 := by decide) (hc16 := by decide) (hc27 := by decide))) (E_r := E_MEMBER) (hc28 := by rw [q]; decide) (hc33 := by rw [p]; decide) (hc53 := by rw [q, p]; decide) (hc72 := rfl)
    · exact law_n4 l s _ hw i0 i1 (0 : Int32) w_MEMBER w_MODERATOR s.heap s.heap.size (Nat.le_refl _) (Cr := (pick_0 l s _ hw _ w_MEMBER s.heap s.heap.size (Nat.le_refl _) S_MEMBER (hc1 := q))) (Co := (pick_4 l s _ hw _ w_MODERATOR s.heap s.heap.size (Nat.le_refl _) S_MODERATOR (hc1 := by rw [p]; decide) (hc10 := by rw [p]; decide) (hc19 := by rw [p]; decide) (hc28 := by rw [p]; decide))) (Ci := (inc_b0 l s _ hw w_MEMBER w_MODERATOR (1 : Int32) (0 : Int32) s.heap s.heap.size (Nat.le_refl _) (F_rank_a := F_rank_MEMBER) (F_rank_b := F_rank_MODERATOR) (ha2 := n_0_4) (hc9 := by decide) (hc16 := by decide))) (E_r := E_MEMBER) (hc28 := by rw [q]; decide) (hc33 := p) (hc38 := by rw [q, p]; decide) (hc72 := rfl)
    · exact law_ge l s _ hw i0 i1 (1 : Int32) w_EDITOR w_MEMBER s.heap s.heap.size (Nat.le_refl _) (Cr := (pick_1 l s _ hw _ w_EDITOR s.heap s.heap.size (Nat.le_refl _) S_EDITOR (hc1 := by rw [q]; decide) (hc10 := q))) (Co := (pick_0 l s _ hw _ w_MEMBER s.heap s.heap.size (Nat.le_refl _) S_MEMBER (hc1 := p))) (Ci := (inc_ge l s _ hw w_EDITOR w_MEMBER (2 : Int32) (1 : Int32) s.heap s.heap.size (Nat.le_refl _) (F_rank_a := F_rank_EDITOR) (F_rank_b := F_rank_MEMBER) (ha2 := n_1_0) (hc9 := by decide) (hc16 := by decide) (hc27 := by decide))) (E_r := E_EDITOR) (hc28 := by rw [q]; decide) (hc33 := by rw [p]; decide) (hc53 := by rw [q, p]; decide) (hc72 := rfl)
    · exact law_ge l s _ hw i0 i1 (1 : Int32) w_EDITOR w_EDITOR s.heap s.heap.size (Nat.le_refl _) (Cr := (pick_1 l s _ hw _ w_EDITOR s.heap s.heap.size (Nat.le_refl _) S_EDITOR (hc1 := by rw [q]; decide) (hc10 := q))) (Co := (pick_1 l s _ hw _ w_EDITOR s.heap s.heap.size (Nat.le_refl _) S_EDITOR (hc1 := by rw [p]; decide) (hc10 := p))) (Ci := (inc_same l s _ hw w_EDITOR s.heap s.heap.size (Nat.le_refl _))) (E_r := E_EDITOR) (hc28 := by rw [q]; decide) (hc33 := by rw [p]; decide) (hc53 := by rw [q, p]; decide) (hc72 := rfl)
    · exact law_lt l s _ hw i0 i1 (0 : Int32) w_EDITOR w_ADMIN s.heap s.heap.size (Nat.le_refl _) (Cr := (pick_1 l s _ hw _ w_EDITOR s.heap s.heap.size (Nat.le_refl _) S_EDITOR (hc1 := by rw [q]; decide) (hc10 := q))) (Co := (pick_2 l s _ hw _ w_ADMIN s.heap s.heap.size (Nat.le_refl _) S_ADMIN (hc1 := by rw [p]; decide) (hc10 := by rw [p]; decide) (hc19 := p))) (Ci := (inc_lt l s _ hw w_EDITOR w_ADMIN (2 : Int32) (3 : Int32) s.heap s.heap.size (Nat.le_refl _) (F_rank_a := F_rank_EDITOR) (F_rank_b := F_rank_ADMIN) (ha2 := n_1_2) (hc9 := by decide) (hc16 := by decide) (hc27 := by decide))) (E_r := E_EDITOR) (hc28 := by rw [q]; decide) (hc33 := by rw [p]; decide) (hc53 := by rw [q, p]; decide) (hc72 := rfl)
    · exact law_lt l s _ hw i0 i1 (0 : Int32) w_EDITOR w_MANAGER s.heap s.heap.size (Nat.le_refl _) (Cr := (pick_1 l s _ hw _ w_EDITOR s.heap s.heap.size (Nat.le_refl _) S_EDITOR (hc1 := by rw [q]; decide) (hc10 := q))) (Co := (pick_3 l s _ hw _ w_MANAGER s.heap s.heap.size (Nat.le_refl _) S_MANAGER (hc1 := by rw [p]; decide) (hc10 := by rw [p]; decide) (hc19 := by rw [p]; decide) (hc28 := p))) (Ci := (inc_lt l s _ hw w_EDITOR w_MANAGER (2 : Int32) (4 : Int32) s.heap s.heap.size (Nat.le_refl _) (F_rank_a := F_rank_EDITOR) (F_rank_b := F_rank_MANAGER) (ha2 := n_1_3) (hc9 := by decide) (hc16 := by decide) (hc27 := by decide))) (E_r := E_EDITOR) (hc28 := by rw [q]; decide) (hc33 := by rw [p]; decide) (hc53 := by rw [q, p]; decide) (hc72 := rfl)
    · exact law_n4 l s _ hw i0 i1 (0 : Int32) w_EDITOR w_MODERATOR s.heap s.heap.size (Nat.le_refl _) (Cr := (pick_1 l s _ hw _ w_EDITOR s.heap s.heap.size (Nat.le_refl _) S_EDITOR (hc1 := by rw [q]; decide) (hc10 := q))) (Co := (pick_4 l s _ hw _ w_MODERATOR s.heap s.heap.size (Nat.le_refl _) S_MODERATOR (hc1 := by rw [p]; decide) (hc10 := by rw [p]; decide) (hc19 := by rw [p]; decide) (hc28 := by rw [p]; decide))) (Ci := (inc_b0 l s _ hw w_EDITOR w_MODERATOR (2 : Int32) (0 : Int32) s.heap s.heap.size (Nat.le_refl _) (F_rank_a := F_rank_EDITOR) (F_rank_b := F_rank_MODERATOR) (ha2 := n_1_4) (hc9 := by decide) (hc16 := by decide))) (E_r := E_EDITOR) (hc28 := by rw [q]; decide) (hc33 := p) (hc38 := by rw [q, p]; decide) (hc72 := rfl)
    · exact law_ge l s _ hw i0 i1 (1 : Int32) w_ADMIN w_MEMBER s.heap s.heap.size (Nat.le_refl _) (Cr := (pick_2 l s _ hw _ w_ADMIN s.heap s.heap.size (Nat.le_refl _) S_ADMIN (hc1 := by rw [q]; decide) (hc10 := by rw [q]; decide) (hc19 := q))) (Co := (pick_0 l s _ hw _ w_MEMBER s.heap s.heap.size (Nat.le_refl _) S_MEMBER (hc1 := p))) (Ci := (inc_ge l s _ hw w_ADMIN w_MEMBER (3 : Int32) (1 : Int32) s.heap s.heap.size (Nat.le_refl _) (F_rank_a := F_rank_ADMIN) (F_rank_b := F_rank_MEMBER) (ha2 := n_2_0) (hc9 := by decide) (hc16 := by decide) (hc27 := by decide))) (E_r := E_ADMIN) (hc28 := by rw [q]; decide) (hc33 := by rw [p]; decide) (hc53 := by rw [q, p]; decide) (hc72 := rfl)
    · exact law_ge l s _ hw i0 i1 (1 : Int32) w_ADMIN w_EDITOR s.heap s.heap.size (Nat.le_refl _) (Cr := (pick_2 l s _ hw _ w_ADMIN s.heap s.heap.size (Nat.le_refl _) S_ADMIN (hc1 := by rw [q]; decide) (hc10 := by rw [q]; decide) (hc19 := q))) (Co := (pick_1 l s _ hw _ w_EDITOR s.heap s.heap.size (Nat.le_refl _) S_EDITOR (hc1 := by rw [p]; decide) (hc10 := p))) (Ci := (inc_ge l s _ hw w_ADMIN w_EDITOR (3 : Int32) (2 : Int32) s.heap s.heap.size (Nat.le_refl _) (F_rank_a := F_rank_ADMIN) (F_rank_b := F_rank_EDITOR) (ha2 := n_2_1) (hc9 := by decide) (hc16 := by decide) (hc27 := by decide))) (E_r := E_ADMIN) (hc28 := by rw [q]; decide) (hc33 := by rw [p]; decide) (hc53 := by rw [q, p]; decide) (hc72 := rfl)
    · exact law_ge l s _ hw i0 i1 (1 : Int32) w_ADMIN w_ADMIN s.heap s.heap.size (Nat.le_refl _) (Cr := (pick_2 l s _ hw _ w_ADMIN s.heap s.heap.size (Nat.le_refl _) S_ADMIN (hc1 := by rw [q]; decide) (hc10 := by rw [q]; decide) (hc19 := q))) (Co := (pick_2 l s _ hw _ w_ADMIN s.heap s.heap.size (Nat.le_refl _) S_ADMIN (hc1 := by rw [p]; decide) (hc10 := by rw [p]; decide) (hc19 := p))) (Ci := (inc_same l s _ hw w_ADMIN s.heap s.heap.size (Nat.le_refl _))) (E_r := E_ADMIN) (hc28 := by rw [q]; decide) (hc33 := by rw [p]; decide) (hc53 := by rw [q, p]; decide) (hc72 := rfl)
    · exact law_lt l s _ hw i0 i1 (0 : Int32) w_ADMIN w_MANAGER s.heap s.heap.size (Nat.le_refl _) (Cr := (pick_2 l s _ hw _ w_ADMIN s.heap s.heap.size (Nat.le_refl _) S_ADMIN (hc1 := by rw [q]; decide) (hc10 := by rw [q]; decide) (hc19 := q))) (Co := (pick_3 l s _ hw _ w_MANAGER s.heap s.heap.size (Nat.le_refl _) S_MANAGER (hc1 := by rw [p]; decide) (hc10 := by rw [p]; decide) (hc19 := by rw [p]; decide) (hc28 := p))) (Ci := (inc_lt l s _ hw w_ADMIN w_MANAGER (3 : Int32) (4 : Int32) s.heap s.heap.size (Nat.le_refl _) (F_rank_a := F_rank_ADMIN) (F_rank_b := F_rank_MANAGER) (ha2 := n_2_3) (hc9 := by decide) (hc16 := by decide) (hc27 := by decide))) (E_r := E_ADMIN) (hc28 := by rw [q]; decide) (hc33 := by rw [p]; decide) (hc53 := by rw [q, p]; decide) (hc72 := rfl)
    · exact law_n4 l s _ hw i0 i1 (0 : Int32) w_ADMIN w_MODERATOR s.heap s.heap.size (Nat.le_refl _) (Cr := (pick_2 l s _ hw _ w_ADMIN s.heap s.heap.size (Nat.le_refl _) S_ADMIN (hc1 := by rw [q]; decide) (hc10 := by rw [q]; decide) (hc19 := q))) (Co := (pick_4 l s _ hw _ w_MODERATOR s.heap s.heap.size (Nat.le_refl _) S_MODERATOR (hc1 := by rw [p]; decide) (hc10 := by rw [p]; decide) (hc19 := by rw [p]; decide) (hc28 := by rw [p]; decide))) (Ci := (inc_b0 l s _ hw w_ADMIN w_MODERATOR (3 : Int32) (0 : Int32) s.heap s.heap.size (Nat.le_refl _) (F_rank_a := F_rank_ADMIN) (F_rank_b := F_rank_MODERATOR) (ha2 := n_2_4) (hc9 := by decide) (hc16 := by decide))) (E_r := E_ADMIN) (hc28 := by rw [q]; decide) (hc33 := p) (hc38 := by rw [q, p]; decide) (hc72 := rfl)
    · exact law_ge l s _ hw i0 i1 (1 : Int32) w_MANAGER w_MEMBER s.heap s.heap.size (Nat.le_refl _) (Cr := (pick_3 l s _ hw _ w_MANAGER s.heap s.heap.size (Nat.le_refl _) S_MANAGER (hc1 := by rw [q]; decide) (hc10 := by rw [q]; decide) (hc19 := by rw [q]; decide) (hc28 := q))) (Co := (pick_0 l s _ hw _ w_MEMBER s.heap s.heap.size (Nat.le_refl _) S_MEMBER (hc1 := p))) (Ci := (inc_ge l s _ hw w_MANAGER w_MEMBER (4 : Int32) (1 : Int32) s.heap s.heap.size (Nat.le_refl _) (F_rank_a := F_rank_MANAGER) (F_rank_b := F_rank_MEMBER) (ha2 := n_3_0) (hc9 := by decide) (hc16 := by decide) (hc27 := by decide))) (E_r := E_MANAGER) (hc28 := by rw [q]; decide) (hc33 := by rw [p]; decide) (hc53 := by rw [q, p]; decide) (hc72 := rfl)
    · exact law_ge l s _ hw i0 i1 (1 : Int32) w_MANAGER w_EDITOR s.heap s.heap.size (Nat.le_refl _) (Cr := (pick_3 l s _ hw _ w_MANAGER s.heap s.heap.size (Nat.le_refl _) S_MANAGER (hc1 := by rw [q]; decide) (hc10 := by rw [q]; decide) (hc19 := by rw [q]; decide) (hc28 := q))) (Co := (pick_1 l s _ hw _ w_EDITOR s.heap s.heap.size (Nat.le_refl _) S_EDITOR (hc1 := by rw [p]; decide) (hc10 := p))) (Ci := (inc_ge l s _ hw w_MANAGER w_EDITOR (4 : Int32) (2 : Int32) s.heap s.heap.size (Nat.le_refl _) (F_rank_a := F_rank_MANAGER) (F_rank_b := F_rank_EDITOR) (ha2 := n_3_1) (hc9 := by decide) (hc16 := by decide) (hc27 := by decide))) (E_r := E_MANAGER) (hc28 := by rw [q]; decide) (hc33 := by rw [p]; decide) (hc53 := by rw [q, p]; decide) (hc72 := rfl)
    · exact law_ge l s _ hw i0 i1 (1 : Int32) w_MANAGER w_ADMIN s.heap s.heap.size (Nat.le_refl _) (Cr := (pick_3 l s _ hw _ w_MANAGER s.heap s.heap.size (Nat.le_refl _) S_MANAGER (hc1 := by rw [q]; decide) (hc10 := by rw [q]; decide) (hc19 := by rw [q]; decide) (hc28 := q))) (Co := (pick_2 l s _ hw _ w_ADMIN s.heap s.heap.size (Nat.le_refl _) S_ADMIN (hc1 := by rw [p]; decide) (hc10 := by rw [p]; decide) (hc19 := p))) (Ci := (inc_ge l s _ hw w_MANAGER w_ADMIN (4 : Int32) (3 : Int32) s.heap s.heap.size (Nat.le_refl _) (F_rank_a := F_rank_MANAGER) (F_rank_b := F_rank_ADMIN) (ha2 := n_3_2) (hc9 := by decide) (hc16 := by decide) (hc27 := by decide))) (E_r := E_MANAGER) (hc28 := by rw [q]; decide) (hc33 := by rw [p]; decide) (hc53 := by rw [q, p]; decide) (hc72 := rfl)
    · exact law_ge l s _ hw i0 i1 (1 : Int32) w_MANAGER w_MANAGER s.heap s.heap.size (Nat.le_refl _) (Cr := (pick_3 l s _ hw _ w_MANAGER s.heap s.heap.size (Nat.le_refl _) S_MANAGER (hc1 := by rw [q]; decide) (hc10 := by rw [q]; decide) (hc19 := by rw [q]; decide) (hc28 := q))) (Co := (pick_3 l s _ hw _ w_MANAGER s.heap s.heap.size (Nat.le_refl _) S_MANAGER (hc1 := by rw [p]; decide) (hc10 := by rw [p]; decide) (hc19 := by rw [p]; decide) (hc28 := p))) (Ci := (inc_same l s _ hw w_MANAGER s.heap s.heap.size (Nat.le_refl _))) (E_r := E_MANAGER) (hc28 := by rw [q]; decide) (hc33 := by rw [p]; decide) (hc53 := by rw [q, p]; decide) (hc72 := rfl)
    · exact law_n4 l s _ hw i0 i1 (0 : Int32) w_MANAGER w_MODERATOR s.heap s.heap.size (Nat.le_refl _) (Cr := (pick_3 l s _ hw _ w_MANAGER s.heap s.heap.size (Nat.le_refl _) S_MANAGER (hc1 := by rw [q]; decide) (hc10 := by rw [q]; decide) (hc19 := by rw [q]; decide) (hc28 := q))) (Co := (pick_4 l s _ hw _ w_MODERATOR s.heap s.heap.size (Nat.le_refl _) S_MODERATOR (hc1 := by rw [p]; decide) (hc10 := by rw [p]; decide) (hc19 := by rw [p]; decide) (hc28 := by rw [p]; decide))) (Ci := (inc_b0 l s _ hw w_MANAGER w_MODERATOR (4 : Int32) (0 : Int32) s.heap s.heap.size (Nat.le_refl _) (F_rank_a := F_rank_MANAGER) (F_rank_b := F_rank_MODERATOR) (ha2 := n_3_4) (hc9 := by decide) (hc16 := by decide))) (E_r := E_MANAGER) (hc28 := by rw [q]; decide) (hc33 := p) (hc38 := by rw [q, p]; decide) (hc72 := rfl)
    · exact law_4n l s _ hw i0 i1 (0 : Int32) w_MODERATOR w_MEMBER s.heap s.heap.size (Nat.le_refl _) (Cr := (pick_4 l s _ hw _ w_MODERATOR s.heap s.heap.size (Nat.le_refl _) S_MODERATOR (hc1 := by rw [q]; decide) (hc10 := by rw [q]; decide) (hc19 := by rw [q]; decide) (hc28 := by rw [q]; decide))) (Co := (pick_0 l s _ hw _ w_MEMBER s.heap s.heap.size (Nat.le_refl _) S_MEMBER (hc1 := p))) (Ci := (inc_a0 l s _ hw w_MODERATOR w_MEMBER (0 : Int32) (1 : Int32) s.heap s.heap.size (Nat.le_refl _) (F_rank_a := F_rank_MODERATOR) (ha2 := n_4_0) (hc9 := by decide))) (E_r := E_MODERATOR) (hc28 := q) (hc38 := by rw [q, p]; decide) (hc72 := rfl)
    · exact law_4n l s _ hw i0 i1 (0 : Int32) w_MODERATOR w_EDITOR s.heap s.heap.size (Nat.le_refl _) (Cr := (pick_4 l s _ hw _ w_MODERATOR s.heap s.heap.size (Nat.le_refl _) S_MODERATOR (hc1 := by rw [q]; decide) (hc10 := by rw [q]; decide) (hc19 := by rw [q]; decide) (hc28 := by rw [q]; decide))) (Co := (pick_1 l s _ hw _ w_EDITOR s.heap s.heap.size (Nat.le_refl _) S_EDITOR (hc1 := by rw [p]; decide) (hc10 := p))) (Ci := (inc_a0 l s _ hw w_MODERATOR w_EDITOR (0 : Int32) (2 : Int32) s.heap s.heap.size (Nat.le_refl _) (F_rank_a := F_rank_MODERATOR) (ha2 := n_4_1) (hc9 := by decide))) (E_r := E_MODERATOR) (hc28 := q) (hc38 := by rw [q, p]; decide) (hc72 := rfl)
    · exact law_4n l s _ hw i0 i1 (0 : Int32) w_MODERATOR w_ADMIN s.heap s.heap.size (Nat.le_refl _) (Cr := (pick_4 l s _ hw _ w_MODERATOR s.heap s.heap.size (Nat.le_refl _) S_MODERATOR (hc1 := by rw [q]; decide) (hc10 := by rw [q]; decide) (hc19 := by rw [q]; decide) (hc28 := by rw [q]; decide))) (Co := (pick_2 l s _ hw _ w_ADMIN s.heap s.heap.size (Nat.le_refl _) S_ADMIN (hc1 := by rw [p]; decide) (hc10 := by rw [p]; decide) (hc19 := p))) (Ci := (inc_a0 l s _ hw w_MODERATOR w_ADMIN (0 : Int32) (3 : Int32) s.heap s.heap.size (Nat.le_refl _) (F_rank_a := F_rank_MODERATOR) (ha2 := n_4_2) (hc9 := by decide))) (E_r := E_MODERATOR) (hc28 := q) (hc38 := by rw [q, p]; decide) (hc72 := rfl)
    · exact law_4n l s _ hw i0 i1 (0 : Int32) w_MODERATOR w_MANAGER s.heap s.heap.size (Nat.le_refl _) (Cr := (pick_4 l s _ hw _ w_MODERATOR s.heap s.heap.size (Nat.le_refl _) S_MODERATOR (hc1 := by rw [q]; decide) (hc10 := by rw [q]; decide) (hc19 := by rw [q]; decide) (hc28 := by rw [q]; decide))) (Co := (pick_3 l s _ hw _ w_MANAGER s.heap s.heap.size (Nat.le_refl _) S_MANAGER (hc1 := by rw [p]; decide) (hc10 := by rw [p]; decide) (hc19 := by rw [p]; decide) (hc28 := p))) (Ci := (inc_a0 l s _ hw w_MODERATOR w_MANAGER (0 : Int32) (4 : Int32) s.heap s.heap.size (Nat.le_refl _) (F_rank_a := F_rank_MODERATOR) (ha2 := n_4_3) (hc9 := by decide))) (E_r := E_MODERATOR) (hc28 := q) (hc38 := by rw [q, p]; decide) (hc72 := rfl)
    · exact law_44 l s _ hw i0 i1 (1 : Int32) w_MODERATOR w_MODERATOR s.heap s.heap.size (Nat.le_refl _) (Cr := (pick_4 l s _ hw _ w_MODERATOR s.heap s.heap.size (Nat.le_refl _) S_MODERATOR (hc1 := by rw [q]; decide) (hc10 := by rw [q]; decide) (hc19 := by rw [q]; decide) (hc28 := by rw [q]; decide))) (Co := (pick_4 l s _ hw _ w_MODERATOR s.heap s.heap.size (Nat.le_refl _) S_MODERATOR (hc1 := by rw [p]; decide) (hc10 := by rw [p]; decide) (hc19 := by rw [p]; decide) (hc28 := by rw [p]; decide))) (Ci := (inc_same l s _ hw w_MODERATOR s.heap s.heap.size (Nat.le_refl _))) (E_r := E_MODERATOR) (hc28 := q) (hc38 := by rw [q, p]) (hc72 := rfl)
  obtain ⟨n, o, h1, h2, h3, _, L, rfl, ⟨rfl, N, -⟩, hq⟩ := C0 tables_1 p e ha hc hk s m _ below hf ((Spec.applies_iff_loose hf).mp happ).1 ⟨rfl, State.Warmed39.refl s, rfl⟩ trivial
  refine ⟨n, _, h1, h2, h3, hpost _ _ _ _ _ _ ⟨Cond.after_iff.mpr rfl, Cond.after_iff.mpr (eq_i res_at (Term.int_eval (1)) rfl), trivial⟩ ⟨hq.1, hq.2.1, (hq.2.2.sift fun y hy => Or.inr (N y hy)).mono (by decide) (by decide)⟩⟩
theorem main_1_1 : Claimed_1_1 := comes_1 fun _ _ _ _ _ _ h hF => ⟨h.1, hF⟩
theorem main_1_2 : Claimed_1_2 := comes_1 fun _ _ _ _ _ _ h hF => ⟨h.2.1, hF⟩
end Jvm.Pilot.@@N@@
namespace Jvm.Pilot.@@N@@
open Jvm Jvm.ClassFile Sem Op Lib Jvm.Free Jvm.Stand Jvm.Pilot.@@N@@.Jvm.D
/-! MADE BY PROGRAM (witnessworld.py) out of the Statement's table words and the real class files: 12 classes; the members and pool entries that the words name. The judged class is class 1, her method 2. -/
namespace start1
open Jvm.ClassFile
def u (s : String) : CpInfo := .utf8 (stringToUtf16 s)
/-- a pool by its gaps: so many unusable entries, then the entry; so many at the end -/
def gap : Nat → List CpInfo → List CpInfo
  | 0, r => r
  | n + 1, r => .unusable :: gap n r
def poolList (es : List (Nat × CpInfo)) (last : Nat) : List CpInfo := es.foldr (fun e r => gap e.1 (e.2 :: r)) (gap last [])
def pool (es : List (Nat × CpInfo)) (last : Nat) : Array CpInfo := ⟨poolList es last⟩
def fileOf (pool : Array CpInfo) (this : Nat) (attrs : Array Attribute := #[]) (ms : Array MethodInfo := #[]) (fl : Nat := 33) (sup : Nat := 0) (ifs : Array Nat := #[]) (fds : Array FieldInfo := #[]) : ClassFile where
  minorVersion := 0
  majorVersion := 65
  constantPool := pool
  accessFlags := fl
  thisClass := this
  superClass := sup
  interfaces := ifs
  fields := fds
  methods := ms
  attributes := attrs
def plain (name : String) (sup : Option ClassId) : Class where
  name := name
  kind := .ordinary
  loader := none
  accessFlags := 33
  super := sup
  interfaces := #[]
  cf := none
  fields := #[]
  methods := #[]
  instanceTypes := #[]
  staticTypes := #[]
  resolved := #[]
  callSites := []
  init := .initialized
  statics := none
  mirror := none

def pool0 : Array CpInfo := pool [(5, u "<init>"), (0, u "()V"), (1, .class_ 10), (1, u "java/lang/Object")] 113

def k0m0 : Method := { name := "<init>", desc := "()V", sig := { parameters := [], returnType := none }, accessFlags := 1, code := none }
/-- java/lang/Object -/
def k0 : Class := { plain "java/lang/Object" none with
  accessFlags := 33
  interfaces := #[]
  cf := some (fileOf pool0 8 #[] #[{ accessFlags := 1, nameIndex := 5, descriptorIndex := 6, attributes := #[] }] 33 0 #[] #[])
  fields := #[]
  methods := #[k0m0]
  instanceTypes := #[]
  staticTypes := #[]
  resolved := Array.replicate 124 none
  statics := none }

def pool1 : Array CpInfo := pool [(2, .class_ 4), (1, u "java/lang/Object"), (0, u "<init>"), (0, u "()V"), (0, .fieldref 8 9), (0, .class_ 10), (0, .nameAndType 11 12), (0, u "com/example/shelfmark/shelfmark/Role"), (0, u "MEMBER"), (0, u "Lcom/example/shelfmark/shelfmark/Role;"), (0, .fieldref 8 14), (0, .nameAndType 15 12), (0, u "EDITOR"), (0, .fieldref 8 17), (0, .nameAndType 18 12), (0, u "ADMIN"), (0, .fieldref 8 20), (0, .nameAndType 21 12), (0, u "MANAGER"), (0, .fieldref 8 23), (0, .nameAndType 24 12), (0, u "MODERATOR"), (0, .integer 2147483647), (0, .methodref 27 28), (0, .class_ 29), (0, .nameAndType 30 31), (0, u "com/example/shelfmark/shelfmark/RoleIncludesPinLaw"), (0, u "pick"), (0, u "(I)Lcom/example/shelfmark/shelfmark/Role;"), (0, .methodref 8 33), (0, .nameAndType 34 35), (0, u "includes"), (0, u "(Lcom/example/shelfmark/shelfmark/Role;)Z"), (3, u "law"), (0, u "(II)Z")] 2

def k1m0 : Method := { name := "<init>", desc := "()V", sig := { parameters := [], returnType := none }, accessFlags := 1, code := none }
def k1c1 : Code := { maxStack := 2, maxLocals := 1, code := method_2_code, exceptionTable := #[], attributes := #[] }
def k1m1 : Method := { name := "pick", desc := "(I)Lcom/example/shelfmark/shelfmark/Role;", sig := { parameters := [.int], returnType := some (.object "com/example/shelfmark/shelfmark/Role") }, accessFlags := 10, code := some k1c1 }
def k1c2 : Code := { maxStack := 2, maxLocals := 7, code := code, exceptionTable := #[], attributes := #[] }
def k1m2 : Method := { name := "law", desc := "(II)Z", sig := { parameters := [.int, .int], returnType := some .boolean }, accessFlags := 9, code := some k1c2 }
/-- com/example/shelfmark/shelfmark/RoleIncludesPinLaw -/
def k1 : Class := { plain "com/example/shelfmark/shelfmark/RoleIncludesPinLaw" (some 0) with
  accessFlags := 49
  interfaces := #[]
  cf := some (fileOf pool1 27 #[] #[{ accessFlags := 1, nameIndex := 5, descriptorIndex := 6, attributes := #[] }, { accessFlags := 10, nameIndex := 30, descriptorIndex := 31, attributes := #[] }, { accessFlags := 9, nameIndex := 39, descriptorIndex := 40, attributes := #[] }] 49 2 #[] #[])
  fields := #[]
  methods := #[k1m0, k1m1, k1m2]
  instanceTypes := #[]
  staticTypes := #[]
  resolved := Array.replicate 43 none
  statics := none }

def pool2 : Array CpInfo := pool [(1, .class_ 2), (0, u "java/lang/constant/Constable"), (0, .class_ 4), (0, u "java/lang/Object")] 6

/-- java/lang/constant/Constable -/
def k2 : Class := { plain "java/lang/constant/Constable" (some 0) with
  accessFlags := 1537
  interfaces := #[]
  cf := some (fileOf pool2 1 #[] #[] 1537 3 #[] #[])
  fields := #[]
  methods := #[]
  instanceTypes := #[]
  staticTypes := #[]
  resolved := Array.replicate 11 none
  statics := none }

def pool3 : Array CpInfo := pool [(1, .class_ 2), (0, u "java/lang/Comparable"), (0, .class_ 4), (0, u "java/lang/Object")] 7

/-- java/lang/Comparable -/
def k3 : Class := { plain "java/lang/Comparable" (some 0) with
  accessFlags := 1537
  interfaces := #[]
  cf := some (fileOf pool3 1 #[] #[] 1537 3 #[] #[])
  fields := #[]
  methods := #[]
  instanceTypes := #[]
  staticTypes := #[]
  resolved := Array.replicate 12 none
  statics := none }

def pool4 : Array CpInfo := pool [(1, .class_ 2), (0, u "java/io/Serializable"), (0, .class_ 4), (0, u "java/lang/Object")] 2

/-- java/io/Serializable -/
def k4 : Class := { plain "java/io/Serializable" (some 0) with
  accessFlags := 1537
  interfaces := #[]
  cf := some (fileOf pool4 1 #[] #[] 1537 3 #[] #[])
  fields := #[]
  methods := #[]
  instanceTypes := #[]
  staticTypes := #[]
  resolved := Array.replicate 7 none
  statics := none }

def pool5 : Array CpInfo := pool [(2, .class_ 4), (1, u "java/lang/Enum"), (0, u "name"), (0, u "Ljava/lang/String;"), (2, u "ordinal"), (0, u "I"), (1, .class_ 14), (1, u "java/lang/Object"), (4, u "hash"), (86, .class_ 108), (1, u "java/lang/Enum$EnumDesc"), (2, .class_ 112), (0, u "java/lang/constant/Constable"), (0, .class_ 114), (0, u "java/lang/Comparable"), (0, .class_ 116), (0, u "java/io/Serializable")] 87

/-- java/lang/Enum -/
def k5 : Class := { plain "java/lang/Enum" (some 0) with
  accessFlags := 1057
  interfaces := #[2, 3, 4]
  cf := some (fileOf pool5 2 #[.nestMembers #[106]] #[] 1057 12 #[111, 113, 115] #[{ accessFlags := 18, nameIndex := 5, descriptorIndex := 6, attributes := #[] }, { accessFlags := 18, nameIndex := 9, descriptorIndex := 10, attributes := #[] }, { accessFlags := 2, nameIndex := 19, descriptorIndex := 10, attributes := #[] }])
  fields := #[{ name := "name", type := (.object "java/lang/String"), accessFlags := 18, slot := 0, constantValue := 0 }, { name := "ordinal", type := .int, accessFlags := 18, slot := 1, constantValue := 0 }, { name := "hash", type := .int, accessFlags := 2, slot := 2, constantValue := 0 }]
  methods := #[]
  instanceTypes := #[(.object "java/lang/String"), .int, .int]
  staticTypes := #[]
  resolved := Array.replicate 204 none
  statics := none }

def pool6 : Array CpInfo := pool [(1, .class_ 2), (0, u "com/example/shelfmark/shelfmark/Role"), (2, u "MEMBER"), (0, u "Lcom/example/shelfmark/shelfmark/Role;"), (2, u "EDITOR"), (2, u "ADMIN"), (2, u "MANAGER"), (2, u "MODERATOR"), (2, u "$VALUES"), (0, u "[Lcom/example/shelfmark/shelfmark/Role;"), (6, .class_ 31), (1, u "java/lang/Enum"), (8, u "tokenName"), (0, u "Ljava/lang/String;"), (0, .fieldref 1 43), (0, .nameAndType 44 45), (0, u "rank"), (0, u "I"), (51, u "includes"), (0, u "(Lcom/example/shelfmark/shelfmark/Role;)Z")] 5

def k6c0 : Code := { maxStack := 2, maxLocals := 2, code := prog_11_method_6_code, exceptionTable := #[], attributes := #[] }
def k6m0 : Method := { name := "includes", desc := "(Lcom/example/shelfmark/shelfmark/Role;)Z", sig := { parameters := [(.object "com/example/shelfmark/shelfmark/Role")], returnType := some .boolean }, accessFlags := 0, code := some k6c0 }
/-- com/example/shelfmark/shelfmark/Role -/
def k6 : Class := { plain "com/example/shelfmark/shelfmark/Role" (some 5) with
  accessFlags := 16432
  interfaces := #[]
  cf := some (fileOf pool6 1 #[] #[{ accessFlags := 0, nameIndex := 97, descriptorIndex := 98, attributes := #[] }] 16432 29 #[] #[{ accessFlags := 16409, nameIndex := 5, descriptorIndex := 6, attributes := #[] }, { accessFlags := 16409, nameIndex := 9, descriptorIndex := 6, attributes := #[] }, { accessFlags := 16409, nameIndex := 12, descriptorIndex := 6, attributes := #[] }, { accessFlags := 16409, nameIndex := 15, descriptorIndex := 6, attributes := #[] }, { accessFlags := 16409, nameIndex := 18, descriptorIndex := 6, attributes := #[] }, { accessFlags := 18, nameIndex := 40, descriptorIndex := 41, attributes := #[] }, { accessFlags := 18, nameIndex := 44, descriptorIndex := 45, attributes := #[] }, { accessFlags := 4122, nameIndex := 21, descriptorIndex := 22, attributes := #[] }])
  fields := #[{ name := "MEMBER", type := (.object "com/example/shelfmark/shelfmark/Role"), accessFlags := 16409, slot := 0, constantValue := 0 }, { name := "EDITOR", type := (.object "com/example/shelfmark/shelfmark/Role"), accessFlags := 16409, slot := 1, constantValue := 0 }, { name := "ADMIN", type := (.object "com/example/shelfmark/shelfmark/Role"), accessFlags := 16409, slot := 2, constantValue := 0 }, { name := "MANAGER", type := (.object "com/example/shelfmark/shelfmark/Role"), accessFlags := 16409, slot := 3, constantValue := 0 }, { name := "MODERATOR", type := (.object "com/example/shelfmark/shelfmark/Role"), accessFlags := 16409, slot := 4, constantValue := 0 }, { name := "tokenName", type := (.object "java/lang/String"), accessFlags := 18, slot := 3, constantValue := 0 }, { name := "rank", type := .int, accessFlags := 18, slot := 4, constantValue := 0 }, { name := "$VALUES", type := (.array (.object "com/example/shelfmark/shelfmark/Role")), accessFlags := 4122, slot := 5, constantValue := 0 }]
  methods := #[k6m0]
  instanceTypes := #[(.object "java/lang/String"), .int, .int, (.object "java/lang/String"), .int]
  staticTypes := #[(.object "com/example/shelfmark/shelfmark/Role"), (.object "com/example/shelfmark/shelfmark/Role"), (.object "com/example/shelfmark/shelfmark/Role"), (.object "com/example/shelfmark/shelfmark/Role"), (.object "com/example/shelfmark/shelfmark/Role"), (.array (.object "com/example/shelfmark/shelfmark/Role"))]
  resolved := Array.replicate 104 none
  statics := some 0 }

def pool7 : Array CpInfo := pool [(1, u "java/lang/Cloneable"), (0, .class_ 1), (0, u "java/lang/Object"), (0, .class_ 3)] 3

/-- java/lang/Cloneable -/
def k7 : Class := { plain "java/lang/Cloneable" (some 0) with
  accessFlags := 1537
  interfaces := #[]
  cf := some (fileOf pool7 2 #[] #[] 1537 4 #[] #[])
  fields := #[]
  methods := #[]
  instanceTypes := #[]
  staticTypes := #[]
  resolved := Array.replicate 8 none
  statics := none }

/-- the primitive byte -/
def k8 : Class := { plain "byte" none with kind := .primitive 'B', accessFlags := 0x411 }
/-- [B -/
def k9 : Class := { plain "[B" (some 0) with kind := .array 8 .byte, interfaces := #[7, 4], accessFlags := 1041 }

/-- the primitive int -/
def k10 : Class := { plain "int" none with kind := .primitive 'I', accessFlags := 0x411 }
/-- [I -/
def k11 : Class := { plain "[I" (some 0) with kind := .array 10 .int, interfaces := #[7, 4], accessFlags := 1041 }

def heap : Heap := #[{ cls := 6, slots := #[.ref 1, .ref 2, .ref 3, .ref 4, .ref 5, .null], vm := .statics 6 },
  { cls := 6, slots := #[.null, .int 0, .int 0, .null, .int 1], vm := .none },
  { cls := 6, slots := #[.null, .int 1, .int 0, .null, .int 2], vm := .none },
  { cls := 6, slots := #[.null, .int 2, .int 0, .null, .int 3], vm := .none },
  { cls := 6, slots := #[.null, .int 3, .int 0, .null, .int 4], vm := .none },
  { cls := 6, slots := #[.null, .int 4, .int 0, .null, .int 0], vm := .none }]
def classes : Array Class := #[k0, k1, k2, k3, k4, k5, k6, k7, k8, k9, k10, k11]
def interned : List (Array UInt16 × Addr) := []
def slotsUsed : Nat := 31
def theMethod : MethodId := ⟨1, 2⟩
def args0 : Array Value := #[.int 7, .int 3]
def aboutOver (below : List Frame) : State where
  vm := { classes := classes, interned := interned.toArray }
  heap := heap
  slotsUsed := slotsUsed
  threads := #[{ frames := .invoking theMethod args0 :: below }]
def below0 : List Frame := [.native { method := ⟨0, 0⟩, args := #[] }]
def about1 : State := aboutOver below0
def p0 : Program := .bare "" "" ""
def e0 : Env := launch0.env 0 0 0
theorem w_frames : about1.frames = Frame.invoking theMethod args0 :: below0 := rfl
set_option maxRecDepth 65536 in
theorem w_args : argsFit about1.vm theMethod args0 = true := by decide +kernel
set_option maxRecDepth 65536 in
theorem w_heap : heapFits about1 = true := by decide +kernel
set_option maxRecDepth 65536 in
theorem w_runnable : about1.curStatus? = some .runnable := by decide +kernel
set_option maxRecDepth 65536 in
theorem w_alone : about1.alone = true := by decide +kernel
set_option maxRecDepth 65536 in
theorem w_named : about1.methodNamed? x = some theMethod := by decide +kernel
set_option maxRecDepth 65536 in
theorem w_hears : about1.hears theMethod below0 = true := by decide +kernel
set_option maxRecDepth 65536 in
theorem w_ripe : about1.ripe theMethod args0 below0 = true := by decide +kernel
theorem w_running : about1.status = .running := rfl
set_option maxRecDepth 65536 in
theorem w_room : about1.hasRoom e0.platform room_1 = true :=
  launch0.hasRoom_least _ room_1 (by decide +kernel) (by decide +kernel) (by decide +kernel) (by decide +kernel) (by decide +kernel) (by decide +kernel)
theorem allAtoms_all (ts : List Jvm.Cond) (a : Array Jvm.Value) (st : Jvm.State) : (allAtoms ts).before a st = ts.all (fun c => c.before a st) := by
  induction ts with
  | nil => rfl
  | cons c t ih =>
    show (Jvm.Cond.and c (allAtoms t)).before a st = _
    rw [Jvm.Cond.before_and, ih, List.all_cons]
def words1 : List Jvm.Cond := Jvm.Cond.code x code maxLocals ret :: tables_1
/-- a 'code' word, met by the world's own term for the bytes: nothing is compared byte by byte -/
theorem code_word {y : MethodName} {bytes : ByteArray} {mx : Nat} {rt : Option FieldType} {a : Array Value} {s : State} {m : MethodId} {meth : Method} {c : Code} (h1 : s.methodNamed? y = some m) (h2 : s.vm.method? m = some meth) (h3 : meth.code = some c) (h4 : c.code = bytes)
    (h5 : (c.maxLocals == mx && c.exceptionTable.isEmpty && decide (c.maxStack ≤ mostOperands) && decide (meth.sig.returnType = rt) && !meth.locks && decide (parseMethodDescriptor y.desc = some meth.sig)) = true) : (Jvm.Cond.code y bytes mx rt).before a s = true := by
  simp only [Bool.and_eq_true, beq_iff_eq, Bool.not_eq_true', decide_eq_true_eq] at h5
  obtain ⟨⟨⟨⟨⟨g1, g2⟩, g3⟩, g4⟩, g5⟩, g6⟩ := h5
  simp [Cond.before, Cond.holds, Cond.value, h1, h2, h3, h4, g1, g2, g3, g4, g5, g6]
def isCode : Jvm.Cond → Bool
  | .code _ _ _ _ => true
  | _ => false
theorem all_split {L : List Jvm.Cond} {P : Jvm.Cond → Bool} (h1 : L.all (fun c => isCode c || P c) = true) (h2 : ∀ c ∈ L.filter isCode, P c = true) : L.all P = true := by
  refine List.all_eq_true.mpr fun c hc => ?_
  have h := List.all_eq_true.mp h1 c hc
  rcases Bool.eq_false_or_eq_true (isCode c) with hi | hi
  · exact h2 c (List.mem_filter.mpr ⟨hc, hi⟩)
  · simpa [hi] using h
set_option maxRecDepth 65536 in
theorem w_c0 : (Jvm.Cond.code x code maxLocals ret).before args0 about1 = true := code_word (m := ⟨1, 2⟩) (meth := k1m2) (c := k1c2) (by decide +kernel) rfl rfl rfl (by decide +kernel)
set_option maxRecDepth 65536 in
theorem w_c1 : (Jvm.Cond.code ({ cls := "com/example/shelfmark/shelfmark/RoleIncludesPinLaw", name := "pick", desc := "(I)Lcom/example/shelfmark/shelfmark/Role;" } : Jvm.MethodName) method_2_code (1 : Nat) (Option.some (Jvm.ClassFile.FieldType.object "com/example/shelfmark/shelfmark/Role"))).before args0 about1 = true := code_word (m := ⟨1, 1⟩) (meth := k1m1) (c := k1c1) (by decide +kernel) rfl rfl rfl (by decide +kernel)
set_option maxRecDepth 65536 in
theorem w_c2 : (Jvm.Cond.code ({ cls := "com/example/shelfmark/shelfmark/Role", name := "includes", desc := "(Lcom/example/shelfmark/shelfmark/Role;)Z" } : Jvm.MethodName) prog_11_method_6_code (2 : Nat) (Option.some Jvm.ClassFile.FieldType.boolean)).before args0 about1 = true := code_word (m := ⟨6, 0⟩) (meth := k6m0) (c := k6c0) (by decide +kernel) rfl rfl rfl (by decide +kernel)
def codes1 : List Jvm.Cond := [Jvm.Cond.code x code maxLocals ret, Jvm.Cond.code ({ cls := "com/example/shelfmark/shelfmark/RoleIncludesPinLaw", name := "pick", desc := "(I)Lcom/example/shelfmark/shelfmark/Role;" } : Jvm.MethodName) method_2_code (1 : Nat) (Option.some (Jvm.ClassFile.FieldType.object "com/example/shelfmark/shelfmark/Role")), Jvm.Cond.code ({ cls := "com/example/shelfmark/shelfmark/Role", name := "includes", desc := "(Lcom/example/shelfmark/shelfmark/Role;)Z" } : Jvm.MethodName) prog_11_method_6_code (2 : Nat) (Option.some Jvm.ClassFile.FieldType.boolean)]
set_option maxRecDepth 65536 in
theorem codes_eq : words1.filter isCode = codes1 := rfl
theorem w_codes : ∀ c ∈ words1.filter isCode, c.before args0 about1 = true := by
  rw [codes_eq]
  intro c hc
  simp only [codes1, List.mem_cons, List.not_mem_nil, or_false] at hc
  rcases hc with rfl | rfl | rfl
  · exact w_c0
  · exact w_c1
  · exact w_c2
set_option maxRecDepth 65536 in
theorem w_t1 : words1.all (fun c => isCode c || c.before args0 about1) = true := by decide +kernel
theorem w_tables : (allAtoms (Jvm.Cond.code x code maxLocals ret :: tables_1)).before args0 about1 = true := by
  rw [allAtoms_all]
  show words1.all (fun c => c.before args0 about1) = true
  refine all_split ?_ w_codes
  rw [w_t1]
set_option maxRecDepth 65536 in
theorem w_case : (Jvm.Cond.and given_1 narrow_1).before args0 about1 = true := by decide +kernel
theorem w_applies : (headSpec (Jvm.Cond.code x code maxLocals ret :: tables_1) room_1).applies x e0.platform about1 = true :=
  (Spec.applies_iff w_frames).mpr ⟨w_running, w_runnable, w_alone, w_named, w_hears, w_ripe, w_room, w_tables⟩
theorem atStart : AtStart classFile x code maxLocals ret World_1 tables_1 room_1 Calls_1 rest_1 Pre_1 launch0 p0 e0 about1 theMethod args0 below0 :=
  ⟨lists_1, trivial, launch0.admits_env _ _ _, launch0.least_env, fairChoices_fair.cas, fairChoices_fair.clock, w_frames, w_args, w_heap, w_applies, trivial, trivial, w_case⟩
end start1
theorem witness_1 : WitnessClaimed_1 := ⟨start1.p0, start1.e0, start1.about1, start1.theMethod, start1.args0, start1.below0, start1.atStart⟩
end Jvm.Pilot.@@N@@
