import JvmDerived
import JvmDerived.Pilot.@@N@@Statement
import JvmDerived.Pilot.@@N@@Code
set_option linter.unusedVariables false
set_option linter.unusedSimpArgs false
@@BLOCK:NumsL.lean.txt@@
namespace Jvm.Pilot.@@N@@
open Jvm Jvm.ClassFile Sem Op Lib Jvm.Free Jvm.Stand Jvm.LawKit Jvm.RoadKit Bundle Jvm.Pilot.@@N@@.Jvm.D
def QR (r : Value) (h0 : Heap) (n0 : Nat) (v : Option Value) (h : Heap) (L : List Loc) : Prop := v = some r ∧ Fr n0 L ∧ h = h0
def RO (l : Launch) (Z : State) (y : MethodName) (bytes : ByteArray) (ml : Nat) (rt : Option FieldType) (R : Room) (as : Array Value) (h0 : Heap) (n0 : Nat) (r : Value) : Prop :=
  ∀ ws : List Jvm.Cond, MetFree l y (head1 (Jvm.Cond.code y bytes ml rt :: ws) R) (fun a U => a = as ∧ Z.Warmed39 U.vm ∧ U.heap = h0) (fun _ _ _ _ _ => True) (fun _ U o U' => ∃ v L, o = .returned v ∧ QR r h0 n0 v U'.heap L ∧ FrameEnd U o U' L R.cells R.slots)
theorem own_eq_int {t : Term} {n : Int32} {args : Array Value} {Z : State} (h : (Jvm.Cond.eq t (.int n)).value args Z none Z [] = some true) : t.eval args Z none [] Z = some (.int n) := by
  have hn : (Term.int n).eval args Z none [] Z = some (.int n) := rfl
  simp only [Cond.value, hn] at h
  cases ht : t.eval args Z none [] Z with
  | none => simp [ht] at h
  | some x => cases x <;> simp [ht] at h ⊢; exact h
theorem own_eq_ref {t u : Term} {a : Addr} {args : Array Value} {Z : State} (h : (Jvm.Cond.eq t u).value args Z none Z [] = some true) (hu : u.eval args Z none [] Z = some (.ref a)) : t.eval args Z none [] Z = some (.ref a) := by
  simp only [Cond.value, hu] at h
  cases ht : t.eval args Z none [] Z with
  | none => simp [ht] at h
  | some x => cases x <;> simp [ht] at h ⊢; exact h
theorem own_ne {Z : State} {a b : Addr} {C n d : String} {u v : Value} (h1 : Z.fieldOf? a C n d = some u) (h2 : Z.fieldOf? b C n d = some v) (h : u ≠ v) : ¬ (a = b) := fun e => by
  subst e; rw [h1] at h2; exact h (Option.some.inj h2)
theorem own_sel (k n : Int32) (hn : 0 < n.toInt) : 0 ≤ ((k &&& (2147483647 : Int32)) % n).toInt ∧ ((k &&& (2147483647 : Int32)) % n).toInt < n.toInt := by
  have e1 : (k &&& (2147483647 : Int32)).toInt = k.toInt % 2 ^ 31 := Jvm.Kit.i32_mask k 2147483647 (k := 31) (by decide) (by decide)
  have e0 : 0 ≤ (k &&& (2147483647 : Int32)).toInt := by rw [e1]; omega
  have e2 := Jvm.Kit.i32_rem_nonneg (x := (k &&& (2147483647 : Int32))) (y := n) e0
  rw [e2]
  exact ⟨Int.emod_nonneg _ (by omega), Int.emod_lt_of_pos _ hn⟩
theorem own_sel3 (k : Int32) : (k &&& (2147483647 : Int32)) % (3 : Int32) = 0 ∨ (k &&& (2147483647 : Int32)) % (3 : Int32) = 1 ∨ (k &&& (2147483647 : Int32)) % (3 : Int32) = 2 := by
  have h := own_sel k 3 (by decide)
  generalize (k &&& (2147483647 : Int32)) % (3 : Int32) = z at *
  have h3 : (3 : Int32).toInt = 3 := rfl
  rw [h3] at h
  have q : z.toInt = 0 ∨ z.toInt = 1 ∨ z.toInt = 2 := by omega
  rcases q with q | q | q
  · exact Or.inl (Int32.toInt_inj.mp q)
  · exact Or.inr (Or.inl (Int32.toInt_inj.mp q))
  · exact Or.inr (Or.inr (Int32.toInt_inj.mp q))
theorem d1_0 : decode prog_30_method_6_code 0 = .ok (.aload_n 0, 1) := by decide +kernel
theorem d1_1 : decode prog_30_method_6_code 1 = .ok (.getfield 36, 3) := by decide +kernel
theorem d1_4 : decode prog_30_method_6_code 4 = .ok (.ifnull 7, 3) := by decide +kernel
theorem d1_7 : decode prog_30_method_6_code 7 = .ok (.iconst 1, 1) := by decide +kernel
theorem d1_8 : decode prog_30_method_6_code 8 = .ok (.goto 4, 3) := by decide +kernel
theorem d1_12 : decode prog_30_method_6_code 12 = .ok (.ireturn, 1) := by decide +kernel
theorem pn_1 : plainName "com/example/kazi/kazi/model/Fire$Outcome" = true := by first | (simp [plainName, overriddenIn]; done) | decide +kernel
theorem ef_1 (m : MethodId) (x0 : Addr) : entryFrame m #[(.ref x0)] 1 = mkF m 0 #[.val (.ref x0)] [] := by first | (simp [entryFrame, mkF, argsToLocals, Value.category]; done) | rfl
set_option maxRecDepth 65536 in
set_option maxHeartbeats 40000000 in
theorem audited_1 (l : Launch) (Z : State) (a0 : Array Value) (hw : ∀ d ∈ tables_1, d.before a0 Z = true) (a oe : Addr) (h0 : Heap) (n0 : Nat) (Z0 : n0 ≤ h0.size) (F_endEvent_a : Fld Z h0 a "com/example/kazi/kazi/model/Fire$Outcome" "endEvent" "Ljava/lang/String;" (.ref oe)) :
    RO l Z (⟨"com/example/kazi/kazi/model/Fire$Outcome", "audited", "()Z"⟩ : MethodName) prog_30_method_6_code 1 (some .boolean) ({ frames := 0, cells := 0, slots := 0, locals := 0 } : Room) #[(.ref a)] h0 n0 (.int (1 : Int32)) := by
  intro ws
  refine MetFree.of_bodySF (plainFor_of_name pn_1) hisR ?_
  intro p e s m args below meth c s₁ Bd hml0 hP hK
  obtain ⟨rfl, hZ, hh⟩ := hP
  have hx := Bd.exec
  have hby := Bd.bytes
  have hml : c.maxLocals = 1 := hml0
  have hown : s.vm.findClass "com/example/kazi/kazi/model/Fire$Outcome" = some m.cls := findClass_of_methodNamed Bd.named
  have hnm := (name_of_methodNamed Bd.named Bd.method).1
  have X0 : Stand p l e ({ frames := 0, cells := 0, slots := 0, locals := 0 } : Room) s m #[(.ref a)] below meth c s₁ [] 0 0 := Stand.of_body Bd
  have e0 : s₁.heap = h0 := by rw [← hh, Bd.state]; rfl
  have N0 := Fr.nil n0
  have pre0 : ∀ t_, Steps p.tables e below (s₁.setTop (mkF m 0 #[.val (.ref a)] [])) t_ → Steps p.tables e below (s₁.setTop (entryFrame m #[(.ref a)] 1)) t_ := fun t_ k_ => castTop (ef_1 m a) k_
  obtain ⟨T1, X1, e1, st1⟩ := getF X0 hx hZ hown (host := "") (Or.inl (hw _ (List.mem_of_getElem? (i := 9) rfl))) Via.refl e0 F_endEvent_a (g := (mkF m 1 #[.val (.ref a)] [(.ref a)])) rfl rfl (hb hby d1_1)
  obtain ⟨fs, hr, hrun, hended, hW, hsame⟩ := X1.leave (v := some (.int (1 : Int32))) (fun h => by rw [Bd.returns] at h; cases h)
  refine ⟨_, _, pre0 _ ?_, hrun, hended, _, _, rfl, ?_, ⟨_, rfl⟩, hW, hsame.mono (by decide) (by decide)⟩
  · show Steps p.tables e below (s₁.setTop (mkF m 0 #[.val (.ref a)] [])) _
    refine XS.aloadN X0.here hx rfl (hb hby d1_0) rfl rfl ?_
    show Steps p.tables e below (s₁.setTop (mkF m 1 #[.val (.ref a)] [(.ref a)])) _
    refine st1 _ ?_
    show Steps p.tables e below (T1.setTop (mkF m 4 #[.val (.ref a)] [(.ref oe)])) _
    refine XS.ifnullNo X1.here hx rfl (hb hby d1_4) rfl ?_
    show Steps p.tables e below (T1.setTop (mkF m 7 #[.val (.ref a)] [])) _
    refine XS.iconst X1.here hx rfl (hb hby d1_7) ?_
    show Steps p.tables e below (T1.setTop (mkF m 8 #[.val (.ref a)] [(.int (1 : Int32))])) _
    refine XS.goto X1.here hx rfl (pc0 := 8) (pc' := 12) rfl (hb hby d1_8) (by decide) (by decide) ?_
    show Steps p.tables e below (T1.setTop (mkF m 12 #[.val (.ref a)] [(.int (1 : Int32))])) _
    exact retN X1 hx (t := .boolean) Bd.returns (by simp) (hb hby d1_12) hr
  · exact ⟨rfl, N0, e1⟩
theorem d1_11 : decode prog_30_method_6_code 11 = .ok (.iconst 0, 1) := by decide +kernel
set_option maxRecDepth 65536 in
set_option maxHeartbeats 40000000 in
theorem audited_0 (l : Launch) (Z : State) (a0 : Array Value) (hw : ∀ d ∈ tables_1, d.before a0 Z = true) (a : Addr) (h0 : Heap) (n0 : Nat) (Z0 : n0 ≤ h0.size) (F_endEvent_a : Fld Z h0 a "com/example/kazi/kazi/model/Fire$Outcome" "endEvent" "Ljava/lang/String;" .null) :
    RO l Z (⟨"com/example/kazi/kazi/model/Fire$Outcome", "audited", "()Z"⟩ : MethodName) prog_30_method_6_code 1 (some .boolean) ({ frames := 0, cells := 0, slots := 0, locals := 0 } : Room) #[(.ref a)] h0 n0 (.int (0 : Int32)) := by
  intro ws
  refine MetFree.of_bodySF (plainFor_of_name pn_1) hisR ?_
  intro p e s m args below meth c s₁ Bd hml0 hP hK
  obtain ⟨rfl, hZ, hh⟩ := hP
  have hx := Bd.exec
  have hby := Bd.bytes
  have hml : c.maxLocals = 1 := hml0
  have hown : s.vm.findClass "com/example/kazi/kazi/model/Fire$Outcome" = some m.cls := findClass_of_methodNamed Bd.named
  have hnm := (name_of_methodNamed Bd.named Bd.method).1
  have X0 : Stand p l e ({ frames := 0, cells := 0, slots := 0, locals := 0 } : Room) s m #[(.ref a)] below meth c s₁ [] 0 0 := Stand.of_body Bd
  have e0 : s₁.heap = h0 := by rw [← hh, Bd.state]; rfl
  have N0 := Fr.nil n0
  have pre0 : ∀ t_, Steps p.tables e below (s₁.setTop (mkF m 0 #[.val (.ref a)] [])) t_ → Steps p.tables e below (s₁.setTop (entryFrame m #[(.ref a)] 1)) t_ := fun t_ k_ => castTop (ef_1 m a) k_
  obtain ⟨T1, X1, e1, st1⟩ := getF X0 hx hZ hown (host := "") (Or.inl (hw _ (List.mem_of_getElem? (i := 9) rfl))) Via.refl e0 F_endEvent_a (g := (mkF m 1 #[.val (.ref a)] [(.ref a)])) rfl rfl (hb hby d1_1)
  obtain ⟨fs, hr, hrun, hended, hW, hsame⟩ := X1.leave (v := some (.int (0 : Int32))) (fun h => by rw [Bd.returns] at h; cases h)
  refine ⟨_, _, pre0 _ ?_, hrun, hended, _, _, rfl, ?_, ⟨_, rfl⟩, hW, hsame.mono (by decide) (by decide)⟩
  · show Steps p.tables e below (s₁.setTop (mkF m 0 #[.val (.ref a)] [])) _
    refine XS.aloadN X0.here hx rfl (hb hby d1_0) rfl rfl ?_
    show Steps p.tables e below (s₁.setTop (mkF m 1 #[.val (.ref a)] [(.ref a)])) _
    refine st1 _ ?_
    show Steps p.tables e below (T1.setTop (mkF m 4 #[.val (.ref a)] [.null])) _
    refine XS.ifnullYes X1.here hx rfl (pc0 := 4) (pc' := 11) rfl (hb hby d1_4) rfl (by decide) (by decide) ?_
    show Steps p.tables e below (T1.setTop (mkF m 11 #[.val (.ref a)] [])) _
    refine XS.iconst X1.here hx rfl (hb hby d1_11) ?_
    show Steps p.tables e below (T1.setTop (mkF m 12 #[.val (.ref a)] [(.int (0 : Int32))])) _
    exact retN X1 hx (t := .boolean) Bd.returns (by simp) (hb hby d1_12) hr
  · exact ⟨rfl, N0, e1⟩
theorem d2_0 : decode prog_30_method_5_code 0 = .ok (.aload_n 0, 1) := by decide +kernel
theorem d2_1 : decode prog_30_method_5_code 1 = .ok (.getfield 36, 3) := by decide +kernel
theorem d2_4 : decode prog_30_method_5_code 4 = .ok (.areturn, 1) := by decide +kernel
theorem pn_2 : plainName "com/example/kazi/kazi/model/Fire$Outcome" = true := by first | (simp [plainName, overriddenIn]; done) | decide +kernel
theorem ef_2 (m : MethodId) (x0 : Addr) : entryFrame m #[(.ref x0)] 1 = mkF m 0 #[.val (.ref x0)] [] := by first | (simp [entryFrame, mkF, argsToLocals, Value.category]; done) | rfl
set_option maxRecDepth 65536 in
set_option maxHeartbeats 40000000 in
theorem endEvent_1 (l : Launch) (Z : State) (a0 : Array Value) (hw : ∀ d ∈ tables_1, d.before a0 Z = true) (a oe : Addr) (h0 : Heap) (n0 : Nat) (Z0 : n0 ≤ h0.size) (F_endEvent_a : Fld Z h0 a "com/example/kazi/kazi/model/Fire$Outcome" "endEvent" "Ljava/lang/String;" (.ref oe)) :
    RO l Z (⟨"com/example/kazi/kazi/model/Fire$Outcome", "endEvent", "()Ljava/lang/String;"⟩ : MethodName) prog_30_method_5_code 1 (some (.object "java/lang/String")) ({ frames := 0, cells := 0, slots := 0, locals := 0 } : Room) #[(.ref a)] h0 n0 (.ref oe) := by
  intro ws
  refine MetFree.of_bodySF (plainFor_of_name pn_2) hisR ?_
  intro p e s m args below meth c s₁ Bd hml0 hP hK
  obtain ⟨rfl, hZ, hh⟩ := hP
  have hx := Bd.exec
  have hby := Bd.bytes
  have hml : c.maxLocals = 1 := hml0
  have hown : s.vm.findClass "com/example/kazi/kazi/model/Fire$Outcome" = some m.cls := findClass_of_methodNamed Bd.named
  have hnm := (name_of_methodNamed Bd.named Bd.method).1
  have X0 : Stand p l e ({ frames := 0, cells := 0, slots := 0, locals := 0 } : Room) s m #[(.ref a)] below meth c s₁ [] 0 0 := Stand.of_body Bd
  have e0 : s₁.heap = h0 := by rw [← hh, Bd.state]; rfl
  have N0 := Fr.nil n0
  have pre0 : ∀ t_, Steps p.tables e below (s₁.setTop (mkF m 0 #[.val (.ref a)] [])) t_ → Steps p.tables e below (s₁.setTop (entryFrame m #[(.ref a)] 1)) t_ := fun t_ k_ => castTop (ef_2 m a) k_
  obtain ⟨T1, X1, e1, st1⟩ := getF X0 hx hZ hown (host := "") (Or.inl (hw _ (List.mem_of_getElem? (i := 9) rfl))) Via.refl e0 F_endEvent_a (g := (mkF m 1 #[.val (.ref a)] [(.ref a)])) rfl rfl (hb hby d2_1)
  obtain ⟨fs, hr, hrun, hended, hW, hsame⟩ := X1.leave (v := some (.ref oe)) (fun h => by rw [Bd.returns] at h; cases h)
  refine ⟨_, _, pre0 _ ?_, hrun, hended, _, _, rfl, ?_, ⟨_, rfl⟩, hW, hsame.mono (by decide) (by decide)⟩
  · show Steps p.tables e below (s₁.setTop (mkF m 0 #[.val (.ref a)] [])) _
    refine XS.aloadN X0.here hx rfl (hb hby d2_0) rfl rfl ?_
    show Steps p.tables e below (s₁.setTop (mkF m 1 #[.val (.ref a)] [(.ref a)])) _
    refine st1 _ ?_
    show Steps p.tables e below (T1.setTop (mkF m 4 #[.val (.ref a)] [(.ref oe)])) _
    jvm_step X1.here [X1.here.top, hx, (hb hby d2_4), X1.method', Bd.returns, Value.isRef, FieldType.isReference]
    first | (intro acts; rw [hr _ acts rfl rfl rfl]) | rw [hr _ _ rfl rfl rfl]
    exact Steps.refl _
  · exact ⟨rfl, N0, e1⟩
set_option maxRecDepth 65536 in
set_option maxHeartbeats 40000000 in
theorem endEvent_0 (l : Launch) (Z : State) (a0 : Array Value) (hw : ∀ d ∈ tables_1, d.before a0 Z = true) (a : Addr) (h0 : Heap) (n0 : Nat) (Z0 : n0 ≤ h0.size) (F_endEvent_a : Fld Z h0 a "com/example/kazi/kazi/model/Fire$Outcome" "endEvent" "Ljava/lang/String;" .null) :
    RO l Z (⟨"com/example/kazi/kazi/model/Fire$Outcome", "endEvent", "()Ljava/lang/String;"⟩ : MethodName) prog_30_method_5_code 1 (some (.object "java/lang/String")) ({ frames := 0, cells := 0, slots := 0, locals := 0 } : Room) #[(.ref a)] h0 n0 .null := by
  intro ws
  refine MetFree.of_bodySF (plainFor_of_name pn_2) hisR ?_
  intro p e s m args below meth c s₁ Bd hml0 hP hK
  obtain ⟨rfl, hZ, hh⟩ := hP
  have hx := Bd.exec
  have hby := Bd.bytes
  have hml : c.maxLocals = 1 := hml0
  have hown : s.vm.findClass "com/example/kazi/kazi/model/Fire$Outcome" = some m.cls := findClass_of_methodNamed Bd.named
  have hnm := (name_of_methodNamed Bd.named Bd.method).1
  have X0 : Stand p l e ({ frames := 0, cells := 0, slots := 0, locals := 0 } : Room) s m #[(.ref a)] below meth c s₁ [] 0 0 := Stand.of_body Bd
  have e0 : s₁.heap = h0 := by rw [← hh, Bd.state]; rfl
  have N0 := Fr.nil n0
  have pre0 : ∀ t_, Steps p.tables e below (s₁.setTop (mkF m 0 #[.val (.ref a)] [])) t_ → Steps p.tables e below (s₁.setTop (entryFrame m #[(.ref a)] 1)) t_ := fun t_ k_ => castTop (ef_2 m a) k_
  obtain ⟨T1, X1, e1, st1⟩ := getF X0 hx hZ hown (host := "") (Or.inl (hw _ (List.mem_of_getElem? (i := 9) rfl))) Via.refl e0 F_endEvent_a (g := (mkF m 1 #[.val (.ref a)] [(.ref a)])) rfl rfl (hb hby d2_1)
  obtain ⟨fs, hr, hrun, hended, hW, hsame⟩ := X1.leave (v := some .null) (fun h => by rw [Bd.returns] at h; cases h)
  refine ⟨_, _, pre0 _ ?_, hrun, hended, _, _, rfl, ?_, ⟨_, rfl⟩, hW, hsame.mono (by decide) (by decide)⟩
  · show Steps p.tables e below (s₁.setTop (mkF m 0 #[.val (.ref a)] [])) _
    refine XS.aloadN X0.here hx rfl (hb hby d2_0) rfl rfl ?_
    show Steps p.tables e below (s₁.setTop (mkF m 1 #[.val (.ref a)] [(.ref a)])) _
    refine st1 _ ?_
    show Steps p.tables e below (T1.setTop (mkF m 4 #[.val (.ref a)] [.null])) _
    jvm_step X1.here [X1.here.top, hx, (hb hby d2_4), X1.method', Bd.returns, Value.isRef, FieldType.isReference]
    first | (intro acts; rw [hr _ acts rfl rfl rfl]) | rw [hr _ _ rfl rfl rfl]
    exact Steps.refl _
  · exact ⟨rfl, N0, e1⟩
theorem pd_ocZ : parseMethodDescriptor "()Z" = some ⟨[], some .boolean⟩ := by decide +kernel
theorem pd_ocLjava_lang_String_ : parseMethodDescriptor "()Ljava/lang/String;" = some ⟨[], some (.object "java/lang/String")⟩ := by decide +kernel
theorem pn_0 : plainName "com/example/kazi/kazi/model/OutcomeAuditedPinLaw" = true := by first | (simp [plainName, overriddenIn]; done) | decide +kernel
theorem ef_0 (m : MethodId) (x0 : Int32) : entryFrame m #[(.int x0)] maxLocals = mkF m 0 #[.val (.int x0), .unset, .unset, .unset, .unset, .unset] [] := by first | (simp [entryFrame, mkF, argsToLocals, Value.category, maxLocals]; done) | rfl
set_option maxRecDepth 65536 in
set_option maxHeartbeats 40000000 in
theorem law_0 (l : Launch) (Z : State) (a0 : Array Value) (hw : ∀ d ∈ tables_1, d.before a0 Z = true) (k : Int32) (oc on of_ oe : Addr) (h0 : Heap) (n0 : Nat) (Z0 : n0 ≤ h0.size) (S_COMPLETED : Sta Z h0 "com/example/kazi/kazi/model/Fire$Outcome" "COMPLETED" "Lcom/example/kazi/kazi/model/Fire$Outcome;" (.ref oc)) (F_endEvent_oc : Fld Z h0 oc "com/example/kazi/kazi/model/Fire$Outcome" "endEvent" "Ljava/lang/String;" (.ref oe)) (E_oc : Exa Z h0 oc "com/example/kazi/kazi/model/Fire$Outcome") (hc8 : ((k &&& (2147483647 : Int32)) % (3 : Int32)) = (0 : Int32)) (hc36 : ¬ (((k &&& (2147483647 : Int32)) % (3 : Int32)) = (1 : Int32))) :
    RO l Z x code maxLocals ret room_1 #[(.int k)] h0 n0 (.int (1 : Int32)) := by
  intro ws
  refine MetFree.of_bodySF (plainFor_of_name pn_0) hisR ?_
  intro p e s m args below meth c s₁ Bd hml0 hP hK
  obtain ⟨rfl, hZ, hh⟩ := hP
  have hx := Bd.exec
  have hby := Bd.bytes
  have hml : c.maxLocals = 6 := hml0
  have hown : s.vm.findClass "com/example/kazi/kazi/model/OutcomeAuditedPinLaw" = some m.cls := findClass_of_methodNamed Bd.named
  have hnm := (name_of_methodNamed Bd.named Bd.method).1
  have X0 : Stand p l e room_1 s m #[(.int k)] below meth c s₁ [] 0 0 := Stand.of_body Bd
  have e0 : s₁.heap = h0 := by rw [← hh, Bd.state]; rfl
  have N0 := Fr.nil n0
  have pre0 : ∀ t_, Steps p.tables e below (s₁.setTop (mkF m 0 #[.val (.int k), .unset, .unset, .unset, .unset, .unset] [])) t_ → Steps p.tables e below (s₁.setTop (entryFrame m #[(.int k)] maxLocals)) t_ := fun t_ k_ => castTop (ef_0 m k) k_
  obtain ⟨T1, X1, e1, st1⟩ := getS2 X0 hx hZ hown (host := "") (Or.inl (hw _ (List.mem_of_getElem? (i := 1) rfl))) Via.refl e0 S_COMPLETED (g := (mkF m 11 #[.val (.int k), .val (.int ((k &&& (2147483647 : Int32)) % (3 : Int32))), .unset, .unset, .unset, .unset] [])) rfl (hb hby at_11)
  obtain ⟨cq2, kq2, q2a, q2b, q2c⟩ := isOf hZ e1 E_oc
  obtain ⟨_, _, ⟨T2, L2, k2, n2⟩, -, X2, ⟨Lc2, hQ2, l2, y2, z2⟩, st2⟩ := X1.virtualBack hx (y := (⟨"com/example/kazi/kazi/model/Fire$Outcome", "audited", "()Z"⟩ : MethodName)) (z := (⟨"com/example/kazi/kazi/model/Fire$Outcome", "audited", "()Z"⟩ : MethodName)) hown (mvT hZ (hw _ (List.mem_of_getElem? (i := 4) rfl))) (mvT hZ (hw _ (List.mem_of_getElem? (i := 5) rfl))) (notFace_of_selects (args := #[]) (mvT hZ (hw _ (List.mem_of_getElem? (i := 7) rfl)))) (mvT hZ (hw _ (List.mem_of_getElem? (i := 7) rfl))) (mvT hZ (hw _ (List.mem_of_getElem? (i := 6) rfl))) (by decide) (backOf (W := 0) ((audited_1 l Z a0 hw oc oe h0 n0 Z0 F_endEvent_oc) []) hZ (hw _ (List.mem_of_getElem? (i := 8) rfl)) (hw _ (List.mem_of_getElem? (i := 2) rfl)) (by decide) (by decide)) q2a q2c (g := (mkF m 46 #[.val (.int k), .val (.int ((k &&& (2147483647 : Int32)) % (3 : Int32))), .val (.ref oc), .val (.int (1 : Int32)), .unset, .unset] [(.ref oc)])) rfl (by rw [hml]; rfl) (Steps.refl _) (argsL := []) (rest := []) (lenOf pd_ocZ rfl) rfl (by show 2 * 0 + _ ≤ _; exact Nat.le_of_eq rfl) (hb hby at_46) (fun _ _ => ⟨rfl, e1, (by decide : 0 + 0 ≤ _), (by decide : 0 + 0 ≤ _)⟩)
  dsimp only [Pt.U, Pt.locs, Pt.cells, Pt.slots] at X2 l2 y2 z2 st2 hQ2
  subst l2 y2 z2
  obtain ⟨rfl, N2q, e2⟩ := hQ2
  have N2 := Fr.app N0 N2q
  obtain ⟨cq3, kq3, q3a, q3b, q3c⟩ := isOf hZ e2 E_oc
  obtain ⟨_, _, ⟨T3, L3, k3, n3⟩, -, X3, ⟨Lc3, hQ3, l3, y3, z3⟩, st3⟩ := X2.virtualBack hx (y := (⟨"com/example/kazi/kazi/model/Fire$Outcome", "endEvent", "()Ljava/lang/String;"⟩ : MethodName)) (z := (⟨"com/example/kazi/kazi/model/Fire$Outcome", "endEvent", "()Ljava/lang/String;"⟩ : MethodName)) hown (mvT hZ (hw _ (List.mem_of_getElem? (i := 11) rfl))) (mvT hZ (hw _ (List.mem_of_getElem? (i := 12) rfl))) (notFace_of_selects (args := #[]) (mvT hZ (hw _ (List.mem_of_getElem? (i := 14) rfl)))) (mvT hZ (hw _ (List.mem_of_getElem? (i := 14) rfl))) (mvT hZ (hw _ (List.mem_of_getElem? (i := 13) rfl))) (by decide) (backOf (W := 0) ((endEvent_1 l Z a0 hw oc oe h0 n0 Z0 F_endEvent_oc) []) hZ (hw _ (List.mem_of_getElem? (i := 15) rfl)) (hw _ (List.mem_of_getElem? (i := 2) rfl)) (by decide) (by decide)) q3a q3c (g := (mkF m 52 #[.val (.int k), .val (.int ((k &&& (2147483647 : Int32)) % (3 : Int32))), .val (.ref oc), .val (.int (1 : Int32)), .val (.int (1 : Int32)), .unset] [(.ref oc)])) rfl (by rw [hml]; rfl) (Steps.refl _) (argsL := []) (rest := []) (lenOf pd_ocLjava_lang_String_ rfl) rfl (by show 2 * 0 + _ ≤ _; exact Nat.le_of_eq rfl) (hb hby at_52) (fun _ _ => ⟨rfl, e2, (by decide : 0 + 0 ≤ _), (by decide : 0 + 0 ≤ _)⟩)
  dsimp only [Pt.U, Pt.locs, Pt.cells, Pt.slots] at X3 l3 y3 z3 st3 hQ3
  subst l3 y3 z3
  obtain ⟨rfl, N3q, e3⟩ := hQ3
  have N3 := Fr.app N2 N3q
  obtain ⟨fs, hr, hrun, hended, hW, hsame⟩ := X3.leave (v := some (.int (1 : Int32))) (fun h => by rw [Bd.returns] at h; cases h)
  refine ⟨_, _, pre0 _ ?_, hrun, hended, _, _, rfl, ?_, ⟨_, rfl⟩, hW, hsame.mono (by decide) (by decide)⟩
  · show Steps p.tables e below (s₁.setTop (mkF m 0 #[.val (.int k), .unset, .unset, .unset, .unset, .unset] [])) _
    refine XS.iloadN X0.here hx rfl (hb hby at_0) rfl ?_
    show Steps p.tables e below (s₁.setTop (mkF m 1 #[.val (.int k), .unset, .unset, .unset, .unset, .unset] [(.int k)])) _
    refine X0.ldcInt hx hown (mvT hZ (hw _ (List.mem_of_getElem? (i := 0) rfl))) (g := (mkF m 1 #[.val (.int k), .unset, .unset, .unset, .unset, .unset] [(.int k)])) rfl (hb hby at_1) _ ?_
    show Steps p.tables e below (s₁.setTop (mkF m 3 #[.val (.int k), .unset, .unset, .unset, .unset, .unset] [(.int (2147483647 : Int32)), (.int k)])) _
    refine XS.iand X0.here hx rfl (hb hby at_3) rfl ?_
    show Steps p.tables e below (s₁.setTop (mkF m 4 #[.val (.int k), .unset, .unset, .unset, .unset, .unset] [(.int (k &&& (2147483647 : Int32)))])) _
    refine XS.iconst X0.here hx rfl (hb hby at_4) ?_
    show Steps p.tables e below (s₁.setTop (mkF m 5 #[.val (.int k), .unset, .unset, .unset, .unset, .unset] [(.int (3 : Int32)), (.int (k &&& (2147483647 : Int32)))])) _
    refine iremM X0 hx rfl (hb hby at_5) rfl (by decide) ?_
    show Steps p.tables e below (s₁.setTop (mkF m 6 #[.val (.int k), .unset, .unset, .unset, .unset, .unset] [(.int ((k &&& (2147483647 : Int32)) % (3 : Int32)))])) _
    refine XS.istoreN X0.here hx rfl (hb hby at_6) rfl (l' := #[.val (.int k), .val (.int ((k &&& (2147483647 : Int32)) % (3 : Int32))), .unset, .unset, .unset, .unset]) rfl ?_
    show Steps p.tables e below (s₁.setTop (mkF m 7 #[.val (.int k), .val (.int ((k &&& (2147483647 : Int32)) % (3 : Int32))), .unset, .unset, .unset, .unset] [])) _
    refine XS.iloadN X0.here hx rfl (hb hby at_7) rfl ?_
    show Steps p.tables e below (s₁.setTop (mkF m 8 #[.val (.int k), .val (.int ((k &&& (2147483647 : Int32)) % (3 : Int32))), .unset, .unset, .unset, .unset] [(.int ((k &&& (2147483647 : Int32)) % (3 : Int32)))])) _
    refine XS.ifNo X0.here hx rfl (hb hby at_8) rfl ((if0 _ _).trans (teq hc8).2) ?_
    show Steps p.tables e below (s₁.setTop (mkF m 11 #[.val (.int k), .val (.int ((k &&& (2147483647 : Int32)) % (3 : Int32))), .unset, .unset, .unset, .unset] [])) _
    refine st1 _ ?_
    show Steps p.tables e below (T1.setTop (mkF m 14 #[.val (.int k), .val (.int ((k &&& (2147483647 : Int32)) % (3 : Int32))), .unset, .unset, .unset, .unset] [(.ref oc)])) _
    refine XS.astoreN X1.here hx rfl (hb hby at_14) rfl rfl (l' := #[.val (.int k), .val (.int ((k &&& (2147483647 : Int32)) % (3 : Int32))), .val (.ref oc), .unset, .unset, .unset]) rfl ?_
    show Steps p.tables e below (T1.setTop (mkF m 15 #[.val (.int k), .val (.int ((k &&& (2147483647 : Int32)) % (3 : Int32))), .val (.ref oc), .unset, .unset, .unset] [])) _
    refine XS.goto X1.here hx rfl (pc0 := 15) (pc' := 34) rfl (hb hby at_15) (by decide) (by decide) ?_
    show Steps p.tables e below (T1.setTop (mkF m 34 #[.val (.int k), .val (.int ((k &&& (2147483647 : Int32)) % (3 : Int32))), .val (.ref oc), .unset, .unset, .unset] [])) _
    refine XS.iloadN X1.here hx rfl (hb hby at_34) rfl ?_
    show Steps p.tables e below (T1.setTop (mkF m 35 #[.val (.int k), .val (.int ((k &&& (2147483647 : Int32)) % (3 : Int32))), .val (.ref oc), .unset, .unset, .unset] [(.int ((k &&& (2147483647 : Int32)) % (3 : Int32)))])) _
    refine XS.iconst X1.here hx rfl (hb hby at_35) ?_
    show Steps p.tables e below (T1.setTop (mkF m 36 #[.val (.int k), .val (.int ((k &&& (2147483647 : Int32)) % (3 : Int32))), .val (.ref oc), .unset, .unset, .unset] [(.int (1 : Int32)), (.int ((k &&& (2147483647 : Int32)) % (3 : Int32)))])) _
    refine XS.icmpNo X1.here hx rfl (hb hby at_36) rfl (feq hc36).1 ?_
    show Steps p.tables e below (T1.setTop (mkF m 39 #[.val (.int k), .val (.int ((k &&& (2147483647 : Int32)) % (3 : Int32))), .val (.ref oc), .unset, .unset, .unset] [])) _
    refine XS.iconst X1.here hx rfl (hb hby at_39) ?_
    show Steps p.tables e below (T1.setTop (mkF m 40 #[.val (.int k), .val (.int ((k &&& (2147483647 : Int32)) % (3 : Int32))), .val (.ref oc), .unset, .unset, .unset] [(.int (1 : Int32))])) _
    refine XS.goto X1.here hx rfl (pc0 := 40) (pc' := 44) rfl (hb hby at_40) (by decide) (by decide) ?_
    show Steps p.tables e below (T1.setTop (mkF m 44 #[.val (.int k), .val (.int ((k &&& (2147483647 : Int32)) % (3 : Int32))), .val (.ref oc), .unset, .unset, .unset] [(.int (1 : Int32))])) _
    refine XS.istoreN X1.here hx rfl (hb hby at_44) rfl (l' := #[.val (.int k), .val (.int ((k &&& (2147483647 : Int32)) % (3 : Int32))), .val (.ref oc), .val (.int (1 : Int32)), .unset, .unset]) rfl ?_
    show Steps p.tables e below (T1.setTop (mkF m 45 #[.val (.int k), .val (.int ((k &&& (2147483647 : Int32)) % (3 : Int32))), .val (.ref oc), .val (.int (1 : Int32)), .unset, .unset] [])) _
    refine XS.aloadN X1.here hx rfl (hb hby at_45) rfl rfl ?_
    show Steps p.tables e below (T1.setTop (mkF m 46 #[.val (.int k), .val (.int ((k &&& (2147483647 : Int32)) % (3 : Int32))), .val (.ref oc), .val (.int (1 : Int32)), .unset, .unset] [(.ref oc)])) _
    refine st2.trans ?_
    show Steps p.tables e below (T2.setTop (mkF m 49 #[.val (.int k), .val (.int ((k &&& (2147483647 : Int32)) % (3 : Int32))), .val (.ref oc), .val (.int (1 : Int32)), .unset, .unset] [(.int (1 : Int32))])) _
    refine XS.istore X2.here hx rfl (hb hby at_49) rfl (l' := #[.val (.int k), .val (.int ((k &&& (2147483647 : Int32)) % (3 : Int32))), .val (.ref oc), .val (.int (1 : Int32)), .val (.int (1 : Int32)), .unset]) rfl ?_
    show Steps p.tables e below (T2.setTop (mkF m 51 #[.val (.int k), .val (.int ((k &&& (2147483647 : Int32)) % (3 : Int32))), .val (.ref oc), .val (.int (1 : Int32)), .val (.int (1 : Int32)), .unset] [])) _
    refine XS.aloadN X2.here hx rfl (hb hby at_51) rfl rfl ?_
    show Steps p.tables e below (T2.setTop (mkF m 52 #[.val (.int k), .val (.int ((k &&& (2147483647 : Int32)) % (3 : Int32))), .val (.ref oc), .val (.int (1 : Int32)), .val (.int (1 : Int32)), .unset] [(.ref oc)])) _
    refine st3.trans ?_
    show Steps p.tables e below (T3.setTop (mkF m 55 #[.val (.int k), .val (.int ((k &&& (2147483647 : Int32)) % (3 : Int32))), .val (.ref oc), .val (.int (1 : Int32)), .val (.int (1 : Int32)), .unset] [(.ref oe)])) _
    refine XS.ifnullNo X3.here hx rfl (hb hby at_55) rfl ?_
    show Steps p.tables e below (T3.setTop (mkF m 58 #[.val (.int k), .val (.int ((k &&& (2147483647 : Int32)) % (3 : Int32))), .val (.ref oc), .val (.int (1 : Int32)), .val (.int (1 : Int32)), .unset] [])) _
    refine XS.iconst X3.here hx rfl (hb hby at_58) ?_
    show Steps p.tables e below (T3.setTop (mkF m 59 #[.val (.int k), .val (.int ((k &&& (2147483647 : Int32)) % (3 : Int32))), .val (.ref oc), .val (.int (1 : Int32)), .val (.int (1 : Int32)), .unset] [(.int (1 : Int32))])) _
    refine XS.goto X3.here hx rfl (pc0 := 59) (pc' := 63) rfl (hb hby at_59) (by decide) (by decide) ?_
    show Steps p.tables e below (T3.setTop (mkF m 63 #[.val (.int k), .val (.int ((k &&& (2147483647 : Int32)) % (3 : Int32))), .val (.ref oc), .val (.int (1 : Int32)), .val (.int (1 : Int32)), .unset] [(.int (1 : Int32))])) _
    refine XS.istore X3.here hx rfl (hb hby at_63) rfl (l' := #[.val (.int k), .val (.int ((k &&& (2147483647 : Int32)) % (3 : Int32))), .val (.ref oc), .val (.int (1 : Int32)), .val (.int (1 : Int32)), .val (.int (1 : Int32))]) rfl ?_
    show Steps p.tables e below (T3.setTop (mkF m 65 #[.val (.int k), .val (.int ((k &&& (2147483647 : Int32)) % (3 : Int32))), .val (.ref oc), .val (.int (1 : Int32)), .val (.int (1 : Int32)), .val (.int (1 : Int32))] [])) _
    refine XS.iload X3.here hx rfl (hb hby at_65) rfl ?_
    show Steps p.tables e below (T3.setTop (mkF m 67 #[.val (.int k), .val (.int ((k &&& (2147483647 : Int32)) % (3 : Int32))), .val (.ref oc), .val (.int (1 : Int32)), .val (.int (1 : Int32)), .val (.int (1 : Int32))] [(.int (1 : Int32))])) _
    refine XS.iloadN X3.here hx rfl (hb hby at_67) rfl ?_
    show Steps p.tables e below (T3.setTop (mkF m 68 #[.val (.int k), .val (.int ((k &&& (2147483647 : Int32)) % (3 : Int32))), .val (.ref oc), .val (.int (1 : Int32)), .val (.int (1 : Int32)), .val (.int (1 : Int32))] [(.int (1 : Int32)), (.int (1 : Int32))])) _
    refine XS.icmpNo X3.here hx rfl (hb hby at_68) rfl (teq (by decide : (1 : Int32) = (1 : Int32))).2 ?_
    show Steps p.tables e below (T3.setTop (mkF m 71 #[.val (.int k), .val (.int ((k &&& (2147483647 : Int32)) % (3 : Int32))), .val (.ref oc), .val (.int (1 : Int32)), .val (.int (1 : Int32)), .val (.int (1 : Int32))] [])) _
    refine XS.iload X3.here hx rfl (hb hby at_71) rfl ?_
    show Steps p.tables e below (T3.setTop (mkF m 73 #[.val (.int k), .val (.int ((k &&& (2147483647 : Int32)) % (3 : Int32))), .val (.ref oc), .val (.int (1 : Int32)), .val (.int (1 : Int32)), .val (.int (1 : Int32))] [(.int (1 : Int32))])) _
    refine XS.iloadN X3.here hx rfl (hb hby at_73) rfl ?_
    show Steps p.tables e below (T3.setTop (mkF m 74 #[.val (.int k), .val (.int ((k &&& (2147483647 : Int32)) % (3 : Int32))), .val (.ref oc), .val (.int (1 : Int32)), .val (.int (1 : Int32)), .val (.int (1 : Int32))] [(.int (1 : Int32)), (.int (1 : Int32))])) _
    refine XS.icmpNo X3.here hx rfl (hb hby at_74) rfl (teq (by decide : (1 : Int32) = (1 : Int32))).2 ?_
    show Steps p.tables e below (T3.setTop (mkF m 77 #[.val (.int k), .val (.int ((k &&& (2147483647 : Int32)) % (3 : Int32))), .val (.ref oc), .val (.int (1 : Int32)), .val (.int (1 : Int32)), .val (.int (1 : Int32))] [])) _
    refine XS.iconst X3.here hx rfl (hb hby at_77) ?_
    show Steps p.tables e below (T3.setTop (mkF m 78 #[.val (.int k), .val (.int ((k &&& (2147483647 : Int32)) % (3 : Int32))), .val (.ref oc), .val (.int (1 : Int32)), .val (.int (1 : Int32)), .val (.int (1 : Int32))] [(.int (1 : Int32))])) _
    refine XS.goto X3.here hx rfl (pc0 := 78) (pc' := 82) rfl (hb hby at_78) (by decide) (by decide) ?_
    show Steps p.tables e below (T3.setTop (mkF m 82 #[.val (.int k), .val (.int ((k &&& (2147483647 : Int32)) % (3 : Int32))), .val (.ref oc), .val (.int (1 : Int32)), .val (.int (1 : Int32)), .val (.int (1 : Int32))] [(.int (1 : Int32))])) _
    exact retN X3 hx (t := .boolean) Bd.returns (by simp) (hb hby at_82) hr
  · exact ⟨rfl, N3, e3⟩
set_option maxRecDepth 65536 in
set_option maxHeartbeats 40000000 in
theorem law_1 (l : Launch) (Z : State) (a0 : Array Value) (hw : ∀ d ∈ tables_1, d.before a0 Z = true) (k : Int32) (oc on of_ oe : Addr) (h0 : Heap) (n0 : Nat) (Z0 : n0 ≤ h0.size) (S_NO_OP : Sta Z h0 "com/example/kazi/kazi/model/Fire$Outcome" "NO_OP" "Lcom/example/kazi/kazi/model/Fire$Outcome;" (.ref on)) (F_endEvent_on : Fld Z h0 on "com/example/kazi/kazi/model/Fire$Outcome" "endEvent" "Ljava/lang/String;" .null) (E_on : Exa Z h0 on "com/example/kazi/kazi/model/Fire$Outcome") (hc8 : ¬ (((k &&& (2147483647 : Int32)) % (3 : Int32)) = (0 : Int32))) (hc20 : ((k &&& (2147483647 : Int32)) % (3 : Int32)) = (1 : Int32)) (hc36 : ((k &&& (2147483647 : Int32)) % (3 : Int32)) = (1 : Int32)) :
    RO l Z x code maxLocals ret room_1 #[(.int k)] h0 n0 (.int (1 : Int32)) := by
  intro ws
  refine MetFree.of_bodySF (plainFor_of_name pn_0) hisR ?_
  intro p e s m args below meth c s₁ Bd hml0 hP hK
  obtain ⟨rfl, hZ, hh⟩ := hP
  have hx := Bd.exec
  have hby := Bd.bytes
  have hml : c.maxLocals = 6 := hml0
  have hown : s.vm.findClass "com/example/kazi/kazi/model/OutcomeAuditedPinLaw" = some m.cls := findClass_of_methodNamed Bd.named
  have hnm := (name_of_methodNamed Bd.named Bd.method).1
  have X0 : Stand p l e room_1 s m #[(.int k)] below meth c s₁ [] 0 0 := Stand.of_body Bd
  have e0 : s₁.heap = h0 := by rw [← hh, Bd.state]; rfl
  have N0 := Fr.nil n0
  have pre0 : ∀ t_, Steps p.tables e below (s₁.setTop (mkF m 0 #[.val (.int k), .unset, .unset, .unset, .unset, .unset] [])) t_ → Steps p.tables e below (s₁.setTop (entryFrame m #[(.int k)] maxLocals)) t_ := fun t_ k_ => castTop (ef_0 m k) k_
  obtain ⟨T1, X1, e1, st1⟩ := getS2 X0 hx hZ hown (host := "") (Or.inl (hw _ (List.mem_of_getElem? (i := 18) rfl))) Via.refl e0 S_NO_OP (g := (mkF m 23 #[.val (.int k), .val (.int ((k &&& (2147483647 : Int32)) % (3 : Int32))), .unset, .unset, .unset, .unset] [])) rfl (hb hby at_23)
  obtain ⟨cq2, kq2, q2a, q2b, q2c⟩ := isOf hZ e1 E_on
  obtain ⟨_, _, ⟨T2, L2, k2, n2⟩, -, X2, ⟨Lc2, hQ2, l2, y2, z2⟩, st2⟩ := X1.virtualBack hx (y := (⟨"com/example/kazi/kazi/model/Fire$Outcome", "audited", "()Z"⟩ : MethodName)) (z := (⟨"com/example/kazi/kazi/model/Fire$Outcome", "audited", "()Z"⟩ : MethodName)) hown (mvT hZ (hw _ (List.mem_of_getElem? (i := 4) rfl))) (mvT hZ (hw _ (List.mem_of_getElem? (i := 5) rfl))) (notFace_of_selects (args := #[]) (mvT hZ (hw _ (List.mem_of_getElem? (i := 7) rfl)))) (mvT hZ (hw _ (List.mem_of_getElem? (i := 7) rfl))) (mvT hZ (hw _ (List.mem_of_getElem? (i := 6) rfl))) (by decide) (backOf (W := 0) ((audited_0 l Z a0 hw on h0 n0 Z0 F_endEvent_on) []) hZ (hw _ (List.mem_of_getElem? (i := 8) rfl)) (hw _ (List.mem_of_getElem? (i := 2) rfl)) (by decide) (by decide)) q2a q2c (g := (mkF m 46 #[.val (.int k), .val (.int ((k &&& (2147483647 : Int32)) % (3 : Int32))), .val (.ref on), .val (.int (0 : Int32)), .unset, .unset] [(.ref on)])) rfl (by rw [hml]; rfl) (Steps.refl _) (argsL := []) (rest := []) (lenOf pd_ocZ rfl) rfl (by show 2 * 0 + _ ≤ _; exact Nat.le_of_eq rfl) (hb hby at_46) (fun _ _ => ⟨rfl, e1, (by decide : 0 + 0 ≤ _), (by decide : 0 + 0 ≤ _)⟩)
  dsimp only [Pt.U, Pt.locs, Pt.cells, Pt.slots] at X2 l2 y2 z2 st2 hQ2
  subst l2 y2 z2
  obtain ⟨rfl, N2q, e2⟩ := hQ2
  have N2 := Fr.app N0 N2q
  obtain ⟨cq3, kq3, q3a, q3b, q3c⟩ := isOf hZ e2 E_on
  obtain ⟨_, _, ⟨T3, L3, k3, n3⟩, -, X3, ⟨Lc3, hQ3, l3, y3, z3⟩, st3⟩ := X2.virtualBack hx (y := (⟨"com/example/kazi/kazi/model/Fire$Outcome", "endEvent", "()Ljava/lang/String;"⟩ : MethodName)) (z := (⟨"com/example/kazi/kazi/model/Fire$Outcome", "endEvent", "()Ljava/lang/String;"⟩ : MethodName)) hown (mvT hZ (hw _ (List.mem_of_getElem? (i := 11) rfl))) (mvT hZ (hw _ (List.mem_of_getElem? (i := 12) rfl))) (notFace_of_selects (args := #[]) (mvT hZ (hw _ (List.mem_of_getElem? (i := 14) rfl)))) (mvT hZ (hw _ (List.mem_of_getElem? (i := 14) rfl))) (mvT hZ (hw _ (List.mem_of_getElem? (i := 13) rfl))) (by decide) (backOf (W := 0) ((endEvent_0 l Z a0 hw on h0 n0 Z0 F_endEvent_on) []) hZ (hw _ (List.mem_of_getElem? (i := 15) rfl)) (hw _ (List.mem_of_getElem? (i := 2) rfl)) (by decide) (by decide)) q3a q3c (g := (mkF m 52 #[.val (.int k), .val (.int ((k &&& (2147483647 : Int32)) % (3 : Int32))), .val (.ref on), .val (.int (0 : Int32)), .val (.int (0 : Int32)), .unset] [(.ref on)])) rfl (by rw [hml]; rfl) (Steps.refl _) (argsL := []) (rest := []) (lenOf pd_ocLjava_lang_String_ rfl) rfl (by show 2 * 0 + _ ≤ _; exact Nat.le_of_eq rfl) (hb hby at_52) (fun _ _ => ⟨rfl, e2, (by decide : 0 + 0 ≤ _), (by decide : 0 + 0 ≤ _)⟩)
  dsimp only [Pt.U, Pt.locs, Pt.cells, Pt.slots] at X3 l3 y3 z3 st3 hQ3
  subst l3 y3 z3
  obtain ⟨rfl, N3q, e3⟩ := hQ3
  have N3 := Fr.app N2 N3q
  obtain ⟨fs, hr, hrun, hended, hW, hsame⟩ := X3.leave (v := some (.int (1 : Int32))) (fun h => by rw [Bd.returns] at h; cases h)
  refine ⟨_, _, pre0 _ ?_, hrun, hended, _, _, rfl, ?_, ⟨_, rfl⟩, hW, hsame.mono (by decide) (by decide)⟩
  · show Steps p.tables e below (s₁.setTop (mkF m 0 #[.val (.int k), .unset, .unset, .unset, .unset, .unset] [])) _
    refine XS.iloadN X0.here hx rfl (hb hby at_0) rfl ?_
    show Steps p.tables e below (s₁.setTop (mkF m 1 #[.val (.int k), .unset, .unset, .unset, .unset, .unset] [(.int k)])) _
    refine X0.ldcInt hx hown (mvT hZ (hw _ (List.mem_of_getElem? (i := 0) rfl))) (g := (mkF m 1 #[.val (.int k), .unset, .unset, .unset, .unset, .unset] [(.int k)])) rfl (hb hby at_1) _ ?_
    show Steps p.tables e below (s₁.setTop (mkF m 3 #[.val (.int k), .unset, .unset, .unset, .unset, .unset] [(.int (2147483647 : Int32)), (.int k)])) _
    refine XS.iand X0.here hx rfl (hb hby at_3) rfl ?_
    show Steps p.tables e below (s₁.setTop (mkF m 4 #[.val (.int k), .unset, .unset, .unset, .unset, .unset] [(.int (k &&& (2147483647 : Int32)))])) _
    refine XS.iconst X0.here hx rfl (hb hby at_4) ?_
    show Steps p.tables e below (s₁.setTop (mkF m 5 #[.val (.int k), .unset, .unset, .unset, .unset, .unset] [(.int (3 : Int32)), (.int (k &&& (2147483647 : Int32)))])) _
    refine iremM X0 hx rfl (hb hby at_5) rfl (by decide) ?_
    show Steps p.tables e below (s₁.setTop (mkF m 6 #[.val (.int k), .unset, .unset, .unset, .unset, .unset] [(.int ((k &&& (2147483647 : Int32)) % (3 : Int32)))])) _
    refine XS.istoreN X0.here hx rfl (hb hby at_6) rfl (l' := #[.val (.int k), .val (.int ((k &&& (2147483647 : Int32)) % (3 : Int32))), .unset, .unset, .unset, .unset]) rfl ?_
    show Steps p.tables e below (s₁.setTop (mkF m 7 #[.val (.int k), .val (.int ((k &&& (2147483647 : Int32)) % (3 : Int32))), .unset, .unset, .unset, .unset] [])) _
    refine XS.iloadN X0.here hx rfl (hb hby at_7) rfl ?_
    show Steps p.tables e below (s₁.setTop (mkF m 8 #[.val (.int k), .val (.int ((k &&& (2147483647 : Int32)) % (3 : Int32))), .unset, .unset, .unset, .unset] [(.int ((k &&& (2147483647 : Int32)) % (3 : Int32)))])) _
    refine XS.ifYes X0.here hx rfl (pc0 := 8) (pc' := 18) rfl (hb hby at_8) rfl ((if0 _ _).trans (feq hc8).2) (by decide) (by decide) ?_
    show Steps p.tables e below (s₁.setTop (mkF m 18 #[.val (.int k), .val (.int ((k &&& (2147483647 : Int32)) % (3 : Int32))), .unset, .unset, .unset, .unset] [])) _
    refine XS.iloadN X0.here hx rfl (hb hby at_18) rfl ?_
    show Steps p.tables e below (s₁.setTop (mkF m 19 #[.val (.int k), .val (.int ((k &&& (2147483647 : Int32)) % (3 : Int32))), .unset, .unset, .unset, .unset] [(.int ((k &&& (2147483647 : Int32)) % (3 : Int32)))])) _
    refine XS.iconst X0.here hx rfl (hb hby at_19) ?_
    show Steps p.tables e below (s₁.setTop (mkF m 20 #[.val (.int k), .val (.int ((k &&& (2147483647 : Int32)) % (3 : Int32))), .unset, .unset, .unset, .unset] [(.int (1 : Int32)), (.int ((k &&& (2147483647 : Int32)) % (3 : Int32)))])) _
    refine XS.icmpNo X0.here hx rfl (hb hby at_20) rfl (teq hc20).2 ?_
    show Steps p.tables e below (s₁.setTop (mkF m 23 #[.val (.int k), .val (.int ((k &&& (2147483647 : Int32)) % (3 : Int32))), .unset, .unset, .unset, .unset] [])) _
    refine st1 _ ?_
    show Steps p.tables e below (T1.setTop (mkF m 26 #[.val (.int k), .val (.int ((k &&& (2147483647 : Int32)) % (3 : Int32))), .unset, .unset, .unset, .unset] [(.ref on)])) _
    refine XS.astoreN X1.here hx rfl (hb hby at_26) rfl rfl (l' := #[.val (.int k), .val (.int ((k &&& (2147483647 : Int32)) % (3 : Int32))), .val (.ref on), .unset, .unset, .unset]) rfl ?_
    show Steps p.tables e below (T1.setTop (mkF m 27 #[.val (.int k), .val (.int ((k &&& (2147483647 : Int32)) % (3 : Int32))), .val (.ref on), .unset, .unset, .unset] [])) _
    refine XS.goto X1.here hx rfl (pc0 := 27) (pc' := 34) rfl (hb hby at_27) (by decide) (by decide) ?_
    show Steps p.tables e below (T1.setTop (mkF m 34 #[.val (.int k), .val (.int ((k &&& (2147483647 : Int32)) % (3 : Int32))), .val (.ref on), .unset, .unset, .unset] [])) _
    refine XS.iloadN X1.here hx rfl (hb hby at_34) rfl ?_
    show Steps p.tables e below (T1.setTop (mkF m 35 #[.val (.int k), .val (.int ((k &&& (2147483647 : Int32)) % (3 : Int32))), .val (.ref on), .unset, .unset, .unset] [(.int ((k &&& (2147483647 : Int32)) % (3 : Int32)))])) _
    refine XS.iconst X1.here hx rfl (hb hby at_35) ?_
    show Steps p.tables e below (T1.setTop (mkF m 36 #[.val (.int k), .val (.int ((k &&& (2147483647 : Int32)) % (3 : Int32))), .val (.ref on), .unset, .unset, .unset] [(.int (1 : Int32)), (.int ((k &&& (2147483647 : Int32)) % (3 : Int32)))])) _
    refine XS.icmpYes X1.here hx rfl (pc0 := 36) (pc' := 43) rfl (hb hby at_36) rfl (teq hc36).1 (by decide) (by decide) ?_
    show Steps p.tables e below (T1.setTop (mkF m 43 #[.val (.int k), .val (.int ((k &&& (2147483647 : Int32)) % (3 : Int32))), .val (.ref on), .unset, .unset, .unset] [])) _
    refine XS.iconst X1.here hx rfl (hb hby at_43) ?_
    show Steps p.tables e below (T1.setTop (mkF m 44 #[.val (.int k), .val (.int ((k &&& (2147483647 : Int32)) % (3 : Int32))), .val (.ref on), .unset, .unset, .unset] [(.int (0 : Int32))])) _
    refine XS.istoreN X1.here hx rfl (hb hby at_44) rfl (l' := #[.val (.int k), .val (.int ((k &&& (2147483647 : Int32)) % (3 : Int32))), .val (.ref on), .val (.int (0 : Int32)), .unset, .unset]) rfl ?_
    show Steps p.tables e below (T1.setTop (mkF m 45 #[.val (.int k), .val (.int ((k &&& (2147483647 : Int32)) % (3 : Int32))), .val (.ref on), .val (.int (0 : Int32)), .unset, .unset] [])) _
    refine XS.aloadN X1.here hx rfl (hb hby at_45) rfl rfl ?_
    show Steps p.tables e below (T1.setTop (mkF m 46 #[.val (.int k), .val (.int ((k &&& (2147483647 : Int32)) % (3 : Int32))), .val (.ref on), .val (.int (0 : Int32)), .unset, .unset] [(.ref on)])) _
    refine st2.trans ?_
    show Steps p.tables e below (T2.setTop (mkF m 49 #[.val (.int k), .val (.int ((k &&& (2147483647 : Int32)) % (3 : Int32))), .val (.ref on), .val (.int (0 : Int32)), .unset, .unset] [(.int (0 : Int32))])) _
    refine XS.istore X2.here hx rfl (hb hby at_49) rfl (l' := #[.val (.int k), .val (.int ((k &&& (2147483647 : Int32)) % (3 : Int32))), .val (.ref on), .val (.int (0 : Int32)), .val (.int (0 : Int32)), .unset]) rfl ?_
    show Steps p.tables e below (T2.setTop (mkF m 51 #[.val (.int k), .val (.int ((k &&& (2147483647 : Int32)) % (3 : Int32))), .val (.ref on), .val (.int (0 : Int32)), .val (.int (0 : Int32)), .unset] [])) _
    refine XS.aloadN X2.here hx rfl (hb hby at_51) rfl rfl ?_
    show Steps p.tables e below (T2.setTop (mkF m 52 #[.val (.int k), .val (.int ((k &&& (2147483647 : Int32)) % (3 : Int32))), .val (.ref on), .val (.int (0 : Int32)), .val (.int (0 : Int32)), .unset] [(.ref on)])) _
    refine st3.trans ?_
    show Steps p.tables e below (T3.setTop (mkF m 55 #[.val (.int k), .val (.int ((k &&& (2147483647 : Int32)) % (3 : Int32))), .val (.ref on), .val (.int (0 : Int32)), .val (.int (0 : Int32)), .unset] [.null])) _
    refine XS.ifnullYes X3.here hx rfl (pc0 := 55) (pc' := 62) rfl (hb hby at_55) rfl (by decide) (by decide) ?_
    show Steps p.tables e below (T3.setTop (mkF m 62 #[.val (.int k), .val (.int ((k &&& (2147483647 : Int32)) % (3 : Int32))), .val (.ref on), .val (.int (0 : Int32)), .val (.int (0 : Int32)), .unset] [])) _
    refine XS.iconst X3.here hx rfl (hb hby at_62) ?_
    show Steps p.tables e below (T3.setTop (mkF m 63 #[.val (.int k), .val (.int ((k &&& (2147483647 : Int32)) % (3 : Int32))), .val (.ref on), .val (.int (0 : Int32)), .val (.int (0 : Int32)), .unset] [(.int (0 : Int32))])) _
    refine XS.istore X3.here hx rfl (hb hby at_63) rfl (l' := #[.val (.int k), .val (.int ((k &&& (2147483647 : Int32)) % (3 : Int32))), .val (.ref on), .val (.int (0 : Int32)), .val (.int (0 : Int32)), .val (.int (0 : Int32))]) rfl ?_
    show Steps p.tables e below (T3.setTop (mkF m 65 #[.val (.int k), .val (.int ((k &&& (2147483647 : Int32)) % (3 : Int32))), .val (.ref on), .val (.int (0 : Int32)), .val (.int (0 : Int32)), .val (.int (0 : Int32))] [])) _
    refine XS.iload X3.here hx rfl (hb hby at_65) rfl ?_
    show Steps p.tables e below (T3.setTop (mkF m 67 #[.val (.int k), .val (.int ((k &&& (2147483647 : Int32)) % (3 : Int32))), .val (.ref on), .val (.int (0 : Int32)), .val (.int (0 : Int32)), .val (.int (0 : Int32))] [(.int (0 : Int32))])) _
    refine XS.iloadN X3.here hx rfl (hb hby at_67) rfl ?_
    show Steps p.tables e below (T3.setTop (mkF m 68 #[.val (.int k), .val (.int ((k &&& (2147483647 : Int32)) % (3 : Int32))), .val (.ref on), .val (.int (0 : Int32)), .val (.int (0 : Int32)), .val (.int (0 : Int32))] [(.int (0 : Int32)), (.int (0 : Int32))])) _
    refine XS.icmpNo X3.here hx rfl (hb hby at_68) rfl (teq (by decide : (0 : Int32) = (0 : Int32))).2 ?_
    show Steps p.tables e below (T3.setTop (mkF m 71 #[.val (.int k), .val (.int ((k &&& (2147483647 : Int32)) % (3 : Int32))), .val (.ref on), .val (.int (0 : Int32)), .val (.int (0 : Int32)), .val (.int (0 : Int32))] [])) _
    refine XS.iload X3.here hx rfl (hb hby at_71) rfl ?_
    show Steps p.tables e below (T3.setTop (mkF m 73 #[.val (.int k), .val (.int ((k &&& (2147483647 : Int32)) % (3 : Int32))), .val (.ref on), .val (.int (0 : Int32)), .val (.int (0 : Int32)), .val (.int (0 : Int32))] [(.int (0 : Int32))])) _
    refine XS.iloadN X3.here hx rfl (hb hby at_73) rfl ?_
    show Steps p.tables e below (T3.setTop (mkF m 74 #[.val (.int k), .val (.int ((k &&& (2147483647 : Int32)) % (3 : Int32))), .val (.ref on), .val (.int (0 : Int32)), .val (.int (0 : Int32)), .val (.int (0 : Int32))] [(.int (0 : Int32)), (.int (0 : Int32))])) _
    refine XS.icmpNo X3.here hx rfl (hb hby at_74) rfl (teq (by decide : (0 : Int32) = (0 : Int32))).2 ?_
    show Steps p.tables e below (T3.setTop (mkF m 77 #[.val (.int k), .val (.int ((k &&& (2147483647 : Int32)) % (3 : Int32))), .val (.ref on), .val (.int (0 : Int32)), .val (.int (0 : Int32)), .val (.int (0 : Int32))] [])) _
    refine XS.iconst X3.here hx rfl (hb hby at_77) ?_
    show Steps p.tables e below (T3.setTop (mkF m 78 #[.val (.int k), .val (.int ((k &&& (2147483647 : Int32)) % (3 : Int32))), .val (.ref on), .val (.int (0 : Int32)), .val (.int (0 : Int32)), .val (.int (0 : Int32))] [(.int (1 : Int32))])) _
    refine XS.goto X3.here hx rfl (pc0 := 78) (pc' := 82) rfl (hb hby at_78) (by decide) (by decide) ?_
    show Steps p.tables e below (T3.setTop (mkF m 82 #[.val (.int k), .val (.int ((k &&& (2147483647 : Int32)) % (3 : Int32))), .val (.ref on), .val (.int (0 : Int32)), .val (.int (0 : Int32)), .val (.int (0 : Int32))] [(.int (1 : Int32))])) _
    exact retN X3 hx (t := .boolean) Bd.returns (by simp) (hb hby at_82) hr
  · exact ⟨rfl, N3, e3⟩
set_option maxRecDepth 65536 in
set_option maxHeartbeats 40000000 in
theorem law_2 (l : Launch) (Z : State) (a0 : Array Value) (hw : ∀ d ∈ tables_1, d.before a0 Z = true) (k : Int32) (oc on of_ oe : Addr) (h0 : Heap) (n0 : Nat) (Z0 : n0 ≤ h0.size) (S_FAILED : Sta Z h0 "com/example/kazi/kazi/model/Fire$Outcome" "FAILED" "Lcom/example/kazi/kazi/model/Fire$Outcome;" (.ref of_)) (F_endEvent_of_ : Fld Z h0 of_ "com/example/kazi/kazi/model/Fire$Outcome" "endEvent" "Ljava/lang/String;" (.ref oe)) (E_of_ : Exa Z h0 of_ "com/example/kazi/kazi/model/Fire$Outcome") (hc8 : ¬ (((k &&& (2147483647 : Int32)) % (3 : Int32)) = (0 : Int32))) (hc20 : ¬ (((k &&& (2147483647 : Int32)) % (3 : Int32)) = (1 : Int32))) (hc36 : ¬ (((k &&& (2147483647 : Int32)) % (3 : Int32)) = (1 : Int32))) :
    RO l Z x code maxLocals ret room_1 #[(.int k)] h0 n0 (.int (1 : Int32)) := by
  intro ws
  refine MetFree.of_bodySF (plainFor_of_name pn_0) hisR ?_
  intro p e s m args below meth c s₁ Bd hml0 hP hK
  obtain ⟨rfl, hZ, hh⟩ := hP
  have hx := Bd.exec
  have hby := Bd.bytes
  have hml : c.maxLocals = 6 := hml0
  have hown : s.vm.findClass "com/example/kazi/kazi/model/OutcomeAuditedPinLaw" = some m.cls := findClass_of_methodNamed Bd.named
  have hnm := (name_of_methodNamed Bd.named Bd.method).1
  have X0 : Stand p l e room_1 s m #[(.int k)] below meth c s₁ [] 0 0 := Stand.of_body Bd
  have e0 : s₁.heap = h0 := by rw [← hh, Bd.state]; rfl
  have N0 := Fr.nil n0
  have pre0 : ∀ t_, Steps p.tables e below (s₁.setTop (mkF m 0 #[.val (.int k), .unset, .unset, .unset, .unset, .unset] [])) t_ → Steps p.tables e below (s₁.setTop (entryFrame m #[(.int k)] maxLocals)) t_ := fun t_ k_ => castTop (ef_0 m k) k_
  obtain ⟨T1, X1, e1, st1⟩ := getS2 X0 hx hZ hown (host := "") (Or.inl (hw _ (List.mem_of_getElem? (i := 16) rfl))) Via.refl e0 S_FAILED (g := (mkF m 30 #[.val (.int k), .val (.int ((k &&& (2147483647 : Int32)) % (3 : Int32))), .unset, .unset, .unset, .unset] [])) rfl (hb hby at_30)
  obtain ⟨cq2, kq2, q2a, q2b, q2c⟩ := isOf hZ e1 E_of_
  obtain ⟨_, _, ⟨T2, L2, k2, n2⟩, -, X2, ⟨Lc2, hQ2, l2, y2, z2⟩, st2⟩ := X1.virtualBack hx (y := (⟨"com/example/kazi/kazi/model/Fire$Outcome", "audited", "()Z"⟩ : MethodName)) (z := (⟨"com/example/kazi/kazi/model/Fire$Outcome", "audited", "()Z"⟩ : MethodName)) hown (mvT hZ (hw _ (List.mem_of_getElem? (i := 4) rfl))) (mvT hZ (hw _ (List.mem_of_getElem? (i := 5) rfl))) (notFace_of_selects (args := #[]) (mvT hZ (hw _ (List.mem_of_getElem? (i := 7) rfl)))) (mvT hZ (hw _ (List.mem_of_getElem? (i := 7) rfl))) (mvT hZ (hw _ (List.mem_of_getElem? (i := 6) rfl))) (by decide) (backOf (W := 0) ((audited_1 l Z a0 hw of_ oe h0 n0 Z0 F_endEvent_of_) []) hZ (hw _ (List.mem_of_getElem? (i := 8) rfl)) (hw _ (List.mem_of_getElem? (i := 2) rfl)) (by decide) (by decide)) q2a q2c (g := (mkF m 46 #[.val (.int k), .val (.int ((k &&& (2147483647 : Int32)) % (3 : Int32))), .val (.ref of_), .val (.int (1 : Int32)), .unset, .unset] [(.ref of_)])) rfl (by rw [hml]; rfl) (Steps.refl _) (argsL := []) (rest := []) (lenOf pd_ocZ rfl) rfl (by show 2 * 0 + _ ≤ _; exact Nat.le_of_eq rfl) (hb hby at_46) (fun _ _ => ⟨rfl, e1, (by decide : 0 + 0 ≤ _), (by decide : 0 + 0 ≤ _)⟩)
  dsimp only [Pt.U, Pt.locs, Pt.cells, Pt.slots] at X2 l2 y2 z2 st2 hQ2
  subst l2 y2 z2
  obtain ⟨rfl, N2q, e2⟩ := hQ2
  have N2 := Fr.app N0 N2q
  obtain ⟨cq3, kq3, q3a, q3b, q3c⟩ := isOf hZ e2 E_of_
  obtain ⟨_, _, ⟨T3, L3, k3, n3⟩, -, X3, ⟨Lc3, hQ3, l3, y3, z3⟩, st3⟩ := X2.virtualBack hx (y := (⟨"com/example/kazi/kazi/model/Fire$Outcome", "endEvent", "()Ljava/lang/String;"⟩ : MethodName)) (z := (⟨"com/example/kazi/kazi/model/Fire$Outcome", "endEvent", "()Ljava/lang/String;"⟩ : MethodName)) hown (mvT hZ (hw _ (List.mem_of_getElem? (i := 11) rfl))) (mvT hZ (hw _ (List.mem_of_getElem? (i := 12) rfl))) (notFace_of_selects (args := #[]) (mvT hZ (hw _ (List.mem_of_getElem? (i := 14) rfl)))) (mvT hZ (hw _ (List.mem_of_getElem? (i := 14) rfl))) (mvT hZ (hw _ (List.mem_of_getElem? (i := 13) rfl))) (by decide) (backOf (W := 0) ((endEvent_1 l Z a0 hw of_ oe h0 n0 Z0 F_endEvent_of_) []) hZ (hw _ (List.mem_of_getElem? (i := 15) rfl)) (hw _ (List.mem_of_getElem? (i := 2) rfl)) (by decide) (by decide)) q3a q3c (g := (mkF m 52 #[.val (.int k), .val (.int ((k &&& (2147483647 : Int32)) % (3 : Int32))), .val (.ref of_), .val (.int (1 : Int32)), .val (.int (1 : Int32)), .unset] [(.ref of_)])) rfl (by rw [hml]; rfl) (Steps.refl _) (argsL := []) (rest := []) (lenOf pd_ocLjava_lang_String_ rfl) rfl (by show 2 * 0 + _ ≤ _; exact Nat.le_of_eq rfl) (hb hby at_52) (fun _ _ => ⟨rfl, e2, (by decide : 0 + 0 ≤ _), (by decide : 0 + 0 ≤ _)⟩)
  dsimp only [Pt.U, Pt.locs, Pt.cells, Pt.slots] at X3 l3 y3 z3 st3 hQ3
  subst l3 y3 z3
  obtain ⟨rfl, N3q, e3⟩ := hQ3
  have N3 := Fr.app N2 N3q
  obtain ⟨fs, hr, hrun, hended, hW, hsame⟩ := X3.leave (v := some (.int (1 : Int32))) (fun h => by rw [Bd.returns] at h; cases h)
  refine ⟨_, _, pre0 _ ?_, hrun, hended, _, _, rfl, ?_, ⟨_, rfl⟩, hW, hsame.mono (by decide) (by decide)⟩
  · show Steps p.tables e below (s₁.setTop (mkF m 0 #[.val (.int k), .unset, .unset, .unset, .unset, .unset] [])) _
    refine XS.iloadN X0.here hx rfl (hb hby at_0) rfl ?_
    show Steps p.tables e below (s₁.setTop (mkF m 1 #[.val (.int k), .unset, .unset, .unset, .unset, .unset] [(.int k)])) _
    refine X0.ldcInt hx hown (mvT hZ (hw _ (List.mem_of_getElem? (i := 0) rfl))) (g := (mkF m 1 #[.val (.int k), .unset, .unset, .unset, .unset, .unset] [(.int k)])) rfl (hb hby at_1) _ ?_
    show Steps p.tables e below (s₁.setTop (mkF m 3 #[.val (.int k), .unset, .unset, .unset, .unset, .unset] [(.int (2147483647 : Int32)), (.int k)])) _
    refine XS.iand X0.here hx rfl (hb hby at_3) rfl ?_
    show Steps p.tables e below (s₁.setTop (mkF m 4 #[.val (.int k), .unset, .unset, .unset, .unset, .unset] [(.int (k &&& (2147483647 : Int32)))])) _
    refine XS.iconst X0.here hx rfl (hb hby at_4) ?_
    show Steps p.tables e below (s₁.setTop (mkF m 5 #[.val (.int k), .unset, .unset, .unset, .unset, .unset] [(.int (3 : Int32)), (.int (k &&& (2147483647 : Int32)))])) _
    refine iremM X0 hx rfl (hb hby at_5) rfl (by decide) ?_
    show Steps p.tables e below (s₁.setTop (mkF m 6 #[.val (.int k), .unset, .unset, .unset, .unset, .unset] [(.int ((k &&& (2147483647 : Int32)) % (3 : Int32)))])) _
    refine XS.istoreN X0.here hx rfl (hb hby at_6) rfl (l' := #[.val (.int k), .val (.int ((k &&& (2147483647 : Int32)) % (3 : Int32))), .unset, .unset, .unset, .unset]) rfl ?_
    show Steps p.tables e below (s₁.setTop (mkF m 7 #[.val (.int k), .val (.int ((k &&& (2147483647 : Int32)) % (3 : Int32))), .unset, .unset, .unset, .unset] [])) _
    refine XS.iloadN X0.here hx rfl (hb hby at_7) rfl ?_
    show Steps p.tables e below (s₁.setTop (mkF m 8 #[.val (.int k), .val (.int ((k &&& (2147483647 : Int32)) % (3 : Int32))), .unset, .unset, .unset, .unset] [(.int ((k &&& (2147483647 : Int32)) % (3 : Int32)))])) _
    refine XS.ifYes X0.here hx rfl (pc0 := 8) (pc' := 18) rfl (hb hby at_8) rfl ((if0 _ _).trans (feq hc8).2) (by decide) (by decide) ?_
    show Steps p.tables e below (s₁.setTop (mkF m 18 #[.val (.int k), .val (.int ((k &&& (2147483647 : Int32)) % (3 : Int32))), .unset, .unset, .unset, .unset] [])) _
    refine XS.iloadN X0.here hx rfl (hb hby at_18) rfl ?_
    show Steps p.tables e below (s₁.setTop (mkF m 19 #[.val (.int k), .val (.int ((k &&& (2147483647 : Int32)) % (3 : Int32))), .unset, .unset, .unset, .unset] [(.int ((k &&& (2147483647 : Int32)) % (3 : Int32)))])) _
    refine XS.iconst X0.here hx rfl (hb hby at_19) ?_
    show Steps p.tables e below (s₁.setTop (mkF m 20 #[.val (.int k), .val (.int ((k &&& (2147483647 : Int32)) % (3 : Int32))), .unset, .unset, .unset, .unset] [(.int (1 : Int32)), (.int ((k &&& (2147483647 : Int32)) % (3 : Int32)))])) _
    refine XS.icmpYes X0.here hx rfl (pc0 := 20) (pc' := 30) rfl (hb hby at_20) rfl (feq hc20).2 (by decide) (by decide) ?_
    show Steps p.tables e below (s₁.setTop (mkF m 30 #[.val (.int k), .val (.int ((k &&& (2147483647 : Int32)) % (3 : Int32))), .unset, .unset, .unset, .unset] [])) _
    refine st1 _ ?_
    show Steps p.tables e below (T1.setTop (mkF m 33 #[.val (.int k), .val (.int ((k &&& (2147483647 : Int32)) % (3 : Int32))), .unset, .unset, .unset, .unset] [(.ref of_)])) _
    refine XS.astoreN X1.here hx rfl (hb hby at_33) rfl rfl (l' := #[.val (.int k), .val (.int ((k &&& (2147483647 : Int32)) % (3 : Int32))), .val (.ref of_), .unset, .unset, .unset]) rfl ?_
    show Steps p.tables e below (T1.setTop (mkF m 34 #[.val (.int k), .val (.int ((k &&& (2147483647 : Int32)) % (3 : Int32))), .val (.ref of_), .unset, .unset, .unset] [])) _
    refine XS.iloadN X1.here hx rfl (hb hby at_34) rfl ?_
    show Steps p.tables e below (T1.setTop (mkF m 35 #[.val (.int k), .val (.int ((k &&& (2147483647 : Int32)) % (3 : Int32))), .val (.ref of_), .unset, .unset, .unset] [(.int ((k &&& (2147483647 : Int32)) % (3 : Int32)))])) _
    refine XS.iconst X1.here hx rfl (hb hby at_35) ?_
    show Steps p.tables e below (T1.setTop (mkF m 36 #[.val (.int k), .val (.int ((k &&& (2147483647 : Int32)) % (3 : Int32))), .val (.ref of_), .unset, .unset, .unset] [(.int (1 : Int32)), (.int ((k &&& (2147483647 : Int32)) % (3 : Int32)))])) _
    refine XS.icmpNo X1.here hx rfl (hb hby at_36) rfl (feq hc36).1 ?_
    show Steps p.tables e below (T1.setTop (mkF m 39 #[.val (.int k), .val (.int ((k &&& (2147483647 : Int32)) % (3 : Int32))), .val (.ref of_), .unset, .unset, .unset] [])) _
    refine XS.iconst X1.here hx rfl (hb hby at_39) ?_
    show Steps p.tables e below (T1.setTop (mkF m 40 #[.val (.int k), .val (.int ((k &&& (2147483647 : Int32)) % (3 : Int32))), .val (.ref of_), .unset, .unset, .unset] [(.int (1 : Int32))])) _
    refine XS.goto X1.here hx rfl (pc0 := 40) (pc' := 44) rfl (hb hby at_40) (by decide) (by decide) ?_
    show Steps p.tables e below (T1.setTop (mkF m 44 #[.val (.int k), .val (.int ((k &&& (2147483647 : Int32)) % (3 : Int32))), .val (.ref of_), .unset, .unset, .unset] [(.int (1 : Int32))])) _
    refine XS.istoreN X1.here hx rfl (hb hby at_44) rfl (l' := #[.val (.int k), .val (.int ((k &&& (2147483647 : Int32)) % (3 : Int32))), .val (.ref of_), .val (.int (1 : Int32)), .unset, .unset]) rfl ?_
    show Steps p.tables e below (T1.setTop (mkF m 45 #[.val (.int k), .val (.int ((k &&& (2147483647 : Int32)) % (3 : Int32))), .val (.ref of_), .val (.int (1 : Int32)), .unset, .unset] [])) _
    refine XS.aloadN X1.here hx rfl (hb hby at_45) rfl rfl ?_
    show Steps p.tables e below (T1.setTop (mkF m 46 #[.val (.int k), .val (.int ((k &&& (2147483647 : Int32)) % (3 : Int32))), .val (.ref of_), .val (.int (1 : Int32)), .unset, .unset] [(.ref of_)])) _
    refine st2.trans ?_
    show Steps p.tables e below (T2.setTop (mkF m 49 #[.val (.int k), .val (.int ((k &&& (2147483647 : Int32)) % (3 : Int32))), .val (.ref of_), .val (.int (1 : Int32)), .unset, .unset] [(.int (1 : Int32))])) _
    refine XS.istore X2.here hx rfl (hb hby at_49) rfl (l' := #[.val (.int k), .val (.int ((k &&& (2147483647 : Int32)) % (3 : Int32))), .val (.ref of_), .val (.int (1 : Int32)), .val (.int (1 : Int32)), .unset]) rfl ?_
    show Steps p.tables e below (T2.setTop (mkF m 51 #[.val (.int k), .val (.int ((k &&& (2147483647 : Int32)) % (3 : Int32))), .val (.ref of_), .val (.int (1 : Int32)), .val (.int (1 : Int32)), .unset] [])) _
    refine XS.aloadN X2.here hx rfl (hb hby at_51) rfl rfl ?_
    show Steps p.tables e below (T2.setTop (mkF m 52 #[.val (.int k), .val (.int ((k &&& (2147483647 : Int32)) % (3 : Int32))), .val (.ref of_), .val (.int (1 : Int32)), .val (.int (1 : Int32)), .unset] [(.ref of_)])) _
    refine st3.trans ?_
    show Steps p.tables e below (T3.setTop (mkF m 55 #[.val (.int k), .val (.int ((k &&& (2147483647 : Int32)) % (3 : Int32))), .val (.ref of_), .val (.int (1 : Int32)), .val (.int (1 : Int32)), .unset] [(.ref oe)])) _
    refine XS.ifnullNo X3.here hx rfl (hb hby at_55) rfl ?_
    show Steps p.tables e below (T3.setTop (mkF m 58 #[.val (.int k), .val (.int ((k &&& (2147483647 : Int32)) % (3 : Int32))), .val (.ref of_), .val (.int (1 : Int32)), .val (.int (1 : Int32)), .unset] [])) _
    refine XS.iconst X3.here hx rfl (hb hby at_58) ?_
    show Steps p.tables e below (T3.setTop (mkF m 59 #[.val (.int k), .val (.int ((k &&& (2147483647 : Int32)) % (3 : Int32))), .val (.ref of_), .val (.int (1 : Int32)), .val (.int (1 : Int32)), .unset] [(.int (1 : Int32))])) _
    refine XS.goto X3.here hx rfl (pc0 := 59) (pc' := 63) rfl (hb hby at_59) (by decide) (by decide) ?_
    show Steps p.tables e below (T3.setTop (mkF m 63 #[.val (.int k), .val (.int ((k &&& (2147483647 : Int32)) % (3 : Int32))), .val (.ref of_), .val (.int (1 : Int32)), .val (.int (1 : Int32)), .unset] [(.int (1 : Int32))])) _
    refine XS.istore X3.here hx rfl (hb hby at_63) rfl (l' := #[.val (.int k), .val (.int ((k &&& (2147483647 : Int32)) % (3 : Int32))), .val (.ref of_), .val (.int (1 : Int32)), .val (.int (1 : Int32)), .val (.int (1 : Int32))]) rfl ?_
    show Steps p.tables e below (T3.setTop (mkF m 65 #[.val (.int k), .val (.int ((k &&& (2147483647 : Int32)) % (3 : Int32))), .val (.ref of_), .val (.int (1 : Int32)), .val (.int (1 : Int32)), .val (.int (1 : Int32))] [])) _
    refine XS.iload X3.here hx rfl (hb hby at_65) rfl ?_
    show Steps p.tables e below (T3.setTop (mkF m 67 #[.val (.int k), .val (.int ((k &&& (2147483647 : Int32)) % (3 : Int32))), .val (.ref of_), .val (.int (1 : Int32)), .val (.int (1 : Int32)), .val (.int (1 : Int32))] [(.int (1 : Int32))])) _
    refine XS.iloadN X3.here hx rfl (hb hby at_67) rfl ?_
    show Steps p.tables e below (T3.setTop (mkF m 68 #[.val (.int k), .val (.int ((k &&& (2147483647 : Int32)) % (3 : Int32))), .val (.ref of_), .val (.int (1 : Int32)), .val (.int (1 : Int32)), .val (.int (1 : Int32))] [(.int (1 : Int32)), (.int (1 : Int32))])) _
    refine XS.icmpNo X3.here hx rfl (hb hby at_68) rfl (teq (by decide : (1 : Int32) = (1 : Int32))).2 ?_
    show Steps p.tables e below (T3.setTop (mkF m 71 #[.val (.int k), .val (.int ((k &&& (2147483647 : Int32)) % (3 : Int32))), .val (.ref of_), .val (.int (1 : Int32)), .val (.int (1 : Int32)), .val (.int (1 : Int32))] [])) _
    refine XS.iload X3.here hx rfl (hb hby at_71) rfl ?_
    show Steps p.tables e below (T3.setTop (mkF m 73 #[.val (.int k), .val (.int ((k &&& (2147483647 : Int32)) % (3 : Int32))), .val (.ref of_), .val (.int (1 : Int32)), .val (.int (1 : Int32)), .val (.int (1 : Int32))] [(.int (1 : Int32))])) _
    refine XS.iloadN X3.here hx rfl (hb hby at_73) rfl ?_
    show Steps p.tables e below (T3.setTop (mkF m 74 #[.val (.int k), .val (.int ((k &&& (2147483647 : Int32)) % (3 : Int32))), .val (.ref of_), .val (.int (1 : Int32)), .val (.int (1 : Int32)), .val (.int (1 : Int32))] [(.int (1 : Int32)), (.int (1 : Int32))])) _
    refine XS.icmpNo X3.here hx rfl (hb hby at_74) rfl (teq (by decide : (1 : Int32) = (1 : Int32))).2 ?_
    show Steps p.tables e below (T3.setTop (mkF m 77 #[.val (.int k), .val (.int ((k &&& (2147483647 : Int32)) % (3 : Int32))), .val (.ref of_), .val (.int (1 : Int32)), .val (.int (1 : Int32)), .val (.int (1 : Int32))] [])) _
    refine XS.iconst X3.here hx rfl (hb hby at_77) ?_
    show Steps p.tables e below (T3.setTop (mkF m 78 #[.val (.int k), .val (.int ((k &&& (2147483647 : Int32)) % (3 : Int32))), .val (.ref of_), .val (.int (1 : Int32)), .val (.int (1 : Int32)), .val (.int (1 : Int32))] [(.int (1 : Int32))])) _
    refine XS.goto X3.here hx rfl (pc0 := 78) (pc' := 82) rfl (hb hby at_78) (by decide) (by decide) ?_
    show Steps p.tables e below (T3.setTop (mkF m 82 #[.val (.int k), .val (.int ((k &&& (2147483647 : Int32)) % (3 : Int32))), .val (.ref of_), .val (.int (1 : Int32)), .val (.int (1 : Int32)), .val (.int (1 : Int32))] [(.int (1 : Int32))])) _
    exact retN X3 hx (t := .boolean) Bd.returns (by simp) (hb hby at_82) hr
  · exact ⟨rfl, N3, e3⟩
set_option maxRecDepth 65536 in
set_option maxHeartbeats 40000000 in
theorem comes_1 {Post : Tables → Env → Array Value → State → Outcome → State → Prop} (hpost : ∀ tb e args s v u, (limb_1_1.after args s (.returned v) u = true ∧ limb_1_2.after args s (.returned v) u = true ∧ True) → FrameEnd s (.returned v) u (Jvm.fieldLocs frame_1_writes args s ++ Jvm.arrayLocs frame_1_arrays args s ++ Jvm.staticLocs frame_1_statics s) 0 0 → Post tb e args s (.returned v) u) :
    ArmFor flags0 classFile x code maxLocals ret World_1 tables_1 room_1 Calls_1 rest_1 Pre_1 Post := by
  intro l hfl _ _ p e ha hc hk s m args below hf hA hF happ hP
  obtain ⟨hcalls, hrest, hpre⟩ := hP
  obtain ⟨-, -, -, hnamed, -, -, -, hat⟩ := (Spec.applies_iff hf).mp happ
  obtain ⟨hg, hn⟩ := and_e (Cond.before_iff.mp (show (Jvm.Cond.and given_1 narrow_1).before args s = true from hpre))
  obtain ⟨g1a, g1b⟩ := and_e hg
  obtain ⟨g2a, g2b⟩ := and_e hn
  obtain ⟨g3a, g3b⟩ := and_e g2b
  obtain ⟨g4a, g4b⟩ := and_e g3b
  obtain ⟨g5a, g5b⟩ := and_e g4b
  obtain ⟨g6a, g6b⟩ := and_e g5b
  obtain ⟨w0, rfl⟩ : ∃ w0 : Value, args = #[w0] := by
    have hs : args.size = 1 := by simpa [Cond.value, given_1] using g1a
    obtain ⟨L⟩ := args
    match L, hs with
    | [w0], _ => exact ⟨w0, rfl⟩
  have hw := fun d (hd : d ∈ tables_1) => atoms_spec (ws := Jvm.Cond.code x code maxLocals ret :: tables_1) hat d (List.mem_cons_of_mem _ hd)
  have hfit : Fit s := fun {y c} hc i hi => by
    obtain ⟨ha, rfl⟩ := Array.getElem?_eq_some_iff.mp hc
    have q := List.all_eq_true.mp ((Array.all_eq_true_iff_forall_mem.mp hF) _ (Array.getElem_mem ha)) i (List.mem_range.mpr hi)
    simpa [Array.getElem?_eq_getElem hi] using q
  obtain ⟨i0, ei0⟩ := is_v g1b
  obtain rfl : w0 = (.int i0) := Option.some.inj ei0
  obtain ⟨w_COMPLETED, ev_COMPLETED⟩ := exa_v g2a
  have S_COMPLETED : Sta s s.heap "com/example/kazi/kazi/model/Fire$Outcome" "COMPLETED" "Lcom/example/kazi/kazi/model/Fire$Outcome;" (.ref w_COMPLETED) := Sta.start ev_COMPLETED (Or.inr ⟨(hw _ (List.mem_of_getElem? (i := 2) rfl)), (hw _ (List.mem_of_getElem? (i := 3) rfl))⟩)
  have E_COMPLETED : Exa s s.heap w_COMPLETED "com/example/kazi/kazi/model/Fire$Outcome" := Exa.start ev_COMPLETED g2a
  obtain ⟨w_FAILED, ev_FAILED⟩ := exa_v g4a
  have S_FAILED : Sta s s.heap "com/example/kazi/kazi/model/Fire$Outcome" "FAILED" "Lcom/example/kazi/kazi/model/Fire$Outcome;" (.ref w_FAILED) := Sta.start ev_FAILED (Or.inr ⟨(hw _ (List.mem_of_getElem? (i := 2) rfl)), (hw _ (List.mem_of_getElem? (i := 17) rfl))⟩)
  have E_FAILED : Exa s s.heap w_FAILED "com/example/kazi/kazi/model/Fire$Outcome" := Exa.start ev_FAILED g4a
  obtain ⟨w_NO_OP, ev_NO_OP⟩ := exa_v g6a
  have S_NO_OP : Sta s s.heap "com/example/kazi/kazi/model/Fire$Outcome" "NO_OP" "Lcom/example/kazi/kazi/model/Fire$Outcome;" (.ref w_NO_OP) := Sta.start ev_NO_OP (Or.inr ⟨(hw _ (List.mem_of_getElem? (i := 2) rfl)), (hw _ (List.mem_of_getElem? (i := 19) rfl))⟩)
  have E_NO_OP : Exa s s.heap w_NO_OP "com/example/kazi/kazi/model/Fire$Outcome" := Exa.start ev_NO_OP g6a
  obtain ⟨v_endEvent_COMPLETED, ew_endEvent_COMPLETED⟩ := exa_v g3a
  have o_endEvent_COMPLETED : s.fieldOf? w_COMPLETED "com/example/kazi/kazi/model/Fire$Outcome" "endEvent" "Ljava/lang/String;" = some (.ref v_endEvent_COMPLETED) := (fld_at ev_COMPLETED).symm.trans ew_endEvent_COMPLETED
  have F_endEvent_COMPLETED := Fld.start o_endEvent_COMPLETED
  obtain ⟨v_endEvent_FAILED, ew_endEvent_FAILED⟩ := exa_v g5a
  have o_endEvent_FAILED : s.fieldOf? w_FAILED "com/example/kazi/kazi/model/Fire$Outcome" "endEvent" "Ljava/lang/String;" = some (.ref v_endEvent_FAILED) := (fld_at ev_FAILED).symm.trans ew_endEvent_FAILED
  have F_endEvent_FAILED := Fld.start o_endEvent_FAILED
  have o_endEvent_NO_OP : s.fieldOf? w_NO_OP "com/example/kazi/kazi/model/Fire$Outcome" "endEvent" "Ljava/lang/String;" = some .null := (fld_at ev_NO_OP).symm.trans (null_v g6b)
  have F_endEvent_NO_OP := Fld.start o_endEvent_NO_OP
  have C0 : RO l s x code maxLocals ret room_1 #[.int i0] s.heap s.heap.size (.int (1 : Int32)) := by
    rcases own_sel3 i0 with q | q | q
    · exact law_0 l s _ hw i0 w_COMPLETED w_NO_OP w_FAILED v_endEvent_COMPLETED s.heap s.heap.size (Nat.le_refl _) (S_COMPLETED := S_COMPLETED) (E_oc := E_COMPLETED) (F_endEvent_oc := F_endEvent_COMPLETED) (hc8 := q) (hc36 := by rw [q]; decide)
    · exact law_1 l s _ hw i0 w_COMPLETED w_NO_OP w_FAILED v_endEvent_COMPLETED s.heap s.heap.size (Nat.le_refl _) (S_NO_OP := S_NO_OP) (E_on := E_NO_OP) (F_endEvent_on := F_endEvent_NO_OP) (hc8 := by rw [q]; decide) (hc20 := q) (hc36 := q)
    · exact law_2 l s _ hw i0 w_COMPLETED w_NO_OP w_FAILED v_endEvent_FAILED s.heap s.heap.size (Nat.le_refl _) (S_FAILED := S_FAILED) (E_of_ := E_FAILED) (F_endEvent_of_ := F_endEvent_FAILED) (hc8 := by rw [q]; decide) (hc20 := by rw [q]; decide) (hc36 := by rw [q]; decide)
  obtain ⟨n, o, h1, h2, h3, _, L, rfl, ⟨rfl, N, -⟩, hq⟩ := C0 tables_1 p e ha hc hk s m _ below hf ((Spec.applies_iff_loose hf).mp happ).1 ⟨rfl, State.Warmed39.refl s, rfl⟩ trivial
  refine ⟨n, _, h1, h2, h3, hpost _ _ _ _ _ _ ⟨Cond.after_iff.mpr rfl, Cond.after_iff.mpr (eq_i res_at (Term.int_eval (1)) rfl), trivial⟩ ⟨hq.1, hq.2.1, (hq.2.2.sift fun y hy => Or.inr (N y hy)).mono (by decide) (by decide)⟩⟩
theorem main_1_1 : Claimed_1_1 := comes_1 fun _ _ _ _ _ _ h hF => ⟨h.1, hF⟩
theorem main_1_2 : Claimed_1_2 := comes_1 fun _ _ _ _ _ _ h hF => ⟨h.2.1, hF⟩
end Jvm.Pilot.@@N@@
namespace Jvm.Pilot.@@N@@
open Jvm Jvm.ClassFile Sem Op Lib Jvm.Free Jvm.Stand Jvm.Pilot.@@N@@.Jvm.D
/-! MADE BY PROGRAM (witnessworld.py) out of the Statement's table words and the real class files: 16 classes; the members and pool entries that the words name. The judged class is class 1, her method 1. -/
namespace start1
open Jvm.ClassFile
def u (s : String) : CpInfo := .utf8 (stringToUtf16 s)
/-- a pool by its gaps: so many unusable entries, then the entry; so many at the end -/
def gap : Nat → List CpInfo → List CpInfo
  | 0, r => r
  | n + 1, r => .unusable :: gap n r
def poolList (es : List (Nat × CpInfo)) (last : Nat) : List CpInfo := es.foldr (fun e r => gap e.1 (e.2 :: r)) (gap last [])
def pool (es : List (Nat × CpInfo)) (last : Nat) : Array CpInfo := ⟨poolList es last⟩
def fileOf (pool : Array CpInfo) (this : Nat) (attrs : Array Attribute := #[]) (ms : Array MethodInfo := #[]) (fl : Nat := 33) (sup : Nat := 0) (ifs : Array Nat := #[]) (fds : Array FieldInfo := #[]) : ClassFile where
  minorVersion := 0
  majorVersion := 65
  constantPool := pool
  accessFlags := fl
  thisClass := this
  superClass := sup
  interfaces := ifs
  fields := fds
  methods := ms
  attributes := attrs
def plain (name : String) (sup : Option ClassId) : Class where
  name := name
  kind := .ordinary
  loader := none
  accessFlags := 33
  super := sup
  interfaces := #[]
  cf := none
  fields := #[]
  methods := #[]
  instanceTypes := #[]
  staticTypes := #[]
  resolved := #[]
  callSites := []
  init := .initialized
  statics := none
  mirror := none

def pool0 : Array CpInfo := pool [(5, u "<init>"), (0, u "()V"), (1, .class_ 10), (1, u "java/lang/Object")] 113

def k0m0 : Method := { name := "<init>", desc := "()V", sig := { parameters := [], returnType := none }, accessFlags := 1, code := none }
/-- java/lang/Object -/
def k0 : Class := { plain "java/lang/Object" none with
  accessFlags := 33
  interfaces := #[]
  cf := some (fileOf pool0 8 #[] #[{ accessFlags := 1, nameIndex := 5, descriptorIndex := 6, attributes := #[] }] 33 0 #[] #[])
  fields := #[]
  methods := #[k0m0]
  instanceTypes := #[]
  staticTypes := #[]
  resolved := Array.replicate 124 none
  statics := none }

def pool1 : Array CpInfo := pool [(2, .class_ 4), (1, u "java/lang/Object"), (0, u "<init>"), (0, u "()V"), (0, .integer 2147483647), (0, .fieldref 9 10), (0, .class_ 11), (0, .nameAndType 12 13), (0, u "com/example/kazi/kazi/model/Fire$Outcome"), (0, u "COMPLETED"), (0, u "Lcom/example/kazi/kazi/model/Fire$Outcome;"), (0, .fieldref 9 15), (0, .nameAndType 16 13), (0, u "NO_OP"), (0, .fieldref 9 18), (0, .nameAndType 19 13), (0, u "FAILED"), (0, .methodref 9 21), (0, .nameAndType 22 23), (0, u "audited"), (0, u "()Z"), (0, .methodref 9 25), (0, .nameAndType 26 27), (0, u "endEvent"), (0, u "()Ljava/lang/String;"), (0, .class_ 29), (0, u "com/example/kazi/kazi/model/OutcomeAuditedPinLaw"), (2, u "law"), (0, u "(I)Z")] 7

def k1m0 : Method := { name := "<init>", desc := "()V", sig := { parameters := [], returnType := none }, accessFlags := 2, code := none }
def k1c1 : Code := { maxStack := 2, maxLocals := 6, code := code, exceptionTable := #[], attributes := #[] }
def k1m1 : Method := { name := "law", desc := "(I)Z", sig := { parameters := [.int], returnType := some .boolean }, accessFlags := 9, code := some k1c1 }
/-- com/example/kazi/kazi/model/OutcomeAuditedPinLaw -/
def k1 : Class := { plain "com/example/kazi/kazi/model/OutcomeAuditedPinLaw" (some 0) with
  accessFlags := 49
  interfaces := #[]
  cf := some (fileOf pool1 28 #[] #[{ accessFlags := 2, nameIndex := 5, descriptorIndex := 6, attributes := #[] }, { accessFlags := 9, nameIndex := 32, descriptorIndex := 33, attributes := #[] }] 49 2 #[] #[])
  fields := #[]
  methods := #[k1m0, k1m1]
  instanceTypes := #[]
  staticTypes := #[]
  resolved := Array.replicate 41 none
  statics := none }

def pool2 : Array CpInfo := pool [(1, .class_ 2), (0, u "java/lang/constant/Constable"), (0, .class_ 4), (0, u "java/lang/Object")] 6

/-- java/lang/constant/Constable -/
def k2 : Class := { plain "java/lang/constant/Constable" (some 0) with
  accessFlags := 1537
  interfaces := #[]
  cf := some (fileOf pool2 1 #[] #[] 1537 3 #[] #[])
  fields := #[]
  methods := #[]
  instanceTypes := #[]
  staticTypes := #[]
  resolved := Array.replicate 11 none
  statics := none }

def pool3 : Array CpInfo := pool [(1, .class_ 2), (0, u "java/lang/Comparable"), (0, .class_ 4), (0, u "java/lang/Object")] 7

/-- java/lang/Comparable -/
def k3 : Class := { plain "java/lang/Comparable" (some 0) with
  accessFlags := 1537
  interfaces := #[]
  cf := some (fileOf pool3 1 #[] #[] 1537 3 #[] #[])
  fields := #[]
  methods := #[]
  instanceTypes := #[]
  staticTypes := #[]
  resolved := Array.replicate 12 none
  statics := none }

def pool4 : Array CpInfo := pool [(1, .class_ 2), (0, u "java/io/Serializable"), (0, .class_ 4), (0, u "java/lang/Object")] 2

/-- java/io/Serializable -/
def k4 : Class := { plain "java/io/Serializable" (some 0) with
  accessFlags := 1537
  interfaces := #[]
  cf := some (fileOf pool4 1 #[] #[] 1537 3 #[] #[])
  fields := #[]
  methods := #[]
  instanceTypes := #[]
  staticTypes := #[]
  resolved := Array.replicate 7 none
  statics := none }

def pool5 : Array CpInfo := pool [(2, .class_ 4), (1, u "java/lang/Enum"), (0, u "name"), (0, u "Ljava/lang/String;"), (2, u "ordinal"), (0, u "I"), (1, .class_ 14), (1, u "java/lang/Object"), (4, u "hash"), (86, .class_ 108), (1, u "java/lang/Enum$EnumDesc"), (2, .class_ 112), (0, u "java/lang/constant/Constable"), (0, .class_ 114), (0, u "java/lang/Comparable"), (0, .class_ 116), (0, u "java/io/Serializable")] 87

/-- java/lang/Enum -/
def k5 : Class := { plain "java/lang/Enum" (some 0) with
  accessFlags := 1057
  interfaces := #[2, 3, 4]
  cf := some (fileOf pool5 2 #[.nestMembers #[106]] #[] 1057 12 #[111, 113, 115] #[{ accessFlags := 18, nameIndex := 5, descriptorIndex := 6, attributes := #[] }, { accessFlags := 18, nameIndex := 9, descriptorIndex := 10, attributes := #[] }, { accessFlags := 2, nameIndex := 19, descriptorIndex := 10, attributes := #[] }])
  fields := #[{ name := "name", type := (.object "java/lang/String"), accessFlags := 18, slot := 0, constantValue := 0 }, { name := "ordinal", type := .int, accessFlags := 18, slot := 1, constantValue := 0 }, { name := "hash", type := .int, accessFlags := 2, slot := 2, constantValue := 0 }]
  methods := #[]
  instanceTypes := #[(.object "java/lang/String"), .int, .int]
  staticTypes := #[]
  resolved := Array.replicate 204 none
  statics := none }

def pool6 : Array CpInfo := pool [(9, .class_ 10), (0, u "com/example/kazi/kazi/model/Labelled"), (58, .class_ 70), (0, u "java/lang/Object")] 27

/-- com/example/kazi/kazi/model/Labelled -/
def k6 : Class := { plain "com/example/kazi/kazi/model/Labelled" (some 0) with
  accessFlags := 1537
  interfaces := #[]
  cf := some (fileOf pool6 9 #[] #[] 1537 69 #[] #[])
  fields := #[]
  methods := #[]
  instanceTypes := #[]
  staticTypes := #[]
  resolved := Array.replicate 98 none
  statics := none }

def pool7 : Array CpInfo := pool [(1, .class_ 2), (0, u "com/example/kazi/kazi/model/Fire$Outcome"), (2, u "COMPLETED"), (0, u "Lcom/example/kazi/kazi/model/Fire$Outcome;"), (2, u "NO_OP"), (2, u "FAILED"), (2, u "$VALUES"), (0, u "[Lcom/example/kazi/kazi/model/Fire$Outcome;"), (6, .class_ 25), (1, u "java/lang/Enum"), (8, u "label"), (0, u "Ljava/lang/String;"), (0, .fieldref 1 37), (0, .nameAndType 38 35), (0, u "endEvent"), (20, .class_ 60), (0, u "com/example/kazi/kazi/model/Labelled"), (7, u "()Ljava/lang/String;"), (0, u "audited"), (0, u "()Z"), (7, .class_ 79), (0, u "com/example/kazi/kazi/model/Fire")] 2

def k7c0 : Code := { maxStack := 1, maxLocals := 1, code := prog_30_method_5_code, exceptionTable := #[], attributes := #[] }
def k7m0 : Method := { name := "endEvent", desc := "()Ljava/lang/String;", sig := { parameters := [], returnType := some (.object "java/lang/String") }, accessFlags := 1, code := some k7c0 }
def k7c1 : Code := { maxStack := 1, maxLocals := 1, code := prog_30_method_6_code, exceptionTable := #[], attributes := #[] }
def k7m1 : Method := { name := "audited", desc := "()Z", sig := { parameters := [], returnType := some .boolean }, accessFlags := 1, code := some k7c1 }
/-- com/example/kazi/kazi/model/Fire$Outcome -/
def k7 : Class := { plain "com/example/kazi/kazi/model/Fire$Outcome" (some 5) with
  accessFlags := 16433
  interfaces := #[6]
  cf := some (fileOf pool7 1 #[.nestHost 78] #[{ accessFlags := 1, nameIndex := 38, descriptorIndex := 68, attributes := #[] }, { accessFlags := 1, nameIndex := 69, descriptorIndex := 70, attributes := #[] }] 16433 23 #[59] #[{ accessFlags := 16409, nameIndex := 5, descriptorIndex := 6, attributes := #[] }, { accessFlags := 16409, nameIndex := 9, descriptorIndex := 6, attributes := #[] }, { accessFlags := 16409, nameIndex := 12, descriptorIndex := 6, attributes := #[] }, { accessFlags := 18, nameIndex := 34, descriptorIndex := 35, attributes := #[] }, { accessFlags := 18, nameIndex := 38, descriptorIndex := 35, attributes := #[] }, { accessFlags := 4122, nameIndex := 15, descriptorIndex := 16, attributes := #[] }])
  fields := #[{ name := "COMPLETED", type := (.object "com/example/kazi/kazi/model/Fire$Outcome"), accessFlags := 16409, slot := 0, constantValue := 0 }, { name := "NO_OP", type := (.object "com/example/kazi/kazi/model/Fire$Outcome"), accessFlags := 16409, slot := 1, constantValue := 0 }, { name := "FAILED", type := (.object "com/example/kazi/kazi/model/Fire$Outcome"), accessFlags := 16409, slot := 2, constantValue := 0 }, { name := "label", type := (.object "java/lang/String"), accessFlags := 18, slot := 3, constantValue := 0 }, { name := "endEvent", type := (.object "java/lang/String"), accessFlags := 18, slot := 4, constantValue := 0 }, { name := "$VALUES", type := (.array (.object "com/example/kazi/kazi/model/Fire$Outcome")), accessFlags := 4122, slot := 3, constantValue := 0 }]
  methods := #[k7m0, k7m1]
  instanceTypes := #[(.object "java/lang/String"), .int, .int, (.object "java/lang/String"), (.object "java/lang/String")]
  staticTypes := #[(.object "com/example/kazi/kazi/model/Fire$Outcome"), (.object "com/example/kazi/kazi/model/Fire$Outcome"), (.object "com/example/kazi/kazi/model/Fire$Outcome"), (.array (.object "com/example/kazi/kazi/model/Fire$Outcome"))]
  resolved := Array.replicate 82 none
  statics := some 0 }

def pool8 : Array CpInfo := pool [(2, .class_ 4), (1, u "java/lang/CharSequence"), (42, .class_ 48), (0, u "java/lang/CharSequence$1CodePointIterator"), (10, .class_ 60), (0, u "java/lang/CharSequence$1CharIterator"), (5, .class_ 67), (0, u "java/lang/Object")] 63

/-- java/lang/CharSequence -/
def k8 : Class := { plain "java/lang/CharSequence" (some 0) with
  accessFlags := 1537
  interfaces := #[]
  cf := some (fileOf pool8 2 #[.nestMembers #[47, 59]] #[] 1537 66 #[] #[])
  fields := #[]
  methods := #[]
  instanceTypes := #[]
  staticTypes := #[]
  resolved := Array.replicate 131 none
  statics := none }

def pool9 : Array CpInfo := pool [(1, .class_ 2), (0, u "java/lang/constant/ConstantDesc"), (0, .class_ 4), (0, u "java/lang/Object")] 32

/-- java/lang/constant/ConstantDesc -/
def k9 : Class := { plain "java/lang/constant/ConstantDesc" (some 0) with
  accessFlags := 1537
  interfaces := #[]
  cf := some (fileOf pool9 1 #[] #[] 1537 3 #[] #[])
  fields := #[]
  methods := #[]
  instanceTypes := #[]
  staticTypes := #[]
  resolved := Array.replicate 37 none
  statics := none }

def pool10 : Array CpInfo := pool [(2, .class_ 4), (1, u "java/lang/Object"), (0, u "<init>"), (0, u "()V"), (3, .class_ 12), (1, u "java/lang/String"), (0, u "value"), (0, u "[B"), (2, u "coder"), (0, u "B"), (2, u "hash"), (0, u "I"), (2, u "hashIsZero"), (0, u "Z"), (13, u "COMPACT_STRINGS"), (534, .class_ 576), (0, u "java/lang/CharSequence"), (22, u "CASE_INSENSITIVE_ORDER"), (0, u "Ljava/util/Comparator;"), (500, u "serialPersistentFields"), (0, u "[Ljava/io/ObjectStreamField;"), (0, .class_ 1104), (0, u "java/lang/String$CaseInsensitiveComparator"), (1, .class_ 1107), (0, u "java/io/Serializable"), (0, .class_ 1109), (0, u "java/lang/Comparable"), (0, .class_ 1111), (0, u "java/lang/constant/Constable"), (0, .class_ 1113), (0, u "java/lang/constant/ConstantDesc"), (2, u "serialVersionUID"), (0, u "J"), (3, u "REPL"), (0, u "C"), (2, u "LATIN1"), (1, u "UTF16")] 323

def k10m0 : Method := { name := "<init>", desc := "()V", sig := { parameters := [], returnType := none }, accessFlags := 1, code := none }
/-- java/lang/String -/
def k10 : Class := { plain "java/lang/String" (some 0) with
  accessFlags := 49
  interfaces := #[4, 3, 8, 2, 9]
  cf := some (fileOf pool10 10 #[.nestMembers #[1103]] #[{ accessFlags := 1, nameIndex := 5, descriptorIndex := 6, attributes := #[] }] 49 2 #[1106, 1108, 575, 1110, 1112] #[{ accessFlags := 18, nameIndex := 13, descriptorIndex := 14, attributes := #[] }, { accessFlags := 18, nameIndex := 17, descriptorIndex := 18, attributes := #[] }, { accessFlags := 2, nameIndex := 21, descriptorIndex := 22, attributes := #[] }, { accessFlags := 2, nameIndex := 25, descriptorIndex := 26, attributes := #[] }, { accessFlags := 26, nameIndex := 1116, descriptorIndex := 1117, attributes := #[] }, { accessFlags := 24, nameIndex := 40, descriptorIndex := 26, attributes := #[] }, { accessFlags := 26, nameIndex := 1101, descriptorIndex := 1102, attributes := #[] }, { accessFlags := 26, nameIndex := 1121, descriptorIndex := 1122, attributes := #[] }, { accessFlags := 25, nameIndex := 599, descriptorIndex := 600, attributes := #[] }, { accessFlags := 24, nameIndex := 1125, descriptorIndex := 18, attributes := #[] }, { accessFlags := 24, nameIndex := 1127, descriptorIndex := 18, attributes := #[] }])
  fields := #[{ name := "value", type := (.array .byte), accessFlags := 18, slot := 0, constantValue := 0 }, { name := "coder", type := .byte, accessFlags := 18, slot := 1, constantValue := 0 }, { name := "hash", type := .int, accessFlags := 2, slot := 2, constantValue := 0 }, { name := "hashIsZero", type := .boolean, accessFlags := 2, slot := 3, constantValue := 0 }, { name := "serialVersionUID", type := .long, accessFlags := 26, slot := 0, constantValue := 0 }, { name := "COMPACT_STRINGS", type := .boolean, accessFlags := 24, slot := 1, constantValue := 0 }, { name := "serialPersistentFields", type := (.array (.object "java/io/ObjectStreamField")), accessFlags := 26, slot := 2, constantValue := 0 }, { name := "REPL", type := .char, accessFlags := 26, slot := 3, constantValue := 0 }, { name := "CASE_INSENSITIVE_ORDER", type := (.object "java/util/Comparator"), accessFlags := 25, slot := 4, constantValue := 0 }, { name := "LATIN1", type := .byte, accessFlags := 24, slot := 5, constantValue := 0 }, { name := "UTF16", type := .byte, accessFlags := 24, slot := 6, constantValue := 0 }]
  methods := #[k10m0]
  instanceTypes := #[(.array .byte), .byte, .int, .boolean]
  staticTypes := #[.long, .boolean, (.array (.object "java/io/ObjectStreamField")), .char, (.object "java/util/Comparator"), .byte, .byte]
  resolved := Array.replicate 1451 none
  statics := none }

def pool11 : Array CpInfo := pool [(1, u "java/lang/Cloneable"), (0, .class_ 1), (0, u "java/lang/Object"), (0, .class_ 3)] 3

/-- java/lang/Cloneable -/
def k11 : Class := { plain "java/lang/Cloneable" (some 0) with
  accessFlags := 1537
  interfaces := #[]
  cf := some (fileOf pool11 2 #[] #[] 1537 4 #[] #[])
  fields := #[]
  methods := #[]
  instanceTypes := #[]
  staticTypes := #[]
  resolved := Array.replicate 8 none
  statics := none }

/-- the primitive byte -/
def k12 : Class := { plain "byte" none with kind := .primitive 'B', accessFlags := 0x411 }
/-- [B -/
def k13 : Class := { plain "[B" (some 0) with kind := .array 12 .byte, interfaces := #[11, 4], accessFlags := 1041 }

/-- the primitive int -/
def k14 : Class := { plain "int" none with kind := .primitive 'I', accessFlags := 0x411 }
/-- [I -/
def k15 : Class := { plain "[I" (some 0) with kind := .array 14 .int, interfaces := #[11, 4], accessFlags := 1041 }

def heap : Heap := #[{ cls := 7, slots := #[.ref 2, .ref 3, .ref 4, .null], vm := .statics 7 },
  { cls := 10, slots := #[.null, .int 0, .int 0, .int 0], vm := .none },
  { cls := 7, slots := #[.null, .int 0, .int 0, .null, .ref 1], vm := .none },
  { cls := 7, slots := #[.null, .int 1, .int 0, .null, .null], vm := .none },
  { cls := 7, slots := #[.null, .int 2, .int 0, .null, .ref 1], vm := .none }]
def classes : Array Class := #[k0, k1, k2, k3, k4, k5, k6, k7, k8, k9, k10, k11, k12, k13, k14, k15]
def interned : List (Array UInt16 × Addr) := []
def slotsUsed : Nat := 23
def theMethod : MethodId := ⟨1, 1⟩
def args0 : Array Value := #[.int 4]
def aboutOver (below : List Frame) : State where
  vm := { classes := classes, interned := interned.toArray }
  heap := heap
  slotsUsed := slotsUsed
  threads := #[{ frames := .invoking theMethod args0 :: below }]
def below0 : List Frame := [.native { method := ⟨0, 0⟩, args := #[] }]
def about1 : State := aboutOver below0
def p0 : Program := .bare "" "" ""
def e0 : Env := launch0.env 0 0 0
theorem w_frames : about1.frames = Frame.invoking theMethod args0 :: below0 := rfl
set_option maxRecDepth 65536 in
theorem w_args : argsFit about1.vm theMethod args0 = true := by decide +kernel
set_option maxRecDepth 65536 in
theorem w_heap : heapFits about1 = true := by decide +kernel
set_option maxRecDepth 65536 in
theorem w_runnable : about1.curStatus? = some .runnable := by decide +kernel
set_option maxRecDepth 65536 in
theorem w_alone : about1.alone = true := by decide +kernel
set_option maxRecDepth 65536 in
theorem w_named : about1.methodNamed? x = some theMethod := by decide +kernel
set_option maxRecDepth 65536 in
theorem w_hears : about1.hears theMethod below0 = true := by decide +kernel
set_option maxRecDepth 65536 in
theorem w_ripe : about1.ripe theMethod args0 below0 = true := by decide +kernel
theorem w_running : about1.status = .running := rfl
set_option maxRecDepth 65536 in
theorem w_room : about1.hasRoom e0.platform room_1 = true :=
  launch0.hasRoom_least _ room_1 (by decide +kernel) (by decide +kernel) (by decide +kernel) (by decide +kernel) (by decide +kernel) (by decide +kernel)
theorem allAtoms_all (ts : List Jvm.Cond) (a : Array Jvm.Value) (st : Jvm.State) : (allAtoms ts).before a st = ts.all (fun c => c.before a st) := by
  induction ts with
  | nil => rfl
  | cons c t ih =>
    show (Jvm.Cond.and c (allAtoms t)).before a st = _
    rw [Jvm.Cond.before_and, ih, List.all_cons]
def words1 : List Jvm.Cond := Jvm.Cond.code x code maxLocals ret :: tables_1
/-- a 'code' word, met by the world's own term for the bytes: nothing is compared byte by byte -/
theorem code_word {y : MethodName} {bytes : ByteArray} {mx : Nat} {rt : Option FieldType} {a : Array Value} {s : State} {m : MethodId} {meth : Method} {c : Code} (h1 : s.methodNamed? y = some m) (h2 : s.vm.method? m = some meth) (h3 : meth.code = some c) (h4 : c.code = bytes)
    (h5 : (c.maxLocals == mx && c.exceptionTable.isEmpty && decide (c.maxStack ≤ mostOperands) && decide (meth.sig.returnType = rt) && !meth.locks && decide (parseMethodDescriptor y.desc = some meth.sig)) = true) : (Jvm.Cond.code y bytes mx rt).before a s = true := by
  simp only [Bool.and_eq_true, beq_iff_eq, Bool.not_eq_true', decide_eq_true_eq] at h5
  obtain ⟨⟨⟨⟨⟨g1, g2⟩, g3⟩, g4⟩, g5⟩, g6⟩ := h5
  simp [Cond.before, Cond.holds, Cond.value, h1, h2, h3, h4, g1, g2, g3, g4, g5, g6]
def isCode : Jvm.Cond → Bool
  | .code _ _ _ _ => true
  | _ => false
theorem all_split {L : List Jvm.Cond} {P : Jvm.Cond → Bool} (h1 : L.all (fun c => isCode c || P c) = true) (h2 : ∀ c ∈ L.filter isCode, P c = true) : L.all P = true := by
  refine List.all_eq_true.mpr fun c hc => ?_
  have h := List.all_eq_true.mp h1 c hc
  rcases Bool.eq_false_or_eq_true (isCode c) with hi | hi
  · exact h2 c (List.mem_filter.mpr ⟨hc, hi⟩)
  · simpa [hi] using h
set_option maxRecDepth 65536 in
theorem w_c0 : (Jvm.Cond.code x code maxLocals ret).before args0 about1 = true := code_word (m := ⟨1, 1⟩) (meth := k1m1) (c := k1c1) (by decide +kernel) rfl rfl rfl (by decide +kernel)
set_option maxRecDepth 65536 in
theorem w_c1 : (Jvm.Cond.code ({ cls := "com/example/kazi/kazi/model/Fire$Outcome", name := "audited", desc := "()Z" } : Jvm.MethodName) prog_30_method_6_code (1 : Nat) (Option.some Jvm.ClassFile.FieldType.boolean)).before args0 about1 = true := code_word (m := ⟨7, 1⟩) (meth := k7m1) (c := k7c1) (by decide +kernel) rfl rfl rfl (by decide +kernel)
set_option maxRecDepth 65536 in
theorem w_c2 : (Jvm.Cond.code ({ cls := "com/example/kazi/kazi/model/Fire$Outcome", name := "endEvent", desc := "()Ljava/lang/String;" } : Jvm.MethodName) prog_30_method_5_code (1 : Nat) (Option.some (Jvm.ClassFile.FieldType.object "java/lang/String"))).before args0 about1 = true := code_word (m := ⟨7, 0⟩) (meth := k7m0) (c := k7c0) (by decide +kernel) rfl rfl rfl (by decide +kernel)
def codes1 : List Jvm.Cond := [Jvm.Cond.code x code maxLocals ret, Jvm.Cond.code ({ cls := "com/example/kazi/kazi/model/Fire$Outcome", name := "audited", desc := "()Z" } : Jvm.MethodName) prog_30_method_6_code (1 : Nat) (Option.some Jvm.ClassFile.FieldType.boolean), Jvm.Cond.code ({ cls := "com/example/kazi/kazi/model/Fire$Outcome", name := "endEvent", desc := "()Ljava/lang/String;" } : Jvm.MethodName) prog_30_method_5_code (1 : Nat) (Option.some (Jvm.ClassFile.FieldType.object "java/lang/String"))]
set_option maxRecDepth 65536 in
theorem codes_eq : words1.filter isCode = codes1 := rfl
theorem w_codes : ∀ c ∈ words1.filter isCode, c.before args0 about1 = true := by
  rw [codes_eq]
  intro c hc
  simp only [codes1, List.mem_cons, List.not_mem_nil, or_false] at hc
  rcases hc with rfl | rfl | rfl
  · exact w_c0
  · exact w_c1
  · exact w_c2
set_option maxRecDepth 65536 in
theorem w_t1 : words1.all (fun c => isCode c || c.before args0 about1) = true := by decide +kernel
theorem w_tables : (allAtoms (Jvm.Cond.code x code maxLocals ret :: tables_1)).before args0 about1 = true := by
  rw [allAtoms_all]
  show words1.all (fun c => c.before args0 about1) = true
  refine all_split ?_ w_codes
  rw [w_t1]
set_option maxRecDepth 65536 in
theorem w_case : (Jvm.Cond.and given_1 narrow_1).before args0 about1 = true := by decide +kernel
theorem w_applies : (headSpec (Jvm.Cond.code x code maxLocals ret :: tables_1) room_1).applies x e0.platform about1 = true :=
  (Spec.applies_iff w_frames).mpr ⟨w_running, w_runnable, w_alone, w_named, w_hears, w_ripe, w_room, w_tables⟩
theorem atStart : AtStart classFile x code maxLocals ret World_1 tables_1 room_1 Calls_1 rest_1 Pre_1 launch0 p0 e0 about1 theMethod args0 below0 :=
  ⟨lists_1, trivial, launch0.admits_env _ _ _, launch0.least_env, fairChoices_fair.cas, fairChoices_fair.clock, w_frames, w_args, w_heap, w_applies, trivial, trivial, w_case⟩
end start1
theorem witness_1 : WitnessClaimed_1 := ⟨start1.p0, start1.e0, start1.about1, start1.theMethod, start1.args0, start1.below0, start1.atStart⟩
end Jvm.Pilot.@@N@@
