import JvmDerived
import JvmDerived.Pilot.@@N@@Statement
import JvmDerived.Pilot.@@N@@Code
set_option linter.unusedVariables false
set_option linter.unusedSimpArgs false
namespace Jvm.Pilot.@@N@@
open Jvm Jvm.ClassFile Sem Op Lib Jvm.Free Jvm.Stand Jvm.LawKit Jvm.RoadKit Bundle Jvm.Pilot.@@N@@.Jvm.D
def QR (r : Value) (h0 : Heap) (n0 : Nat) (v : Option Value) (h : Heap) (L : List Loc) : Prop := v = some r ∧ Fr n0 L ∧ h = h0
def RO (l : Launch) (Z : State) (y : MethodName) (bytes : ByteArray) (ml : Nat) (rt : Option FieldType) (R : Room) (as : Array Value) (h0 : Heap) (n0 : Nat) (r : Value) : Prop :=
  ∀ ws : List Jvm.Cond, MetFree l y (head1 (Jvm.Cond.code y bytes ml rt :: ws) R) (fun a U => a = as ∧ Z.Warmed39 U.vm ∧ U.heap = h0) (fun _ _ _ _ _ => True) (fun _ U o U' => ∃ v L, o = .returned v ∧ QR r h0 n0 v U'.heap L ∧ FrameEnd U o U' L R.cells R.slots)
theorem own_eq_int {t : Term} {n : Int32} {args : Array Value} {Z : State} (h : (Jvm.Cond.eq t (.int n)).value args Z none Z [] = some true) : t.eval args Z none [] Z = some (.int n) := by
  have hn : (Term.int n).eval args Z none [] Z = some (.int n) := rfl
  simp only [Cond.value, hn] at h
  cases ht : t.eval args Z none [] Z with
  | none => simp [ht] at h
  | some x => cases x <;> simp [ht] at h ⊢; exact h
theorem own_eq_ref {t u : Term} {a : Addr} {args : Array Value} {Z : State} (h : (Jvm.Cond.eq t u).value args Z none Z [] = some true) (hu : u.eval args Z none [] Z = some (.ref a)) : t.eval args Z none [] Z = some (.ref a) := by
  simp only [Cond.value, hu] at h
  cases ht : t.eval args Z none [] Z with
  | none => simp [ht] at h
  | some x => cases x <;> simp [ht] at h ⊢; exact h
theorem own_ne {Z : State} {a b : Addr} {C n d : String} {u v : Value} (h1 : Z.fieldOf? a C n d = some u) (h2 : Z.fieldOf? b C n d = some v) (h : u ≠ v) : ¬ (a = b) := fun e => by
  subst e; rw [h1] at h2; exact h (Option.some.inj h2)
theorem d1_0 : decode prog_20_method_4_code 0 = .ok (.iload_n 1, 1) := by decide +kernel
theorem d1_1 : decode prog_20_method_4_code 1 = .ok (.bipush 32, 2) := by decide +kernel
theorem d1_3 : decode prog_20_method_4_code 3 = .ok (.if_icmp .eq 29, 3) := by decide +kernel
theorem d1_32 : decode prog_20_method_4_code 32 = .ok (.iconst 1, 1) := by decide +kernel
theorem d1_33 : decode prog_20_method_4_code 33 = .ok (.goto 4, 3) := by decide +kernel
theorem d1_37 : decode prog_20_method_4_code 37 = .ok (.ireturn, 1) := by decide +kernel
theorem pn_1 : plainName "com/example/rowtide/rowtide/binlog/CharacterSet$Spacing" = true := by first | (simp [plainName, overriddenIn]; done) | decide +kernel
theorem ef_1 (m : MethodId) (x0 : Addr) (x1 : Int32) : entryFrame m #[(.ref x0), (.int x1)] 2 = mkF m 0 #[.val (.ref x0), .val (.int x1)] [] := by first | (simp [entryFrame, mkF, argsToLocals, Value.category]; done) | rfl
set_option maxRecDepth 65536 in
set_option maxHeartbeats 40000000 in
theorem sp_A (l : Launch) (Z : State) (a0 : Array Value) (hw : ∀ d ∈ tables_1, d.before a0 Z = true) (a : Addr) (cc : Int32) (h0 : Heap) (n0 : Nat) (Z0 : n0 ≤ h0.size) (hc3 : cc = (32 : Int32)) :
    RO l Z (⟨"com/example/rowtide/rowtide/binlog/CharacterSet$Spacing", "space", "(C)Z"⟩ : MethodName) prog_20_method_4_code 2 (some .boolean) ({ frames := 0, cells := 0, slots := 0, locals := 0 } : Room) #[(.ref a), (.int cc)] h0 n0 (.int (1 : Int32)) := by
  intro ws
  refine MetFree.of_bodySF (plainFor_of_name pn_1) hisR ?_
  intro p e s m args below meth c s₁ Bd hml0 hP hK
  obtain ⟨rfl, hZ, hh⟩ := hP
  have hx := Bd.exec
  have hby := Bd.bytes
  have hml : c.maxLocals = 2 := hml0
  have hown : s.vm.findClass "com/example/rowtide/rowtide/binlog/CharacterSet$Spacing" = some m.cls := findClass_of_methodNamed Bd.named
  have hnm := (name_of_methodNamed Bd.named Bd.method).1
  have X0 : Stand p l e ({ frames := 0, cells := 0, slots := 0, locals := 0 } : Room) s m #[(.ref a), (.int cc)] below meth c s₁ [] 0 0 := Stand.of_body Bd
  have e0 : s₁.heap = h0 := by rw [← hh, Bd.state]; rfl
  have N0 := Fr.nil n0
  have pre0 : ∀ t_, Steps p.tables e below (s₁.setTop (mkF m 0 #[.val (.ref a), .val (.int cc)] [])) t_ → Steps p.tables e below (s₁.setTop (entryFrame m #[(.ref a), (.int cc)] 2)) t_ := fun t_ k_ => castTop (ef_1 m a cc) k_
  obtain ⟨fs, hr, hrun, hended, hW, hsame⟩ := X0.leave (v := some (.int (1 : Int32))) (fun h => by rw [Bd.returns] at h; cases h)
  refine ⟨_, _, pre0 _ ?_, hrun, hended, _, _, rfl, ?_, ⟨_, rfl⟩, hW, hsame.mono (by decide) (by decide)⟩
  · show Steps p.tables e below (s₁.setTop (mkF m 0 #[.val (.ref a), .val (.int cc)] [])) _
    refine XS.iloadN X0.here hx rfl (hb hby d1_0) rfl ?_
    show Steps p.tables e below (s₁.setTop (mkF m 1 #[.val (.ref a), .val (.int cc)] [(.int cc)])) _
    refine XS.bipush X0.here hx rfl (hb hby d1_1) ?_
    show Steps p.tables e below (s₁.setTop (mkF m 3 #[.val (.ref a), .val (.int cc)] [(.int (32 : Int32)), (.int cc)])) _
    refine XS.icmpYes X0.here hx rfl (pc0 := 3) (pc' := 32) rfl (hb hby d1_3) rfl (teq hc3).1 (by decide) (by decide) ?_
    show Steps p.tables e below (s₁.setTop (mkF m 32 #[.val (.ref a), .val (.int cc)] [])) _
    refine XS.iconst X0.here hx rfl (hb hby d1_32) ?_
    show Steps p.tables e below (s₁.setTop (mkF m 33 #[.val (.ref a), .val (.int cc)] [(.int (1 : Int32))])) _
    refine XS.goto X0.here hx rfl (pc0 := 33) (pc' := 37) rfl (hb hby d1_33) (by decide) (by decide) ?_
    show Steps p.tables e below (s₁.setTop (mkF m 37 #[.val (.ref a), .val (.int cc)] [(.int (1 : Int32))])) _
    exact retN X0 hx (t := .boolean) Bd.returns (by simp) (hb hby d1_37) hr
  · exact ⟨rfl, N0, e0⟩
theorem d1_6 : decode prog_20_method_4_code 6 = .ok (.iload_n 1, 1) := by decide +kernel
theorem d1_7 : decode prog_20_method_4_code 7 = .ok (.bipush 9, 2) := by decide +kernel
theorem d1_9 : decode prog_20_method_4_code 9 = .ok (.if_icmp .lt 9, 3) := by decide +kernel
theorem d1_12 : decode prog_20_method_4_code 12 = .ok (.iload_n 1, 1) := by decide +kernel
theorem d1_13 : decode prog_20_method_4_code 13 = .ok (.bipush 13, 2) := by decide +kernel
theorem d1_15 : decode prog_20_method_4_code 15 = .ok (.if_icmp .le 17, 3) := by decide +kernel
set_option maxRecDepth 65536 in
set_option maxHeartbeats 40000000 in
theorem sp_B (l : Launch) (Z : State) (a0 : Array Value) (hw : ∀ d ∈ tables_1, d.before a0 Z = true) (a : Addr) (cc : Int32) (h0 : Heap) (n0 : Nat) (Z0 : n0 ≤ h0.size) (hc3 : ¬ (cc = (32 : Int32))) (hc9 : ¬ (cc < (9 : Int32))) (hc15 : ¬ ((13 : Int32) < cc)) :
    RO l Z (⟨"com/example/rowtide/rowtide/binlog/CharacterSet$Spacing", "space", "(C)Z"⟩ : MethodName) prog_20_method_4_code 2 (some .boolean) ({ frames := 0, cells := 0, slots := 0, locals := 0 } : Room) #[(.ref a), (.int cc)] h0 n0 (.int (1 : Int32)) := by
  intro ws
  refine MetFree.of_bodySF (plainFor_of_name pn_1) hisR ?_
  intro p e s m args below meth c s₁ Bd hml0 hP hK
  obtain ⟨rfl, hZ, hh⟩ := hP
  have hx := Bd.exec
  have hby := Bd.bytes
  have hml : c.maxLocals = 2 := hml0
  have hown : s.vm.findClass "com/example/rowtide/rowtide/binlog/CharacterSet$Spacing" = some m.cls := findClass_of_methodNamed Bd.named
  have hnm := (name_of_methodNamed Bd.named Bd.method).1
  have X0 : Stand p l e ({ frames := 0, cells := 0, slots := 0, locals := 0 } : Room) s m #[(.ref a), (.int cc)] below meth c s₁ [] 0 0 := Stand.of_body Bd
  have e0 : s₁.heap = h0 := by rw [← hh, Bd.state]; rfl
  have N0 := Fr.nil n0
  have pre0 : ∀ t_, Steps p.tables e below (s₁.setTop (mkF m 0 #[.val (.ref a), .val (.int cc)] [])) t_ → Steps p.tables e below (s₁.setTop (entryFrame m #[(.ref a), (.int cc)] 2)) t_ := fun t_ k_ => castTop (ef_1 m a cc) k_
  obtain ⟨fs, hr, hrun, hended, hW, hsame⟩ := X0.leave (v := some (.int (1 : Int32))) (fun h => by rw [Bd.returns] at h; cases h)
  refine ⟨_, _, pre0 _ ?_, hrun, hended, _, _, rfl, ?_, ⟨_, rfl⟩, hW, hsame.mono (by decide) (by decide)⟩
  · show Steps p.tables e below (s₁.setTop (mkF m 0 #[.val (.ref a), .val (.int cc)] [])) _
    refine XS.iloadN X0.here hx rfl (hb hby d1_0) rfl ?_
    show Steps p.tables e below (s₁.setTop (mkF m 1 #[.val (.ref a), .val (.int cc)] [(.int cc)])) _
    refine XS.bipush X0.here hx rfl (hb hby d1_1) ?_
    show Steps p.tables e below (s₁.setTop (mkF m 3 #[.val (.ref a), .val (.int cc)] [(.int (32 : Int32)), (.int cc)])) _
    refine XS.icmpNo X0.here hx rfl (hb hby d1_3) rfl (feq hc3).1 ?_
    show Steps p.tables e below (s₁.setTop (mkF m 6 #[.val (.ref a), .val (.int cc)] [])) _
    refine XS.iloadN X0.here hx rfl (hb hby d1_6) rfl ?_
    show Steps p.tables e below (s₁.setTop (mkF m 7 #[.val (.ref a), .val (.int cc)] [(.int cc)])) _
    refine XS.bipush X0.here hx rfl (hb hby d1_7) ?_
    show Steps p.tables e below (s₁.setTop (mkF m 9 #[.val (.ref a), .val (.int cc)] [(.int (9 : Int32)), (.int cc)])) _
    refine XS.icmpNo X0.here hx rfl (hb hby d1_9) rfl (flt hc9).1 ?_
    show Steps p.tables e below (s₁.setTop (mkF m 12 #[.val (.ref a), .val (.int cc)] [])) _
    refine XS.iloadN X0.here hx rfl (hb hby d1_12) rfl ?_
    show Steps p.tables e below (s₁.setTop (mkF m 13 #[.val (.ref a), .val (.int cc)] [(.int cc)])) _
    refine XS.bipush X0.here hx rfl (hb hby d1_13) ?_
    show Steps p.tables e below (s₁.setTop (mkF m 15 #[.val (.ref a), .val (.int cc)] [(.int (13 : Int32)), (.int cc)])) _
    refine XS.icmpYes X0.here hx rfl (pc0 := 15) (pc' := 32) rfl (hb hby d1_15) rfl (flt hc15).2.2.2 (by decide) (by decide) ?_
    show Steps p.tables e below (s₁.setTop (mkF m 32 #[.val (.ref a), .val (.int cc)] [])) _
    refine XS.iconst X0.here hx rfl (hb hby d1_32) ?_
    show Steps p.tables e below (s₁.setTop (mkF m 33 #[.val (.ref a), .val (.int cc)] [(.int (1 : Int32))])) _
    refine XS.goto X0.here hx rfl (pc0 := 33) (pc' := 37) rfl (hb hby d1_33) (by decide) (by decide) ?_
    show Steps p.tables e below (s₁.setTop (mkF m 37 #[.val (.ref a), .val (.int cc)] [(.int (1 : Int32))])) _
    exact retN X0 hx (t := .boolean) Bd.returns (by simp) (hb hby d1_37) hr
  · exact ⟨rfl, N0, e0⟩
theorem d1_18 : decode prog_20_method_4_code 18 = .ok (.aload_n 0, 1) := by decide +kernel
theorem d1_19 : decode prog_20_method_4_code 19 = .ok (.getstatic 7, 3) := by decide +kernel
theorem d1_22 : decode prog_20_method_4_code 22 = .ok (.if_acmp .ne 14, 3) := by decide +kernel
theorem d1_36 : decode prog_20_method_4_code 36 = .ok (.iconst 0, 1) := by decide +kernel
set_option maxRecDepth 65536 in
set_option maxHeartbeats 40000000 in
theorem sp_C1 (l : Launch) (Z : State) (a0 : Array Value) (hw : ∀ d ∈ tables_1, d.before a0 Z = true) (a b : Addr) (cc : Int32) (h0 : Heap) (n0 : Nat) (Z0 : n0 ≤ h0.size) (S_LATIN1 : Sta Z h0 "com/example/rowtide/rowtide/binlog/CharacterSet$Spacing" "LATIN1" "Lcom/example/rowtide/rowtide/binlog/CharacterSet$Spacing;" (.ref b)) (hc3 : ¬ (cc = (32 : Int32))) (hc9 : cc < (9 : Int32)) (ha22 : ¬ (a = b)) :
    RO l Z (⟨"com/example/rowtide/rowtide/binlog/CharacterSet$Spacing", "space", "(C)Z"⟩ : MethodName) prog_20_method_4_code 2 (some .boolean) ({ frames := 0, cells := 0, slots := 0, locals := 0 } : Room) #[(.ref a), (.int cc)] h0 n0 (.int (0 : Int32)) := by
  intro ws
  refine MetFree.of_bodySF (plainFor_of_name pn_1) hisR ?_
  intro p e s m args below meth c s₁ Bd hml0 hP hK
  obtain ⟨rfl, hZ, hh⟩ := hP
  have hx := Bd.exec
  have hby := Bd.bytes
  have hml : c.maxLocals = 2 := hml0
  have hown : s.vm.findClass "com/example/rowtide/rowtide/binlog/CharacterSet$Spacing" = some m.cls := findClass_of_methodNamed Bd.named
  have hnm := (name_of_methodNamed Bd.named Bd.method).1
  have X0 : Stand p l e ({ frames := 0, cells := 0, slots := 0, locals := 0 } : Room) s m #[(.ref a), (.int cc)] below meth c s₁ [] 0 0 := Stand.of_body Bd
  have e0 : s₁.heap = h0 := by rw [← hh, Bd.state]; rfl
  have N0 := Fr.nil n0
  have pre0 : ∀ t_, Steps p.tables e below (s₁.setTop (mkF m 0 #[.val (.ref a), .val (.int cc)] [])) t_ → Steps p.tables e below (s₁.setTop (entryFrame m #[(.ref a), (.int cc)] 2)) t_ := fun t_ k_ => castTop (ef_1 m a cc) k_
  obtain ⟨T1, X1, e1, st1⟩ := getS2 X0 hx hZ hown (host := "") (Or.inl (hw _ (List.mem_of_getElem? (i := 8) rfl))) Via.refl e0 S_LATIN1 (g := (mkF m 19 #[.val (.ref a), .val (.int cc)] [(.ref a)])) rfl (hb hby d1_19)
  obtain ⟨fs, hr, hrun, hended, hW, hsame⟩ := X1.leave (v := some (.int (0 : Int32))) (fun h => by rw [Bd.returns] at h; cases h)
  refine ⟨_, _, pre0 _ ?_, hrun, hended, _, _, rfl, ?_, ⟨_, rfl⟩, hW, hsame.mono (by decide) (by decide)⟩
  · show Steps p.tables e below (s₁.setTop (mkF m 0 #[.val (.ref a), .val (.int cc)] [])) _
    refine XS.iloadN X0.here hx rfl (hb hby d1_0) rfl ?_
    show Steps p.tables e below (s₁.setTop (mkF m 1 #[.val (.ref a), .val (.int cc)] [(.int cc)])) _
    refine XS.bipush X0.here hx rfl (hb hby d1_1) ?_
    show Steps p.tables e below (s₁.setTop (mkF m 3 #[.val (.ref a), .val (.int cc)] [(.int (32 : Int32)), (.int cc)])) _
    refine XS.icmpNo X0.here hx rfl (hb hby d1_3) rfl (feq hc3).1 ?_
    show Steps p.tables e below (s₁.setTop (mkF m 6 #[.val (.ref a), .val (.int cc)] [])) _
    refine XS.iloadN X0.here hx rfl (hb hby d1_6) rfl ?_
    show Steps p.tables e below (s₁.setTop (mkF m 7 #[.val (.ref a), .val (.int cc)] [(.int cc)])) _
    refine XS.bipush X0.here hx rfl (hb hby d1_7) ?_
    show Steps p.tables e below (s₁.setTop (mkF m 9 #[.val (.ref a), .val (.int cc)] [(.int (9 : Int32)), (.int cc)])) _
    refine XS.icmpYes X0.here hx rfl (pc0 := 9) (pc' := 18) rfl (hb hby d1_9) rfl (tlt hc9).1 (by decide) (by decide) ?_
    show Steps p.tables e below (s₁.setTop (mkF m 18 #[.val (.ref a), .val (.int cc)] [])) _
    refine XS.aloadN X0.here hx rfl (hb hby d1_18) rfl rfl ?_
    show Steps p.tables e below (s₁.setTop (mkF m 19 #[.val (.ref a), .val (.int cc)] [(.ref a)])) _
    refine st1 _ ?_
    show Steps p.tables e below (T1.setTop (mkF m 22 #[.val (.ref a), .val (.int cc)] [(.ref b), (.ref a)])) _
    refine Jvm.RoadKit.acmp (g := (mkF m 22 #[.val (.ref a), .val (.int cc)] [(.ref b), (.ref a)])) X1 hx rfl rfl rfl (pc0 := 22) (pc' := 36) (same := false) rfl (hb hby d1_22) rfl (decide_eq_false fun q => ha22 (Value.ref.inj q)) (by decide) (by decide) ?_
    show Steps p.tables e below (T1.setTop (mkF m 36 #[.val (.ref a), .val (.int cc)] [])) _
    refine XS.iconst X1.here hx rfl (hb hby d1_36) ?_
    show Steps p.tables e below (T1.setTop (mkF m 37 #[.val (.ref a), .val (.int cc)] [(.int (0 : Int32))])) _
    exact retN X1 hx (t := .boolean) Bd.returns (by simp) (hb hby d1_37) hr
  · exact ⟨rfl, N0, e1⟩
set_option maxRecDepth 65536 in
set_option maxHeartbeats 40000000 in
theorem sp_C2 (l : Launch) (Z : State) (a0 : Array Value) (hw : ∀ d ∈ tables_1, d.before a0 Z = true) (a b : Addr) (cc : Int32) (h0 : Heap) (n0 : Nat) (Z0 : n0 ≤ h0.size) (S_LATIN1 : Sta Z h0 "com/example/rowtide/rowtide/binlog/CharacterSet$Spacing" "LATIN1" "Lcom/example/rowtide/rowtide/binlog/CharacterSet$Spacing;" (.ref b)) (hc3 : ¬ (cc = (32 : Int32))) (hc9 : ¬ (cc < (9 : Int32))) (hc15 : (13 : Int32) < cc) (ha22 : ¬ (a = b)) :
    RO l Z (⟨"com/example/rowtide/rowtide/binlog/CharacterSet$Spacing", "space", "(C)Z"⟩ : MethodName) prog_20_method_4_code 2 (some .boolean) ({ frames := 0, cells := 0, slots := 0, locals := 0 } : Room) #[(.ref a), (.int cc)] h0 n0 (.int (0 : Int32)) := by
  intro ws
  refine MetFree.of_bodySF (plainFor_of_name pn_1) hisR ?_
  intro p e s m args below meth c s₁ Bd hml0 hP hK
  obtain ⟨rfl, hZ, hh⟩ := hP
  have hx := Bd.exec
  have hby := Bd.bytes
  have hml : c.maxLocals = 2 := hml0
  have hown : s.vm.findClass "com/example/rowtide/rowtide/binlog/CharacterSet$Spacing" = some m.cls := findClass_of_methodNamed Bd.named
  have hnm := (name_of_methodNamed Bd.named Bd.method).1
  have X0 : Stand p l e ({ frames := 0, cells := 0, slots := 0, locals := 0 } : Room) s m #[(.ref a), (.int cc)] below meth c s₁ [] 0 0 := Stand.of_body Bd
  have e0 : s₁.heap = h0 := by rw [← hh, Bd.state]; rfl
  have N0 := Fr.nil n0
  have pre0 : ∀ t_, Steps p.tables e below (s₁.setTop (mkF m 0 #[.val (.ref a), .val (.int cc)] [])) t_ → Steps p.tables e below (s₁.setTop (entryFrame m #[(.ref a), (.int cc)] 2)) t_ := fun t_ k_ => castTop (ef_1 m a cc) k_
  obtain ⟨T1, X1, e1, st1⟩ := getS2 X0 hx hZ hown (host := "") (Or.inl (hw _ (List.mem_of_getElem? (i := 8) rfl))) Via.refl e0 S_LATIN1 (g := (mkF m 19 #[.val (.ref a), .val (.int cc)] [(.ref a)])) rfl (hb hby d1_19)
  obtain ⟨fs, hr, hrun, hended, hW, hsame⟩ := X1.leave (v := some (.int (0 : Int32))) (fun h => by rw [Bd.returns] at h; cases h)
  refine ⟨_, _, pre0 _ ?_, hrun, hended, _, _, rfl, ?_, ⟨_, rfl⟩, hW, hsame.mono (by decide) (by decide)⟩
  · show Steps p.tables e below (s₁.setTop (mkF m 0 #[.val (.ref a), .val (.int cc)] [])) _
    refine XS.iloadN X0.here hx rfl (hb hby d1_0) rfl ?_
    show Steps p.tables e below (s₁.setTop (mkF m 1 #[.val (.ref a), .val (.int cc)] [(.int cc)])) _
    refine XS.bipush X0.here hx rfl (hb hby d1_1) ?_
    show Steps p.tables e below (s₁.setTop (mkF m 3 #[.val (.ref a), .val (.int cc)] [(.int (32 : Int32)), (.int cc)])) _
    refine XS.icmpNo X0.here hx rfl (hb hby d1_3) rfl (feq hc3).1 ?_
    show Steps p.tables e below (s₁.setTop (mkF m 6 #[.val (.ref a), .val (.int cc)] [])) _
    refine XS.iloadN X0.here hx rfl (hb hby d1_6) rfl ?_
    show Steps p.tables e below (s₁.setTop (mkF m 7 #[.val (.ref a), .val (.int cc)] [(.int cc)])) _
    refine XS.bipush X0.here hx rfl (hb hby d1_7) ?_
    show Steps p.tables e below (s₁.setTop (mkF m 9 #[.val (.ref a), .val (.int cc)] [(.int (9 : Int32)), (.int cc)])) _
    refine XS.icmpNo X0.here hx rfl (hb hby d1_9) rfl (flt hc9).1 ?_
    show Steps p.tables e below (s₁.setTop (mkF m 12 #[.val (.ref a), .val (.int cc)] [])) _
    refine XS.iloadN X0.here hx rfl (hb hby d1_12) rfl ?_
    show Steps p.tables e below (s₁.setTop (mkF m 13 #[.val (.ref a), .val (.int cc)] [(.int cc)])) _
    refine XS.bipush X0.here hx rfl (hb hby d1_13) ?_
    show Steps p.tables e below (s₁.setTop (mkF m 15 #[.val (.ref a), .val (.int cc)] [(.int (13 : Int32)), (.int cc)])) _
    refine XS.icmpNo X0.here hx rfl (hb hby d1_15) rfl (tlt hc15).2.2.2 ?_
    show Steps p.tables e below (s₁.setTop (mkF m 18 #[.val (.ref a), .val (.int cc)] [])) _
    refine XS.aloadN X0.here hx rfl (hb hby d1_18) rfl rfl ?_
    show Steps p.tables e below (s₁.setTop (mkF m 19 #[.val (.ref a), .val (.int cc)] [(.ref a)])) _
    refine st1 _ ?_
    show Steps p.tables e below (T1.setTop (mkF m 22 #[.val (.ref a), .val (.int cc)] [(.ref b), (.ref a)])) _
    refine Jvm.RoadKit.acmp (g := (mkF m 22 #[.val (.ref a), .val (.int cc)] [(.ref b), (.ref a)])) X1 hx rfl rfl rfl (pc0 := 22) (pc' := 36) (same := false) rfl (hb hby d1_22) rfl (decide_eq_false fun q => ha22 (Value.ref.inj q)) (by decide) (by decide) ?_
    show Steps p.tables e below (T1.setTop (mkF m 36 #[.val (.ref a), .val (.int cc)] [])) _
    refine XS.iconst X1.here hx rfl (hb hby d1_36) ?_
    show Steps p.tables e below (T1.setTop (mkF m 37 #[.val (.ref a), .val (.int cc)] [(.int (0 : Int32))])) _
    exact retN X1 hx (t := .boolean) Bd.returns (by simp) (hb hby d1_37) hr
  · exact ⟨rfl, N0, e1⟩
theorem d1_25 : decode prog_20_method_4_code 25 = .ok (.iload_n 1, 1) := by decide +kernel
theorem d1_26 : decode prog_20_method_4_code 26 = .ok (.sipush 160, 3) := by decide +kernel
theorem d1_29 : decode prog_20_method_4_code 29 = .ok (.if_icmp .ne 7, 3) := by decide +kernel
set_option maxRecDepth 65536 in
set_option maxHeartbeats 40000000 in
theorem sp_D1 (l : Launch) (Z : State) (a0 : Array Value) (hw : ∀ d ∈ tables_1, d.before a0 Z = true) (b : Addr) (cc : Int32) (h0 : Heap) (n0 : Nat) (Z0 : n0 ≤ h0.size) (S_LATIN1 : Sta Z h0 "com/example/rowtide/rowtide/binlog/CharacterSet$Spacing" "LATIN1" "Lcom/example/rowtide/rowtide/binlog/CharacterSet$Spacing;" (.ref b)) (hc3 : ¬ (cc = (32 : Int32))) (hc9 : cc < (9 : Int32)) (hc29 : ¬ (cc = (160 : Int32))) :
    RO l Z (⟨"com/example/rowtide/rowtide/binlog/CharacterSet$Spacing", "space", "(C)Z"⟩ : MethodName) prog_20_method_4_code 2 (some .boolean) ({ frames := 0, cells := 0, slots := 0, locals := 0 } : Room) #[(.ref b), (.int cc)] h0 n0 (.int (0 : Int32)) := by
  intro ws
  refine MetFree.of_bodySF (plainFor_of_name pn_1) hisR ?_
  intro p e s m args below meth c s₁ Bd hml0 hP hK
  obtain ⟨rfl, hZ, hh⟩ := hP
  have hx := Bd.exec
  have hby := Bd.bytes
  have hml : c.maxLocals = 2 := hml0
  have hown : s.vm.findClass "com/example/rowtide/rowtide/binlog/CharacterSet$Spacing" = some m.cls := findClass_of_methodNamed Bd.named
  have hnm := (name_of_methodNamed Bd.named Bd.method).1
  have X0 : Stand p l e ({ frames := 0, cells := 0, slots := 0, locals := 0 } : Room) s m #[(.ref b), (.int cc)] below meth c s₁ [] 0 0 := Stand.of_body Bd
  have e0 : s₁.heap = h0 := by rw [← hh, Bd.state]; rfl
  have N0 := Fr.nil n0
  have pre0 : ∀ t_, Steps p.tables e below (s₁.setTop (mkF m 0 #[.val (.ref b), .val (.int cc)] [])) t_ → Steps p.tables e below (s₁.setTop (entryFrame m #[(.ref b), (.int cc)] 2)) t_ := fun t_ k_ => castTop (ef_1 m b cc) k_
  obtain ⟨T1, X1, e1, st1⟩ := getS2 X0 hx hZ hown (host := "") (Or.inl (hw _ (List.mem_of_getElem? (i := 8) rfl))) Via.refl e0 S_LATIN1 (g := (mkF m 19 #[.val (.ref b), .val (.int cc)] [(.ref b)])) rfl (hb hby d1_19)
  obtain ⟨fs, hr, hrun, hended, hW, hsame⟩ := X1.leave (v := some (.int (0 : Int32))) (fun h => by rw [Bd.returns] at h; cases h)
  refine ⟨_, _, pre0 _ ?_, hrun, hended, _, _, rfl, ?_, ⟨_, rfl⟩, hW, hsame.mono (by decide) (by decide)⟩
  · show Steps p.tables e below (s₁.setTop (mkF m 0 #[.val (.ref b), .val (.int cc)] [])) _
    refine XS.iloadN X0.here hx rfl (hb hby d1_0) rfl ?_
    show Steps p.tables e below (s₁.setTop (mkF m 1 #[.val (.ref b), .val (.int cc)] [(.int cc)])) _
    refine XS.bipush X0.here hx rfl (hb hby d1_1) ?_
    show Steps p.tables e below (s₁.setTop (mkF m 3 #[.val (.ref b), .val (.int cc)] [(.int (32 : Int32)), (.int cc)])) _
    refine XS.icmpNo X0.here hx rfl (hb hby d1_3) rfl (feq hc3).1 ?_
    show Steps p.tables e below (s₁.setTop (mkF m 6 #[.val (.ref b), .val (.int cc)] [])) _
    refine XS.iloadN X0.here hx rfl (hb hby d1_6) rfl ?_
    show Steps p.tables e below (s₁.setTop (mkF m 7 #[.val (.ref b), .val (.int cc)] [(.int cc)])) _
    refine XS.bipush X0.here hx rfl (hb hby d1_7) ?_
    show Steps p.tables e below (s₁.setTop (mkF m 9 #[.val (.ref b), .val (.int cc)] [(.int (9 : Int32)), (.int cc)])) _
    refine XS.icmpYes X0.here hx rfl (pc0 := 9) (pc' := 18) rfl (hb hby d1_9) rfl (tlt hc9).1 (by decide) (by decide) ?_
    show Steps p.tables e below (s₁.setTop (mkF m 18 #[.val (.ref b), .val (.int cc)] [])) _
    refine XS.aloadN X0.here hx rfl (hb hby d1_18) rfl rfl ?_
    show Steps p.tables e below (s₁.setTop (mkF m 19 #[.val (.ref b), .val (.int cc)] [(.ref b)])) _
    refine st1 _ ?_
    show Steps p.tables e below (T1.setTop (mkF m 22 #[.val (.ref b), .val (.int cc)] [(.ref b), (.ref b)])) _
    refine Jvm.RoadKit.acmp (g := (mkF m 22 #[.val (.ref b), .val (.int cc)] [(.ref b), (.ref b)])) X1 hx rfl rfl rfl (pc0 := 22) (pc' := 25) (same := true) rfl (hb hby d1_22) rfl (decide_eq_true rfl) (by decide) (by decide) ?_
    show Steps p.tables e below (T1.setTop (mkF m 25 #[.val (.ref b), .val (.int cc)] [])) _
    refine XS.iloadN X1.here hx rfl (hb hby d1_25) rfl ?_
    show Steps p.tables e below (T1.setTop (mkF m 26 #[.val (.ref b), .val (.int cc)] [(.int cc)])) _
    refine XS.sipush X1.here hx rfl (hb hby d1_26) ?_
    show Steps p.tables e below (T1.setTop (mkF m 29 #[.val (.ref b), .val (.int cc)] [(.int (160 : Int32)), (.int cc)])) _
    refine XS.icmpYes X1.here hx rfl (pc0 := 29) (pc' := 36) rfl (hb hby d1_29) rfl (feq hc29).2 (by decide) (by decide) ?_
    show Steps p.tables e below (T1.setTop (mkF m 36 #[.val (.ref b), .val (.int cc)] [])) _
    refine XS.iconst X1.here hx rfl (hb hby d1_36) ?_
    show Steps p.tables e below (T1.setTop (mkF m 37 #[.val (.ref b), .val (.int cc)] [(.int (0 : Int32))])) _
    exact retN X1 hx (t := .boolean) Bd.returns (by simp) (hb hby d1_37) hr
  · exact ⟨rfl, N0, e1⟩
set_option maxRecDepth 65536 in
set_option maxHeartbeats 40000000 in
theorem sp_D2 (l : Launch) (Z : State) (a0 : Array Value) (hw : ∀ d ∈ tables_1, d.before a0 Z = true) (b : Addr) (cc : Int32) (h0 : Heap) (n0 : Nat) (Z0 : n0 ≤ h0.size) (S_LATIN1 : Sta Z h0 "com/example/rowtide/rowtide/binlog/CharacterSet$Spacing" "LATIN1" "Lcom/example/rowtide/rowtide/binlog/CharacterSet$Spacing;" (.ref b)) (hc3 : ¬ (cc = (32 : Int32))) (hc9 : ¬ (cc < (9 : Int32))) (hc15 : (13 : Int32) < cc) (hc29 : ¬ (cc = (160 : Int32))) :
    RO l Z (⟨"com/example/rowtide/rowtide/binlog/CharacterSet$Spacing", "space", "(C)Z"⟩ : MethodName) prog_20_method_4_code 2 (some .boolean) ({ frames := 0, cells := 0, slots := 0, locals := 0 } : Room) #[(.ref b), (.int cc)] h0 n0 (.int (0 : Int32)) := by
  intro ws
  refine MetFree.of_bodySF (plainFor_of_name pn_1) hisR ?_
  intro p e s m args below meth c s₁ Bd hml0 hP hK
  obtain ⟨rfl, hZ, hh⟩ := hP
  have hx := Bd.exec
  have hby := Bd.bytes
  have hml : c.maxLocals = 2 := hml0
  have hown : s.vm.findClass "com/example/rowtide/rowtide/binlog/CharacterSet$Spacing" = some m.cls := findClass_of_methodNamed Bd.named
  have hnm := (name_of_methodNamed Bd.named Bd.method).1
  have X0 : Stand p l e ({ frames := 0, cells := 0, slots := 0, locals := 0 } : Room) s m #[(.ref b), (.int cc)] below meth c s₁ [] 0 0 := Stand.of_body Bd
  have e0 : s₁.heap = h0 := by rw [← hh, Bd.state]; rfl
  have N0 := Fr.nil n0
  have pre0 : ∀ t_, Steps p.tables e below (s₁.setTop (mkF m 0 #[.val (.ref b), .val (.int cc)] [])) t_ → Steps p.tables e below (s₁.setTop (entryFrame m #[(.ref b), (.int cc)] 2)) t_ := fun t_ k_ => castTop (ef_1 m b cc) k_
  obtain ⟨T1, X1, e1, st1⟩ := getS2 X0 hx hZ hown (host := "") (Or.inl (hw _ (List.mem_of_getElem? (i := 8) rfl))) Via.refl e0 S_LATIN1 (g := (mkF m 19 #[.val (.ref b), .val (.int cc)] [(.ref b)])) rfl (hb hby d1_19)
  obtain ⟨fs, hr, hrun, hended, hW, hsame⟩ := X1.leave (v := some (.int (0 : Int32))) (fun h => by rw [Bd.returns] at h; cases h)
  refine ⟨_, _, pre0 _ ?_, hrun, hended, _, _, rfl, ?_, ⟨_, rfl⟩, hW, hsame.mono (by decide) (by decide)⟩
  · show Steps p.tables e below (s₁.setTop (mkF m 0 #[.val (.ref b), .val (.int cc)] [])) _
    refine XS.iloadN X0.here hx rfl (hb hby d1_0) rfl ?_
    show Steps p.tables e below (s₁.setTop (mkF m 1 #[.val (.ref b), .val (.int cc)] [(.int cc)])) _
    refine XS.bipush X0.here hx rfl (hb hby d1_1) ?_
    show Steps p.tables e below (s₁.setTop (mkF m 3 #[.val (.ref b), .val (.int cc)] [(.int (32 : Int32)), (.int cc)])) _
    refine XS.icmpNo X0.here hx rfl (hb hby d1_3) rfl (feq hc3).1 ?_
    show Steps p.tables e below (s₁.setTop (mkF m 6 #[.val (.ref b), .val (.int cc)] [])) _
    refine XS.iloadN X0.here hx rfl (hb hby d1_6) rfl ?_
    show Steps p.tables e below (s₁.setTop (mkF m 7 #[.val (.ref b), .val (.int cc)] [(.int cc)])) _
    refine XS.bipush X0.here hx rfl (hb hby d1_7) ?_
    show Steps p.tables e below (s₁.setTop (mkF m 9 #[.val (.ref b), .val (.int cc)] [(.int (9 : Int32)), (.int cc)])) _
    refine XS.icmpNo X0.here hx rfl (hb hby d1_9) rfl (flt hc9).1 ?_
    show Steps p.tables e below (s₁.setTop (mkF m 12 #[.val (.ref b), .val (.int cc)] [])) _
    refine XS.iloadN X0.here hx rfl (hb hby d1_12) rfl ?_
    show Steps p.tables e below (s₁.setTop (mkF m 13 #[.val (.ref b), .val (.int cc)] [(.int cc)])) _
    refine XS.bipush X0.here hx rfl (hb hby d1_13) ?_
    show Steps p.tables e below (s₁.setTop (mkF m 15 #[.val (.ref b), .val (.int cc)] [(.int (13 : Int32)), (.int cc)])) _
    refine XS.icmpNo X0.here hx rfl (hb hby d1_15) rfl (tlt hc15).2.2.2 ?_
    show Steps p.tables e below (s₁.setTop (mkF m 18 #[.val (.ref b), .val (.int cc)] [])) _
    refine XS.aloadN X0.here hx rfl (hb hby d1_18) rfl rfl ?_
    show Steps p.tables e below (s₁.setTop (mkF m 19 #[.val (.ref b), .val (.int cc)] [(.ref b)])) _
    refine st1 _ ?_
    show Steps p.tables e below (T1.setTop (mkF m 22 #[.val (.ref b), .val (.int cc)] [(.ref b), (.ref b)])) _
    refine Jvm.RoadKit.acmp (g := (mkF m 22 #[.val (.ref b), .val (.int cc)] [(.ref b), (.ref b)])) X1 hx rfl rfl rfl (pc0 := 22) (pc' := 25) (same := true) rfl (hb hby d1_22) rfl (decide_eq_true rfl) (by decide) (by decide) ?_
    show Steps p.tables e below (T1.setTop (mkF m 25 #[.val (.ref b), .val (.int cc)] [])) _
    refine XS.iloadN X1.here hx rfl (hb hby d1_25) rfl ?_
    show Steps p.tables e below (T1.setTop (mkF m 26 #[.val (.ref b), .val (.int cc)] [(.int cc)])) _
    refine XS.sipush X1.here hx rfl (hb hby d1_26) ?_
    show Steps p.tables e below (T1.setTop (mkF m 29 #[.val (.ref b), .val (.int cc)] [(.int (160 : Int32)), (.int cc)])) _
    refine XS.icmpYes X1.here hx rfl (pc0 := 29) (pc' := 36) rfl (hb hby d1_29) rfl (feq hc29).2 (by decide) (by decide) ?_
    show Steps p.tables e below (T1.setTop (mkF m 36 #[.val (.ref b), .val (.int cc)] [])) _
    refine XS.iconst X1.here hx rfl (hb hby d1_36) ?_
    show Steps p.tables e below (T1.setTop (mkF m 37 #[.val (.ref b), .val (.int cc)] [(.int (0 : Int32))])) _
    exact retN X1 hx (t := .boolean) Bd.returns (by simp) (hb hby d1_37) hr
  · exact ⟨rfl, N0, e1⟩
set_option maxRecDepth 65536 in
set_option maxHeartbeats 40000000 in
theorem sp_D3 (l : Launch) (Z : State) (a0 : Array Value) (hw : ∀ d ∈ tables_1, d.before a0 Z = true) (b : Addr) (cc : Int32) (h0 : Heap) (n0 : Nat) (Z0 : n0 ≤ h0.size) (S_LATIN1 : Sta Z h0 "com/example/rowtide/rowtide/binlog/CharacterSet$Spacing" "LATIN1" "Lcom/example/rowtide/rowtide/binlog/CharacterSet$Spacing;" (.ref b)) (hc3 : ¬ (cc = (32 : Int32))) (hc9 : ¬ (cc < (9 : Int32))) (hc15 : (13 : Int32) < cc) (hc29 : cc = (160 : Int32)) :
    RO l Z (⟨"com/example/rowtide/rowtide/binlog/CharacterSet$Spacing", "space", "(C)Z"⟩ : MethodName) prog_20_method_4_code 2 (some .boolean) ({ frames := 0, cells := 0, slots := 0, locals := 0 } : Room) #[(.ref b), (.int cc)] h0 n0 (.int (1 : Int32)) := by
  intro ws
  refine MetFree.of_bodySF (plainFor_of_name pn_1) hisR ?_
  intro p e s m args below meth c s₁ Bd hml0 hP hK
  obtain ⟨rfl, hZ, hh⟩ := hP
  have hx := Bd.exec
  have hby := Bd.bytes
  have hml : c.maxLocals = 2 := hml0
  have hown : s.vm.findClass "com/example/rowtide/rowtide/binlog/CharacterSet$Spacing" = some m.cls := findClass_of_methodNamed Bd.named
  have hnm := (name_of_methodNamed Bd.named Bd.method).1
  have X0 : Stand p l e ({ frames := 0, cells := 0, slots := 0, locals := 0 } : Room) s m #[(.ref b), (.int cc)] below meth c s₁ [] 0 0 := Stand.of_body Bd
  have e0 : s₁.heap = h0 := by rw [← hh, Bd.state]; rfl
  have N0 := Fr.nil n0
  have pre0 : ∀ t_, Steps p.tables e below (s₁.setTop (mkF m 0 #[.val (.ref b), .val (.int cc)] [])) t_ → Steps p.tables e below (s₁.setTop (entryFrame m #[(.ref b), (.int cc)] 2)) t_ := fun t_ k_ => castTop (ef_1 m b cc) k_
  obtain ⟨T1, X1, e1, st1⟩ := getS2 X0 hx hZ hown (host := "") (Or.inl (hw _ (List.mem_of_getElem? (i := 8) rfl))) Via.refl e0 S_LATIN1 (g := (mkF m 19 #[.val (.ref b), .val (.int cc)] [(.ref b)])) rfl (hb hby d1_19)
  obtain ⟨fs, hr, hrun, hended, hW, hsame⟩ := X1.leave (v := some (.int (1 : Int32))) (fun h => by rw [Bd.returns] at h; cases h)
  refine ⟨_, _, pre0 _ ?_, hrun, hended, _, _, rfl, ?_, ⟨_, rfl⟩, hW, hsame.mono (by decide) (by decide)⟩
  · show Steps p.tables e below (s₁.setTop (mkF m 0 #[.val (.ref b), .val (.int cc)] [])) _
    refine XS.iloadN X0.here hx rfl (hb hby d1_0) rfl ?_
    show Steps p.tables e below (s₁.setTop (mkF m 1 #[.val (.ref b), .val (.int cc)] [(.int cc)])) _
    refine XS.bipush X0.here hx rfl (hb hby d1_1) ?_
    show Steps p.tables e below (s₁.setTop (mkF m 3 #[.val (.ref b), .val (.int cc)] [(.int (32 : Int32)), (.int cc)])) _
    refine XS.icmpNo X0.here hx rfl (hb hby d1_3) rfl (feq hc3).1 ?_
    show Steps p.tables e below (s₁.setTop (mkF m 6 #[.val (.ref b), .val (.int cc)] [])) _
    refine XS.iloadN X0.here hx rfl (hb hby d1_6) rfl ?_
    show Steps p.tables e below (s₁.setTop (mkF m 7 #[.val (.ref b), .val (.int cc)] [(.int cc)])) _
    refine XS.bipush X0.here hx rfl (hb hby d1_7) ?_
    show Steps p.tables e below (s₁.setTop (mkF m 9 #[.val (.ref b), .val (.int cc)] [(.int (9 : Int32)), (.int cc)])) _
    refine XS.icmpNo X0.here hx rfl (hb hby d1_9) rfl (flt hc9).1 ?_
    show Steps p.tables e below (s₁.setTop (mkF m 12 #[.val (.ref b), .val (.int cc)] [])) _
    refine XS.iloadN X0.here hx rfl (hb hby d1_12) rfl ?_
    show Steps p.tables e below (s₁.setTop (mkF m 13 #[.val (.ref b), .val (.int cc)] [(.int cc)])) _
    refine XS.bipush X0.here hx rfl (hb hby d1_13) ?_
    show Steps p.tables e below (s₁.setTop (mkF m 15 #[.val (.ref b), .val (.int cc)] [(.int (13 : Int32)), (.int cc)])) _
    refine XS.icmpNo X0.here hx rfl (hb hby d1_15) rfl (tlt hc15).2.2.2 ?_
    show Steps p.tables e below (s₁.setTop (mkF m 18 #[.val (.ref b), .val (.int cc)] [])) _
    refine XS.aloadN X0.here hx rfl (hb hby d1_18) rfl rfl ?_
    show Steps p.tables e below (s₁.setTop (mkF m 19 #[.val (.ref b), .val (.int cc)] [(.ref b)])) _
    refine st1 _ ?_
    show Steps p.tables e below (T1.setTop (mkF m 22 #[.val (.ref b), .val (.int cc)] [(.ref b), (.ref b)])) _
    refine Jvm.RoadKit.acmp (g := (mkF m 22 #[.val (.ref b), .val (.int cc)] [(.ref b), (.ref b)])) X1 hx rfl rfl rfl (pc0 := 22) (pc' := 25) (same := true) rfl (hb hby d1_22) rfl (decide_eq_true rfl) (by decide) (by decide) ?_
    show Steps p.tables e below (T1.setTop (mkF m 25 #[.val (.ref b), .val (.int cc)] [])) _
    refine XS.iloadN X1.here hx rfl (hb hby d1_25) rfl ?_
    show Steps p.tables e below (T1.setTop (mkF m 26 #[.val (.ref b), .val (.int cc)] [(.int cc)])) _
    refine XS.sipush X1.here hx rfl (hb hby d1_26) ?_
    show Steps p.tables e below (T1.setTop (mkF m 29 #[.val (.ref b), .val (.int cc)] [(.int (160 : Int32)), (.int cc)])) _
    refine XS.icmpNo X1.here hx rfl (hb hby d1_29) rfl (teq hc29).2 ?_
    show Steps p.tables e below (T1.setTop (mkF m 32 #[.val (.ref b), .val (.int cc)] [])) _
    refine XS.iconst X1.here hx rfl (hb hby d1_32) ?_
    show Steps p.tables e below (T1.setTop (mkF m 33 #[.val (.ref b), .val (.int cc)] [(.int (1 : Int32))])) _
    refine XS.goto X1.here hx rfl (pc0 := 33) (pc' := 37) rfl (hb hby d1_33) (by decide) (by decide) ?_
    show Steps p.tables e below (T1.setTop (mkF m 37 #[.val (.ref b), .val (.int cc)] [(.int (1 : Int32))])) _
    exact retN X1 hx (t := .boolean) Bd.returns (by simp) (hb hby d1_37) hr
  · exact ⟨rfl, N0, e1⟩
theorem space_yes (l : Launch) (Z : State) (a0 : Array Value) (hw : ∀ d ∈ tables_1, d.before a0 Z = true) (a : Addr) (cc : Int32) (h0 : Heap) (n0 : Nat) (Z0 : n0 ≤ h0.size) (h : cc = (32 : Int32) ∨ (¬ (cc < (9 : Int32)) ∧ ¬ ((13 : Int32) < cc))) : RO l Z (⟨"com/example/rowtide/rowtide/binlog/CharacterSet$Spacing", "space", "(C)Z"⟩ : MethodName) prog_20_method_4_code 2 (some .boolean) ({ frames := 0, cells := 0, slots := 0, locals := 0 } : Room) #[(.ref a), (.int cc)] h0 n0 (.int (1 : Int32)) := by
  by_cases q : cc = (32 : Int32)
  · exact sp_A l Z a0 hw a cc h0 n0 Z0 q
  · obtain ⟨h1, h2⟩ := h.resolve_left q
    exact sp_B l Z a0 hw a cc h0 n0 Z0 q h1 h2
theorem space_noA (l : Launch) (Z : State) (a0 : Array Value) (hw : ∀ d ∈ tables_1, d.before a0 Z = true) (a b : Addr) (cc : Int32) (h0 : Heap) (n0 : Nat) (Z0 : n0 ≤ h0.size) (S : Sta Z h0 "com/example/rowtide/rowtide/binlog/CharacterSet$Spacing" "LATIN1" "Lcom/example/rowtide/rowtide/binlog/CharacterSet$Spacing;" (.ref b)) (hne : ¬ (a = b)) (h : ¬ (cc = (32 : Int32))) (h1 : cc < (9 : Int32) ∨ (13 : Int32) < cc) : RO l Z (⟨"com/example/rowtide/rowtide/binlog/CharacterSet$Spacing", "space", "(C)Z"⟩ : MethodName) prog_20_method_4_code 2 (some .boolean) ({ frames := 0, cells := 0, slots := 0, locals := 0 } : Room) #[(.ref a), (.int cc)] h0 n0 (.int (0 : Int32)) := by
  by_cases q : cc < (9 : Int32)
  · exact sp_C1 l Z a0 hw a b cc h0 n0 Z0 S h q hne
  · exact sp_C2 l Z a0 hw a b cc h0 n0 Z0 S h q (h1.resolve_left q) hne
theorem space_noL (l : Launch) (Z : State) (a0 : Array Value) (hw : ∀ d ∈ tables_1, d.before a0 Z = true) (b : Addr) (cc : Int32) (h0 : Heap) (n0 : Nat) (Z0 : n0 ≤ h0.size) (S : Sta Z h0 "com/example/rowtide/rowtide/binlog/CharacterSet$Spacing" "LATIN1" "Lcom/example/rowtide/rowtide/binlog/CharacterSet$Spacing;" (.ref b)) (h : ¬ (cc = (32 : Int32))) (h1 : cc < (9 : Int32) ∨ (13 : Int32) < cc) (h2 : ¬ (cc = (160 : Int32))) : RO l Z (⟨"com/example/rowtide/rowtide/binlog/CharacterSet$Spacing", "space", "(C)Z"⟩ : MethodName) prog_20_method_4_code 2 (some .boolean) ({ frames := 0, cells := 0, slots := 0, locals := 0 } : Room) #[(.ref b), (.int cc)] h0 n0 (.int (0 : Int32)) := by
  by_cases q : cc < (9 : Int32)
  · exact sp_D1 l Z a0 hw b cc h0 n0 Z0 S h q h2
  · exact sp_D2 l Z a0 hw b cc h0 n0 Z0 S h q (h1.resolve_left q) h2
theorem own_range (cc : Int32) (h9 : ¬ (cc = (9 : Int32))) (h10 : ¬ (cc = (10 : Int32))) (h11 : ¬ (cc = (11 : Int32))) (h12 : ¬ (cc = (12 : Int32))) (h13 : ¬ (cc = (13 : Int32))) : cc < (9 : Int32) ∨ (13 : Int32) < cc := by
  rw [← Int32.toInt_inj] at h9 h10 h11 h12 h13
  rw [Int32.lt_iff_toInt_lt, Int32.lt_iff_toInt_lt]
  have e9 : (9 : Int32).toInt = 9 := rfl
  have e10 : (10 : Int32).toInt = 10 := rfl
  have e11 : (11 : Int32).toInt = 11 := rfl
  have e12 : (12 : Int32).toInt = 12 := rfl
  have e13 : (13 : Int32).toInt = 13 := rfl
  omega
theorem pd_oCcZ : parseMethodDescriptor "(C)Z" = some ⟨[.char], some .boolean⟩ := by decide +kernel
theorem pn_0 : plainName "com/example/rowtide/rowtide/binlog/SpacingSpacePinLaw" = true := by first | (simp [plainName, overriddenIn]; done) | decide +kernel
theorem ef_0 (m : MethodId) (x0 : Int32) : entryFrame m #[(.int x0)] maxLocals = mkF m 0 #[.val (.int x0), .unset, .unset, .unset, .unset, .unset] [] := by first | (simp [entryFrame, mkF, argsToLocals, Value.category, maxLocals]; done) | rfl
set_option maxRecDepth 65536 in
set_option maxHeartbeats 40000000 in
theorem law_9 (l : Launch) (Z : State) (a0 : Array Value) (hw : ∀ d ∈ tables_1, d.before a0 Z = true) (ch : Int32) (a b : Addr) (h0 : Heap) (n0 : Nat) (Z0 : n0 ≤ h0.size) (S_ASCII : Sta Z h0 "com/example/rowtide/rowtide/binlog/CharacterSet$Spacing" "ASCII" "Lcom/example/rowtide/rowtide/binlog/CharacterSet$Spacing;" (.ref a)) (S_LATIN1 : Sta Z h0 "com/example/rowtide/rowtide/binlog/CharacterSet$Spacing" "LATIN1" "Lcom/example/rowtide/rowtide/binlog/CharacterSet$Spacing;" (.ref b)) (hsp : (ch.toUInt32.toUInt16.toUInt32.toInt32) = (32 : Int32) ∨ (¬ ((ch.toUInt32.toUInt16.toUInt32.toInt32) < (9 : Int32)) ∧ ¬ ((13 : Int32) < (ch.toUInt32.toUInt16.toUInt32.toInt32)))) (E_a : Exa Z h0 a "com/example/rowtide/rowtide/binlog/CharacterSet$Spacing") (E_b : Exa Z h0 b "com/example/rowtide/rowtide/binlog/CharacterSet$Spacing") (hc6 : (ch.toUInt32.toUInt16.toUInt32.toInt32) = (9 : Int32)) :
    RO l Z x code maxLocals ret room_1 #[(.int ch)] h0 n0 (.int (1 : Int32)) := by
  intro ws
  refine MetFree.of_bodySF (plainFor_of_name pn_0) hisR ?_
  intro p e s m args below meth c s₁ Bd hml0 hP hK
  obtain ⟨rfl, hZ, hh⟩ := hP
  have hx := Bd.exec
  have hby := Bd.bytes
  have hml : c.maxLocals = 6 := hml0
  have hown : s.vm.findClass "com/example/rowtide/rowtide/binlog/SpacingSpacePinLaw" = some m.cls := findClass_of_methodNamed Bd.named
  have hnm := (name_of_methodNamed Bd.named Bd.method).1
  have X0 : Stand p l e room_1 s m #[(.int ch)] below meth c s₁ [] 0 0 := Stand.of_body Bd
  have e0 : s₁.heap = h0 := by rw [← hh, Bd.state]; rfl
  have N0 := Fr.nil n0
  have pre0 : ∀ t_, Steps p.tables e below (s₁.setTop (mkF m 0 #[.val (.int ch), .unset, .unset, .unset, .unset, .unset] [])) t_ → Steps p.tables e below (s₁.setTop (entryFrame m #[(.int ch)] maxLocals)) t_ := fun t_ k_ => castTop (ef_0 m ch) k_
  obtain ⟨T1, X1, e1, st1⟩ := getS2 X0 hx hZ hown (host := "") (Or.inl (hw _ (List.mem_of_getElem? (i := 0) rfl))) Via.refl e0 S_ASCII (g := (mkF m 62 #[.val (.int ch), .val (.int (ch.toUInt32.toUInt16.toUInt32.toInt32)), .val (.int (1 : Int32)), .val (.int (1 : Int32)), .unset, .unset] [])) rfl (hb hby at_62)
  obtain ⟨cq2, kq2, q2a, q2b, q2c⟩ := isOf hZ e1 E_a
  obtain ⟨_, _, ⟨T2, L2, k2, n2⟩, -, X2, ⟨Lc2, hQ2, l2, y2, z2⟩, st2⟩ := X1.virtualBack hx (y := (⟨"com/example/rowtide/rowtide/binlog/CharacterSet$Spacing", "space", "(C)Z"⟩ : MethodName)) (z := (⟨"com/example/rowtide/rowtide/binlog/CharacterSet$Spacing", "space", "(C)Z"⟩ : MethodName)) hown (mvT hZ (hw _ (List.mem_of_getElem? (i := 3) rfl))) (mvT hZ (hw _ (List.mem_of_getElem? (i := 4) rfl))) (notFace_of_selects (args := #[]) (mvT hZ (hw _ (List.mem_of_getElem? (i := 6) rfl)))) (mvT hZ (hw _ (List.mem_of_getElem? (i := 6) rfl))) (mvT hZ (hw _ (List.mem_of_getElem? (i := 5) rfl))) (by decide) (backOf (W := 0) ((space_yes l Z a0 hw a (ch.toUInt32.toUInt16.toUInt32.toInt32) h0 n0 Z0 hsp) []) hZ (hw _ (List.mem_of_getElem? (i := 7) rfl)) (hw _ (List.mem_of_getElem? (i := 1) rfl)) (by decide) (by decide)) q2a q2c (g := (mkF m 66 #[.val (.int ch), .val (.int (ch.toUInt32.toUInt16.toUInt32.toInt32)), .val (.int (1 : Int32)), .val (.int (1 : Int32)), .unset, .unset] [(.int (ch.toUInt32.toUInt16.toUInt32.toInt32)), (.ref a)])) rfl (by rw [hml]; rfl) (Steps.refl _) (argsL := [(.int (ch.toUInt32.toUInt16.toUInt32.toInt32))]) (rest := []) (lenOf pd_oCcZ rfl) rfl (by show 2 * 0 + _ ≤ _; exact Nat.le_of_eq rfl) (hb hby at_66) (fun _ _ => ⟨rfl, e1, (by decide : 0 + 0 ≤ _), (by decide : 0 + 0 ≤ _)⟩)
  dsimp only [Pt.U, Pt.locs, Pt.cells, Pt.slots] at X2 l2 y2 z2 st2 hQ2
  subst l2 y2 z2
  obtain ⟨rfl, N2q, e2⟩ := hQ2
  have N2 := Fr.app N0 N2q
  obtain ⟨T3, X3, e3, st3⟩ := getS2 X2 hx hZ hown (host := "") (Or.inl (hw _ (List.mem_of_getElem? (i := 10) rfl))) Via.refl e2 S_LATIN1 (g := (mkF m 71 #[.val (.int ch), .val (.int (ch.toUInt32.toUInt16.toUInt32.toInt32)), .val (.int (1 : Int32)), .val (.int (1 : Int32)), .val (.int (1 : Int32)), .unset] [])) rfl (hb hby at_71)
  obtain ⟨cq4, kq4, q4a, q4b, q4c⟩ := isOf hZ e3 E_b
  obtain ⟨_, _, ⟨T4, L4, k4, n4⟩, -, X4, ⟨Lc4, hQ4, l4, y4, z4⟩, st4⟩ := X3.virtualBack hx (y := (⟨"com/example/rowtide/rowtide/binlog/CharacterSet$Spacing", "space", "(C)Z"⟩ : MethodName)) (z := (⟨"com/example/rowtide/rowtide/binlog/CharacterSet$Spacing", "space", "(C)Z"⟩ : MethodName)) hown (mvT hZ (hw _ (List.mem_of_getElem? (i := 3) rfl))) (mvT hZ (hw _ (List.mem_of_getElem? (i := 4) rfl))) (notFace_of_selects (args := #[]) (mvT hZ (hw _ (List.mem_of_getElem? (i := 6) rfl)))) (mvT hZ (hw _ (List.mem_of_getElem? (i := 6) rfl))) (mvT hZ (hw _ (List.mem_of_getElem? (i := 5) rfl))) (by decide) (backOf (W := 0) ((space_yes l Z a0 hw b (ch.toUInt32.toUInt16.toUInt32.toInt32) h0 n0 Z0 hsp) []) hZ (hw _ (List.mem_of_getElem? (i := 7) rfl)) (hw _ (List.mem_of_getElem? (i := 1) rfl)) (by decide) (by decide)) q4a q4c (g := (mkF m 75 #[.val (.int ch), .val (.int (ch.toUInt32.toUInt16.toUInt32.toInt32)), .val (.int (1 : Int32)), .val (.int (1 : Int32)), .val (.int (1 : Int32)), .unset] [(.int (ch.toUInt32.toUInt16.toUInt32.toInt32)), (.ref b)])) rfl (by rw [hml]; rfl) (Steps.refl _) (argsL := [(.int (ch.toUInt32.toUInt16.toUInt32.toInt32))]) (rest := []) (lenOf pd_oCcZ rfl) rfl (by show 2 * 0 + _ ≤ _; exact Nat.le_of_eq rfl) (hb hby at_75) (fun _ _ => ⟨rfl, e3, (by decide : 0 + 0 ≤ _), (by decide : 0 + 0 ≤ _)⟩)
  dsimp only [Pt.U, Pt.locs, Pt.cells, Pt.slots] at X4 l4 y4 z4 st4 hQ4
  subst l4 y4 z4
  obtain ⟨rfl, N4q, e4⟩ := hQ4
  have N4 := Fr.app N2 N4q
  obtain ⟨fs, hr, hrun, hended, hW, hsame⟩ := X4.leave (v := some (.int (1 : Int32))) (fun h => by rw [Bd.returns] at h; cases h)
  refine ⟨_, _, pre0 _ ?_, hrun, hended, _, _, rfl, ?_, ⟨_, rfl⟩, hW, hsame.mono (by decide) (by decide)⟩
  · show Steps p.tables e below (s₁.setTop (mkF m 0 #[.val (.int ch), .unset, .unset, .unset, .unset, .unset] [])) _
    refine XS.iloadN X0.here hx rfl (hb hby at_0) rfl ?_
    show Steps p.tables e below (s₁.setTop (mkF m 1 #[.val (.int ch), .unset, .unset, .unset, .unset, .unset] [(.int ch)])) _
    refine XS.i2c X0.here hx rfl (hb hby at_1) rfl ?_
    show Steps p.tables e below (s₁.setTop (mkF m 2 #[.val (.int ch), .unset, .unset, .unset, .unset, .unset] [(.int (ch.toUInt32.toUInt16.toUInt32.toInt32))])) _
    refine XS.istoreN X0.here hx rfl (hb hby at_2) rfl (l' := #[.val (.int ch), .val (.int (ch.toUInt32.toUInt16.toUInt32.toInt32)), .unset, .unset, .unset, .unset]) rfl ?_
    show Steps p.tables e below (s₁.setTop (mkF m 3 #[.val (.int ch), .val (.int (ch.toUInt32.toUInt16.toUInt32.toInt32)), .unset, .unset, .unset, .unset] [])) _
    refine XS.iloadN X0.here hx rfl (hb hby at_3) rfl ?_
    show Steps p.tables e below (s₁.setTop (mkF m 4 #[.val (.int ch), .val (.int (ch.toUInt32.toUInt16.toUInt32.toInt32)), .unset, .unset, .unset, .unset] [(.int (ch.toUInt32.toUInt16.toUInt32.toInt32))])) _
    refine XS.bipush X0.here hx rfl (hb hby at_4) ?_
    show Steps p.tables e below (s₁.setTop (mkF m 6 #[.val (.int ch), .val (.int (ch.toUInt32.toUInt16.toUInt32.toInt32)), .unset, .unset, .unset, .unset] [(.int (9 : Int32)), (.int (ch.toUInt32.toUInt16.toUInt32.toInt32))])) _
    refine XS.icmpYes X0.here hx rfl (pc0 := 6) (pc' := 39) rfl (hb hby at_6) rfl (teq hc6).1 (by decide) (by decide) ?_
    show Steps p.tables e below (s₁.setTop (mkF m 39 #[.val (.int ch), .val (.int (ch.toUInt32.toUInt16.toUInt32.toInt32)), .unset, .unset, .unset, .unset] [])) _
    refine XS.iconst X0.here hx rfl (hb hby at_39) ?_
    show Steps p.tables e below (s₁.setTop (mkF m 40 #[.val (.int ch), .val (.int (ch.toUInt32.toUInt16.toUInt32.toInt32)), .unset, .unset, .unset, .unset] [(.int (1 : Int32))])) _
    refine XS.goto X0.here hx rfl (pc0 := 40) (pc' := 44) rfl (hb hby at_40) (by decide) (by decide) ?_
    show Steps p.tables e below (s₁.setTop (mkF m 44 #[.val (.int ch), .val (.int (ch.toUInt32.toUInt16.toUInt32.toInt32)), .unset, .unset, .unset, .unset] [(.int (1 : Int32))])) _
    refine XS.istoreN X0.here hx rfl (hb hby at_44) rfl (l' := #[.val (.int ch), .val (.int (ch.toUInt32.toUInt16.toUInt32.toInt32)), .val (.int (1 : Int32)), .unset, .unset, .unset]) rfl ?_
    show Steps p.tables e below (s₁.setTop (mkF m 45 #[.val (.int ch), .val (.int (ch.toUInt32.toUInt16.toUInt32.toInt32)), .val (.int (1 : Int32)), .unset, .unset, .unset] [])) _
    refine XS.iloadN X0.here hx rfl (hb hby at_45) rfl ?_
    show Steps p.tables e below (s₁.setTop (mkF m 46 #[.val (.int ch), .val (.int (ch.toUInt32.toUInt16.toUInt32.toInt32)), .val (.int (1 : Int32)), .unset, .unset, .unset] [(.int (1 : Int32))])) _
    refine XS.ifYes X0.here hx rfl (pc0 := 46) (pc' := 56) rfl (hb hby at_46) rfl ((if0 _ _).trans (feq (by decide : ¬ ((1 : Int32) = (0 : Int32)))).2) (by decide) (by decide) ?_
    show Steps p.tables e below (s₁.setTop (mkF m 56 #[.val (.int ch), .val (.int (ch.toUInt32.toUInt16.toUInt32.toInt32)), .val (.int (1 : Int32)), .unset, .unset, .unset] [])) _
    refine XS.iconst X0.here hx rfl (hb hby at_56) ?_
    show Steps p.tables e below (s₁.setTop (mkF m 57 #[.val (.int ch), .val (.int (ch.toUInt32.toUInt16.toUInt32.toInt32)), .val (.int (1 : Int32)), .unset, .unset, .unset] [(.int (1 : Int32))])) _
    refine XS.goto X0.here hx rfl (pc0 := 57) (pc' := 61) rfl (hb hby at_57) (by decide) (by decide) ?_
    show Steps p.tables e below (s₁.setTop (mkF m 61 #[.val (.int ch), .val (.int (ch.toUInt32.toUInt16.toUInt32.toInt32)), .val (.int (1 : Int32)), .unset, .unset, .unset] [(.int (1 : Int32))])) _
    refine XS.istoreN X0.here hx rfl (hb hby at_61) rfl (l' := #[.val (.int ch), .val (.int (ch.toUInt32.toUInt16.toUInt32.toInt32)), .val (.int (1 : Int32)), .val (.int (1 : Int32)), .unset, .unset]) rfl ?_
    show Steps p.tables e below (s₁.setTop (mkF m 62 #[.val (.int ch), .val (.int (ch.toUInt32.toUInt16.toUInt32.toInt32)), .val (.int (1 : Int32)), .val (.int (1 : Int32)), .unset, .unset] [])) _
    refine st1 _ ?_
    show Steps p.tables e below (T1.setTop (mkF m 65 #[.val (.int ch), .val (.int (ch.toUInt32.toUInt16.toUInt32.toInt32)), .val (.int (1 : Int32)), .val (.int (1 : Int32)), .unset, .unset] [(.ref a)])) _
    refine XS.iloadN X1.here hx rfl (hb hby at_65) rfl ?_
    show Steps p.tables e below (T1.setTop (mkF m 66 #[.val (.int ch), .val (.int (ch.toUInt32.toUInt16.toUInt32.toInt32)), .val (.int (1 : Int32)), .val (.int (1 : Int32)), .unset, .unset] [(.int (ch.toUInt32.toUInt16.toUInt32.toInt32)), (.ref a)])) _
    refine st2.trans ?_
    show Steps p.tables e below (T2.setTop (mkF m 69 #[.val (.int ch), .val (.int (ch.toUInt32.toUInt16.toUInt32.toInt32)), .val (.int (1 : Int32)), .val (.int (1 : Int32)), .unset, .unset] [(.int (1 : Int32))])) _
    refine XS.istore X2.here hx rfl (hb hby at_69) rfl (l' := #[.val (.int ch), .val (.int (ch.toUInt32.toUInt16.toUInt32.toInt32)), .val (.int (1 : Int32)), .val (.int (1 : Int32)), .val (.int (1 : Int32)), .unset]) rfl ?_
    show Steps p.tables e below (T2.setTop (mkF m 71 #[.val (.int ch), .val (.int (ch.toUInt32.toUInt16.toUInt32.toInt32)), .val (.int (1 : Int32)), .val (.int (1 : Int32)), .val (.int (1 : Int32)), .unset] [])) _
    refine st3 _ ?_
    show Steps p.tables e below (T3.setTop (mkF m 74 #[.val (.int ch), .val (.int (ch.toUInt32.toUInt16.toUInt32.toInt32)), .val (.int (1 : Int32)), .val (.int (1 : Int32)), .val (.int (1 : Int32)), .unset] [(.ref b)])) _
    refine XS.iloadN X3.here hx rfl (hb hby at_74) rfl ?_
    show Steps p.tables e below (T3.setTop (mkF m 75 #[.val (.int ch), .val (.int (ch.toUInt32.toUInt16.toUInt32.toInt32)), .val (.int (1 : Int32)), .val (.int (1 : Int32)), .val (.int (1 : Int32)), .unset] [(.int (ch.toUInt32.toUInt16.toUInt32.toInt32)), (.ref b)])) _
    refine st4.trans ?_
    show Steps p.tables e below (T4.setTop (mkF m 78 #[.val (.int ch), .val (.int (ch.toUInt32.toUInt16.toUInt32.toInt32)), .val (.int (1 : Int32)), .val (.int (1 : Int32)), .val (.int (1 : Int32)), .unset] [(.int (1 : Int32))])) _
    refine XS.istore X4.here hx rfl (hb hby at_78) rfl (l' := #[.val (.int ch), .val (.int (ch.toUInt32.toUInt16.toUInt32.toInt32)), .val (.int (1 : Int32)), .val (.int (1 : Int32)), .val (.int (1 : Int32)), .val (.int (1 : Int32))]) rfl ?_
    show Steps p.tables e below (T4.setTop (mkF m 80 #[.val (.int ch), .val (.int (ch.toUInt32.toUInt16.toUInt32.toInt32)), .val (.int (1 : Int32)), .val (.int (1 : Int32)), .val (.int (1 : Int32)), .val (.int (1 : Int32))] [])) _
    refine XS.iload X4.here hx rfl (hb hby at_80) rfl ?_
    show Steps p.tables e below (T4.setTop (mkF m 82 #[.val (.int ch), .val (.int (ch.toUInt32.toUInt16.toUInt32.toInt32)), .val (.int (1 : Int32)), .val (.int (1 : Int32)), .val (.int (1 : Int32)), .val (.int (1 : Int32))] [(.int (1 : Int32))])) _
    refine XS.iloadN X4.here hx rfl (hb hby at_82) rfl ?_
    show Steps p.tables e below (T4.setTop (mkF m 83 #[.val (.int ch), .val (.int (ch.toUInt32.toUInt16.toUInt32.toInt32)), .val (.int (1 : Int32)), .val (.int (1 : Int32)), .val (.int (1 : Int32)), .val (.int (1 : Int32))] [(.int (1 : Int32)), (.int (1 : Int32))])) _
    refine XS.icmpNo X4.here hx rfl (hb hby at_83) rfl (teq (by decide : (1 : Int32) = (1 : Int32))).2 ?_
    show Steps p.tables e below (T4.setTop (mkF m 86 #[.val (.int ch), .val (.int (ch.toUInt32.toUInt16.toUInt32.toInt32)), .val (.int (1 : Int32)), .val (.int (1 : Int32)), .val (.int (1 : Int32)), .val (.int (1 : Int32))] [])) _
    refine XS.iload X4.here hx rfl (hb hby at_86) rfl ?_
    show Steps p.tables e below (T4.setTop (mkF m 88 #[.val (.int ch), .val (.int (ch.toUInt32.toUInt16.toUInt32.toInt32)), .val (.int (1 : Int32)), .val (.int (1 : Int32)), .val (.int (1 : Int32)), .val (.int (1 : Int32))] [(.int (1 : Int32))])) _
    refine XS.iloadN X4.here hx rfl (hb hby at_88) rfl ?_
    show Steps p.tables e below (T4.setTop (mkF m 89 #[.val (.int ch), .val (.int (ch.toUInt32.toUInt16.toUInt32.toInt32)), .val (.int (1 : Int32)), .val (.int (1 : Int32)), .val (.int (1 : Int32)), .val (.int (1 : Int32))] [(.int (1 : Int32)), (.int (1 : Int32))])) _
    refine XS.icmpNo X4.here hx rfl (hb hby at_89) rfl (teq (by decide : (1 : Int32) = (1 : Int32))).2 ?_
    show Steps p.tables e below (T4.setTop (mkF m 92 #[.val (.int ch), .val (.int (ch.toUInt32.toUInt16.toUInt32.toInt32)), .val (.int (1 : Int32)), .val (.int (1 : Int32)), .val (.int (1 : Int32)), .val (.int (1 : Int32))] [])) _
    refine XS.iconst X4.here hx rfl (hb hby at_92) ?_
    show Steps p.tables e below (T4.setTop (mkF m 93 #[.val (.int ch), .val (.int (ch.toUInt32.toUInt16.toUInt32.toInt32)), .val (.int (1 : Int32)), .val (.int (1 : Int32)), .val (.int (1 : Int32)), .val (.int (1 : Int32))] [(.int (1 : Int32))])) _
    refine XS.goto X4.here hx rfl (pc0 := 93) (pc' := 97) rfl (hb hby at_93) (by decide) (by decide) ?_
    show Steps p.tables e below (T4.setTop (mkF m 97 #[.val (.int ch), .val (.int (ch.toUInt32.toUInt16.toUInt32.toInt32)), .val (.int (1 : Int32)), .val (.int (1 : Int32)), .val (.int (1 : Int32)), .val (.int (1 : Int32))] [(.int (1 : Int32))])) _
    exact retN X4 hx (t := .boolean) Bd.returns (by simp) (hb hby at_97) hr
  · exact ⟨rfl, N4, e4⟩
set_option maxRecDepth 65536 in
set_option maxHeartbeats 40000000 in
theorem law_10 (l : Launch) (Z : State) (a0 : Array Value) (hw : ∀ d ∈ tables_1, d.before a0 Z = true) (ch : Int32) (a b : Addr) (h0 : Heap) (n0 : Nat) (Z0 : n0 ≤ h0.size) (S_ASCII : Sta Z h0 "com/example/rowtide/rowtide/binlog/CharacterSet$Spacing" "ASCII" "Lcom/example/rowtide/rowtide/binlog/CharacterSet$Spacing;" (.ref a)) (S_LATIN1 : Sta Z h0 "com/example/rowtide/rowtide/binlog/CharacterSet$Spacing" "LATIN1" "Lcom/example/rowtide/rowtide/binlog/CharacterSet$Spacing;" (.ref b)) (hsp : (ch.toUInt32.toUInt16.toUInt32.toInt32) = (32 : Int32) ∨ (¬ ((ch.toUInt32.toUInt16.toUInt32.toInt32) < (9 : Int32)) ∧ ¬ ((13 : Int32) < (ch.toUInt32.toUInt16.toUInt32.toInt32)))) (E_a : Exa Z h0 a "com/example/rowtide/rowtide/binlog/CharacterSet$Spacing") (E_b : Exa Z h0 b "com/example/rowtide/rowtide/binlog/CharacterSet$Spacing") (hc6 : ¬ ((ch.toUInt32.toUInt16.toUInt32.toInt32) = (9 : Int32))) (hc12 : (ch.toUInt32.toUInt16.toUInt32.toInt32) = (10 : Int32)) :
    RO l Z x code maxLocals ret room_1 #[(.int ch)] h0 n0 (.int (1 : Int32)) := by
  intro ws
  refine MetFree.of_bodySF (plainFor_of_name pn_0) hisR ?_
  intro p e s m args below meth c s₁ Bd hml0 hP hK
  obtain ⟨rfl, hZ, hh⟩ := hP
  have hx := Bd.exec
  have hby := Bd.bytes
  have hml : c.maxLocals = 6 := hml0
  have hown : s.vm.findClass "com/example/rowtide/rowtide/binlog/SpacingSpacePinLaw" = some m.cls := findClass_of_methodNamed Bd.named
  have hnm := (name_of_methodNamed Bd.named Bd.method).1
  have X0 : Stand p l e room_1 s m #[(.int ch)] below meth c s₁ [] 0 0 := Stand.of_body Bd
  have e0 : s₁.heap = h0 := by rw [← hh, Bd.state]; rfl
  have N0 := Fr.nil n0
  have pre0 : ∀ t_, Steps p.tables e below (s₁.setTop (mkF m 0 #[.val (.int ch), .unset, .unset, .unset, .unset, .unset] [])) t_ → Steps p.tables e below (s₁.setTop (entryFrame m #[(.int ch)] maxLocals)) t_ := fun t_ k_ => castTop (ef_0 m ch) k_
  obtain ⟨T1, X1, e1, st1⟩ := getS2 X0 hx hZ hown (host := "") (Or.inl (hw _ (List.mem_of_getElem? (i := 0) rfl))) Via.refl e0 S_ASCII (g := (mkF m 62 #[.val (.int ch), .val (.int (ch.toUInt32.toUInt16.toUInt32.toInt32)), .val (.int (1 : Int32)), .val (.int (1 : Int32)), .unset, .unset] [])) rfl (hb hby at_62)
  obtain ⟨cq2, kq2, q2a, q2b, q2c⟩ := isOf hZ e1 E_a
  obtain ⟨_, _, ⟨T2, L2, k2, n2⟩, -, X2, ⟨Lc2, hQ2, l2, y2, z2⟩, st2⟩ := X1.virtualBack hx (y := (⟨"com/example/rowtide/rowtide/binlog/CharacterSet$Spacing", "space", "(C)Z"⟩ : MethodName)) (z := (⟨"com/example/rowtide/rowtide/binlog/CharacterSet$Spacing", "space", "(C)Z"⟩ : MethodName)) hown (mvT hZ (hw _ (List.mem_of_getElem? (i := 3) rfl))) (mvT hZ (hw _ (List.mem_of_getElem? (i := 4) rfl))) (notFace_of_selects (args := #[]) (mvT hZ (hw _ (List.mem_of_getElem? (i := 6) rfl)))) (mvT hZ (hw _ (List.mem_of_getElem? (i := 6) rfl))) (mvT hZ (hw _ (List.mem_of_getElem? (i := 5) rfl))) (by decide) (backOf (W := 0) ((space_yes l Z a0 hw a (ch.toUInt32.toUInt16.toUInt32.toInt32) h0 n0 Z0 hsp) []) hZ (hw _ (List.mem_of_getElem? (i := 7) rfl)) (hw _ (List.mem_of_getElem? (i := 1) rfl)) (by decide) (by decide)) q2a q2c (g := (mkF m 66 #[.val (.int ch), .val (.int (ch.toUInt32.toUInt16.toUInt32.toInt32)), .val (.int (1 : Int32)), .val (.int (1 : Int32)), .unset, .unset] [(.int (ch.toUInt32.toUInt16.toUInt32.toInt32)), (.ref a)])) rfl (by rw [hml]; rfl) (Steps.refl _) (argsL := [(.int (ch.toUInt32.toUInt16.toUInt32.toInt32))]) (rest := []) (lenOf pd_oCcZ rfl) rfl (by show 2 * 0 + _ ≤ _; exact Nat.le_of_eq rfl) (hb hby at_66) (fun _ _ => ⟨rfl, e1, (by decide : 0 + 0 ≤ _), (by decide : 0 + 0 ≤ _)⟩)
  dsimp only [Pt.U, Pt.locs, Pt.cells, Pt.slots] at X2 l2 y2 z2 st2 hQ2
  subst l2 y2 z2
  obtain ⟨rfl, N2q, e2⟩ := hQ2
  have N2 := Fr.app N0 N2q
  obtain ⟨T3, X3, e3, st3⟩ := getS2 X2 hx hZ hown (host := "") (Or.inl (hw _ (List.mem_of_getElem? (i := 10) rfl))) Via.refl e2 S_LATIN1 (g := (mkF m 71 #[.val (.int ch), .val (.int (ch.toUInt32.toUInt16.toUInt32.toInt32)), .val (.int (1 : Int32)), .val (.int (1 : Int32)), .val (.int (1 : Int32)), .unset] [])) rfl (hb hby at_71)
  obtain ⟨cq4, kq4, q4a, q4b, q4c⟩ := isOf hZ e3 E_b
  obtain ⟨_, _, ⟨T4, L4, k4, n4⟩, -, X4, ⟨Lc4, hQ4, l4, y4, z4⟩, st4⟩ := X3.virtualBack hx (y := (⟨"com/example/rowtide/rowtide/binlog/CharacterSet$Spacing", "space", "(C)Z"⟩ : MethodName)) (z := (⟨"com/example/rowtide/rowtide/binlog/CharacterSet$Spacing", "space", "(C)Z"⟩ : MethodName)) hown (mvT hZ (hw _ (List.mem_of_getElem? (i := 3) rfl))) (mvT hZ (hw _ (List.mem_of_getElem? (i := 4) rfl))) (notFace_of_selects (args := #[]) (mvT hZ (hw _ (List.mem_of_getElem? (i := 6) rfl)))) (mvT hZ (hw _ (List.mem_of_getElem? (i := 6) rfl))) (mvT hZ (hw _ (List.mem_of_getElem? (i := 5) rfl))) (by decide) (backOf (W := 0) ((space_yes l Z a0 hw b (ch.toUInt32.toUInt16.toUInt32.toInt32) h0 n0 Z0 hsp) []) hZ (hw _ (List.mem_of_getElem? (i := 7) rfl)) (hw _ (List.mem_of_getElem? (i := 1) rfl)) (by decide) (by decide)) q4a q4c (g := (mkF m 75 #[.val (.int ch), .val (.int (ch.toUInt32.toUInt16.toUInt32.toInt32)), .val (.int (1 : Int32)), .val (.int (1 : Int32)), .val (.int (1 : Int32)), .unset] [(.int (ch.toUInt32.toUInt16.toUInt32.toInt32)), (.ref b)])) rfl (by rw [hml]; rfl) (Steps.refl _) (argsL := [(.int (ch.toUInt32.toUInt16.toUInt32.toInt32))]) (rest := []) (lenOf pd_oCcZ rfl) rfl (by show 2 * 0 + _ ≤ _; exact Nat.le_of_eq rfl) (hb hby at_75) (fun _ _ => ⟨rfl, e3, (by decide : 0 + 0 ≤ _), (by decide : 0 + 0 ≤ _)⟩)
  dsimp only [Pt.U, Pt.locs, Pt.cells, Pt.slots] at X4 l4 y4 z4 st4 hQ4
  subst l4 y4 z4
  obtain ⟨rfl, N4q, e4⟩ := hQ4
  have N4 := Fr.app N2 N4q
  obtain ⟨fs, hr, hrun, hended, hW, hsame⟩ := X4.leave (v := some (.int (1 : Int32))) (fun h => by rw [Bd.returns] at h; cases h)
  refine ⟨_, _, pre0 _ ?_, hrun, hended, _, _, rfl, ?_, ⟨_, rfl⟩, hW, hsame.mono (by decide) (by decide)⟩
  · show Steps p.tables e below (s₁.setTop (mkF m 0 #[.val (.int ch), .unset, .unset, .unset, .unset, .unset] [])) _
    refine XS.iloadN X0.here hx rfl (hb hby at_0) rfl ?_
    show Steps p.tables e below (s₁.setTop (mkF m 1 #[.val (.int ch), .unset, .unset, .unset, .unset, .unset] [(.int ch)])) _
    refine XS.i2c X0.here hx rfl (hb hby at_1) rfl ?_
    show Steps p.tables e below (s₁.setTop (mkF m 2 #[.val (.int ch), .unset, .unset, .unset, .unset, .unset] [(.int (ch.toUInt32.toUInt16.toUInt32.toInt32))])) _
    refine XS.istoreN X0.here hx rfl (hb hby at_2) rfl (l' := #[.val (.int ch), .val (.int (ch.toUInt32.toUInt16.toUInt32.toInt32)), .unset, .unset, .unset, .unset]) rfl ?_
    show Steps p.tables e below (s₁.setTop (mkF m 3 #[.val (.int ch), .val (.int (ch.toUInt32.toUInt16.toUInt32.toInt32)), .unset, .unset, .unset, .unset] [])) _
    refine XS.iloadN X0.here hx rfl (hb hby at_3) rfl ?_
    show Steps p.tables e below (s₁.setTop (mkF m 4 #[.val (.int ch), .val (.int (ch.toUInt32.toUInt16.toUInt32.toInt32)), .unset, .unset, .unset, .unset] [(.int (ch.toUInt32.toUInt16.toUInt32.toInt32))])) _
    refine XS.bipush X0.here hx rfl (hb hby at_4) ?_
    show Steps p.tables e below (s₁.setTop (mkF m 6 #[.val (.int ch), .val (.int (ch.toUInt32.toUInt16.toUInt32.toInt32)), .unset, .unset, .unset, .unset] [(.int (9 : Int32)), (.int (ch.toUInt32.toUInt16.toUInt32.toInt32))])) _
    refine XS.icmpNo X0.here hx rfl (hb hby at_6) rfl (feq hc6).1 ?_
    show Steps p.tables e below (s₁.setTop (mkF m 9 #[.val (.int ch), .val (.int (ch.toUInt32.toUInt16.toUInt32.toInt32)), .unset, .unset, .unset, .unset] [])) _
    refine XS.iloadN X0.here hx rfl (hb hby at_9) rfl ?_
    show Steps p.tables e below (s₁.setTop (mkF m 10 #[.val (.int ch), .val (.int (ch.toUInt32.toUInt16.toUInt32.toInt32)), .unset, .unset, .unset, .unset] [(.int (ch.toUInt32.toUInt16.toUInt32.toInt32))])) _
    refine XS.bipush X0.here hx rfl (hb hby at_10) ?_
    show Steps p.tables e below (s₁.setTop (mkF m 12 #[.val (.int ch), .val (.int (ch.toUInt32.toUInt16.toUInt32.toInt32)), .unset, .unset, .unset, .unset] [(.int (10 : Int32)), (.int (ch.toUInt32.toUInt16.toUInt32.toInt32))])) _
    refine XS.icmpYes X0.here hx rfl (pc0 := 12) (pc' := 39) rfl (hb hby at_12) rfl (teq hc12).1 (by decide) (by decide) ?_
    show Steps p.tables e below (s₁.setTop (mkF m 39 #[.val (.int ch), .val (.int (ch.toUInt32.toUInt16.toUInt32.toInt32)), .unset, .unset, .unset, .unset] [])) _
    refine XS.iconst X0.here hx rfl (hb hby at_39) ?_
    show Steps p.tables e below (s₁.setTop (mkF m 40 #[.val (.int ch), .val (.int (ch.toUInt32.toUInt16.toUInt32.toInt32)), .unset, .unset, .unset, .unset] [(.int (1 : Int32))])) _
    refine XS.goto X0.here hx rfl (pc0 := 40) (pc' := 44) rfl (hb hby at_40) (by decide) (by decide) ?_
    show Steps p.tables e below (s₁.setTop (mkF m 44 #[.val (.int ch), .val (.int (ch.toUInt32.toUInt16.toUInt32.toInt32)), .unset, .unset, .unset, .unset] [(.int (1 : Int32))])) _
    refine XS.istoreN X0.here hx rfl (hb hby at_44) rfl (l' := #[.val (.int ch), .val (.int (ch.toUInt32.toUInt16.toUInt32.toInt32)), .val (.int (1 : Int32)), .unset, .unset, .unset]) rfl ?_
    show Steps p.tables e below (s₁.setTop (mkF m 45 #[.val (.int ch), .val (.int (ch.toUInt32.toUInt16.toUInt32.toInt32)), .val (.int (1 : Int32)), .unset, .unset, .unset] [])) _
    refine XS.iloadN X0.here hx rfl (hb hby at_45) rfl ?_
    show Steps p.tables e below (s₁.setTop (mkF m 46 #[.val (.int ch), .val (.int (ch.toUInt32.toUInt16.toUInt32.toInt32)), .val (.int (1 : Int32)), .unset, .unset, .unset] [(.int (1 : Int32))])) _
    refine XS.ifYes X0.here hx rfl (pc0 := 46) (pc' := 56) rfl (hb hby at_46) rfl ((if0 _ _).trans (feq (by decide : ¬ ((1 : Int32) = (0 : Int32)))).2) (by decide) (by decide) ?_
    show Steps p.tables e below (s₁.setTop (mkF m 56 #[.val (.int ch), .val (.int (ch.toUInt32.toUInt16.toUInt32.toInt32)), .val (.int (1 : Int32)), .unset, .unset, .unset] [])) _
    refine XS.iconst X0.here hx rfl (hb hby at_56) ?_
    show Steps p.tables e below (s₁.setTop (mkF m 57 #[.val (.int ch), .val (.int (ch.toUInt32.toUInt16.toUInt32.toInt32)), .val (.int (1 : Int32)), .unset, .unset, .unset] [(.int (1 : Int32))])) _
    refine XS.goto X0.here hx rfl (pc0 := 57) (pc' := 61) rfl (hb hby at_57) (by decide) (by decide) ?_
    show Steps p.tables e below (s₁.setTop (mkF m 61 #[.val (.int ch), .val (.int (ch.toUInt32.toUInt16.toUInt32.toInt32)), .val (.int (1 : Int32)), .unset, .unset, .unset] [(.int (1 : Int32))])) _
    refine XS.istoreN X0.here hx rfl (hb hby at_61) rfl (l' := #[.val (.int ch), .val (.int (ch.toUInt32.toUInt16.toUInt32.toInt32)), .val (.int (1 : Int32)), .val (.int (1 : Int32)), .unset, .unset]) rfl ?_
    show Steps p.tables e below (s₁.setTop (mkF m 62 #[.val (.int ch), .val (.int (ch.toUInt32.toUInt16.toUInt32.toInt32)), .val (.int (1 : Int32)), .val (.int (1 : Int32)), .unset, .unset] [])) _
    refine st1 _ ?_
    show Steps p.tables e below (T1.setTop (mkF m 65 #[.val (.int ch), .val (.int (ch.toUInt32.toUInt16.toUInt32.toInt32)), .val (.int (1 : Int32)), .val (.int (1 : Int32)), .unset, .unset] [(.ref a)])) _
    refine XS.iloadN X1.here hx rfl (hb hby at_65) rfl ?_
    show Steps p.tables e below (T1.setTop (mkF m 66 #[.val (.int ch), .val (.int (ch.toUInt32.toUInt16.toUInt32.toInt32)), .val (.int (1 : Int32)), .val (.int (1 : Int32)), .unset, .unset] [(.int (ch.toUInt32.toUInt16.toUInt32.toInt32)), (.ref a)])) _
    refine st2.trans ?_
    show Steps p.tables e below (T2.setTop (mkF m 69 #[.val (.int ch), .val (.int (ch.toUInt32.toUInt16.toUInt32.toInt32)), .val (.int (1 : Int32)), .val (.int (1 : Int32)), .unset, .unset] [(.int (1 : Int32))])) _
    refine XS.istore X2.here hx rfl (hb hby at_69) rfl (l' := #[.val (.int ch), .val (.int (ch.toUInt32.toUInt16.toUInt32.toInt32)), .val (.int (1 : Int32)), .val (.int (1 : Int32)), .val (.int (1 : Int32)), .unset]) rfl ?_
    show Steps p.tables e below (T2.setTop (mkF m 71 #[.val (.int ch), .val (.int (ch.toUInt32.toUInt16.toUInt32.toInt32)), .val (.int (1 : Int32)), .val (.int (1 : Int32)), .val (.int (1 : Int32)), .unset] [])) _
    refine st3 _ ?_
    show Steps p.tables e below (T3.setTop (mkF m 74 #[.val (.int ch), .val (.int (ch.toUInt32.toUInt16.toUInt32.toInt32)), .val (.int (1 : Int32)), .val (.int (1 : Int32)), .val (.int (1 : Int32)), .unset] [(.ref b)])) _
    refine XS.iloadN X3.here hx rfl (hb hby at_74) rfl ?_
    show Steps p.tables e below (T3.setTop (mkF m 75 #[.val (.int ch), .val (.int (ch.toUInt32.toUInt16.toUInt32.toInt32)), .val (.int (1 : Int32)), .val (.int (1 : Int32)), .val (.int (1 : Int32)), .unset] [(.int (ch.toUInt32.toUInt16.toUInt32.toInt32)), (.ref b)])) _
    refine st4.trans ?_
    show Steps p.tables e below (T4.setTop (mkF m 78 #[.val (.int ch), .val (.int (ch.toUInt32.toUInt16.toUInt32.toInt32)), .val (.int (1 : Int32)), .val (.int (1 : Int32)), .val (.int (1 : Int32)), .unset] [(.int (1 : Int32))])) _
    refine XS.istore X4.here hx rfl (hb hby at_78) rfl (l' := #[.val (.int ch), .val (.int (ch.toUInt32.toUInt16.toUInt32.toInt32)), .val (.int (1 : Int32)), .val (.int (1 : Int32)), .val (.int (1 : Int32)), .val (.int (1 : Int32))]) rfl ?_
    show Steps p.tables e below (T4.setTop (mkF m 80 #[.val (.int ch), .val (.int (ch.toUInt32.toUInt16.toUInt32.toInt32)), .val (.int (1 : Int32)), .val (.int (1 : Int32)), .val (.int (1 : Int32)), .val (.int (1 : Int32))] [])) _
    refine XS.iload X4.here hx rfl (hb hby at_80) rfl ?_
    show Steps p.tables e below (T4.setTop (mkF m 82 #[.val (.int ch), .val (.int (ch.toUInt32.toUInt16.toUInt32.toInt32)), .val (.int (1 : Int32)), .val (.int (1 : Int32)), .val (.int (1 : Int32)), .val (.int (1 : Int32))] [(.int (1 : Int32))])) _
    refine XS.iloadN X4.here hx rfl (hb hby at_82) rfl ?_
    show Steps p.tables e below (T4.setTop (mkF m 83 #[.val (.int ch), .val (.int (ch.toUInt32.toUInt16.toUInt32.toInt32)), .val (.int (1 : Int32)), .val (.int (1 : Int32)), .val (.int (1 : Int32)), .val (.int (1 : Int32))] [(.int (1 : Int32)), (.int (1 : Int32))])) _
    refine XS.icmpNo X4.here hx rfl (hb hby at_83) rfl (teq (by decide : (1 : Int32) = (1 : Int32))).2 ?_
    show Steps p.tables e below (T4.setTop (mkF m 86 #[.val (.int ch), .val (.int (ch.toUInt32.toUInt16.toUInt32.toInt32)), .val (.int (1 : Int32)), .val (.int (1 : Int32)), .val (.int (1 : Int32)), .val (.int (1 : Int32))] [])) _
    refine XS.iload X4.here hx rfl (hb hby at_86) rfl ?_
    show Steps p.tables e below (T4.setTop (mkF m 88 #[.val (.int ch), .val (.int (ch.toUInt32.toUInt16.toUInt32.toInt32)), .val (.int (1 : Int32)), .val (.int (1 : Int32)), .val (.int (1 : Int32)), .val (.int (1 : Int32))] [(.int (1 : Int32))])) _
    refine XS.iloadN X4.here hx rfl (hb hby at_88) rfl ?_
    show Steps p.tables e below (T4.setTop (mkF m 89 #[.val (.int ch), .val (.int (ch.toUInt32.toUInt16.toUInt32.toInt32)), .val (.int (1 : Int32)), .val (.int (1 : Int32)), .val (.int (1 : Int32)), .val (.int (1 : Int32))] [(.int (1 : Int32)), (.int (1 : Int32))])) _
    refine XS.icmpNo X4.here hx rfl (hb hby at_89) rfl (teq (by decide : (1 : Int32) = (1 : Int32))).2 ?_
    show Steps p.tables e below (T4.setTop (mkF m 92 #[.val (.int ch), .val (.int (ch.toUInt32.toUInt16.toUInt32.toInt32)), .val (.int (1 : Int32)), .val (.int (1 : Int32)), .val (.int (1 : Int32)), .val (.int (1 : Int32))] [])) _
    refine XS.iconst X4.here hx rfl (hb hby at_92) ?_
    show Steps p.tables e below (T4.setTop (mkF m 93 #[.val (.int ch), .val (.int (ch.toUInt32.toUInt16.toUInt32.toInt32)), .val (.int (1 : Int32)), .val (.int (1 : Int32)), .val (.int (1 : Int32)), .val (.int (1 : Int32))] [(.int (1 : Int32))])) _
    refine XS.goto X4.here hx rfl (pc0 := 93) (pc' := 97) rfl (hb hby at_93) (by decide) (by decide) ?_
    show Steps p.tables e below (T4.setTop (mkF m 97 #[.val (.int ch), .val (.int (ch.toUInt32.toUInt16.toUInt32.toInt32)), .val (.int (1 : Int32)), .val (.int (1 : Int32)), .val (.int (1 : Int32)), .val (.int (1 : Int32))] [(.int (1 : Int32))])) _
    exact retN X4 hx (t := .boolean) Bd.returns (by simp) (hb hby at_97) hr
  · exact ⟨rfl, N4, e4⟩
set_option maxRecDepth 65536 in
set_option maxHeartbeats 40000000 in
theorem law_11 (l : Launch) (Z : State) (a0 : Array Value) (hw : ∀ d ∈ tables_1, d.before a0 Z = true) (ch : Int32) (a b : Addr) (h0 : Heap) (n0 : Nat) (Z0 : n0 ≤ h0.size) (S_ASCII : Sta Z h0 "com/example/rowtide/rowtide/binlog/CharacterSet$Spacing" "ASCII" "Lcom/example/rowtide/rowtide/binlog/CharacterSet$Spacing;" (.ref a)) (S_LATIN1 : Sta Z h0 "com/example/rowtide/rowtide/binlog/CharacterSet$Spacing" "LATIN1" "Lcom/example/rowtide/rowtide/binlog/CharacterSet$Spacing;" (.ref b)) (hsp : (ch.toUInt32.toUInt16.toUInt32.toInt32) = (32 : Int32) ∨ (¬ ((ch.toUInt32.toUInt16.toUInt32.toInt32) < (9 : Int32)) ∧ ¬ ((13 : Int32) < (ch.toUInt32.toUInt16.toUInt32.toInt32)))) (E_a : Exa Z h0 a "com/example/rowtide/rowtide/binlog/CharacterSet$Spacing") (E_b : Exa Z h0 b "com/example/rowtide/rowtide/binlog/CharacterSet$Spacing") (hc6 : ¬ ((ch.toUInt32.toUInt16.toUInt32.toInt32) = (9 : Int32))) (hc12 : ¬ ((ch.toUInt32.toUInt16.toUInt32.toInt32) = (10 : Int32))) (hc18 : (ch.toUInt32.toUInt16.toUInt32.toInt32) = (11 : Int32)) :
    RO l Z x code maxLocals ret room_1 #[(.int ch)] h0 n0 (.int (1 : Int32)) := by
  intro ws
  refine MetFree.of_bodySF (plainFor_of_name pn_0) hisR ?_
  intro p e s m args below meth c s₁ Bd hml0 hP hK
  obtain ⟨rfl, hZ, hh⟩ := hP
  have hx := Bd.exec
  have hby := Bd.bytes
  have hml : c.maxLocals = 6 := hml0
  have hown : s.vm.findClass "com/example/rowtide/rowtide/binlog/SpacingSpacePinLaw" = some m.cls := findClass_of_methodNamed Bd.named
  have hnm := (name_of_methodNamed Bd.named Bd.method).1
  have X0 : Stand p l e room_1 s m #[(.int ch)] below meth c s₁ [] 0 0 := Stand.of_body Bd
  have e0 : s₁.heap = h0 := by rw [← hh, Bd.state]; rfl
  have N0 := Fr.nil n0
  have pre0 : ∀ t_, Steps p.tables e below (s₁.setTop (mkF m 0 #[.val (.int ch), .unset, .unset, .unset, .unset, .unset] [])) t_ → Steps p.tables e below (s₁.setTop (entryFrame m #[(.int ch)] maxLocals)) t_ := fun t_ k_ => castTop (ef_0 m ch) k_
  obtain ⟨T1, X1, e1, st1⟩ := getS2 X0 hx hZ hown (host := "") (Or.inl (hw _ (List.mem_of_getElem? (i := 0) rfl))) Via.refl e0 S_ASCII (g := (mkF m 62 #[.val (.int ch), .val (.int (ch.toUInt32.toUInt16.toUInt32.toInt32)), .val (.int (1 : Int32)), .val (.int (1 : Int32)), .unset, .unset] [])) rfl (hb hby at_62)
  obtain ⟨cq2, kq2, q2a, q2b, q2c⟩ := isOf hZ e1 E_a
  obtain ⟨_, _, ⟨T2, L2, k2, n2⟩, -, X2, ⟨Lc2, hQ2, l2, y2, z2⟩, st2⟩ := X1.virtualBack hx (y := (⟨"com/example/rowtide/rowtide/binlog/CharacterSet$Spacing", "space", "(C)Z"⟩ : MethodName)) (z := (⟨"com/example/rowtide/rowtide/binlog/CharacterSet$Spacing", "space", "(C)Z"⟩ : MethodName)) hown (mvT hZ (hw _ (List.mem_of_getElem? (i := 3) rfl))) (mvT hZ (hw _ (List.mem_of_getElem? (i := 4) rfl))) (notFace_of_selects (args := #[]) (mvT hZ (hw _ (List.mem_of_getElem? (i := 6) rfl)))) (mvT hZ (hw _ (List.mem_of_getElem? (i := 6) rfl))) (mvT hZ (hw _ (List.mem_of_getElem? (i := 5) rfl))) (by decide) (backOf (W := 0) ((space_yes l Z a0 hw a (ch.toUInt32.toUInt16.toUInt32.toInt32) h0 n0 Z0 hsp) []) hZ (hw _ (List.mem_of_getElem? (i := 7) rfl)) (hw _ (List.mem_of_getElem? (i := 1) rfl)) (by decide) (by decide)) q2a q2c (g := (mkF m 66 #[.val (.int ch), .val (.int (ch.toUInt32.toUInt16.toUInt32.toInt32)), .val (.int (1 : Int32)), .val (.int (1 : Int32)), .unset, .unset] [(.int (ch.toUInt32.toUInt16.toUInt32.toInt32)), (.ref a)])) rfl (by rw [hml]; rfl) (Steps.refl _) (argsL := [(.int (ch.toUInt32.toUInt16.toUInt32.toInt32))]) (rest := []) (lenOf pd_oCcZ rfl) rfl (by show 2 * 0 + _ ≤ _; exact Nat.le_of_eq rfl) (hb hby at_66) (fun _ _ => ⟨rfl, e1, (by decide : 0 + 0 ≤ _), (by decide : 0 + 0 ≤ _)⟩)
  dsimp only [Pt.U, Pt.locs, Pt.cells, Pt.slots] at X2 l2 y2 z2 st2 hQ2
  subst l2 y2 z2
  obtain ⟨rfl, N2q, e2⟩ := hQ2
  have N2 := Fr.app N0 N2q
  obtain ⟨T3, X3, e3, st3⟩ := getS2 X2 hx hZ hown (host := "") (Or.inl (hw _ (List.mem_of_getElem? (i := 10) rfl))) Via.refl e2 S_LATIN1 (g := (mkF m 71 #[.val (.int ch), .val (.int (ch.toUInt32.toUInt16.toUInt32.toInt32)), .val (.int (1 : Int32)), .val (.int (1 : Int32)), .val (.int (1 : Int32)), .unset] [])) rfl (hb hby at_71)
  obtain ⟨cq4, kq4, q4a, q4b, q4c⟩ := isOf hZ e3 E_b
  obtain ⟨_, _, ⟨T4, L4, k4, n4⟩, -, X4, ⟨Lc4, hQ4, l4, y4, z4⟩, st4⟩ := X3.virtualBack hx (y := (⟨"com/example/rowtide/rowtide/binlog/CharacterSet$Spacing", "space", "(C)Z"⟩ : MethodName)) (z := (⟨"com/example/rowtide/rowtide/binlog/CharacterSet$Spacing", "space", "(C)Z"⟩ : MethodName)) hown (mvT hZ (hw _ (List.mem_of_getElem? (i := 3) rfl))) (mvT hZ (hw _ (List.mem_of_getElem? (i := 4) rfl))) (notFace_of_selects (args := #[]) (mvT hZ (hw _ (List.mem_of_getElem? (i := 6) rfl)))) (mvT hZ (hw _ (List.mem_of_getElem? (i := 6) rfl))) (mvT hZ (hw _ (List.mem_of_getElem? (i := 5) rfl))) (by decide) (backOf (W := 0) ((space_yes l Z a0 hw b (ch.toUInt32.toUInt16.toUInt32.toInt32) h0 n0 Z0 hsp) []) hZ (hw _ (List.mem_of_getElem? (i := 7) rfl)) (hw _ (List.mem_of_getElem? (i := 1) rfl)) (by decide) (by decide)) q4a q4c (g := (mkF m 75 #[.val (.int ch), .val (.int (ch.toUInt32.toUInt16.toUInt32.toInt32)), .val (.int (1 : Int32)), .val (.int (1 : Int32)), .val (.int (1 : Int32)), .unset] [(.int (ch.toUInt32.toUInt16.toUInt32.toInt32)), (.ref b)])) rfl (by rw [hml]; rfl) (Steps.refl _) (argsL := [(.int (ch.toUInt32.toUInt16.toUInt32.toInt32))]) (rest := []) (lenOf pd_oCcZ rfl) rfl (by show 2 * 0 + _ ≤ _; exact Nat.le_of_eq rfl) (hb hby at_75) (fun _ _ => ⟨rfl, e3, (by decide : 0 + 0 ≤ _), (by decide : 0 + 0 ≤ _)⟩)
  dsimp only [Pt.U, Pt.locs, Pt.cells, Pt.slots] at X4 l4 y4 z4 st4 hQ4
  subst l4 y4 z4
  obtain ⟨rfl, N4q, e4⟩ := hQ4
  have N4 := Fr.app N2 N4q
  obtain ⟨fs, hr, hrun, hended, hW, hsame⟩ := X4.leave (v := some (.int (1 : Int32))) (fun h => by rw [Bd.returns] at h; cases h)
  refine ⟨_, _, pre0 _ ?_, hrun, hended, _, _, rfl, ?_, ⟨_, rfl⟩, hW, hsame.mono (by decide) (by decide)⟩
  · show Steps p.tables e below (s₁.setTop (mkF m 0 #[.val (.int ch), .unset, .unset, .unset, .unset, .unset] [])) _
    refine XS.iloadN X0.here hx rfl (hb hby at_0) rfl ?_
    show Steps p.tables e below (s₁.setTop (mkF m 1 #[.val (.int ch), .unset, .unset, .unset, .unset, .unset] [(.int ch)])) _
    refine XS.i2c X0.here hx rfl (hb hby at_1) rfl ?_
    show Steps p.tables e below (s₁.setTop (mkF m 2 #[.val (.int ch), .unset, .unset, .unset, .unset, .unset] [(.int (ch.toUInt32.toUInt16.toUInt32.toInt32))])) _
    refine XS.istoreN X0.here hx rfl (hb hby at_2) rfl (l' := #[.val (.int ch), .val (.int (ch.toUInt32.toUInt16.toUInt32.toInt32)), .unset, .unset, .unset, .unset]) rfl ?_
    show Steps p.tables e below (s₁.setTop (mkF m 3 #[.val (.int ch), .val (.int (ch.toUInt32.toUInt16.toUInt32.toInt32)), .unset, .unset, .unset, .unset] [])) _
    refine XS.iloadN X0.here hx rfl (hb hby at_3) rfl ?_
    show Steps p.tables e below (s₁.setTop (mkF m 4 #[.val (.int ch), .val (.int (ch.toUInt32.toUInt16.toUInt32.toInt32)), .unset, .unset, .unset, .unset] [(.int (ch.toUInt32.toUInt16.toUInt32.toInt32))])) _
    refine XS.bipush X0.here hx rfl (hb hby at_4) ?_
    show Steps p.tables e below (s₁.setTop (mkF m 6 #[.val (.int ch), .val (.int (ch.toUInt32.toUInt16.toUInt32.toInt32)), .unset, .unset, .unset, .unset] [(.int (9 : Int32)), (.int (ch.toUInt32.toUInt16.toUInt32.toInt32))])) _
    refine XS.icmpNo X0.here hx rfl (hb hby at_6) rfl (feq hc6).1 ?_
    show Steps p.tables e below (s₁.setTop (mkF m 9 #[.val (.int ch), .val (.int (ch.toUInt32.toUInt16.toUInt32.toInt32)), .unset, .unset, .unset, .unset] [])) _
    refine XS.iloadN X0.here hx rfl (hb hby at_9) rfl ?_
    show Steps p.tables e below (s₁.setTop (mkF m 10 #[.val (.int ch), .val (.int (ch.toUInt32.toUInt16.toUInt32.toInt32)), .unset, .unset, .unset, .unset] [(.int (ch.toUInt32.toUInt16.toUInt32.toInt32))])) _
    refine XS.bipush X0.here hx rfl (hb hby at_10) ?_
    show Steps p.tables e below (s₁.setTop (mkF m 12 #[.val (.int ch), .val (.int (ch.toUInt32.toUInt16.toUInt32.toInt32)), .unset, .unset, .unset, .unset] [(.int (10 : Int32)), (.int (ch.toUInt32.toUInt16.toUInt32.toInt32))])) _
    refine XS.icmpNo X0.here hx rfl (hb hby at_12) rfl (feq hc12).1 ?_
    show Steps p.tables e below (s₁.setTop (mkF m 15 #[.val (.int ch), .val (.int (ch.toUInt32.toUInt16.toUInt32.toInt32)), .unset, .unset, .unset, .unset] [])) _
    refine XS.iloadN X0.here hx rfl (hb hby at_15) rfl ?_
    show Steps p.tables e below (s₁.setTop (mkF m 16 #[.val (.int ch), .val (.int (ch.toUInt32.toUInt16.toUInt32.toInt32)), .unset, .unset, .unset, .unset] [(.int (ch.toUInt32.toUInt16.toUInt32.toInt32))])) _
    refine XS.bipush X0.here hx rfl (hb hby at_16) ?_
    show Steps p.tables e below (s₁.setTop (mkF m 18 #[.val (.int ch), .val (.int (ch.toUInt32.toUInt16.toUInt32.toInt32)), .unset, .unset, .unset, .unset] [(.int (11 : Int32)), (.int (ch.toUInt32.toUInt16.toUInt32.toInt32))])) _
    refine XS.icmpYes X0.here hx rfl (pc0 := 18) (pc' := 39) rfl (hb hby at_18) rfl (teq hc18).1 (by decide) (by decide) ?_
    show Steps p.tables e below (s₁.setTop (mkF m 39 #[.val (.int ch), .val (.int (ch.toUInt32.toUInt16.toUInt32.toInt32)), .unset, .unset, .unset, .unset] [])) _
    refine XS.iconst X0.here hx rfl (hb hby at_39) ?_
    show Steps p.tables e below (s₁.setTop (mkF m 40 #[.val (.int ch), .val (.int (ch.toUInt32.toUInt16.toUInt32.toInt32)), .unset, .unset, .unset, .unset] [(.int (1 : Int32))])) _
    refine XS.goto X0.here hx rfl (pc0 := 40) (pc' := 44) rfl (hb hby at_40) (by decide) (by decide) ?_
    show Steps p.tables e below (s₁.setTop (mkF m 44 #[.val (.int ch), .val (.int (ch.toUInt32.toUInt16.toUInt32.toInt32)), .unset, .unset, .unset, .unset] [(.int (1 : Int32))])) _
    refine XS.istoreN X0.here hx rfl (hb hby at_44) rfl (l' := #[.val (.int ch), .val (.int (ch.toUInt32.toUInt16.toUInt32.toInt32)), .val (.int (1 : Int32)), .unset, .unset, .unset]) rfl ?_
    show Steps p.tables e below (s₁.setTop (mkF m 45 #[.val (.int ch), .val (.int (ch.toUInt32.toUInt16.toUInt32.toInt32)), .val (.int (1 : Int32)), .unset, .unset, .unset] [])) _
    refine XS.iloadN X0.here hx rfl (hb hby at_45) rfl ?_
    show Steps p.tables e below (s₁.setTop (mkF m 46 #[.val (.int ch), .val (.int (ch.toUInt32.toUInt16.toUInt32.toInt32)), .val (.int (1 : Int32)), .unset, .unset, .unset] [(.int (1 : Int32))])) _
    refine XS.ifYes X0.here hx rfl (pc0 := 46) (pc' := 56) rfl (hb hby at_46) rfl ((if0 _ _).trans (feq (by decide : ¬ ((1 : Int32) = (0 : Int32)))).2) (by decide) (by decide) ?_
    show Steps p.tables e below (s₁.setTop (mkF m 56 #[.val (.int ch), .val (.int (ch.toUInt32.toUInt16.toUInt32.toInt32)), .val (.int (1 : Int32)), .unset, .unset, .unset] [])) _
    refine XS.iconst X0.here hx rfl (hb hby at_56) ?_
    show Steps p.tables e below (s₁.setTop (mkF m 57 #[.val (.int ch), .val (.int (ch.toUInt32.toUInt16.toUInt32.toInt32)), .val (.int (1 : Int32)), .unset, .unset, .unset] [(.int (1 : Int32))])) _
    refine XS.goto X0.here hx rfl (pc0 := 57) (pc' := 61) rfl (hb hby at_57) (by decide) (by decide) ?_
    show Steps p.tables e below (s₁.setTop (mkF m 61 #[.val (.int ch), .val (.int (ch.toUInt32.toUInt16.toUInt32.toInt32)), .val (.int (1 : Int32)), .unset, .unset, .unset] [(.int (1 : Int32))])) _
    refine XS.istoreN X0.here hx rfl (hb hby at_61) rfl (l' := #[.val (.int ch), .val (.int (ch.toUInt32.toUInt16.toUInt32.toInt32)), .val (.int (1 : Int32)), .val (.int (1 : Int32)), .unset, .unset]) rfl ?_
    show Steps p.tables e below (s₁.setTop (mkF m 62 #[.val (.int ch), .val (.int (ch.toUInt32.toUInt16.toUInt32.toInt32)), .val (.int (1 : Int32)), .val (.int (1 : Int32)), .unset, .unset] [])) _
    refine st1 _ ?_
    show Steps p.tables e below (T1.setTop (mkF m 65 #[.val (.int ch), .val (.int (ch.toUInt32.toUInt16.toUInt32.toInt32)), .val (.int (1 : Int32)), .val (.int (1 : Int32)), .unset, .unset] [(.ref a)])) _
    refine XS.iloadN X1.here hx rfl (hb hby at_65) rfl ?_
    show Steps p.tables e below (T1.setTop (mkF m 66 #[.val (.int ch), .val (.int (ch.toUInt32.toUInt16.toUInt32.toInt32)), .val (.int (1 : Int32)), .val (.int (1 : Int32)), .unset, .unset] [(.int (ch.toUInt32.toUInt16.toUInt32.toInt32)), (.ref a)])) _
    refine st2.trans ?_
    show Steps p.tables e below (T2.setTop (mkF m 69 #[.val (.int ch), .val (.int (ch.toUInt32.toUInt16.toUInt32.toInt32)), .val (.int (1 : Int32)), .val (.int (1 : Int32)), .unset, .unset] [(.int (1 : Int32))])) _
    refine XS.istore X2.here hx rfl (hb hby at_69) rfl (l' := #[.val (.int ch), .val (.int (ch.toUInt32.toUInt16.toUInt32.toInt32)), .val (.int (1 : Int32)), .val (.int (1 : Int32)), .val (.int (1 : Int32)), .unset]) rfl ?_
    show Steps p.tables e below (T2.setTop (mkF m 71 #[.val (.int ch), .val (.int (ch.toUInt32.toUInt16.toUInt32.toInt32)), .val (.int (1 : Int32)), .val (.int (1 : Int32)), .val (.int (1 : Int32)), .unset] [])) _
    refine st3 _ ?_
    show Steps p.tables e below (T3.setTop (mkF m 74 #[.val (.int ch), .val (.int (ch.toUInt32.toUInt16.toUInt32.toInt32)), .val (.int (1 : Int32)), .val (.int (1 : Int32)), .val (.int (1 : Int32)), .unset] [(.ref b)])) _
    refine XS.iloadN X3.here hx rfl (hb hby at_74) rfl ?_
    show Steps p.tables e below (T3.setTop (mkF m 75 #[.val (.int ch), .val (.int (ch.toUInt32.toUInt16.toUInt32.toInt32)), .val (.int (1 : Int32)), .val (.int (1 : Int32)), .val (.int (1 : Int32)), .unset] [(.int (ch.toUInt32.toUInt16.toUInt32.toInt32)), (.ref b)])) _
    refine st4.trans ?_
    show Steps p.tables e below (T4.setTop (mkF m 78 #[.val (.int ch), .val (.int (ch.toUInt32.toUInt16.toUInt32.toInt32)), .val (.int (1 : Int32)), .val (.int (1 : Int32)), .val (.int (1 : Int32)), .unset] [(.int (1 : Int32))])) _
    refine XS.istore X4.here hx rfl (hb hby at_78) rfl (l' := #[.val (.int ch), .val (.int (ch.toUInt32.toUInt16.toUInt32.toInt32)), .val (.int (1 : Int32)), .val (.int (1 : Int32)), .val (.int (1 : Int32)), .val (.int (1 : Int32))]) rfl ?_
    show Steps p.tables e below (T4.setTop (mkF m 80 #[.val (.int ch), .val (.int (ch.toUInt32.toUInt16.toUInt32.toInt32)), .val (.int (1 : Int32)), .val (.int (1 : Int32)), .val (.int (1 : Int32)), .val (.int (1 : Int32))] [])) _
    refine XS.iload X4.here hx rfl (hb hby at_80) rfl ?_
    show Steps p.tables e below (T4.setTop (mkF m 82 #[.val (.int ch), .val (.int (ch.toUInt32.toUInt16.toUInt32.toInt32)), .val (.int (1 : Int32)), .val (.int (1 : Int32)), .val (.int (1 : Int32)), .val (.int (1 : Int32))] [(.int (1 : Int32))])) _
    refine XS.iloadN X4.here hx rfl (hb hby at_82) rfl ?_
    show Steps p.tables e below (T4.setTop (mkF m 83 #[.val (.int ch), .val (.int (ch.toUInt32.toUInt16.toUInt32.toInt32)), .val (.int (1 : Int32)), .val (.int (1 : Int32)), .val (.int (1 : Int32)), .val (.int (1 : Int32))] [(.int (1 : Int32)), (.int (1 : Int32))])) _
    refine XS.icmpNo X4.here hx rfl (hb hby at_83) rfl (teq (by decide : (1 : Int32) = (1 : Int32))).2 ?_
    show Steps p.tables e below (T4.setTop (mkF m 86 #[.val (.int ch), .val (.int (ch.toUInt32.toUInt16.toUInt32.toInt32)), .val (.int (1 : Int32)), .val (.int (1 : Int32)), .val (.int (1 : Int32)), .val (.int (1 : Int32))] [])) _
    refine XS.iload X4.here hx rfl (hb hby at_86) rfl ?_
    show Steps p.tables e below (T4.setTop (mkF m 88 #[.val (.int ch), .val (.int (ch.toUInt32.toUInt16.toUInt32.toInt32)), .val (.int (1 : Int32)), .val (.int (1 : Int32)), .val (.int (1 : Int32)), .val (.int (1 : Int32))] [(.int (1 : Int32))])) _
    refine XS.iloadN X4.here hx rfl (hb hby at_88) rfl ?_
    show Steps p.tables e below (T4.setTop (mkF m 89 #[.val (.int ch), .val (.int (ch.toUInt32.toUInt16.toUInt32.toInt32)), .val (.int (1 : Int32)), .val (.int (1 : Int32)), .val (.int (1 : Int32)), .val (.int (1 : Int32))] [(.int (1 : Int32)), (.int (1 : Int32))])) _
    refine XS.icmpNo X4.here hx rfl (hb hby at_89) rfl (teq (by decide : (1 : Int32) = (1 : Int32))).2 ?_
    show Steps p.tables e below (T4.setTop (mkF m 92 #[.val (.int ch), .val (.int (ch.toUInt32.toUInt16.toUInt32.toInt32)), .val (.int (1 : Int32)), .val (.int (1 : Int32)), .val (.int (1 : Int32)), .val (.int (1 : Int32))] [])) _
    refine XS.iconst X4.here hx rfl (hb hby at_92) ?_
    show Steps p.tables e below (T4.setTop (mkF m 93 #[.val (.int ch), .val (.int (ch.toUInt32.toUInt16.toUInt32.toInt32)), .val (.int (1 : Int32)), .val (.int (1 : Int32)), .val (.int (1 : Int32)), .val (.int (1 : Int32))] [(.int (1 : Int32))])) _
    refine XS.goto X4.here hx rfl (pc0 := 93) (pc' := 97) rfl (hb hby at_93) (by decide) (by decide) ?_
    show Steps p.tables e below (T4.setTop (mkF m 97 #[.val (.int ch), .val (.int (ch.toUInt32.toUInt16.toUInt32.toInt32)), .val (.int (1 : Int32)), .val (.int (1 : Int32)), .val (.int (1 : Int32)), .val (.int (1 : Int32))] [(.int (1 : Int32))])) _
    exact retN X4 hx (t := .boolean) Bd.returns (by simp) (hb hby at_97) hr
  · exact ⟨rfl, N4, e4⟩
set_option maxRecDepth 65536 in
set_option maxHeartbeats 40000000 in
theorem law_12 (l : Launch) (Z : State) (a0 : Array Value) (hw : ∀ d ∈ tables_1, d.before a0 Z = true) (ch : Int32) (a b : Addr) (h0 : Heap) (n0 : Nat) (Z0 : n0 ≤ h0.size) (S_ASCII : Sta Z h0 "com/example/rowtide/rowtide/binlog/CharacterSet$Spacing" "ASCII" "Lcom/example/rowtide/rowtide/binlog/CharacterSet$Spacing;" (.ref a)) (S_LATIN1 : Sta Z h0 "com/example/rowtide/rowtide/binlog/CharacterSet$Spacing" "LATIN1" "Lcom/example/rowtide/rowtide/binlog/CharacterSet$Spacing;" (.ref b)) (hsp : (ch.toUInt32.toUInt16.toUInt32.toInt32) = (32 : Int32) ∨ (¬ ((ch.toUInt32.toUInt16.toUInt32.toInt32) < (9 : Int32)) ∧ ¬ ((13 : Int32) < (ch.toUInt32.toUInt16.toUInt32.toInt32)))) (E_a : Exa Z h0 a "com/example/rowtide/rowtide/binlog/CharacterSet$Spacing") (E_b : Exa Z h0 b "com/example/rowtide/rowtide/binlog/CharacterSet$Spacing") (hc6 : ¬ ((ch.toUInt32.toUInt16.toUInt32.toInt32) = (9 : Int32))) (hc12 : ¬ ((ch.toUInt32.toUInt16.toUInt32.toInt32) = (10 : Int32))) (hc18 : ¬ ((ch.toUInt32.toUInt16.toUInt32.toInt32) = (11 : Int32))) (hc24 : (ch.toUInt32.toUInt16.toUInt32.toInt32) = (12 : Int32)) :
    RO l Z x code maxLocals ret room_1 #[(.int ch)] h0 n0 (.int (1 : Int32)) := by
  intro ws
  refine MetFree.of_bodySF (plainFor_of_name pn_0) hisR ?_
  intro p e s m args below meth c s₁ Bd hml0 hP hK
  obtain ⟨rfl, hZ, hh⟩ := hP
  have hx := Bd.exec
  have hby := Bd.bytes
  have hml : c.maxLocals = 6 := hml0
  have hown : s.vm.findClass "com/example/rowtide/rowtide/binlog/SpacingSpacePinLaw" = some m.cls := findClass_of_methodNamed Bd.named
  have hnm := (name_of_methodNamed Bd.named Bd.method).1
  have X0 : Stand p l e room_1 s m #[(.int ch)] below meth c s₁ [] 0 0 := Stand.of_body Bd
  have e0 : s₁.heap = h0 := by rw [← hh, Bd.state]; rfl
  have N0 := Fr.nil n0
  have pre0 : ∀ t_, Steps p.tables e below (s₁.setTop (mkF m 0 #[.val (.int ch), .unset, .unset, .unset, .unset, .unset] [])) t_ → Steps p.tables e below (s₁.setTop (entryFrame m #[(.int ch)] maxLocals)) t_ := fun t_ k_ => castTop (ef_0 m ch) k_
  obtain ⟨T1, X1, e1, st1⟩ := getS2 X0 hx hZ hown (host := "") (Or.inl (hw _ (List.mem_of_getElem? (i := 0) rfl))) Via.refl e0 S_ASCII (g := (mkF m 62 #[.val (.int ch), .val (.int (ch.toUInt32.toUInt16.toUInt32.toInt32)), .val (.int (1 : Int32)), .val (.int (1 : Int32)), .unset, .unset] [])) rfl (hb hby at_62)
  obtain ⟨cq2, kq2, q2a, q2b, q2c⟩ := isOf hZ e1 E_a
  obtain ⟨_, _, ⟨T2, L2, k2, n2⟩, -, X2, ⟨Lc2, hQ2, l2, y2, z2⟩, st2⟩ := X1.virtualBack hx (y := (⟨"com/example/rowtide/rowtide/binlog/CharacterSet$Spacing", "space", "(C)Z"⟩ : MethodName)) (z := (⟨"com/example/rowtide/rowtide/binlog/CharacterSet$Spacing", "space", "(C)Z"⟩ : MethodName)) hown (mvT hZ (hw _ (List.mem_of_getElem? (i := 3) rfl))) (mvT hZ (hw _ (List.mem_of_getElem? (i := 4) rfl))) (notFace_of_selects (args := #[]) (mvT hZ (hw _ (List.mem_of_getElem? (i := 6) rfl)))) (mvT hZ (hw _ (List.mem_of_getElem? (i := 6) rfl))) (mvT hZ (hw _ (List.mem_of_getElem? (i := 5) rfl))) (by decide) (backOf (W := 0) ((space_yes l Z a0 hw a (ch.toUInt32.toUInt16.toUInt32.toInt32) h0 n0 Z0 hsp) []) hZ (hw _ (List.mem_of_getElem? (i := 7) rfl)) (hw _ (List.mem_of_getElem? (i := 1) rfl)) (by decide) (by decide)) q2a q2c (g := (mkF m 66 #[.val (.int ch), .val (.int (ch.toUInt32.toUInt16.toUInt32.toInt32)), .val (.int (1 : Int32)), .val (.int (1 : Int32)), .unset, .unset] [(.int (ch.toUInt32.toUInt16.toUInt32.toInt32)), (.ref a)])) rfl (by rw [hml]; rfl) (Steps.refl _) (argsL := [(.int (ch.toUInt32.toUInt16.toUInt32.toInt32))]) (rest := []) (lenOf pd_oCcZ rfl) rfl (by show 2 * 0 + _ ≤ _; exact Nat.le_of_eq rfl) (hb hby at_66) (fun _ _ => ⟨rfl, e1, (by decide : 0 + 0 ≤ _), (by decide : 0 + 0 ≤ _)⟩)
  dsimp only [Pt.U, Pt.locs, Pt.cells, Pt.slots] at X2 l2 y2 z2 st2 hQ2
  subst l2 y2 z2
  obtain ⟨rfl, N2q, e2⟩ := hQ2
  have N2 := Fr.app N0 N2q
  obtain ⟨T3, X3, e3, st3⟩ := getS2 X2 hx hZ hown (host := "") (Or.inl (hw _ (List.mem_of_getElem? (i := 10) rfl))) Via.refl e2 S_LATIN1 (g := (mkF m 71 #[.val (.int ch), .val (.int (ch.toUInt32.toUInt16.toUInt32.toInt32)), .val (.int (1 : Int32)), .val (.int (1 : Int32)), .val (.int (1 : Int32)), .unset] [])) rfl (hb hby at_71)
  obtain ⟨cq4, kq4, q4a, q4b, q4c⟩ := isOf hZ e3 E_b
  obtain ⟨_, _, ⟨T4, L4, k4, n4⟩, -, X4, ⟨Lc4, hQ4, l4, y4, z4⟩, st4⟩ := X3.virtualBack hx (y := (⟨"com/example/rowtide/rowtide/binlog/CharacterSet$Spacing", "space", "(C)Z"⟩ : MethodName)) (z := (⟨"com/example/rowtide/rowtide/binlog/CharacterSet$Spacing", "space", "(C)Z"⟩ : MethodName)) hown (mvT hZ (hw _ (List.mem_of_getElem? (i := 3) rfl))) (mvT hZ (hw _ (List.mem_of_getElem? (i := 4) rfl))) (notFace_of_selects (args := #[]) (mvT hZ (hw _ (List.mem_of_getElem? (i := 6) rfl)))) (mvT hZ (hw _ (List.mem_of_getElem? (i := 6) rfl))) (mvT hZ (hw _ (List.mem_of_getElem? (i := 5) rfl))) (by decide) (backOf (W := 0) ((space_yes l Z a0 hw b (ch.toUInt32.toUInt16.toUInt32.toInt32) h0 n0 Z0 hsp) []) hZ (hw _ (List.mem_of_getElem? (i := 7) rfl)) (hw _ (List.mem_of_getElem? (i := 1) rfl)) (by decide) (by decide)) q4a q4c (g := (mkF m 75 #[.val (.int ch), .val (.int (ch.toUInt32.toUInt16.toUInt32.toInt32)), .val (.int (1 : Int32)), .val (.int (1 : Int32)), .val (.int (1 : Int32)), .unset] [(.int (ch.toUInt32.toUInt16.toUInt32.toInt32)), (.ref b)])) rfl (by rw [hml]; rfl) (Steps.refl _) (argsL := [(.int (ch.toUInt32.toUInt16.toUInt32.toInt32))]) (rest := []) (lenOf pd_oCcZ rfl) rfl (by show 2 * 0 + _ ≤ _; exact Nat.le_of_eq rfl) (hb hby at_75) (fun _ _ => ⟨rfl, e3, (by decide : 0 + 0 ≤ _), (by decide : 0 + 0 ≤ _)⟩)
  dsimp only [Pt.U, Pt.locs, Pt.cells, Pt.slots] at X4 l4 y4 z4 st4 hQ4
  subst l4 y4 z4
  obtain ⟨rfl, N4q, e4⟩ := hQ4
  have N4 := Fr.app N2 N4q
  obtain ⟨fs, hr, hrun, hended, hW, hsame⟩ := X4.leave (v := some (.int (1 : Int32))) (fun h => by rw [Bd.returns] at h; cases h)
  refine ⟨_, _, pre0 _ ?_, hrun, hended, _, _, rfl, ?_, ⟨_, rfl⟩, hW, hsame.mono (by decide) (by decide)⟩
  · show Steps p.tables e below (s₁.setTop (mkF m 0 #[.val (.int ch), .unset, .unset, .unset, .unset, .unset] [])) _
    refine XS.iloadN X0.here hx rfl (hb hby at_0) rfl ?_
    show Steps p.tables e below (s₁.setTop (mkF m 1 #[.val (.int ch), .unset, .unset, .unset, .unset, .unset] [(.int ch)])) _
    refine XS.i2c X0.here hx rfl (hb hby at_1) rfl ?_
    show Steps p.tables e below (s₁.setTop (mkF m 2 #[.val (.int ch), .unset, .unset, .unset, .unset, .unset] [(.int (ch.toUInt32.toUInt16.toUInt32.toInt32))])) _
    refine XS.istoreN X0.here hx rfl (hb hby at_2) rfl (l' := #[.val (.int ch), .val (.int (ch.toUInt32.toUInt16.toUInt32.toInt32)), .unset, .unset, .unset, .unset]) rfl ?_
    show Steps p.tables e below (s₁.setTop (mkF m 3 #[.val (.int ch), .val (.int (ch.toUInt32.toUInt16.toUInt32.toInt32)), .unset, .unset, .unset, .unset] [])) _
    refine XS.iloadN X0.here hx rfl (hb hby at_3) rfl ?_
    show Steps p.tables e below (s₁.setTop (mkF m 4 #[.val (.int ch), .val (.int (ch.toUInt32.toUInt16.toUInt32.toInt32)), .unset, .unset, .unset, .unset] [(.int (ch.toUInt32.toUInt16.toUInt32.toInt32))])) _
    refine XS.bipush X0.here hx rfl (hb hby at_4) ?_
    show Steps p.tables e below (s₁.setTop (mkF m 6 #[.val (.int ch), .val (.int (ch.toUInt32.toUInt16.toUInt32.toInt32)), .unset, .unset, .unset, .unset] [(.int (9 : Int32)), (.int (ch.toUInt32.toUInt16.toUInt32.toInt32))])) _
    refine XS.icmpNo X0.here hx rfl (hb hby at_6) rfl (feq hc6).1 ?_
    show Steps p.tables e below (s₁.setTop (mkF m 9 #[.val (.int ch), .val (.int (ch.toUInt32.toUInt16.toUInt32.toInt32)), .unset, .unset, .unset, .unset] [])) _
    refine XS.iloadN X0.here hx rfl (hb hby at_9) rfl ?_
    show Steps p.tables e below (s₁.setTop (mkF m 10 #[.val (.int ch), .val (.int (ch.toUInt32.toUInt16.toUInt32.toInt32)), .unset, .unset, .unset, .unset] [(.int (ch.toUInt32.toUInt16.toUInt32.toInt32))])) _
    refine XS.bipush X0.here hx rfl (hb hby at_10) ?_
    show Steps p.tables e below (s₁.setTop (mkF m 12 #[.val (.int ch), .val (.int (ch.toUInt32.toUInt16.toUInt32.toInt32)), .unset, .unset, .unset, .unset] [(.int (10 : Int32)), (.int (ch.toUInt32.toUInt16.toUInt32.toInt32))])) _
    refine XS.icmpNo X0.here hx rfl (hb hby at_12) rfl (feq hc12).1 ?_
    show Steps p.tables e below (s₁.setTop (mkF m 15 #[.val (.int ch), .val (.int (ch.toUInt32.toUInt16.toUInt32.toInt32)), .unset, .unset, .unset, .unset] [])) _
    refine XS.iloadN X0.here hx rfl (hb hby at_15) rfl ?_
    show Steps p.tables e below (s₁.setTop (mkF m 16 #[.val (.int ch), .val (.int (ch.toUInt32.toUInt16.toUInt32.toInt32)), .unset, .unset, .unset, .unset] [(.int (ch.toUInt32.toUInt16.toUInt32.toInt32))])) _
    refine XS.bipush X0.here hx rfl (hb hby at_16) ?_
    show Steps p.tables e below (s₁.setTop (mkF m 18 #[.val (.int ch), .val (.int (ch.toUInt32.toUInt16.toUInt32.toInt32)), .unset, .unset, .unset, .unset] [(.int (11 : Int32)), (.int (ch.toUInt32.toUInt16.toUInt32.toInt32))])) _
    refine XS.icmpNo X0.here hx rfl (hb hby at_18) rfl (feq hc18).1 ?_
    show Steps p.tables e below (s₁.setTop (mkF m 21 #[.val (.int ch), .val (.int (ch.toUInt32.toUInt16.toUInt32.toInt32)), .unset, .unset, .unset, .unset] [])) _
    refine XS.iloadN X0.here hx rfl (hb hby at_21) rfl ?_
    show Steps p.tables e below (s₁.setTop (mkF m 22 #[.val (.int ch), .val (.int (ch.toUInt32.toUInt16.toUInt32.toInt32)), .unset, .unset, .unset, .unset] [(.int (ch.toUInt32.toUInt16.toUInt32.toInt32))])) _
    refine XS.bipush X0.here hx rfl (hb hby at_22) ?_
    show Steps p.tables e below (s₁.setTop (mkF m 24 #[.val (.int ch), .val (.int (ch.toUInt32.toUInt16.toUInt32.toInt32)), .unset, .unset, .unset, .unset] [(.int (12 : Int32)), (.int (ch.toUInt32.toUInt16.toUInt32.toInt32))])) _
    refine XS.icmpYes X0.here hx rfl (pc0 := 24) (pc' := 39) rfl (hb hby at_24) rfl (teq hc24).1 (by decide) (by decide) ?_
    show Steps p.tables e below (s₁.setTop (mkF m 39 #[.val (.int ch), .val (.int (ch.toUInt32.toUInt16.toUInt32.toInt32)), .unset, .unset, .unset, .unset] [])) _
    refine XS.iconst X0.here hx rfl (hb hby at_39) ?_
    show Steps p.tables e below (s₁.setTop (mkF m 40 #[.val (.int ch), .val (.int (ch.toUInt32.toUInt16.toUInt32.toInt32)), .unset, .unset, .unset, .unset] [(.int (1 : Int32))])) _
    refine XS.goto X0.here hx rfl (pc0 := 40) (pc' := 44) rfl (hb hby at_40) (by decide) (by decide) ?_
    show Steps p.tables e below (s₁.setTop (mkF m 44 #[.val (.int ch), .val (.int (ch.toUInt32.toUInt16.toUInt32.toInt32)), .unset, .unset, .unset, .unset] [(.int (1 : Int32))])) _
    refine XS.istoreN X0.here hx rfl (hb hby at_44) rfl (l' := #[.val (.int ch), .val (.int (ch.toUInt32.toUInt16.toUInt32.toInt32)), .val (.int (1 : Int32)), .unset, .unset, .unset]) rfl ?_
    show Steps p.tables e below (s₁.setTop (mkF m 45 #[.val (.int ch), .val (.int (ch.toUInt32.toUInt16.toUInt32.toInt32)), .val (.int (1 : Int32)), .unset, .unset, .unset] [])) _
    refine XS.iloadN X0.here hx rfl (hb hby at_45) rfl ?_
    show Steps p.tables e below (s₁.setTop (mkF m 46 #[.val (.int ch), .val (.int (ch.toUInt32.toUInt16.toUInt32.toInt32)), .val (.int (1 : Int32)), .unset, .unset, .unset] [(.int (1 : Int32))])) _
    refine XS.ifYes X0.here hx rfl (pc0 := 46) (pc' := 56) rfl (hb hby at_46) rfl ((if0 _ _).trans (feq (by decide : ¬ ((1 : Int32) = (0 : Int32)))).2) (by decide) (by decide) ?_
    show Steps p.tables e below (s₁.setTop (mkF m 56 #[.val (.int ch), .val (.int (ch.toUInt32.toUInt16.toUInt32.toInt32)), .val (.int (1 : Int32)), .unset, .unset, .unset] [])) _
    refine XS.iconst X0.here hx rfl (hb hby at_56) ?_
    show Steps p.tables e below (s₁.setTop (mkF m 57 #[.val (.int ch), .val (.int (ch.toUInt32.toUInt16.toUInt32.toInt32)), .val (.int (1 : Int32)), .unset, .unset, .unset] [(.int (1 : Int32))])) _
    refine XS.goto X0.here hx rfl (pc0 := 57) (pc' := 61) rfl (hb hby at_57) (by decide) (by decide) ?_
    show Steps p.tables e below (s₁.setTop (mkF m 61 #[.val (.int ch), .val (.int (ch.toUInt32.toUInt16.toUInt32.toInt32)), .val (.int (1 : Int32)), .unset, .unset, .unset] [(.int (1 : Int32))])) _
    refine XS.istoreN X0.here hx rfl (hb hby at_61) rfl (l' := #[.val (.int ch), .val (.int (ch.toUInt32.toUInt16.toUInt32.toInt32)), .val (.int (1 : Int32)), .val (.int (1 : Int32)), .unset, .unset]) rfl ?_
    show Steps p.tables e below (s₁.setTop (mkF m 62 #[.val (.int ch), .val (.int (ch.toUInt32.toUInt16.toUInt32.toInt32)), .val (.int (1 : Int32)), .val (.int (1 : Int32)), .unset, .unset] [])) _
    refine st1 _ ?_
    show Steps p.tables e below (T1.setTop (mkF m 65 #[.val (.int ch), .val (.int (ch.toUInt32.toUInt16.toUInt32.toInt32)), .val (.int (1 : Int32)), .val (.int (1 : Int32)), .unset, .unset] [(.ref a)])) _
    refine XS.iloadN X1.here hx rfl (hb hby at_65) rfl ?_
    show Steps p.tables e below (T1.setTop (mkF m 66 #[.val (.int ch), .val (.int (ch.toUInt32.toUInt16.toUInt32.toInt32)), .val (.int (1 : Int32)), .val (.int (1 : Int32)), .unset, .unset] [(.int (ch.toUInt32.toUInt16.toUInt32.toInt32)), (.ref a)])) _
    refine st2.trans ?_
    show Steps p.tables e below (T2.setTop (mkF m 69 #[.val (.int ch), .val (.int (ch.toUInt32.toUInt16.toUInt32.toInt32)), .val (.int (1 : Int32)), .val (.int (1 : Int32)), .unset, .unset] [(.int (1 : Int32))])) _
    refine XS.istore X2.here hx rfl (hb hby at_69) rfl (l' := #[.val (.int ch), .val (.int (ch.toUInt32.toUInt16.toUInt32.toInt32)), .val (.int (1 : Int32)), .val (.int (1 : Int32)), .val (.int (1 : Int32)), .unset]) rfl ?_
    show Steps p.tables e below (T2.setTop (mkF m 71 #[.val (.int ch), .val (.int (ch.toUInt32.toUInt16.toUInt32.toInt32)), .val (.int (1 : Int32)), .val (.int (1 : Int32)), .val (.int (1 : Int32)), .unset] [])) _
    refine st3 _ ?_
    show Steps p.tables e below (T3.setTop (mkF m 74 #[.val (.int ch), .val (.int (ch.toUInt32.toUInt16.toUInt32.toInt32)), .val (.int (1 : Int32)), .val (.int (1 : Int32)), .val (.int (1 : Int32)), .unset] [(.ref b)])) _
    refine XS.iloadN X3.here hx rfl (hb hby at_74) rfl ?_
    show Steps p.tables e below (T3.setTop (mkF m 75 #[.val (.int ch), .val (.int (ch.toUInt32.toUInt16.toUInt32.toInt32)), .val (.int (1 : Int32)), .val (.int (1 : Int32)), .val (.int (1 : Int32)), .unset] [(.int (ch.toUInt32.toUInt16.toUInt32.toInt32)), (.ref b)])) _
    refine st4.trans ?_
    show Steps p.tables e below (T4.setTop (mkF m 78 #[.val (.int ch), .val (.int (ch.toUInt32.toUInt16.toUInt32.toInt32)), .val (.int (1 : Int32)), .val (.int (1 : Int32)), .val (.int (1 : Int32)), .unset] [(.int (1 : Int32))])) _
    refine XS.istore X4.here hx rfl (hb hby at_78) rfl (l' := #[.val (.int ch), .val (.int (ch.toUInt32.toUInt16.toUInt32.toInt32)), .val (.int (1 : Int32)), .val (.int (1 : Int32)), .val (.int (1 : Int32)), .val (.int (1 : Int32))]) rfl ?_
    show Steps p.tables e below (T4.setTop (mkF m 80 #[.val (.int ch), .val (.int (ch.toUInt32.toUInt16.toUInt32.toInt32)), .val (.int (1 : Int32)), .val (.int (1 : Int32)), .val (.int (1 : Int32)), .val (.int (1 : Int32))] [])) _
    refine XS.iload X4.here hx rfl (hb hby at_80) rfl ?_
    show Steps p.tables e below (T4.setTop (mkF m 82 #[.val (.int ch), .val (.int (ch.toUInt32.toUInt16.toUInt32.toInt32)), .val (.int (1 : Int32)), .val (.int (1 : Int32)), .val (.int (1 : Int32)), .val (.int (1 : Int32))] [(.int (1 : Int32))])) _
    refine XS.iloadN X4.here hx rfl (hb hby at_82) rfl ?_
    show Steps p.tables e below (T4.setTop (mkF m 83 #[.val (.int ch), .val (.int (ch.toUInt32.toUInt16.toUInt32.toInt32)), .val (.int (1 : Int32)), .val (.int (1 : Int32)), .val (.int (1 : Int32)), .val (.int (1 : Int32))] [(.int (1 : Int32)), (.int (1 : Int32))])) _
    refine XS.icmpNo X4.here hx rfl (hb hby at_83) rfl (teq (by decide : (1 : Int32) = (1 : Int32))).2 ?_
    show Steps p.tables e below (T4.setTop (mkF m 86 #[.val (.int ch), .val (.int (ch.toUInt32.toUInt16.toUInt32.toInt32)), .val (.int (1 : Int32)), .val (.int (1 : Int32)), .val (.int (1 : Int32)), .val (.int (1 : Int32))] [])) _
    refine XS.iload X4.here hx rfl (hb hby at_86) rfl ?_
    show Steps p.tables e below (T4.setTop (mkF m 88 #[.val (.int ch), .val (.int (ch.toUInt32.toUInt16.toUInt32.toInt32)), .val (.int (1 : Int32)), .val (.int (1 : Int32)), .val (.int (1 : Int32)), .val (.int (1 : Int32))] [(.int (1 : Int32))])) _
    refine XS.iloadN X4.here hx rfl (hb hby at_88) rfl ?_
    show Steps p.tables e below (T4.setTop (mkF m 89 #[.val (.int ch), .val (.int (ch.toUInt32.toUInt16.toUInt32.toInt32)), .val (.int (1 : Int32)), .val (.int (1 : Int32)), .val (.int (1 : Int32)), .val (.int (1 : Int32))] [(.int (1 : Int32)), (.int (1 : Int32))])) _
    refine XS.icmpNo X4.here hx rfl (hb hby at_89) rfl (teq (by decide : (1 : Int32) = (1 : Int32))).2 ?_
    show Steps p.tables e below (T4.setTop (mkF m 92 #[.val (.int ch), .val (.int (ch.toUInt32.toUInt16.toUInt32.toInt32)), .val (.int (1 : Int32)), .val (.int (1 : Int32)), .val (.int (1 : Int32)), .val (.int (1 : Int32))] [])) _
    refine XS.iconst X4.here hx rfl (hb hby at_92) ?_
    show Steps p.tables e below (T4.setTop (mkF m 93 #[.val (.int ch), .val (.int (ch.toUInt32.toUInt16.toUInt32.toInt32)), .val (.int (1 : Int32)), .val (.int (1 : Int32)), .val (.int (1 : Int32)), .val (.int (1 : Int32))] [(.int (1 : Int32))])) _
    refine XS.goto X4.here hx rfl (pc0 := 93) (pc' := 97) rfl (hb hby at_93) (by decide) (by decide) ?_
    show Steps p.tables e below (T4.setTop (mkF m 97 #[.val (.int ch), .val (.int (ch.toUInt32.toUInt16.toUInt32.toInt32)), .val (.int (1 : Int32)), .val (.int (1 : Int32)), .val (.int (1 : Int32)), .val (.int (1 : Int32))] [(.int (1 : Int32))])) _
    exact retN X4 hx (t := .boolean) Bd.returns (by simp) (hb hby at_97) hr
  · exact ⟨rfl, N4, e4⟩
set_option maxRecDepth 65536 in
set_option maxHeartbeats 40000000 in
theorem law_13 (l : Launch) (Z : State) (a0 : Array Value) (hw : ∀ d ∈ tables_1, d.before a0 Z = true) (ch : Int32) (a b : Addr) (h0 : Heap) (n0 : Nat) (Z0 : n0 ≤ h0.size) (S_ASCII : Sta Z h0 "com/example/rowtide/rowtide/binlog/CharacterSet$Spacing" "ASCII" "Lcom/example/rowtide/rowtide/binlog/CharacterSet$Spacing;" (.ref a)) (S_LATIN1 : Sta Z h0 "com/example/rowtide/rowtide/binlog/CharacterSet$Spacing" "LATIN1" "Lcom/example/rowtide/rowtide/binlog/CharacterSet$Spacing;" (.ref b)) (hsp : (ch.toUInt32.toUInt16.toUInt32.toInt32) = (32 : Int32) ∨ (¬ ((ch.toUInt32.toUInt16.toUInt32.toInt32) < (9 : Int32)) ∧ ¬ ((13 : Int32) < (ch.toUInt32.toUInt16.toUInt32.toInt32)))) (E_a : Exa Z h0 a "com/example/rowtide/rowtide/binlog/CharacterSet$Spacing") (E_b : Exa Z h0 b "com/example/rowtide/rowtide/binlog/CharacterSet$Spacing") (hc6 : ¬ ((ch.toUInt32.toUInt16.toUInt32.toInt32) = (9 : Int32))) (hc12 : ¬ ((ch.toUInt32.toUInt16.toUInt32.toInt32) = (10 : Int32))) (hc18 : ¬ ((ch.toUInt32.toUInt16.toUInt32.toInt32) = (11 : Int32))) (hc24 : ¬ ((ch.toUInt32.toUInt16.toUInt32.toInt32) = (12 : Int32))) (hc30 : (ch.toUInt32.toUInt16.toUInt32.toInt32) = (13 : Int32)) :
    RO l Z x code maxLocals ret room_1 #[(.int ch)] h0 n0 (.int (1 : Int32)) := by
  intro ws
  refine MetFree.of_bodySF (plainFor_of_name pn_0) hisR ?_
  intro p e s m args below meth c s₁ Bd hml0 hP hK
  obtain ⟨rfl, hZ, hh⟩ := hP
  have hx := Bd.exec
  have hby := Bd.bytes
  have hml : c.maxLocals = 6 := hml0
  have hown : s.vm.findClass "com/example/rowtide/rowtide/binlog/SpacingSpacePinLaw" = some m.cls := findClass_of_methodNamed Bd.named
  have hnm := (name_of_methodNamed Bd.named Bd.method).1
  have X0 : Stand p l e room_1 s m #[(.int ch)] below meth c s₁ [] 0 0 := Stand.of_body Bd
  have e0 : s₁.heap = h0 := by rw [← hh, Bd.state]; rfl
  have N0 := Fr.nil n0
  have pre0 : ∀ t_, Steps p.tables e below (s₁.setTop (mkF m 0 #[.val (.int ch), .unset, .unset, .unset, .unset, .unset] [])) t_ → Steps p.tables e below (s₁.setTop (entryFrame m #[(.int ch)] maxLocals)) t_ := fun t_ k_ => castTop (ef_0 m ch) k_
  obtain ⟨T1, X1, e1, st1⟩ := getS2 X0 hx hZ hown (host := "") (Or.inl (hw _ (List.mem_of_getElem? (i := 0) rfl))) Via.refl e0 S_ASCII (g := (mkF m 62 #[.val (.int ch), .val (.int (ch.toUInt32.toUInt16.toUInt32.toInt32)), .val (.int (1 : Int32)), .val (.int (1 : Int32)), .unset, .unset] [])) rfl (hb hby at_62)
  obtain ⟨cq2, kq2, q2a, q2b, q2c⟩ := isOf hZ e1 E_a
  obtain ⟨_, _, ⟨T2, L2, k2, n2⟩, -, X2, ⟨Lc2, hQ2, l2, y2, z2⟩, st2⟩ := X1.virtualBack hx (y := (⟨"com/example/rowtide/rowtide/binlog/CharacterSet$Spacing", "space", "(C)Z"⟩ : MethodName)) (z := (⟨"com/example/rowtide/rowtide/binlog/CharacterSet$Spacing", "space", "(C)Z"⟩ : MethodName)) hown (mvT hZ (hw _ (List.mem_of_getElem? (i := 3) rfl))) (mvT hZ (hw _ (List.mem_of_getElem? (i := 4) rfl))) (notFace_of_selects (args := #[]) (mvT hZ (hw _ (List.mem_of_getElem? (i := 6) rfl)))) (mvT hZ (hw _ (List.mem_of_getElem? (i := 6) rfl))) (mvT hZ (hw _ (List.mem_of_getElem? (i := 5) rfl))) (by decide) (backOf (W := 0) ((space_yes l Z a0 hw a (ch.toUInt32.toUInt16.toUInt32.toInt32) h0 n0 Z0 hsp) []) hZ (hw _ (List.mem_of_getElem? (i := 7) rfl)) (hw _ (List.mem_of_getElem? (i := 1) rfl)) (by decide) (by decide)) q2a q2c (g := (mkF m 66 #[.val (.int ch), .val (.int (ch.toUInt32.toUInt16.toUInt32.toInt32)), .val (.int (1 : Int32)), .val (.int (1 : Int32)), .unset, .unset] [(.int (ch.toUInt32.toUInt16.toUInt32.toInt32)), (.ref a)])) rfl (by rw [hml]; rfl) (Steps.refl _) (argsL := [(.int (ch.toUInt32.toUInt16.toUInt32.toInt32))]) (rest := []) (lenOf pd_oCcZ rfl) rfl (by show 2 * 0 + _ ≤ _; exact Nat.le_of_eq rfl) (hb hby at_66) (fun _ _ => ⟨rfl, e1, (by decide : 0 + 0 ≤ _), (by decide : 0 + 0 ≤ _)⟩)
  dsimp only [Pt.U, Pt.locs, Pt.cells, Pt.slots] at X2 l2 y2 z2 st2 hQ2
  subst l2 y2 z2
  obtain ⟨rfl, N2q, e2⟩ := hQ2
  have N2 := Fr.app N0 N2q
  obtain ⟨T3, X3, e3, st3⟩ := getS2 X2 hx hZ hown (host := "") (Or.inl (hw _ (List.mem_of_getElem? (i := 10) rfl))) Via.refl e2 S_LATIN1 (g := (mkF m 71 #[.val (.int ch), .val (.int (ch.toUInt32.toUInt16.toUInt32.toInt32)), .val (.int (1 : Int32)), .val (.int (1 : Int32)), .val (.int (1 : Int32)), .unset] [])) rfl (hb hby at_71)
  obtain ⟨cq4, kq4, q4a, q4b, q4c⟩ := isOf hZ e3 E_b
  obtain ⟨_, _, ⟨T4, L4, k4, n4⟩, -, X4, ⟨Lc4, hQ4, l4, y4, z4⟩, st4⟩ := X3.virtualBack hx (y := (⟨"com/example/rowtide/rowtide/binlog/CharacterSet$Spacing", "space", "(C)Z"⟩ : MethodName)) (z := (⟨"com/example/rowtide/rowtide/binlog/CharacterSet$Spacing", "space", "(C)Z"⟩ : MethodName)) hown (mvT hZ (hw _ (List.mem_of_getElem? (i := 3) rfl))) (mvT hZ (hw _ (List.mem_of_getElem? (i := 4) rfl))) (notFace_of_selects (args := #[]) (mvT hZ (hw _ (List.mem_of_getElem? (i := 6) rfl)))) (mvT hZ (hw _ (List.mem_of_getElem? (i := 6) rfl))) (mvT hZ (hw _ (List.mem_of_getElem? (i := 5) rfl))) (by decide) (backOf (W := 0) ((space_yes l Z a0 hw b (ch.toUInt32.toUInt16.toUInt32.toInt32) h0 n0 Z0 hsp) []) hZ (hw _ (List.mem_of_getElem? (i := 7) rfl)) (hw _ (List.mem_of_getElem? (i := 1) rfl)) (by decide) (by decide)) q4a q4c (g := (mkF m 75 #[.val (.int ch), .val (.int (ch.toUInt32.toUInt16.toUInt32.toInt32)), .val (.int (1 : Int32)), .val (.int (1 : Int32)), .val (.int (1 : Int32)), .unset] [(.int (ch.toUInt32.toUInt16.toUInt32.toInt32)), (.ref b)])) rfl (by rw [hml]; rfl) (Steps.refl _) (argsL := [(.int (ch.toUInt32.toUInt16.toUInt32.toInt32))]) (rest := []) (lenOf pd_oCcZ rfl) rfl (by show 2 * 0 + _ ≤ _; exact Nat.le_of_eq rfl) (hb hby at_75) (fun _ _ => ⟨rfl, e3, (by decide : 0 + 0 ≤ _), (by decide : 0 + 0 ≤ _)⟩)
  dsimp only [Pt.U, Pt.locs, Pt.cells, Pt.slots] at X4 l4 y4 z4 st4 hQ4
  subst l4 y4 z4
  obtain ⟨rfl, N4q, e4⟩ := hQ4
  have N4 := Fr.app N2 N4q
  obtain ⟨fs, hr, hrun, hended, hW, hsame⟩ := X4.leave (v := some (.int (1 : Int32))) (fun h => by rw [Bd.returns] at h; cases h)
  refine ⟨_, _, pre0 _ ?_, hrun, hended, _, _, rfl, ?_, ⟨_, rfl⟩, hW, hsame.mono (by decide) (by decide)⟩
  · show Steps p.tables e below (s₁.setTop (mkF m 0 #[.val (.int ch), .unset, .unset, .unset, .unset, .unset] [])) _
    refine XS.iloadN X0.here hx rfl (hb hby at_0) rfl ?_
    show Steps p.tables e below (s₁.setTop (mkF m 1 #[.val (.int ch), .unset, .unset, .unset, .unset, .unset] [(.int ch)])) _
    refine XS.i2c X0.here hx rfl (hb hby at_1) rfl ?_
    show Steps p.tables e below (s₁.setTop (mkF m 2 #[.val (.int ch), .unset, .unset, .unset, .unset, .unset] [(.int (ch.toUInt32.toUInt16.toUInt32.toInt32))])) _
    refine XS.istoreN X0.here hx rfl (hb hby at_2) rfl (l' := #[.val (.int ch), .val (.int (ch.toUInt32.toUInt16.toUInt32.toInt32)), .unset, .unset, .unset, .unset]) rfl ?_
    show Steps p.tables e below (s₁.setTop (mkF m 3 #[.val (.int ch), .val (.int (ch.toUInt32.toUInt16.toUInt32.toInt32)), .unset, .unset, .unset, .unset] [])) _
    refine XS.iloadN X0.here hx rfl (hb hby at_3) rfl ?_
    show Steps p.tables e below (s₁.setTop (mkF m 4 #[.val (.int ch), .val (.int (ch.toUInt32.toUInt16.toUInt32.toInt32)), .unset, .unset, .unset, .unset] [(.int (ch.toUInt32.toUInt16.toUInt32.toInt32))])) _
    refine XS.bipush X0.here hx rfl (hb hby at_4) ?_
    show Steps p.tables e below (s₁.setTop (mkF m 6 #[.val (.int ch), .val (.int (ch.toUInt32.toUInt16.toUInt32.toInt32)), .unset, .unset, .unset, .unset] [(.int (9 : Int32)), (.int (ch.toUInt32.toUInt16.toUInt32.toInt32))])) _
    refine XS.icmpNo X0.here hx rfl (hb hby at_6) rfl (feq hc6).1 ?_
    show Steps p.tables e below (s₁.setTop (mkF m 9 #[.val (.int ch), .val (.int (ch.toUInt32.toUInt16.toUInt32.toInt32)), .unset, .unset, .unset, .unset] [])) _
    refine XS.iloadN X0.here hx rfl (hb hby at_9) rfl ?_
    show Steps p.tables e below (s₁.setTop (mkF m 10 #[.val (.int ch), .val (.int (ch.toUInt32.toUInt16.toUInt32.toInt32)), .unset, .unset, .unset, .unset] [(.int (ch.toUInt32.toUInt16.toUInt32.toInt32))])) _
    refine XS.bipush X0.here hx rfl (hb hby at_10) ?_
    show Steps p.tables e below (s₁.setTop (mkF m 12 #[.val (.int ch), .val (.int (ch.toUInt32.toUInt16.toUInt32.toInt32)), .unset, .unset, .unset, .unset] [(.int (10 : Int32)), (.int (ch.toUInt32.toUInt16.toUInt32.toInt32))])) _
    refine XS.icmpNo X0.here hx rfl (hb hby at_12) rfl (feq hc12).1 ?_
    show Steps p.tables e below (s₁.setTop (mkF m 15 #[.val (.int ch), .val (.int (ch.toUInt32.toUInt16.toUInt32.toInt32)), .unset, .unset, .unset, .unset] [])) _
    refine XS.iloadN X0.here hx rfl (hb hby at_15) rfl ?_
    show Steps p.tables e below (s₁.setTop (mkF m 16 #[.val (.int ch), .val (.int (ch.toUInt32.toUInt16.toUInt32.toInt32)), .unset, .unset, .unset, .unset] [(.int (ch.toUInt32.toUInt16.toUInt32.toInt32))])) _
    refine XS.bipush X0.here hx rfl (hb hby at_16) ?_
    show Steps p.tables e below (s₁.setTop (mkF m 18 #[.val (.int ch), .val (.int (ch.toUInt32.toUInt16.toUInt32.toInt32)), .unset, .unset, .unset, .unset] [(.int (11 : Int32)), (.int (ch.toUInt32.toUInt16.toUInt32.toInt32))])) _
    refine XS.icmpNo X0.here hx rfl (hb hby at_18) rfl (feq hc18).1 ?_
    show Steps p.tables e below (s₁.setTop (mkF m 21 #[.val (.int ch), .val (.int (ch.toUInt32.toUInt16.toUInt32.toInt32)), .unset, .unset, .unset, .unset] [])) _
    refine XS.iloadN X0.here hx rfl (hb hby at_21) rfl ?_
    show Steps p.tables e below (s₁.setTop (mkF m 22 #[.val (.int ch), .val (.int (ch.toUInt32.toUInt16.toUInt32.toInt32)), .unset, .unset, .unset, .unset] [(.int (ch.toUInt32.toUInt16.toUInt32.toInt32))])) _
    refine XS.bipush X0.here hx rfl (hb hby at_22) ?_
    show Steps p.tables e below (s₁.setTop (mkF m 24 #[.val (.int ch), .val (.int (ch.toUInt32.toUInt16.toUInt32.toInt32)), .unset, .unset, .unset, .unset] [(.int (12 : Int32)), (.int (ch.toUInt32.toUInt16.toUInt32.toInt32))])) _
    refine XS.icmpNo X0.here hx rfl (hb hby at_24) rfl (feq hc24).1 ?_
    show Steps p.tables e below (s₁.setTop (mkF m 27 #[.val (.int ch), .val (.int (ch.toUInt32.toUInt16.toUInt32.toInt32)), .unset, .unset, .unset, .unset] [])) _
    refine XS.iloadN X0.here hx rfl (hb hby at_27) rfl ?_
    show Steps p.tables e below (s₁.setTop (mkF m 28 #[.val (.int ch), .val (.int (ch.toUInt32.toUInt16.toUInt32.toInt32)), .unset, .unset, .unset, .unset] [(.int (ch.toUInt32.toUInt16.toUInt32.toInt32))])) _
    refine XS.bipush X0.here hx rfl (hb hby at_28) ?_
    show Steps p.tables e below (s₁.setTop (mkF m 30 #[.val (.int ch), .val (.int (ch.toUInt32.toUInt16.toUInt32.toInt32)), .unset, .unset, .unset, .unset] [(.int (13 : Int32)), (.int (ch.toUInt32.toUInt16.toUInt32.toInt32))])) _
    refine XS.icmpYes X0.here hx rfl (pc0 := 30) (pc' := 39) rfl (hb hby at_30) rfl (teq hc30).1 (by decide) (by decide) ?_
    show Steps p.tables e below (s₁.setTop (mkF m 39 #[.val (.int ch), .val (.int (ch.toUInt32.toUInt16.toUInt32.toInt32)), .unset, .unset, .unset, .unset] [])) _
    refine XS.iconst X0.here hx rfl (hb hby at_39) ?_
    show Steps p.tables e below (s₁.setTop (mkF m 40 #[.val (.int ch), .val (.int (ch.toUInt32.toUInt16.toUInt32.toInt32)), .unset, .unset, .unset, .unset] [(.int (1 : Int32))])) _
    refine XS.goto X0.here hx rfl (pc0 := 40) (pc' := 44) rfl (hb hby at_40) (by decide) (by decide) ?_
    show Steps p.tables e below (s₁.setTop (mkF m 44 #[.val (.int ch), .val (.int (ch.toUInt32.toUInt16.toUInt32.toInt32)), .unset, .unset, .unset, .unset] [(.int (1 : Int32))])) _
    refine XS.istoreN X0.here hx rfl (hb hby at_44) rfl (l' := #[.val (.int ch), .val (.int (ch.toUInt32.toUInt16.toUInt32.toInt32)), .val (.int (1 : Int32)), .unset, .unset, .unset]) rfl ?_
    show Steps p.tables e below (s₁.setTop (mkF m 45 #[.val (.int ch), .val (.int (ch.toUInt32.toUInt16.toUInt32.toInt32)), .val (.int (1 : Int32)), .unset, .unset, .unset] [])) _
    refine XS.iloadN X0.here hx rfl (hb hby at_45) rfl ?_
    show Steps p.tables e below (s₁.setTop (mkF m 46 #[.val (.int ch), .val (.int (ch.toUInt32.toUInt16.toUInt32.toInt32)), .val (.int (1 : Int32)), .unset, .unset, .unset] [(.int (1 : Int32))])) _
    refine XS.ifYes X0.here hx rfl (pc0 := 46) (pc' := 56) rfl (hb hby at_46) rfl ((if0 _ _).trans (feq (by decide : ¬ ((1 : Int32) = (0 : Int32)))).2) (by decide) (by decide) ?_
    show Steps p.tables e below (s₁.setTop (mkF m 56 #[.val (.int ch), .val (.int (ch.toUInt32.toUInt16.toUInt32.toInt32)), .val (.int (1 : Int32)), .unset, .unset, .unset] [])) _
    refine XS.iconst X0.here hx rfl (hb hby at_56) ?_
    show Steps p.tables e below (s₁.setTop (mkF m 57 #[.val (.int ch), .val (.int (ch.toUInt32.toUInt16.toUInt32.toInt32)), .val (.int (1 : Int32)), .unset, .unset, .unset] [(.int (1 : Int32))])) _
    refine XS.goto X0.here hx rfl (pc0 := 57) (pc' := 61) rfl (hb hby at_57) (by decide) (by decide) ?_
    show Steps p.tables e below (s₁.setTop (mkF m 61 #[.val (.int ch), .val (.int (ch.toUInt32.toUInt16.toUInt32.toInt32)), .val (.int (1 : Int32)), .unset, .unset, .unset] [(.int (1 : Int32))])) _
    refine XS.istoreN X0.here hx rfl (hb hby at_61) rfl (l' := #[.val (.int ch), .val (.int (ch.toUInt32.toUInt16.toUInt32.toInt32)), .val (.int (1 : Int32)), .val (.int (1 : Int32)), .unset, .unset]) rfl ?_
    show Steps p.tables e below (s₁.setTop (mkF m 62 #[.val (.int ch), .val (.int (ch.toUInt32.toUInt16.toUInt32.toInt32)), .val (.int (1 : Int32)), .val (.int (1 : Int32)), .unset, .unset] [])) _
    refine st1 _ ?_
    show Steps p.tables e below (T1.setTop (mkF m 65 #[.val (.int ch), .val (.int (ch.toUInt32.toUInt16.toUInt32.toInt32)), .val (.int (1 : Int32)), .val (.int (1 : Int32)), .unset, .unset] [(.ref a)])) _
    refine XS.iloadN X1.here hx rfl (hb hby at_65) rfl ?_
    show Steps p.tables e below (T1.setTop (mkF m 66 #[.val (.int ch), .val (.int (ch.toUInt32.toUInt16.toUInt32.toInt32)), .val (.int (1 : Int32)), .val (.int (1 : Int32)), .unset, .unset] [(.int (ch.toUInt32.toUInt16.toUInt32.toInt32)), (.ref a)])) _
    refine st2.trans ?_
    show Steps p.tables e below (T2.setTop (mkF m 69 #[.val (.int ch), .val (.int (ch.toUInt32.toUInt16.toUInt32.toInt32)), .val (.int (1 : Int32)), .val (.int (1 : Int32)), .unset, .unset] [(.int (1 : Int32))])) _
    refine XS.istore X2.here hx rfl (hb hby at_69) rfl (l' := #[.val (.int ch), .val (.int (ch.toUInt32.toUInt16.toUInt32.toInt32)), .val (.int (1 : Int32)), .val (.int (1 : Int32)), .val (.int (1 : Int32)), .unset]) rfl ?_
    show Steps p.tables e below (T2.setTop (mkF m 71 #[.val (.int ch), .val (.int (ch.toUInt32.toUInt16.toUInt32.toInt32)), .val (.int (1 : Int32)), .val (.int (1 : Int32)), .val (.int (1 : Int32)), .unset] [])) _
    refine st3 _ ?_
    show Steps p.tables e below (T3.setTop (mkF m 74 #[.val (.int ch), .val (.int (ch.toUInt32.toUInt16.toUInt32.toInt32)), .val (.int (1 : Int32)), .val (.int (1 : Int32)), .val (.int (1 : Int32)), .unset] [(.ref b)])) _
    refine XS.iloadN X3.here hx rfl (hb hby at_74) rfl ?_
    show Steps p.tables e below (T3.setTop (mkF m 75 #[.val (.int ch), .val (.int (ch.toUInt32.toUInt16.toUInt32.toInt32)), .val (.int (1 : Int32)), .val (.int (1 : Int32)), .val (.int (1 : Int32)), .unset] [(.int (ch.toUInt32.toUInt16.toUInt32.toInt32)), (.ref b)])) _
    refine st4.trans ?_
    show Steps p.tables e below (T4.setTop (mkF m 78 #[.val (.int ch), .val (.int (ch.toUInt32.toUInt16.toUInt32.toInt32)), .val (.int (1 : Int32)), .val (.int (1 : Int32)), .val (.int (1 : Int32)), .unset] [(.int (1 : Int32))])) _
    refine XS.istore X4.here hx rfl (hb hby at_78) rfl (l' := #[.val (.int ch), .val (.int (ch.toUInt32.toUInt16.toUInt32.toInt32)), .val (.int (1 : Int32)), .val (.int (1 : Int32)), .val (.int (1 : Int32)), .val (.int (1 : Int32))]) rfl ?_
    show Steps p.tables e below (T4.setTop (mkF m 80 #[.val (.int ch), .val (.int (ch.toUInt32.toUInt16.toUInt32.toInt32)), .val (.int (1 : Int32)), .val (.int (1 : Int32)), .val (.int (1 : Int32)), .val (.int (1 : Int32))] [])) _
    refine XS.iload X4.here hx rfl (hb hby at_80) rfl ?_
    show Steps p.tables e below (T4.setTop (mkF m 82 #[.val (.int ch), .val (.int (ch.toUInt32.toUInt16.toUInt32.toInt32)), .val (.int (1 : Int32)), .val (.int (1 : Int32)), .val (.int (1 : Int32)), .val (.int (1 : Int32))] [(.int (1 : Int32))])) _
    refine XS.iloadN X4.here hx rfl (hb hby at_82) rfl ?_
    show Steps p.tables e below (T4.setTop (mkF m 83 #[.val (.int ch), .val (.int (ch.toUInt32.toUInt16.toUInt32.toInt32)), .val (.int (1 : Int32)), .val (.int (1 : Int32)), .val (.int (1 : Int32)), .val (.int (1 : Int32))] [(.int (1 : Int32)), (.int (1 : Int32))])) _
    refine XS.icmpNo X4.here hx rfl (hb hby at_83) rfl (teq (by decide : (1 : Int32) = (1 : Int32))).2 ?_
    show Steps p.tables e below (T4.setTop (mkF m 86 #[.val (.int ch), .val (.int (ch.toUInt32.toUInt16.toUInt32.toInt32)), .val (.int (1 : Int32)), .val (.int (1 : Int32)), .val (.int (1 : Int32)), .val (.int (1 : Int32))] [])) _
    refine XS.iload X4.here hx rfl (hb hby at_86) rfl ?_
    show Steps p.tables e below (T4.setTop (mkF m 88 #[.val (.int ch), .val (.int (ch.toUInt32.toUInt16.toUInt32.toInt32)), .val (.int (1 : Int32)), .val (.int (1 : Int32)), .val (.int (1 : Int32)), .val (.int (1 : Int32))] [(.int (1 : Int32))])) _
    refine XS.iloadN X4.here hx rfl (hb hby at_88) rfl ?_
    show Steps p.tables e below (T4.setTop (mkF m 89 #[.val (.int ch), .val (.int (ch.toUInt32.toUInt16.toUInt32.toInt32)), .val (.int (1 : Int32)), .val (.int (1 : Int32)), .val (.int (1 : Int32)), .val (.int (1 : Int32))] [(.int (1 : Int32)), (.int (1 : Int32))])) _
    refine XS.icmpNo X4.here hx rfl (hb hby at_89) rfl (teq (by decide : (1 : Int32) = (1 : Int32))).2 ?_
    show Steps p.tables e below (T4.setTop (mkF m 92 #[.val (.int ch), .val (.int (ch.toUInt32.toUInt16.toUInt32.toInt32)), .val (.int (1 : Int32)), .val (.int (1 : Int32)), .val (.int (1 : Int32)), .val (.int (1 : Int32))] [])) _
    refine XS.iconst X4.here hx rfl (hb hby at_92) ?_
    show Steps p.tables e below (T4.setTop (mkF m 93 #[.val (.int ch), .val (.int (ch.toUInt32.toUInt16.toUInt32.toInt32)), .val (.int (1 : Int32)), .val (.int (1 : Int32)), .val (.int (1 : Int32)), .val (.int (1 : Int32))] [(.int (1 : Int32))])) _
    refine XS.goto X4.here hx rfl (pc0 := 93) (pc' := 97) rfl (hb hby at_93) (by decide) (by decide) ?_
    show Steps p.tables e below (T4.setTop (mkF m 97 #[.val (.int ch), .val (.int (ch.toUInt32.toUInt16.toUInt32.toInt32)), .val (.int (1 : Int32)), .val (.int (1 : Int32)), .val (.int (1 : Int32)), .val (.int (1 : Int32))] [(.int (1 : Int32))])) _
    exact retN X4 hx (t := .boolean) Bd.returns (by simp) (hb hby at_97) hr
  · exact ⟨rfl, N4, e4⟩
set_option maxRecDepth 65536 in
set_option maxHeartbeats 40000000 in
theorem law_32 (l : Launch) (Z : State) (a0 : Array Value) (hw : ∀ d ∈ tables_1, d.before a0 Z = true) (ch : Int32) (a b : Addr) (h0 : Heap) (n0 : Nat) (Z0 : n0 ≤ h0.size) (S_ASCII : Sta Z h0 "com/example/rowtide/rowtide/binlog/CharacterSet$Spacing" "ASCII" "Lcom/example/rowtide/rowtide/binlog/CharacterSet$Spacing;" (.ref a)) (S_LATIN1 : Sta Z h0 "com/example/rowtide/rowtide/binlog/CharacterSet$Spacing" "LATIN1" "Lcom/example/rowtide/rowtide/binlog/CharacterSet$Spacing;" (.ref b)) (hsp : (ch.toUInt32.toUInt16.toUInt32.toInt32) = (32 : Int32) ∨ (¬ ((ch.toUInt32.toUInt16.toUInt32.toInt32) < (9 : Int32)) ∧ ¬ ((13 : Int32) < (ch.toUInt32.toUInt16.toUInt32.toInt32)))) (E_a : Exa Z h0 a "com/example/rowtide/rowtide/binlog/CharacterSet$Spacing") (E_b : Exa Z h0 b "com/example/rowtide/rowtide/binlog/CharacterSet$Spacing") (hc6 : ¬ ((ch.toUInt32.toUInt16.toUInt32.toInt32) = (9 : Int32))) (hc12 : ¬ ((ch.toUInt32.toUInt16.toUInt32.toInt32) = (10 : Int32))) (hc18 : ¬ ((ch.toUInt32.toUInt16.toUInt32.toInt32) = (11 : Int32))) (hc24 : ¬ ((ch.toUInt32.toUInt16.toUInt32.toInt32) = (12 : Int32))) (hc30 : ¬ ((ch.toUInt32.toUInt16.toUInt32.toInt32) = (13 : Int32))) (hc36 : (ch.toUInt32.toUInt16.toUInt32.toInt32) = (32 : Int32)) :
    RO l Z x code maxLocals ret room_1 #[(.int ch)] h0 n0 (.int (1 : Int32)) := by
  intro ws
  refine MetFree.of_bodySF (plainFor_of_name pn_0) hisR ?_
  intro p e s m args below meth c s₁ Bd hml0 hP hK
  obtain ⟨rfl, hZ, hh⟩ := hP
  have hx := Bd.exec
  have hby := Bd.bytes
  have hml : c.maxLocals = 6 := hml0
  have hown : s.vm.findClass "com/example/rowtide/rowtide/binlog/SpacingSpacePinLaw" = some m.cls := findClass_of_methodNamed Bd.named
  have hnm := (name_of_methodNamed Bd.named Bd.method).1
  have X0 : Stand p l e room_1 s m #[(.int ch)] below meth c s₁ [] 0 0 := Stand.of_body Bd
  have e0 : s₁.heap = h0 := by rw [← hh, Bd.state]; rfl
  have N0 := Fr.nil n0
  have pre0 : ∀ t_, Steps p.tables e below (s₁.setTop (mkF m 0 #[.val (.int ch), .unset, .unset, .unset, .unset, .unset] [])) t_ → Steps p.tables e below (s₁.setTop (entryFrame m #[(.int ch)] maxLocals)) t_ := fun t_ k_ => castTop (ef_0 m ch) k_
  obtain ⟨T1, X1, e1, st1⟩ := getS2 X0 hx hZ hown (host := "") (Or.inl (hw _ (List.mem_of_getElem? (i := 0) rfl))) Via.refl e0 S_ASCII (g := (mkF m 62 #[.val (.int ch), .val (.int (ch.toUInt32.toUInt16.toUInt32.toInt32)), .val (.int (1 : Int32)), .val (.int (1 : Int32)), .unset, .unset] [])) rfl (hb hby at_62)
  obtain ⟨cq2, kq2, q2a, q2b, q2c⟩ := isOf hZ e1 E_a
  obtain ⟨_, _, ⟨T2, L2, k2, n2⟩, -, X2, ⟨Lc2, hQ2, l2, y2, z2⟩, st2⟩ := X1.virtualBack hx (y := (⟨"com/example/rowtide/rowtide/binlog/CharacterSet$Spacing", "space", "(C)Z"⟩ : MethodName)) (z := (⟨"com/example/rowtide/rowtide/binlog/CharacterSet$Spacing", "space", "(C)Z"⟩ : MethodName)) hown (mvT hZ (hw _ (List.mem_of_getElem? (i := 3) rfl))) (mvT hZ (hw _ (List.mem_of_getElem? (i := 4) rfl))) (notFace_of_selects (args := #[]) (mvT hZ (hw _ (List.mem_of_getElem? (i := 6) rfl)))) (mvT hZ (hw _ (List.mem_of_getElem? (i := 6) rfl))) (mvT hZ (hw _ (List.mem_of_getElem? (i := 5) rfl))) (by decide) (backOf (W := 0) ((space_yes l Z a0 hw a (ch.toUInt32.toUInt16.toUInt32.toInt32) h0 n0 Z0 hsp) []) hZ (hw _ (List.mem_of_getElem? (i := 7) rfl)) (hw _ (List.mem_of_getElem? (i := 1) rfl)) (by decide) (by decide)) q2a q2c (g := (mkF m 66 #[.val (.int ch), .val (.int (ch.toUInt32.toUInt16.toUInt32.toInt32)), .val (.int (1 : Int32)), .val (.int (1 : Int32)), .unset, .unset] [(.int (ch.toUInt32.toUInt16.toUInt32.toInt32)), (.ref a)])) rfl (by rw [hml]; rfl) (Steps.refl _) (argsL := [(.int (ch.toUInt32.toUInt16.toUInt32.toInt32))]) (rest := []) (lenOf pd_oCcZ rfl) rfl (by show 2 * 0 + _ ≤ _; exact Nat.le_of_eq rfl) (hb hby at_66) (fun _ _ => ⟨rfl, e1, (by decide : 0 + 0 ≤ _), (by decide : 0 + 0 ≤ _)⟩)
  dsimp only [Pt.U, Pt.locs, Pt.cells, Pt.slots] at X2 l2 y2 z2 st2 hQ2
  subst l2 y2 z2
  obtain ⟨rfl, N2q, e2⟩ := hQ2
  have N2 := Fr.app N0 N2q
  obtain ⟨T3, X3, e3, st3⟩ := getS2 X2 hx hZ hown (host := "") (Or.inl (hw _ (List.mem_of_getElem? (i := 10) rfl))) Via.refl e2 S_LATIN1 (g := (mkF m 71 #[.val (.int ch), .val (.int (ch.toUInt32.toUInt16.toUInt32.toInt32)), .val (.int (1 : Int32)), .val (.int (1 : Int32)), .val (.int (1 : Int32)), .unset] [])) rfl (hb hby at_71)
  obtain ⟨cq4, kq4, q4a, q4b, q4c⟩ := isOf hZ e3 E_b
  obtain ⟨_, _, ⟨T4, L4, k4, n4⟩, -, X4, ⟨Lc4, hQ4, l4, y4, z4⟩, st4⟩ := X3.virtualBack hx (y := (⟨"com/example/rowtide/rowtide/binlog/CharacterSet$Spacing", "space", "(C)Z"⟩ : MethodName)) (z := (⟨"com/example/rowtide/rowtide/binlog/CharacterSet$Spacing", "space", "(C)Z"⟩ : MethodName)) hown (mvT hZ (hw _ (List.mem_of_getElem? (i := 3) rfl))) (mvT hZ (hw _ (List.mem_of_getElem? (i := 4) rfl))) (notFace_of_selects (args := #[]) (mvT hZ (hw _ (List.mem_of_getElem? (i := 6) rfl)))) (mvT hZ (hw _ (List.mem_of_getElem? (i := 6) rfl))) (mvT hZ (hw _ (List.mem_of_getElem? (i := 5) rfl))) (by decide) (backOf (W := 0) ((space_yes l Z a0 hw b (ch.toUInt32.toUInt16.toUInt32.toInt32) h0 n0 Z0 hsp) []) hZ (hw _ (List.mem_of_getElem? (i := 7) rfl)) (hw _ (List.mem_of_getElem? (i := 1) rfl)) (by decide) (by decide)) q4a q4c (g := (mkF m 75 #[.val (.int ch), .val (.int (ch.toUInt32.toUInt16.toUInt32.toInt32)), .val (.int (1 : Int32)), .val (.int (1 : Int32)), .val (.int (1 : Int32)), .unset] [(.int (ch.toUInt32.toUInt16.toUInt32.toInt32)), (.ref b)])) rfl (by rw [hml]; rfl) (Steps.refl _) (argsL := [(.int (ch.toUInt32.toUInt16.toUInt32.toInt32))]) (rest := []) (lenOf pd_oCcZ rfl) rfl (by show 2 * 0 + _ ≤ _; exact Nat.le_of_eq rfl) (hb hby at_75) (fun _ _ => ⟨rfl, e3, (by decide : 0 + 0 ≤ _), (by decide : 0 + 0 ≤ _)⟩)
  dsimp only [Pt.U, Pt.locs, Pt.cells, Pt.slots] at X4 l4 y4 z4 st4 hQ4
  subst l4 y4 z4
  obtain ⟨rfl, N4q, e4⟩ := hQ4
  have N4 := Fr.app N2 N4q
  obtain ⟨fs, hr, hrun, hended, hW, hsame⟩ := X4.leave (v := some (.int (1 : Int32))) (fun h => by rw [Bd.returns] at h; cases h)
  refine ⟨_, _, pre0 _ ?_, hrun, hended, _, _, rfl, ?_, ⟨_, rfl⟩, hW, hsame.mono (by decide) (by decide)⟩
  · show Steps p.tables e below (s₁.setTop (mkF m 0 #[.val (.int ch), .unset, .unset, .unset, .unset, .unset] [])) _
    refine XS.iloadN X0.here hx rfl (hb hby at_0) rfl ?_
    show Steps p.tables e below (s₁.setTop (mkF m 1 #[.val (.int ch), .unset, .unset, .unset, .unset, .unset] [(.int ch)])) _
    refine XS.i2c X0.here hx rfl (hb hby at_1) rfl ?_
    show Steps p.tables e below (s₁.setTop (mkF m 2 #[.val (.int ch), .unset, .unset, .unset, .unset, .unset] [(.int (ch.toUInt32.toUInt16.toUInt32.toInt32))])) _
    refine XS.istoreN X0.here hx rfl (hb hby at_2) rfl (l' := #[.val (.int ch), .val (.int (ch.toUInt32.toUInt16.toUInt32.toInt32)), .unset, .unset, .unset, .unset]) rfl ?_
    show Steps p.tables e below (s₁.setTop (mkF m 3 #[.val (.int ch), .val (.int (ch.toUInt32.toUInt16.toUInt32.toInt32)), .unset, .unset, .unset, .unset] [])) _
    refine XS.iloadN X0.here hx rfl (hb hby at_3) rfl ?_
    show Steps p.tables e below (s₁.setTop (mkF m 4 #[.val (.int ch), .val (.int (ch.toUInt32.toUInt16.toUInt32.toInt32)), .unset, .unset, .unset, .unset] [(.int (ch.toUInt32.toUInt16.toUInt32.toInt32))])) _
    refine XS.bipush X0.here hx rfl (hb hby at_4) ?_
    show Steps p.tables e below (s₁.setTop (mkF m 6 #[.val (.int ch), .val (.int (ch.toUInt32.toUInt16.toUInt32.toInt32)), .unset, .unset, .unset, .unset] [(.int (9 : Int32)), (.int (ch.toUInt32.toUInt16.toUInt32.toInt32))])) _
    refine XS.icmpNo X0.here hx rfl (hb hby at_6) rfl (feq hc6).1 ?_
    show Steps p.tables e below (s₁.setTop (mkF m 9 #[.val (.int ch), .val (.int (ch.toUInt32.toUInt16.toUInt32.toInt32)), .unset, .unset, .unset, .unset] [])) _
    refine XS.iloadN X0.here hx rfl (hb hby at_9) rfl ?_
    show Steps p.tables e below (s₁.setTop (mkF m 10 #[.val (.int ch), .val (.int (ch.toUInt32.toUInt16.toUInt32.toInt32)), .unset, .unset, .unset, .unset] [(.int (ch.toUInt32.toUInt16.toUInt32.toInt32))])) _
    refine XS.bipush X0.here hx rfl (hb hby at_10) ?_
    show Steps p.tables e below (s₁.setTop (mkF m 12 #[.val (.int ch), .val (.int (ch.toUInt32.toUInt16.toUInt32.toInt32)), .unset, .unset, .unset, .unset] [(.int (10 : Int32)), (.int (ch.toUInt32.toUInt16.toUInt32.toInt32))])) _
    refine XS.icmpNo X0.here hx rfl (hb hby at_12) rfl (feq hc12).1 ?_
    show Steps p.tables e below (s₁.setTop (mkF m 15 #[.val (.int ch), .val (.int (ch.toUInt32.toUInt16.toUInt32.toInt32)), .unset, .unset, .unset, .unset] [])) _
    refine XS.iloadN X0.here hx rfl (hb hby at_15) rfl ?_
    show Steps p.tables e below (s₁.setTop (mkF m 16 #[.val (.int ch), .val (.int (ch.toUInt32.toUInt16.toUInt32.toInt32)), .unset, .unset, .unset, .unset] [(.int (ch.toUInt32.toUInt16.toUInt32.toInt32))])) _
    refine XS.bipush X0.here hx rfl (hb hby at_16) ?_
    show Steps p.tables e below (s₁.setTop (mkF m 18 #[.val (.int ch), .val (.int (ch.toUInt32.toUInt16.toUInt32.toInt32)), .unset, .unset, .unset, .unset] [(.int (11 : Int32)), (.int (ch.toUInt32.toUInt16.toUInt32.toInt32))])) _
    refine XS.icmpNo X0.here hx rfl (hb hby at_18) rfl (feq hc18).1 ?_
    show Steps p.tables e below (s₁.setTop (mkF m 21 #[.val (.int ch), .val (.int (ch.toUInt32.toUInt16.toUInt32.toInt32)), .unset, .unset, .unset, .unset] [])) _
    refine XS.iloadN X0.here hx rfl (hb hby at_21) rfl ?_
    show Steps p.tables e below (s₁.setTop (mkF m 22 #[.val (.int ch), .val (.int (ch.toUInt32.toUInt16.toUInt32.toInt32)), .unset, .unset, .unset, .unset] [(.int (ch.toUInt32.toUInt16.toUInt32.toInt32))])) _
    refine XS.bipush X0.here hx rfl (hb hby at_22) ?_
    show Steps p.tables e below (s₁.setTop (mkF m 24 #[.val (.int ch), .val (.int (ch.toUInt32.toUInt16.toUInt32.toInt32)), .unset, .unset, .unset, .unset] [(.int (12 : Int32)), (.int (ch.toUInt32.toUInt16.toUInt32.toInt32))])) _
    refine XS.icmpNo X0.here hx rfl (hb hby at_24) rfl (feq hc24).1 ?_
    show Steps p.tables e below (s₁.setTop (mkF m 27 #[.val (.int ch), .val (.int (ch.toUInt32.toUInt16.toUInt32.toInt32)), .unset, .unset, .unset, .unset] [])) _
    refine XS.iloadN X0.here hx rfl (hb hby at_27) rfl ?_
    show Steps p.tables e below (s₁.setTop (mkF m 28 #[.val (.int ch), .val (.int (ch.toUInt32.toUInt16.toUInt32.toInt32)), .unset, .unset, .unset, .unset] [(.int (ch.toUInt32.toUInt16.toUInt32.toInt32))])) _
    refine XS.bipush X0.here hx rfl (hb hby at_28) ?_
    show Steps p.tables e below (s₁.setTop (mkF m 30 #[.val (.int ch), .val (.int (ch.toUInt32.toUInt16.toUInt32.toInt32)), .unset, .unset, .unset, .unset] [(.int (13 : Int32)), (.int (ch.toUInt32.toUInt16.toUInt32.toInt32))])) _
    refine XS.icmpNo X0.here hx rfl (hb hby at_30) rfl (feq hc30).1 ?_
    show Steps p.tables e below (s₁.setTop (mkF m 33 #[.val (.int ch), .val (.int (ch.toUInt32.toUInt16.toUInt32.toInt32)), .unset, .unset, .unset, .unset] [])) _
    refine XS.iloadN X0.here hx rfl (hb hby at_33) rfl ?_
    show Steps p.tables e below (s₁.setTop (mkF m 34 #[.val (.int ch), .val (.int (ch.toUInt32.toUInt16.toUInt32.toInt32)), .unset, .unset, .unset, .unset] [(.int (ch.toUInt32.toUInt16.toUInt32.toInt32))])) _
    refine XS.bipush X0.here hx rfl (hb hby at_34) ?_
    show Steps p.tables e below (s₁.setTop (mkF m 36 #[.val (.int ch), .val (.int (ch.toUInt32.toUInt16.toUInt32.toInt32)), .unset, .unset, .unset, .unset] [(.int (32 : Int32)), (.int (ch.toUInt32.toUInt16.toUInt32.toInt32))])) _
    refine XS.icmpNo X0.here hx rfl (hb hby at_36) rfl (teq hc36).2 ?_
    show Steps p.tables e below (s₁.setTop (mkF m 39 #[.val (.int ch), .val (.int (ch.toUInt32.toUInt16.toUInt32.toInt32)), .unset, .unset, .unset, .unset] [])) _
    refine XS.iconst X0.here hx rfl (hb hby at_39) ?_
    show Steps p.tables e below (s₁.setTop (mkF m 40 #[.val (.int ch), .val (.int (ch.toUInt32.toUInt16.toUInt32.toInt32)), .unset, .unset, .unset, .unset] [(.int (1 : Int32))])) _
    refine XS.goto X0.here hx rfl (pc0 := 40) (pc' := 44) rfl (hb hby at_40) (by decide) (by decide) ?_
    show Steps p.tables e below (s₁.setTop (mkF m 44 #[.val (.int ch), .val (.int (ch.toUInt32.toUInt16.toUInt32.toInt32)), .unset, .unset, .unset, .unset] [(.int (1 : Int32))])) _
    refine XS.istoreN X0.here hx rfl (hb hby at_44) rfl (l' := #[.val (.int ch), .val (.int (ch.toUInt32.toUInt16.toUInt32.toInt32)), .val (.int (1 : Int32)), .unset, .unset, .unset]) rfl ?_
    show Steps p.tables e below (s₁.setTop (mkF m 45 #[.val (.int ch), .val (.int (ch.toUInt32.toUInt16.toUInt32.toInt32)), .val (.int (1 : Int32)), .unset, .unset, .unset] [])) _
    refine XS.iloadN X0.here hx rfl (hb hby at_45) rfl ?_
    show Steps p.tables e below (s₁.setTop (mkF m 46 #[.val (.int ch), .val (.int (ch.toUInt32.toUInt16.toUInt32.toInt32)), .val (.int (1 : Int32)), .unset, .unset, .unset] [(.int (1 : Int32))])) _
    refine XS.ifYes X0.here hx rfl (pc0 := 46) (pc' := 56) rfl (hb hby at_46) rfl ((if0 _ _).trans (feq (by decide : ¬ ((1 : Int32) = (0 : Int32)))).2) (by decide) (by decide) ?_
    show Steps p.tables e below (s₁.setTop (mkF m 56 #[.val (.int ch), .val (.int (ch.toUInt32.toUInt16.toUInt32.toInt32)), .val (.int (1 : Int32)), .unset, .unset, .unset] [])) _
    refine XS.iconst X0.here hx rfl (hb hby at_56) ?_
    show Steps p.tables e below (s₁.setTop (mkF m 57 #[.val (.int ch), .val (.int (ch.toUInt32.toUInt16.toUInt32.toInt32)), .val (.int (1 : Int32)), .unset, .unset, .unset] [(.int (1 : Int32))])) _
    refine XS.goto X0.here hx rfl (pc0 := 57) (pc' := 61) rfl (hb hby at_57) (by decide) (by decide) ?_
    show Steps p.tables e below (s₁.setTop (mkF m 61 #[.val (.int ch), .val (.int (ch.toUInt32.toUInt16.toUInt32.toInt32)), .val (.int (1 : Int32)), .unset, .unset, .unset] [(.int (1 : Int32))])) _
    refine XS.istoreN X0.here hx rfl (hb hby at_61) rfl (l' := #[.val (.int ch), .val (.int (ch.toUInt32.toUInt16.toUInt32.toInt32)), .val (.int (1 : Int32)), .val (.int (1 : Int32)), .unset, .unset]) rfl ?_
    show Steps p.tables e below (s₁.setTop (mkF m 62 #[.val (.int ch), .val (.int (ch.toUInt32.toUInt16.toUInt32.toInt32)), .val (.int (1 : Int32)), .val (.int (1 : Int32)), .unset, .unset] [])) _
    refine st1 _ ?_
    show Steps p.tables e below (T1.setTop (mkF m 65 #[.val (.int ch), .val (.int (ch.toUInt32.toUInt16.toUInt32.toInt32)), .val (.int (1 : Int32)), .val (.int (1 : Int32)), .unset, .unset] [(.ref a)])) _
    refine XS.iloadN X1.here hx rfl (hb hby at_65) rfl ?_
    show Steps p.tables e below (T1.setTop (mkF m 66 #[.val (.int ch), .val (.int (ch.toUInt32.toUInt16.toUInt32.toInt32)), .val (.int (1 : Int32)), .val (.int (1 : Int32)), .unset, .unset] [(.int (ch.toUInt32.toUInt16.toUInt32.toInt32)), (.ref a)])) _
    refine st2.trans ?_
    show Steps p.tables e below (T2.setTop (mkF m 69 #[.val (.int ch), .val (.int (ch.toUInt32.toUInt16.toUInt32.toInt32)), .val (.int (1 : Int32)), .val (.int (1 : Int32)), .unset, .unset] [(.int (1 : Int32))])) _
    refine XS.istore X2.here hx rfl (hb hby at_69) rfl (l' := #[.val (.int ch), .val (.int (ch.toUInt32.toUInt16.toUInt32.toInt32)), .val (.int (1 : Int32)), .val (.int (1 : Int32)), .val (.int (1 : Int32)), .unset]) rfl ?_
    show Steps p.tables e below (T2.setTop (mkF m 71 #[.val (.int ch), .val (.int (ch.toUInt32.toUInt16.toUInt32.toInt32)), .val (.int (1 : Int32)), .val (.int (1 : Int32)), .val (.int (1 : Int32)), .unset] [])) _
    refine st3 _ ?_
    show Steps p.tables e below (T3.setTop (mkF m 74 #[.val (.int ch), .val (.int (ch.toUInt32.toUInt16.toUInt32.toInt32)), .val (.int (1 : Int32)), .val (.int (1 : Int32)), .val (.int (1 : Int32)), .unset] [(.ref b)])) _
    refine XS.iloadN X3.here hx rfl (hb hby at_74) rfl ?_
    show Steps p.tables e below (T3.setTop (mkF m 75 #[.val (.int ch), .val (.int (ch.toUInt32.toUInt16.toUInt32.toInt32)), .val (.int (1 : Int32)), .val (.int (1 : Int32)), .val (.int (1 : Int32)), .unset] [(.int (ch.toUInt32.toUInt16.toUInt32.toInt32)), (.ref b)])) _
    refine st4.trans ?_
    show Steps p.tables e below (T4.setTop (mkF m 78 #[.val (.int ch), .val (.int (ch.toUInt32.toUInt16.toUInt32.toInt32)), .val (.int (1 : Int32)), .val (.int (1 : Int32)), .val (.int (1 : Int32)), .unset] [(.int (1 : Int32))])) _
    refine XS.istore X4.here hx rfl (hb hby at_78) rfl (l' := #[.val (.int ch), .val (.int (ch.toUInt32.toUInt16.toUInt32.toInt32)), .val (.int (1 : Int32)), .val (.int (1 : Int32)), .val (.int (1 : Int32)), .val (.int (1 : Int32))]) rfl ?_
    show Steps p.tables e below (T4.setTop (mkF m 80 #[.val (.int ch), .val (.int (ch.toUInt32.toUInt16.toUInt32.toInt32)), .val (.int (1 : Int32)), .val (.int (1 : Int32)), .val (.int (1 : Int32)), .val (.int (1 : Int32))] [])) _
    refine XS.iload X4.here hx rfl (hb hby at_80) rfl ?_
    show Steps p.tables e below (T4.setTop (mkF m 82 #[.val (.int ch), .val (.int (ch.toUInt32.toUInt16.toUInt32.toInt32)), .val (.int (1 : Int32)), .val (.int (1 : Int32)), .val (.int (1 : Int32)), .val (.int (1 : Int32))] [(.int (1 : Int32))])) _
    refine XS.iloadN X4.here hx rfl (hb hby at_82) rfl ?_
    show Steps p.tables e below (T4.setTop (mkF m 83 #[.val (.int ch), .val (.int (ch.toUInt32.toUInt16.toUInt32.toInt32)), .val (.int (1 : Int32)), .val (.int (1 : Int32)), .val (.int (1 : Int32)), .val (.int (1 : Int32))] [(.int (1 : Int32)), (.int (1 : Int32))])) _
    refine XS.icmpNo X4.here hx rfl (hb hby at_83) rfl (teq (by decide : (1 : Int32) = (1 : Int32))).2 ?_
    show Steps p.tables e below (T4.setTop (mkF m 86 #[.val (.int ch), .val (.int (ch.toUInt32.toUInt16.toUInt32.toInt32)), .val (.int (1 : Int32)), .val (.int (1 : Int32)), .val (.int (1 : Int32)), .val (.int (1 : Int32))] [])) _
    refine XS.iload X4.here hx rfl (hb hby at_86) rfl ?_
    show Steps p.tables e below (T4.setTop (mkF m 88 #[.val (.int ch), .val (.int (ch.toUInt32.toUInt16.toUInt32.toInt32)), .val (.int (1 : Int32)), .val (.int (1 : Int32)), .val (.int (1 : Int32)), .val (.int (1 : Int32))] [(.int (1 : Int32))])) _
    refine XS.iloadN X4.here hx rfl (hb hby at_88) rfl ?_
    show Steps p.tables e below (T4.setTop (mkF m 89 #[.val (.int ch), .val (.int (ch.toUInt32.toUInt16.toUInt32.toInt32)), .val (.int (1 : Int32)), .val (.int (1 : Int32)), .val (.int (1 : Int32)), .val (.int (1 : Int32))] [(.int (1 : Int32)), (.int (1 : Int32))])) _
    refine XS.icmpNo X4.here hx rfl (hb hby at_89) rfl (teq (by decide : (1 : Int32) = (1 : Int32))).2 ?_
    show Steps p.tables e below (T4.setTop (mkF m 92 #[.val (.int ch), .val (.int (ch.toUInt32.toUInt16.toUInt32.toInt32)), .val (.int (1 : Int32)), .val (.int (1 : Int32)), .val (.int (1 : Int32)), .val (.int (1 : Int32))] [])) _
    refine XS.iconst X4.here hx rfl (hb hby at_92) ?_
    show Steps p.tables e below (T4.setTop (mkF m 93 #[.val (.int ch), .val (.int (ch.toUInt32.toUInt16.toUInt32.toInt32)), .val (.int (1 : Int32)), .val (.int (1 : Int32)), .val (.int (1 : Int32)), .val (.int (1 : Int32))] [(.int (1 : Int32))])) _
    refine XS.goto X4.here hx rfl (pc0 := 93) (pc' := 97) rfl (hb hby at_93) (by decide) (by decide) ?_
    show Steps p.tables e below (T4.setTop (mkF m 97 #[.val (.int ch), .val (.int (ch.toUInt32.toUInt16.toUInt32.toInt32)), .val (.int (1 : Int32)), .val (.int (1 : Int32)), .val (.int (1 : Int32)), .val (.int (1 : Int32))] [(.int (1 : Int32))])) _
    exact retN X4 hx (t := .boolean) Bd.returns (by simp) (hb hby at_97) hr
  · exact ⟨rfl, N4, e4⟩
set_option maxRecDepth 65536 in
set_option maxHeartbeats 40000000 in
theorem law_no (l : Launch) (Z : State) (a0 : Array Value) (hw : ∀ d ∈ tables_1, d.before a0 Z = true) (ch : Int32) (a b : Addr) (h0 : Heap) (n0 : Nat) (Z0 : n0 ≤ h0.size) (S_ASCII : Sta Z h0 "com/example/rowtide/rowtide/binlog/CharacterSet$Spacing" "ASCII" "Lcom/example/rowtide/rowtide/binlog/CharacterSet$Spacing;" (.ref a)) (S_LATIN1 : Sta Z h0 "com/example/rowtide/rowtide/binlog/CharacterSet$Spacing" "LATIN1" "Lcom/example/rowtide/rowtide/binlog/CharacterSet$Spacing;" (.ref b)) (hr : (ch.toUInt32.toUInt16.toUInt32.toInt32) < (9 : Int32) ∨ (13 : Int32) < (ch.toUInt32.toUInt16.toUInt32.toInt32)) (hne : ¬ (a = b)) (E_a : Exa Z h0 a "com/example/rowtide/rowtide/binlog/CharacterSet$Spacing") (E_b : Exa Z h0 b "com/example/rowtide/rowtide/binlog/CharacterSet$Spacing") (hc6 : ¬ ((ch.toUInt32.toUInt16.toUInt32.toInt32) = (9 : Int32))) (hc12 : ¬ ((ch.toUInt32.toUInt16.toUInt32.toInt32) = (10 : Int32))) (hc18 : ¬ ((ch.toUInt32.toUInt16.toUInt32.toInt32) = (11 : Int32))) (hc24 : ¬ ((ch.toUInt32.toUInt16.toUInt32.toInt32) = (12 : Int32))) (hc30 : ¬ ((ch.toUInt32.toUInt16.toUInt32.toInt32) = (13 : Int32))) (hc36 : ¬ ((ch.toUInt32.toUInt16.toUInt32.toInt32) = (32 : Int32))) (hc53 : ¬ ((ch.toUInt32.toUInt16.toUInt32.toInt32) = (160 : Int32))) :
    RO l Z x code maxLocals ret room_1 #[(.int ch)] h0 n0 (.int (1 : Int32)) := by
  intro ws
  refine MetFree.of_bodySF (plainFor_of_name pn_0) hisR ?_
  intro p e s m args below meth c s₁ Bd hml0 hP hK
  obtain ⟨rfl, hZ, hh⟩ := hP
  have hx := Bd.exec
  have hby := Bd.bytes
  have hml : c.maxLocals = 6 := hml0
  have hown : s.vm.findClass "com/example/rowtide/rowtide/binlog/SpacingSpacePinLaw" = some m.cls := findClass_of_methodNamed Bd.named
  have hnm := (name_of_methodNamed Bd.named Bd.method).1
  have X0 : Stand p l e room_1 s m #[(.int ch)] below meth c s₁ [] 0 0 := Stand.of_body Bd
  have e0 : s₁.heap = h0 := by rw [← hh, Bd.state]; rfl
  have N0 := Fr.nil n0
  have pre0 : ∀ t_, Steps p.tables e below (s₁.setTop (mkF m 0 #[.val (.int ch), .unset, .unset, .unset, .unset, .unset] [])) t_ → Steps p.tables e below (s₁.setTop (entryFrame m #[(.int ch)] maxLocals)) t_ := fun t_ k_ => castTop (ef_0 m ch) k_
  obtain ⟨T1, X1, e1, st1⟩ := getS2 X0 hx hZ hown (host := "") (Or.inl (hw _ (List.mem_of_getElem? (i := 0) rfl))) Via.refl e0 S_ASCII (g := (mkF m 62 #[.val (.int ch), .val (.int (ch.toUInt32.toUInt16.toUInt32.toInt32)), .val (.int (0 : Int32)), .val (.int (0 : Int32)), .unset, .unset] [])) rfl (hb hby at_62)
  obtain ⟨cq2, kq2, q2a, q2b, q2c⟩ := isOf hZ e1 E_a
  obtain ⟨_, _, ⟨T2, L2, k2, n2⟩, -, X2, ⟨Lc2, hQ2, l2, y2, z2⟩, st2⟩ := X1.virtualBack hx (y := (⟨"com/example/rowtide/rowtide/binlog/CharacterSet$Spacing", "space", "(C)Z"⟩ : MethodName)) (z := (⟨"com/example/rowtide/rowtide/binlog/CharacterSet$Spacing", "space", "(C)Z"⟩ : MethodName)) hown (mvT hZ (hw _ (List.mem_of_getElem? (i := 3) rfl))) (mvT hZ (hw _ (List.mem_of_getElem? (i := 4) rfl))) (notFace_of_selects (args := #[]) (mvT hZ (hw _ (List.mem_of_getElem? (i := 6) rfl)))) (mvT hZ (hw _ (List.mem_of_getElem? (i := 6) rfl))) (mvT hZ (hw _ (List.mem_of_getElem? (i := 5) rfl))) (by decide) (backOf (W := 0) ((space_noA l Z a0 hw a b (ch.toUInt32.toUInt16.toUInt32.toInt32) h0 n0 Z0 S_LATIN1 hne hc36 hr) []) hZ (hw _ (List.mem_of_getElem? (i := 7) rfl)) (hw _ (List.mem_of_getElem? (i := 1) rfl)) (by decide) (by decide)) q2a q2c (g := (mkF m 66 #[.val (.int ch), .val (.int (ch.toUInt32.toUInt16.toUInt32.toInt32)), .val (.int (0 : Int32)), .val (.int (0 : Int32)), .unset, .unset] [(.int (ch.toUInt32.toUInt16.toUInt32.toInt32)), (.ref a)])) rfl (by rw [hml]; rfl) (Steps.refl _) (argsL := [(.int (ch.toUInt32.toUInt16.toUInt32.toInt32))]) (rest := []) (lenOf pd_oCcZ rfl) rfl (by show 2 * 0 + _ ≤ _; exact Nat.le_of_eq rfl) (hb hby at_66) (fun _ _ => ⟨rfl, e1, (by decide : 0 + 0 ≤ _), (by decide : 0 + 0 ≤ _)⟩)
  dsimp only [Pt.U, Pt.locs, Pt.cells, Pt.slots] at X2 l2 y2 z2 st2 hQ2
  subst l2 y2 z2
  obtain ⟨rfl, N2q, e2⟩ := hQ2
  have N2 := Fr.app N0 N2q
  obtain ⟨T3, X3, e3, st3⟩ := getS2 X2 hx hZ hown (host := "") (Or.inl (hw _ (List.mem_of_getElem? (i := 10) rfl))) Via.refl e2 S_LATIN1 (g := (mkF m 71 #[.val (.int ch), .val (.int (ch.toUInt32.toUInt16.toUInt32.toInt32)), .val (.int (0 : Int32)), .val (.int (0 : Int32)), .val (.int (0 : Int32)), .unset] [])) rfl (hb hby at_71)
  obtain ⟨cq4, kq4, q4a, q4b, q4c⟩ := isOf hZ e3 E_b
  obtain ⟨_, _, ⟨T4, L4, k4, n4⟩, -, X4, ⟨Lc4, hQ4, l4, y4, z4⟩, st4⟩ := X3.virtualBack hx (y := (⟨"com/example/rowtide/rowtide/binlog/CharacterSet$Spacing", "space", "(C)Z"⟩ : MethodName)) (z := (⟨"com/example/rowtide/rowtide/binlog/CharacterSet$Spacing", "space", "(C)Z"⟩ : MethodName)) hown (mvT hZ (hw _ (List.mem_of_getElem? (i := 3) rfl))) (mvT hZ (hw _ (List.mem_of_getElem? (i := 4) rfl))) (notFace_of_selects (args := #[]) (mvT hZ (hw _ (List.mem_of_getElem? (i := 6) rfl)))) (mvT hZ (hw _ (List.mem_of_getElem? (i := 6) rfl))) (mvT hZ (hw _ (List.mem_of_getElem? (i := 5) rfl))) (by decide) (backOf (W := 0) ((space_noL l Z a0 hw b (ch.toUInt32.toUInt16.toUInt32.toInt32) h0 n0 Z0 S_LATIN1 hc36 hr hc53) []) hZ (hw _ (List.mem_of_getElem? (i := 7) rfl)) (hw _ (List.mem_of_getElem? (i := 1) rfl)) (by decide) (by decide)) q4a q4c (g := (mkF m 75 #[.val (.int ch), .val (.int (ch.toUInt32.toUInt16.toUInt32.toInt32)), .val (.int (0 : Int32)), .val (.int (0 : Int32)), .val (.int (0 : Int32)), .unset] [(.int (ch.toUInt32.toUInt16.toUInt32.toInt32)), (.ref b)])) rfl (by rw [hml]; rfl) (Steps.refl _) (argsL := [(.int (ch.toUInt32.toUInt16.toUInt32.toInt32))]) (rest := []) (lenOf pd_oCcZ rfl) rfl (by show 2 * 0 + _ ≤ _; exact Nat.le_of_eq rfl) (hb hby at_75) (fun _ _ => ⟨rfl, e3, (by decide : 0 + 0 ≤ _), (by decide : 0 + 0 ≤ _)⟩)
  dsimp only [Pt.U, Pt.locs, Pt.cells, Pt.slots] at X4 l4 y4 z4 st4 hQ4
  subst l4 y4 z4
  obtain ⟨rfl, N4q, e4⟩ := hQ4
  have N4 := Fr.app N2 N4q
  obtain ⟨fs, hr, hrun, hended, hW, hsame⟩ := X4.leave (v := some (.int (1 : Int32))) (fun h => by rw [Bd.returns] at h; cases h)
  refine ⟨_, _, pre0 _ ?_, hrun, hended, _, _, rfl, ?_, ⟨_, rfl⟩, hW, hsame.mono (by decide) (by decide)⟩
  · show Steps p.tables e below (s₁.setTop (mkF m 0 #[.val (.int ch), .unset, .unset, .unset, .unset, .unset] [])) _
    refine XS.iloadN X0.here hx rfl (hb hby at_0) rfl ?_
    show Steps p.tables e below (s₁.setTop (mkF m 1 #[.val (.int ch), .unset, .unset, .unset, .unset, .unset] [(.int ch)])) _
    refine XS.i2c X0.here hx rfl (hb hby at_1) rfl ?_
    show Steps p.tables e below (s₁.setTop (mkF m 2 #[.val (.int ch), .unset, .unset, .unset, .unset, .unset] [(.int (ch.toUInt32.toUInt16.toUInt32.toInt32))])) _
    refine XS.istoreN X0.here hx rfl (hb hby at_2) rfl (l' := #[.val (.int ch), .val (.int (ch.toUInt32.toUInt16.toUInt32.toInt32)), .unset, .unset, .unset, .unset]) rfl ?_
    show Steps p.tables e below (s₁.setTop (mkF m 3 #[.val (.int ch), .val (.int (ch.toUInt32.toUInt16.toUInt32.toInt32)), .unset, .unset, .unset, .unset] [])) _
    refine XS.iloadN X0.here hx rfl (hb hby at_3) rfl ?_
    show Steps p.tables e below (s₁.setTop (mkF m 4 #[.val (.int ch), .val (.int (ch.toUInt32.toUInt16.toUInt32.toInt32)), .unset, .unset, .unset, .unset] [(.int (ch.toUInt32.toUInt16.toUInt32.toInt32))])) _
    refine XS.bipush X0.here hx rfl (hb hby at_4) ?_
    show Steps p.tables e below (s₁.setTop (mkF m 6 #[.val (.int ch), .val (.int (ch.toUInt32.toUInt16.toUInt32.toInt32)), .unset, .unset, .unset, .unset] [(.int (9 : Int32)), (.int (ch.toUInt32.toUInt16.toUInt32.toInt32))])) _
    refine XS.icmpNo X0.here hx rfl (hb hby at_6) rfl (feq hc6).1 ?_
    show Steps p.tables e below (s₁.setTop (mkF m 9 #[.val (.int ch), .val (.int (ch.toUInt32.toUInt16.toUInt32.toInt32)), .unset, .unset, .unset, .unset] [])) _
    refine XS.iloadN X0.here hx rfl (hb hby at_9) rfl ?_
    show Steps p.tables e below (s₁.setTop (mkF m 10 #[.val (.int ch), .val (.int (ch.toUInt32.toUInt16.toUInt32.toInt32)), .unset, .unset, .unset, .unset] [(.int (ch.toUInt32.toUInt16.toUInt32.toInt32))])) _
    refine XS.bipush X0.here hx rfl (hb hby at_10) ?_
    show Steps p.tables e below (s₁.setTop (mkF m 12 #[.val (.int ch), .val (.int (ch.toUInt32.toUInt16.toUInt32.toInt32)), .unset, .unset, .unset, .unset] [(.int (10 : Int32)), (.int (ch.toUInt32.toUInt16.toUInt32.toInt32))])) _
    refine XS.icmpNo X0.here hx rfl (hb hby at_12) rfl (feq hc12).1 ?_
    show Steps p.tables e below (s₁.setTop (mkF m 15 #[.val (.int ch), .val (.int (ch.toUInt32.toUInt16.toUInt32.toInt32)), .unset, .unset, .unset, .unset] [])) _
    refine XS.iloadN X0.here hx rfl (hb hby at_15) rfl ?_
    show Steps p.tables e below (s₁.setTop (mkF m 16 #[.val (.int ch), .val (.int (ch.toUInt32.toUInt16.toUInt32.toInt32)), .unset, .unset, .unset, .unset] [(.int (ch.toUInt32.toUInt16.toUInt32.toInt32))])) _
    refine XS.bipush X0.here hx rfl (hb hby at_16) ?_
    show Steps p.tables e below (s₁.setTop (mkF m 18 #[.val (.int ch), .val (.int (ch.toUInt32.toUInt16.toUInt32.toInt32)), .unset, .unset, .unset, .unset] [(.int (11 : Int32)), (.int (ch.toUInt32.toUInt16.toUInt32.toInt32))])) _
    refine XS.icmpNo X0.here hx rfl (hb hby at_18) rfl (feq hc18).1 ?_
    show Steps p.tables e below (s₁.setTop (mkF m 21 #[.val (.int ch), .val (.int (ch.toUInt32.toUInt16.toUInt32.toInt32)), .unset, .unset, .unset, .unset] [])) _
    refine XS.iloadN X0.here hx rfl (hb hby at_21) rfl ?_
    show Steps p.tables e below (s₁.setTop (mkF m 22 #[.val (.int ch), .val (.int (ch.toUInt32.toUInt16.toUInt32.toInt32)), .unset, .unset, .unset, .unset] [(.int (ch.toUInt32.toUInt16.toUInt32.toInt32))])) _
    refine XS.bipush X0.here hx rfl (hb hby at_22) ?_
    show Steps p.tables e below (s₁.setTop (mkF m 24 #[.val (.int ch), .val (.int (ch.toUInt32.toUInt16.toUInt32.toInt32)), .unset, .unset, .unset, .unset] [(.int (12 : Int32)), (.int (ch.toUInt32.toUInt16.toUInt32.toInt32))])) _
    refine XS.icmpNo X0.here hx rfl (hb hby at_24) rfl (feq hc24).1 ?_
    show Steps p.tables e below (s₁.setTop (mkF m 27 #[.val (.int ch), .val (.int (ch.toUInt32.toUInt16.toUInt32.toInt32)), .unset, .unset, .unset, .unset] [])) _
    refine XS.iloadN X0.here hx rfl (hb hby at_27) rfl ?_
    show Steps p.tables e below (s₁.setTop (mkF m 28 #[.val (.int ch), .val (.int (ch.toUInt32.toUInt16.toUInt32.toInt32)), .unset, .unset, .unset, .unset] [(.int (ch.toUInt32.toUInt16.toUInt32.toInt32))])) _
    refine XS.bipush X0.here hx rfl (hb hby at_28) ?_
    show Steps p.tables e below (s₁.setTop (mkF m 30 #[.val (.int ch), .val (.int (ch.toUInt32.toUInt16.toUInt32.toInt32)), .unset, .unset, .unset, .unset] [(.int (13 : Int32)), (.int (ch.toUInt32.toUInt16.toUInt32.toInt32))])) _
    refine XS.icmpNo X0.here hx rfl (hb hby at_30) rfl (feq hc30).1 ?_
    show Steps p.tables e below (s₁.setTop (mkF m 33 #[.val (.int ch), .val (.int (ch.toUInt32.toUInt16.toUInt32.toInt32)), .unset, .unset, .unset, .unset] [])) _
    refine XS.iloadN X0.here hx rfl (hb hby at_33) rfl ?_
    show Steps p.tables e below (s₁.setTop (mkF m 34 #[.val (.int ch), .val (.int (ch.toUInt32.toUInt16.toUInt32.toInt32)), .unset, .unset, .unset, .unset] [(.int (ch.toUInt32.toUInt16.toUInt32.toInt32))])) _
    refine XS.bipush X0.here hx rfl (hb hby at_34) ?_
    show Steps p.tables e below (s₁.setTop (mkF m 36 #[.val (.int ch), .val (.int (ch.toUInt32.toUInt16.toUInt32.toInt32)), .unset, .unset, .unset, .unset] [(.int (32 : Int32)), (.int (ch.toUInt32.toUInt16.toUInt32.toInt32))])) _
    refine XS.icmpYes X0.here hx rfl (pc0 := 36) (pc' := 43) rfl (hb hby at_36) rfl (feq hc36).2 (by decide) (by decide) ?_
    show Steps p.tables e below (s₁.setTop (mkF m 43 #[.val (.int ch), .val (.int (ch.toUInt32.toUInt16.toUInt32.toInt32)), .unset, .unset, .unset, .unset] [])) _
    refine XS.iconst X0.here hx rfl (hb hby at_43) ?_
    show Steps p.tables e below (s₁.setTop (mkF m 44 #[.val (.int ch), .val (.int (ch.toUInt32.toUInt16.toUInt32.toInt32)), .unset, .unset, .unset, .unset] [(.int (0 : Int32))])) _
    refine XS.istoreN X0.here hx rfl (hb hby at_44) rfl (l' := #[.val (.int ch), .val (.int (ch.toUInt32.toUInt16.toUInt32.toInt32)), .val (.int (0 : Int32)), .unset, .unset, .unset]) rfl ?_
    show Steps p.tables e below (s₁.setTop (mkF m 45 #[.val (.int ch), .val (.int (ch.toUInt32.toUInt16.toUInt32.toInt32)), .val (.int (0 : Int32)), .unset, .unset, .unset] [])) _
    refine XS.iloadN X0.here hx rfl (hb hby at_45) rfl ?_
    show Steps p.tables e below (s₁.setTop (mkF m 46 #[.val (.int ch), .val (.int (ch.toUInt32.toUInt16.toUInt32.toInt32)), .val (.int (0 : Int32)), .unset, .unset, .unset] [(.int (0 : Int32))])) _
    refine XS.ifNo X0.here hx rfl (hb hby at_46) rfl ((if0 _ _).trans (teq (by decide : (0 : Int32) = (0 : Int32))).2) ?_
    show Steps p.tables e below (s₁.setTop (mkF m 49 #[.val (.int ch), .val (.int (ch.toUInt32.toUInt16.toUInt32.toInt32)), .val (.int (0 : Int32)), .unset, .unset, .unset] [])) _
    refine XS.iloadN X0.here hx rfl (hb hby at_49) rfl ?_
    show Steps p.tables e below (s₁.setTop (mkF m 50 #[.val (.int ch), .val (.int (ch.toUInt32.toUInt16.toUInt32.toInt32)), .val (.int (0 : Int32)), .unset, .unset, .unset] [(.int (ch.toUInt32.toUInt16.toUInt32.toInt32))])) _
    refine XS.sipush X0.here hx rfl (hb hby at_50) ?_
    show Steps p.tables e below (s₁.setTop (mkF m 53 #[.val (.int ch), .val (.int (ch.toUInt32.toUInt16.toUInt32.toInt32)), .val (.int (0 : Int32)), .unset, .unset, .unset] [(.int (160 : Int32)), (.int (ch.toUInt32.toUInt16.toUInt32.toInt32))])) _
    refine XS.icmpYes X0.here hx rfl (pc0 := 53) (pc' := 60) rfl (hb hby at_53) rfl (feq hc53).2 (by decide) (by decide) ?_
    show Steps p.tables e below (s₁.setTop (mkF m 60 #[.val (.int ch), .val (.int (ch.toUInt32.toUInt16.toUInt32.toInt32)), .val (.int (0 : Int32)), .unset, .unset, .unset] [])) _
    refine XS.iconst X0.here hx rfl (hb hby at_60) ?_
    show Steps p.tables e below (s₁.setTop (mkF m 61 #[.val (.int ch), .val (.int (ch.toUInt32.toUInt16.toUInt32.toInt32)), .val (.int (0 : Int32)), .unset, .unset, .unset] [(.int (0 : Int32))])) _
    refine XS.istoreN X0.here hx rfl (hb hby at_61) rfl (l' := #[.val (.int ch), .val (.int (ch.toUInt32.toUInt16.toUInt32.toInt32)), .val (.int (0 : Int32)), .val (.int (0 : Int32)), .unset, .unset]) rfl ?_
    show Steps p.tables e below (s₁.setTop (mkF m 62 #[.val (.int ch), .val (.int (ch.toUInt32.toUInt16.toUInt32.toInt32)), .val (.int (0 : Int32)), .val (.int (0 : Int32)), .unset, .unset] [])) _
    refine st1 _ ?_
    show Steps p.tables e below (T1.setTop (mkF m 65 #[.val (.int ch), .val (.int (ch.toUInt32.toUInt16.toUInt32.toInt32)), .val (.int (0 : Int32)), .val (.int (0 : Int32)), .unset, .unset] [(.ref a)])) _
    refine XS.iloadN X1.here hx rfl (hb hby at_65) rfl ?_
    show Steps p.tables e below (T1.setTop (mkF m 66 #[.val (.int ch), .val (.int (ch.toUInt32.toUInt16.toUInt32.toInt32)), .val (.int (0 : Int32)), .val (.int (0 : Int32)), .unset, .unset] [(.int (ch.toUInt32.toUInt16.toUInt32.toInt32)), (.ref a)])) _
    refine st2.trans ?_
    show Steps p.tables e below (T2.setTop (mkF m 69 #[.val (.int ch), .val (.int (ch.toUInt32.toUInt16.toUInt32.toInt32)), .val (.int (0 : Int32)), .val (.int (0 : Int32)), .unset, .unset] [(.int (0 : Int32))])) _
    refine XS.istore X2.here hx rfl (hb hby at_69) rfl (l' := #[.val (.int ch), .val (.int (ch.toUInt32.toUInt16.toUInt32.toInt32)), .val (.int (0 : Int32)), .val (.int (0 : Int32)), .val (.int (0 : Int32)), .unset]) rfl ?_
    show Steps p.tables e below (T2.setTop (mkF m 71 #[.val (.int ch), .val (.int (ch.toUInt32.toUInt16.toUInt32.toInt32)), .val (.int (0 : Int32)), .val (.int (0 : Int32)), .val (.int (0 : Int32)), .unset] [])) _
    refine st3 _ ?_
    show Steps p.tables e below (T3.setTop (mkF m 74 #[.val (.int ch), .val (.int (ch.toUInt32.toUInt16.toUInt32.toInt32)), .val (.int (0 : Int32)), .val (.int (0 : Int32)), .val (.int (0 : Int32)), .unset] [(.ref b)])) _
    refine XS.iloadN X3.here hx rfl (hb hby at_74) rfl ?_
    show Steps p.tables e below (T3.setTop (mkF m 75 #[.val (.int ch), .val (.int (ch.toUInt32.toUInt16.toUInt32.toInt32)), .val (.int (0 : Int32)), .val (.int (0 : Int32)), .val (.int (0 : Int32)), .unset] [(.int (ch.toUInt32.toUInt16.toUInt32.toInt32)), (.ref b)])) _
    refine st4.trans ?_
    show Steps p.tables e below (T4.setTop (mkF m 78 #[.val (.int ch), .val (.int (ch.toUInt32.toUInt16.toUInt32.toInt32)), .val (.int (0 : Int32)), .val (.int (0 : Int32)), .val (.int (0 : Int32)), .unset] [(.int (0 : Int32))])) _
    refine XS.istore X4.here hx rfl (hb hby at_78) rfl (l' := #[.val (.int ch), .val (.int (ch.toUInt32.toUInt16.toUInt32.toInt32)), .val (.int (0 : Int32)), .val (.int (0 : Int32)), .val (.int (0 : Int32)), .val (.int (0 : Int32))]) rfl ?_
    show Steps p.tables e below (T4.setTop (mkF m 80 #[.val (.int ch), .val (.int (ch.toUInt32.toUInt16.toUInt32.toInt32)), .val (.int (0 : Int32)), .val (.int (0 : Int32)), .val (.int (0 : Int32)), .val (.int (0 : Int32))] [])) _
    refine XS.iload X4.here hx rfl (hb hby at_80) rfl ?_
    show Steps p.tables e below (T4.setTop (mkF m 82 #[.val (.int ch), .val (.int (ch.toUInt32.toUInt16.toUInt32.toInt32)), .val (.int (0 : Int32)), .val (.int (0 : Int32)), .val (.int (0 : Int32)), .val (.int (0 : Int32))] [(.int (0 : Int32))])) _
    refine XS.iloadN X4.here hx rfl (hb hby at_82) rfl ?_
    show Steps p.tables e below (T4.setTop (mkF m 83 #[.val (.int ch), .val (.int (ch.toUInt32.toUInt16.toUInt32.toInt32)), .val (.int (0 : Int32)), .val (.int (0 : Int32)), .val (.int (0 : Int32)), .val (.int (0 : Int32))] [(.int (0 : Int32)), (.int (0 : Int32))])) _
    refine XS.icmpNo X4.here hx rfl (hb hby at_83) rfl (teq (by decide : (0 : Int32) = (0 : Int32))).2 ?_
    show Steps p.tables e below (T4.setTop (mkF m 86 #[.val (.int ch), .val (.int (ch.toUInt32.toUInt16.toUInt32.toInt32)), .val (.int (0 : Int32)), .val (.int (0 : Int32)), .val (.int (0 : Int32)), .val (.int (0 : Int32))] [])) _
    refine XS.iload X4.here hx rfl (hb hby at_86) rfl ?_
    show Steps p.tables e below (T4.setTop (mkF m 88 #[.val (.int ch), .val (.int (ch.toUInt32.toUInt16.toUInt32.toInt32)), .val (.int (0 : Int32)), .val (.int (0 : Int32)), .val (.int (0 : Int32)), .val (.int (0 : Int32))] [(.int (0 : Int32))])) _
    refine XS.iloadN X4.here hx rfl (hb hby at_88) rfl ?_
    show Steps p.tables e below (T4.setTop (mkF m 89 #[.val (.int ch), .val (.int (ch.toUInt32.toUInt16.toUInt32.toInt32)), .val (.int (0 : Int32)), .val (.int (0 : Int32)), .val (.int (0 : Int32)), .val (.int (0 : Int32))] [(.int (0 : Int32)), (.int (0 : Int32))])) _
    refine XS.icmpNo X4.here hx rfl (hb hby at_89) rfl (teq (by decide : (0 : Int32) = (0 : Int32))).2 ?_
    show Steps p.tables e below (T4.setTop (mkF m 92 #[.val (.int ch), .val (.int (ch.toUInt32.toUInt16.toUInt32.toInt32)), .val (.int (0 : Int32)), .val (.int (0 : Int32)), .val (.int (0 : Int32)), .val (.int (0 : Int32))] [])) _
    refine XS.iconst X4.here hx rfl (hb hby at_92) ?_
    show Steps p.tables e below (T4.setTop (mkF m 93 #[.val (.int ch), .val (.int (ch.toUInt32.toUInt16.toUInt32.toInt32)), .val (.int (0 : Int32)), .val (.int (0 : Int32)), .val (.int (0 : Int32)), .val (.int (0 : Int32))] [(.int (1 : Int32))])) _
    refine XS.goto X4.here hx rfl (pc0 := 93) (pc' := 97) rfl (hb hby at_93) (by decide) (by decide) ?_
    show Steps p.tables e below (T4.setTop (mkF m 97 #[.val (.int ch), .val (.int (ch.toUInt32.toUInt16.toUInt32.toInt32)), .val (.int (0 : Int32)), .val (.int (0 : Int32)), .val (.int (0 : Int32)), .val (.int (0 : Int32))] [(.int (1 : Int32))])) _
    exact retN X4 hx (t := .boolean) Bd.returns (by simp) (hb hby at_97) hr
  · exact ⟨rfl, N4, e4⟩
set_option maxRecDepth 65536 in
set_option maxHeartbeats 40000000 in
theorem law_160 (l : Launch) (Z : State) (a0 : Array Value) (hw : ∀ d ∈ tables_1, d.before a0 Z = true) (ch : Int32) (a b : Addr) (h0 : Heap) (n0 : Nat) (Z0 : n0 ≤ h0.size) (S_ASCII : Sta Z h0 "com/example/rowtide/rowtide/binlog/CharacterSet$Spacing" "ASCII" "Lcom/example/rowtide/rowtide/binlog/CharacterSet$Spacing;" (.ref a)) (S_LATIN1 : Sta Z h0 "com/example/rowtide/rowtide/binlog/CharacterSet$Spacing" "LATIN1" "Lcom/example/rowtide/rowtide/binlog/CharacterSet$Spacing;" (.ref b)) (hr : (ch.toUInt32.toUInt16.toUInt32.toInt32) < (9 : Int32) ∨ (13 : Int32) < (ch.toUInt32.toUInt16.toUInt32.toInt32)) (hne : ¬ (a = b)) (E_a : Exa Z h0 a "com/example/rowtide/rowtide/binlog/CharacterSet$Spacing") (E_b : Exa Z h0 b "com/example/rowtide/rowtide/binlog/CharacterSet$Spacing") (hc6 : ¬ ((ch.toUInt32.toUInt16.toUInt32.toInt32) = (9 : Int32))) (hc12 : ¬ ((ch.toUInt32.toUInt16.toUInt32.toInt32) = (10 : Int32))) (hc18 : ¬ ((ch.toUInt32.toUInt16.toUInt32.toInt32) = (11 : Int32))) (hc24 : ¬ ((ch.toUInt32.toUInt16.toUInt32.toInt32) = (12 : Int32))) (hc30 : ¬ ((ch.toUInt32.toUInt16.toUInt32.toInt32) = (13 : Int32))) (hc36 : ¬ ((ch.toUInt32.toUInt16.toUInt32.toInt32) = (32 : Int32))) (hc53 : (ch.toUInt32.toUInt16.toUInt32.toInt32) = (160 : Int32)) :
    RO l Z x code maxLocals ret room_1 #[(.int ch)] h0 n0 (.int (1 : Int32)) := by
  intro ws
  refine MetFree.of_bodySF (plainFor_of_name pn_0) hisR ?_
  intro p e s m args below meth c s₁ Bd hml0 hP hK
  obtain ⟨rfl, hZ, hh⟩ := hP
  have hx := Bd.exec
  have hby := Bd.bytes
  have hml : c.maxLocals = 6 := hml0
  have hown : s.vm.findClass "com/example/rowtide/rowtide/binlog/SpacingSpacePinLaw" = some m.cls := findClass_of_methodNamed Bd.named
  have hnm := (name_of_methodNamed Bd.named Bd.method).1
  have X0 : Stand p l e room_1 s m #[(.int ch)] below meth c s₁ [] 0 0 := Stand.of_body Bd
  have e0 : s₁.heap = h0 := by rw [← hh, Bd.state]; rfl
  have N0 := Fr.nil n0
  have pre0 : ∀ t_, Steps p.tables e below (s₁.setTop (mkF m 0 #[.val (.int ch), .unset, .unset, .unset, .unset, .unset] [])) t_ → Steps p.tables e below (s₁.setTop (entryFrame m #[(.int ch)] maxLocals)) t_ := fun t_ k_ => castTop (ef_0 m ch) k_
  obtain ⟨T1, X1, e1, st1⟩ := getS2 X0 hx hZ hown (host := "") (Or.inl (hw _ (List.mem_of_getElem? (i := 0) rfl))) Via.refl e0 S_ASCII (g := (mkF m 62 #[.val (.int ch), .val (.int (ch.toUInt32.toUInt16.toUInt32.toInt32)), .val (.int (0 : Int32)), .val (.int (1 : Int32)), .unset, .unset] [])) rfl (hb hby at_62)
  obtain ⟨cq2, kq2, q2a, q2b, q2c⟩ := isOf hZ e1 E_a
  obtain ⟨_, _, ⟨T2, L2, k2, n2⟩, -, X2, ⟨Lc2, hQ2, l2, y2, z2⟩, st2⟩ := X1.virtualBack hx (y := (⟨"com/example/rowtide/rowtide/binlog/CharacterSet$Spacing", "space", "(C)Z"⟩ : MethodName)) (z := (⟨"com/example/rowtide/rowtide/binlog/CharacterSet$Spacing", "space", "(C)Z"⟩ : MethodName)) hown (mvT hZ (hw _ (List.mem_of_getElem? (i := 3) rfl))) (mvT hZ (hw _ (List.mem_of_getElem? (i := 4) rfl))) (notFace_of_selects (args := #[]) (mvT hZ (hw _ (List.mem_of_getElem? (i := 6) rfl)))) (mvT hZ (hw _ (List.mem_of_getElem? (i := 6) rfl))) (mvT hZ (hw _ (List.mem_of_getElem? (i := 5) rfl))) (by decide) (backOf (W := 0) ((space_noA l Z a0 hw a b (ch.toUInt32.toUInt16.toUInt32.toInt32) h0 n0 Z0 S_LATIN1 hne hc36 hr) []) hZ (hw _ (List.mem_of_getElem? (i := 7) rfl)) (hw _ (List.mem_of_getElem? (i := 1) rfl)) (by decide) (by decide)) q2a q2c (g := (mkF m 66 #[.val (.int ch), .val (.int (ch.toUInt32.toUInt16.toUInt32.toInt32)), .val (.int (0 : Int32)), .val (.int (1 : Int32)), .unset, .unset] [(.int (ch.toUInt32.toUInt16.toUInt32.toInt32)), (.ref a)])) rfl (by rw [hml]; rfl) (Steps.refl _) (argsL := [(.int (ch.toUInt32.toUInt16.toUInt32.toInt32))]) (rest := []) (lenOf pd_oCcZ rfl) rfl (by show 2 * 0 + _ ≤ _; exact Nat.le_of_eq rfl) (hb hby at_66) (fun _ _ => ⟨rfl, e1, (by decide : 0 + 0 ≤ _), (by decide : 0 + 0 ≤ _)⟩)
  dsimp only [Pt.U, Pt.locs, Pt.cells, Pt.slots] at X2 l2 y2 z2 st2 hQ2
  subst l2 y2 z2
  obtain ⟨rfl, N2q, e2⟩ := hQ2
  have N2 := Fr.app N0 N2q
  obtain ⟨T3, X3, e3, st3⟩ := getS2 X2 hx hZ hown (host := "") (Or.inl (hw _ (List.mem_of_getElem? (i := 10) rfl))) Via.refl e2 S_LATIN1 (g := (mkF m 71 #[.val (.int ch), .val (.int (ch.toUInt32.toUInt16.toUInt32.toInt32)), .val (.int (0 : Int32)), .val (.int (1 : Int32)), .val (.int (0 : Int32)), .unset] [])) rfl (hb hby at_71)
  obtain ⟨cq4, kq4, q4a, q4b, q4c⟩ := isOf hZ e3 E_b
  obtain ⟨_, _, ⟨T4, L4, k4, n4⟩, -, X4, ⟨Lc4, hQ4, l4, y4, z4⟩, st4⟩ := X3.virtualBack hx (y := (⟨"com/example/rowtide/rowtide/binlog/CharacterSet$Spacing", "space", "(C)Z"⟩ : MethodName)) (z := (⟨"com/example/rowtide/rowtide/binlog/CharacterSet$Spacing", "space", "(C)Z"⟩ : MethodName)) hown (mvT hZ (hw _ (List.mem_of_getElem? (i := 3) rfl))) (mvT hZ (hw _ (List.mem_of_getElem? (i := 4) rfl))) (notFace_of_selects (args := #[]) (mvT hZ (hw _ (List.mem_of_getElem? (i := 6) rfl)))) (mvT hZ (hw _ (List.mem_of_getElem? (i := 6) rfl))) (mvT hZ (hw _ (List.mem_of_getElem? (i := 5) rfl))) (by decide) (backOf (W := 0) ((sp_D3 l Z a0 hw b (ch.toUInt32.toUInt16.toUInt32.toInt32) h0 n0 Z0 S_LATIN1 hc36 (by rw [hc53]; decide) (by rw [hc53]; decide) hc53) []) hZ (hw _ (List.mem_of_getElem? (i := 7) rfl)) (hw _ (List.mem_of_getElem? (i := 1) rfl)) (by decide) (by decide)) q4a q4c (g := (mkF m 75 #[.val (.int ch), .val (.int (ch.toUInt32.toUInt16.toUInt32.toInt32)), .val (.int (0 : Int32)), .val (.int (1 : Int32)), .val (.int (0 : Int32)), .unset] [(.int (ch.toUInt32.toUInt16.toUInt32.toInt32)), (.ref b)])) rfl (by rw [hml]; rfl) (Steps.refl _) (argsL := [(.int (ch.toUInt32.toUInt16.toUInt32.toInt32))]) (rest := []) (lenOf pd_oCcZ rfl) rfl (by show 2 * 0 + _ ≤ _; exact Nat.le_of_eq rfl) (hb hby at_75) (fun _ _ => ⟨rfl, e3, (by decide : 0 + 0 ≤ _), (by decide : 0 + 0 ≤ _)⟩)
  dsimp only [Pt.U, Pt.locs, Pt.cells, Pt.slots] at X4 l4 y4 z4 st4 hQ4
  subst l4 y4 z4
  obtain ⟨rfl, N4q, e4⟩ := hQ4
  have N4 := Fr.app N2 N4q
  obtain ⟨fs, hr, hrun, hended, hW, hsame⟩ := X4.leave (v := some (.int (1 : Int32))) (fun h => by rw [Bd.returns] at h; cases h)
  refine ⟨_, _, pre0 _ ?_, hrun, hended, _, _, rfl, ?_, ⟨_, rfl⟩, hW, hsame.mono (by decide) (by decide)⟩
  · show Steps p.tables e below (s₁.setTop (mkF m 0 #[.val (.int ch), .unset, .unset, .unset, .unset, .unset] [])) _
    refine XS.iloadN X0.here hx rfl (hb hby at_0) rfl ?_
    show Steps p.tables e below (s₁.setTop (mkF m 1 #[.val (.int ch), .unset, .unset, .unset, .unset, .unset] [(.int ch)])) _
    refine XS.i2c X0.here hx rfl (hb hby at_1) rfl ?_
    show Steps p.tables e below (s₁.setTop (mkF m 2 #[.val (.int ch), .unset, .unset, .unset, .unset, .unset] [(.int (ch.toUInt32.toUInt16.toUInt32.toInt32))])) _
    refine XS.istoreN X0.here hx rfl (hb hby at_2) rfl (l' := #[.val (.int ch), .val (.int (ch.toUInt32.toUInt16.toUInt32.toInt32)), .unset, .unset, .unset, .unset]) rfl ?_
    show Steps p.tables e below (s₁.setTop (mkF m 3 #[.val (.int ch), .val (.int (ch.toUInt32.toUInt16.toUInt32.toInt32)), .unset, .unset, .unset, .unset] [])) _
    refine XS.iloadN X0.here hx rfl (hb hby at_3) rfl ?_
    show Steps p.tables e below (s₁.setTop (mkF m 4 #[.val (.int ch), .val (.int (ch.toUInt32.toUInt16.toUInt32.toInt32)), .unset, .unset, .unset, .unset] [(.int (ch.toUInt32.toUInt16.toUInt32.toInt32))])) _
    refine XS.bipush X0.here hx rfl (hb hby at_4) ?_
    show Steps p.tables e below (s₁.setTop (mkF m 6 #[.val (.int ch), .val (.int (ch.toUInt32.toUInt16.toUInt32.toInt32)), .unset, .unset, .unset, .unset] [(.int (9 : Int32)), (.int (ch.toUInt32.toUInt16.toUInt32.toInt32))])) _
    refine XS.icmpNo X0.here hx rfl (hb hby at_6) rfl (feq hc6).1 ?_
    show Steps p.tables e below (s₁.setTop (mkF m 9 #[.val (.int ch), .val (.int (ch.toUInt32.toUInt16.toUInt32.toInt32)), .unset, .unset, .unset, .unset] [])) _
    refine XS.iloadN X0.here hx rfl (hb hby at_9) rfl ?_
    show Steps p.tables e below (s₁.setTop (mkF m 10 #[.val (.int ch), .val (.int (ch.toUInt32.toUInt16.toUInt32.toInt32)), .unset, .unset, .unset, .unset] [(.int (ch.toUInt32.toUInt16.toUInt32.toInt32))])) _
    refine XS.bipush X0.here hx rfl (hb hby at_10) ?_
    show Steps p.tables e below (s₁.setTop (mkF m 12 #[.val (.int ch), .val (.int (ch.toUInt32.toUInt16.toUInt32.toInt32)), .unset, .unset, .unset, .unset] [(.int (10 : Int32)), (.int (ch.toUInt32.toUInt16.toUInt32.toInt32))])) _
    refine XS.icmpNo X0.here hx rfl (hb hby at_12) rfl (feq hc12).1 ?_
    show Steps p.tables e below (s₁.setTop (mkF m 15 #[.val (.int ch), .val (.int (ch.toUInt32.toUInt16.toUInt32.toInt32)), .unset, .unset, .unset, .unset] [])) _
    refine XS.iloadN X0.here hx rfl (hb hby at_15) rfl ?_
    show Steps p.tables e below (s₁.setTop (mkF m 16 #[.val (.int ch), .val (.int (ch.toUInt32.toUInt16.toUInt32.toInt32)), .unset, .unset, .unset, .unset] [(.int (ch.toUInt32.toUInt16.toUInt32.toInt32))])) _
    refine XS.bipush X0.here hx rfl (hb hby at_16) ?_
    show Steps p.tables e below (s₁.setTop (mkF m 18 #[.val (.int ch), .val (.int (ch.toUInt32.toUInt16.toUInt32.toInt32)), .unset, .unset, .unset, .unset] [(.int (11 : Int32)), (.int (ch.toUInt32.toUInt16.toUInt32.toInt32))])) _
    refine XS.icmpNo X0.here hx rfl (hb hby at_18) rfl (feq hc18).1 ?_
    show Steps p.tables e below (s₁.setTop (mkF m 21 #[.val (.int ch), .val (.int (ch.toUInt32.toUInt16.toUInt32.toInt32)), .unset, .unset, .unset, .unset] [])) _
    refine XS.iloadN X0.here hx rfl (hb hby at_21) rfl ?_
    show Steps p.tables e below (s₁.setTop (mkF m 22 #[.val (.int ch), .val (.int (ch.toUInt32.toUInt16.toUInt32.toInt32)), .unset, .unset, .unset, .unset] [(.int (ch.toUInt32.toUInt16.toUInt32.toInt32))])) _
    refine XS.bipush X0.here hx rfl (hb hby at_22) ?_
    show Steps p.tables e below (s₁.setTop (mkF m 24 #[.val (.int ch), .val (.int (ch.toUInt32.toUInt16.toUInt32.toInt32)), .unset, .unset, .unset, .unset] [(.int (12 : Int32)), (.int (ch.toUInt32.toUInt16.toUInt32.toInt32))])) _
    refine XS.icmpNo X0.here hx rfl (hb hby at_24) rfl (feq hc24).1 ?_
    show Steps p.tables e below (s₁.setTop (mkF m 27 #[.val (.int ch), .val (.int (ch.toUInt32.toUInt16.toUInt32.toInt32)), .unset, .unset, .unset, .unset] [])) _
    refine XS.iloadN X0.here hx rfl (hb hby at_27) rfl ?_
    show Steps p.tables e below (s₁.setTop (mkF m 28 #[.val (.int ch), .val (.int (ch.toUInt32.toUInt16.toUInt32.toInt32)), .unset, .unset, .unset, .unset] [(.int (ch.toUInt32.toUInt16.toUInt32.toInt32))])) _
    refine XS.bipush X0.here hx rfl (hb hby at_28) ?_
    show Steps p.tables e below (s₁.setTop (mkF m 30 #[.val (.int ch), .val (.int (ch.toUInt32.toUInt16.toUInt32.toInt32)), .unset, .unset, .unset, .unset] [(.int (13 : Int32)), (.int (ch.toUInt32.toUInt16.toUInt32.toInt32))])) _
    refine XS.icmpNo X0.here hx rfl (hb hby at_30) rfl (feq hc30).1 ?_
    show Steps p.tables e below (s₁.setTop (mkF m 33 #[.val (.int ch), .val (.int (ch.toUInt32.toUInt16.toUInt32.toInt32)), .unset, .unset, .unset, .unset] [])) _
    refine XS.iloadN X0.here hx rfl (hb hby at_33) rfl ?_
    show Steps p.tables e below (s₁.setTop (mkF m 34 #[.val (.int ch), .val (.int (ch.toUInt32.toUInt16.toUInt32.toInt32)), .unset, .unset, .unset, .unset] [(.int (ch.toUInt32.toUInt16.toUInt32.toInt32))])) _
    refine XS.bipush X0.here hx rfl (hb hby at_34) ?_
    show Steps p.tables e below (s₁.setTop (mkF m 36 #[.val (.int ch), .val (.int (ch.toUInt32.toUInt16.toUInt32.toInt32)), .unset, .unset, .unset, .unset] [(.int (32 : Int32)), (.int (ch.toUInt32.toUInt16.toUInt32.toInt32))])) _
    refine XS.icmpYes X0.here hx rfl (pc0 := 36) (pc' := 43) rfl (hb hby at_36) rfl (feq hc36).2 (by decide) (by decide) ?_
    show Steps p.tables e below (s₁.setTop (mkF m 43 #[.val (.int ch), .val (.int (ch.toUInt32.toUInt16.toUInt32.toInt32)), .unset, .unset, .unset, .unset] [])) _
    refine XS.iconst X0.here hx rfl (hb hby at_43) ?_
    show Steps p.tables e below (s₁.setTop (mkF m 44 #[.val (.int ch), .val (.int (ch.toUInt32.toUInt16.toUInt32.toInt32)), .unset, .unset, .unset, .unset] [(.int (0 : Int32))])) _
    refine XS.istoreN X0.here hx rfl (hb hby at_44) rfl (l' := #[.val (.int ch), .val (.int (ch.toUInt32.toUInt16.toUInt32.toInt32)), .val (.int (0 : Int32)), .unset, .unset, .unset]) rfl ?_
    show Steps p.tables e below (s₁.setTop (mkF m 45 #[.val (.int ch), .val (.int (ch.toUInt32.toUInt16.toUInt32.toInt32)), .val (.int (0 : Int32)), .unset, .unset, .unset] [])) _
    refine XS.iloadN X0.here hx rfl (hb hby at_45) rfl ?_
    show Steps p.tables e below (s₁.setTop (mkF m 46 #[.val (.int ch), .val (.int (ch.toUInt32.toUInt16.toUInt32.toInt32)), .val (.int (0 : Int32)), .unset, .unset, .unset] [(.int (0 : Int32))])) _
    refine XS.ifNo X0.here hx rfl (hb hby at_46) rfl ((if0 _ _).trans (teq (by decide : (0 : Int32) = (0 : Int32))).2) ?_
    show Steps p.tables e below (s₁.setTop (mkF m 49 #[.val (.int ch), .val (.int (ch.toUInt32.toUInt16.toUInt32.toInt32)), .val (.int (0 : Int32)), .unset, .unset, .unset] [])) _
    refine XS.iloadN X0.here hx rfl (hb hby at_49) rfl ?_
    show Steps p.tables e below (s₁.setTop (mkF m 50 #[.val (.int ch), .val (.int (ch.toUInt32.toUInt16.toUInt32.toInt32)), .val (.int (0 : Int32)), .unset, .unset, .unset] [(.int (ch.toUInt32.toUInt16.toUInt32.toInt32))])) _
    refine XS.sipush X0.here hx rfl (hb hby at_50) ?_
    show Steps p.tables e below (s₁.setTop (mkF m 53 #[.val (.int ch), .val (.int (ch.toUInt32.toUInt16.toUInt32.toInt32)), .val (.int (0 : Int32)), .unset, .unset, .unset] [(.int (160 : Int32)), (.int (ch.toUInt32.toUInt16.toUInt32.toInt32))])) _
    refine XS.icmpNo X0.here hx rfl (hb hby at_53) rfl (teq hc53).2 ?_
    show Steps p.tables e below (s₁.setTop (mkF m 56 #[.val (.int ch), .val (.int (ch.toUInt32.toUInt16.toUInt32.toInt32)), .val (.int (0 : Int32)), .unset, .unset, .unset] [])) _
    refine XS.iconst X0.here hx rfl (hb hby at_56) ?_
    show Steps p.tables e below (s₁.setTop (mkF m 57 #[.val (.int ch), .val (.int (ch.toUInt32.toUInt16.toUInt32.toInt32)), .val (.int (0 : Int32)), .unset, .unset, .unset] [(.int (1 : Int32))])) _
    refine XS.goto X0.here hx rfl (pc0 := 57) (pc' := 61) rfl (hb hby at_57) (by decide) (by decide) ?_
    show Steps p.tables e below (s₁.setTop (mkF m 61 #[.val (.int ch), .val (.int (ch.toUInt32.toUInt16.toUInt32.toInt32)), .val (.int (0 : Int32)), .unset, .unset, .unset] [(.int (1 : Int32))])) _
    refine XS.istoreN X0.here hx rfl (hb hby at_61) rfl (l' := #[.val (.int ch), .val (.int (ch.toUInt32.toUInt16.toUInt32.toInt32)), .val (.int (0 : Int32)), .val (.int (1 : Int32)), .unset, .unset]) rfl ?_
    show Steps p.tables e below (s₁.setTop (mkF m 62 #[.val (.int ch), .val (.int (ch.toUInt32.toUInt16.toUInt32.toInt32)), .val (.int (0 : Int32)), .val (.int (1 : Int32)), .unset, .unset] [])) _
    refine st1 _ ?_
    show Steps p.tables e below (T1.setTop (mkF m 65 #[.val (.int ch), .val (.int (ch.toUInt32.toUInt16.toUInt32.toInt32)), .val (.int (0 : Int32)), .val (.int (1 : Int32)), .unset, .unset] [(.ref a)])) _
    refine XS.iloadN X1.here hx rfl (hb hby at_65) rfl ?_
    show Steps p.tables e below (T1.setTop (mkF m 66 #[.val (.int ch), .val (.int (ch.toUInt32.toUInt16.toUInt32.toInt32)), .val (.int (0 : Int32)), .val (.int (1 : Int32)), .unset, .unset] [(.int (ch.toUInt32.toUInt16.toUInt32.toInt32)), (.ref a)])) _
    refine st2.trans ?_
    show Steps p.tables e below (T2.setTop (mkF m 69 #[.val (.int ch), .val (.int (ch.toUInt32.toUInt16.toUInt32.toInt32)), .val (.int (0 : Int32)), .val (.int (1 : Int32)), .unset, .unset] [(.int (0 : Int32))])) _
    refine XS.istore X2.here hx rfl (hb hby at_69) rfl (l' := #[.val (.int ch), .val (.int (ch.toUInt32.toUInt16.toUInt32.toInt32)), .val (.int (0 : Int32)), .val (.int (1 : Int32)), .val (.int (0 : Int32)), .unset]) rfl ?_
    show Steps p.tables e below (T2.setTop (mkF m 71 #[.val (.int ch), .val (.int (ch.toUInt32.toUInt16.toUInt32.toInt32)), .val (.int (0 : Int32)), .val (.int (1 : Int32)), .val (.int (0 : Int32)), .unset] [])) _
    refine st3 _ ?_
    show Steps p.tables e below (T3.setTop (mkF m 74 #[.val (.int ch), .val (.int (ch.toUInt32.toUInt16.toUInt32.toInt32)), .val (.int (0 : Int32)), .val (.int (1 : Int32)), .val (.int (0 : Int32)), .unset] [(.ref b)])) _
    refine XS.iloadN X3.here hx rfl (hb hby at_74) rfl ?_
    show Steps p.tables e below (T3.setTop (mkF m 75 #[.val (.int ch), .val (.int (ch.toUInt32.toUInt16.toUInt32.toInt32)), .val (.int (0 : Int32)), .val (.int (1 : Int32)), .val (.int (0 : Int32)), .unset] [(.int (ch.toUInt32.toUInt16.toUInt32.toInt32)), (.ref b)])) _
    refine st4.trans ?_
    show Steps p.tables e below (T4.setTop (mkF m 78 #[.val (.int ch), .val (.int (ch.toUInt32.toUInt16.toUInt32.toInt32)), .val (.int (0 : Int32)), .val (.int (1 : Int32)), .val (.int (0 : Int32)), .unset] [(.int (1 : Int32))])) _
    refine XS.istore X4.here hx rfl (hb hby at_78) rfl (l' := #[.val (.int ch), .val (.int (ch.toUInt32.toUInt16.toUInt32.toInt32)), .val (.int (0 : Int32)), .val (.int (1 : Int32)), .val (.int (0 : Int32)), .val (.int (1 : Int32))]) rfl ?_
    show Steps p.tables e below (T4.setTop (mkF m 80 #[.val (.int ch), .val (.int (ch.toUInt32.toUInt16.toUInt32.toInt32)), .val (.int (0 : Int32)), .val (.int (1 : Int32)), .val (.int (0 : Int32)), .val (.int (1 : Int32))] [])) _
    refine XS.iload X4.here hx rfl (hb hby at_80) rfl ?_
    show Steps p.tables e below (T4.setTop (mkF m 82 #[.val (.int ch), .val (.int (ch.toUInt32.toUInt16.toUInt32.toInt32)), .val (.int (0 : Int32)), .val (.int (1 : Int32)), .val (.int (0 : Int32)), .val (.int (1 : Int32))] [(.int (0 : Int32))])) _
    refine XS.iloadN X4.here hx rfl (hb hby at_82) rfl ?_
    show Steps p.tables e below (T4.setTop (mkF m 83 #[.val (.int ch), .val (.int (ch.toUInt32.toUInt16.toUInt32.toInt32)), .val (.int (0 : Int32)), .val (.int (1 : Int32)), .val (.int (0 : Int32)), .val (.int (1 : Int32))] [(.int (0 : Int32)), (.int (0 : Int32))])) _
    refine XS.icmpNo X4.here hx rfl (hb hby at_83) rfl (teq (by decide : (0 : Int32) = (0 : Int32))).2 ?_
    show Steps p.tables e below (T4.setTop (mkF m 86 #[.val (.int ch), .val (.int (ch.toUInt32.toUInt16.toUInt32.toInt32)), .val (.int (0 : Int32)), .val (.int (1 : Int32)), .val (.int (0 : Int32)), .val (.int (1 : Int32))] [])) _
    refine XS.iload X4.here hx rfl (hb hby at_86) rfl ?_
    show Steps p.tables e below (T4.setTop (mkF m 88 #[.val (.int ch), .val (.int (ch.toUInt32.toUInt16.toUInt32.toInt32)), .val (.int (0 : Int32)), .val (.int (1 : Int32)), .val (.int (0 : Int32)), .val (.int (1 : Int32))] [(.int (1 : Int32))])) _
    refine XS.iloadN X4.here hx rfl (hb hby at_88) rfl ?_
    show Steps p.tables e below (T4.setTop (mkF m 89 #[.val (.int ch), .val (.int (ch.toUInt32.toUInt16.toUInt32.toInt32)), .val (.int (0 : Int32)), .val (.int (1 : Int32)), .val (.int (0 : Int32)), .val (.int (1 : Int32))] [(.int (1 : Int32)), (.int (1 : Int32))])) _
    refine XS.icmpNo X4.here hx rfl (hb hby at_89) rfl (teq (by decide : (1 : Int32) = (1 : Int32))).2 ?_
    show Steps p.tables e below (T4.setTop (mkF m 92 #[.val (.int ch), .val (.int (ch.toUInt32.toUInt16.toUInt32.toInt32)), .val (.int (0 : Int32)), .val (.int (1 : Int32)), .val (.int (0 : Int32)), .val (.int (1 : Int32))] [])) _
    refine XS.iconst X4.here hx rfl (hb hby at_92) ?_
    show Steps p.tables e below (T4.setTop (mkF m 93 #[.val (.int ch), .val (.int (ch.toUInt32.toUInt16.toUInt32.toInt32)), .val (.int (0 : Int32)), .val (.int (1 : Int32)), .val (.int (0 : Int32)), .val (.int (1 : Int32))] [(.int (1 : Int32))])) _
    refine XS.goto X4.here hx rfl (pc0 := 93) (pc' := 97) rfl (hb hby at_93) (by decide) (by decide) ?_
    show Steps p.tables e below (T4.setTop (mkF m 97 #[.val (.int ch), .val (.int (ch.toUInt32.toUInt16.toUInt32.toInt32)), .val (.int (0 : Int32)), .val (.int (1 : Int32)), .val (.int (0 : Int32)), .val (.int (1 : Int32))] [(.int (1 : Int32))])) _
    exact retN X4 hx (t := .boolean) Bd.returns (by simp) (hb hby at_97) hr
  · exact ⟨rfl, N4, e4⟩
set_option maxRecDepth 65536 in
set_option maxHeartbeats 40000000 in
theorem comes_1 {Post : Tables → Env → Array Value → State → Outcome → State → Prop} (hpost : ∀ tb e args s v u, (limb_1_1.after args s (.returned v) u = true ∧ limb_1_2.after args s (.returned v) u = true ∧ True) → FrameEnd s (.returned v) u (Jvm.fieldLocs frame_1_writes args s ++ Jvm.arrayLocs frame_1_arrays args s ++ Jvm.staticLocs frame_1_statics s) 0 0 → Post tb e args s (.returned v) u) :
    ArmFor flags0 classFile x code maxLocals ret World_1 tables_1 room_1 Calls_1 rest_1 Pre_1 Post := by
  intro l hfl _ _ p e ha hc hk s m args below hf hA hF happ hP
  obtain ⟨hcalls, hrest, hpre⟩ := hP
  obtain ⟨-, -, -, hnamed, -, -, -, hat⟩ := (Spec.applies_iff hf).mp happ
  obtain ⟨hg, hn⟩ := and_e (Cond.before_iff.mp (show (Jvm.Cond.and given_1 narrow_1).before args s = true from hpre))
  obtain ⟨g1a, g1b⟩ := and_e hg
  obtain ⟨g2a, g2b⟩ := and_e hn
  obtain ⟨g3a, g3b⟩ := and_e g2b
  obtain ⟨g4a, g4b⟩ := and_e g3b
  obtain ⟨w0, rfl⟩ : ∃ w0 : Value, args = #[w0] := by
    have hs : args.size = 1 := by simpa [Cond.value, given_1] using g1a
    obtain ⟨L⟩ := args
    match L, hs with
    | [w0], _ => exact ⟨w0, rfl⟩
  have hw := fun d (hd : d ∈ tables_1) => atoms_spec (ws := Jvm.Cond.code x code maxLocals ret :: tables_1) hat d (List.mem_cons_of_mem _ hd)
  have hfit : Fit s := fun {y c} hc i hi => by
    obtain ⟨ha, rfl⟩ := Array.getElem?_eq_some_iff.mp hc
    have q := List.all_eq_true.mp ((Array.all_eq_true_iff_forall_mem.mp hF) _ (Array.getElem_mem ha)) i (List.mem_range.mpr hi)
    simpa [Array.getElem?_eq_getElem hi] using q
  obtain ⟨i0, ei0⟩ := is_v g1b
  obtain rfl : w0 = (.int i0) := Option.some.inj ei0
  obtain ⟨w_ASCII, ev_ASCII⟩ := exa_v g2a
  have S_ASCII : Sta s s.heap "com/example/rowtide/rowtide/binlog/CharacterSet$Spacing" "ASCII" "Lcom/example/rowtide/rowtide/binlog/CharacterSet$Spacing;" (.ref w_ASCII) := Sta.start ev_ASCII (Or.inr ⟨(hw _ (List.mem_of_getElem? (i := 1) rfl)), (hw _ (List.mem_of_getElem? (i := 2) rfl))⟩)
  have E_ASCII : Exa s s.heap w_ASCII "com/example/rowtide/rowtide/binlog/CharacterSet$Spacing" := Exa.start ev_ASCII g2a
  obtain ⟨w_LATIN1, ev_LATIN1⟩ := exa_v g3a
  have S_LATIN1 : Sta s s.heap "com/example/rowtide/rowtide/binlog/CharacterSet$Spacing" "LATIN1" "Lcom/example/rowtide/rowtide/binlog/CharacterSet$Spacing;" (.ref w_LATIN1) := Sta.start ev_LATIN1 (Or.inr ⟨(hw _ (List.mem_of_getElem? (i := 1) rfl)), (hw _ (List.mem_of_getElem? (i := 9) rfl))⟩)
  have E_LATIN1 : Exa s s.heap w_LATIN1 "com/example/rowtide/rowtide/binlog/CharacterSet$Spacing" := Exa.start ev_LATIN1 g3a
  have o_ordinal_ASCII : s.fieldOf? w_ASCII "java/lang/Enum" "ordinal" "I" = some (.int (0 : Int32)) := (fld_at ev_ASCII).symm.trans (own_eq_int g4a)
  have F_ordinal_ASCII := Fld.start o_ordinal_ASCII
  have o_ordinal_LATIN1 : s.fieldOf? w_LATIN1 "java/lang/Enum" "ordinal" "I" = some (.int (1 : Int32)) := (fld_at ev_LATIN1).symm.trans (own_eq_int g4b)
  have F_ordinal_LATIN1 := Fld.start o_ordinal_LATIN1
  have n_ab := own_ne o_ordinal_ASCII o_ordinal_LATIN1 (by decide)
  have C0 : RO l s x code maxLocals ret room_1 #[.int i0] s.heap s.heap.size (.int (1 : Int32)) := by
    by_cases h9 : (i0.toUInt32.toUInt16.toUInt32.toInt32) = (9 : Int32)
    · exact law_9 l s _ hw i0 w_ASCII w_LATIN1 s.heap s.heap.size (Nat.le_refl _) (S_ASCII := S_ASCII) (S_LATIN1 := S_LATIN1) (E_a := E_ASCII) (E_b := E_LATIN1) (hsp := Or.inr ⟨by rw [h9]; decide, by rw [h9]; decide⟩) (hc6 := h9)
    by_cases h10 : (i0.toUInt32.toUInt16.toUInt32.toInt32) = (10 : Int32)
    · exact law_10 l s _ hw i0 w_ASCII w_LATIN1 s.heap s.heap.size (Nat.le_refl _) (S_ASCII := S_ASCII) (S_LATIN1 := S_LATIN1) (E_a := E_ASCII) (E_b := E_LATIN1) (hsp := Or.inr ⟨by rw [h10]; decide, by rw [h10]; decide⟩) (hc6 := h9) (hc12 := h10)
    by_cases h11 : (i0.toUInt32.toUInt16.toUInt32.toInt32) = (11 : Int32)
    · exact law_11 l s _ hw i0 w_ASCII w_LATIN1 s.heap s.heap.size (Nat.le_refl _) (S_ASCII := S_ASCII) (S_LATIN1 := S_LATIN1) (E_a := E_ASCII) (E_b := E_LATIN1) (hsp := Or.inr ⟨by rw [h11]; decide, by rw [h11]; decide⟩) (hc6 := h9) (hc12 := h10) (hc18 := h11)
    by_cases h12 : (i0.toUInt32.toUInt16.toUInt32.toInt32) = (12 : Int32)
    · exact law_12 l s _ hw i0 w_ASCII w_LATIN1 s.heap s.heap.size (Nat.le_refl _) (S_ASCII := S_ASCII) (S_LATIN1 := S_LATIN1) (E_a := E_ASCII) (E_b := E_LATIN1) (hsp := Or.inr ⟨by rw [h12]; decide, by rw [h12]; decide⟩) (hc6 := h9) (hc12 := h10) (hc18 := h11) (hc24 := h12)
    by_cases h13 : (i0.toUInt32.toUInt16.toUInt32.toInt32) = (13 : Int32)
    · exact law_13 l s _ hw i0 w_ASCII w_LATIN1 s.heap s.heap.size (Nat.le_refl _) (S_ASCII := S_ASCII) (S_LATIN1 := S_LATIN1) (E_a := E_ASCII) (E_b := E_LATIN1) (hsp := Or.inr ⟨by rw [h13]; decide, by rw [h13]; decide⟩) (hc6 := h9) (hc12 := h10) (hc18 := h11) (hc24 := h12) (hc30 := h13)
    by_cases h32 : (i0.toUInt32.toUInt16.toUInt32.toInt32) = (32 : Int32)
    · exact law_32 l s _ hw i0 w_ASCII w_LATIN1 s.heap s.heap.size (Nat.le_refl _) (S_ASCII := S_ASCII) (S_LATIN1 := S_LATIN1) (E_a := E_ASCII) (E_b := E_LATIN1) (hsp := Or.inl h32) (hc6 := h9) (hc12 := h10) (hc18 := h11) (hc24 := h12) (hc30 := h13) (hc36 := h32)
    have hr := own_range _ h9 h10 h11 h12 h13
    by_cases h160 : (i0.toUInt32.toUInt16.toUInt32.toInt32) = (160 : Int32)
    · exact law_160 l s _ hw i0 w_ASCII w_LATIN1 s.heap s.heap.size (Nat.le_refl _) (S_ASCII := S_ASCII) (S_LATIN1 := S_LATIN1) (E_a := E_ASCII) (E_b := E_LATIN1) (hr := hr) (hne := n_ab) (hc6 := h9) (hc12 := h10) (hc18 := h11) (hc24 := h12) (hc30 := h13) (hc36 := h32) (hc53 := h160)
    · exact law_no l s _ hw i0 w_ASCII w_LATIN1 s.heap s.heap.size (Nat.le_refl _) (S_ASCII := S_ASCII) (S_LATIN1 := S_LATIN1) (E_a := E_ASCII) (E_b := E_LATIN1) (hr := hr) (hne := n_ab) (hc6 := h9) (hc12 := h10) (hc18 := h11) (hc24 := h12) (hc30 := h13) (hc36 := h32) (hc53 := h160)
  obtain ⟨n, o, h1, h2, h3, _, L, rfl, ⟨rfl, N, -⟩, hq⟩ := C0 tables_1 p e ha hc hk s m _ below hf ((Spec.applies_iff_loose hf).mp happ).1 ⟨rfl, State.Warmed39.refl s, rfl⟩ trivial
  refine ⟨n, _, h1, h2, h3, hpost _ _ _ _ _ _ ⟨Cond.after_iff.mpr rfl, Cond.after_iff.mpr (eq_i res_at (Term.int_eval (1)) rfl), trivial⟩ ⟨hq.1, hq.2.1, (hq.2.2.sift fun y hy => Or.inr (N y hy)).mono (by decide) (by decide)⟩⟩
theorem main_1_1 : Claimed_1_1 := comes_1 fun _ _ _ _ _ _ h hF => ⟨h.1, hF⟩
theorem main_1_2 : Claimed_1_2 := comes_1 fun _ _ _ _ _ _ h hF => ⟨h.2.1, hF⟩
end Jvm.Pilot.@@N@@
namespace Jvm.Pilot.@@N@@
open Jvm Jvm.ClassFile Sem Op Lib Jvm.Free Jvm.Stand Jvm.Pilot.@@N@@.Jvm.D
/-! MADE BY PROGRAM (witnessworld.py) out of the Statement's table words and the real class files: 12 classes; the members and pool entries that the words name. The judged class is class 1, her method 1. -/
namespace start1
open Jvm.ClassFile
def u (s : String) : CpInfo := .utf8 (stringToUtf16 s)
/-- a pool by its gaps: so many unusable entries, then the entry; so many at the end -/
def gap : Nat → List CpInfo → List CpInfo
  | 0, r => r
  | n + 1, r => .unusable :: gap n r
def poolList (es : List (Nat × CpInfo)) (last : Nat) : List CpInfo := es.foldr (fun e r => gap e.1 (e.2 :: r)) (gap last [])
def pool (es : List (Nat × CpInfo)) (last : Nat) : Array CpInfo := ⟨poolList es last⟩
def fileOf (pool : Array CpInfo) (this : Nat) (attrs : Array Attribute := #[]) (ms : Array MethodInfo := #[]) (fl : Nat := 33) (sup : Nat := 0) (ifs : Array Nat := #[]) (fds : Array FieldInfo := #[]) : ClassFile where
  minorVersion := 0
  majorVersion := 65
  constantPool := pool
  accessFlags := fl
  thisClass := this
  superClass := sup
  interfaces := ifs
  fields := fds
  methods := ms
  attributes := attrs
def plain (name : String) (sup : Option ClassId) : Class where
  name := name
  kind := .ordinary
  loader := none
  accessFlags := 33
  super := sup
  interfaces := #[]
  cf := none
  fields := #[]
  methods := #[]
  instanceTypes := #[]
  staticTypes := #[]
  resolved := #[]
  callSites := []
  init := .initialized
  statics := none
  mirror := none

def pool0 : Array CpInfo := pool [(5, u "<init>"), (0, u "()V"), (1, .class_ 10), (1, u "java/lang/Object")] 113

def k0m0 : Method := { name := "<init>", desc := "()V", sig := { parameters := [], returnType := none }, accessFlags := 1, code := none }
/-- java/lang/Object -/
def k0 : Class := { plain "java/lang/Object" none with
  accessFlags := 33
  interfaces := #[]
  cf := some (fileOf pool0 8 #[] #[{ accessFlags := 1, nameIndex := 5, descriptorIndex := 6, attributes := #[] }] 33 0 #[] #[])
  fields := #[]
  methods := #[k0m0]
  instanceTypes := #[]
  staticTypes := #[]
  resolved := Array.replicate 124 none
  statics := none }

def pool1 : Array CpInfo := pool [(2, .class_ 4), (1, u "java/lang/Object"), (0, u "<init>"), (0, u "()V"), (0, .fieldref 8 9), (0, .class_ 10), (0, .nameAndType 11 12), (0, u "com/example/rowtide/rowtide/binlog/CharacterSet$Spacing"), (0, u "ASCII"), (0, u "Lcom/example/rowtide/rowtide/binlog/CharacterSet$Spacing;"), (0, .methodref 8 14), (0, .nameAndType 15 16), (0, u "space"), (0, u "(C)Z"), (0, .fieldref 8 18), (0, .nameAndType 19 12), (0, u "LATIN1"), (0, .class_ 21), (0, u "com/example/rowtide/rowtide/binlog/SpacingSpacePinLaw"), (2, u "law"), (0, u "(I)Z")] 7

def k1m0 : Method := { name := "<init>", desc := "()V", sig := { parameters := [], returnType := none }, accessFlags := 1, code := none }
def k1c1 : Code := { maxStack := 2, maxLocals := 6, code := code, exceptionTable := #[], attributes := #[] }
def k1m1 : Method := { name := "law", desc := "(I)Z", sig := { parameters := [.int], returnType := some .boolean }, accessFlags := 9, code := some k1c1 }
/-- com/example/rowtide/rowtide/binlog/SpacingSpacePinLaw -/
def k1 : Class := { plain "com/example/rowtide/rowtide/binlog/SpacingSpacePinLaw" (some 0) with
  accessFlags := 49
  interfaces := #[]
  cf := some (fileOf pool1 20 #[] #[{ accessFlags := 1, nameIndex := 5, descriptorIndex := 6, attributes := #[] }, { accessFlags := 9, nameIndex := 24, descriptorIndex := 25, attributes := #[] }] 49 2 #[] #[])
  fields := #[]
  methods := #[k1m0, k1m1]
  instanceTypes := #[]
  staticTypes := #[]
  resolved := Array.replicate 33 none
  statics := none }

def pool2 : Array CpInfo := pool [(1, .class_ 2), (0, u "java/lang/constant/Constable"), (0, .class_ 4), (0, u "java/lang/Object")] 6

/-- java/lang/constant/Constable -/
def k2 : Class := { plain "java/lang/constant/Constable" (some 0) with
  accessFlags := 1537
  interfaces := #[]
  cf := some (fileOf pool2 1 #[] #[] 1537 3 #[] #[])
  fields := #[]
  methods := #[]
  instanceTypes := #[]
  staticTypes := #[]
  resolved := Array.replicate 11 none
  statics := none }

def pool3 : Array CpInfo := pool [(1, .class_ 2), (0, u "java/lang/Comparable"), (0, .class_ 4), (0, u "java/lang/Object")] 7

/-- java/lang/Comparable -/
def k3 : Class := { plain "java/lang/Comparable" (some 0) with
  accessFlags := 1537
  interfaces := #[]
  cf := some (fileOf pool3 1 #[] #[] 1537 3 #[] #[])
  fields := #[]
  methods := #[]
  instanceTypes := #[]
  staticTypes := #[]
  resolved := Array.replicate 12 none
  statics := none }

def pool4 : Array CpInfo := pool [(1, .class_ 2), (0, u "java/io/Serializable"), (0, .class_ 4), (0, u "java/lang/Object")] 2

/-- java/io/Serializable -/
def k4 : Class := { plain "java/io/Serializable" (some 0) with
  accessFlags := 1537
  interfaces := #[]
  cf := some (fileOf pool4 1 #[] #[] 1537 3 #[] #[])
  fields := #[]
  methods := #[]
  instanceTypes := #[]
  staticTypes := #[]
  resolved := Array.replicate 7 none
  statics := none }

def pool5 : Array CpInfo := pool [(2, .class_ 4), (1, u "java/lang/Enum"), (0, u "name"), (0, u "Ljava/lang/String;"), (2, u "ordinal"), (0, u "I"), (1, .class_ 14), (1, u "java/lang/Object"), (4, u "hash"), (86, .class_ 108), (1, u "java/lang/Enum$EnumDesc"), (2, .class_ 112), (0, u "java/lang/constant/Constable"), (0, .class_ 114), (0, u "java/lang/Comparable"), (0, .class_ 116), (0, u "java/io/Serializable")] 87

/-- java/lang/Enum -/
def k5 : Class := { plain "java/lang/Enum" (some 0) with
  accessFlags := 1057
  interfaces := #[2, 3, 4]
  cf := some (fileOf pool5 2 #[.nestMembers #[106]] #[] 1057 12 #[111, 113, 115] #[{ accessFlags := 18, nameIndex := 5, descriptorIndex := 6, attributes := #[] }, { accessFlags := 18, nameIndex := 9, descriptorIndex := 10, attributes := #[] }, { accessFlags := 2, nameIndex := 19, descriptorIndex := 10, attributes := #[] }])
  fields := #[{ name := "name", type := (.object "java/lang/String"), accessFlags := 18, slot := 0, constantValue := 0 }, { name := "ordinal", type := .int, accessFlags := 18, slot := 1, constantValue := 0 }, { name := "hash", type := .int, accessFlags := 2, slot := 2, constantValue := 0 }]
  methods := #[]
  instanceTypes := #[(.object "java/lang/String"), .int, .int]
  staticTypes := #[]
  resolved := Array.replicate 204 none
  statics := none }

def pool6 : Array CpInfo := pool [(1, .class_ 2), (0, u "com/example/rowtide/rowtide/binlog/CharacterSet$Spacing"), (2, u "ASCII"), (0, u "Lcom/example/rowtide/rowtide/binlog/CharacterSet$Spacing;"), (0, .fieldref 1 8), (0, .nameAndType 9 6), (0, u "LATIN1"), (2, u "$VALUES"), (0, u "[Lcom/example/rowtide/rowtide/binlog/CharacterSet$Spacing;"), (6, .class_ 22), (1, u "java/lang/Enum"), (20, u "space"), (0, u "(C)Z"), (7, .class_ 53), (0, u "com/example/rowtide/rowtide/binlog/CharacterSet")] 2

def k6c0 : Code := { maxStack := 2, maxLocals := 2, code := prog_20_method_4_code, exceptionTable := #[], attributes := #[] }
def k6m0 : Method := { name := "space", desc := "(C)Z", sig := { parameters := [.char], returnType := some .boolean }, accessFlags := 1, code := some k6c0 }
/-- com/example/rowtide/rowtide/binlog/CharacterSet$Spacing -/
def k6 : Class := { plain "com/example/rowtide/rowtide/binlog/CharacterSet$Spacing" (some 5) with
  accessFlags := 16433
  interfaces := #[]
  cf := some (fileOf pool6 1 #[.nestHost 52] #[{ accessFlags := 1, nameIndex := 43, descriptorIndex := 44, attributes := #[] }] 16433 20 #[] #[{ accessFlags := 16409, nameIndex := 5, descriptorIndex := 6, attributes := #[] }, { accessFlags := 16409, nameIndex := 9, descriptorIndex := 6, attributes := #[] }, { accessFlags := 4122, nameIndex := 12, descriptorIndex := 13, attributes := #[] }])
  fields := #[{ name := "ASCII", type := (.object "com/example/rowtide/rowtide/binlog/CharacterSet$Spacing"), accessFlags := 16409, slot := 0, constantValue := 0 }, { name := "LATIN1", type := (.object "com/example/rowtide/rowtide/binlog/CharacterSet$Spacing"), accessFlags := 16409, slot := 1, constantValue := 0 }, { name := "$VALUES", type := (.array (.object "com/example/rowtide/rowtide/binlog/CharacterSet$Spacing")), accessFlags := 4122, slot := 2, constantValue := 0 }]
  methods := #[k6m0]
  instanceTypes := #[(.object "java/lang/String"), .int, .int]
  staticTypes := #[(.object "com/example/rowtide/rowtide/binlog/CharacterSet$Spacing"), (.object "com/example/rowtide/rowtide/binlog/CharacterSet$Spacing"), (.array (.object "com/example/rowtide/rowtide/binlog/CharacterSet$Spacing"))]
  resolved := Array.replicate 56 none
  statics := some 0 }

def pool7 : Array CpInfo := pool [(1, u "java/lang/Cloneable"), (0, .class_ 1), (0, u "java/lang/Object"), (0, .class_ 3)] 3

/-- java/lang/Cloneable -/
def k7 : Class := { plain "java/lang/Cloneable" (some 0) with
  accessFlags := 1537
  interfaces := #[]
  cf := some (fileOf pool7 2 #[] #[] 1537 4 #[] #[])
  fields := #[]
  methods := #[]
  instanceTypes := #[]
  staticTypes := #[]
  resolved := Array.replicate 8 none
  statics := none }

/-- the primitive byte -/
def k8 : Class := { plain "byte" none with kind := .primitive 'B', accessFlags := 0x411 }
/-- [B -/
def k9 : Class := { plain "[B" (some 0) with kind := .array 8 .byte, interfaces := #[7, 4], accessFlags := 1041 }

/-- the primitive int -/
def k10 : Class := { plain "int" none with kind := .primitive 'I', accessFlags := 0x411 }
/-- [I -/
def k11 : Class := { plain "[I" (some 0) with kind := .array 10 .int, interfaces := #[7, 4], accessFlags := 1041 }

def heap : Heap := #[{ cls := 6, slots := #[.ref 1, .ref 2, .null], vm := .statics 6 },
  { cls := 6, slots := #[.null, .int 0, .int 0], vm := .none },
  { cls := 6, slots := #[.null, .int 1, .int 0], vm := .none }]
def classes : Array Class := #[k0, k1, k2, k3, k4, k5, k6, k7, k8, k9, k10, k11]
def interned : List (Array UInt16 × Addr) := []
def slotsUsed : Nat := 9
def theMethod : MethodId := ⟨1, 1⟩
def args0 : Array Value := #[.int 65]
def aboutOver (below : List Frame) : State where
  vm := { classes := classes, interned := interned.toArray }
  heap := heap
  slotsUsed := slotsUsed
  threads := #[{ frames := .invoking theMethod args0 :: below }]
def below0 : List Frame := [.native { method := ⟨0, 0⟩, args := #[] }]
def about1 : State := aboutOver below0
def p0 : Program := .bare "" "" ""
def e0 : Env := launch0.env 0 0 0
theorem w_frames : about1.frames = Frame.invoking theMethod args0 :: below0 := rfl
set_option maxRecDepth 65536 in
theorem w_args : argsFit about1.vm theMethod args0 = true := by decide +kernel
set_option maxRecDepth 65536 in
theorem w_heap : heapFits about1 = true := by decide +kernel
set_option maxRecDepth 65536 in
theorem w_runnable : about1.curStatus? = some .runnable := by decide +kernel
set_option maxRecDepth 65536 in
theorem w_alone : about1.alone = true := by decide +kernel
set_option maxRecDepth 65536 in
theorem w_named : about1.methodNamed? x = some theMethod := by decide +kernel
set_option maxRecDepth 65536 in
theorem w_hears : about1.hears theMethod below0 = true := by decide +kernel
set_option maxRecDepth 65536 in
theorem w_ripe : about1.ripe theMethod args0 below0 = true := by decide +kernel
theorem w_running : about1.status = .running := rfl
set_option maxRecDepth 65536 in
theorem w_room : about1.hasRoom e0.platform room_1 = true :=
  launch0.hasRoom_least _ room_1 (by decide +kernel) (by decide +kernel) (by decide +kernel) (by decide +kernel) (by decide +kernel) (by decide +kernel)
theorem allAtoms_all (ts : List Jvm.Cond) (a : Array Jvm.Value) (st : Jvm.State) : (allAtoms ts).before a st = ts.all (fun c => c.before a st) := by
  induction ts with
  | nil => rfl
  | cons c t ih =>
    show (Jvm.Cond.and c (allAtoms t)).before a st = _
    rw [Jvm.Cond.before_and, ih, List.all_cons]
def words1 : List Jvm.Cond := Jvm.Cond.code x code maxLocals ret :: tables_1
/-- a 'code' word, met by the world's own term for the bytes: nothing is compared byte by byte -/
theorem code_word {y : MethodName} {bytes : ByteArray} {mx : Nat} {rt : Option FieldType} {a : Array Value} {s : State} {m : MethodId} {meth : Method} {c : Code} (h1 : s.methodNamed? y = some m) (h2 : s.vm.method? m = some meth) (h3 : meth.code = some c) (h4 : c.code = bytes)
    (h5 : (c.maxLocals == mx && c.exceptionTable.isEmpty && decide (c.maxStack ≤ mostOperands) && decide (meth.sig.returnType = rt) && !meth.locks && decide (parseMethodDescriptor y.desc = some meth.sig)) = true) : (Jvm.Cond.code y bytes mx rt).before a s = true := by
  simp only [Bool.and_eq_true, beq_iff_eq, Bool.not_eq_true', decide_eq_true_eq] at h5
  obtain ⟨⟨⟨⟨⟨g1, g2⟩, g3⟩, g4⟩, g5⟩, g6⟩ := h5
  simp [Cond.before, Cond.holds, Cond.value, h1, h2, h3, h4, g1, g2, g3, g4, g5, g6]
def isCode : Jvm.Cond → Bool
  | .code _ _ _ _ => true
  | _ => false
theorem all_split {L : List Jvm.Cond} {P : Jvm.Cond → Bool} (h1 : L.all (fun c => isCode c || P c) = true) (h2 : ∀ c ∈ L.filter isCode, P c = true) : L.all P = true := by
  refine List.all_eq_true.mpr fun c hc => ?_
  have h := List.all_eq_true.mp h1 c hc
  rcases Bool.eq_false_or_eq_true (isCode c) with hi | hi
  · exact h2 c (List.mem_filter.mpr ⟨hc, hi⟩)
  · simpa [hi] using h
set_option maxRecDepth 65536 in
theorem w_c0 : (Jvm.Cond.code x code maxLocals ret).before args0 about1 = true := code_word (m := ⟨1, 1⟩) (meth := k1m1) (c := k1c1) (by decide +kernel) rfl rfl rfl (by decide +kernel)
set_option maxRecDepth 65536 in
theorem w_c1 : (Jvm.Cond.code ({ cls := "com/example/rowtide/rowtide/binlog/CharacterSet$Spacing", name := "space", desc := "(C)Z" } : Jvm.MethodName) prog_20_method_4_code (2 : Nat) (Option.some Jvm.ClassFile.FieldType.boolean)).before args0 about1 = true := code_word (m := ⟨6, 0⟩) (meth := k6m0) (c := k6c0) (by decide +kernel) rfl rfl rfl (by decide +kernel)
def codes1 : List Jvm.Cond := [Jvm.Cond.code x code maxLocals ret, Jvm.Cond.code ({ cls := "com/example/rowtide/rowtide/binlog/CharacterSet$Spacing", name := "space", desc := "(C)Z" } : Jvm.MethodName) prog_20_method_4_code (2 : Nat) (Option.some Jvm.ClassFile.FieldType.boolean)]
set_option maxRecDepth 65536 in
theorem codes_eq : words1.filter isCode = codes1 := rfl
theorem w_codes : ∀ c ∈ words1.filter isCode, c.before args0 about1 = true := by
  rw [codes_eq]
  intro c hc
  simp only [codes1, List.mem_cons, List.not_mem_nil, or_false] at hc
  rcases hc with rfl | rfl
  · exact w_c0
  · exact w_c1
set_option maxRecDepth 65536 in
theorem w_t1 : words1.all (fun c => isCode c || c.before args0 about1) = true := by decide +kernel
theorem w_tables : (allAtoms (Jvm.Cond.code x code maxLocals ret :: tables_1)).before args0 about1 = true := by
  rw [allAtoms_all]
  show words1.all (fun c => c.before args0 about1) = true
  refine all_split ?_ w_codes
  rw [w_t1]
set_option maxRecDepth 65536 in
theorem w_case : (Jvm.Cond.and given_1 narrow_1).before args0 about1 = true := by decide +kernel
theorem w_applies : (headSpec (Jvm.Cond.code x code maxLocals ret :: tables_1) room_1).applies x e0.platform about1 = true :=
  (Spec.applies_iff w_frames).mpr ⟨w_running, w_runnable, w_alone, w_named, w_hears, w_ripe, w_room, w_tables⟩
theorem atStart : AtStart classFile x code maxLocals ret World_1 tables_1 room_1 Calls_1 rest_1 Pre_1 launch0 p0 e0 about1 theMethod args0 below0 :=
  ⟨lists_1, trivial, launch0.admits_env _ _ _, launch0.least_env, fairChoices_fair.cas, fairChoices_fair.clock, w_frames, w_args, w_heap, w_applies, trivial, trivial, w_case⟩
end start1
theorem witness_1 : WitnessClaimed_1 := ⟨start1.p0, start1.e0, start1.about1, start1.theMethod, start1.args0, start1.below0, start1.atStart⟩
end Jvm.Pilot.@@N@@
