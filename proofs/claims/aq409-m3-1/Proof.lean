import JvmDerived
import JvmDerived.Pilot.@@N@@Statement
import JvmDerived.Pilot.@@N@@Code
set_option linter.unusedVariables false
set_option linter.unusedSimpArgs false
@@BLOCK:NumsL.lean.txt@@
namespace Jvm.Pilot.@@N@@
open Jvm Jvm.ClassFile Sem Op Lib Jvm.Free Jvm.Stand Jvm.LawKit Jvm.RoadKit Bundle Jvm.Pilot.@@N@@.Jvm.D
def QR (r : Value) (h0 : Heap) (n0 : Nat) (v : Option Value) (h : Heap) (L : List Loc) : Prop := v = some r ∧ Fr n0 L ∧ h = h0
def RO (l : Launch) (Z : State) (y : MethodName) (bytes : ByteArray) (ml : Nat) (rt : Option FieldType) (R : Room) (as : Array Value) (h0 : Heap) (n0 : Nat) (r : Value) : Prop :=
  ∀ ws : List Jvm.Cond, MetFree l y (head1 (Jvm.Cond.code y bytes ml rt :: ws) R) (fun a U => a = as ∧ Z.Warmed39 U.vm ∧ U.heap = h0) (fun _ _ _ _ _ => True) (fun _ U o U' => ∃ v L, o = .returned v ∧ QR r h0 n0 v U'.heap L ∧ FrameEnd U o U' L R.cells R.slots)
def QW (r : Value) (n0 : Nat) (v : Option Value) (h : Heap) (L : List Loc) : Prop := v = some r ∧ Fr n0 L
def WO (l : Launch) (Z : State) (y : MethodName) (bytes : ByteArray) (ml : Nat) (rt : Option FieldType) (R : Room) (as : Array Value) (h0 : Heap) (n0 : Nat) (r : Value) : Prop :=
  ∀ ws : List Jvm.Cond, MetFree l y (head1 (Jvm.Cond.code y bytes ml rt :: ws) R) (fun a U => a = as ∧ Z.Warmed39 U.vm ∧ U.heap = h0) (fun _ _ _ _ _ => True) (fun _ U o U' => ∃ v L, o = .returned v ∧ QW r n0 v U'.heap L ∧ FrameEnd U o U' L R.cells R.slots)
theorem own_eq_int {t : Term} {n : Int32} {args : Array Value} {Z : State} (h : (Jvm.Cond.eq t (.int n)).value args Z none Z [] = some true) : t.eval args Z none [] Z = some (.int n) := by
  have hn : (Term.int n).eval args Z none [] Z = some (.int n) := rfl
  simp only [Cond.value, hn] at h
  cases ht : t.eval args Z none [] Z with
  | none => simp [ht] at h
  | some x => cases x <;> simp [ht] at h ⊢; exact h
theorem own_eq_ref {t u : Term} {a : Addr} {args : Array Value} {Z : State} (h : (Jvm.Cond.eq t u).value args Z none Z [] = some true) (hu : u.eval args Z none [] Z = some (.ref a)) : t.eval args Z none [] Z = some (.ref a) := by
  simp only [Cond.value, hu] at h
  cases ht : t.eval args Z none [] Z with
  | none => simp [ht] at h
  | some x => cases x <;> simp [ht] at h ⊢; exact h
theorem own_ne {Z : State} {a b : Addr} {C n d : String} {u v : Value} (h1 : Z.fieldOf? a C n d = some u) (h2 : Z.fieldOf? b C n d = some v) (h : u ≠ v) : ¬ (a = b) := fun e => by
  subst e; rw [h1] at h2; exact h (Option.some.inj h2)
theorem own_sel (k n : Int32) (hn : 0 < n.toInt) : 0 ≤ ((k &&& (2147483647 : Int32)) % n).toInt ∧ ((k &&& (2147483647 : Int32)) % n).toInt < n.toInt := by
  have e1 : (k &&& (2147483647 : Int32)).toInt = k.toInt % 2 ^ 31 := Jvm.Kit.i32_mask k 2147483647 (k := 31) (by decide) (by decide)
  have e0 : 0 ≤ (k &&& (2147483647 : Int32)).toInt := by rw [e1]; omega
  have e2 := Jvm.Kit.i32_rem_nonneg (x := (k &&& (2147483647 : Int32))) (y := n) e0
  rw [e2]
  exact ⟨Int.emod_nonneg _ (by omega), Int.emod_lt_of_pos _ hn⟩
theorem own_sel20 (k : Int32) : (k &&& (2147483647 : Int32)) % (20 : Int32) = 0 ∨ (k &&& (2147483647 : Int32)) % (20 : Int32) = 1 ∨ (k &&& (2147483647 : Int32)) % (20 : Int32) = 2 ∨ (k &&& (2147483647 : Int32)) % (20 : Int32) = 3 ∨ (k &&& (2147483647 : Int32)) % (20 : Int32) = 4 ∨ (k &&& (2147483647 : Int32)) % (20 : Int32) = 5 ∨ (k &&& (2147483647 : Int32)) % (20 : Int32) = 6 ∨ (k &&& (2147483647 : Int32)) % (20 : Int32) = 7 ∨ (k &&& (2147483647 : Int32)) % (20 : Int32) = 8 ∨ (k &&& (2147483647 : Int32)) % (20 : Int32) = 9 ∨ (k &&& (2147483647 : Int32)) % (20 : Int32) = 10 ∨ (k &&& (2147483647 : Int32)) % (20 : Int32) = 11 ∨ (k &&& (2147483647 : Int32)) % (20 : Int32) = 12 ∨ (k &&& (2147483647 : Int32)) % (20 : Int32) = 13 ∨ (k &&& (2147483647 : Int32)) % (20 : Int32) = 14 ∨ (k &&& (2147483647 : Int32)) % (20 : Int32) = 15 ∨ (k &&& (2147483647 : Int32)) % (20 : Int32) = 16 ∨ (k &&& (2147483647 : Int32)) % (20 : Int32) = 17 ∨ (k &&& (2147483647 : Int32)) % (20 : Int32) = 18 ∨ (k &&& (2147483647 : Int32)) % (20 : Int32) = 19 := by
  have h := own_sel k 20 (by decide)
  generalize (k &&& (2147483647 : Int32)) % (20 : Int32) = z at *
  have h3 : (20 : Int32).toInt = 20 := rfl
  rw [h3] at h
  have q : z.toInt = 0 ∨ z.toInt = 1 ∨ z.toInt = 2 ∨ z.toInt = 3 ∨ z.toInt = 4 ∨ z.toInt = 5 ∨ z.toInt = 6 ∨ z.toInt = 7 ∨ z.toInt = 8 ∨ z.toInt = 9 ∨ z.toInt = 10 ∨ z.toInt = 11 ∨ z.toInt = 12 ∨ z.toInt = 13 ∨ z.toInt = 14 ∨ z.toInt = 15 ∨ z.toInt = 16 ∨ z.toInt = 17 ∨ z.toInt = 18 ∨ z.toInt = 19 := by omega
  rcases q with q | q | q | q | q | q | q | q | q | q | q | q | q | q | q | q | q | q | q | q
  · exact Or.inl (Int32.toInt_inj.mp q)
  · exact Or.inr (Or.inl (Int32.toInt_inj.mp q))
  · exact Or.inr (Or.inr (Or.inl (Int32.toInt_inj.mp q)))
  · exact Or.inr (Or.inr (Or.inr (Or.inl (Int32.toInt_inj.mp q))))
  · exact Or.inr (Or.inr (Or.inr (Or.inr (Or.inl (Int32.toInt_inj.mp q)))))
  · exact Or.inr (Or.inr (Or.inr (Or.inr (Or.inr (Or.inl (Int32.toInt_inj.mp q))))))
  · exact Or.inr (Or.inr (Or.inr (Or.inr (Or.inr (Or.inr (Or.inl (Int32.toInt_inj.mp q)))))))
  · exact Or.inr (Or.inr (Or.inr (Or.inr (Or.inr (Or.inr (Or.inr (Or.inl (Int32.toInt_inj.mp q))))))))
  · exact Or.inr (Or.inr (Or.inr (Or.inr (Or.inr (Or.inr (Or.inr (Or.inr (Or.inl (Int32.toInt_inj.mp q)))))))))
  · exact Or.inr (Or.inr (Or.inr (Or.inr (Or.inr (Or.inr (Or.inr (Or.inr (Or.inr (Or.inl (Int32.toInt_inj.mp q))))))))))
  · exact Or.inr (Or.inr (Or.inr (Or.inr (Or.inr (Or.inr (Or.inr (Or.inr (Or.inr (Or.inr (Or.inl (Int32.toInt_inj.mp q)))))))))))
  · exact Or.inr (Or.inr (Or.inr (Or.inr (Or.inr (Or.inr (Or.inr (Or.inr (Or.inr (Or.inr (Or.inr (Or.inl (Int32.toInt_inj.mp q))))))))))))
  · exact Or.inr (Or.inr (Or.inr (Or.inr (Or.inr (Or.inr (Or.inr (Or.inr (Or.inr (Or.inr (Or.inr (Or.inr (Or.inl (Int32.toInt_inj.mp q)))))))))))))
  · exact Or.inr (Or.inr (Or.inr (Or.inr (Or.inr (Or.inr (Or.inr (Or.inr (Or.inr (Or.inr (Or.inr (Or.inr (Or.inr (Or.inl (Int32.toInt_inj.mp q))))))))))))))
  · exact Or.inr (Or.inr (Or.inr (Or.inr (Or.inr (Or.inr (Or.inr (Or.inr (Or.inr (Or.inr (Or.inr (Or.inr (Or.inr (Or.inr (Or.inl (Int32.toInt_inj.mp q)))))))))))))))
  · exact Or.inr (Or.inr (Or.inr (Or.inr (Or.inr (Or.inr (Or.inr (Or.inr (Or.inr (Or.inr (Or.inr (Or.inr (Or.inr (Or.inr (Or.inr (Or.inl (Int32.toInt_inj.mp q))))))))))))))))
  · exact Or.inr (Or.inr (Or.inr (Or.inr (Or.inr (Or.inr (Or.inr (Or.inr (Or.inr (Or.inr (Or.inr (Or.inr (Or.inr (Or.inr (Or.inr (Or.inr (Or.inl (Int32.toInt_inj.mp q)))))))))))))))))
  · exact Or.inr (Or.inr (Or.inr (Or.inr (Or.inr (Or.inr (Or.inr (Or.inr (Or.inr (Or.inr (Or.inr (Or.inr (Or.inr (Or.inr (Or.inr (Or.inr (Or.inr (Or.inl (Int32.toInt_inj.mp q))))))))))))))))))
  · exact Or.inr (Or.inr (Or.inr (Or.inr (Or.inr (Or.inr (Or.inr (Or.inr (Or.inr (Or.inr (Or.inr (Or.inr (Or.inr (Or.inr (Or.inr (Or.inr (Or.inr (Or.inr (Or.inl (Int32.toInt_inj.mp q)))))))))))))))))))
  · exact Or.inr (Or.inr (Or.inr (Or.inr (Or.inr (Or.inr (Or.inr (Or.inr (Or.inr (Or.inr (Or.inr (Or.inr (Or.inr (Or.inr (Or.inr (Or.inr (Or.inr (Or.inr (Or.inr (Int32.toInt_inj.mp q)))))))))))))))))))
theorem own_sta_keep {Z : State} {h h' : Heap} {C n d : String} {v : Value} (F : Sta Z h C n d v) (K : Keep h h' []) : Sta Z h' C n d v := by
  obtain ⟨cf, i, k, f, st, cell, h1, h2, h3, h4, h5, h6, h7⟩ := F
  exact ⟨cf, i, k, f, st, cell, h1, h2, h3, h4, K.2.1 st cell h5 nin0, h6, h7⟩
theorem own_chunkR {p : Program} {l : Launch} {e : Env} {R : Room} {s : State} {m : MethodId} {args : Array Value} {below : List Frame} {meth : Method} {c : Code} {T : State} {locs : List Loc} {cells slots : Nat} {Z : State} {a0 : Array Value} {h : Heap}
    (X : Stand p l e R s m args below meth c T locs cells slots) (hx : p.tables.exec = Jvm.exec) (hZ : Z.Warmed39 s.vm) {own C D f : String} {index : Nat} (hown : s.vm.findClass own = some m.cls) (lk : (Jvm.Cond.fieldLink own index C f D).before a0 Z = true) (eT : T.heap = h)
    {b w : Addr} {kA : ClassId} {vs : List Value} (V : Arv Z h b kA (.object C) 20 vs .null) (O : Ovr Z kA C) (S : Sta Z h C f D (.ref w)) (E : Exa Z h w C) {j : Int32} {i : Nat} (hj : ¬ j < 0 ∧ j < (20 : Int32)) (hji : j.toNatClampNeg = i) (hi : i < vs.length)
    {pc1 pc3 : Nat} {Ls : Array Slot} (d1 : decode c.code pc1 = .ok (.dup, 1)) (push : ∀ (stk : List Value) (t : State), Steps p.tables e below (T.setTop (mkF m pc3 Ls (.int j :: stk))) t → Steps p.tables e below (T.setTop (mkF m (pc1 + 1) Ls stk)) t)
    (d3 : decode c.code pc3 = .ok (.getstatic index, 3)) (d4 : decode c.code (pc3 + 3) = .ok (.aastore, 1)) :
    ∃ T' h', Stand p l e R s m args below meth c T' (locs ++ [⟨b, j.toNatClampNeg⟩]) cells slots ∧ T'.heap = h' ∧ Wr h h' b j.toNatClampNeg (.ref w) ∧ Arv Z h' b kA (.object C) 20 (vs.set i (.ref w)) .null ∧ ∀ t, Steps p.tables e below (T'.setTop (mkF m (pc3 + 4) Ls [.ref b])) t → Steps p.tables e below (T.setTop (mkF m pc1 Ls [.ref b])) t := by
  obtain ⟨T1, X1, e1, st1⟩ := getS2 X hx hZ hown (host := "") (Or.inl lk) Via.refl eT S (g := (mkF m pc3 Ls [.int j, .ref b, .ref b])) rfl d3
  obtain ⟨cl, Ar, q, S', N', H, G⟩ := V
  have hin := inb_of S' hj
  obtain ⟨T2, h2, X2, e2, W2, st2⟩ := stR X1 hx hZ e1 Ar (j := j) hin rfl (Sto.ofV Ar q O (Ins.self E)) (g := (mkF m (pc3 + 3) Ls [.ref w, .int j, .ref b, .ref b])) rfl rfl d4
  refine ⟨T2, h2, X2, e2, W2, Arv.set Ar q S' N' H G rfl W2 i hji hi, fun t k => ?_⟩
  refine XS.dup X.here hx rfl d1 rfl rfl ?_
  exact push _ _ (st1 _ (st2 _ k))
theorem own_chunkI {p : Program} {l : Launch} {e : Env} {R : Room} {s : State} {m : MethodId} {args : Array Value} {below : List Frame} {meth : Method} {c : Code} {T : State} {locs : List Loc} {cells slots : Nat} {Z : State} {h : Heap}
    (X : Stand p l e R s m args below meth c T locs cells slots) (hx : p.tables.exec = Jvm.exec) (hZ : Z.Warmed39 s.vm) (eT : T.heap = h)
    {b : Addr} {kA : ClassId} {vs : List Value} (V : Arv Z h b kA .int 20 vs (.int (0 : Int32))) {j x : Int32} {i : Nat} (hj : ¬ j < 0 ∧ j < (20 : Int32)) (hji : j.toNatClampNeg = i) (hi : i < vs.length)
    {pc1 pc3 pc4 : Nat} {Ls : Array Slot} (d1 : decode c.code pc1 = .ok (.dup, 1)) (push1 : ∀ (stk : List Value) (t : State), Steps p.tables e below (T.setTop (mkF m pc3 Ls (.int j :: stk))) t → Steps p.tables e below (T.setTop (mkF m (pc1 + 1) Ls stk)) t)
    (push2 : ∀ (stk : List Value) (t : State), Steps p.tables e below (T.setTop (mkF m pc4 Ls (.int x :: stk))) t → Steps p.tables e below (T.setTop (mkF m pc3 Ls stk)) t) (d4 : decode c.code pc4 = .ok (.iastore, 1)) :
    ∃ T' h', Stand p l e R s m args below meth c T' (locs ++ [⟨b, j.toNatClampNeg⟩]) cells slots ∧ T'.heap = h' ∧ Wr h h' b j.toNatClampNeg (.int x) ∧ Arv Z h' b kA .int 20 (vs.set i (.int x)) (.int (0 : Int32)) ∧ ∀ t, Steps p.tables e below (T'.setTop (mkF m (pc4 + 1) Ls [.ref b])) t → Steps p.tables e below (T.setTop (mkF m pc1 Ls [.ref b])) t := by
  obtain ⟨cl, Ar, q, S', N', H, G⟩ := V
  have hin := inb_of S' hj
  obtain ⟨T2, h2, X2, e2, W2, st2⟩ := stI X hx hZ eT Ar (j := j) (x := x) hin (g := (mkF m pc4 Ls [.int x, .int j, .ref b, .ref b])) rfl rfl d4
  refine ⟨T2, h2, X2, e2, W2, Arv.set Ar q S' N' H G rfl W2 i hji hi, fun t k => ?_⟩
  refine XS.dup X.here hx rfl d1 rfl rfl ?_
  exact push1 _ _ (push2 _ _ (st2 _ k))
def own_nm : Nat → String
  | 0 => "PRODUCE"
  | 1 => "FETCH"
  | 2 => "LIST_OFFSETS"
  | 3 => "METADATA"
  | 4 => "OFFSET_COMMIT"
  | 5 => "OFFSET_FETCH"
  | 6 => "FIND_COORDINATOR"
  | 7 => "JOIN_GROUP"
  | 8 => "HEARTBEAT"
  | 9 => "LEAVE_GROUP"
  | 10 => "SYNC_GROUP"
  | 11 => "API_VERSIONS"
  | 12 => "CREATE_TOPICS"
  | 13 => "DELETE_TOPICS"
  | 14 => "INIT_PRODUCER_ID"
  | 15 => "ADD_PARTITIONS_TO_TXN"
  | 16 => "ADD_OFFSETS_TO_TXN"
  | 17 => "END_TXN"
  | 18 => "TXN_OFFSET_COMMIT"
  | 19 => "DESCRIBE_CONFIGS"
  | _ => ""
def Good (Z : State) (h : Heap) (w : Nat → Addr) : Prop := ∀ i, i < 20 → Sta Z h "com/example/onceward/onceward/protocol/ApiKey" (own_nm i) "Lcom/example/onceward/onceward/protocol/ApiKey;" (.ref (w i)) ∧ Exa Z h (w i) "com/example/onceward/onceward/protocol/ApiKey"
set_option maxRecDepth 65536 in
set_option maxHeartbeats 40000000 in
theorem fillA {p : Program} {l : Launch} {e : Env} {s : State} {m : MethodId} {args : Array Value} {below : List Frame} {meth : Method} {c : Code} {T0 : State} {locs : List Loc} {cells slots : Nat} {Z : State} {a0 : Array Value} {h0 : Heap} (X0 : Stand p l e room_1 s m args below meth c T0 locs cells slots) (hx : p.tables.exec = Jvm.exec) (hZ : Z.Warmed39 s.vm) (hw : ∀ d ∈ tables_1, d.before a0 Z = true) (hby : c.code = code) (hown : s.vm.findClass "com/example/onceward/onceward/protocol/ApiKeyServesPinLaw" = some m.cls) (e0 : T0.heap = h0) (n0 : Nat) (Z0 : n0 ≤ h0.size) (N0 : Fr n0 locs) (w : Nat → Addr) (G : Good Z h0 w) (hc : cells + 1 ≤ room_1.cells) (hl : slots + 20 ≤ room_1.slots) {Ls : Array Slot} :
    ∃ (T' : State) (h' : Heap) (locs' : List Loc) (b : Addr) (kA : ClassId), Stand p l e room_1 s m args below meth c T' locs' (cells + 1) (slots + 20) ∧ T'.heap = h' ∧ Keep h0 h' [] ∧ Fr n0 locs' ∧ Arv Z h' b kA (.object "com/example/onceward/onceward/protocol/ApiKey") 20 [(.ref (w 0)), (.ref (w 1)), (.ref (w 2)), (.ref (w 3)), (.ref (w 4)), (.ref (w 5)), (.ref (w 6)), (.ref (w 7)), (.ref (w 8)), (.ref (w 9)), (.ref (w 10)), (.ref (w 11)), (.ref (w 12)), (.ref (w 13)), (.ref (w 14)), (.ref (w 15)), (.ref (w 16)), (.ref (w 17)), (.ref (w 18)), (.ref (w 19))] .null ∧ ∀ t, Steps p.tables e below (T'.setTop (mkF m 139 Ls [.ref b])) t → Steps p.tables e below (T0.setTop (mkF m 0 Ls [])) t := by
  obtain ⟨T1, h1, k1, X1, e1, E1, A1, O1, st1⟩ := newR X0 hx hZ hown (hw _ (List.mem_of_getElem? (i := 0) rfl)) (hw _ (List.mem_of_getElem? (i := 1) rfl)) e0 (g := (mkF m 2 Ls [.int (20 : Int32)])) rfl (hb hby at_2) rfl (by decide) (cap := 20) (by decide) (by decide) hc hl
  obtain ⟨b, gb⟩ : ∃ z, z = h0.size := ⟨_, rfl⟩
  rw [← gb] at A1 st1
  have g_b : n0 ≤ b := Nat.le_trans Z0 (Nat.le_of_eq gb.symm)
  have sz_b : h0.size ≤ b := Nat.le_of_eq gb.symm
  have V1 : Arv Z h1 b k1 (.object "com/example/onceward/onceward/protocol/ApiKey") 20 [.null, .null, .null, .null, .null, .null, .null, .null, .null, .null, .null, .null, .null, .null, .null, .null, .null, .null, .null, .null] .null := (Arv.new A1 (by decide)).pad (pad_rep [] .null 20)
  have K1 : Keep h0 h1 [] := (Keep.refl h0 []).ext E1
  obtain ⟨T2, h2, X2, e2, W2, V2, st2⟩ := own_chunkR X1 hx hZ hown (C := "com/example/onceward/onceward/protocol/ApiKey") (D := "Lcom/example/onceward/onceward/protocol/ApiKey;") (f := "PRODUCE") (hw _ (List.mem_of_getElem? (i := 2) rfl)) e1 V1 O1 (own_sta_keep (G 0 (by decide)).1 K1) ((G 0 (by decide)).2.keep K1) (j := (0 : Int32)) (i := 0) (by decide) rfl (Nat.le_of_ble_eq_true rfl) (pc1 := 5) (pc3 := 7) (Ls := Ls) (hb hby at_5) (fun stk t k => XS.iconst X1.here hx rfl (hb hby at_6) k) (hb hby at_7) (hb hby at_10)
  replace V2 : Arv Z h2 b k1 (.object "com/example/onceward/onceward/protocol/ApiKey") 20 [(.ref (w 0)), .null, .null, .null, .null, .null, .null, .null, .null, .null, .null, .null, .null, .null, .null, .null, .null, .null, .null, .null] .null := V2
  have K2 : Keep h0 h2 [] := K1.wr W2 (Or.inr sz_b)
  have N2 := Fr.snoc X2 N0 g_b
  obtain ⟨T3, h3, X3, e3, W3, V3, st3⟩ := own_chunkR X2 hx hZ hown (C := "com/example/onceward/onceward/protocol/ApiKey") (D := "Lcom/example/onceward/onceward/protocol/ApiKey;") (f := "FETCH") (hw _ (List.mem_of_getElem? (i := 6) rfl)) e2 V2 O1 (own_sta_keep (G 1 (by decide)).1 K2) ((G 1 (by decide)).2.keep K2) (j := (1 : Int32)) (i := 1) (by decide) rfl (Nat.le_of_ble_eq_true rfl) (pc1 := 11) (pc3 := 13) (Ls := Ls) (hb hby at_11) (fun stk t k => XS.iconst X2.here hx rfl (hb hby at_12) k) (hb hby at_13) (hb hby at_16)
  replace V3 : Arv Z h3 b k1 (.object "com/example/onceward/onceward/protocol/ApiKey") 20 [(.ref (w 0)), (.ref (w 1)), .null, .null, .null, .null, .null, .null, .null, .null, .null, .null, .null, .null, .null, .null, .null, .null, .null, .null] .null := V3
  have K3 : Keep h0 h3 [] := K2.wr W3 (Or.inr sz_b)
  have N3 := Fr.snoc X3 N2 g_b
  obtain ⟨T4, h4, X4, e4, W4, V4, st4⟩ := own_chunkR X3 hx hZ hown (C := "com/example/onceward/onceward/protocol/ApiKey") (D := "Lcom/example/onceward/onceward/protocol/ApiKey;") (f := "LIST_OFFSETS") (hw _ (List.mem_of_getElem? (i := 8) rfl)) e3 V3 O1 (own_sta_keep (G 2 (by decide)).1 K3) ((G 2 (by decide)).2.keep K3) (j := (2 : Int32)) (i := 2) (by decide) rfl (Nat.le_of_ble_eq_true rfl) (pc1 := 17) (pc3 := 19) (Ls := Ls) (hb hby at_17) (fun stk t k => XS.iconst X3.here hx rfl (hb hby at_18) k) (hb hby at_19) (hb hby at_22)
  replace V4 : Arv Z h4 b k1 (.object "com/example/onceward/onceward/protocol/ApiKey") 20 [(.ref (w 0)), (.ref (w 1)), (.ref (w 2)), .null, .null, .null, .null, .null, .null, .null, .null, .null, .null, .null, .null, .null, .null, .null, .null, .null] .null := V4
  have K4 : Keep h0 h4 [] := K3.wr W4 (Or.inr sz_b)
  have N4 := Fr.snoc X4 N3 g_b
  obtain ⟨T5, h5, X5, e5, W5, V5, st5⟩ := own_chunkR X4 hx hZ hown (C := "com/example/onceward/onceward/protocol/ApiKey") (D := "Lcom/example/onceward/onceward/protocol/ApiKey;") (f := "METADATA") (hw _ (List.mem_of_getElem? (i := 10) rfl)) e4 V4 O1 (own_sta_keep (G 3 (by decide)).1 K4) ((G 3 (by decide)).2.keep K4) (j := (3 : Int32)) (i := 3) (by decide) rfl (Nat.le_of_ble_eq_true rfl) (pc1 := 23) (pc3 := 25) (Ls := Ls) (hb hby at_23) (fun stk t k => XS.iconst X4.here hx rfl (hb hby at_24) k) (hb hby at_25) (hb hby at_28)
  replace V5 : Arv Z h5 b k1 (.object "com/example/onceward/onceward/protocol/ApiKey") 20 [(.ref (w 0)), (.ref (w 1)), (.ref (w 2)), (.ref (w 3)), .null, .null, .null, .null, .null, .null, .null, .null, .null, .null, .null, .null, .null, .null, .null, .null] .null := V5
  have K5 : Keep h0 h5 [] := K4.wr W5 (Or.inr sz_b)
  have N5 := Fr.snoc X5 N4 g_b
  obtain ⟨T6, h6, X6, e6, W6, V6, st6⟩ := own_chunkR X5 hx hZ hown (C := "com/example/onceward/onceward/protocol/ApiKey") (D := "Lcom/example/onceward/onceward/protocol/ApiKey;") (f := "OFFSET_COMMIT") (hw _ (List.mem_of_getElem? (i := 12) rfl)) e5 V5 O1 (own_sta_keep (G 4 (by decide)).1 K5) ((G 4 (by decide)).2.keep K5) (j := (4 : Int32)) (i := 4) (by decide) rfl (Nat.le_of_ble_eq_true rfl) (pc1 := 29) (pc3 := 31) (Ls := Ls) (hb hby at_29) (fun stk t k => XS.iconst X5.here hx rfl (hb hby at_30) k) (hb hby at_31) (hb hby at_34)
  replace V6 : Arv Z h6 b k1 (.object "com/example/onceward/onceward/protocol/ApiKey") 20 [(.ref (w 0)), (.ref (w 1)), (.ref (w 2)), (.ref (w 3)), (.ref (w 4)), .null, .null, .null, .null, .null, .null, .null, .null, .null, .null, .null, .null, .null, .null, .null] .null := V6
  have K6 : Keep h0 h6 [] := K5.wr W6 (Or.inr sz_b)
  have N6 := Fr.snoc X6 N5 g_b
  obtain ⟨T7, h7, X7, e7, W7, V7, st7⟩ := own_chunkR X6 hx hZ hown (C := "com/example/onceward/onceward/protocol/ApiKey") (D := "Lcom/example/onceward/onceward/protocol/ApiKey;") (f := "OFFSET_FETCH") (hw _ (List.mem_of_getElem? (i := 14) rfl)) e6 V6 O1 (own_sta_keep (G 5 (by decide)).1 K6) ((G 5 (by decide)).2.keep K6) (j := (5 : Int32)) (i := 5) (by decide) rfl (Nat.le_of_ble_eq_true rfl) (pc1 := 35) (pc3 := 37) (Ls := Ls) (hb hby at_35) (fun stk t k => XS.iconst X6.here hx rfl (hb hby at_36) k) (hb hby at_37) (hb hby at_40)
  replace V7 : Arv Z h7 b k1 (.object "com/example/onceward/onceward/protocol/ApiKey") 20 [(.ref (w 0)), (.ref (w 1)), (.ref (w 2)), (.ref (w 3)), (.ref (w 4)), (.ref (w 5)), .null, .null, .null, .null, .null, .null, .null, .null, .null, .null, .null, .null, .null, .null] .null := V7
  have K7 : Keep h0 h7 [] := K6.wr W7 (Or.inr sz_b)
  have N7 := Fr.snoc X7 N6 g_b
  obtain ⟨T8, h8, X8, e8, W8, V8, st8⟩ := own_chunkR X7 hx hZ hown (C := "com/example/onceward/onceward/protocol/ApiKey") (D := "Lcom/example/onceward/onceward/protocol/ApiKey;") (f := "FIND_COORDINATOR") (hw _ (List.mem_of_getElem? (i := 16) rfl)) e7 V7 O1 (own_sta_keep (G 6 (by decide)).1 K7) ((G 6 (by decide)).2.keep K7) (j := (6 : Int32)) (i := 6) (by decide) rfl (Nat.le_of_ble_eq_true rfl) (pc1 := 41) (pc3 := 44) (Ls := Ls) (hb hby at_41) (fun stk t k => XS.bipush X7.here hx rfl (hb hby at_42) k) (hb hby at_44) (hb hby at_47)
  replace V8 : Arv Z h8 b k1 (.object "com/example/onceward/onceward/protocol/ApiKey") 20 [(.ref (w 0)), (.ref (w 1)), (.ref (w 2)), (.ref (w 3)), (.ref (w 4)), (.ref (w 5)), (.ref (w 6)), .null, .null, .null, .null, .null, .null, .null, .null, .null, .null, .null, .null, .null] .null := V8
  have K8 : Keep h0 h8 [] := K7.wr W8 (Or.inr sz_b)
  have N8 := Fr.snoc X8 N7 g_b
  obtain ⟨T9, h9, X9, e9, W9, V9, st9⟩ := own_chunkR X8 hx hZ hown (C := "com/example/onceward/onceward/protocol/ApiKey") (D := "Lcom/example/onceward/onceward/protocol/ApiKey;") (f := "JOIN_GROUP") (hw _ (List.mem_of_getElem? (i := 18) rfl)) e8 V8 O1 (own_sta_keep (G 7 (by decide)).1 K8) ((G 7 (by decide)).2.keep K8) (j := (7 : Int32)) (i := 7) (by decide) rfl (Nat.le_of_ble_eq_true rfl) (pc1 := 48) (pc3 := 51) (Ls := Ls) (hb hby at_48) (fun stk t k => XS.bipush X8.here hx rfl (hb hby at_49) k) (hb hby at_51) (hb hby at_54)
  replace V9 : Arv Z h9 b k1 (.object "com/example/onceward/onceward/protocol/ApiKey") 20 [(.ref (w 0)), (.ref (w 1)), (.ref (w 2)), (.ref (w 3)), (.ref (w 4)), (.ref (w 5)), (.ref (w 6)), (.ref (w 7)), .null, .null, .null, .null, .null, .null, .null, .null, .null, .null, .null, .null] .null := V9
  have K9 : Keep h0 h9 [] := K8.wr W9 (Or.inr sz_b)
  have N9 := Fr.snoc X9 N8 g_b
  obtain ⟨T10, h10, X10, e10, W10, V10, st10⟩ := own_chunkR X9 hx hZ hown (C := "com/example/onceward/onceward/protocol/ApiKey") (D := "Lcom/example/onceward/onceward/protocol/ApiKey;") (f := "HEARTBEAT") (hw _ (List.mem_of_getElem? (i := 20) rfl)) e9 V9 O1 (own_sta_keep (G 8 (by decide)).1 K9) ((G 8 (by decide)).2.keep K9) (j := (8 : Int32)) (i := 8) (by decide) rfl (Nat.le_of_ble_eq_true rfl) (pc1 := 55) (pc3 := 58) (Ls := Ls) (hb hby at_55) (fun stk t k => XS.bipush X9.here hx rfl (hb hby at_56) k) (hb hby at_58) (hb hby at_61)
  replace V10 : Arv Z h10 b k1 (.object "com/example/onceward/onceward/protocol/ApiKey") 20 [(.ref (w 0)), (.ref (w 1)), (.ref (w 2)), (.ref (w 3)), (.ref (w 4)), (.ref (w 5)), (.ref (w 6)), (.ref (w 7)), (.ref (w 8)), .null, .null, .null, .null, .null, .null, .null, .null, .null, .null, .null] .null := V10
  have K10 : Keep h0 h10 [] := K9.wr W10 (Or.inr sz_b)
  have N10 := Fr.snoc X10 N9 g_b
  obtain ⟨T11, h11, X11, e11, W11, V11, st11⟩ := own_chunkR X10 hx hZ hown (C := "com/example/onceward/onceward/protocol/ApiKey") (D := "Lcom/example/onceward/onceward/protocol/ApiKey;") (f := "LEAVE_GROUP") (hw _ (List.mem_of_getElem? (i := 22) rfl)) e10 V10 O1 (own_sta_keep (G 9 (by decide)).1 K10) ((G 9 (by decide)).2.keep K10) (j := (9 : Int32)) (i := 9) (by decide) rfl (Nat.le_of_ble_eq_true rfl) (pc1 := 62) (pc3 := 65) (Ls := Ls) (hb hby at_62) (fun stk t k => XS.bipush X10.here hx rfl (hb hby at_63) k) (hb hby at_65) (hb hby at_68)
  replace V11 : Arv Z h11 b k1 (.object "com/example/onceward/onceward/protocol/ApiKey") 20 [(.ref (w 0)), (.ref (w 1)), (.ref (w 2)), (.ref (w 3)), (.ref (w 4)), (.ref (w 5)), (.ref (w 6)), (.ref (w 7)), (.ref (w 8)), (.ref (w 9)), .null, .null, .null, .null, .null, .null, .null, .null, .null, .null] .null := V11
  have K11 : Keep h0 h11 [] := K10.wr W11 (Or.inr sz_b)
  have N11 := Fr.snoc X11 N10 g_b
  obtain ⟨T12, h12, X12, e12, W12, V12, st12⟩ := own_chunkR X11 hx hZ hown (C := "com/example/onceward/onceward/protocol/ApiKey") (D := "Lcom/example/onceward/onceward/protocol/ApiKey;") (f := "SYNC_GROUP") (hw _ (List.mem_of_getElem? (i := 24) rfl)) e11 V11 O1 (own_sta_keep (G 10 (by decide)).1 K11) ((G 10 (by decide)).2.keep K11) (j := (10 : Int32)) (i := 10) (by decide) rfl (Nat.le_of_ble_eq_true rfl) (pc1 := 69) (pc3 := 72) (Ls := Ls) (hb hby at_69) (fun stk t k => XS.bipush X11.here hx rfl (hb hby at_70) k) (hb hby at_72) (hb hby at_75)
  replace V12 : Arv Z h12 b k1 (.object "com/example/onceward/onceward/protocol/ApiKey") 20 [(.ref (w 0)), (.ref (w 1)), (.ref (w 2)), (.ref (w 3)), (.ref (w 4)), (.ref (w 5)), (.ref (w 6)), (.ref (w 7)), (.ref (w 8)), (.ref (w 9)), (.ref (w 10)), .null, .null, .null, .null, .null, .null, .null, .null, .null] .null := V12
  have K12 : Keep h0 h12 [] := K11.wr W12 (Or.inr sz_b)
  have N12 := Fr.snoc X12 N11 g_b
  obtain ⟨T13, h13, X13, e13, W13, V13, st13⟩ := own_chunkR X12 hx hZ hown (C := "com/example/onceward/onceward/protocol/ApiKey") (D := "Lcom/example/onceward/onceward/protocol/ApiKey;") (f := "API_VERSIONS") (hw _ (List.mem_of_getElem? (i := 26) rfl)) e12 V12 O1 (own_sta_keep (G 11 (by decide)).1 K12) ((G 11 (by decide)).2.keep K12) (j := (11 : Int32)) (i := 11) (by decide) rfl (Nat.le_of_ble_eq_true rfl) (pc1 := 76) (pc3 := 79) (Ls := Ls) (hb hby at_76) (fun stk t k => XS.bipush X12.here hx rfl (hb hby at_77) k) (hb hby at_79) (hb hby at_82)
  replace V13 : Arv Z h13 b k1 (.object "com/example/onceward/onceward/protocol/ApiKey") 20 [(.ref (w 0)), (.ref (w 1)), (.ref (w 2)), (.ref (w 3)), (.ref (w 4)), (.ref (w 5)), (.ref (w 6)), (.ref (w 7)), (.ref (w 8)), (.ref (w 9)), (.ref (w 10)), (.ref (w 11)), .null, .null, .null, .null, .null, .null, .null, .null] .null := V13
  have K13 : Keep h0 h13 [] := K12.wr W13 (Or.inr sz_b)
  have N13 := Fr.snoc X13 N12 g_b
  obtain ⟨T14, h14, X14, e14, W14, V14, st14⟩ := own_chunkR X13 hx hZ hown (C := "com/example/onceward/onceward/protocol/ApiKey") (D := "Lcom/example/onceward/onceward/protocol/ApiKey;") (f := "CREATE_TOPICS") (hw _ (List.mem_of_getElem? (i := 28) rfl)) e13 V13 O1 (own_sta_keep (G 12 (by decide)).1 K13) ((G 12 (by decide)).2.keep K13) (j := (12 : Int32)) (i := 12) (by decide) rfl (Nat.le_of_ble_eq_true rfl) (pc1 := 83) (pc3 := 86) (Ls := Ls) (hb hby at_83) (fun stk t k => XS.bipush X13.here hx rfl (hb hby at_84) k) (hb hby at_86) (hb hby at_89)
  replace V14 : Arv Z h14 b k1 (.object "com/example/onceward/onceward/protocol/ApiKey") 20 [(.ref (w 0)), (.ref (w 1)), (.ref (w 2)), (.ref (w 3)), (.ref (w 4)), (.ref (w 5)), (.ref (w 6)), (.ref (w 7)), (.ref (w 8)), (.ref (w 9)), (.ref (w 10)), (.ref (w 11)), (.ref (w 12)), .null, .null, .null, .null, .null, .null, .null] .null := V14
  have K14 : Keep h0 h14 [] := K13.wr W14 (Or.inr sz_b)
  have N14 := Fr.snoc X14 N13 g_b
  obtain ⟨T15, h15, X15, e15, W15, V15, st15⟩ := own_chunkR X14 hx hZ hown (C := "com/example/onceward/onceward/protocol/ApiKey") (D := "Lcom/example/onceward/onceward/protocol/ApiKey;") (f := "DELETE_TOPICS") (hw _ (List.mem_of_getElem? (i := 30) rfl)) e14 V14 O1 (own_sta_keep (G 13 (by decide)).1 K14) ((G 13 (by decide)).2.keep K14) (j := (13 : Int32)) (i := 13) (by decide) rfl (Nat.le_of_ble_eq_true rfl) (pc1 := 90) (pc3 := 93) (Ls := Ls) (hb hby at_90) (fun stk t k => XS.bipush X14.here hx rfl (hb hby at_91) k) (hb hby at_93) (hb hby at_96)
  replace V15 : Arv Z h15 b k1 (.object "com/example/onceward/onceward/protocol/ApiKey") 20 [(.ref (w 0)), (.ref (w 1)), (.ref (w 2)), (.ref (w 3)), (.ref (w 4)), (.ref (w 5)), (.ref (w 6)), (.ref (w 7)), (.ref (w 8)), (.ref (w 9)), (.ref (w 10)), (.ref (w 11)), (.ref (w 12)), (.ref (w 13)), .null, .null, .null, .null, .null, .null] .null := V15
  have K15 : Keep h0 h15 [] := K14.wr W15 (Or.inr sz_b)
  have N15 := Fr.snoc X15 N14 g_b
  obtain ⟨T16, h16, X16, e16, W16, V16, st16⟩ := own_chunkR X15 hx hZ hown (C := "com/example/onceward/onceward/protocol/ApiKey") (D := "Lcom/example/onceward/onceward/protocol/ApiKey;") (f := "INIT_PRODUCER_ID") (hw _ (List.mem_of_getElem? (i := 32) rfl)) e15 V15 O1 (own_sta_keep (G 14 (by decide)).1 K15) ((G 14 (by decide)).2.keep K15) (j := (14 : Int32)) (i := 14) (by decide) rfl (Nat.le_of_ble_eq_true rfl) (pc1 := 97) (pc3 := 100) (Ls := Ls) (hb hby at_97) (fun stk t k => XS.bipush X15.here hx rfl (hb hby at_98) k) (hb hby at_100) (hb hby at_103)
  replace V16 : Arv Z h16 b k1 (.object "com/example/onceward/onceward/protocol/ApiKey") 20 [(.ref (w 0)), (.ref (w 1)), (.ref (w 2)), (.ref (w 3)), (.ref (w 4)), (.ref (w 5)), (.ref (w 6)), (.ref (w 7)), (.ref (w 8)), (.ref (w 9)), (.ref (w 10)), (.ref (w 11)), (.ref (w 12)), (.ref (w 13)), (.ref (w 14)), .null, .null, .null, .null, .null] .null := V16
  have K16 : Keep h0 h16 [] := K15.wr W16 (Or.inr sz_b)
  have N16 := Fr.snoc X16 N15 g_b
  obtain ⟨T17, h17, X17, e17, W17, V17, st17⟩ := own_chunkR X16 hx hZ hown (C := "com/example/onceward/onceward/protocol/ApiKey") (D := "Lcom/example/onceward/onceward/protocol/ApiKey;") (f := "ADD_PARTITIONS_TO_TXN") (hw _ (List.mem_of_getElem? (i := 34) rfl)) e16 V16 O1 (own_sta_keep (G 15 (by decide)).1 K16) ((G 15 (by decide)).2.keep K16) (j := (15 : Int32)) (i := 15) (by decide) rfl (Nat.le_of_ble_eq_true rfl) (pc1 := 104) (pc3 := 107) (Ls := Ls) (hb hby at_104) (fun stk t k => XS.bipush X16.here hx rfl (hb hby at_105) k) (hb hby at_107) (hb hby at_110)
  replace V17 : Arv Z h17 b k1 (.object "com/example/onceward/onceward/protocol/ApiKey") 20 [(.ref (w 0)), (.ref (w 1)), (.ref (w 2)), (.ref (w 3)), (.ref (w 4)), (.ref (w 5)), (.ref (w 6)), (.ref (w 7)), (.ref (w 8)), (.ref (w 9)), (.ref (w 10)), (.ref (w 11)), (.ref (w 12)), (.ref (w 13)), (.ref (w 14)), (.ref (w 15)), .null, .null, .null, .null] .null := V17
  have K17 : Keep h0 h17 [] := K16.wr W17 (Or.inr sz_b)
  have N17 := Fr.snoc X17 N16 g_b
  obtain ⟨T18, h18, X18, e18, W18, V18, st18⟩ := own_chunkR X17 hx hZ hown (C := "com/example/onceward/onceward/protocol/ApiKey") (D := "Lcom/example/onceward/onceward/protocol/ApiKey;") (f := "ADD_OFFSETS_TO_TXN") (hw _ (List.mem_of_getElem? (i := 36) rfl)) e17 V17 O1 (own_sta_keep (G 16 (by decide)).1 K17) ((G 16 (by decide)).2.keep K17) (j := (16 : Int32)) (i := 16) (by decide) rfl (Nat.le_of_ble_eq_true rfl) (pc1 := 111) (pc3 := 114) (Ls := Ls) (hb hby at_111) (fun stk t k => XS.bipush X17.here hx rfl (hb hby at_112) k) (hb hby at_114) (hb hby at_117)
  replace V18 : Arv Z h18 b k1 (.object "com/example/onceward/onceward/protocol/ApiKey") 20 [(.ref (w 0)), (.ref (w 1)), (.ref (w 2)), (.ref (w 3)), (.ref (w 4)), (.ref (w 5)), (.ref (w 6)), (.ref (w 7)), (.ref (w 8)), (.ref (w 9)), (.ref (w 10)), (.ref (w 11)), (.ref (w 12)), (.ref (w 13)), (.ref (w 14)), (.ref (w 15)), (.ref (w 16)), .null, .null, .null] .null := V18
  have K18 : Keep h0 h18 [] := K17.wr W18 (Or.inr sz_b)
  have N18 := Fr.snoc X18 N17 g_b
  obtain ⟨T19, h19, X19, e19, W19, V19, st19⟩ := own_chunkR X18 hx hZ hown (C := "com/example/onceward/onceward/protocol/ApiKey") (D := "Lcom/example/onceward/onceward/protocol/ApiKey;") (f := "END_TXN") (hw _ (List.mem_of_getElem? (i := 38) rfl)) e18 V18 O1 (own_sta_keep (G 17 (by decide)).1 K18) ((G 17 (by decide)).2.keep K18) (j := (17 : Int32)) (i := 17) (by decide) rfl (Nat.le_of_ble_eq_true rfl) (pc1 := 118) (pc3 := 121) (Ls := Ls) (hb hby at_118) (fun stk t k => XS.bipush X18.here hx rfl (hb hby at_119) k) (hb hby at_121) (hb hby at_124)
  replace V19 : Arv Z h19 b k1 (.object "com/example/onceward/onceward/protocol/ApiKey") 20 [(.ref (w 0)), (.ref (w 1)), (.ref (w 2)), (.ref (w 3)), (.ref (w 4)), (.ref (w 5)), (.ref (w 6)), (.ref (w 7)), (.ref (w 8)), (.ref (w 9)), (.ref (w 10)), (.ref (w 11)), (.ref (w 12)), (.ref (w 13)), (.ref (w 14)), (.ref (w 15)), (.ref (w 16)), (.ref (w 17)), .null, .null] .null := V19
  have K19 : Keep h0 h19 [] := K18.wr W19 (Or.inr sz_b)
  have N19 := Fr.snoc X19 N18 g_b
  obtain ⟨T20, h20, X20, e20, W20, V20, st20⟩ := own_chunkR X19 hx hZ hown (C := "com/example/onceward/onceward/protocol/ApiKey") (D := "Lcom/example/onceward/onceward/protocol/ApiKey;") (f := "TXN_OFFSET_COMMIT") (hw _ (List.mem_of_getElem? (i := 40) rfl)) e19 V19 O1 (own_sta_keep (G 18 (by decide)).1 K19) ((G 18 (by decide)).2.keep K19) (j := (18 : Int32)) (i := 18) (by decide) rfl (Nat.le_of_ble_eq_true rfl) (pc1 := 125) (pc3 := 128) (Ls := Ls) (hb hby at_125) (fun stk t k => XS.bipush X19.here hx rfl (hb hby at_126) k) (hb hby at_128) (hb hby at_131)
  replace V20 : Arv Z h20 b k1 (.object "com/example/onceward/onceward/protocol/ApiKey") 20 [(.ref (w 0)), (.ref (w 1)), (.ref (w 2)), (.ref (w 3)), (.ref (w 4)), (.ref (w 5)), (.ref (w 6)), (.ref (w 7)), (.ref (w 8)), (.ref (w 9)), (.ref (w 10)), (.ref (w 11)), (.ref (w 12)), (.ref (w 13)), (.ref (w 14)), (.ref (w 15)), (.ref (w 16)), (.ref (w 17)), (.ref (w 18)), .null] .null := V20
  have K20 : Keep h0 h20 [] := K19.wr W20 (Or.inr sz_b)
  have N20 := Fr.snoc X20 N19 g_b
  obtain ⟨T21, h21, X21, e21, W21, V21, st21⟩ := own_chunkR X20 hx hZ hown (C := "com/example/onceward/onceward/protocol/ApiKey") (D := "Lcom/example/onceward/onceward/protocol/ApiKey;") (f := "DESCRIBE_CONFIGS") (hw _ (List.mem_of_getElem? (i := 42) rfl)) e20 V20 O1 (own_sta_keep (G 19 (by decide)).1 K20) ((G 19 (by decide)).2.keep K20) (j := (19 : Int32)) (i := 19) (by decide) rfl (Nat.le_of_ble_eq_true rfl) (pc1 := 132) (pc3 := 135) (Ls := Ls) (hb hby at_132) (fun stk t k => XS.bipush X20.here hx rfl (hb hby at_133) k) (hb hby at_135) (hb hby at_138)
  replace V21 : Arv Z h21 b k1 (.object "com/example/onceward/onceward/protocol/ApiKey") 20 [(.ref (w 0)), (.ref (w 1)), (.ref (w 2)), (.ref (w 3)), (.ref (w 4)), (.ref (w 5)), (.ref (w 6)), (.ref (w 7)), (.ref (w 8)), (.ref (w 9)), (.ref (w 10)), (.ref (w 11)), (.ref (w 12)), (.ref (w 13)), (.ref (w 14)), (.ref (w 15)), (.ref (w 16)), (.ref (w 17)), (.ref (w 18)), (.ref (w 19))] .null := V21
  have K21 : Keep h0 h21 [] := K20.wr W21 (Or.inr sz_b)
  have N21 := Fr.snoc X21 N20 g_b
  refine ⟨T21, h21, _, b, k1, X21, e21, K21, N21, V21, fun t k => ?_⟩
  refine XS.bipush X0.here hx rfl (hb hby at_0) ?_
  exact st1 _ (st2 _ (st3 _ (st4 _ (st5 _ (st6 _ (st7 _ (st8 _ (st9 _ (st10 _ (st11 _ (st12 _ (st13 _ (st14 _ (st15 _ (st16 _ (st17 _ (st18 _ (st19 _ (st20 _ (st21 _ k))))))))))))))))))))
set_option maxRecDepth 65536 in
set_option maxHeartbeats 40000000 in
theorem fillB {p : Program} {l : Launch} {e : Env} {s : State} {m : MethodId} {args : Array Value} {below : List Frame} {meth : Method} {c : Code} {T0 : State} {locs : List Loc} {cells slots : Nat} {Z : State} {a0 : Array Value} {h0 : Heap} (X0 : Stand p l e room_1 s m args below meth c T0 locs cells slots) (hx : p.tables.exec = Jvm.exec) (hZ : Z.Warmed39 s.vm) (hw : ∀ d ∈ tables_1, d.before a0 Z = true) (hby : c.code = code) (hown : s.vm.findClass "com/example/onceward/onceward/protocol/ApiKeyServesPinLaw" = some m.cls) (e0 : T0.heap = h0) (n0 : Nat) (Z0 : n0 ≤ h0.size) (N0 : Fr n0 locs) (hc : cells + 1 ≤ room_1.cells) (hl : slots + 20 ≤ room_1.slots) {Ls : Array Slot} :
    ∃ (T' : State) (h' : Heap) (locs' : List Loc) (b : Addr) (kA : ClassId), Stand p l e room_1 s m args below meth c T' locs' (cells + 1) (slots + 20) ∧ T'.heap = h' ∧ Keep h0 h' [] ∧ Fr n0 locs' ∧ Arv Z h' b kA .int 20 [(.int (3 : Int32)), (.int (4 : Int32)), (.int (1 : Int32)), (.int (0 : Int32)), (.int (1 : Int32)), (.int (1 : Int32)), (.int (0 : Int32)), (.int (0 : Int32)), (.int (0 : Int32)), (.int (0 : Int32)), (.int (0 : Int32)), (.int (0 : Int32)), (.int (0 : Int32)), (.int (0 : Int32)), (.int (0 : Int32)), (.int (0 : Int32)), (.int (0 : Int32)), (.int (0 : Int32)), (.int (0 : Int32)), (.int (0 : Int32))] (.int (0 : Int32)) ∧ ∀ t, Steps p.tables e below (T'.setTop (mkF m 238 Ls [.ref b])) t → Steps p.tables e below (T0.setTop (mkF m 140 Ls [])) t := by
  obtain ⟨T1, h1, k1, X1, e1, E1, A1, st1⟩ := newP X0 hx hZ (aty := .int) (hw _ (List.mem_of_getElem? (i := 44) rfl)) e0 (g := (mkF m 142 Ls [.int (20 : Int32)])) rfl (hb hby at_142) rfl (by decide) (cap := 20) (by decide) (by decide) hc hl
  obtain ⟨b, gb⟩ : ∃ z, z = h0.size := ⟨_, rfl⟩
  rw [← gb] at A1 st1
  have g_b : n0 ≤ b := Nat.le_trans Z0 (Nat.le_of_eq gb.symm)
  have sz_b : h0.size ≤ b := Nat.le_of_eq gb.symm
  have V1 : Arv Z h1 b k1 .int 20 [(.int (0 : Int32)), (.int (0 : Int32)), (.int (0 : Int32)), (.int (0 : Int32)), (.int (0 : Int32)), (.int (0 : Int32)), (.int (0 : Int32)), (.int (0 : Int32)), (.int (0 : Int32)), (.int (0 : Int32)), (.int (0 : Int32)), (.int (0 : Int32)), (.int (0 : Int32)), (.int (0 : Int32)), (.int (0 : Int32)), (.int (0 : Int32)), (.int (0 : Int32)), (.int (0 : Int32)), (.int (0 : Int32)), (.int (0 : Int32))] (.int (0 : Int32)) := (Arv.new A1 (by decide)).pad (pad_rep [] (.int (0 : Int32)) 20)
  have K1 : Keep h0 h1 [] := (Keep.refl h0 []).ext E1
  obtain ⟨T2, h2, X2, e2, W2, V2, st2⟩ := own_chunkI X1 hx hZ e1 V1 (j := (0 : Int32)) (x := (3 : Int32)) (i := 0) (by decide) rfl (Nat.le_of_ble_eq_true rfl) (pc1 := 144) (pc3 := 146) (pc4 := 147) (Ls := Ls) (hb hby at_144) (fun stk t k => XS.iconst X1.here hx rfl (hb hby at_145) k) (fun stk t k => XS.iconst X1.here hx rfl (hb hby at_146) k) (hb hby at_147)
  replace V2 : Arv Z h2 b k1 .int 20 [(.int (3 : Int32)), (.int (0 : Int32)), (.int (0 : Int32)), (.int (0 : Int32)), (.int (0 : Int32)), (.int (0 : Int32)), (.int (0 : Int32)), (.int (0 : Int32)), (.int (0 : Int32)), (.int (0 : Int32)), (.int (0 : Int32)), (.int (0 : Int32)), (.int (0 : Int32)), (.int (0 : Int32)), (.int (0 : Int32)), (.int (0 : Int32)), (.int (0 : Int32)), (.int (0 : Int32)), (.int (0 : Int32)), (.int (0 : Int32))] (.int (0 : Int32)) := V2
  have K2 : Keep h0 h2 [] := K1.wr W2 (Or.inr sz_b)
  have N2 := Fr.snoc X2 N0 g_b
  obtain ⟨T3, h3, X3, e3, W3, V3, st3⟩ := own_chunkI X2 hx hZ e2 V2 (j := (1 : Int32)) (x := (4 : Int32)) (i := 1) (by decide) rfl (Nat.le_of_ble_eq_true rfl) (pc1 := 148) (pc3 := 150) (pc4 := 151) (Ls := Ls) (hb hby at_148) (fun stk t k => XS.iconst X2.here hx rfl (hb hby at_149) k) (fun stk t k => XS.iconst X2.here hx rfl (hb hby at_150) k) (hb hby at_151)
  replace V3 : Arv Z h3 b k1 .int 20 [(.int (3 : Int32)), (.int (4 : Int32)), (.int (0 : Int32)), (.int (0 : Int32)), (.int (0 : Int32)), (.int (0 : Int32)), (.int (0 : Int32)), (.int (0 : Int32)), (.int (0 : Int32)), (.int (0 : Int32)), (.int (0 : Int32)), (.int (0 : Int32)), (.int (0 : Int32)), (.int (0 : Int32)), (.int (0 : Int32)), (.int (0 : Int32)), (.int (0 : Int32)), (.int (0 : Int32)), (.int (0 : Int32)), (.int (0 : Int32))] (.int (0 : Int32)) := V3
  have K3 : Keep h0 h3 [] := K2.wr W3 (Or.inr sz_b)
  have N3 := Fr.snoc X3 N2 g_b
  obtain ⟨T4, h4, X4, e4, W4, V4, st4⟩ := own_chunkI X3 hx hZ e3 V3 (j := (2 : Int32)) (x := (1 : Int32)) (i := 2) (by decide) rfl (Nat.le_of_ble_eq_true rfl) (pc1 := 152) (pc3 := 154) (pc4 := 155) (Ls := Ls) (hb hby at_152) (fun stk t k => XS.iconst X3.here hx rfl (hb hby at_153) k) (fun stk t k => XS.iconst X3.here hx rfl (hb hby at_154) k) (hb hby at_155)
  replace V4 : Arv Z h4 b k1 .int 20 [(.int (3 : Int32)), (.int (4 : Int32)), (.int (1 : Int32)), (.int (0 : Int32)), (.int (0 : Int32)), (.int (0 : Int32)), (.int (0 : Int32)), (.int (0 : Int32)), (.int (0 : Int32)), (.int (0 : Int32)), (.int (0 : Int32)), (.int (0 : Int32)), (.int (0 : Int32)), (.int (0 : Int32)), (.int (0 : Int32)), (.int (0 : Int32)), (.int (0 : Int32)), (.int (0 : Int32)), (.int (0 : Int32)), (.int (0 : Int32))] (.int (0 : Int32)) := V4
  have K4 : Keep h0 h4 [] := K3.wr W4 (Or.inr sz_b)
  have N4 := Fr.snoc X4 N3 g_b
  obtain ⟨T5, h5, X5, e5, W5, V5, st5⟩ := own_chunkI X4 hx hZ e4 V4 (j := (3 : Int32)) (x := (0 : Int32)) (i := 3) (by decide) rfl (Nat.le_of_ble_eq_true rfl) (pc1 := 156) (pc3 := 158) (pc4 := 159) (Ls := Ls) (hb hby at_156) (fun stk t k => XS.iconst X4.here hx rfl (hb hby at_157) k) (fun stk t k => XS.iconst X4.here hx rfl (hb hby at_158) k) (hb hby at_159)
  replace V5 : Arv Z h5 b k1 .int 20 [(.int (3 : Int32)), (.int (4 : Int32)), (.int (1 : Int32)), (.int (0 : Int32)), (.int (0 : Int32)), (.int (0 : Int32)), (.int (0 : Int32)), (.int (0 : Int32)), (.int (0 : Int32)), (.int (0 : Int32)), (.int (0 : Int32)), (.int (0 : Int32)), (.int (0 : Int32)), (.int (0 : Int32)), (.int (0 : Int32)), (.int (0 : Int32)), (.int (0 : Int32)), (.int (0 : Int32)), (.int (0 : Int32)), (.int (0 : Int32))] (.int (0 : Int32)) := V5
  have K5 : Keep h0 h5 [] := K4.wr W5 (Or.inr sz_b)
  have N5 := Fr.snoc X5 N4 g_b
  obtain ⟨T6, h6, X6, e6, W6, V6, st6⟩ := own_chunkI X5 hx hZ e5 V5 (j := (4 : Int32)) (x := (1 : Int32)) (i := 4) (by decide) rfl (Nat.le_of_ble_eq_true rfl) (pc1 := 160) (pc3 := 162) (pc4 := 163) (Ls := Ls) (hb hby at_160) (fun stk t k => XS.iconst X5.here hx rfl (hb hby at_161) k) (fun stk t k => XS.iconst X5.here hx rfl (hb hby at_162) k) (hb hby at_163)
  replace V6 : Arv Z h6 b k1 .int 20 [(.int (3 : Int32)), (.int (4 : Int32)), (.int (1 : Int32)), (.int (0 : Int32)), (.int (1 : Int32)), (.int (0 : Int32)), (.int (0 : Int32)), (.int (0 : Int32)), (.int (0 : Int32)), (.int (0 : Int32)), (.int (0 : Int32)), (.int (0 : Int32)), (.int (0 : Int32)), (.int (0 : Int32)), (.int (0 : Int32)), (.int (0 : Int32)), (.int (0 : Int32)), (.int (0 : Int32)), (.int (0 : Int32)), (.int (0 : Int32))] (.int (0 : Int32)) := V6
  have K6 : Keep h0 h6 [] := K5.wr W6 (Or.inr sz_b)
  have N6 := Fr.snoc X6 N5 g_b
  obtain ⟨T7, h7, X7, e7, W7, V7, st7⟩ := own_chunkI X6 hx hZ e6 V6 (j := (5 : Int32)) (x := (1 : Int32)) (i := 5) (by decide) rfl (Nat.le_of_ble_eq_true rfl) (pc1 := 164) (pc3 := 166) (pc4 := 167) (Ls := Ls) (hb hby at_164) (fun stk t k => XS.iconst X6.here hx rfl (hb hby at_165) k) (fun stk t k => XS.iconst X6.here hx rfl (hb hby at_166) k) (hb hby at_167)
  replace V7 : Arv Z h7 b k1 .int 20 [(.int (3 : Int32)), (.int (4 : Int32)), (.int (1 : Int32)), (.int (0 : Int32)), (.int (1 : Int32)), (.int (1 : Int32)), (.int (0 : Int32)), (.int (0 : Int32)), (.int (0 : Int32)), (.int (0 : Int32)), (.int (0 : Int32)), (.int (0 : Int32)), (.int (0 : Int32)), (.int (0 : Int32)), (.int (0 : Int32)), (.int (0 : Int32)), (.int (0 : Int32)), (.int (0 : Int32)), (.int (0 : Int32)), (.int (0 : Int32))] (.int (0 : Int32)) := V7
  have K7 : Keep h0 h7 [] := K6.wr W7 (Or.inr sz_b)
  have N7 := Fr.snoc X7 N6 g_b
  obtain ⟨T8, h8, X8, e8, W8, V8, st8⟩ := own_chunkI X7 hx hZ e7 V7 (j := (6 : Int32)) (x := (0 : Int32)) (i := 6) (by decide) rfl (Nat.le_of_ble_eq_true rfl) (pc1 := 168) (pc3 := 171) (pc4 := 172) (Ls := Ls) (hb hby at_168) (fun stk t k => XS.bipush X7.here hx rfl (hb hby at_169) k) (fun stk t k => XS.iconst X7.here hx rfl (hb hby at_171) k) (hb hby at_172)
  replace V8 : Arv Z h8 b k1 .int 20 [(.int (3 : Int32)), (.int (4 : Int32)), (.int (1 : Int32)), (.int (0 : Int32)), (.int (1 : Int32)), (.int (1 : Int32)), (.int (0 : Int32)), (.int (0 : Int32)), (.int (0 : Int32)), (.int (0 : Int32)), (.int (0 : Int32)), (.int (0 : Int32)), (.int (0 : Int32)), (.int (0 : Int32)), (.int (0 : Int32)), (.int (0 : Int32)), (.int (0 : Int32)), (.int (0 : Int32)), (.int (0 : Int32)), (.int (0 : Int32))] (.int (0 : Int32)) := V8
  have K8 : Keep h0 h8 [] := K7.wr W8 (Or.inr sz_b)
  have N8 := Fr.snoc X8 N7 g_b
  obtain ⟨T9, h9, X9, e9, W9, V9, st9⟩ := own_chunkI X8 hx hZ e8 V8 (j := (7 : Int32)) (x := (0 : Int32)) (i := 7) (by decide) rfl (Nat.le_of_ble_eq_true rfl) (pc1 := 173) (pc3 := 176) (pc4 := 177) (Ls := Ls) (hb hby at_173) (fun stk t k => XS.bipush X8.here hx rfl (hb hby at_174) k) (fun stk t k => XS.iconst X8.here hx rfl (hb hby at_176) k) (hb hby at_177)
  replace V9 : Arv Z h9 b k1 .int 20 [(.int (3 : Int32)), (.int (4 : Int32)), (.int (1 : Int32)), (.int (0 : Int32)), (.int (1 : Int32)), (.int (1 : Int32)), (.int (0 : Int32)), (.int (0 : Int32)), (.int (0 : Int32)), (.int (0 : Int32)), (.int (0 : Int32)), (.int (0 : Int32)), (.int (0 : Int32)), (.int (0 : Int32)), (.int (0 : Int32)), (.int (0 : Int32)), (.int (0 : Int32)), (.int (0 : Int32)), (.int (0 : Int32)), (.int (0 : Int32))] (.int (0 : Int32)) := V9
  have K9 : Keep h0 h9 [] := K8.wr W9 (Or.inr sz_b)
  have N9 := Fr.snoc X9 N8 g_b
  obtain ⟨T10, h10, X10, e10, W10, V10, st10⟩ := own_chunkI X9 hx hZ e9 V9 (j := (8 : Int32)) (x := (0 : Int32)) (i := 8) (by decide) rfl (Nat.le_of_ble_eq_true rfl) (pc1 := 178) (pc3 := 181) (pc4 := 182) (Ls := Ls) (hb hby at_178) (fun stk t k => XS.bipush X9.here hx rfl (hb hby at_179) k) (fun stk t k => XS.iconst X9.here hx rfl (hb hby at_181) k) (hb hby at_182)
  replace V10 : Arv Z h10 b k1 .int 20 [(.int (3 : Int32)), (.int (4 : Int32)), (.int (1 : Int32)), (.int (0 : Int32)), (.int (1 : Int32)), (.int (1 : Int32)), (.int (0 : Int32)), (.int (0 : Int32)), (.int (0 : Int32)), (.int (0 : Int32)), (.int (0 : Int32)), (.int (0 : Int32)), (.int (0 : Int32)), (.int (0 : Int32)), (.int (0 : Int32)), (.int (0 : Int32)), (.int (0 : Int32)), (.int (0 : Int32)), (.int (0 : Int32)), (.int (0 : Int32))] (.int (0 : Int32)) := V10
  have K10 : Keep h0 h10 [] := K9.wr W10 (Or.inr sz_b)
  have N10 := Fr.snoc X10 N9 g_b
  obtain ⟨T11, h11, X11, e11, W11, V11, st11⟩ := own_chunkI X10 hx hZ e10 V10 (j := (9 : Int32)) (x := (0 : Int32)) (i := 9) (by decide) rfl (Nat.le_of_ble_eq_true rfl) (pc1 := 183) (pc3 := 186) (pc4 := 187) (Ls := Ls) (hb hby at_183) (fun stk t k => XS.bipush X10.here hx rfl (hb hby at_184) k) (fun stk t k => XS.iconst X10.here hx rfl (hb hby at_186) k) (hb hby at_187)
  replace V11 : Arv Z h11 b k1 .int 20 [(.int (3 : Int32)), (.int (4 : Int32)), (.int (1 : Int32)), (.int (0 : Int32)), (.int (1 : Int32)), (.int (1 : Int32)), (.int (0 : Int32)), (.int (0 : Int32)), (.int (0 : Int32)), (.int (0 : Int32)), (.int (0 : Int32)), (.int (0 : Int32)), (.int (0 : Int32)), (.int (0 : Int32)), (.int (0 : Int32)), (.int (0 : Int32)), (.int (0 : Int32)), (.int (0 : Int32)), (.int (0 : Int32)), (.int (0 : Int32))] (.int (0 : Int32)) := V11
  have K11 : Keep h0 h11 [] := K10.wr W11 (Or.inr sz_b)
  have N11 := Fr.snoc X11 N10 g_b
  obtain ⟨T12, h12, X12, e12, W12, V12, st12⟩ := own_chunkI X11 hx hZ e11 V11 (j := (10 : Int32)) (x := (0 : Int32)) (i := 10) (by decide) rfl (Nat.le_of_ble_eq_true rfl) (pc1 := 188) (pc3 := 191) (pc4 := 192) (Ls := Ls) (hb hby at_188) (fun stk t k => XS.bipush X11.here hx rfl (hb hby at_189) k) (fun stk t k => XS.iconst X11.here hx rfl (hb hby at_191) k) (hb hby at_192)
  replace V12 : Arv Z h12 b k1 .int 20 [(.int (3 : Int32)), (.int (4 : Int32)), (.int (1 : Int32)), (.int (0 : Int32)), (.int (1 : Int32)), (.int (1 : Int32)), (.int (0 : Int32)), (.int (0 : Int32)), (.int (0 : Int32)), (.int (0 : Int32)), (.int (0 : Int32)), (.int (0 : Int32)), (.int (0 : Int32)), (.int (0 : Int32)), (.int (0 : Int32)), (.int (0 : Int32)), (.int (0 : Int32)), (.int (0 : Int32)), (.int (0 : Int32)), (.int (0 : Int32))] (.int (0 : Int32)) := V12
  have K12 : Keep h0 h12 [] := K11.wr W12 (Or.inr sz_b)
  have N12 := Fr.snoc X12 N11 g_b
  obtain ⟨T13, h13, X13, e13, W13, V13, st13⟩ := own_chunkI X12 hx hZ e12 V12 (j := (11 : Int32)) (x := (0 : Int32)) (i := 11) (by decide) rfl (Nat.le_of_ble_eq_true rfl) (pc1 := 193) (pc3 := 196) (pc4 := 197) (Ls := Ls) (hb hby at_193) (fun stk t k => XS.bipush X12.here hx rfl (hb hby at_194) k) (fun stk t k => XS.iconst X12.here hx rfl (hb hby at_196) k) (hb hby at_197)
  replace V13 : Arv Z h13 b k1 .int 20 [(.int (3 : Int32)), (.int (4 : Int32)), (.int (1 : Int32)), (.int (0 : Int32)), (.int (1 : Int32)), (.int (1 : Int32)), (.int (0 : Int32)), (.int (0 : Int32)), (.int (0 : Int32)), (.int (0 : Int32)), (.int (0 : Int32)), (.int (0 : Int32)), (.int (0 : Int32)), (.int (0 : Int32)), (.int (0 : Int32)), (.int (0 : Int32)), (.int (0 : Int32)), (.int (0 : Int32)), (.int (0 : Int32)), (.int (0 : Int32))] (.int (0 : Int32)) := V13
  have K13 : Keep h0 h13 [] := K12.wr W13 (Or.inr sz_b)
  have N13 := Fr.snoc X13 N12 g_b
  obtain ⟨T14, h14, X14, e14, W14, V14, st14⟩ := own_chunkI X13 hx hZ e13 V13 (j := (12 : Int32)) (x := (0 : Int32)) (i := 12) (by decide) rfl (Nat.le_of_ble_eq_true rfl) (pc1 := 198) (pc3 := 201) (pc4 := 202) (Ls := Ls) (hb hby at_198) (fun stk t k => XS.bipush X13.here hx rfl (hb hby at_199) k) (fun stk t k => XS.iconst X13.here hx rfl (hb hby at_201) k) (hb hby at_202)
  replace V14 : Arv Z h14 b k1 .int 20 [(.int (3 : Int32)), (.int (4 : Int32)), (.int (1 : Int32)), (.int (0 : Int32)), (.int (1 : Int32)), (.int (1 : Int32)), (.int (0 : Int32)), (.int (0 : Int32)), (.int (0 : Int32)), (.int (0 : Int32)), (.int (0 : Int32)), (.int (0 : Int32)), (.int (0 : Int32)), (.int (0 : Int32)), (.int (0 : Int32)), (.int (0 : Int32)), (.int (0 : Int32)), (.int (0 : Int32)), (.int (0 : Int32)), (.int (0 : Int32))] (.int (0 : Int32)) := V14
  have K14 : Keep h0 h14 [] := K13.wr W14 (Or.inr sz_b)
  have N14 := Fr.snoc X14 N13 g_b
  obtain ⟨T15, h15, X15, e15, W15, V15, st15⟩ := own_chunkI X14 hx hZ e14 V14 (j := (13 : Int32)) (x := (0 : Int32)) (i := 13) (by decide) rfl (Nat.le_of_ble_eq_true rfl) (pc1 := 203) (pc3 := 206) (pc4 := 207) (Ls := Ls) (hb hby at_203) (fun stk t k => XS.bipush X14.here hx rfl (hb hby at_204) k) (fun stk t k => XS.iconst X14.here hx rfl (hb hby at_206) k) (hb hby at_207)
  replace V15 : Arv Z h15 b k1 .int 20 [(.int (3 : Int32)), (.int (4 : Int32)), (.int (1 : Int32)), (.int (0 : Int32)), (.int (1 : Int32)), (.int (1 : Int32)), (.int (0 : Int32)), (.int (0 : Int32)), (.int (0 : Int32)), (.int (0 : Int32)), (.int (0 : Int32)), (.int (0 : Int32)), (.int (0 : Int32)), (.int (0 : Int32)), (.int (0 : Int32)), (.int (0 : Int32)), (.int (0 : Int32)), (.int (0 : Int32)), (.int (0 : Int32)), (.int (0 : Int32))] (.int (0 : Int32)) := V15
  have K15 : Keep h0 h15 [] := K14.wr W15 (Or.inr sz_b)
  have N15 := Fr.snoc X15 N14 g_b
  obtain ⟨T16, h16, X16, e16, W16, V16, st16⟩ := own_chunkI X15 hx hZ e15 V15 (j := (14 : Int32)) (x := (0 : Int32)) (i := 14) (by decide) rfl (Nat.le_of_ble_eq_true rfl) (pc1 := 208) (pc3 := 211) (pc4 := 212) (Ls := Ls) (hb hby at_208) (fun stk t k => XS.bipush X15.here hx rfl (hb hby at_209) k) (fun stk t k => XS.iconst X15.here hx rfl (hb hby at_211) k) (hb hby at_212)
  replace V16 : Arv Z h16 b k1 .int 20 [(.int (3 : Int32)), (.int (4 : Int32)), (.int (1 : Int32)), (.int (0 : Int32)), (.int (1 : Int32)), (.int (1 : Int32)), (.int (0 : Int32)), (.int (0 : Int32)), (.int (0 : Int32)), (.int (0 : Int32)), (.int (0 : Int32)), (.int (0 : Int32)), (.int (0 : Int32)), (.int (0 : Int32)), (.int (0 : Int32)), (.int (0 : Int32)), (.int (0 : Int32)), (.int (0 : Int32)), (.int (0 : Int32)), (.int (0 : Int32))] (.int (0 : Int32)) := V16
  have K16 : Keep h0 h16 [] := K15.wr W16 (Or.inr sz_b)
  have N16 := Fr.snoc X16 N15 g_b
  obtain ⟨T17, h17, X17, e17, W17, V17, st17⟩ := own_chunkI X16 hx hZ e16 V16 (j := (15 : Int32)) (x := (0 : Int32)) (i := 15) (by decide) rfl (Nat.le_of_ble_eq_true rfl) (pc1 := 213) (pc3 := 216) (pc4 := 217) (Ls := Ls) (hb hby at_213) (fun stk t k => XS.bipush X16.here hx rfl (hb hby at_214) k) (fun stk t k => XS.iconst X16.here hx rfl (hb hby at_216) k) (hb hby at_217)
  replace V17 : Arv Z h17 b k1 .int 20 [(.int (3 : Int32)), (.int (4 : Int32)), (.int (1 : Int32)), (.int (0 : Int32)), (.int (1 : Int32)), (.int (1 : Int32)), (.int (0 : Int32)), (.int (0 : Int32)), (.int (0 : Int32)), (.int (0 : Int32)), (.int (0 : Int32)), (.int (0 : Int32)), (.int (0 : Int32)), (.int (0 : Int32)), (.int (0 : Int32)), (.int (0 : Int32)), (.int (0 : Int32)), (.int (0 : Int32)), (.int (0 : Int32)), (.int (0 : Int32))] (.int (0 : Int32)) := V17
  have K17 : Keep h0 h17 [] := K16.wr W17 (Or.inr sz_b)
  have N17 := Fr.snoc X17 N16 g_b
  obtain ⟨T18, h18, X18, e18, W18, V18, st18⟩ := own_chunkI X17 hx hZ e17 V17 (j := (16 : Int32)) (x := (0 : Int32)) (i := 16) (by decide) rfl (Nat.le_of_ble_eq_true rfl) (pc1 := 218) (pc3 := 221) (pc4 := 222) (Ls := Ls) (hb hby at_218) (fun stk t k => XS.bipush X17.here hx rfl (hb hby at_219) k) (fun stk t k => XS.iconst X17.here hx rfl (hb hby at_221) k) (hb hby at_222)
  replace V18 : Arv Z h18 b k1 .int 20 [(.int (3 : Int32)), (.int (4 : Int32)), (.int (1 : Int32)), (.int (0 : Int32)), (.int (1 : Int32)), (.int (1 : Int32)), (.int (0 : Int32)), (.int (0 : Int32)), (.int (0 : Int32)), (.int (0 : Int32)), (.int (0 : Int32)), (.int (0 : Int32)), (.int (0 : Int32)), (.int (0 : Int32)), (.int (0 : Int32)), (.int (0 : Int32)), (.int (0 : Int32)), (.int (0 : Int32)), (.int (0 : Int32)), (.int (0 : Int32))] (.int (0 : Int32)) := V18
  have K18 : Keep h0 h18 [] := K17.wr W18 (Or.inr sz_b)
  have N18 := Fr.snoc X18 N17 g_b
  obtain ⟨T19, h19, X19, e19, W19, V19, st19⟩ := own_chunkI X18 hx hZ e18 V18 (j := (17 : Int32)) (x := (0 : Int32)) (i := 17) (by decide) rfl (Nat.le_of_ble_eq_true rfl) (pc1 := 223) (pc3 := 226) (pc4 := 227) (Ls := Ls) (hb hby at_223) (fun stk t k => XS.bipush X18.here hx rfl (hb hby at_224) k) (fun stk t k => XS.iconst X18.here hx rfl (hb hby at_226) k) (hb hby at_227)
  replace V19 : Arv Z h19 b k1 .int 20 [(.int (3 : Int32)), (.int (4 : Int32)), (.int (1 : Int32)), (.int (0 : Int32)), (.int (1 : Int32)), (.int (1 : Int32)), (.int (0 : Int32)), (.int (0 : Int32)), (.int (0 : Int32)), (.int (0 : Int32)), (.int (0 : Int32)), (.int (0 : Int32)), (.int (0 : Int32)), (.int (0 : Int32)), (.int (0 : Int32)), (.int (0 : Int32)), (.int (0 : Int32)), (.int (0 : Int32)), (.int (0 : Int32)), (.int (0 : Int32))] (.int (0 : Int32)) := V19
  have K19 : Keep h0 h19 [] := K18.wr W19 (Or.inr sz_b)
  have N19 := Fr.snoc X19 N18 g_b
  obtain ⟨T20, h20, X20, e20, W20, V20, st20⟩ := own_chunkI X19 hx hZ e19 V19 (j := (18 : Int32)) (x := (0 : Int32)) (i := 18) (by decide) rfl (Nat.le_of_ble_eq_true rfl) (pc1 := 228) (pc3 := 231) (pc4 := 232) (Ls := Ls) (hb hby at_228) (fun stk t k => XS.bipush X19.here hx rfl (hb hby at_229) k) (fun stk t k => XS.iconst X19.here hx rfl (hb hby at_231) k) (hb hby at_232)
  replace V20 : Arv Z h20 b k1 .int 20 [(.int (3 : Int32)), (.int (4 : Int32)), (.int (1 : Int32)), (.int (0 : Int32)), (.int (1 : Int32)), (.int (1 : Int32)), (.int (0 : Int32)), (.int (0 : Int32)), (.int (0 : Int32)), (.int (0 : Int32)), (.int (0 : Int32)), (.int (0 : Int32)), (.int (0 : Int32)), (.int (0 : Int32)), (.int (0 : Int32)), (.int (0 : Int32)), (.int (0 : Int32)), (.int (0 : Int32)), (.int (0 : Int32)), (.int (0 : Int32))] (.int (0 : Int32)) := V20
  have K20 : Keep h0 h20 [] := K19.wr W20 (Or.inr sz_b)
  have N20 := Fr.snoc X20 N19 g_b
  obtain ⟨T21, h21, X21, e21, W21, V21, st21⟩ := own_chunkI X20 hx hZ e20 V20 (j := (19 : Int32)) (x := (0 : Int32)) (i := 19) (by decide) rfl (Nat.le_of_ble_eq_true rfl) (pc1 := 233) (pc3 := 236) (pc4 := 237) (Ls := Ls) (hb hby at_233) (fun stk t k => XS.bipush X20.here hx rfl (hb hby at_234) k) (fun stk t k => XS.iconst X20.here hx rfl (hb hby at_236) k) (hb hby at_237)
  replace V21 : Arv Z h21 b k1 .int 20 [(.int (3 : Int32)), (.int (4 : Int32)), (.int (1 : Int32)), (.int (0 : Int32)), (.int (1 : Int32)), (.int (1 : Int32)), (.int (0 : Int32)), (.int (0 : Int32)), (.int (0 : Int32)), (.int (0 : Int32)), (.int (0 : Int32)), (.int (0 : Int32)), (.int (0 : Int32)), (.int (0 : Int32)), (.int (0 : Int32)), (.int (0 : Int32)), (.int (0 : Int32)), (.int (0 : Int32)), (.int (0 : Int32)), (.int (0 : Int32))] (.int (0 : Int32)) := V21
  have K21 : Keep h0 h21 [] := K20.wr W21 (Or.inr sz_b)
  have N21 := Fr.snoc X21 N20 g_b
  refine ⟨T21, h21, _, b, k1, X21, e21, K21, N21, V21, fun t k => ?_⟩
  refine XS.bipush X0.here hx rfl (hb hby at_140) ?_
  exact st1 _ (st2 _ (st3 _ (st4 _ (st5 _ (st6 _ (st7 _ (st8 _ (st9 _ (st10 _ (st11 _ (st12 _ (st13 _ (st14 _ (st15 _ (st16 _ (st17 _ (st18 _ (st19 _ (st20 _ (st21 _ k))))))))))))))))))))
set_option maxRecDepth 65536 in
set_option maxHeartbeats 40000000 in
theorem fillC {p : Program} {l : Launch} {e : Env} {s : State} {m : MethodId} {args : Array Value} {below : List Frame} {meth : Method} {c : Code} {T0 : State} {locs : List Loc} {cells slots : Nat} {Z : State} {a0 : Array Value} {h0 : Heap} (X0 : Stand p l e room_1 s m args below meth c T0 locs cells slots) (hx : p.tables.exec = Jvm.exec) (hZ : Z.Warmed39 s.vm) (hw : ∀ d ∈ tables_1, d.before a0 Z = true) (hby : c.code = code) (hown : s.vm.findClass "com/example/onceward/onceward/protocol/ApiKeyServesPinLaw" = some m.cls) (e0 : T0.heap = h0) (n0 : Nat) (Z0 : n0 ≤ h0.size) (N0 : Fr n0 locs) (hc : cells + 1 ≤ room_1.cells) (hl : slots + 20 ≤ room_1.slots) {Ls : Array Slot} :
    ∃ (T' : State) (h' : Heap) (locs' : List Loc) (b : Addr) (kA : ClassId), Stand p l e room_1 s m args below meth c T' locs' (cells + 1) (slots + 20) ∧ T'.heap = h' ∧ Keep h0 h' [] ∧ Fr n0 locs' ∧ Arv Z h' b kA .int 20 [(.int (7 : Int32)), (.int (11 : Int32)), (.int (5 : Int32)), (.int (5 : Int32)), (.int (3 : Int32)), (.int (7 : Int32)), (.int (2 : Int32)), (.int (2 : Int32)), (.int (1 : Int32)), (.int (1 : Int32)), (.int (1 : Int32)), (.int (3 : Int32)), (.int (4 : Int32)), (.int (3 : Int32)), (.int (1 : Int32)), (.int (2 : Int32)), (.int (1 : Int32)), (.int (2 : Int32)), (.int (3 : Int32)), (.int (2 : Int32))] (.int (0 : Int32)) ∧ ∀ t, Steps p.tables e below (T'.setTop (mkF m 340 Ls [.ref b])) t → Steps p.tables e below (T0.setTop (mkF m 239 Ls [])) t := by
  obtain ⟨T1, h1, k1, X1, e1, E1, A1, st1⟩ := newP X0 hx hZ (aty := .int) (hw _ (List.mem_of_getElem? (i := 44) rfl)) e0 (g := (mkF m 241 Ls [.int (20 : Int32)])) rfl (hb hby at_241) rfl (by decide) (cap := 20) (by decide) (by decide) hc hl
  obtain ⟨b, gb⟩ : ∃ z, z = h0.size := ⟨_, rfl⟩
  rw [← gb] at A1 st1
  have g_b : n0 ≤ b := Nat.le_trans Z0 (Nat.le_of_eq gb.symm)
  have sz_b : h0.size ≤ b := Nat.le_of_eq gb.symm
  have V1 : Arv Z h1 b k1 .int 20 [(.int (0 : Int32)), (.int (0 : Int32)), (.int (0 : Int32)), (.int (0 : Int32)), (.int (0 : Int32)), (.int (0 : Int32)), (.int (0 : Int32)), (.int (0 : Int32)), (.int (0 : Int32)), (.int (0 : Int32)), (.int (0 : Int32)), (.int (0 : Int32)), (.int (0 : Int32)), (.int (0 : Int32)), (.int (0 : Int32)), (.int (0 : Int32)), (.int (0 : Int32)), (.int (0 : Int32)), (.int (0 : Int32)), (.int (0 : Int32))] (.int (0 : Int32)) := (Arv.new A1 (by decide)).pad (pad_rep [] (.int (0 : Int32)) 20)
  have K1 : Keep h0 h1 [] := (Keep.refl h0 []).ext E1
  obtain ⟨T2, h2, X2, e2, W2, V2, st2⟩ := own_chunkI X1 hx hZ e1 V1 (j := (0 : Int32)) (x := (7 : Int32)) (i := 0) (by decide) rfl (Nat.le_of_ble_eq_true rfl) (pc1 := 243) (pc3 := 245) (pc4 := 247) (Ls := Ls) (hb hby at_243) (fun stk t k => XS.iconst X1.here hx rfl (hb hby at_244) k) (fun stk t k => XS.bipush X1.here hx rfl (hb hby at_245) k) (hb hby at_247)
  replace V2 : Arv Z h2 b k1 .int 20 [(.int (7 : Int32)), (.int (0 : Int32)), (.int (0 : Int32)), (.int (0 : Int32)), (.int (0 : Int32)), (.int (0 : Int32)), (.int (0 : Int32)), (.int (0 : Int32)), (.int (0 : Int32)), (.int (0 : Int32)), (.int (0 : Int32)), (.int (0 : Int32)), (.int (0 : Int32)), (.int (0 : Int32)), (.int (0 : Int32)), (.int (0 : Int32)), (.int (0 : Int32)), (.int (0 : Int32)), (.int (0 : Int32)), (.int (0 : Int32))] (.int (0 : Int32)) := V2
  have K2 : Keep h0 h2 [] := K1.wr W2 (Or.inr sz_b)
  have N2 := Fr.snoc X2 N0 g_b
  obtain ⟨T3, h3, X3, e3, W3, V3, st3⟩ := own_chunkI X2 hx hZ e2 V2 (j := (1 : Int32)) (x := (11 : Int32)) (i := 1) (by decide) rfl (Nat.le_of_ble_eq_true rfl) (pc1 := 248) (pc3 := 250) (pc4 := 252) (Ls := Ls) (hb hby at_248) (fun stk t k => XS.iconst X2.here hx rfl (hb hby at_249) k) (fun stk t k => XS.bipush X2.here hx rfl (hb hby at_250) k) (hb hby at_252)
  replace V3 : Arv Z h3 b k1 .int 20 [(.int (7 : Int32)), (.int (11 : Int32)), (.int (0 : Int32)), (.int (0 : Int32)), (.int (0 : Int32)), (.int (0 : Int32)), (.int (0 : Int32)), (.int (0 : Int32)), (.int (0 : Int32)), (.int (0 : Int32)), (.int (0 : Int32)), (.int (0 : Int32)), (.int (0 : Int32)), (.int (0 : Int32)), (.int (0 : Int32)), (.int (0 : Int32)), (.int (0 : Int32)), (.int (0 : Int32)), (.int (0 : Int32)), (.int (0 : Int32))] (.int (0 : Int32)) := V3
  have K3 : Keep h0 h3 [] := K2.wr W3 (Or.inr sz_b)
  have N3 := Fr.snoc X3 N2 g_b
  obtain ⟨T4, h4, X4, e4, W4, V4, st4⟩ := own_chunkI X3 hx hZ e3 V3 (j := (2 : Int32)) (x := (5 : Int32)) (i := 2) (by decide) rfl (Nat.le_of_ble_eq_true rfl) (pc1 := 253) (pc3 := 255) (pc4 := 256) (Ls := Ls) (hb hby at_253) (fun stk t k => XS.iconst X3.here hx rfl (hb hby at_254) k) (fun stk t k => XS.iconst X3.here hx rfl (hb hby at_255) k) (hb hby at_256)
  replace V4 : Arv Z h4 b k1 .int 20 [(.int (7 : Int32)), (.int (11 : Int32)), (.int (5 : Int32)), (.int (0 : Int32)), (.int (0 : Int32)), (.int (0 : Int32)), (.int (0 : Int32)), (.int (0 : Int32)), (.int (0 : Int32)), (.int (0 : Int32)), (.int (0 : Int32)), (.int (0 : Int32)), (.int (0 : Int32)), (.int (0 : Int32)), (.int (0 : Int32)), (.int (0 : Int32)), (.int (0 : Int32)), (.int (0 : Int32)), (.int (0 : Int32)), (.int (0 : Int32))] (.int (0 : Int32)) := V4
  have K4 : Keep h0 h4 [] := K3.wr W4 (Or.inr sz_b)
  have N4 := Fr.snoc X4 N3 g_b
  obtain ⟨T5, h5, X5, e5, W5, V5, st5⟩ := own_chunkI X4 hx hZ e4 V4 (j := (3 : Int32)) (x := (5 : Int32)) (i := 3) (by decide) rfl (Nat.le_of_ble_eq_true rfl) (pc1 := 257) (pc3 := 259) (pc4 := 260) (Ls := Ls) (hb hby at_257) (fun stk t k => XS.iconst X4.here hx rfl (hb hby at_258) k) (fun stk t k => XS.iconst X4.here hx rfl (hb hby at_259) k) (hb hby at_260)
  replace V5 : Arv Z h5 b k1 .int 20 [(.int (7 : Int32)), (.int (11 : Int32)), (.int (5 : Int32)), (.int (5 : Int32)), (.int (0 : Int32)), (.int (0 : Int32)), (.int (0 : Int32)), (.int (0 : Int32)), (.int (0 : Int32)), (.int (0 : Int32)), (.int (0 : Int32)), (.int (0 : Int32)), (.int (0 : Int32)), (.int (0 : Int32)), (.int (0 : Int32)), (.int (0 : Int32)), (.int (0 : Int32)), (.int (0 : Int32)), (.int (0 : Int32)), (.int (0 : Int32))] (.int (0 : Int32)) := V5
  have K5 : Keep h0 h5 [] := K4.wr W5 (Or.inr sz_b)
  have N5 := Fr.snoc X5 N4 g_b
  obtain ⟨T6, h6, X6, e6, W6, V6, st6⟩ := own_chunkI X5 hx hZ e5 V5 (j := (4 : Int32)) (x := (3 : Int32)) (i := 4) (by decide) rfl (Nat.le_of_ble_eq_true rfl) (pc1 := 261) (pc3 := 263) (pc4 := 264) (Ls := Ls) (hb hby at_261) (fun stk t k => XS.iconst X5.here hx rfl (hb hby at_262) k) (fun stk t k => XS.iconst X5.here hx rfl (hb hby at_263) k) (hb hby at_264)
  replace V6 : Arv Z h6 b k1 .int 20 [(.int (7 : Int32)), (.int (11 : Int32)), (.int (5 : Int32)), (.int (5 : Int32)), (.int (3 : Int32)), (.int (0 : Int32)), (.int (0 : Int32)), (.int (0 : Int32)), (.int (0 : Int32)), (.int (0 : Int32)), (.int (0 : Int32)), (.int (0 : Int32)), (.int (0 : Int32)), (.int (0 : Int32)), (.int (0 : Int32)), (.int (0 : Int32)), (.int (0 : Int32)), (.int (0 : Int32)), (.int (0 : Int32)), (.int (0 : Int32))] (.int (0 : Int32)) := V6
  have K6 : Keep h0 h6 [] := K5.wr W6 (Or.inr sz_b)
  have N6 := Fr.snoc X6 N5 g_b
  obtain ⟨T7, h7, X7, e7, W7, V7, st7⟩ := own_chunkI X6 hx hZ e6 V6 (j := (5 : Int32)) (x := (7 : Int32)) (i := 5) (by decide) rfl (Nat.le_of_ble_eq_true rfl) (pc1 := 265) (pc3 := 267) (pc4 := 269) (Ls := Ls) (hb hby at_265) (fun stk t k => XS.iconst X6.here hx rfl (hb hby at_266) k) (fun stk t k => XS.bipush X6.here hx rfl (hb hby at_267) k) (hb hby at_269)
  replace V7 : Arv Z h7 b k1 .int 20 [(.int (7 : Int32)), (.int (11 : Int32)), (.int (5 : Int32)), (.int (5 : Int32)), (.int (3 : Int32)), (.int (7 : Int32)), (.int (0 : Int32)), (.int (0 : Int32)), (.int (0 : Int32)), (.int (0 : Int32)), (.int (0 : Int32)), (.int (0 : Int32)), (.int (0 : Int32)), (.int (0 : Int32)), (.int (0 : Int32)), (.int (0 : Int32)), (.int (0 : Int32)), (.int (0 : Int32)), (.int (0 : Int32)), (.int (0 : Int32))] (.int (0 : Int32)) := V7
  have K7 : Keep h0 h7 [] := K6.wr W7 (Or.inr sz_b)
  have N7 := Fr.snoc X7 N6 g_b
  obtain ⟨T8, h8, X8, e8, W8, V8, st8⟩ := own_chunkI X7 hx hZ e7 V7 (j := (6 : Int32)) (x := (2 : Int32)) (i := 6) (by decide) rfl (Nat.le_of_ble_eq_true rfl) (pc1 := 270) (pc3 := 273) (pc4 := 274) (Ls := Ls) (hb hby at_270) (fun stk t k => XS.bipush X7.here hx rfl (hb hby at_271) k) (fun stk t k => XS.iconst X7.here hx rfl (hb hby at_273) k) (hb hby at_274)
  replace V8 : Arv Z h8 b k1 .int 20 [(.int (7 : Int32)), (.int (11 : Int32)), (.int (5 : Int32)), (.int (5 : Int32)), (.int (3 : Int32)), (.int (7 : Int32)), (.int (2 : Int32)), (.int (0 : Int32)), (.int (0 : Int32)), (.int (0 : Int32)), (.int (0 : Int32)), (.int (0 : Int32)), (.int (0 : Int32)), (.int (0 : Int32)), (.int (0 : Int32)), (.int (0 : Int32)), (.int (0 : Int32)), (.int (0 : Int32)), (.int (0 : Int32)), (.int (0 : Int32))] (.int (0 : Int32)) := V8
  have K8 : Keep h0 h8 [] := K7.wr W8 (Or.inr sz_b)
  have N8 := Fr.snoc X8 N7 g_b
  obtain ⟨T9, h9, X9, e9, W9, V9, st9⟩ := own_chunkI X8 hx hZ e8 V8 (j := (7 : Int32)) (x := (2 : Int32)) (i := 7) (by decide) rfl (Nat.le_of_ble_eq_true rfl) (pc1 := 275) (pc3 := 278) (pc4 := 279) (Ls := Ls) (hb hby at_275) (fun stk t k => XS.bipush X8.here hx rfl (hb hby at_276) k) (fun stk t k => XS.iconst X8.here hx rfl (hb hby at_278) k) (hb hby at_279)
  replace V9 : Arv Z h9 b k1 .int 20 [(.int (7 : Int32)), (.int (11 : Int32)), (.int (5 : Int32)), (.int (5 : Int32)), (.int (3 : Int32)), (.int (7 : Int32)), (.int (2 : Int32)), (.int (2 : Int32)), (.int (0 : Int32)), (.int (0 : Int32)), (.int (0 : Int32)), (.int (0 : Int32)), (.int (0 : Int32)), (.int (0 : Int32)), (.int (0 : Int32)), (.int (0 : Int32)), (.int (0 : Int32)), (.int (0 : Int32)), (.int (0 : Int32)), (.int (0 : Int32))] (.int (0 : Int32)) := V9
  have K9 : Keep h0 h9 [] := K8.wr W9 (Or.inr sz_b)
  have N9 := Fr.snoc X9 N8 g_b
  obtain ⟨T10, h10, X10, e10, W10, V10, st10⟩ := own_chunkI X9 hx hZ e9 V9 (j := (8 : Int32)) (x := (1 : Int32)) (i := 8) (by decide) rfl (Nat.le_of_ble_eq_true rfl) (pc1 := 280) (pc3 := 283) (pc4 := 284) (Ls := Ls) (hb hby at_280) (fun stk t k => XS.bipush X9.here hx rfl (hb hby at_281) k) (fun stk t k => XS.iconst X9.here hx rfl (hb hby at_283) k) (hb hby at_284)
  replace V10 : Arv Z h10 b k1 .int 20 [(.int (7 : Int32)), (.int (11 : Int32)), (.int (5 : Int32)), (.int (5 : Int32)), (.int (3 : Int32)), (.int (7 : Int32)), (.int (2 : Int32)), (.int (2 : Int32)), (.int (1 : Int32)), (.int (0 : Int32)), (.int (0 : Int32)), (.int (0 : Int32)), (.int (0 : Int32)), (.int (0 : Int32)), (.int (0 : Int32)), (.int (0 : Int32)), (.int (0 : Int32)), (.int (0 : Int32)), (.int (0 : Int32)), (.int (0 : Int32))] (.int (0 : Int32)) := V10
  have K10 : Keep h0 h10 [] := K9.wr W10 (Or.inr sz_b)
  have N10 := Fr.snoc X10 N9 g_b
  obtain ⟨T11, h11, X11, e11, W11, V11, st11⟩ := own_chunkI X10 hx hZ e10 V10 (j := (9 : Int32)) (x := (1 : Int32)) (i := 9) (by decide) rfl (Nat.le_of_ble_eq_true rfl) (pc1 := 285) (pc3 := 288) (pc4 := 289) (Ls := Ls) (hb hby at_285) (fun stk t k => XS.bipush X10.here hx rfl (hb hby at_286) k) (fun stk t k => XS.iconst X10.here hx rfl (hb hby at_288) k) (hb hby at_289)
  replace V11 : Arv Z h11 b k1 .int 20 [(.int (7 : Int32)), (.int (11 : Int32)), (.int (5 : Int32)), (.int (5 : Int32)), (.int (3 : Int32)), (.int (7 : Int32)), (.int (2 : Int32)), (.int (2 : Int32)), (.int (1 : Int32)), (.int (1 : Int32)), (.int (0 : Int32)), (.int (0 : Int32)), (.int (0 : Int32)), (.int (0 : Int32)), (.int (0 : Int32)), (.int (0 : Int32)), (.int (0 : Int32)), (.int (0 : Int32)), (.int (0 : Int32)), (.int (0 : Int32))] (.int (0 : Int32)) := V11
  have K11 : Keep h0 h11 [] := K10.wr W11 (Or.inr sz_b)
  have N11 := Fr.snoc X11 N10 g_b
  obtain ⟨T12, h12, X12, e12, W12, V12, st12⟩ := own_chunkI X11 hx hZ e11 V11 (j := (10 : Int32)) (x := (1 : Int32)) (i := 10) (by decide) rfl (Nat.le_of_ble_eq_true rfl) (pc1 := 290) (pc3 := 293) (pc4 := 294) (Ls := Ls) (hb hby at_290) (fun stk t k => XS.bipush X11.here hx rfl (hb hby at_291) k) (fun stk t k => XS.iconst X11.here hx rfl (hb hby at_293) k) (hb hby at_294)
  replace V12 : Arv Z h12 b k1 .int 20 [(.int (7 : Int32)), (.int (11 : Int32)), (.int (5 : Int32)), (.int (5 : Int32)), (.int (3 : Int32)), (.int (7 : Int32)), (.int (2 : Int32)), (.int (2 : Int32)), (.int (1 : Int32)), (.int (1 : Int32)), (.int (1 : Int32)), (.int (0 : Int32)), (.int (0 : Int32)), (.int (0 : Int32)), (.int (0 : Int32)), (.int (0 : Int32)), (.int (0 : Int32)), (.int (0 : Int32)), (.int (0 : Int32)), (.int (0 : Int32))] (.int (0 : Int32)) := V12
  have K12 : Keep h0 h12 [] := K11.wr W12 (Or.inr sz_b)
  have N12 := Fr.snoc X12 N11 g_b
  obtain ⟨T13, h13, X13, e13, W13, V13, st13⟩ := own_chunkI X12 hx hZ e12 V12 (j := (11 : Int32)) (x := (3 : Int32)) (i := 11) (by decide) rfl (Nat.le_of_ble_eq_true rfl) (pc1 := 295) (pc3 := 298) (pc4 := 299) (Ls := Ls) (hb hby at_295) (fun stk t k => XS.bipush X12.here hx rfl (hb hby at_296) k) (fun stk t k => XS.iconst X12.here hx rfl (hb hby at_298) k) (hb hby at_299)
  replace V13 : Arv Z h13 b k1 .int 20 [(.int (7 : Int32)), (.int (11 : Int32)), (.int (5 : Int32)), (.int (5 : Int32)), (.int (3 : Int32)), (.int (7 : Int32)), (.int (2 : Int32)), (.int (2 : Int32)), (.int (1 : Int32)), (.int (1 : Int32)), (.int (1 : Int32)), (.int (3 : Int32)), (.int (0 : Int32)), (.int (0 : Int32)), (.int (0 : Int32)), (.int (0 : Int32)), (.int (0 : Int32)), (.int (0 : Int32)), (.int (0 : Int32)), (.int (0 : Int32))] (.int (0 : Int32)) := V13
  have K13 : Keep h0 h13 [] := K12.wr W13 (Or.inr sz_b)
  have N13 := Fr.snoc X13 N12 g_b
  obtain ⟨T14, h14, X14, e14, W14, V14, st14⟩ := own_chunkI X13 hx hZ e13 V13 (j := (12 : Int32)) (x := (4 : Int32)) (i := 12) (by decide) rfl (Nat.le_of_ble_eq_true rfl) (pc1 := 300) (pc3 := 303) (pc4 := 304) (Ls := Ls) (hb hby at_300) (fun stk t k => XS.bipush X13.here hx rfl (hb hby at_301) k) (fun stk t k => XS.iconst X13.here hx rfl (hb hby at_303) k) (hb hby at_304)
  replace V14 : Arv Z h14 b k1 .int 20 [(.int (7 : Int32)), (.int (11 : Int32)), (.int (5 : Int32)), (.int (5 : Int32)), (.int (3 : Int32)), (.int (7 : Int32)), (.int (2 : Int32)), (.int (2 : Int32)), (.int (1 : Int32)), (.int (1 : Int32)), (.int (1 : Int32)), (.int (3 : Int32)), (.int (4 : Int32)), (.int (0 : Int32)), (.int (0 : Int32)), (.int (0 : Int32)), (.int (0 : Int32)), (.int (0 : Int32)), (.int (0 : Int32)), (.int (0 : Int32))] (.int (0 : Int32)) := V14
  have K14 : Keep h0 h14 [] := K13.wr W14 (Or.inr sz_b)
  have N14 := Fr.snoc X14 N13 g_b
  obtain ⟨T15, h15, X15, e15, W15, V15, st15⟩ := own_chunkI X14 hx hZ e14 V14 (j := (13 : Int32)) (x := (3 : Int32)) (i := 13) (by decide) rfl (Nat.le_of_ble_eq_true rfl) (pc1 := 305) (pc3 := 308) (pc4 := 309) (Ls := Ls) (hb hby at_305) (fun stk t k => XS.bipush X14.here hx rfl (hb hby at_306) k) (fun stk t k => XS.iconst X14.here hx rfl (hb hby at_308) k) (hb hby at_309)
  replace V15 : Arv Z h15 b k1 .int 20 [(.int (7 : Int32)), (.int (11 : Int32)), (.int (5 : Int32)), (.int (5 : Int32)), (.int (3 : Int32)), (.int (7 : Int32)), (.int (2 : Int32)), (.int (2 : Int32)), (.int (1 : Int32)), (.int (1 : Int32)), (.int (1 : Int32)), (.int (3 : Int32)), (.int (4 : Int32)), (.int (3 : Int32)), (.int (0 : Int32)), (.int (0 : Int32)), (.int (0 : Int32)), (.int (0 : Int32)), (.int (0 : Int32)), (.int (0 : Int32))] (.int (0 : Int32)) := V15
  have K15 : Keep h0 h15 [] := K14.wr W15 (Or.inr sz_b)
  have N15 := Fr.snoc X15 N14 g_b
  obtain ⟨T16, h16, X16, e16, W16, V16, st16⟩ := own_chunkI X15 hx hZ e15 V15 (j := (14 : Int32)) (x := (1 : Int32)) (i := 14) (by decide) rfl (Nat.le_of_ble_eq_true rfl) (pc1 := 310) (pc3 := 313) (pc4 := 314) (Ls := Ls) (hb hby at_310) (fun stk t k => XS.bipush X15.here hx rfl (hb hby at_311) k) (fun stk t k => XS.iconst X15.here hx rfl (hb hby at_313) k) (hb hby at_314)
  replace V16 : Arv Z h16 b k1 .int 20 [(.int (7 : Int32)), (.int (11 : Int32)), (.int (5 : Int32)), (.int (5 : Int32)), (.int (3 : Int32)), (.int (7 : Int32)), (.int (2 : Int32)), (.int (2 : Int32)), (.int (1 : Int32)), (.int (1 : Int32)), (.int (1 : Int32)), (.int (3 : Int32)), (.int (4 : Int32)), (.int (3 : Int32)), (.int (1 : Int32)), (.int (0 : Int32)), (.int (0 : Int32)), (.int (0 : Int32)), (.int (0 : Int32)), (.int (0 : Int32))] (.int (0 : Int32)) := V16
  have K16 : Keep h0 h16 [] := K15.wr W16 (Or.inr sz_b)
  have N16 := Fr.snoc X16 N15 g_b
  obtain ⟨T17, h17, X17, e17, W17, V17, st17⟩ := own_chunkI X16 hx hZ e16 V16 (j := (15 : Int32)) (x := (2 : Int32)) (i := 15) (by decide) rfl (Nat.le_of_ble_eq_true rfl) (pc1 := 315) (pc3 := 318) (pc4 := 319) (Ls := Ls) (hb hby at_315) (fun stk t k => XS.bipush X16.here hx rfl (hb hby at_316) k) (fun stk t k => XS.iconst X16.here hx rfl (hb hby at_318) k) (hb hby at_319)
  replace V17 : Arv Z h17 b k1 .int 20 [(.int (7 : Int32)), (.int (11 : Int32)), (.int (5 : Int32)), (.int (5 : Int32)), (.int (3 : Int32)), (.int (7 : Int32)), (.int (2 : Int32)), (.int (2 : Int32)), (.int (1 : Int32)), (.int (1 : Int32)), (.int (1 : Int32)), (.int (3 : Int32)), (.int (4 : Int32)), (.int (3 : Int32)), (.int (1 : Int32)), (.int (2 : Int32)), (.int (0 : Int32)), (.int (0 : Int32)), (.int (0 : Int32)), (.int (0 : Int32))] (.int (0 : Int32)) := V17
  have K17 : Keep h0 h17 [] := K16.wr W17 (Or.inr sz_b)
  have N17 := Fr.snoc X17 N16 g_b
  obtain ⟨T18, h18, X18, e18, W18, V18, st18⟩ := own_chunkI X17 hx hZ e17 V17 (j := (16 : Int32)) (x := (1 : Int32)) (i := 16) (by decide) rfl (Nat.le_of_ble_eq_true rfl) (pc1 := 320) (pc3 := 323) (pc4 := 324) (Ls := Ls) (hb hby at_320) (fun stk t k => XS.bipush X17.here hx rfl (hb hby at_321) k) (fun stk t k => XS.iconst X17.here hx rfl (hb hby at_323) k) (hb hby at_324)
  replace V18 : Arv Z h18 b k1 .int 20 [(.int (7 : Int32)), (.int (11 : Int32)), (.int (5 : Int32)), (.int (5 : Int32)), (.int (3 : Int32)), (.int (7 : Int32)), (.int (2 : Int32)), (.int (2 : Int32)), (.int (1 : Int32)), (.int (1 : Int32)), (.int (1 : Int32)), (.int (3 : Int32)), (.int (4 : Int32)), (.int (3 : Int32)), (.int (1 : Int32)), (.int (2 : Int32)), (.int (1 : Int32)), (.int (0 : Int32)), (.int (0 : Int32)), (.int (0 : Int32))] (.int (0 : Int32)) := V18
  have K18 : Keep h0 h18 [] := K17.wr W18 (Or.inr sz_b)
  have N18 := Fr.snoc X18 N17 g_b
  obtain ⟨T19, h19, X19, e19, W19, V19, st19⟩ := own_chunkI X18 hx hZ e18 V18 (j := (17 : Int32)) (x := (2 : Int32)) (i := 17) (by decide) rfl (Nat.le_of_ble_eq_true rfl) (pc1 := 325) (pc3 := 328) (pc4 := 329) (Ls := Ls) (hb hby at_325) (fun stk t k => XS.bipush X18.here hx rfl (hb hby at_326) k) (fun stk t k => XS.iconst X18.here hx rfl (hb hby at_328) k) (hb hby at_329)
  replace V19 : Arv Z h19 b k1 .int 20 [(.int (7 : Int32)), (.int (11 : Int32)), (.int (5 : Int32)), (.int (5 : Int32)), (.int (3 : Int32)), (.int (7 : Int32)), (.int (2 : Int32)), (.int (2 : Int32)), (.int (1 : Int32)), (.int (1 : Int32)), (.int (1 : Int32)), (.int (3 : Int32)), (.int (4 : Int32)), (.int (3 : Int32)), (.int (1 : Int32)), (.int (2 : Int32)), (.int (1 : Int32)), (.int (2 : Int32)), (.int (0 : Int32)), (.int (0 : Int32))] (.int (0 : Int32)) := V19
  have K19 : Keep h0 h19 [] := K18.wr W19 (Or.inr sz_b)
  have N19 := Fr.snoc X19 N18 g_b
  obtain ⟨T20, h20, X20, e20, W20, V20, st20⟩ := own_chunkI X19 hx hZ e19 V19 (j := (18 : Int32)) (x := (3 : Int32)) (i := 18) (by decide) rfl (Nat.le_of_ble_eq_true rfl) (pc1 := 330) (pc3 := 333) (pc4 := 334) (Ls := Ls) (hb hby at_330) (fun stk t k => XS.bipush X19.here hx rfl (hb hby at_331) k) (fun stk t k => XS.iconst X19.here hx rfl (hb hby at_333) k) (hb hby at_334)
  replace V20 : Arv Z h20 b k1 .int 20 [(.int (7 : Int32)), (.int (11 : Int32)), (.int (5 : Int32)), (.int (5 : Int32)), (.int (3 : Int32)), (.int (7 : Int32)), (.int (2 : Int32)), (.int (2 : Int32)), (.int (1 : Int32)), (.int (1 : Int32)), (.int (1 : Int32)), (.int (3 : Int32)), (.int (4 : Int32)), (.int (3 : Int32)), (.int (1 : Int32)), (.int (2 : Int32)), (.int (1 : Int32)), (.int (2 : Int32)), (.int (3 : Int32)), (.int (0 : Int32))] (.int (0 : Int32)) := V20
  have K20 : Keep h0 h20 [] := K19.wr W20 (Or.inr sz_b)
  have N20 := Fr.snoc X20 N19 g_b
  obtain ⟨T21, h21, X21, e21, W21, V21, st21⟩ := own_chunkI X20 hx hZ e20 V20 (j := (19 : Int32)) (x := (2 : Int32)) (i := 19) (by decide) rfl (Nat.le_of_ble_eq_true rfl) (pc1 := 335) (pc3 := 338) (pc4 := 339) (Ls := Ls) (hb hby at_335) (fun stk t k => XS.bipush X20.here hx rfl (hb hby at_336) k) (fun stk t k => XS.iconst X20.here hx rfl (hb hby at_338) k) (hb hby at_339)
  replace V21 : Arv Z h21 b k1 .int 20 [(.int (7 : Int32)), (.int (11 : Int32)), (.int (5 : Int32)), (.int (5 : Int32)), (.int (3 : Int32)), (.int (7 : Int32)), (.int (2 : Int32)), (.int (2 : Int32)), (.int (1 : Int32)), (.int (1 : Int32)), (.int (1 : Int32)), (.int (3 : Int32)), (.int (4 : Int32)), (.int (3 : Int32)), (.int (1 : Int32)), (.int (2 : Int32)), (.int (1 : Int32)), (.int (2 : Int32)), (.int (3 : Int32)), (.int (2 : Int32))] (.int (0 : Int32)) := V21
  have K21 : Keep h0 h21 [] := K20.wr W21 (Or.inr sz_b)
  have N21 := Fr.snoc X21 N20 g_b
  refine ⟨T21, h21, _, b, k1, X21, e21, K21, N21, V21, fun t k => ?_⟩
  refine XS.bipush X0.here hx rfl (hb hby at_239) ?_
  exact st1 _ (st2 _ (st3 _ (st4 _ (st5 _ (st6 _ (st7 _ (st8 _ (st9 _ (st10 _ (st11 _ (st12 _ (st13 _ (st14 _ (st15 _ (st16 _ (st17 _ (st18 _ (st19 _ (st20 _ (st21 _ k))))))))))))))))))))
theorem d1_0 : decode prog_80_method_8_code 0 = .ok (.iload_n 1, 1) := by decide +kernel
theorem d1_1 : decode prog_80_method_8_code 1 = .ok (.aload_n 0, 1) := by decide +kernel
theorem d1_2 : decode prog_80_method_8_code 2 = .ok (.getfield 87, 3) := by decide +kernel
theorem d1_5 : decode prog_80_method_8_code 5 = .ok (.if_icmp .lt 15, 3) := by decide +kernel
theorem d1_20 : decode prog_80_method_8_code 20 = .ok (.iconst 0, 1) := by decide +kernel
theorem d1_21 : decode prog_80_method_8_code 21 = .ok (.ireturn, 1) := by decide +kernel
theorem pn_1 : plainName "com/example/onceward/onceward/protocol/ApiKey" = true := by first | (simp [plainName, overriddenIn]; done) | decide +kernel
theorem ef_1 (m : MethodId) (x0 : Addr) (x1 : Int32) : entryFrame m #[(.ref x0), (.int x1)] 2 = mkF m 0 #[.val (.ref x0), .val (.int x1)] [] := by first | (simp [entryFrame, mkF, argsToLocals, Value.category]; done) | rfl
set_option maxRecDepth 65536 in
set_option maxHeartbeats 40000000 in
theorem serves_lt (l : Launch) (Z : State) (a0 : Array Value) (hw : ∀ d ∈ tables_1, d.before a0 Z = true) (a : Addr) (v lo hi : Int32) (h0 : Heap) (n0 : Nat) (Z0 : n0 ≤ h0.size) (F_oldestVersion_a : Fld Z h0 a "com/example/onceward/onceward/protocol/ApiKey" "oldestVersion" "S" (.int lo)) (hc5 : v < lo) :
    RO l Z (⟨"com/example/onceward/onceward/protocol/ApiKey", "serves", "(S)Z"⟩ : MethodName) prog_80_method_8_code 2 (some .boolean) ({ frames := 0, cells := 0, slots := 0, locals := 0 } : Room) #[(.ref a), (.int v)] h0 n0 (.int (0 : Int32)) := by
  intro ws
  refine MetFree.of_bodySF (plainFor_of_name pn_1) hisR ?_
  intro p e s m args below meth c s₁ Bd hml0 hP hK
  obtain ⟨rfl, hZ, hh⟩ := hP
  have hx := Bd.exec
  have hby := Bd.bytes
  have hml : c.maxLocals = 2 := hml0
  have hown : s.vm.findClass "com/example/onceward/onceward/protocol/ApiKey" = some m.cls := findClass_of_methodNamed Bd.named
  have hnm := (name_of_methodNamed Bd.named Bd.method).1
  have X0 : Stand p l e ({ frames := 0, cells := 0, slots := 0, locals := 0 } : Room) s m #[(.ref a), (.int v)] below meth c s₁ [] 0 0 := Stand.of_body Bd
  have e0 : s₁.heap = h0 := by rw [← hh, Bd.state]; rfl
  have N0 := Fr.nil n0
  have pre0 : ∀ t_, Steps p.tables e below (s₁.setTop (mkF m 0 #[.val (.ref a), .val (.int v)] [])) t_ → Steps p.tables e below (s₁.setTop (entryFrame m #[(.ref a), (.int v)] 2)) t_ := fun t_ k_ => castTop (ef_1 m a v) k_
  obtain ⟨T1, X1, e1, st1⟩ := getF X0 hx hZ hown (host := "") (Or.inl (hw _ (List.mem_of_getElem? (i := 51) rfl))) Via.refl e0 F_oldestVersion_a (g := (mkF m 2 #[.val (.ref a), .val (.int v)] [(.ref a), (.int v)])) rfl rfl (hb hby d1_2)
  obtain ⟨fs, hr, hrun, hended, hW, hsame⟩ := X1.leave (v := some (.int (0 : Int32))) (fun h => by rw [Bd.returns] at h; cases h)
  refine ⟨_, _, pre0 _ ?_, hrun, hended, _, _, rfl, ?_, ⟨_, rfl⟩, hW, hsame.mono (by decide) (by decide)⟩
  · show Steps p.tables e below (s₁.setTop (mkF m 0 #[.val (.ref a), .val (.int v)] [])) _
    refine XS.iloadN X0.here hx rfl (hb hby d1_0) rfl ?_
    show Steps p.tables e below (s₁.setTop (mkF m 1 #[.val (.ref a), .val (.int v)] [(.int v)])) _
    refine XS.aloadN X0.here hx rfl (hb hby d1_1) rfl rfl ?_
    show Steps p.tables e below (s₁.setTop (mkF m 2 #[.val (.ref a), .val (.int v)] [(.ref a), (.int v)])) _
    refine st1 _ ?_
    show Steps p.tables e below (T1.setTop (mkF m 5 #[.val (.ref a), .val (.int v)] [(.int lo), (.int v)])) _
    refine XS.icmpYes X1.here hx rfl (pc0 := 5) (pc' := 20) rfl (hb hby d1_5) rfl (tlt hc5).1 (by decide) (by decide) ?_
    show Steps p.tables e below (T1.setTop (mkF m 20 #[.val (.ref a), .val (.int v)] [])) _
    refine XS.iconst X1.here hx rfl (hb hby d1_20) ?_
    show Steps p.tables e below (T1.setTop (mkF m 21 #[.val (.ref a), .val (.int v)] [(.int (0 : Int32))])) _
    exact retN X1 hx (t := .boolean) Bd.returns (by simp) (hb hby d1_21) hr
  · exact ⟨rfl, N0, e1⟩
theorem d1_8 : decode prog_80_method_8_code 8 = .ok (.iload_n 1, 1) := by decide +kernel
theorem d1_9 : decode prog_80_method_8_code 9 = .ok (.aload_n 0, 1) := by decide +kernel
theorem d1_10 : decode prog_80_method_8_code 10 = .ok (.getfield 90, 3) := by decide +kernel
theorem d1_13 : decode prog_80_method_8_code 13 = .ok (.if_icmp .gt 7, 3) := by decide +kernel
set_option maxRecDepth 65536 in
set_option maxHeartbeats 40000000 in
theorem serves_gt (l : Launch) (Z : State) (a0 : Array Value) (hw : ∀ d ∈ tables_1, d.before a0 Z = true) (a : Addr) (v lo hi : Int32) (h0 : Heap) (n0 : Nat) (Z0 : n0 ≤ h0.size) (F_oldestVersion_a : Fld Z h0 a "com/example/onceward/onceward/protocol/ApiKey" "oldestVersion" "S" (.int lo)) (F_latestVersion_a : Fld Z h0 a "com/example/onceward/onceward/protocol/ApiKey" "latestVersion" "S" (.int hi)) (hc5 : ¬ (v < lo)) (hc13 : hi < v) :
    RO l Z (⟨"com/example/onceward/onceward/protocol/ApiKey", "serves", "(S)Z"⟩ : MethodName) prog_80_method_8_code 2 (some .boolean) ({ frames := 0, cells := 0, slots := 0, locals := 0 } : Room) #[(.ref a), (.int v)] h0 n0 (.int (0 : Int32)) := by
  intro ws
  refine MetFree.of_bodySF (plainFor_of_name pn_1) hisR ?_
  intro p e s m args below meth c s₁ Bd hml0 hP hK
  obtain ⟨rfl, hZ, hh⟩ := hP
  have hx := Bd.exec
  have hby := Bd.bytes
  have hml : c.maxLocals = 2 := hml0
  have hown : s.vm.findClass "com/example/onceward/onceward/protocol/ApiKey" = some m.cls := findClass_of_methodNamed Bd.named
  have hnm := (name_of_methodNamed Bd.named Bd.method).1
  have X0 : Stand p l e ({ frames := 0, cells := 0, slots := 0, locals := 0 } : Room) s m #[(.ref a), (.int v)] below meth c s₁ [] 0 0 := Stand.of_body Bd
  have e0 : s₁.heap = h0 := by rw [← hh, Bd.state]; rfl
  have N0 := Fr.nil n0
  have pre0 : ∀ t_, Steps p.tables e below (s₁.setTop (mkF m 0 #[.val (.ref a), .val (.int v)] [])) t_ → Steps p.tables e below (s₁.setTop (entryFrame m #[(.ref a), (.int v)] 2)) t_ := fun t_ k_ => castTop (ef_1 m a v) k_
  obtain ⟨T1, X1, e1, st1⟩ := getF X0 hx hZ hown (host := "") (Or.inl (hw _ (List.mem_of_getElem? (i := 51) rfl))) Via.refl e0 F_oldestVersion_a (g := (mkF m 2 #[.val (.ref a), .val (.int v)] [(.ref a), (.int v)])) rfl rfl (hb hby d1_2)
  obtain ⟨T2, X2, e2, st2⟩ := getF X1 hx hZ hown (host := "") (Or.inl (hw _ (List.mem_of_getElem? (i := 53) rfl))) Via.refl e1 F_latestVersion_a (g := (mkF m 10 #[.val (.ref a), .val (.int v)] [(.ref a), (.int v)])) rfl rfl (hb hby d1_10)
  obtain ⟨fs, hr, hrun, hended, hW, hsame⟩ := X2.leave (v := some (.int (0 : Int32))) (fun h => by rw [Bd.returns] at h; cases h)
  refine ⟨_, _, pre0 _ ?_, hrun, hended, _, _, rfl, ?_, ⟨_, rfl⟩, hW, hsame.mono (by decide) (by decide)⟩
  · show Steps p.tables e below (s₁.setTop (mkF m 0 #[.val (.ref a), .val (.int v)] [])) _
    refine XS.iloadN X0.here hx rfl (hb hby d1_0) rfl ?_
    show Steps p.tables e below (s₁.setTop (mkF m 1 #[.val (.ref a), .val (.int v)] [(.int v)])) _
    refine XS.aloadN X0.here hx rfl (hb hby d1_1) rfl rfl ?_
    show Steps p.tables e below (s₁.setTop (mkF m 2 #[.val (.ref a), .val (.int v)] [(.ref a), (.int v)])) _
    refine st1 _ ?_
    show Steps p.tables e below (T1.setTop (mkF m 5 #[.val (.ref a), .val (.int v)] [(.int lo), (.int v)])) _
    refine XS.icmpNo X1.here hx rfl (hb hby d1_5) rfl (flt hc5).1 ?_
    show Steps p.tables e below (T1.setTop (mkF m 8 #[.val (.ref a), .val (.int v)] [])) _
    refine XS.iloadN X1.here hx rfl (hb hby d1_8) rfl ?_
    show Steps p.tables e below (T1.setTop (mkF m 9 #[.val (.ref a), .val (.int v)] [(.int v)])) _
    refine XS.aloadN X1.here hx rfl (hb hby d1_9) rfl rfl ?_
    show Steps p.tables e below (T1.setTop (mkF m 10 #[.val (.ref a), .val (.int v)] [(.ref a), (.int v)])) _
    refine st2 _ ?_
    show Steps p.tables e below (T2.setTop (mkF m 13 #[.val (.ref a), .val (.int v)] [(.int hi), (.int v)])) _
    refine XS.icmpYes X2.here hx rfl (pc0 := 13) (pc' := 20) rfl (hb hby d1_13) rfl (tlt hc13).2.2.1 (by decide) (by decide) ?_
    show Steps p.tables e below (T2.setTop (mkF m 20 #[.val (.ref a), .val (.int v)] [])) _
    refine XS.iconst X2.here hx rfl (hb hby d1_20) ?_
    show Steps p.tables e below (T2.setTop (mkF m 21 #[.val (.ref a), .val (.int v)] [(.int (0 : Int32))])) _
    exact retN X2 hx (t := .boolean) Bd.returns (by simp) (hb hby d1_21) hr
  · exact ⟨rfl, N0, e2⟩
theorem d1_16 : decode prog_80_method_8_code 16 = .ok (.iconst 1, 1) := by decide +kernel
theorem d1_17 : decode prog_80_method_8_code 17 = .ok (.goto 4, 3) := by decide +kernel
set_option maxRecDepth 65536 in
set_option maxHeartbeats 40000000 in
theorem serves_in (l : Launch) (Z : State) (a0 : Array Value) (hw : ∀ d ∈ tables_1, d.before a0 Z = true) (a : Addr) (v lo hi : Int32) (h0 : Heap) (n0 : Nat) (Z0 : n0 ≤ h0.size) (F_oldestVersion_a : Fld Z h0 a "com/example/onceward/onceward/protocol/ApiKey" "oldestVersion" "S" (.int lo)) (F_latestVersion_a : Fld Z h0 a "com/example/onceward/onceward/protocol/ApiKey" "latestVersion" "S" (.int hi)) (hc5 : ¬ (v < lo)) (hc13 : ¬ (hi < v)) :
    RO l Z (⟨"com/example/onceward/onceward/protocol/ApiKey", "serves", "(S)Z"⟩ : MethodName) prog_80_method_8_code 2 (some .boolean) ({ frames := 0, cells := 0, slots := 0, locals := 0 } : Room) #[(.ref a), (.int v)] h0 n0 (.int (1 : Int32)) := by
  intro ws
  refine MetFree.of_bodySF (plainFor_of_name pn_1) hisR ?_
  intro p e s m args below meth c s₁ Bd hml0 hP hK
  obtain ⟨rfl, hZ, hh⟩ := hP
  have hx := Bd.exec
  have hby := Bd.bytes
  have hml : c.maxLocals = 2 := hml0
  have hown : s.vm.findClass "com/example/onceward/onceward/protocol/ApiKey" = some m.cls := findClass_of_methodNamed Bd.named
  have hnm := (name_of_methodNamed Bd.named Bd.method).1
  have X0 : Stand p l e ({ frames := 0, cells := 0, slots := 0, locals := 0 } : Room) s m #[(.ref a), (.int v)] below meth c s₁ [] 0 0 := Stand.of_body Bd
  have e0 : s₁.heap = h0 := by rw [← hh, Bd.state]; rfl
  have N0 := Fr.nil n0
  have pre0 : ∀ t_, Steps p.tables e below (s₁.setTop (mkF m 0 #[.val (.ref a), .val (.int v)] [])) t_ → Steps p.tables e below (s₁.setTop (entryFrame m #[(.ref a), (.int v)] 2)) t_ := fun t_ k_ => castTop (ef_1 m a v) k_
  obtain ⟨T1, X1, e1, st1⟩ := getF X0 hx hZ hown (host := "") (Or.inl (hw _ (List.mem_of_getElem? (i := 51) rfl))) Via.refl e0 F_oldestVersion_a (g := (mkF m 2 #[.val (.ref a), .val (.int v)] [(.ref a), (.int v)])) rfl rfl (hb hby d1_2)
  obtain ⟨T2, X2, e2, st2⟩ := getF X1 hx hZ hown (host := "") (Or.inl (hw _ (List.mem_of_getElem? (i := 53) rfl))) Via.refl e1 F_latestVersion_a (g := (mkF m 10 #[.val (.ref a), .val (.int v)] [(.ref a), (.int v)])) rfl rfl (hb hby d1_10)
  obtain ⟨fs, hr, hrun, hended, hW, hsame⟩ := X2.leave (v := some (.int (1 : Int32))) (fun h => by rw [Bd.returns] at h; cases h)
  refine ⟨_, _, pre0 _ ?_, hrun, hended, _, _, rfl, ?_, ⟨_, rfl⟩, hW, hsame.mono (by decide) (by decide)⟩
  · show Steps p.tables e below (s₁.setTop (mkF m 0 #[.val (.ref a), .val (.int v)] [])) _
    refine XS.iloadN X0.here hx rfl (hb hby d1_0) rfl ?_
    show Steps p.tables e below (s₁.setTop (mkF m 1 #[.val (.ref a), .val (.int v)] [(.int v)])) _
    refine XS.aloadN X0.here hx rfl (hb hby d1_1) rfl rfl ?_
    show Steps p.tables e below (s₁.setTop (mkF m 2 #[.val (.ref a), .val (.int v)] [(.ref a), (.int v)])) _
    refine st1 _ ?_
    show Steps p.tables e below (T1.setTop (mkF m 5 #[.val (.ref a), .val (.int v)] [(.int lo), (.int v)])) _
    refine XS.icmpNo X1.here hx rfl (hb hby d1_5) rfl (flt hc5).1 ?_
    show Steps p.tables e below (T1.setTop (mkF m 8 #[.val (.ref a), .val (.int v)] [])) _
    refine XS.iloadN X1.here hx rfl (hb hby d1_8) rfl ?_
    show Steps p.tables e below (T1.setTop (mkF m 9 #[.val (.ref a), .val (.int v)] [(.int v)])) _
    refine XS.aloadN X1.here hx rfl (hb hby d1_9) rfl rfl ?_
    show Steps p.tables e below (T1.setTop (mkF m 10 #[.val (.ref a), .val (.int v)] [(.ref a), (.int v)])) _
    refine st2 _ ?_
    show Steps p.tables e below (T2.setTop (mkF m 13 #[.val (.ref a), .val (.int v)] [(.int hi), (.int v)])) _
    refine XS.icmpNo X2.here hx rfl (hb hby d1_13) rfl (flt hc13).2.2.1 ?_
    show Steps p.tables e below (T2.setTop (mkF m 16 #[.val (.ref a), .val (.int v)] [])) _
    refine XS.iconst X2.here hx rfl (hb hby d1_16) ?_
    show Steps p.tables e below (T2.setTop (mkF m 17 #[.val (.ref a), .val (.int v)] [(.int (1 : Int32))])) _
    refine XS.goto X2.here hx rfl (pc0 := 17) (pc' := 21) rfl (hb hby d1_17) (by decide) (by decide) ?_
    show Steps p.tables e below (T2.setTop (mkF m 21 #[.val (.ref a), .val (.int v)] [(.int (1 : Int32))])) _
    exact retN X2 hx (t := .boolean) Bd.returns (by simp) (hb hby d1_21) hr
  · exact ⟨rfl, N0, e2⟩
theorem pd_oScZ : parseMethodDescriptor "(S)Z" = some ⟨[.short], some .boolean⟩ := by decide +kernel
theorem pn_0 : plainName "com/example/onceward/onceward/protocol/ApiKeyServesPinLaw" = true := by first | (simp [plainName, overriddenIn]; done) | decide +kernel
theorem ef_0 (m : MethodId) (x0 : Int32) (x1 : Int32) : entryFrame m #[(.int x0), (.int x1)] maxLocals = mkF m 0 #[.val (.int x0), .val (.int x1), .unset, .unset, .unset, .unset, .unset, .unset] [] := by first | (simp [entryFrame, mkF, argsToLocals, Value.category, maxLocals]; done) | rfl
set_option maxRecDepth 65536 in
set_option maxHeartbeats 40000000 in
theorem law_lt (l : Launch) (Z : State) (a0 : Array Value) (hw : ∀ d ∈ tables_1, d.before a0 Z = true) (p1 p2 lo hi : Int32) (w : Nat → Addr) (wk : Addr) (h0 : Heap) (n0 : Nat) (Z0 : n0 ≤ h0.size) (G : Good Z h0 w) (Ek : Exa Z h0 wk "com/example/onceward/onceward/protocol/ApiKey") (hs : ¬ ((p1 &&& (2147483647 : Int32)) % (20 : Int32)) < 0 ∧ ((p1 &&& (2147483647 : Int32)) % (20 : Int32)) < (20 : Int32)) (hwk : ([(.ref (w 0)), (.ref (w 1)), (.ref (w 2)), (.ref (w 3)), (.ref (w 4)), (.ref (w 5)), (.ref (w 6)), (.ref (w 7)), (.ref (w 8)), (.ref (w 9)), (.ref (w 10)), (.ref (w 11)), (.ref (w 12)), (.ref (w 13)), (.ref (w 14)), (.ref (w 15)), (.ref (w 16)), (.ref (w 17)), (.ref (w 18)), (.ref (w 19))] : List Value).getD ((p1 &&& (2147483647 : Int32)) % (20 : Int32)).toNatClampNeg .null = .ref wk) (hlo : ([(.int (3 : Int32)), (.int (4 : Int32)), (.int (1 : Int32)), (.int (0 : Int32)), (.int (1 : Int32)), (.int (1 : Int32)), (.int (0 : Int32)), (.int (0 : Int32)), (.int (0 : Int32)), (.int (0 : Int32)), (.int (0 : Int32)), (.int (0 : Int32)), (.int (0 : Int32)), (.int (0 : Int32)), (.int (0 : Int32)), (.int (0 : Int32)), (.int (0 : Int32)), (.int (0 : Int32)), (.int (0 : Int32)), (.int (0 : Int32))] : List Value).getD ((p1 &&& (2147483647 : Int32)) % (20 : Int32)).toNatClampNeg (.int (0 : Int32)) = .int lo) (hhi : ([(.int (7 : Int32)), (.int (11 : Int32)), (.int (5 : Int32)), (.int (5 : Int32)), (.int (3 : Int32)), (.int (7 : Int32)), (.int (2 : Int32)), (.int (2 : Int32)), (.int (1 : Int32)), (.int (1 : Int32)), (.int (1 : Int32)), (.int (3 : Int32)), (.int (4 : Int32)), (.int (3 : Int32)), (.int (1 : Int32)), (.int (2 : Int32)), (.int (1 : Int32)), (.int (2 : Int32)), (.int (3 : Int32)), (.int (2 : Int32))] : List Value).getD ((p1 &&& (2147483647 : Int32)) % (20 : Int32)).toNatClampNeg (.int (0 : Int32)) = .int hi) (Cs : ∀ h, Keep h0 h [] → RO l Z (⟨"com/example/onceward/onceward/protocol/ApiKey", "serves", "(S)Z"⟩ : MethodName) prog_80_method_8_code 2 (some .boolean) ({ frames := 0, cells := 0, slots := 0, locals := 0 } : Room) #[(.ref wk), (.int (p2.toInt16.toInt32))] h n0 (.int (0 : Int32))) (hc361 : (p2.toInt16.toInt32) < lo) :
    WO l Z x code maxLocals ret room_1 #[(.int p1), (.int p2)] h0 n0 (.int (1 : Int32)) := by
  intro ws
  refine MetFree.of_bodySF (plainFor_of_name pn_0) hisR ?_
  intro p e s m args below meth c s₁ Bd hml0 hP hK
  obtain ⟨rfl, hZ, hh⟩ := hP
  have hx := Bd.exec
  have hby := Bd.bytes
  have hml : c.maxLocals = 8 := hml0
  have hown : s.vm.findClass "com/example/onceward/onceward/protocol/ApiKeyServesPinLaw" = some m.cls := findClass_of_methodNamed Bd.named
  have hnm := (name_of_methodNamed Bd.named Bd.method).1
  have X0 : Stand p l e room_1 s m #[(.int p1), (.int p2)] below meth c s₁ [] 0 0 := Stand.of_body Bd
  have e0 : s₁.heap = h0 := by rw [← hh, Bd.state]; rfl
  have N0 := Fr.nil n0
  have pre0 : ∀ t_, Steps p.tables e below (s₁.setTop (mkF m 0 #[.val (.int p1), .val (.int p2), .unset, .unset, .unset, .unset, .unset, .unset] [])) t_ → Steps p.tables e below (s₁.setTop (entryFrame m #[(.int p1), (.int p2)] maxLocals)) t_ := fun t_ k_ => castTop (ef_0 m p1 p2) k_
  obtain ⟨TA, hA, LA, bA, kA, XA, eA, KA, NA, VA, stA⟩ := fillA X0 hx hZ hw hby hown e0 n0 Z0 N0 w G (by decide) (by decide) (Ls := #[.val (.int p1), .val (.int p2), .unset, .unset, .unset, .unset, .unset, .unset])
  have ZA : n0 ≤ hA.size := Nat.le_trans Z0 KA.1
  obtain ⟨TB, hB, LB, bB, kB, XB, eB, KB, NB, VB, stB⟩ := fillB XA hx hZ hw hby hown eA n0 ZA NA (by decide) (by decide) (Ls := #[.val (.int p1), .val (.int p2), .val (.ref bA), .unset, .unset, .unset, .unset, .unset])
  have ZB : n0 ≤ hB.size := Nat.le_trans ZA KB.1
  obtain ⟨TC, hC, LC, bC, kC, XC, eC, KC, NC, VC, stC⟩ := fillC XB hx hZ hw hby hown eB n0 ZB NB (by decide) (by decide) (Ls := #[.val (.int p1), .val (.int p2), .val (.ref bA), .val (.ref bB), .unset, .unset, .unset, .unset])
  have KAC : Keep h0 hC [] := (KA.trans KB all0).trans KC all0
  obtain ⟨clA, ArA, -, SA, -, HA, -⟩ := (VA.keep KB nin0).keep KC nin0
  obtain ⟨clB, ArB, -, SB, -, HB, -⟩ := VB.keep KC nin0
  obtain ⟨clC, ArC, -, SC, -, HC, -⟩ := VC
  have hinA := inb_of SA hs
  have hatA : clA.slots[((p1 &&& (2147483647 : Int32)) % (20 : Int32)).toNatClampNeg]? = some (.ref wk) := (HA _ (Nat.lt_of_not_le fun q => hinA (Or.inr q))).trans (congrArg some hwk)
  have hinB := inb_of SB hs
  have hatB : clB.slots[((p1 &&& (2147483647 : Int32)) % (20 : Int32)).toNatClampNeg]? = some (.int lo) := (HB _ (Nat.lt_of_not_le fun q => hinB (Or.inr q))).trans (congrArg some hlo)
  have hinC := inb_of SC hs
  have hatC : clC.slots[((p1 &&& (2147483647 : Int32)) % (20 : Int32)).toNatClampNeg]? = some (.int hi) := (HC _ (Nat.lt_of_not_le fun q => hinC (Or.inr q))).trans (congrArg some hhi)
  obtain ⟨cq1, kq1, q1a, q1b, q1c⟩ := isOf hZ eC (Ek.keep KAC)
  obtain ⟨_, _, ⟨T1, L1, k1, n1⟩, -, X1, ⟨Lc1, hQ1, l1, y1, z1⟩, st1⟩ := XC.virtualBack hx (y := (⟨"com/example/onceward/onceward/protocol/ApiKey", "serves", "(S)Z"⟩ : MethodName)) (z := (⟨"com/example/onceward/onceward/protocol/ApiKey", "serves", "(S)Z"⟩ : MethodName)) hown (mvT hZ (hw _ (List.mem_of_getElem? (i := 46) rfl))) (mvT hZ (hw _ (List.mem_of_getElem? (i := 47) rfl))) (notFace_of_selects (args := #[]) (mvT hZ (hw _ (List.mem_of_getElem? (i := 49) rfl)))) (mvT hZ (hw _ (List.mem_of_getElem? (i := 49) rfl))) (mvT hZ (hw _ (List.mem_of_getElem? (i := 48) rfl))) (by decide) (backOf (W := 0) ((Cs _ KAC) []) hZ (hw _ (List.mem_of_getElem? (i := 50) rfl)) (hw _ (List.mem_of_getElem? (i := 3) rfl)) (by decide) (by decide)) q1a q1c (g := (mkF m 387 #[.val (.int p1), .val (.int p2), .val (.ref bA), .val (.ref bB), .val (.ref bC), .val (.int ((p1 &&& (2147483647 : Int32)) % (20 : Int32))), .val (.int (p2.toInt16.toInt32)), .val (.int (0 : Int32))] [(.int (p2.toInt16.toInt32)), (.ref wk)])) rfl (by rw [hml]; rfl) (Steps.refl _) (argsL := [(.int (p2.toInt16.toInt32))]) (rest := []) (lenOf pd_oScZ rfl) rfl (by show 2 * 0 + _ ≤ _; exact Nat.le_of_eq rfl) (hb hby at_387) (fun _ _ => ⟨rfl, eC, (by decide : 3 + 0 ≤ _), (by decide : 60 + 0 ≤ _)⟩)
  dsimp only [Pt.U, Pt.locs, Pt.cells, Pt.slots] at X1 l1 y1 z1 st1 hQ1
  subst l1 y1 z1
  obtain ⟨rfl, N1q, e1⟩ := hQ1
  have N1 := Fr.app NC N1q
  obtain ⟨fs, hr, hrun, hended, hW, hsame⟩ := X1.leave (v := some (.int (1 : Int32))) (fun h => by rw [Bd.returns] at h; cases h)
  refine ⟨_, _, pre0 _ ?_, hrun, hended, _, _, rfl, ?_, ⟨_, rfl⟩, hW, hsame.mono (by decide) (by decide)⟩
  · show Steps p.tables e below (s₁.setTop (mkF m 0 #[.val (.int p1), .val (.int p2), .unset, .unset, .unset, .unset, .unset, .unset] [])) _
    refine stA _ ?_
    show Steps p.tables e below (TA.setTop (mkF m 139 #[.val (.int p1), .val (.int p2), .unset, .unset, .unset, .unset, .unset, .unset] [(.ref bA)])) _
    refine XS.astoreN XA.here hx rfl (hb hby at_139) rfl rfl (l' := #[.val (.int p1), .val (.int p2), .val (.ref bA), .unset, .unset, .unset, .unset, .unset]) rfl ?_
    show Steps p.tables e below (TA.setTop (mkF m 140 #[.val (.int p1), .val (.int p2), .val (.ref bA), .unset, .unset, .unset, .unset, .unset] [])) _
    refine stB _ ?_
    show Steps p.tables e below (TB.setTop (mkF m 238 #[.val (.int p1), .val (.int p2), .val (.ref bA), .unset, .unset, .unset, .unset, .unset] [(.ref bB)])) _
    refine XS.astoreN XB.here hx rfl (hb hby at_238) rfl rfl (l' := #[.val (.int p1), .val (.int p2), .val (.ref bA), .val (.ref bB), .unset, .unset, .unset, .unset]) rfl ?_
    show Steps p.tables e below (TB.setTop (mkF m 239 #[.val (.int p1), .val (.int p2), .val (.ref bA), .val (.ref bB), .unset, .unset, .unset, .unset] [])) _
    refine stC _ ?_
    show Steps p.tables e below (TC.setTop (mkF m 340 #[.val (.int p1), .val (.int p2), .val (.ref bA), .val (.ref bB), .unset, .unset, .unset, .unset] [(.ref bC)])) _
    refine XS.astore XC.here hx rfl (hb hby at_340) rfl rfl (l' := #[.val (.int p1), .val (.int p2), .val (.ref bA), .val (.ref bB), .val (.ref bC), .unset, .unset, .unset]) rfl ?_
    show Steps p.tables e below (TC.setTop (mkF m 342 #[.val (.int p1), .val (.int p2), .val (.ref bA), .val (.ref bB), .val (.ref bC), .unset, .unset, .unset] [])) _
    refine XS.iloadN XC.here hx rfl (hb hby at_342) rfl ?_
    show Steps p.tables e below (TC.setTop (mkF m 343 #[.val (.int p1), .val (.int p2), .val (.ref bA), .val (.ref bB), .val (.ref bC), .unset, .unset, .unset] [(.int p1)])) _
    refine XC.ldcInt hx hown (mvT hZ (hw _ (List.mem_of_getElem? (i := 45) rfl))) (g := (mkF m 343 #[.val (.int p1), .val (.int p2), .val (.ref bA), .val (.ref bB), .val (.ref bC), .unset, .unset, .unset] [(.int p1)])) rfl (hb hby at_343) _ ?_
    show Steps p.tables e below (TC.setTop (mkF m 345 #[.val (.int p1), .val (.int p2), .val (.ref bA), .val (.ref bB), .val (.ref bC), .unset, .unset, .unset] [(.int (2147483647 : Int32)), (.int p1)])) _
    refine XS.iand XC.here hx rfl (hb hby at_345) rfl ?_
    show Steps p.tables e below (TC.setTop (mkF m 346 #[.val (.int p1), .val (.int p2), .val (.ref bA), .val (.ref bB), .val (.ref bC), .unset, .unset, .unset] [(.int (p1 &&& (2147483647 : Int32)))])) _
    refine XS.bipush XC.here hx rfl (hb hby at_346) ?_
    show Steps p.tables e below (TC.setTop (mkF m 348 #[.val (.int p1), .val (.int p2), .val (.ref bA), .val (.ref bB), .val (.ref bC), .unset, .unset, .unset] [(.int (20 : Int32)), (.int (p1 &&& (2147483647 : Int32)))])) _
    refine iremM XC hx rfl (hb hby at_348) rfl (by decide) ?_
    show Steps p.tables e below (TC.setTop (mkF m 349 #[.val (.int p1), .val (.int p2), .val (.ref bA), .val (.ref bB), .val (.ref bC), .unset, .unset, .unset] [(.int ((p1 &&& (2147483647 : Int32)) % (20 : Int32)))])) _
    refine XS.istore XC.here hx rfl (hb hby at_349) rfl (l' := #[.val (.int p1), .val (.int p2), .val (.ref bA), .val (.ref bB), .val (.ref bC), .val (.int ((p1 &&& (2147483647 : Int32)) % (20 : Int32))), .unset, .unset]) rfl ?_
    show Steps p.tables e below (TC.setTop (mkF m 351 #[.val (.int p1), .val (.int p2), .val (.ref bA), .val (.ref bB), .val (.ref bC), .val (.int ((p1 &&& (2147483647 : Int32)) % (20 : Int32))), .unset, .unset] [])) _
    refine XS.iloadN XC.here hx rfl (hb hby at_351) rfl ?_
    show Steps p.tables e below (TC.setTop (mkF m 352 #[.val (.int p1), .val (.int p2), .val (.ref bA), .val (.ref bB), .val (.ref bC), .val (.int ((p1 &&& (2147483647 : Int32)) % (20 : Int32))), .unset, .unset] [(.int p2)])) _
    refine XS.i2s XC.here hx rfl (hb hby at_352) rfl ?_
    show Steps p.tables e below (TC.setTop (mkF m 353 #[.val (.int p1), .val (.int p2), .val (.ref bA), .val (.ref bB), .val (.ref bC), .val (.int ((p1 &&& (2147483647 : Int32)) % (20 : Int32))), .unset, .unset] [(.int (p2.toInt16.toInt32))])) _
    refine XS.istore XC.here hx rfl (hb hby at_353) rfl (l' := #[.val (.int p1), .val (.int p2), .val (.ref bA), .val (.ref bB), .val (.ref bC), .val (.int ((p1 &&& (2147483647 : Int32)) % (20 : Int32))), .val (.int (p2.toInt16.toInt32)), .unset]) rfl ?_
    show Steps p.tables e below (TC.setTop (mkF m 355 #[.val (.int p1), .val (.int p2), .val (.ref bA), .val (.ref bB), .val (.ref bC), .val (.int ((p1 &&& (2147483647 : Int32)) % (20 : Int32))), .val (.int (p2.toInt16.toInt32)), .unset] [])) _
    refine XS.iload XC.here hx rfl (hb hby at_355) rfl ?_
    show Steps p.tables e below (TC.setTop (mkF m 357 #[.val (.int p1), .val (.int p2), .val (.ref bA), .val (.ref bB), .val (.ref bC), .val (.int ((p1 &&& (2147483647 : Int32)) % (20 : Int32))), .val (.int (p2.toInt16.toInt32)), .unset] [(.int (p2.toInt16.toInt32))])) _
    refine XS.aloadN XC.here hx rfl (hb hby at_357) rfl rfl ?_
    show Steps p.tables e below (TC.setTop (mkF m 358 #[.val (.int p1), .val (.int p2), .val (.ref bA), .val (.ref bB), .val (.ref bC), .val (.int ((p1 &&& (2147483647 : Int32)) % (20 : Int32))), .val (.int (p2.toInt16.toInt32)), .unset] [(.ref bB), (.int (p2.toInt16.toInt32))])) _
    refine XS.iload XC.here hx rfl (hb hby at_358) rfl ?_
    show Steps p.tables e below (TC.setTop (mkF m 360 #[.val (.int p1), .val (.int p2), .val (.ref bA), .val (.ref bB), .val (.ref bC), .val (.int ((p1 &&& (2147483647 : Int32)) % (20 : Int32))), .val (.int (p2.toInt16.toInt32)), .unset] [(.int ((p1 &&& (2147483647 : Int32)) % (20 : Int32))), (.ref bB), (.int (p2.toInt16.toInt32))])) _
    refine XC.iaload hx (j := ((p1 &&& (2147483647 : Int32)) % (20 : Int32))) (v := (.int lo)) (by rw [eC]; exact ArB.1) (State.isArrayOf_alike hZ.alike ArB.2.1) ArB.2.2 hinB hatB (g := (mkF m 360 #[.val (.int p1), .val (.int p2), .val (.ref bA), .val (.ref bB), .val (.ref bC), .val (.int ((p1 &&& (2147483647 : Int32)) % (20 : Int32))), .val (.int (p2.toInt16.toInt32)), .unset] [(.int ((p1 &&& (2147483647 : Int32)) % (20 : Int32))), (.ref bB), (.int (p2.toInt16.toInt32))])) rfl rfl (hb hby at_360) _ ?_
    show Steps p.tables e below (TC.setTop (mkF m 361 #[.val (.int p1), .val (.int p2), .val (.ref bA), .val (.ref bB), .val (.ref bC), .val (.int ((p1 &&& (2147483647 : Int32)) % (20 : Int32))), .val (.int (p2.toInt16.toInt32)), .unset] [(.int lo), (.int (p2.toInt16.toInt32))])) _
    refine XS.icmpYes XC.here hx rfl (pc0 := 361) (pc' := 378) rfl (hb hby at_361) rfl (tlt hc361).1 (by decide) (by decide) ?_
    show Steps p.tables e below (TC.setTop (mkF m 378 #[.val (.int p1), .val (.int p2), .val (.ref bA), .val (.ref bB), .val (.ref bC), .val (.int ((p1 &&& (2147483647 : Int32)) % (20 : Int32))), .val (.int (p2.toInt16.toInt32)), .unset] [])) _
    refine XS.iconst XC.here hx rfl (hb hby at_378) ?_
    show Steps p.tables e below (TC.setTop (mkF m 379 #[.val (.int p1), .val (.int p2), .val (.ref bA), .val (.ref bB), .val (.ref bC), .val (.int ((p1 &&& (2147483647 : Int32)) % (20 : Int32))), .val (.int (p2.toInt16.toInt32)), .unset] [(.int (0 : Int32))])) _
    refine XS.istore XC.here hx rfl (hb hby at_379) rfl (l' := #[.val (.int p1), .val (.int p2), .val (.ref bA), .val (.ref bB), .val (.ref bC), .val (.int ((p1 &&& (2147483647 : Int32)) % (20 : Int32))), .val (.int (p2.toInt16.toInt32)), .val (.int (0 : Int32))]) rfl ?_
    show Steps p.tables e below (TC.setTop (mkF m 381 #[.val (.int p1), .val (.int p2), .val (.ref bA), .val (.ref bB), .val (.ref bC), .val (.int ((p1 &&& (2147483647 : Int32)) % (20 : Int32))), .val (.int (p2.toInt16.toInt32)), .val (.int (0 : Int32))] [])) _
    refine XS.aloadN XC.here hx rfl (hb hby at_381) rfl rfl ?_
    show Steps p.tables e below (TC.setTop (mkF m 382 #[.val (.int p1), .val (.int p2), .val (.ref bA), .val (.ref bB), .val (.ref bC), .val (.int ((p1 &&& (2147483647 : Int32)) % (20 : Int32))), .val (.int (p2.toInt16.toInt32)), .val (.int (0 : Int32))] [(.ref bA)])) _
    refine XS.iload XC.here hx rfl (hb hby at_382) rfl ?_
    show Steps p.tables e below (TC.setTop (mkF m 384 #[.val (.int p1), .val (.int p2), .val (.ref bA), .val (.ref bB), .val (.ref bC), .val (.int ((p1 &&& (2147483647 : Int32)) % (20 : Int32))), .val (.int (p2.toInt16.toInt32)), .val (.int (0 : Int32))] [(.int ((p1 &&& (2147483647 : Int32)) % (20 : Int32))), (.ref bA)])) _
    refine XC.aaload hx (j := ((p1 &&& (2147483647 : Int32)) % (20 : Int32))) (v := (.ref wk)) (by rw [eC]; exact ArA.1) (State.isArrayOf_alike hZ.alike ArA.2.1) rfl ArA.2.2 hinA hatA (g := (mkF m 384 #[.val (.int p1), .val (.int p2), .val (.ref bA), .val (.ref bB), .val (.ref bC), .val (.int ((p1 &&& (2147483647 : Int32)) % (20 : Int32))), .val (.int (p2.toInt16.toInt32)), .val (.int (0 : Int32))] [(.int ((p1 &&& (2147483647 : Int32)) % (20 : Int32))), (.ref bA)])) rfl rfl (hb hby at_384) _ ?_
    show Steps p.tables e below (TC.setTop (mkF m 385 #[.val (.int p1), .val (.int p2), .val (.ref bA), .val (.ref bB), .val (.ref bC), .val (.int ((p1 &&& (2147483647 : Int32)) % (20 : Int32))), .val (.int (p2.toInt16.toInt32)), .val (.int (0 : Int32))] [(.ref wk)])) _
    refine XS.iload XC.here hx rfl (hb hby at_385) rfl ?_
    show Steps p.tables e below (TC.setTop (mkF m 387 #[.val (.int p1), .val (.int p2), .val (.ref bA), .val (.ref bB), .val (.ref bC), .val (.int ((p1 &&& (2147483647 : Int32)) % (20 : Int32))), .val (.int (p2.toInt16.toInt32)), .val (.int (0 : Int32))] [(.int (p2.toInt16.toInt32)), (.ref wk)])) _
    refine st1.trans ?_
    show Steps p.tables e below (T1.setTop (mkF m 390 #[.val (.int p1), .val (.int p2), .val (.ref bA), .val (.ref bB), .val (.ref bC), .val (.int ((p1 &&& (2147483647 : Int32)) % (20 : Int32))), .val (.int (p2.toInt16.toInt32)), .val (.int (0 : Int32))] [(.int (0 : Int32))])) _
    refine XS.iload X1.here hx rfl (hb hby at_390) rfl ?_
    show Steps p.tables e below (T1.setTop (mkF m 392 #[.val (.int p1), .val (.int p2), .val (.ref bA), .val (.ref bB), .val (.ref bC), .val (.int ((p1 &&& (2147483647 : Int32)) % (20 : Int32))), .val (.int (p2.toInt16.toInt32)), .val (.int (0 : Int32))] [(.int (0 : Int32)), (.int (0 : Int32))])) _
    refine XS.icmpNo X1.here hx rfl (hb hby at_392) rfl (teq (by decide : (0 : Int32) = (0 : Int32))).2 ?_
    show Steps p.tables e below (T1.setTop (mkF m 395 #[.val (.int p1), .val (.int p2), .val (.ref bA), .val (.ref bB), .val (.ref bC), .val (.int ((p1 &&& (2147483647 : Int32)) % (20 : Int32))), .val (.int (p2.toInt16.toInt32)), .val (.int (0 : Int32))] [])) _
    refine XS.iconst X1.here hx rfl (hb hby at_395) ?_
    show Steps p.tables e below (T1.setTop (mkF m 396 #[.val (.int p1), .val (.int p2), .val (.ref bA), .val (.ref bB), .val (.ref bC), .val (.int ((p1 &&& (2147483647 : Int32)) % (20 : Int32))), .val (.int (p2.toInt16.toInt32)), .val (.int (0 : Int32))] [(.int (1 : Int32))])) _
    refine XS.goto X1.here hx rfl (pc0 := 396) (pc' := 400) rfl (hb hby at_396) (by decide) (by decide) ?_
    show Steps p.tables e below (T1.setTop (mkF m 400 #[.val (.int p1), .val (.int p2), .val (.ref bA), .val (.ref bB), .val (.ref bC), .val (.int ((p1 &&& (2147483647 : Int32)) % (20 : Int32))), .val (.int (p2.toInt16.toInt32)), .val (.int (0 : Int32))] [(.int (1 : Int32))])) _
    exact retN X1 hx (t := .boolean) Bd.returns (by simp) (hb hby at_400) hr
  · exact ⟨rfl, N1⟩
set_option maxRecDepth 65536 in
set_option maxHeartbeats 40000000 in
theorem law_gt (l : Launch) (Z : State) (a0 : Array Value) (hw : ∀ d ∈ tables_1, d.before a0 Z = true) (p1 p2 lo hi : Int32) (w : Nat → Addr) (wk : Addr) (h0 : Heap) (n0 : Nat) (Z0 : n0 ≤ h0.size) (G : Good Z h0 w) (Ek : Exa Z h0 wk "com/example/onceward/onceward/protocol/ApiKey") (hs : ¬ ((p1 &&& (2147483647 : Int32)) % (20 : Int32)) < 0 ∧ ((p1 &&& (2147483647 : Int32)) % (20 : Int32)) < (20 : Int32)) (hwk : ([(.ref (w 0)), (.ref (w 1)), (.ref (w 2)), (.ref (w 3)), (.ref (w 4)), (.ref (w 5)), (.ref (w 6)), (.ref (w 7)), (.ref (w 8)), (.ref (w 9)), (.ref (w 10)), (.ref (w 11)), (.ref (w 12)), (.ref (w 13)), (.ref (w 14)), (.ref (w 15)), (.ref (w 16)), (.ref (w 17)), (.ref (w 18)), (.ref (w 19))] : List Value).getD ((p1 &&& (2147483647 : Int32)) % (20 : Int32)).toNatClampNeg .null = .ref wk) (hlo : ([(.int (3 : Int32)), (.int (4 : Int32)), (.int (1 : Int32)), (.int (0 : Int32)), (.int (1 : Int32)), (.int (1 : Int32)), (.int (0 : Int32)), (.int (0 : Int32)), (.int (0 : Int32)), (.int (0 : Int32)), (.int (0 : Int32)), (.int (0 : Int32)), (.int (0 : Int32)), (.int (0 : Int32)), (.int (0 : Int32)), (.int (0 : Int32)), (.int (0 : Int32)), (.int (0 : Int32)), (.int (0 : Int32)), (.int (0 : Int32))] : List Value).getD ((p1 &&& (2147483647 : Int32)) % (20 : Int32)).toNatClampNeg (.int (0 : Int32)) = .int lo) (hhi : ([(.int (7 : Int32)), (.int (11 : Int32)), (.int (5 : Int32)), (.int (5 : Int32)), (.int (3 : Int32)), (.int (7 : Int32)), (.int (2 : Int32)), (.int (2 : Int32)), (.int (1 : Int32)), (.int (1 : Int32)), (.int (1 : Int32)), (.int (3 : Int32)), (.int (4 : Int32)), (.int (3 : Int32)), (.int (1 : Int32)), (.int (2 : Int32)), (.int (1 : Int32)), (.int (2 : Int32)), (.int (3 : Int32)), (.int (2 : Int32))] : List Value).getD ((p1 &&& (2147483647 : Int32)) % (20 : Int32)).toNatClampNeg (.int (0 : Int32)) = .int hi) (Cs : ∀ h, Keep h0 h [] → RO l Z (⟨"com/example/onceward/onceward/protocol/ApiKey", "serves", "(S)Z"⟩ : MethodName) prog_80_method_8_code 2 (some .boolean) ({ frames := 0, cells := 0, slots := 0, locals := 0 } : Room) #[(.ref wk), (.int (p2.toInt16.toInt32))] h n0 (.int (0 : Int32))) (hc361 : ¬ ((p2.toInt16.toInt32) < lo)) (hc371 : hi < (p2.toInt16.toInt32)) :
    WO l Z x code maxLocals ret room_1 #[(.int p1), (.int p2)] h0 n0 (.int (1 : Int32)) := by
  intro ws
  refine MetFree.of_bodySF (plainFor_of_name pn_0) hisR ?_
  intro p e s m args below meth c s₁ Bd hml0 hP hK
  obtain ⟨rfl, hZ, hh⟩ := hP
  have hx := Bd.exec
  have hby := Bd.bytes
  have hml : c.maxLocals = 8 := hml0
  have hown : s.vm.findClass "com/example/onceward/onceward/protocol/ApiKeyServesPinLaw" = some m.cls := findClass_of_methodNamed Bd.named
  have hnm := (name_of_methodNamed Bd.named Bd.method).1
  have X0 : Stand p l e room_1 s m #[(.int p1), (.int p2)] below meth c s₁ [] 0 0 := Stand.of_body Bd
  have e0 : s₁.heap = h0 := by rw [← hh, Bd.state]; rfl
  have N0 := Fr.nil n0
  have pre0 : ∀ t_, Steps p.tables e below (s₁.setTop (mkF m 0 #[.val (.int p1), .val (.int p2), .unset, .unset, .unset, .unset, .unset, .unset] [])) t_ → Steps p.tables e below (s₁.setTop (entryFrame m #[(.int p1), (.int p2)] maxLocals)) t_ := fun t_ k_ => castTop (ef_0 m p1 p2) k_
  obtain ⟨TA, hA, LA, bA, kA, XA, eA, KA, NA, VA, stA⟩ := fillA X0 hx hZ hw hby hown e0 n0 Z0 N0 w G (by decide) (by decide) (Ls := #[.val (.int p1), .val (.int p2), .unset, .unset, .unset, .unset, .unset, .unset])
  have ZA : n0 ≤ hA.size := Nat.le_trans Z0 KA.1
  obtain ⟨TB, hB, LB, bB, kB, XB, eB, KB, NB, VB, stB⟩ := fillB XA hx hZ hw hby hown eA n0 ZA NA (by decide) (by decide) (Ls := #[.val (.int p1), .val (.int p2), .val (.ref bA), .unset, .unset, .unset, .unset, .unset])
  have ZB : n0 ≤ hB.size := Nat.le_trans ZA KB.1
  obtain ⟨TC, hC, LC, bC, kC, XC, eC, KC, NC, VC, stC⟩ := fillC XB hx hZ hw hby hown eB n0 ZB NB (by decide) (by decide) (Ls := #[.val (.int p1), .val (.int p2), .val (.ref bA), .val (.ref bB), .unset, .unset, .unset, .unset])
  have KAC : Keep h0 hC [] := (KA.trans KB all0).trans KC all0
  obtain ⟨clA, ArA, -, SA, -, HA, -⟩ := (VA.keep KB nin0).keep KC nin0
  obtain ⟨clB, ArB, -, SB, -, HB, -⟩ := VB.keep KC nin0
  obtain ⟨clC, ArC, -, SC, -, HC, -⟩ := VC
  have hinA := inb_of SA hs
  have hatA : clA.slots[((p1 &&& (2147483647 : Int32)) % (20 : Int32)).toNatClampNeg]? = some (.ref wk) := (HA _ (Nat.lt_of_not_le fun q => hinA (Or.inr q))).trans (congrArg some hwk)
  have hinB := inb_of SB hs
  have hatB : clB.slots[((p1 &&& (2147483647 : Int32)) % (20 : Int32)).toNatClampNeg]? = some (.int lo) := (HB _ (Nat.lt_of_not_le fun q => hinB (Or.inr q))).trans (congrArg some hlo)
  have hinC := inb_of SC hs
  have hatC : clC.slots[((p1 &&& (2147483647 : Int32)) % (20 : Int32)).toNatClampNeg]? = some (.int hi) := (HC _ (Nat.lt_of_not_le fun q => hinC (Or.inr q))).trans (congrArg some hhi)
  obtain ⟨cq1, kq1, q1a, q1b, q1c⟩ := isOf hZ eC (Ek.keep KAC)
  obtain ⟨_, _, ⟨T1, L1, k1, n1⟩, -, X1, ⟨Lc1, hQ1, l1, y1, z1⟩, st1⟩ := XC.virtualBack hx (y := (⟨"com/example/onceward/onceward/protocol/ApiKey", "serves", "(S)Z"⟩ : MethodName)) (z := (⟨"com/example/onceward/onceward/protocol/ApiKey", "serves", "(S)Z"⟩ : MethodName)) hown (mvT hZ (hw _ (List.mem_of_getElem? (i := 46) rfl))) (mvT hZ (hw _ (List.mem_of_getElem? (i := 47) rfl))) (notFace_of_selects (args := #[]) (mvT hZ (hw _ (List.mem_of_getElem? (i := 49) rfl)))) (mvT hZ (hw _ (List.mem_of_getElem? (i := 49) rfl))) (mvT hZ (hw _ (List.mem_of_getElem? (i := 48) rfl))) (by decide) (backOf (W := 0) ((Cs _ KAC) []) hZ (hw _ (List.mem_of_getElem? (i := 50) rfl)) (hw _ (List.mem_of_getElem? (i := 3) rfl)) (by decide) (by decide)) q1a q1c (g := (mkF m 387 #[.val (.int p1), .val (.int p2), .val (.ref bA), .val (.ref bB), .val (.ref bC), .val (.int ((p1 &&& (2147483647 : Int32)) % (20 : Int32))), .val (.int (p2.toInt16.toInt32)), .val (.int (0 : Int32))] [(.int (p2.toInt16.toInt32)), (.ref wk)])) rfl (by rw [hml]; rfl) (Steps.refl _) (argsL := [(.int (p2.toInt16.toInt32))]) (rest := []) (lenOf pd_oScZ rfl) rfl (by show 2 * 0 + _ ≤ _; exact Nat.le_of_eq rfl) (hb hby at_387) (fun _ _ => ⟨rfl, eC, (by decide : 3 + 0 ≤ _), (by decide : 60 + 0 ≤ _)⟩)
  dsimp only [Pt.U, Pt.locs, Pt.cells, Pt.slots] at X1 l1 y1 z1 st1 hQ1
  subst l1 y1 z1
  obtain ⟨rfl, N1q, e1⟩ := hQ1
  have N1 := Fr.app NC N1q
  obtain ⟨fs, hr, hrun, hended, hW, hsame⟩ := X1.leave (v := some (.int (1 : Int32))) (fun h => by rw [Bd.returns] at h; cases h)
  refine ⟨_, _, pre0 _ ?_, hrun, hended, _, _, rfl, ?_, ⟨_, rfl⟩, hW, hsame.mono (by decide) (by decide)⟩
  · show Steps p.tables e below (s₁.setTop (mkF m 0 #[.val (.int p1), .val (.int p2), .unset, .unset, .unset, .unset, .unset, .unset] [])) _
    refine stA _ ?_
    show Steps p.tables e below (TA.setTop (mkF m 139 #[.val (.int p1), .val (.int p2), .unset, .unset, .unset, .unset, .unset, .unset] [(.ref bA)])) _
    refine XS.astoreN XA.here hx rfl (hb hby at_139) rfl rfl (l' := #[.val (.int p1), .val (.int p2), .val (.ref bA), .unset, .unset, .unset, .unset, .unset]) rfl ?_
    show Steps p.tables e below (TA.setTop (mkF m 140 #[.val (.int p1), .val (.int p2), .val (.ref bA), .unset, .unset, .unset, .unset, .unset] [])) _
    refine stB _ ?_
    show Steps p.tables e below (TB.setTop (mkF m 238 #[.val (.int p1), .val (.int p2), .val (.ref bA), .unset, .unset, .unset, .unset, .unset] [(.ref bB)])) _
    refine XS.astoreN XB.here hx rfl (hb hby at_238) rfl rfl (l' := #[.val (.int p1), .val (.int p2), .val (.ref bA), .val (.ref bB), .unset, .unset, .unset, .unset]) rfl ?_
    show Steps p.tables e below (TB.setTop (mkF m 239 #[.val (.int p1), .val (.int p2), .val (.ref bA), .val (.ref bB), .unset, .unset, .unset, .unset] [])) _
    refine stC _ ?_
    show Steps p.tables e below (TC.setTop (mkF m 340 #[.val (.int p1), .val (.int p2), .val (.ref bA), .val (.ref bB), .unset, .unset, .unset, .unset] [(.ref bC)])) _
    refine XS.astore XC.here hx rfl (hb hby at_340) rfl rfl (l' := #[.val (.int p1), .val (.int p2), .val (.ref bA), .val (.ref bB), .val (.ref bC), .unset, .unset, .unset]) rfl ?_
    show Steps p.tables e below (TC.setTop (mkF m 342 #[.val (.int p1), .val (.int p2), .val (.ref bA), .val (.ref bB), .val (.ref bC), .unset, .unset, .unset] [])) _
    refine XS.iloadN XC.here hx rfl (hb hby at_342) rfl ?_
    show Steps p.tables e below (TC.setTop (mkF m 343 #[.val (.int p1), .val (.int p2), .val (.ref bA), .val (.ref bB), .val (.ref bC), .unset, .unset, .unset] [(.int p1)])) _
    refine XC.ldcInt hx hown (mvT hZ (hw _ (List.mem_of_getElem? (i := 45) rfl))) (g := (mkF m 343 #[.val (.int p1), .val (.int p2), .val (.ref bA), .val (.ref bB), .val (.ref bC), .unset, .unset, .unset] [(.int p1)])) rfl (hb hby at_343) _ ?_
    show Steps p.tables e below (TC.setTop (mkF m 345 #[.val (.int p1), .val (.int p2), .val (.ref bA), .val (.ref bB), .val (.ref bC), .unset, .unset, .unset] [(.int (2147483647 : Int32)), (.int p1)])) _
    refine XS.iand XC.here hx rfl (hb hby at_345) rfl ?_
    show Steps p.tables e below (TC.setTop (mkF m 346 #[.val (.int p1), .val (.int p2), .val (.ref bA), .val (.ref bB), .val (.ref bC), .unset, .unset, .unset] [(.int (p1 &&& (2147483647 : Int32)))])) _
    refine XS.bipush XC.here hx rfl (hb hby at_346) ?_
    show Steps p.tables e below (TC.setTop (mkF m 348 #[.val (.int p1), .val (.int p2), .val (.ref bA), .val (.ref bB), .val (.ref bC), .unset, .unset, .unset] [(.int (20 : Int32)), (.int (p1 &&& (2147483647 : Int32)))])) _
    refine iremM XC hx rfl (hb hby at_348) rfl (by decide) ?_
    show Steps p.tables e below (TC.setTop (mkF m 349 #[.val (.int p1), .val (.int p2), .val (.ref bA), .val (.ref bB), .val (.ref bC), .unset, .unset, .unset] [(.int ((p1 &&& (2147483647 : Int32)) % (20 : Int32)))])) _
    refine XS.istore XC.here hx rfl (hb hby at_349) rfl (l' := #[.val (.int p1), .val (.int p2), .val (.ref bA), .val (.ref bB), .val (.ref bC), .val (.int ((p1 &&& (2147483647 : Int32)) % (20 : Int32))), .unset, .unset]) rfl ?_
    show Steps p.tables e below (TC.setTop (mkF m 351 #[.val (.int p1), .val (.int p2), .val (.ref bA), .val (.ref bB), .val (.ref bC), .val (.int ((p1 &&& (2147483647 : Int32)) % (20 : Int32))), .unset, .unset] [])) _
    refine XS.iloadN XC.here hx rfl (hb hby at_351) rfl ?_
    show Steps p.tables e below (TC.setTop (mkF m 352 #[.val (.int p1), .val (.int p2), .val (.ref bA), .val (.ref bB), .val (.ref bC), .val (.int ((p1 &&& (2147483647 : Int32)) % (20 : Int32))), .unset, .unset] [(.int p2)])) _
    refine XS.i2s XC.here hx rfl (hb hby at_352) rfl ?_
    show Steps p.tables e below (TC.setTop (mkF m 353 #[.val (.int p1), .val (.int p2), .val (.ref bA), .val (.ref bB), .val (.ref bC), .val (.int ((p1 &&& (2147483647 : Int32)) % (20 : Int32))), .unset, .unset] [(.int (p2.toInt16.toInt32))])) _
    refine XS.istore XC.here hx rfl (hb hby at_353) rfl (l' := #[.val (.int p1), .val (.int p2), .val (.ref bA), .val (.ref bB), .val (.ref bC), .val (.int ((p1 &&& (2147483647 : Int32)) % (20 : Int32))), .val (.int (p2.toInt16.toInt32)), .unset]) rfl ?_
    show Steps p.tables e below (TC.setTop (mkF m 355 #[.val (.int p1), .val (.int p2), .val (.ref bA), .val (.ref bB), .val (.ref bC), .val (.int ((p1 &&& (2147483647 : Int32)) % (20 : Int32))), .val (.int (p2.toInt16.toInt32)), .unset] [])) _
    refine XS.iload XC.here hx rfl (hb hby at_355) rfl ?_
    show Steps p.tables e below (TC.setTop (mkF m 357 #[.val (.int p1), .val (.int p2), .val (.ref bA), .val (.ref bB), .val (.ref bC), .val (.int ((p1 &&& (2147483647 : Int32)) % (20 : Int32))), .val (.int (p2.toInt16.toInt32)), .unset] [(.int (p2.toInt16.toInt32))])) _
    refine XS.aloadN XC.here hx rfl (hb hby at_357) rfl rfl ?_
    show Steps p.tables e below (TC.setTop (mkF m 358 #[.val (.int p1), .val (.int p2), .val (.ref bA), .val (.ref bB), .val (.ref bC), .val (.int ((p1 &&& (2147483647 : Int32)) % (20 : Int32))), .val (.int (p2.toInt16.toInt32)), .unset] [(.ref bB), (.int (p2.toInt16.toInt32))])) _
    refine XS.iload XC.here hx rfl (hb hby at_358) rfl ?_
    show Steps p.tables e below (TC.setTop (mkF m 360 #[.val (.int p1), .val (.int p2), .val (.ref bA), .val (.ref bB), .val (.ref bC), .val (.int ((p1 &&& (2147483647 : Int32)) % (20 : Int32))), .val (.int (p2.toInt16.toInt32)), .unset] [(.int ((p1 &&& (2147483647 : Int32)) % (20 : Int32))), (.ref bB), (.int (p2.toInt16.toInt32))])) _
    refine XC.iaload hx (j := ((p1 &&& (2147483647 : Int32)) % (20 : Int32))) (v := (.int lo)) (by rw [eC]; exact ArB.1) (State.isArrayOf_alike hZ.alike ArB.2.1) ArB.2.2 hinB hatB (g := (mkF m 360 #[.val (.int p1), .val (.int p2), .val (.ref bA), .val (.ref bB), .val (.ref bC), .val (.int ((p1 &&& (2147483647 : Int32)) % (20 : Int32))), .val (.int (p2.toInt16.toInt32)), .unset] [(.int ((p1 &&& (2147483647 : Int32)) % (20 : Int32))), (.ref bB), (.int (p2.toInt16.toInt32))])) rfl rfl (hb hby at_360) _ ?_
    show Steps p.tables e below (TC.setTop (mkF m 361 #[.val (.int p1), .val (.int p2), .val (.ref bA), .val (.ref bB), .val (.ref bC), .val (.int ((p1 &&& (2147483647 : Int32)) % (20 : Int32))), .val (.int (p2.toInt16.toInt32)), .unset] [(.int lo), (.int (p2.toInt16.toInt32))])) _
    refine XS.icmpNo XC.here hx rfl (hb hby at_361) rfl (flt hc361).1 ?_
    show Steps p.tables e below (TC.setTop (mkF m 364 #[.val (.int p1), .val (.int p2), .val (.ref bA), .val (.ref bB), .val (.ref bC), .val (.int ((p1 &&& (2147483647 : Int32)) % (20 : Int32))), .val (.int (p2.toInt16.toInt32)), .unset] [])) _
    refine XS.iload XC.here hx rfl (hb hby at_364) rfl ?_
    show Steps p.tables e below (TC.setTop (mkF m 366 #[.val (.int p1), .val (.int p2), .val (.ref bA), .val (.ref bB), .val (.ref bC), .val (.int ((p1 &&& (2147483647 : Int32)) % (20 : Int32))), .val (.int (p2.toInt16.toInt32)), .unset] [(.int (p2.toInt16.toInt32))])) _
    refine XS.aload XC.here hx rfl (hb hby at_366) rfl rfl ?_
    show Steps p.tables e below (TC.setTop (mkF m 368 #[.val (.int p1), .val (.int p2), .val (.ref bA), .val (.ref bB), .val (.ref bC), .val (.int ((p1 &&& (2147483647 : Int32)) % (20 : Int32))), .val (.int (p2.toInt16.toInt32)), .unset] [(.ref bC), (.int (p2.toInt16.toInt32))])) _
    refine XS.iload XC.here hx rfl (hb hby at_368) rfl ?_
    show Steps p.tables e below (TC.setTop (mkF m 370 #[.val (.int p1), .val (.int p2), .val (.ref bA), .val (.ref bB), .val (.ref bC), .val (.int ((p1 &&& (2147483647 : Int32)) % (20 : Int32))), .val (.int (p2.toInt16.toInt32)), .unset] [(.int ((p1 &&& (2147483647 : Int32)) % (20 : Int32))), (.ref bC), (.int (p2.toInt16.toInt32))])) _
    refine XC.iaload hx (j := ((p1 &&& (2147483647 : Int32)) % (20 : Int32))) (v := (.int hi)) (by rw [eC]; exact ArC.1) (State.isArrayOf_alike hZ.alike ArC.2.1) ArC.2.2 hinC hatC (g := (mkF m 370 #[.val (.int p1), .val (.int p2), .val (.ref bA), .val (.ref bB), .val (.ref bC), .val (.int ((p1 &&& (2147483647 : Int32)) % (20 : Int32))), .val (.int (p2.toInt16.toInt32)), .unset] [(.int ((p1 &&& (2147483647 : Int32)) % (20 : Int32))), (.ref bC), (.int (p2.toInt16.toInt32))])) rfl rfl (hb hby at_370) _ ?_
    show Steps p.tables e below (TC.setTop (mkF m 371 #[.val (.int p1), .val (.int p2), .val (.ref bA), .val (.ref bB), .val (.ref bC), .val (.int ((p1 &&& (2147483647 : Int32)) % (20 : Int32))), .val (.int (p2.toInt16.toInt32)), .unset] [(.int hi), (.int (p2.toInt16.toInt32))])) _
    refine XS.icmpYes XC.here hx rfl (pc0 := 371) (pc' := 378) rfl (hb hby at_371) rfl (tlt hc371).2.2.1 (by decide) (by decide) ?_
    show Steps p.tables e below (TC.setTop (mkF m 378 #[.val (.int p1), .val (.int p2), .val (.ref bA), .val (.ref bB), .val (.ref bC), .val (.int ((p1 &&& (2147483647 : Int32)) % (20 : Int32))), .val (.int (p2.toInt16.toInt32)), .unset] [])) _
    refine XS.iconst XC.here hx rfl (hb hby at_378) ?_
    show Steps p.tables e below (TC.setTop (mkF m 379 #[.val (.int p1), .val (.int p2), .val (.ref bA), .val (.ref bB), .val (.ref bC), .val (.int ((p1 &&& (2147483647 : Int32)) % (20 : Int32))), .val (.int (p2.toInt16.toInt32)), .unset] [(.int (0 : Int32))])) _
    refine XS.istore XC.here hx rfl (hb hby at_379) rfl (l' := #[.val (.int p1), .val (.int p2), .val (.ref bA), .val (.ref bB), .val (.ref bC), .val (.int ((p1 &&& (2147483647 : Int32)) % (20 : Int32))), .val (.int (p2.toInt16.toInt32)), .val (.int (0 : Int32))]) rfl ?_
    show Steps p.tables e below (TC.setTop (mkF m 381 #[.val (.int p1), .val (.int p2), .val (.ref bA), .val (.ref bB), .val (.ref bC), .val (.int ((p1 &&& (2147483647 : Int32)) % (20 : Int32))), .val (.int (p2.toInt16.toInt32)), .val (.int (0 : Int32))] [])) _
    refine XS.aloadN XC.here hx rfl (hb hby at_381) rfl rfl ?_
    show Steps p.tables e below (TC.setTop (mkF m 382 #[.val (.int p1), .val (.int p2), .val (.ref bA), .val (.ref bB), .val (.ref bC), .val (.int ((p1 &&& (2147483647 : Int32)) % (20 : Int32))), .val (.int (p2.toInt16.toInt32)), .val (.int (0 : Int32))] [(.ref bA)])) _
    refine XS.iload XC.here hx rfl (hb hby at_382) rfl ?_
    show Steps p.tables e below (TC.setTop (mkF m 384 #[.val (.int p1), .val (.int p2), .val (.ref bA), .val (.ref bB), .val (.ref bC), .val (.int ((p1 &&& (2147483647 : Int32)) % (20 : Int32))), .val (.int (p2.toInt16.toInt32)), .val (.int (0 : Int32))] [(.int ((p1 &&& (2147483647 : Int32)) % (20 : Int32))), (.ref bA)])) _
    refine XC.aaload hx (j := ((p1 &&& (2147483647 : Int32)) % (20 : Int32))) (v := (.ref wk)) (by rw [eC]; exact ArA.1) (State.isArrayOf_alike hZ.alike ArA.2.1) rfl ArA.2.2 hinA hatA (g := (mkF m 384 #[.val (.int p1), .val (.int p2), .val (.ref bA), .val (.ref bB), .val (.ref bC), .val (.int ((p1 &&& (2147483647 : Int32)) % (20 : Int32))), .val (.int (p2.toInt16.toInt32)), .val (.int (0 : Int32))] [(.int ((p1 &&& (2147483647 : Int32)) % (20 : Int32))), (.ref bA)])) rfl rfl (hb hby at_384) _ ?_
    show Steps p.tables e below (TC.setTop (mkF m 385 #[.val (.int p1), .val (.int p2), .val (.ref bA), .val (.ref bB), .val (.ref bC), .val (.int ((p1 &&& (2147483647 : Int32)) % (20 : Int32))), .val (.int (p2.toInt16.toInt32)), .val (.int (0 : Int32))] [(.ref wk)])) _
    refine XS.iload XC.here hx rfl (hb hby at_385) rfl ?_
    show Steps p.tables e below (TC.setTop (mkF m 387 #[.val (.int p1), .val (.int p2), .val (.ref bA), .val (.ref bB), .val (.ref bC), .val (.int ((p1 &&& (2147483647 : Int32)) % (20 : Int32))), .val (.int (p2.toInt16.toInt32)), .val (.int (0 : Int32))] [(.int (p2.toInt16.toInt32)), (.ref wk)])) _
    refine st1.trans ?_
    show Steps p.tables e below (T1.setTop (mkF m 390 #[.val (.int p1), .val (.int p2), .val (.ref bA), .val (.ref bB), .val (.ref bC), .val (.int ((p1 &&& (2147483647 : Int32)) % (20 : Int32))), .val (.int (p2.toInt16.toInt32)), .val (.int (0 : Int32))] [(.int (0 : Int32))])) _
    refine XS.iload X1.here hx rfl (hb hby at_390) rfl ?_
    show Steps p.tables e below (T1.setTop (mkF m 392 #[.val (.int p1), .val (.int p2), .val (.ref bA), .val (.ref bB), .val (.ref bC), .val (.int ((p1 &&& (2147483647 : Int32)) % (20 : Int32))), .val (.int (p2.toInt16.toInt32)), .val (.int (0 : Int32))] [(.int (0 : Int32)), (.int (0 : Int32))])) _
    refine XS.icmpNo X1.here hx rfl (hb hby at_392) rfl (teq (by decide : (0 : Int32) = (0 : Int32))).2 ?_
    show Steps p.tables e below (T1.setTop (mkF m 395 #[.val (.int p1), .val (.int p2), .val (.ref bA), .val (.ref bB), .val (.ref bC), .val (.int ((p1 &&& (2147483647 : Int32)) % (20 : Int32))), .val (.int (p2.toInt16.toInt32)), .val (.int (0 : Int32))] [])) _
    refine XS.iconst X1.here hx rfl (hb hby at_395) ?_
    show Steps p.tables e below (T1.setTop (mkF m 396 #[.val (.int p1), .val (.int p2), .val (.ref bA), .val (.ref bB), .val (.ref bC), .val (.int ((p1 &&& (2147483647 : Int32)) % (20 : Int32))), .val (.int (p2.toInt16.toInt32)), .val (.int (0 : Int32))] [(.int (1 : Int32))])) _
    refine XS.goto X1.here hx rfl (pc0 := 396) (pc' := 400) rfl (hb hby at_396) (by decide) (by decide) ?_
    show Steps p.tables e below (T1.setTop (mkF m 400 #[.val (.int p1), .val (.int p2), .val (.ref bA), .val (.ref bB), .val (.ref bC), .val (.int ((p1 &&& (2147483647 : Int32)) % (20 : Int32))), .val (.int (p2.toInt16.toInt32)), .val (.int (0 : Int32))] [(.int (1 : Int32))])) _
    exact retN X1 hx (t := .boolean) Bd.returns (by simp) (hb hby at_400) hr
  · exact ⟨rfl, N1⟩
set_option maxRecDepth 65536 in
set_option maxHeartbeats 40000000 in
theorem law_in (l : Launch) (Z : State) (a0 : Array Value) (hw : ∀ d ∈ tables_1, d.before a0 Z = true) (p1 p2 lo hi : Int32) (w : Nat → Addr) (wk : Addr) (h0 : Heap) (n0 : Nat) (Z0 : n0 ≤ h0.size) (G : Good Z h0 w) (Ek : Exa Z h0 wk "com/example/onceward/onceward/protocol/ApiKey") (hs : ¬ ((p1 &&& (2147483647 : Int32)) % (20 : Int32)) < 0 ∧ ((p1 &&& (2147483647 : Int32)) % (20 : Int32)) < (20 : Int32)) (hwk : ([(.ref (w 0)), (.ref (w 1)), (.ref (w 2)), (.ref (w 3)), (.ref (w 4)), (.ref (w 5)), (.ref (w 6)), (.ref (w 7)), (.ref (w 8)), (.ref (w 9)), (.ref (w 10)), (.ref (w 11)), (.ref (w 12)), (.ref (w 13)), (.ref (w 14)), (.ref (w 15)), (.ref (w 16)), (.ref (w 17)), (.ref (w 18)), (.ref (w 19))] : List Value).getD ((p1 &&& (2147483647 : Int32)) % (20 : Int32)).toNatClampNeg .null = .ref wk) (hlo : ([(.int (3 : Int32)), (.int (4 : Int32)), (.int (1 : Int32)), (.int (0 : Int32)), (.int (1 : Int32)), (.int (1 : Int32)), (.int (0 : Int32)), (.int (0 : Int32)), (.int (0 : Int32)), (.int (0 : Int32)), (.int (0 : Int32)), (.int (0 : Int32)), (.int (0 : Int32)), (.int (0 : Int32)), (.int (0 : Int32)), (.int (0 : Int32)), (.int (0 : Int32)), (.int (0 : Int32)), (.int (0 : Int32)), (.int (0 : Int32))] : List Value).getD ((p1 &&& (2147483647 : Int32)) % (20 : Int32)).toNatClampNeg (.int (0 : Int32)) = .int lo) (hhi : ([(.int (7 : Int32)), (.int (11 : Int32)), (.int (5 : Int32)), (.int (5 : Int32)), (.int (3 : Int32)), (.int (7 : Int32)), (.int (2 : Int32)), (.int (2 : Int32)), (.int (1 : Int32)), (.int (1 : Int32)), (.int (1 : Int32)), (.int (3 : Int32)), (.int (4 : Int32)), (.int (3 : Int32)), (.int (1 : Int32)), (.int (2 : Int32)), (.int (1 : Int32)), (.int (2 : Int32)), (.int (3 : Int32)), (.int (2 : Int32))] : List Value).getD ((p1 &&& (2147483647 : Int32)) % (20 : Int32)).toNatClampNeg (.int (0 : Int32)) = .int hi) (Cs : ∀ h, Keep h0 h [] → RO l Z (⟨"com/example/onceward/onceward/protocol/ApiKey", "serves", "(S)Z"⟩ : MethodName) prog_80_method_8_code 2 (some .boolean) ({ frames := 0, cells := 0, slots := 0, locals := 0 } : Room) #[(.ref wk), (.int (p2.toInt16.toInt32))] h n0 (.int (1 : Int32))) (hc361 : ¬ ((p2.toInt16.toInt32) < lo)) (hc371 : ¬ (hi < (p2.toInt16.toInt32))) :
    WO l Z x code maxLocals ret room_1 #[(.int p1), (.int p2)] h0 n0 (.int (1 : Int32)) := by
  intro ws
  refine MetFree.of_bodySF (plainFor_of_name pn_0) hisR ?_
  intro p e s m args below meth c s₁ Bd hml0 hP hK
  obtain ⟨rfl, hZ, hh⟩ := hP
  have hx := Bd.exec
  have hby := Bd.bytes
  have hml : c.maxLocals = 8 := hml0
  have hown : s.vm.findClass "com/example/onceward/onceward/protocol/ApiKeyServesPinLaw" = some m.cls := findClass_of_methodNamed Bd.named
  have hnm := (name_of_methodNamed Bd.named Bd.method).1
  have X0 : Stand p l e room_1 s m #[(.int p1), (.int p2)] below meth c s₁ [] 0 0 := Stand.of_body Bd
  have e0 : s₁.heap = h0 := by rw [← hh, Bd.state]; rfl
  have N0 := Fr.nil n0
  have pre0 : ∀ t_, Steps p.tables e below (s₁.setTop (mkF m 0 #[.val (.int p1), .val (.int p2), .unset, .unset, .unset, .unset, .unset, .unset] [])) t_ → Steps p.tables e below (s₁.setTop (entryFrame m #[(.int p1), (.int p2)] maxLocals)) t_ := fun t_ k_ => castTop (ef_0 m p1 p2) k_
  obtain ⟨TA, hA, LA, bA, kA, XA, eA, KA, NA, VA, stA⟩ := fillA X0 hx hZ hw hby hown e0 n0 Z0 N0 w G (by decide) (by decide) (Ls := #[.val (.int p1), .val (.int p2), .unset, .unset, .unset, .unset, .unset, .unset])
  have ZA : n0 ≤ hA.size := Nat.le_trans Z0 KA.1
  obtain ⟨TB, hB, LB, bB, kB, XB, eB, KB, NB, VB, stB⟩ := fillB XA hx hZ hw hby hown eA n0 ZA NA (by decide) (by decide) (Ls := #[.val (.int p1), .val (.int p2), .val (.ref bA), .unset, .unset, .unset, .unset, .unset])
  have ZB : n0 ≤ hB.size := Nat.le_trans ZA KB.1
  obtain ⟨TC, hC, LC, bC, kC, XC, eC, KC, NC, VC, stC⟩ := fillC XB hx hZ hw hby hown eB n0 ZB NB (by decide) (by decide) (Ls := #[.val (.int p1), .val (.int p2), .val (.ref bA), .val (.ref bB), .unset, .unset, .unset, .unset])
  have KAC : Keep h0 hC [] := (KA.trans KB all0).trans KC all0
  obtain ⟨clA, ArA, -, SA, -, HA, -⟩ := (VA.keep KB nin0).keep KC nin0
  obtain ⟨clB, ArB, -, SB, -, HB, -⟩ := VB.keep KC nin0
  obtain ⟨clC, ArC, -, SC, -, HC, -⟩ := VC
  have hinA := inb_of SA hs
  have hatA : clA.slots[((p1 &&& (2147483647 : Int32)) % (20 : Int32)).toNatClampNeg]? = some (.ref wk) := (HA _ (Nat.lt_of_not_le fun q => hinA (Or.inr q))).trans (congrArg some hwk)
  have hinB := inb_of SB hs
  have hatB : clB.slots[((p1 &&& (2147483647 : Int32)) % (20 : Int32)).toNatClampNeg]? = some (.int lo) := (HB _ (Nat.lt_of_not_le fun q => hinB (Or.inr q))).trans (congrArg some hlo)
  have hinC := inb_of SC hs
  have hatC : clC.slots[((p1 &&& (2147483647 : Int32)) % (20 : Int32)).toNatClampNeg]? = some (.int hi) := (HC _ (Nat.lt_of_not_le fun q => hinC (Or.inr q))).trans (congrArg some hhi)
  obtain ⟨cq1, kq1, q1a, q1b, q1c⟩ := isOf hZ eC (Ek.keep KAC)
  obtain ⟨_, _, ⟨T1, L1, k1, n1⟩, -, X1, ⟨Lc1, hQ1, l1, y1, z1⟩, st1⟩ := XC.virtualBack hx (y := (⟨"com/example/onceward/onceward/protocol/ApiKey", "serves", "(S)Z"⟩ : MethodName)) (z := (⟨"com/example/onceward/onceward/protocol/ApiKey", "serves", "(S)Z"⟩ : MethodName)) hown (mvT hZ (hw _ (List.mem_of_getElem? (i := 46) rfl))) (mvT hZ (hw _ (List.mem_of_getElem? (i := 47) rfl))) (notFace_of_selects (args := #[]) (mvT hZ (hw _ (List.mem_of_getElem? (i := 49) rfl)))) (mvT hZ (hw _ (List.mem_of_getElem? (i := 49) rfl))) (mvT hZ (hw _ (List.mem_of_getElem? (i := 48) rfl))) (by decide) (backOf (W := 0) ((Cs _ KAC) []) hZ (hw _ (List.mem_of_getElem? (i := 50) rfl)) (hw _ (List.mem_of_getElem? (i := 3) rfl)) (by decide) (by decide)) q1a q1c (g := (mkF m 387 #[.val (.int p1), .val (.int p2), .val (.ref bA), .val (.ref bB), .val (.ref bC), .val (.int ((p1 &&& (2147483647 : Int32)) % (20 : Int32))), .val (.int (p2.toInt16.toInt32)), .val (.int (1 : Int32))] [(.int (p2.toInt16.toInt32)), (.ref wk)])) rfl (by rw [hml]; rfl) (Steps.refl _) (argsL := [(.int (p2.toInt16.toInt32))]) (rest := []) (lenOf pd_oScZ rfl) rfl (by show 2 * 0 + _ ≤ _; exact Nat.le_of_eq rfl) (hb hby at_387) (fun _ _ => ⟨rfl, eC, (by decide : 3 + 0 ≤ _), (by decide : 60 + 0 ≤ _)⟩)
  dsimp only [Pt.U, Pt.locs, Pt.cells, Pt.slots] at X1 l1 y1 z1 st1 hQ1
  subst l1 y1 z1
  obtain ⟨rfl, N1q, e1⟩ := hQ1
  have N1 := Fr.app NC N1q
  obtain ⟨fs, hr, hrun, hended, hW, hsame⟩ := X1.leave (v := some (.int (1 : Int32))) (fun h => by rw [Bd.returns] at h; cases h)
  refine ⟨_, _, pre0 _ ?_, hrun, hended, _, _, rfl, ?_, ⟨_, rfl⟩, hW, hsame.mono (by decide) (by decide)⟩
  · show Steps p.tables e below (s₁.setTop (mkF m 0 #[.val (.int p1), .val (.int p2), .unset, .unset, .unset, .unset, .unset, .unset] [])) _
    refine stA _ ?_
    show Steps p.tables e below (TA.setTop (mkF m 139 #[.val (.int p1), .val (.int p2), .unset, .unset, .unset, .unset, .unset, .unset] [(.ref bA)])) _
    refine XS.astoreN XA.here hx rfl (hb hby at_139) rfl rfl (l' := #[.val (.int p1), .val (.int p2), .val (.ref bA), .unset, .unset, .unset, .unset, .unset]) rfl ?_
    show Steps p.tables e below (TA.setTop (mkF m 140 #[.val (.int p1), .val (.int p2), .val (.ref bA), .unset, .unset, .unset, .unset, .unset] [])) _
    refine stB _ ?_
    show Steps p.tables e below (TB.setTop (mkF m 238 #[.val (.int p1), .val (.int p2), .val (.ref bA), .unset, .unset, .unset, .unset, .unset] [(.ref bB)])) _
    refine XS.astoreN XB.here hx rfl (hb hby at_238) rfl rfl (l' := #[.val (.int p1), .val (.int p2), .val (.ref bA), .val (.ref bB), .unset, .unset, .unset, .unset]) rfl ?_
    show Steps p.tables e below (TB.setTop (mkF m 239 #[.val (.int p1), .val (.int p2), .val (.ref bA), .val (.ref bB), .unset, .unset, .unset, .unset] [])) _
    refine stC _ ?_
    show Steps p.tables e below (TC.setTop (mkF m 340 #[.val (.int p1), .val (.int p2), .val (.ref bA), .val (.ref bB), .unset, .unset, .unset, .unset] [(.ref bC)])) _
    refine XS.astore XC.here hx rfl (hb hby at_340) rfl rfl (l' := #[.val (.int p1), .val (.int p2), .val (.ref bA), .val (.ref bB), .val (.ref bC), .unset, .unset, .unset]) rfl ?_
    show Steps p.tables e below (TC.setTop (mkF m 342 #[.val (.int p1), .val (.int p2), .val (.ref bA), .val (.ref bB), .val (.ref bC), .unset, .unset, .unset] [])) _
    refine XS.iloadN XC.here hx rfl (hb hby at_342) rfl ?_
    show Steps p.tables e below (TC.setTop (mkF m 343 #[.val (.int p1), .val (.int p2), .val (.ref bA), .val (.ref bB), .val (.ref bC), .unset, .unset, .unset] [(.int p1)])) _
    refine XC.ldcInt hx hown (mvT hZ (hw _ (List.mem_of_getElem? (i := 45) rfl))) (g := (mkF m 343 #[.val (.int p1), .val (.int p2), .val (.ref bA), .val (.ref bB), .val (.ref bC), .unset, .unset, .unset] [(.int p1)])) rfl (hb hby at_343) _ ?_
    show Steps p.tables e below (TC.setTop (mkF m 345 #[.val (.int p1), .val (.int p2), .val (.ref bA), .val (.ref bB), .val (.ref bC), .unset, .unset, .unset] [(.int (2147483647 : Int32)), (.int p1)])) _
    refine XS.iand XC.here hx rfl (hb hby at_345) rfl ?_
    show Steps p.tables e below (TC.setTop (mkF m 346 #[.val (.int p1), .val (.int p2), .val (.ref bA), .val (.ref bB), .val (.ref bC), .unset, .unset, .unset] [(.int (p1 &&& (2147483647 : Int32)))])) _
    refine XS.bipush XC.here hx rfl (hb hby at_346) ?_
    show Steps p.tables e below (TC.setTop (mkF m 348 #[.val (.int p1), .val (.int p2), .val (.ref bA), .val (.ref bB), .val (.ref bC), .unset, .unset, .unset] [(.int (20 : Int32)), (.int (p1 &&& (2147483647 : Int32)))])) _
    refine iremM XC hx rfl (hb hby at_348) rfl (by decide) ?_
    show Steps p.tables e below (TC.setTop (mkF m 349 #[.val (.int p1), .val (.int p2), .val (.ref bA), .val (.ref bB), .val (.ref bC), .unset, .unset, .unset] [(.int ((p1 &&& (2147483647 : Int32)) % (20 : Int32)))])) _
    refine XS.istore XC.here hx rfl (hb hby at_349) rfl (l' := #[.val (.int p1), .val (.int p2), .val (.ref bA), .val (.ref bB), .val (.ref bC), .val (.int ((p1 &&& (2147483647 : Int32)) % (20 : Int32))), .unset, .unset]) rfl ?_
    show Steps p.tables e below (TC.setTop (mkF m 351 #[.val (.int p1), .val (.int p2), .val (.ref bA), .val (.ref bB), .val (.ref bC), .val (.int ((p1 &&& (2147483647 : Int32)) % (20 : Int32))), .unset, .unset] [])) _
    refine XS.iloadN XC.here hx rfl (hb hby at_351) rfl ?_
    show Steps p.tables e below (TC.setTop (mkF m 352 #[.val (.int p1), .val (.int p2), .val (.ref bA), .val (.ref bB), .val (.ref bC), .val (.int ((p1 &&& (2147483647 : Int32)) % (20 : Int32))), .unset, .unset] [(.int p2)])) _
    refine XS.i2s XC.here hx rfl (hb hby at_352) rfl ?_
    show Steps p.tables e below (TC.setTop (mkF m 353 #[.val (.int p1), .val (.int p2), .val (.ref bA), .val (.ref bB), .val (.ref bC), .val (.int ((p1 &&& (2147483647 : Int32)) % (20 : Int32))), .unset, .unset] [(.int (p2.toInt16.toInt32))])) _
    refine XS.istore XC.here hx rfl (hb hby at_353) rfl (l' := #[.val (.int p1), .val (.int p2), .val (.ref bA), .val (.ref bB), .val (.ref bC), .val (.int ((p1 &&& (2147483647 : Int32)) % (20 : Int32))), .val (.int (p2.toInt16.toInt32)), .unset]) rfl ?_
    show Steps p.tables e below (TC.setTop (mkF m 355 #[.val (.int p1), .val (.int p2), .val (.ref bA), .val (.ref bB), .val (.ref bC), .val (.int ((p1 &&& (2147483647 : Int32)) % (20 : Int32))), .val (.int (p2.toInt16.toInt32)), .unset] [])) _
    refine XS.iload XC.here hx rfl (hb hby at_355) rfl ?_
    show Steps p.tables e below (TC.setTop (mkF m 357 #[.val (.int p1), .val (.int p2), .val (.ref bA), .val (.ref bB), .val (.ref bC), .val (.int ((p1 &&& (2147483647 : Int32)) % (20 : Int32))), .val (.int (p2.toInt16.toInt32)), .unset] [(.int (p2.toInt16.toInt32))])) _
    refine XS.aloadN XC.here hx rfl (hb hby at_357) rfl rfl ?_
    show Steps p.tables e below (TC.setTop (mkF m 358 #[.val (.int p1), .val (.int p2), .val (.ref bA), .val (.ref bB), .val (.ref bC), .val (.int ((p1 &&& (2147483647 : Int32)) % (20 : Int32))), .val (.int (p2.toInt16.toInt32)), .unset] [(.ref bB), (.int (p2.toInt16.toInt32))])) _
    refine XS.iload XC.here hx rfl (hb hby at_358) rfl ?_
    show Steps p.tables e below (TC.setTop (mkF m 360 #[.val (.int p1), .val (.int p2), .val (.ref bA), .val (.ref bB), .val (.ref bC), .val (.int ((p1 &&& (2147483647 : Int32)) % (20 : Int32))), .val (.int (p2.toInt16.toInt32)), .unset] [(.int ((p1 &&& (2147483647 : Int32)) % (20 : Int32))), (.ref bB), (.int (p2.toInt16.toInt32))])) _
    refine XC.iaload hx (j := ((p1 &&& (2147483647 : Int32)) % (20 : Int32))) (v := (.int lo)) (by rw [eC]; exact ArB.1) (State.isArrayOf_alike hZ.alike ArB.2.1) ArB.2.2 hinB hatB (g := (mkF m 360 #[.val (.int p1), .val (.int p2), .val (.ref bA), .val (.ref bB), .val (.ref bC), .val (.int ((p1 &&& (2147483647 : Int32)) % (20 : Int32))), .val (.int (p2.toInt16.toInt32)), .unset] [(.int ((p1 &&& (2147483647 : Int32)) % (20 : Int32))), (.ref bB), (.int (p2.toInt16.toInt32))])) rfl rfl (hb hby at_360) _ ?_
    show Steps p.tables e below (TC.setTop (mkF m 361 #[.val (.int p1), .val (.int p2), .val (.ref bA), .val (.ref bB), .val (.ref bC), .val (.int ((p1 &&& (2147483647 : Int32)) % (20 : Int32))), .val (.int (p2.toInt16.toInt32)), .unset] [(.int lo), (.int (p2.toInt16.toInt32))])) _
    refine XS.icmpNo XC.here hx rfl (hb hby at_361) rfl (flt hc361).1 ?_
    show Steps p.tables e below (TC.setTop (mkF m 364 #[.val (.int p1), .val (.int p2), .val (.ref bA), .val (.ref bB), .val (.ref bC), .val (.int ((p1 &&& (2147483647 : Int32)) % (20 : Int32))), .val (.int (p2.toInt16.toInt32)), .unset] [])) _
    refine XS.iload XC.here hx rfl (hb hby at_364) rfl ?_
    show Steps p.tables e below (TC.setTop (mkF m 366 #[.val (.int p1), .val (.int p2), .val (.ref bA), .val (.ref bB), .val (.ref bC), .val (.int ((p1 &&& (2147483647 : Int32)) % (20 : Int32))), .val (.int (p2.toInt16.toInt32)), .unset] [(.int (p2.toInt16.toInt32))])) _
    refine XS.aload XC.here hx rfl (hb hby at_366) rfl rfl ?_
    show Steps p.tables e below (TC.setTop (mkF m 368 #[.val (.int p1), .val (.int p2), .val (.ref bA), .val (.ref bB), .val (.ref bC), .val (.int ((p1 &&& (2147483647 : Int32)) % (20 : Int32))), .val (.int (p2.toInt16.toInt32)), .unset] [(.ref bC), (.int (p2.toInt16.toInt32))])) _
    refine XS.iload XC.here hx rfl (hb hby at_368) rfl ?_
    show Steps p.tables e below (TC.setTop (mkF m 370 #[.val (.int p1), .val (.int p2), .val (.ref bA), .val (.ref bB), .val (.ref bC), .val (.int ((p1 &&& (2147483647 : Int32)) % (20 : Int32))), .val (.int (p2.toInt16.toInt32)), .unset] [(.int ((p1 &&& (2147483647 : Int32)) % (20 : Int32))), (.ref bC), (.int (p2.toInt16.toInt32))])) _
    refine XC.iaload hx (j := ((p1 &&& (2147483647 : Int32)) % (20 : Int32))) (v := (.int hi)) (by rw [eC]; exact ArC.1) (State.isArrayOf_alike hZ.alike ArC.2.1) ArC.2.2 hinC hatC (g := (mkF m 370 #[.val (.int p1), .val (.int p2), .val (.ref bA), .val (.ref bB), .val (.ref bC), .val (.int ((p1 &&& (2147483647 : Int32)) % (20 : Int32))), .val (.int (p2.toInt16.toInt32)), .unset] [(.int ((p1 &&& (2147483647 : Int32)) % (20 : Int32))), (.ref bC), (.int (p2.toInt16.toInt32))])) rfl rfl (hb hby at_370) _ ?_
    show Steps p.tables e below (TC.setTop (mkF m 371 #[.val (.int p1), .val (.int p2), .val (.ref bA), .val (.ref bB), .val (.ref bC), .val (.int ((p1 &&& (2147483647 : Int32)) % (20 : Int32))), .val (.int (p2.toInt16.toInt32)), .unset] [(.int hi), (.int (p2.toInt16.toInt32))])) _
    refine XS.icmpNo XC.here hx rfl (hb hby at_371) rfl (flt hc371).2.2.1 ?_
    show Steps p.tables e below (TC.setTop (mkF m 374 #[.val (.int p1), .val (.int p2), .val (.ref bA), .val (.ref bB), .val (.ref bC), .val (.int ((p1 &&& (2147483647 : Int32)) % (20 : Int32))), .val (.int (p2.toInt16.toInt32)), .unset] [])) _
    refine XS.iconst XC.here hx rfl (hb hby at_374) ?_
    show Steps p.tables e below (TC.setTop (mkF m 375 #[.val (.int p1), .val (.int p2), .val (.ref bA), .val (.ref bB), .val (.ref bC), .val (.int ((p1 &&& (2147483647 : Int32)) % (20 : Int32))), .val (.int (p2.toInt16.toInt32)), .unset] [(.int (1 : Int32))])) _
    refine XS.goto XC.here hx rfl (pc0 := 375) (pc' := 379) rfl (hb hby at_375) (by decide) (by decide) ?_
    show Steps p.tables e below (TC.setTop (mkF m 379 #[.val (.int p1), .val (.int p2), .val (.ref bA), .val (.ref bB), .val (.ref bC), .val (.int ((p1 &&& (2147483647 : Int32)) % (20 : Int32))), .val (.int (p2.toInt16.toInt32)), .unset] [(.int (1 : Int32))])) _
    refine XS.istore XC.here hx rfl (hb hby at_379) rfl (l' := #[.val (.int p1), .val (.int p2), .val (.ref bA), .val (.ref bB), .val (.ref bC), .val (.int ((p1 &&& (2147483647 : Int32)) % (20 : Int32))), .val (.int (p2.toInt16.toInt32)), .val (.int (1 : Int32))]) rfl ?_
    show Steps p.tables e below (TC.setTop (mkF m 381 #[.val (.int p1), .val (.int p2), .val (.ref bA), .val (.ref bB), .val (.ref bC), .val (.int ((p1 &&& (2147483647 : Int32)) % (20 : Int32))), .val (.int (p2.toInt16.toInt32)), .val (.int (1 : Int32))] [])) _
    refine XS.aloadN XC.here hx rfl (hb hby at_381) rfl rfl ?_
    show Steps p.tables e below (TC.setTop (mkF m 382 #[.val (.int p1), .val (.int p2), .val (.ref bA), .val (.ref bB), .val (.ref bC), .val (.int ((p1 &&& (2147483647 : Int32)) % (20 : Int32))), .val (.int (p2.toInt16.toInt32)), .val (.int (1 : Int32))] [(.ref bA)])) _
    refine XS.iload XC.here hx rfl (hb hby at_382) rfl ?_
    show Steps p.tables e below (TC.setTop (mkF m 384 #[.val (.int p1), .val (.int p2), .val (.ref bA), .val (.ref bB), .val (.ref bC), .val (.int ((p1 &&& (2147483647 : Int32)) % (20 : Int32))), .val (.int (p2.toInt16.toInt32)), .val (.int (1 : Int32))] [(.int ((p1 &&& (2147483647 : Int32)) % (20 : Int32))), (.ref bA)])) _
    refine XC.aaload hx (j := ((p1 &&& (2147483647 : Int32)) % (20 : Int32))) (v := (.ref wk)) (by rw [eC]; exact ArA.1) (State.isArrayOf_alike hZ.alike ArA.2.1) rfl ArA.2.2 hinA hatA (g := (mkF m 384 #[.val (.int p1), .val (.int p2), .val (.ref bA), .val (.ref bB), .val (.ref bC), .val (.int ((p1 &&& (2147483647 : Int32)) % (20 : Int32))), .val (.int (p2.toInt16.toInt32)), .val (.int (1 : Int32))] [(.int ((p1 &&& (2147483647 : Int32)) % (20 : Int32))), (.ref bA)])) rfl rfl (hb hby at_384) _ ?_
    show Steps p.tables e below (TC.setTop (mkF m 385 #[.val (.int p1), .val (.int p2), .val (.ref bA), .val (.ref bB), .val (.ref bC), .val (.int ((p1 &&& (2147483647 : Int32)) % (20 : Int32))), .val (.int (p2.toInt16.toInt32)), .val (.int (1 : Int32))] [(.ref wk)])) _
    refine XS.iload XC.here hx rfl (hb hby at_385) rfl ?_
    show Steps p.tables e below (TC.setTop (mkF m 387 #[.val (.int p1), .val (.int p2), .val (.ref bA), .val (.ref bB), .val (.ref bC), .val (.int ((p1 &&& (2147483647 : Int32)) % (20 : Int32))), .val (.int (p2.toInt16.toInt32)), .val (.int (1 : Int32))] [(.int (p2.toInt16.toInt32)), (.ref wk)])) _
    refine st1.trans ?_
    show Steps p.tables e below (T1.setTop (mkF m 390 #[.val (.int p1), .val (.int p2), .val (.ref bA), .val (.ref bB), .val (.ref bC), .val (.int ((p1 &&& (2147483647 : Int32)) % (20 : Int32))), .val (.int (p2.toInt16.toInt32)), .val (.int (1 : Int32))] [(.int (1 : Int32))])) _
    refine XS.iload X1.here hx rfl (hb hby at_390) rfl ?_
    show Steps p.tables e below (T1.setTop (mkF m 392 #[.val (.int p1), .val (.int p2), .val (.ref bA), .val (.ref bB), .val (.ref bC), .val (.int ((p1 &&& (2147483647 : Int32)) % (20 : Int32))), .val (.int (p2.toInt16.toInt32)), .val (.int (1 : Int32))] [(.int (1 : Int32)), (.int (1 : Int32))])) _
    refine XS.icmpNo X1.here hx rfl (hb hby at_392) rfl (teq (by decide : (1 : Int32) = (1 : Int32))).2 ?_
    show Steps p.tables e below (T1.setTop (mkF m 395 #[.val (.int p1), .val (.int p2), .val (.ref bA), .val (.ref bB), .val (.ref bC), .val (.int ((p1 &&& (2147483647 : Int32)) % (20 : Int32))), .val (.int (p2.toInt16.toInt32)), .val (.int (1 : Int32))] [])) _
    refine XS.iconst X1.here hx rfl (hb hby at_395) ?_
    show Steps p.tables e below (T1.setTop (mkF m 396 #[.val (.int p1), .val (.int p2), .val (.ref bA), .val (.ref bB), .val (.ref bC), .val (.int ((p1 &&& (2147483647 : Int32)) % (20 : Int32))), .val (.int (p2.toInt16.toInt32)), .val (.int (1 : Int32))] [(.int (1 : Int32))])) _
    refine XS.goto X1.here hx rfl (pc0 := 396) (pc' := 400) rfl (hb hby at_396) (by decide) (by decide) ?_
    show Steps p.tables e below (T1.setTop (mkF m 400 #[.val (.int p1), .val (.int p2), .val (.ref bA), .val (.ref bB), .val (.ref bC), .val (.int ((p1 &&& (2147483647 : Int32)) % (20 : Int32))), .val (.int (p2.toInt16.toInt32)), .val (.int (1 : Int32))] [(.int (1 : Int32))])) _
    exact retN X1 hx (t := .boolean) Bd.returns (by simp) (hb hby at_400) hr
  · exact ⟨rfl, N1⟩
set_option maxRecDepth 65536 in
set_option maxHeartbeats 40000000 in
theorem comes_1 {Post : Tables → Env → Array Value → State → Outcome → State → Prop} (hpost : ∀ tb e args s v u, (limb_1_1.after args s (.returned v) u = true ∧ limb_1_2.after args s (.returned v) u = true ∧ True) → FrameEnd s (.returned v) u (Jvm.fieldLocs frame_1_writes args s ++ Jvm.arrayLocs frame_1_arrays args s ++ Jvm.staticLocs frame_1_statics s) 16 192 → Post tb e args s (.returned v) u) :
    ArmFor flags0 classFile x code maxLocals ret World_1 tables_1 room_1 Calls_1 rest_1 Pre_1 Post := by
  intro l hfl _ _ p e ha hc hk s m args below hf hA hF happ hP
  obtain ⟨hcalls, hrest, hpre⟩ := hP
  obtain ⟨-, -, -, hnamed, -, -, -, hat⟩ := (Spec.applies_iff hf).mp happ
  obtain ⟨hg, hn⟩ := and_e (Cond.before_iff.mp (show (Jvm.Cond.and given_1 narrow_1).before args s = true from hpre))
  obtain ⟨g1a, g1b⟩ := and_e hg
  obtain ⟨g2a, g2b⟩ := and_e g1b
  obtain ⟨g3a, g3b⟩ := and_e hn
  obtain ⟨g4a, g4b⟩ := and_e g3b
  obtain ⟨g5a, g5b⟩ := and_e g4b
  obtain ⟨g6a, g6b⟩ := and_e g5b
  obtain ⟨g7a, g7b⟩ := and_e g6b
  obtain ⟨g8a, g8b⟩ := and_e g7b
  obtain ⟨g9a, g9b⟩ := and_e g8b
  obtain ⟨g10a, g10b⟩ := and_e g9b
  obtain ⟨g11a, g11b⟩ := and_e g10b
  obtain ⟨g12a, g12b⟩ := and_e g11b
  obtain ⟨g13a, g13b⟩ := and_e g12b
  obtain ⟨g14a, g14b⟩ := and_e g13b
  obtain ⟨g15a, g15b⟩ := and_e g14b
  obtain ⟨g16a, g16b⟩ := and_e g15b
  obtain ⟨g17a, g17b⟩ := and_e g16b
  obtain ⟨g18a, g18b⟩ := and_e g17b
  obtain ⟨g19a, g19b⟩ := and_e g18b
  obtain ⟨g20a, g20b⟩ := and_e g19b
  obtain ⟨g21a, g21b⟩ := and_e g20b
  obtain ⟨g22a, g22b⟩ := and_e g21b
  obtain ⟨g23a, g23b⟩ := and_e g22b
  obtain ⟨g24a, g24b⟩ := and_e g23b
  obtain ⟨g25a, g25b⟩ := and_e g24b
  obtain ⟨g26a, g26b⟩ := and_e g25b
  obtain ⟨g27a, g27b⟩ := and_e g26b
  obtain ⟨g28a, g28b⟩ := and_e g27b
  obtain ⟨g29a, g29b⟩ := and_e g28b
  obtain ⟨g30a, g30b⟩ := and_e g29b
  obtain ⟨g31a, g31b⟩ := and_e g30b
  obtain ⟨g32a, g32b⟩ := and_e g31b
  obtain ⟨g33a, g33b⟩ := and_e g32b
  obtain ⟨g34a, g34b⟩ := and_e g33b
  obtain ⟨g35a, g35b⟩ := and_e g34b
  obtain ⟨g36a, g36b⟩ := and_e g35b
  obtain ⟨g37a, g37b⟩ := and_e g36b
  obtain ⟨g38a, g38b⟩ := and_e g37b
  obtain ⟨g39a, g39b⟩ := and_e g38b
  obtain ⟨g40a, g40b⟩ := and_e g39b
  obtain ⟨g41a, g41b⟩ := and_e g40b
  obtain ⟨g42a, g42b⟩ := and_e g41b
  obtain ⟨g43a, g43b⟩ := and_e g42b
  obtain ⟨g44a, g44b⟩ := and_e g43b
  obtain ⟨g45a, g45b⟩ := and_e g44b
  obtain ⟨g46a, g46b⟩ := and_e g45b
  obtain ⟨g47a, g47b⟩ := and_e g46b
  obtain ⟨g48a, g48b⟩ := and_e g47b
  obtain ⟨g49a, g49b⟩ := and_e g48b
  obtain ⟨g50a, g50b⟩ := and_e g49b
  obtain ⟨g51a, g51b⟩ := and_e g50b
  obtain ⟨g52a, g52b⟩ := and_e g51b
  obtain ⟨g53a, g53b⟩ := and_e g52b
  obtain ⟨g54a, g54b⟩ := and_e g53b
  obtain ⟨g55a, g55b⟩ := and_e g54b
  obtain ⟨g56a, g56b⟩ := and_e g55b
  obtain ⟨g57a, g57b⟩ := and_e g56b
  obtain ⟨g58a, g58b⟩ := and_e g57b
  obtain ⟨g59a, g59b⟩ := and_e g58b
  obtain ⟨g60a, g60b⟩ := and_e g59b
  obtain ⟨g61a, g61b⟩ := and_e g60b
  obtain ⟨w0, w1, rfl⟩ : ∃ w0 w1 : Value, args = #[w0, w1] := by
    have hs : args.size = 2 := by simpa [Cond.value, given_1] using g1a
    obtain ⟨L⟩ := args
    match L, hs with
    | [w0, w1], _ => exact ⟨w0, w1, rfl⟩
  have hw := fun d (hd : d ∈ tables_1) => atoms_spec (ws := Jvm.Cond.code x code maxLocals ret :: tables_1) hat d (List.mem_cons_of_mem _ hd)
  have hfit : Fit s := fun {y c} hc i hi => by
    obtain ⟨ha, rfl⟩ := Array.getElem?_eq_some_iff.mp hc
    have q := List.all_eq_true.mp ((Array.all_eq_true_iff_forall_mem.mp hF) _ (Array.getElem_mem ha)) i (List.mem_range.mpr hi)
    simpa [Array.getElem?_eq_getElem hi] using q
  obtain ⟨i0, ei0⟩ := is_v g2a
  obtain rfl : w0 = (.int i0) := Option.some.inj ei0
  obtain ⟨i1, ei1⟩ := is_v g2b
  obtain rfl : w1 = (.int i1) := Option.some.inj ei1
  obtain ⟨w_PRODUCE, ev_PRODUCE⟩ := exa_v g3a
  have S_PRODUCE : Sta s s.heap "com/example/onceward/onceward/protocol/ApiKey" "PRODUCE" "Lcom/example/onceward/onceward/protocol/ApiKey;" (.ref w_PRODUCE) := Sta.start ev_PRODUCE (Or.inr ⟨(hw _ (List.mem_of_getElem? (i := 3) rfl)), (hw _ (List.mem_of_getElem? (i := 4) rfl))⟩)
  have E_PRODUCE : Exa s s.heap w_PRODUCE "com/example/onceward/onceward/protocol/ApiKey" := Exa.start ev_PRODUCE g3a
  obtain ⟨w_FETCH, ev_FETCH⟩ := exa_v g4a
  have S_FETCH : Sta s s.heap "com/example/onceward/onceward/protocol/ApiKey" "FETCH" "Lcom/example/onceward/onceward/protocol/ApiKey;" (.ref w_FETCH) := Sta.start ev_FETCH (Or.inr ⟨(hw _ (List.mem_of_getElem? (i := 3) rfl)), (hw _ (List.mem_of_getElem? (i := 7) rfl))⟩)
  have E_FETCH : Exa s s.heap w_FETCH "com/example/onceward/onceward/protocol/ApiKey" := Exa.start ev_FETCH g4a
  obtain ⟨w_LIST_OFFSETS, ev_LIST_OFFSETS⟩ := exa_v g5a
  have S_LIST_OFFSETS : Sta s s.heap "com/example/onceward/onceward/protocol/ApiKey" "LIST_OFFSETS" "Lcom/example/onceward/onceward/protocol/ApiKey;" (.ref w_LIST_OFFSETS) := Sta.start ev_LIST_OFFSETS (Or.inr ⟨(hw _ (List.mem_of_getElem? (i := 3) rfl)), (hw _ (List.mem_of_getElem? (i := 9) rfl))⟩)
  have E_LIST_OFFSETS : Exa s s.heap w_LIST_OFFSETS "com/example/onceward/onceward/protocol/ApiKey" := Exa.start ev_LIST_OFFSETS g5a
  obtain ⟨w_METADATA, ev_METADATA⟩ := exa_v g6a
  have S_METADATA : Sta s s.heap "com/example/onceward/onceward/protocol/ApiKey" "METADATA" "Lcom/example/onceward/onceward/protocol/ApiKey;" (.ref w_METADATA) := Sta.start ev_METADATA (Or.inr ⟨(hw _ (List.mem_of_getElem? (i := 3) rfl)), (hw _ (List.mem_of_getElem? (i := 11) rfl))⟩)
  have E_METADATA : Exa s s.heap w_METADATA "com/example/onceward/onceward/protocol/ApiKey" := Exa.start ev_METADATA g6a
  obtain ⟨w_OFFSET_COMMIT, ev_OFFSET_COMMIT⟩ := exa_v g7a
  have S_OFFSET_COMMIT : Sta s s.heap "com/example/onceward/onceward/protocol/ApiKey" "OFFSET_COMMIT" "Lcom/example/onceward/onceward/protocol/ApiKey;" (.ref w_OFFSET_COMMIT) := Sta.start ev_OFFSET_COMMIT (Or.inr ⟨(hw _ (List.mem_of_getElem? (i := 3) rfl)), (hw _ (List.mem_of_getElem? (i := 13) rfl))⟩)
  have E_OFFSET_COMMIT : Exa s s.heap w_OFFSET_COMMIT "com/example/onceward/onceward/protocol/ApiKey" := Exa.start ev_OFFSET_COMMIT g7a
  obtain ⟨w_OFFSET_FETCH, ev_OFFSET_FETCH⟩ := exa_v g8a
  have S_OFFSET_FETCH : Sta s s.heap "com/example/onceward/onceward/protocol/ApiKey" "OFFSET_FETCH" "Lcom/example/onceward/onceward/protocol/ApiKey;" (.ref w_OFFSET_FETCH) := Sta.start ev_OFFSET_FETCH (Or.inr ⟨(hw _ (List.mem_of_getElem? (i := 3) rfl)), (hw _ (List.mem_of_getElem? (i := 15) rfl))⟩)
  have E_OFFSET_FETCH : Exa s s.heap w_OFFSET_FETCH "com/example/onceward/onceward/protocol/ApiKey" := Exa.start ev_OFFSET_FETCH g8a
  obtain ⟨w_FIND_COORDINATOR, ev_FIND_COORDINATOR⟩ := exa_v g9a
  have S_FIND_COORDINATOR : Sta s s.heap "com/example/onceward/onceward/protocol/ApiKey" "FIND_COORDINATOR" "Lcom/example/onceward/onceward/protocol/ApiKey;" (.ref w_FIND_COORDINATOR) := Sta.start ev_FIND_COORDINATOR (Or.inr ⟨(hw _ (List.mem_of_getElem? (i := 3) rfl)), (hw _ (List.mem_of_getElem? (i := 17) rfl))⟩)
  have E_FIND_COORDINATOR : Exa s s.heap w_FIND_COORDINATOR "com/example/onceward/onceward/protocol/ApiKey" := Exa.start ev_FIND_COORDINATOR g9a
  obtain ⟨w_JOIN_GROUP, ev_JOIN_GROUP⟩ := exa_v g10a
  have S_JOIN_GROUP : Sta s s.heap "com/example/onceward/onceward/protocol/ApiKey" "JOIN_GROUP" "Lcom/example/onceward/onceward/protocol/ApiKey;" (.ref w_JOIN_GROUP) := Sta.start ev_JOIN_GROUP (Or.inr ⟨(hw _ (List.mem_of_getElem? (i := 3) rfl)), (hw _ (List.mem_of_getElem? (i := 19) rfl))⟩)
  have E_JOIN_GROUP : Exa s s.heap w_JOIN_GROUP "com/example/onceward/onceward/protocol/ApiKey" := Exa.start ev_JOIN_GROUP g10a
  obtain ⟨w_HEARTBEAT, ev_HEARTBEAT⟩ := exa_v g11a
  have S_HEARTBEAT : Sta s s.heap "com/example/onceward/onceward/protocol/ApiKey" "HEARTBEAT" "Lcom/example/onceward/onceward/protocol/ApiKey;" (.ref w_HEARTBEAT) := Sta.start ev_HEARTBEAT (Or.inr ⟨(hw _ (List.mem_of_getElem? (i := 3) rfl)), (hw _ (List.mem_of_getElem? (i := 21) rfl))⟩)
  have E_HEARTBEAT : Exa s s.heap w_HEARTBEAT "com/example/onceward/onceward/protocol/ApiKey" := Exa.start ev_HEARTBEAT g11a
  obtain ⟨w_LEAVE_GROUP, ev_LEAVE_GROUP⟩ := exa_v g12a
  have S_LEAVE_GROUP : Sta s s.heap "com/example/onceward/onceward/protocol/ApiKey" "LEAVE_GROUP" "Lcom/example/onceward/onceward/protocol/ApiKey;" (.ref w_LEAVE_GROUP) := Sta.start ev_LEAVE_GROUP (Or.inr ⟨(hw _ (List.mem_of_getElem? (i := 3) rfl)), (hw _ (List.mem_of_getElem? (i := 23) rfl))⟩)
  have E_LEAVE_GROUP : Exa s s.heap w_LEAVE_GROUP "com/example/onceward/onceward/protocol/ApiKey" := Exa.start ev_LEAVE_GROUP g12a
  obtain ⟨w_SYNC_GROUP, ev_SYNC_GROUP⟩ := exa_v g13a
  have S_SYNC_GROUP : Sta s s.heap "com/example/onceward/onceward/protocol/ApiKey" "SYNC_GROUP" "Lcom/example/onceward/onceward/protocol/ApiKey;" (.ref w_SYNC_GROUP) := Sta.start ev_SYNC_GROUP (Or.inr ⟨(hw _ (List.mem_of_getElem? (i := 3) rfl)), (hw _ (List.mem_of_getElem? (i := 25) rfl))⟩)
  have E_SYNC_GROUP : Exa s s.heap w_SYNC_GROUP "com/example/onceward/onceward/protocol/ApiKey" := Exa.start ev_SYNC_GROUP g13a
  obtain ⟨w_API_VERSIONS, ev_API_VERSIONS⟩ := exa_v g14a
  have S_API_VERSIONS : Sta s s.heap "com/example/onceward/onceward/protocol/ApiKey" "API_VERSIONS" "Lcom/example/onceward/onceward/protocol/ApiKey;" (.ref w_API_VERSIONS) := Sta.start ev_API_VERSIONS (Or.inr ⟨(hw _ (List.mem_of_getElem? (i := 3) rfl)), (hw _ (List.mem_of_getElem? (i := 27) rfl))⟩)
  have E_API_VERSIONS : Exa s s.heap w_API_VERSIONS "com/example/onceward/onceward/protocol/ApiKey" := Exa.start ev_API_VERSIONS g14a
  obtain ⟨w_CREATE_TOPICS, ev_CREATE_TOPICS⟩ := exa_v g15a
  have S_CREATE_TOPICS : Sta s s.heap "com/example/onceward/onceward/protocol/ApiKey" "CREATE_TOPICS" "Lcom/example/onceward/onceward/protocol/ApiKey;" (.ref w_CREATE_TOPICS) := Sta.start ev_CREATE_TOPICS (Or.inr ⟨(hw _ (List.mem_of_getElem? (i := 3) rfl)), (hw _ (List.mem_of_getElem? (i := 29) rfl))⟩)
  have E_CREATE_TOPICS : Exa s s.heap w_CREATE_TOPICS "com/example/onceward/onceward/protocol/ApiKey" := Exa.start ev_CREATE_TOPICS g15a
  obtain ⟨w_DELETE_TOPICS, ev_DELETE_TOPICS⟩ := exa_v g16a
  have S_DELETE_TOPICS : Sta s s.heap "com/example/onceward/onceward/protocol/ApiKey" "DELETE_TOPICS" "Lcom/example/onceward/onceward/protocol/ApiKey;" (.ref w_DELETE_TOPICS) := Sta.start ev_DELETE_TOPICS (Or.inr ⟨(hw _ (List.mem_of_getElem? (i := 3) rfl)), (hw _ (List.mem_of_getElem? (i := 31) rfl))⟩)
  have E_DELETE_TOPICS : Exa s s.heap w_DELETE_TOPICS "com/example/onceward/onceward/protocol/ApiKey" := Exa.start ev_DELETE_TOPICS g16a
  obtain ⟨w_INIT_PRODUCER_ID, ev_INIT_PRODUCER_ID⟩ := exa_v g17a
  have S_INIT_PRODUCER_ID : Sta s s.heap "com/example/onceward/onceward/protocol/ApiKey" "INIT_PRODUCER_ID" "Lcom/example/onceward/onceward/protocol/ApiKey;" (.ref w_INIT_PRODUCER_ID) := Sta.start ev_INIT_PRODUCER_ID (Or.inr ⟨(hw _ (List.mem_of_getElem? (i := 3) rfl)), (hw _ (List.mem_of_getElem? (i := 33) rfl))⟩)
  have E_INIT_PRODUCER_ID : Exa s s.heap w_INIT_PRODUCER_ID "com/example/onceward/onceward/protocol/ApiKey" := Exa.start ev_INIT_PRODUCER_ID g17a
  obtain ⟨w_ADD_PARTITIONS_TO_TXN, ev_ADD_PARTITIONS_TO_TXN⟩ := exa_v g18a
  have S_ADD_PARTITIONS_TO_TXN : Sta s s.heap "com/example/onceward/onceward/protocol/ApiKey" "ADD_PARTITIONS_TO_TXN" "Lcom/example/onceward/onceward/protocol/ApiKey;" (.ref w_ADD_PARTITIONS_TO_TXN) := Sta.start ev_ADD_PARTITIONS_TO_TXN (Or.inr ⟨(hw _ (List.mem_of_getElem? (i := 3) rfl)), (hw _ (List.mem_of_getElem? (i := 35) rfl))⟩)
  have E_ADD_PARTITIONS_TO_TXN : Exa s s.heap w_ADD_PARTITIONS_TO_TXN "com/example/onceward/onceward/protocol/ApiKey" := Exa.start ev_ADD_PARTITIONS_TO_TXN g18a
  obtain ⟨w_ADD_OFFSETS_TO_TXN, ev_ADD_OFFSETS_TO_TXN⟩ := exa_v g19a
  have S_ADD_OFFSETS_TO_TXN : Sta s s.heap "com/example/onceward/onceward/protocol/ApiKey" "ADD_OFFSETS_TO_TXN" "Lcom/example/onceward/onceward/protocol/ApiKey;" (.ref w_ADD_OFFSETS_TO_TXN) := Sta.start ev_ADD_OFFSETS_TO_TXN (Or.inr ⟨(hw _ (List.mem_of_getElem? (i := 3) rfl)), (hw _ (List.mem_of_getElem? (i := 37) rfl))⟩)
  have E_ADD_OFFSETS_TO_TXN : Exa s s.heap w_ADD_OFFSETS_TO_TXN "com/example/onceward/onceward/protocol/ApiKey" := Exa.start ev_ADD_OFFSETS_TO_TXN g19a
  obtain ⟨w_END_TXN, ev_END_TXN⟩ := exa_v g20a
  have S_END_TXN : Sta s s.heap "com/example/onceward/onceward/protocol/ApiKey" "END_TXN" "Lcom/example/onceward/onceward/protocol/ApiKey;" (.ref w_END_TXN) := Sta.start ev_END_TXN (Or.inr ⟨(hw _ (List.mem_of_getElem? (i := 3) rfl)), (hw _ (List.mem_of_getElem? (i := 39) rfl))⟩)
  have E_END_TXN : Exa s s.heap w_END_TXN "com/example/onceward/onceward/protocol/ApiKey" := Exa.start ev_END_TXN g20a
  obtain ⟨w_TXN_OFFSET_COMMIT, ev_TXN_OFFSET_COMMIT⟩ := exa_v g21a
  have S_TXN_OFFSET_COMMIT : Sta s s.heap "com/example/onceward/onceward/protocol/ApiKey" "TXN_OFFSET_COMMIT" "Lcom/example/onceward/onceward/protocol/ApiKey;" (.ref w_TXN_OFFSET_COMMIT) := Sta.start ev_TXN_OFFSET_COMMIT (Or.inr ⟨(hw _ (List.mem_of_getElem? (i := 3) rfl)), (hw _ (List.mem_of_getElem? (i := 41) rfl))⟩)
  have E_TXN_OFFSET_COMMIT : Exa s s.heap w_TXN_OFFSET_COMMIT "com/example/onceward/onceward/protocol/ApiKey" := Exa.start ev_TXN_OFFSET_COMMIT g21a
  obtain ⟨w_DESCRIBE_CONFIGS, ev_DESCRIBE_CONFIGS⟩ := exa_v g22a
  have S_DESCRIBE_CONFIGS : Sta s s.heap "com/example/onceward/onceward/protocol/ApiKey" "DESCRIBE_CONFIGS" "Lcom/example/onceward/onceward/protocol/ApiKey;" (.ref w_DESCRIBE_CONFIGS) := Sta.start ev_DESCRIBE_CONFIGS (Or.inr ⟨(hw _ (List.mem_of_getElem? (i := 3) rfl)), (hw _ (List.mem_of_getElem? (i := 43) rfl))⟩)
  have E_DESCRIBE_CONFIGS : Exa s s.heap w_DESCRIBE_CONFIGS "com/example/onceward/onceward/protocol/ApiKey" := Exa.start ev_DESCRIBE_CONFIGS g22a
  have o_oldestVersion_PRODUCE : s.fieldOf? w_PRODUCE "com/example/onceward/onceward/protocol/ApiKey" "oldestVersion" "S" = some (.int (3 : Int32)) := (fld_at ev_PRODUCE).symm.trans (own_eq_int g23a)
  have F_oldestVersion_PRODUCE := Fld.start o_oldestVersion_PRODUCE
  have o_latestVersion_PRODUCE : s.fieldOf? w_PRODUCE "com/example/onceward/onceward/protocol/ApiKey" "latestVersion" "S" = some (.int (7 : Int32)) := (fld_at ev_PRODUCE).symm.trans (own_eq_int g24a)
  have F_latestVersion_PRODUCE := Fld.start o_latestVersion_PRODUCE
  have o_oldestVersion_INIT_PRODUCER_ID : s.fieldOf? w_INIT_PRODUCER_ID "com/example/onceward/onceward/protocol/ApiKey" "oldestVersion" "S" = some (.int (0 : Int32)) := (fld_at ev_INIT_PRODUCER_ID).symm.trans (own_eq_int g25a)
  have F_oldestVersion_INIT_PRODUCER_ID := Fld.start o_oldestVersion_INIT_PRODUCER_ID
  have o_latestVersion_INIT_PRODUCER_ID : s.fieldOf? w_INIT_PRODUCER_ID "com/example/onceward/onceward/protocol/ApiKey" "latestVersion" "S" = some (.int (1 : Int32)) := (fld_at ev_INIT_PRODUCER_ID).symm.trans (own_eq_int g26a)
  have F_latestVersion_INIT_PRODUCER_ID := Fld.start o_latestVersion_INIT_PRODUCER_ID
  have o_oldestVersion_HEARTBEAT : s.fieldOf? w_HEARTBEAT "com/example/onceward/onceward/protocol/ApiKey" "oldestVersion" "S" = some (.int (0 : Int32)) := (fld_at ev_HEARTBEAT).symm.trans (own_eq_int g27a)
  have F_oldestVersion_HEARTBEAT := Fld.start o_oldestVersion_HEARTBEAT
  have o_latestVersion_HEARTBEAT : s.fieldOf? w_HEARTBEAT "com/example/onceward/onceward/protocol/ApiKey" "latestVersion" "S" = some (.int (1 : Int32)) := (fld_at ev_HEARTBEAT).symm.trans (own_eq_int g28a)
  have F_latestVersion_HEARTBEAT := Fld.start o_latestVersion_HEARTBEAT
  have o_oldestVersion_ADD_OFFSETS_TO_TXN : s.fieldOf? w_ADD_OFFSETS_TO_TXN "com/example/onceward/onceward/protocol/ApiKey" "oldestVersion" "S" = some (.int (0 : Int32)) := (fld_at ev_ADD_OFFSETS_TO_TXN).symm.trans (own_eq_int g29a)
  have F_oldestVersion_ADD_OFFSETS_TO_TXN := Fld.start o_oldestVersion_ADD_OFFSETS_TO_TXN
  have o_latestVersion_ADD_OFFSETS_TO_TXN : s.fieldOf? w_ADD_OFFSETS_TO_TXN "com/example/onceward/onceward/protocol/ApiKey" "latestVersion" "S" = some (.int (1 : Int32)) := (fld_at ev_ADD_OFFSETS_TO_TXN).symm.trans (own_eq_int g30a)
  have F_latestVersion_ADD_OFFSETS_TO_TXN := Fld.start o_latestVersion_ADD_OFFSETS_TO_TXN
  have o_oldestVersion_LEAVE_GROUP : s.fieldOf? w_LEAVE_GROUP "com/example/onceward/onceward/protocol/ApiKey" "oldestVersion" "S" = some (.int (0 : Int32)) := (fld_at ev_LEAVE_GROUP).symm.trans (own_eq_int g31a)
  have F_oldestVersion_LEAVE_GROUP := Fld.start o_oldestVersion_LEAVE_GROUP
  have o_latestVersion_LEAVE_GROUP : s.fieldOf? w_LEAVE_GROUP "com/example/onceward/onceward/protocol/ApiKey" "latestVersion" "S" = some (.int (1 : Int32)) := (fld_at ev_LEAVE_GROUP).symm.trans (own_eq_int g32a)
  have F_latestVersion_LEAVE_GROUP := Fld.start o_latestVersion_LEAVE_GROUP
  have o_oldestVersion_FIND_COORDINATOR : s.fieldOf? w_FIND_COORDINATOR "com/example/onceward/onceward/protocol/ApiKey" "oldestVersion" "S" = some (.int (0 : Int32)) := (fld_at ev_FIND_COORDINATOR).symm.trans (own_eq_int g33a)
  have F_oldestVersion_FIND_COORDINATOR := Fld.start o_oldestVersion_FIND_COORDINATOR
  have o_latestVersion_FIND_COORDINATOR : s.fieldOf? w_FIND_COORDINATOR "com/example/onceward/onceward/protocol/ApiKey" "latestVersion" "S" = some (.int (2 : Int32)) := (fld_at ev_FIND_COORDINATOR).symm.trans (own_eq_int g34a)
  have F_latestVersion_FIND_COORDINATOR := Fld.start o_latestVersion_FIND_COORDINATOR
  have o_oldestVersion_CREATE_TOPICS : s.fieldOf? w_CREATE_TOPICS "com/example/onceward/onceward/protocol/ApiKey" "oldestVersion" "S" = some (.int (0 : Int32)) := (fld_at ev_CREATE_TOPICS).symm.trans (own_eq_int g35a)
  have F_oldestVersion_CREATE_TOPICS := Fld.start o_oldestVersion_CREATE_TOPICS
  have o_latestVersion_CREATE_TOPICS : s.fieldOf? w_CREATE_TOPICS "com/example/onceward/onceward/protocol/ApiKey" "latestVersion" "S" = some (.int (4 : Int32)) := (fld_at ev_CREATE_TOPICS).symm.trans (own_eq_int g36a)
  have F_latestVersion_CREATE_TOPICS := Fld.start o_latestVersion_CREATE_TOPICS
  have o_oldestVersion_DESCRIBE_CONFIGS : s.fieldOf? w_DESCRIBE_CONFIGS "com/example/onceward/onceward/protocol/ApiKey" "oldestVersion" "S" = some (.int (0 : Int32)) := (fld_at ev_DESCRIBE_CONFIGS).symm.trans (own_eq_int g37a)
  have F_oldestVersion_DESCRIBE_CONFIGS := Fld.start o_oldestVersion_DESCRIBE_CONFIGS
  have o_latestVersion_DESCRIBE_CONFIGS : s.fieldOf? w_DESCRIBE_CONFIGS "com/example/onceward/onceward/protocol/ApiKey" "latestVersion" "S" = some (.int (2 : Int32)) := (fld_at ev_DESCRIBE_CONFIGS).symm.trans (own_eq_int g38a)
  have F_latestVersion_DESCRIBE_CONFIGS := Fld.start o_latestVersion_DESCRIBE_CONFIGS
  have o_oldestVersion_METADATA : s.fieldOf? w_METADATA "com/example/onceward/onceward/protocol/ApiKey" "oldestVersion" "S" = some (.int (0 : Int32)) := (fld_at ev_METADATA).symm.trans (own_eq_int g39a)
  have F_oldestVersion_METADATA := Fld.start o_oldestVersion_METADATA
  have o_latestVersion_METADATA : s.fieldOf? w_METADATA "com/example/onceward/onceward/protocol/ApiKey" "latestVersion" "S" = some (.int (5 : Int32)) := (fld_at ev_METADATA).symm.trans (own_eq_int g40a)
  have F_latestVersion_METADATA := Fld.start o_latestVersion_METADATA
  have o_oldestVersion_FETCH : s.fieldOf? w_FETCH "com/example/onceward/onceward/protocol/ApiKey" "oldestVersion" "S" = some (.int (4 : Int32)) := (fld_at ev_FETCH).symm.trans (own_eq_int g41a)
  have F_oldestVersion_FETCH := Fld.start o_oldestVersion_FETCH
  have o_latestVersion_FETCH : s.fieldOf? w_FETCH "com/example/onceward/onceward/protocol/ApiKey" "latestVersion" "S" = some (.int (11 : Int32)) := (fld_at ev_FETCH).symm.trans (own_eq_int g42a)
  have F_latestVersion_FETCH := Fld.start o_latestVersion_FETCH
  have o_oldestVersion_OFFSET_FETCH : s.fieldOf? w_OFFSET_FETCH "com/example/onceward/onceward/protocol/ApiKey" "oldestVersion" "S" = some (.int (1 : Int32)) := (fld_at ev_OFFSET_FETCH).symm.trans (own_eq_int g43a)
  have F_oldestVersion_OFFSET_FETCH := Fld.start o_oldestVersion_OFFSET_FETCH
  have o_latestVersion_OFFSET_FETCH : s.fieldOf? w_OFFSET_FETCH "com/example/onceward/onceward/protocol/ApiKey" "latestVersion" "S" = some (.int (7 : Int32)) := (fld_at ev_OFFSET_FETCH).symm.trans (own_eq_int g44a)
  have F_latestVersion_OFFSET_FETCH := Fld.start o_latestVersion_OFFSET_FETCH
  have o_oldestVersion_JOIN_GROUP : s.fieldOf? w_JOIN_GROUP "com/example/onceward/onceward/protocol/ApiKey" "oldestVersion" "S" = some (.int (0 : Int32)) := (fld_at ev_JOIN_GROUP).symm.trans (own_eq_int g45a)
  have F_oldestVersion_JOIN_GROUP := Fld.start o_oldestVersion_JOIN_GROUP
  have o_oldestVersion_LIST_OFFSETS : s.fieldOf? w_LIST_OFFSETS "com/example/onceward/onceward/protocol/ApiKey" "oldestVersion" "S" = some (.int (1 : Int32)) := (fld_at ev_LIST_OFFSETS).symm.trans (own_eq_int g46a)
  have F_oldestVersion_LIST_OFFSETS := Fld.start o_oldestVersion_LIST_OFFSETS
  have o_latestVersion_LIST_OFFSETS : s.fieldOf? w_LIST_OFFSETS "com/example/onceward/onceward/protocol/ApiKey" "latestVersion" "S" = some (.int (5 : Int32)) := (fld_at ev_LIST_OFFSETS).symm.trans (own_eq_int g47a)
  have F_latestVersion_LIST_OFFSETS := Fld.start o_latestVersion_LIST_OFFSETS
  have o_oldestVersion_SYNC_GROUP : s.fieldOf? w_SYNC_GROUP "com/example/onceward/onceward/protocol/ApiKey" "oldestVersion" "S" = some (.int (0 : Int32)) := (fld_at ev_SYNC_GROUP).symm.trans (own_eq_int g48a)
  have F_oldestVersion_SYNC_GROUP := Fld.start o_oldestVersion_SYNC_GROUP
  have o_latestVersion_SYNC_GROUP : s.fieldOf? w_SYNC_GROUP "com/example/onceward/onceward/protocol/ApiKey" "latestVersion" "S" = some (.int (1 : Int32)) := (fld_at ev_SYNC_GROUP).symm.trans (own_eq_int g49a)
  have F_latestVersion_SYNC_GROUP := Fld.start o_latestVersion_SYNC_GROUP
  have o_oldestVersion_API_VERSIONS : s.fieldOf? w_API_VERSIONS "com/example/onceward/onceward/protocol/ApiKey" "oldestVersion" "S" = some (.int (0 : Int32)) := (fld_at ev_API_VERSIONS).symm.trans (own_eq_int g50a)
  have F_oldestVersion_API_VERSIONS := Fld.start o_oldestVersion_API_VERSIONS
  have o_oldestVersion_OFFSET_COMMIT : s.fieldOf? w_OFFSET_COMMIT "com/example/onceward/onceward/protocol/ApiKey" "oldestVersion" "S" = some (.int (1 : Int32)) := (fld_at ev_OFFSET_COMMIT).symm.trans (own_eq_int g51a)
  have F_oldestVersion_OFFSET_COMMIT := Fld.start o_oldestVersion_OFFSET_COMMIT
  have o_latestVersion_OFFSET_COMMIT : s.fieldOf? w_OFFSET_COMMIT "com/example/onceward/onceward/protocol/ApiKey" "latestVersion" "S" = some (.int (3 : Int32)) := (fld_at ev_OFFSET_COMMIT).symm.trans (own_eq_int g52a)
  have F_latestVersion_OFFSET_COMMIT := Fld.start o_latestVersion_OFFSET_COMMIT
  have o_latestVersion_JOIN_GROUP : s.fieldOf? w_JOIN_GROUP "com/example/onceward/onceward/protocol/ApiKey" "latestVersion" "S" = some (.int (2 : Int32)) := (fld_at ev_JOIN_GROUP).symm.trans (own_eq_int g53a)
  have F_latestVersion_JOIN_GROUP := Fld.start o_latestVersion_JOIN_GROUP
  have o_oldestVersion_END_TXN : s.fieldOf? w_END_TXN "com/example/onceward/onceward/protocol/ApiKey" "oldestVersion" "S" = some (.int (0 : Int32)) := (fld_at ev_END_TXN).symm.trans (own_eq_int g54a)
  have F_oldestVersion_END_TXN := Fld.start o_oldestVersion_END_TXN
  have o_latestVersion_END_TXN : s.fieldOf? w_END_TXN "com/example/onceward/onceward/protocol/ApiKey" "latestVersion" "S" = some (.int (2 : Int32)) := (fld_at ev_END_TXN).symm.trans (own_eq_int g55a)
  have F_latestVersion_END_TXN := Fld.start o_latestVersion_END_TXN
  have o_oldestVersion_TXN_OFFSET_COMMIT : s.fieldOf? w_TXN_OFFSET_COMMIT "com/example/onceward/onceward/protocol/ApiKey" "oldestVersion" "S" = some (.int (0 : Int32)) := (fld_at ev_TXN_OFFSET_COMMIT).symm.trans (own_eq_int g56a)
  have F_oldestVersion_TXN_OFFSET_COMMIT := Fld.start o_oldestVersion_TXN_OFFSET_COMMIT
  have o_oldestVersion_ADD_PARTITIONS_TO_TXN : s.fieldOf? w_ADD_PARTITIONS_TO_TXN "com/example/onceward/onceward/protocol/ApiKey" "oldestVersion" "S" = some (.int (0 : Int32)) := (fld_at ev_ADD_PARTITIONS_TO_TXN).symm.trans (own_eq_int g57a)
  have F_oldestVersion_ADD_PARTITIONS_TO_TXN := Fld.start o_oldestVersion_ADD_PARTITIONS_TO_TXN
  have o_latestVersion_ADD_PARTITIONS_TO_TXN : s.fieldOf? w_ADD_PARTITIONS_TO_TXN "com/example/onceward/onceward/protocol/ApiKey" "latestVersion" "S" = some (.int (2 : Int32)) := (fld_at ev_ADD_PARTITIONS_TO_TXN).symm.trans (own_eq_int g58a)
  have F_latestVersion_ADD_PARTITIONS_TO_TXN := Fld.start o_latestVersion_ADD_PARTITIONS_TO_TXN
  have o_latestVersion_API_VERSIONS : s.fieldOf? w_API_VERSIONS "com/example/onceward/onceward/protocol/ApiKey" "latestVersion" "S" = some (.int (3 : Int32)) := (fld_at ev_API_VERSIONS).symm.trans (own_eq_int g59a)
  have F_latestVersion_API_VERSIONS := Fld.start o_latestVersion_API_VERSIONS
  have o_latestVersion_TXN_OFFSET_COMMIT : s.fieldOf? w_TXN_OFFSET_COMMIT "com/example/onceward/onceward/protocol/ApiKey" "latestVersion" "S" = some (.int (3 : Int32)) := (fld_at ev_TXN_OFFSET_COMMIT).symm.trans (own_eq_int g60a)
  have F_latestVersion_TXN_OFFSET_COMMIT := Fld.start o_latestVersion_TXN_OFFSET_COMMIT
  have o_oldestVersion_DELETE_TOPICS : s.fieldOf? w_DELETE_TOPICS "com/example/onceward/onceward/protocol/ApiKey" "oldestVersion" "S" = some (.int (0 : Int32)) := (fld_at ev_DELETE_TOPICS).symm.trans (own_eq_int g61a)
  have F_oldestVersion_DELETE_TOPICS := Fld.start o_oldestVersion_DELETE_TOPICS
  have o_latestVersion_DELETE_TOPICS : s.fieldOf? w_DELETE_TOPICS "com/example/onceward/onceward/protocol/ApiKey" "latestVersion" "S" = some (.int (3 : Int32)) := (fld_at ev_DELETE_TOPICS).symm.trans (own_eq_int g61b)
  have F_latestVersion_DELETE_TOPICS := Fld.start o_latestVersion_DELETE_TOPICS
  let w : Nat → Addr := fun i => match i with | 0 => w_PRODUCE | 1 => w_FETCH | 2 => w_LIST_OFFSETS | 3 => w_METADATA | 4 => w_OFFSET_COMMIT | 5 => w_OFFSET_FETCH | 6 => w_FIND_COORDINATOR | 7 => w_JOIN_GROUP | 8 => w_HEARTBEAT | 9 => w_LEAVE_GROUP | 10 => w_SYNC_GROUP | 11 => w_API_VERSIONS | 12 => w_CREATE_TOPICS | 13 => w_DELETE_TOPICS | 14 => w_INIT_PRODUCER_ID | 15 => w_ADD_PARTITIONS_TO_TXN | 16 => w_ADD_OFFSETS_TO_TXN | 17 => w_END_TXN | 18 => w_TXN_OFFSET_COMMIT | 19 => w_DESCRIBE_CONFIGS | _ => 0
  have G : Good s s.heap w := fun i hi => by
    match i, hi with
    | 0, _ => exact ⟨S_PRODUCE, E_PRODUCE⟩
    | 1, _ => exact ⟨S_FETCH, E_FETCH⟩
    | 2, _ => exact ⟨S_LIST_OFFSETS, E_LIST_OFFSETS⟩
    | 3, _ => exact ⟨S_METADATA, E_METADATA⟩
    | 4, _ => exact ⟨S_OFFSET_COMMIT, E_OFFSET_COMMIT⟩
    | 5, _ => exact ⟨S_OFFSET_FETCH, E_OFFSET_FETCH⟩
    | 6, _ => exact ⟨S_FIND_COORDINATOR, E_FIND_COORDINATOR⟩
    | 7, _ => exact ⟨S_JOIN_GROUP, E_JOIN_GROUP⟩
    | 8, _ => exact ⟨S_HEARTBEAT, E_HEARTBEAT⟩
    | 9, _ => exact ⟨S_LEAVE_GROUP, E_LEAVE_GROUP⟩
    | 10, _ => exact ⟨S_SYNC_GROUP, E_SYNC_GROUP⟩
    | 11, _ => exact ⟨S_API_VERSIONS, E_API_VERSIONS⟩
    | 12, _ => exact ⟨S_CREATE_TOPICS, E_CREATE_TOPICS⟩
    | 13, _ => exact ⟨S_DELETE_TOPICS, E_DELETE_TOPICS⟩
    | 14, _ => exact ⟨S_INIT_PRODUCER_ID, E_INIT_PRODUCER_ID⟩
    | 15, _ => exact ⟨S_ADD_PARTITIONS_TO_TXN, E_ADD_PARTITIONS_TO_TXN⟩
    | 16, _ => exact ⟨S_ADD_OFFSETS_TO_TXN, E_ADD_OFFSETS_TO_TXN⟩
    | 17, _ => exact ⟨S_END_TXN, E_END_TXN⟩
    | 18, _ => exact ⟨S_TXN_OFFSET_COMMIT, E_TXN_OFFSET_COMMIT⟩
    | 19, _ => exact ⟨S_DESCRIBE_CONFIGS, E_DESCRIBE_CONFIGS⟩
    | n + 20, hi => exact absurd hi (by omega)
  have C0 : WO l s x code maxLocals ret room_1 #[.int i0, .int i1] s.heap s.heap.size (.int (1 : Int32)) := by
    rcases own_sel20 i0 with q | q | q | q | q | q | q | q | q | q | q | q | q | q | q | q | q | q | q | q
    · by_cases h1 : (i1.toInt16.toInt32) < (3 : Int32)
      · exact law_lt l s _ hw i0 i1 (3 : Int32) (7 : Int32) w w_PRODUCE s.heap s.heap.size (Nat.le_refl _) (G := G) (Ek := E_PRODUCE) (hs := by rw [q]; decide) (hwk := by rw [q]; rfl) (hlo := by rw [q]; rfl) (hhi := by rw [q]; rfl) (Cs := fun h K => serves_lt l s _ hw w_PRODUCE (i1.toInt16.toInt32) (3 : Int32) (7 : Int32) h s.heap.size K.1 (F_oldestVersion_PRODUCE.keep K nin0) h1) (hc361 := h1)
      · by_cases h2 : (7 : Int32) < (i1.toInt16.toInt32)
        · exact law_gt l s _ hw i0 i1 (3 : Int32) (7 : Int32) w w_PRODUCE s.heap s.heap.size (Nat.le_refl _) (G := G) (Ek := E_PRODUCE) (hs := by rw [q]; decide) (hwk := by rw [q]; rfl) (hlo := by rw [q]; rfl) (hhi := by rw [q]; rfl) (Cs := fun h K => serves_gt l s _ hw w_PRODUCE (i1.toInt16.toInt32) (3 : Int32) (7 : Int32) h s.heap.size K.1 (F_oldestVersion_PRODUCE.keep K nin0) (F_latestVersion_PRODUCE.keep K nin0) h1 h2) (hc361 := h1) (hc371 := h2)
        · exact law_in l s _ hw i0 i1 (3 : Int32) (7 : Int32) w w_PRODUCE s.heap s.heap.size (Nat.le_refl _) (G := G) (Ek := E_PRODUCE) (hs := by rw [q]; decide) (hwk := by rw [q]; rfl) (hlo := by rw [q]; rfl) (hhi := by rw [q]; rfl) (Cs := fun h K => serves_in l s _ hw w_PRODUCE (i1.toInt16.toInt32) (3 : Int32) (7 : Int32) h s.heap.size K.1 (F_oldestVersion_PRODUCE.keep K nin0) (F_latestVersion_PRODUCE.keep K nin0) h1 h2) (hc361 := h1) (hc371 := h2)
    · by_cases h1 : (i1.toInt16.toInt32) < (4 : Int32)
      · exact law_lt l s _ hw i0 i1 (4 : Int32) (11 : Int32) w w_FETCH s.heap s.heap.size (Nat.le_refl _) (G := G) (Ek := E_FETCH) (hs := by rw [q]; decide) (hwk := by rw [q]; rfl) (hlo := by rw [q]; rfl) (hhi := by rw [q]; rfl) (Cs := fun h K => serves_lt l s _ hw w_FETCH (i1.toInt16.toInt32) (4 : Int32) (11 : Int32) h s.heap.size K.1 (F_oldestVersion_FETCH.keep K nin0) h1) (hc361 := h1)
      · by_cases h2 : (11 : Int32) < (i1.toInt16.toInt32)
        · exact law_gt l s _ hw i0 i1 (4 : Int32) (11 : Int32) w w_FETCH s.heap s.heap.size (Nat.le_refl _) (G := G) (Ek := E_FETCH) (hs := by rw [q]; decide) (hwk := by rw [q]; rfl) (hlo := by rw [q]; rfl) (hhi := by rw [q]; rfl) (Cs := fun h K => serves_gt l s _ hw w_FETCH (i1.toInt16.toInt32) (4 : Int32) (11 : Int32) h s.heap.size K.1 (F_oldestVersion_FETCH.keep K nin0) (F_latestVersion_FETCH.keep K nin0) h1 h2) (hc361 := h1) (hc371 := h2)
        · exact law_in l s _ hw i0 i1 (4 : Int32) (11 : Int32) w w_FETCH s.heap s.heap.size (Nat.le_refl _) (G := G) (Ek := E_FETCH) (hs := by rw [q]; decide) (hwk := by rw [q]; rfl) (hlo := by rw [q]; rfl) (hhi := by rw [q]; rfl) (Cs := fun h K => serves_in l s _ hw w_FETCH (i1.toInt16.toInt32) (4 : Int32) (11 : Int32) h s.heap.size K.1 (F_oldestVersion_FETCH.keep K nin0) (F_latestVersion_FETCH.keep K nin0) h1 h2) (hc361 := h1) (hc371 := h2)
    · by_cases h1 : (i1.toInt16.toInt32) < (1 : Int32)
      · exact law_lt l s _ hw i0 i1 (1 : Int32) (5 : Int32) w w_LIST_OFFSETS s.heap s.heap.size (Nat.le_refl _) (G := G) (Ek := E_LIST_OFFSETS) (hs := by rw [q]; decide) (hwk := by rw [q]; rfl) (hlo := by rw [q]; rfl) (hhi := by rw [q]; rfl) (Cs := fun h K => serves_lt l s _ hw w_LIST_OFFSETS (i1.toInt16.toInt32) (1 : Int32) (5 : Int32) h s.heap.size K.1 (F_oldestVersion_LIST_OFFSETS.keep K nin0) h1) (hc361 := h1)
      · by_cases h2 : (5 : Int32) < (i1.toInt16.toInt32)
        · exact law_gt l s _ hw i0 i1 (1 : Int32) (5 : Int32) w w_LIST_OFFSETS s.heap s.heap.size (Nat.le_refl _) (G := G) (Ek := E_LIST_OFFSETS) (hs := by rw [q]; decide) (hwk := by rw [q]; rfl) (hlo := by rw [q]; rfl) (hhi := by rw [q]; rfl) (Cs := fun h K => serves_gt l s _ hw w_LIST_OFFSETS (i1.toInt16.toInt32) (1 : Int32) (5 : Int32) h s.heap.size K.1 (F_oldestVersion_LIST_OFFSETS.keep K nin0) (F_latestVersion_LIST_OFFSETS.keep K nin0) h1 h2) (hc361 := h1) (hc371 := h2)
        · exact law_in l s _ hw i0 i1 (1 : Int32) (5 : Int32) w w_LIST_OFFSETS s.heap s.heap.size (Nat.le_refl _) (G := G) (Ek := E_LIST_OFFSETS) (hs := by rw [q]; decide) (hwk := by rw [q]; rfl) (hlo := by rw [q]; rfl) (hhi := by rw [q]; rfl) (Cs := fun h K => serves_in l s _ hw w_LIST_OFFSETS (i1.toInt16.toInt32) (1 : Int32) (5 : Int32) h s.heap.size K.1 (F_oldestVersion_LIST_OFFSETS.keep K nin0) (F_latestVersion_LIST_OFFSETS.keep K nin0) h1 h2) (hc361 := h1) (hc371 := h2)
    · by_cases h1 : (i1.toInt16.toInt32) < (0 : Int32)
      · exact law_lt l s _ hw i0 i1 (0 : Int32) (5 : Int32) w w_METADATA s.heap s.heap.size (Nat.le_refl _) (G := G) (Ek := E_METADATA) (hs := by rw [q]; decide) (hwk := by rw [q]; rfl) (hlo := by rw [q]; rfl) (hhi := by rw [q]; rfl) (Cs := fun h K => serves_lt l s _ hw w_METADATA (i1.toInt16.toInt32) (0 : Int32) (5 : Int32) h s.heap.size K.1 (F_oldestVersion_METADATA.keep K nin0) h1) (hc361 := h1)
      · by_cases h2 : (5 : Int32) < (i1.toInt16.toInt32)
        · exact law_gt l s _ hw i0 i1 (0 : Int32) (5 : Int32) w w_METADATA s.heap s.heap.size (Nat.le_refl _) (G := G) (Ek := E_METADATA) (hs := by rw [q]; decide) (hwk := by rw [q]; rfl) (hlo := by rw [q]; rfl) (hhi := by rw [q]; rfl) (Cs := fun h K => serves_gt l s _ hw w_METADATA (i1.toInt16.toInt32) (0 : Int32) (5 : Int32) h s.heap.size K.1 (F_oldestVersion_METADATA.keep K nin0) (F_latestVersion_METADATA.keep K nin0) h1 h2) (hc361 := h1) (hc371 := h2)
        · exact law_in l s _ hw i0 i1 (0 : Int32) (5 : Int32) w w_METADATA s.heap s.heap.size (Nat.le_refl _) (G := G) (Ek := E_METADATA) (hs := by rw [q]; decide) (hwk := by rw [q]; rfl) (hlo := by rw [q]; rfl) (hhi := by rw [q]; rfl) (Cs := fun h K => serves_in l s _ hw w_METADATA (i1.toInt16.toInt32) (0 : Int32) (5 : Int32) h s.heap.size K.1 (F_oldestVersion_METADATA.keep K nin0) (F_latestVersion_METADATA.keep K nin0) h1 h2) (hc361 := h1) (hc371 := h2)
    · by_cases h1 : (i1.toInt16.toInt32) < (1 : Int32)
      · exact law_lt l s _ hw i0 i1 (1 : Int32) (3 : Int32) w w_OFFSET_COMMIT s.heap s.heap.size (Nat.le_refl _) (G := G) (Ek := E_OFFSET_COMMIT) (hs := by rw [q]; decide) (hwk := by rw [q]; rfl) (hlo := by rw [q]; rfl) (hhi := by rw [q]; rfl) (Cs := fun h K => serves_lt l s _ hw w_OFFSET_COMMIT (i1.toInt16.toInt32) (1 : Int32) (3 : Int32) h s.heap.size K.1 (F_oldestVersion_OFFSET_COMMIT.keep K nin0) h1) (hc361 := h1)
      · by_cases h2 : (3 : Int32) < (i1.toInt16.toInt32)
        · exact law_gt l s _ hw i0 i1 (1 : Int32) (3 : Int32) w w_OFFSET_COMMIT s.heap s.heap.size (Nat.le_refl _) (G := G) (Ek := E_OFFSET_COMMIT) (hs := by rw [q]; decide) (hwk := by rw [q]; rfl) (hlo := by rw [q]; rfl) (hhi := by rw [q]; rfl) (Cs := fun h K => serves_gt l s _ hw w_OFFSET_COMMIT (i1.toInt16.toInt32) (1 : Int32) (3 : Int32) h s.heap.size K.1 (F_oldestVersion_OFFSET_COMMIT.keep K nin0) (F_latestVersion_OFFSET_COMMIT.keep K nin0) h1 h2) (hc361 := h1) (hc371 := h2)
        · exact law_in l s _ hw i0 i1 (1 : Int32) (3 : Int32) w w_OFFSET_COMMIT s.heap s.heap.size (Nat.le_refl _) (G := G) (Ek := E_OFFSET_COMMIT) (hs := by rw [q]; decide) (hwk := by rw [q]; rfl) (hlo := by rw [q]; rfl) (hhi := by rw [q]; rfl) (Cs := fun h K => serves_in l s _ hw w_OFFSET_COMMIT (i1.toInt16.toInt32) (1 : Int32) (3 : Int32) h s.heap.size K.1 (F_oldestVersion_OFFSET_COMMIT.keep K nin0) (F_latestVersion_OFFSET_COMMIT.keep K nin0) h1 h2) (hc361 := h1) (hc371 := h2)
    · by_cases h1 : (i1.toInt16.toInt32) < (1 : Int32)
      · exact law_lt l s _ hw i0 i1 (1 : Int32) (7 : Int32) w w_OFFSET_FETCH s.heap s.heap.size (Nat.le_refl _) (G := G) (Ek := E_OFFSET_FETCH) (hs := by rw [q]; decide) (hwk := by rw [q]; rfl) (hlo := by rw [q]; rfl) (hhi := by rw [q]; rfl) (Cs := fun h K => serves_lt l s _ hw w_OFFSET_FETCH (i1.toInt16.toInt32) (1 : Int32) (7 : Int32) h s.heap.size K.1 (F_oldestVersion_OFFSET_FETCH.keep K nin0) h1) (hc361 := h1)
      · by_cases h2 : (7 : Int32) < (i1.toInt16.toInt32)
        · exact law_gt l s _ hw i0 i1 (1 : Int32) (7 : Int32) w w_OFFSET_FETCH s.heap s.heap.size (Nat.le_refl _) (G := G) (Ek := E_OFFSET_FETCH) (hs := by rw [q]; decide) (hwk := by rw [q]; rfl) (hlo := by rw [q]; rfl) (hhi := by rw [q]; rfl) (Cs := fun h K => serves_gt l s _ hw w_OFFSET_FETCH (i1.toInt16.toInt32) (1 : Int32) (7 : Int32) h s.heap.size K.1 (F_oldestVersion_OFFSET_FETCH.keep K nin0) (F_latestVersion_OFFSET_FETCH.keep K nin0) h1 h2) (hc361 := h1) (hc371 := h2)
        · exact law_in l s _ hw i0 i1 (1 : Int32) (7 : Int32) w w_OFFSET_FETCH s.heap s.heap.size (Nat.le_refl _) (G := G) (Ek := E_OFFSET_FETCH) (hs := by rw [q]; decide) (hwk := by rw [q]; rfl) (hlo := by rw [q]; rfl) (hhi := by rw [q]; rfl) (Cs := fun h K => serves_in l s _ hw w_OFFSET_FETCH (i1.toInt16.toInt32) (1 : Int32) (7 : Int32) h s.heap.size K.1 (F_oldestVersion_OFFSET_FETCH.keep K nin0) (F_latestVersion_OFFSET_FETCH.keep K nin0) h1 h2) (hc361 := h1) (hc371 := h2)
    · by_cases h1 : (i1.toInt16.toInt32) < (0 : Int32)
      · exact law_lt l s _ hw i0 i1 (0 : Int32) (2 : Int32) w w_FIND_COORDINATOR s.heap s.heap.size (Nat.le_refl _) (G := G) (Ek := E_FIND_COORDINATOR) (hs := by rw [q]; decide) (hwk := by rw [q]; rfl) (hlo := by rw [q]; rfl) (hhi := by rw [q]; rfl) (Cs := fun h K => serves_lt l s _ hw w_FIND_COORDINATOR (i1.toInt16.toInt32) (0 : Int32) (2 : Int32) h s.heap.size K.1 (F_oldestVersion_FIND_COORDINATOR.keep K nin0) h1) (hc361 := h1)
      · by_cases h2 : (2 : Int32) < (i1.toInt16.toInt32)
        · exact law_gt l s _ hw i0 i1 (0 : Int32) (2 : Int32) w w_FIND_COORDINATOR s.heap s.heap.size (Nat.le_refl _) (G := G) (Ek := E_FIND_COORDINATOR) (hs := by rw [q]; decide) (hwk := by rw [q]; rfl) (hlo := by rw [q]; rfl) (hhi := by rw [q]; rfl) (Cs := fun h K => serves_gt l s _ hw w_FIND_COORDINATOR (i1.toInt16.toInt32) (0 : Int32) (2 : Int32) h s.heap.size K.1 (F_oldestVersion_FIND_COORDINATOR.keep K nin0) (F_latestVersion_FIND_COORDINATOR.keep K nin0) h1 h2) (hc361 := h1) (hc371 := h2)
        · exact law_in l s _ hw i0 i1 (0 : Int32) (2 : Int32) w w_FIND_COORDINATOR s.heap s.heap.size (Nat.le_refl _) (G := G) (Ek := E_FIND_COORDINATOR) (hs := by rw [q]; decide) (hwk := by rw [q]; rfl) (hlo := by rw [q]; rfl) (hhi := by rw [q]; rfl) (Cs := fun h K => serves_in l s _ hw w_FIND_COORDINATOR (i1.toInt16.toInt32) (0 : Int32) (2 : Int32) h s.heap.size K.1 (F_oldestVersion_FIND_COORDINATOR.keep K nin0) (F_latestVersion_FIND_COORDINATOR.keep K nin0) h1 h2) (hc361 := h1) (hc371 := h2)
    · by_cases h1 : (i1.toInt16.toInt32) < (0 : Int32)
      · exact law_lt l s _ hw i0 i1 (0 : Int32) (2 : Int32) w w_JOIN_GROUP s.heap s.heap.size (Nat.le_refl _) (G := G) (Ek := E_JOIN_GROUP) (hs := by rw [q]; decide) (hwk := by rw [q]; rfl) (hlo := by rw [q]; rfl) (hhi := by rw [q]; rfl) (Cs := fun h K => serves_lt l s _ hw w_JOIN_GROUP (i1.toInt16.toInt32) (0 : Int32) (2 : Int32) h s.heap.size K.1 (F_oldestVersion_JOIN_GROUP.keep K nin0) h1) (hc361 := h1)
      · by_cases h2 : (2 : Int32) < (i1.toInt16.toInt32)
        · exact law_gt l s _ hw i0 i1 (0 : Int32) (2 : Int32) w w_JOIN_GROUP s.heap s.heap.size (Nat.le_refl _) (G := G) (Ek := E_JOIN_GROUP) (hs := by rw [q]; decide) (hwk := by rw [q]; rfl) (hlo := by rw [q]; rfl) (hhi := by rw [q]; rfl) (Cs := fun h K => serves_gt l s _ hw w_JOIN_GROUP (i1.toInt16.toInt32) (0 : Int32) (2 : Int32) h s.heap.size K.1 (F_oldestVersion_JOIN_GROUP.keep K nin0) (F_latestVersion_JOIN_GROUP.keep K nin0) h1 h2) (hc361 := h1) (hc371 := h2)
        · exact law_in l s _ hw i0 i1 (0 : Int32) (2 : Int32) w w_JOIN_GROUP s.heap s.heap.size (Nat.le_refl _) (G := G) (Ek := E_JOIN_GROUP) (hs := by rw [q]; decide) (hwk := by rw [q]; rfl) (hlo := by rw [q]; rfl) (hhi := by rw [q]; rfl) (Cs := fun h K => serves_in l s _ hw w_JOIN_GROUP (i1.toInt16.toInt32) (0 : Int32) (2 : Int32) h s.heap.size K.1 (F_oldestVersion_JOIN_GROUP.keep K nin0) (F_latestVersion_JOIN_GROUP.keep K nin0) h1 h2) (hc361 := h1) (hc371 := h2)
    · by_cases h1 : (i1.toInt16.toInt32) < (0 : Int32)
      · exact law_lt l s _ hw i0 i1 (0 : Int32) (1 : Int32) w w_HEARTBEAT s.heap s.heap.size (Nat.le_refl _) (G := G) (Ek := E_HEARTBEAT) (hs := by rw [q]; decide) (hwk := by rw [q]; rfl) (hlo := by rw [q]; rfl) (hhi := by rw [q]; rfl) (Cs := fun h K => serves_lt l s _ hw w_HEARTBEAT (i1.toInt16.toInt32) (0 : Int32) (1 : Int32) h s.heap.size K.1 (F_oldestVersion_HEARTBEAT.keep K nin0) h1) (hc361 := h1)
      · by_cases h2 : (1 : Int32) < (i1.toInt16.toInt32)
        · exact law_gt l s _ hw i0 i1 (0 : Int32) (1 : Int32) w w_HEARTBEAT s.heap s.heap.size (Nat.le_refl _) (G := G) (Ek := E_HEARTBEAT) (hs := by rw [q]; decide) (hwk := by rw [q]; rfl) (hlo := by rw [q]; rfl) (hhi := by rw [q]; rfl) (Cs := fun h K => serves_gt l s _ hw w_HEARTBEAT (i1.toInt16.toInt32) (0 : Int32) (1 : Int32) h s.heap.size K.1 (F_oldestVersion_HEARTBEAT.keep K nin0) (F_latestVersion_HEARTBEAT.keep K nin0) h1 h2) (hc361 := h1) (hc371 := h2)
        · exact law_in l s _ hw i0 i1 (0 : Int32) (1 : Int32) w w_HEARTBEAT s.heap s.heap.size (Nat.le_refl _) (G := G) (Ek := E_HEARTBEAT) (hs := by rw [q]; decide) (hwk := by rw [q]; rfl) (hlo := by rw [q]; rfl) (hhi := by rw [q]; rfl) (Cs := fun h K => serves_in l s _ hw w_HEARTBEAT (i1.toInt16.toInt32) (0 : Int32) (1 : Int32) h s.heap.size K.1 (F_oldestVersion_HEARTBEAT.keep K nin0) (F_latestVersion_HEARTBEAT.keep K nin0) h1 h2) (hc361 := h1) (hc371 := h2)
    · by_cases h1 : (i1.toInt16.toInt32) < (0 : Int32)
      · exact law_lt l s _ hw i0 i1 (0 : Int32) (1 : Int32) w w_LEAVE_GROUP s.heap s.heap.size (Nat.le_refl _) (G := G) (Ek := E_LEAVE_GROUP) (hs := by rw [q]; decide) (hwk := by rw [q]; rfl) (hlo := by rw [q]; rfl) (hhi := by rw [q]; rfl) (Cs := fun h K => serves_lt l s _ hw w_LEAVE_GROUP (i1.toInt16.toInt32) (0 : Int32) (1 : Int32) h s.heap.size K.1 (F_oldestVersion_LEAVE_GROUP.keep K nin0) h1) (hc361 := h1)
      · by_cases h2 : (1 : Int32) < (i1.toInt16.toInt32)
        · exact law_gt l s _ hw i0 i1 (0 : Int32) (1 : Int32) w w_LEAVE_GROUP s.heap s.heap.size (Nat.le_refl _) (G := G) (Ek := E_LEAVE_GROUP) (hs := by rw [q]; decide) (hwk := by rw [q]; rfl) (hlo := by rw [q]; rfl) (hhi := by rw [q]; rfl) (Cs := fun h K => serves_gt l s _ hw w_LEAVE_GROUP (i1.toInt16.toInt32) (0 : Int32) (1 : Int32) h s.heap.size K.1 (F_oldestVersion_LEAVE_GROUP.keep K nin0) (F_latestVersion_LEAVE_GROUP.keep K nin0) h1 h2) (hc361 := h1) (hc371 := h2)
        · exact law_in l s _ hw i0 i1 (0 : Int32) (1 : Int32) w w_LEAVE_GROUP s.heap s.heap.size (Nat.le_refl _) (G := G) (Ek := E_LEAVE_GROUP) (hs := by rw [q]; decide) (hwk := by rw [q]; rfl) (hlo := by rw [q]; rfl) (hhi := by rw [q]; rfl) (Cs := fun h K => serves_in l s _ hw w_LEAVE_GROUP (i1.toInt16.toInt32) (0 : Int32) (1 : Int32) h s.heap.size K.1 (F_oldestVersion_LEAVE_GROUP.keep K nin0) (F_latestVersion_LEAVE_GROUP.keep K nin0) h1 h2) (hc361 := h1) (hc371 := h2)
    · by_cases h1 : (i1.toInt16.toInt32) < (0 : Int32)
      · exact law_lt l s _ hw i0 i1 (0 : Int32) (1 : Int32) w w_SYNC_GROUP s.heap s.heap.size (Nat.le_refl _) (G := G) (Ek := E_SYNC_GROUP) (hs := by rw [q]; decide) (hwk := by rw [q]; rfl) (hlo := by rw [q]; rfl) (hhi := by rw [q]; rfl) (Cs := fun h K => serves_lt l s _ hw w_SYNC_GROUP (i1.toInt16.toInt32) (0 : Int32) (1 : Int32) h s.heap.size K.1 (F_oldestVersion_SYNC_GROUP.keep K nin0) h1) (hc361 := h1)
      · by_cases h2 : (1 : Int32) < (i1.toInt16.toInt32)
        · exact law_gt l s _ hw i0 i1 (0 : Int32) (1 : Int32) w w_SYNC_GROUP s.heap s.heap.size (Nat.le_refl _) (G := G) (Ek := E_SYNC_GROUP) (hs := by rw [q]; decide) (hwk := by rw [q]; rfl) (hlo := by rw [q]; rfl) (hhi := by rw [q]; rfl) (Cs := fun h K => serves_gt l s _ hw w_SYNC_GROUP (i1.toInt16.toInt32) (0 : Int32) (1 : Int32) h s.heap.size K.1 (F_oldestVersion_SYNC_GROUP.keep K nin0) (F_latestVersion_SYNC_GROUP.keep K nin0) h1 h2) (hc361 := h1) (hc371 := h2)
        · exact law_in l s _ hw i0 i1 (0 : Int32) (1 : Int32) w w_SYNC_GROUP s.heap s.heap.size (Nat.le_refl _) (G := G) (Ek := E_SYNC_GROUP) (hs := by rw [q]; decide) (hwk := by rw [q]; rfl) (hlo := by rw [q]; rfl) (hhi := by rw [q]; rfl) (Cs := fun h K => serves_in l s _ hw w_SYNC_GROUP (i1.toInt16.toInt32) (0 : Int32) (1 : Int32) h s.heap.size K.1 (F_oldestVersion_SYNC_GROUP.keep K nin0) (F_latestVersion_SYNC_GROUP.keep K nin0) h1 h2) (hc361 := h1) (hc371 := h2)
    · by_cases h1 : (i1.toInt16.toInt32) < (0 : Int32)
      · exact law_lt l s _ hw i0 i1 (0 : Int32) (3 : Int32) w w_API_VERSIONS s.heap s.heap.size (Nat.le_refl _) (G := G) (Ek := E_API_VERSIONS) (hs := by rw [q]; decide) (hwk := by rw [q]; rfl) (hlo := by rw [q]; rfl) (hhi := by rw [q]; rfl) (Cs := fun h K => serves_lt l s _ hw w_API_VERSIONS (i1.toInt16.toInt32) (0 : Int32) (3 : Int32) h s.heap.size K.1 (F_oldestVersion_API_VERSIONS.keep K nin0) h1) (hc361 := h1)
      · by_cases h2 : (3 : Int32) < (i1.toInt16.toInt32)
        · exact law_gt l s _ hw i0 i1 (0 : Int32) (3 : Int32) w w_API_VERSIONS s.heap s.heap.size (Nat.le_refl _) (G := G) (Ek := E_API_VERSIONS) (hs := by rw [q]; decide) (hwk := by rw [q]; rfl) (hlo := by rw [q]; rfl) (hhi := by rw [q]; rfl) (Cs := fun h K => serves_gt l s _ hw w_API_VERSIONS (i1.toInt16.toInt32) (0 : Int32) (3 : Int32) h s.heap.size K.1 (F_oldestVersion_API_VERSIONS.keep K nin0) (F_latestVersion_API_VERSIONS.keep K nin0) h1 h2) (hc361 := h1) (hc371 := h2)
        · exact law_in l s _ hw i0 i1 (0 : Int32) (3 : Int32) w w_API_VERSIONS s.heap s.heap.size (Nat.le_refl _) (G := G) (Ek := E_API_VERSIONS) (hs := by rw [q]; decide) (hwk := by rw [q]; rfl) (hlo := by rw [q]; rfl) (hhi := by rw [q]; rfl) (Cs := fun h K => serves_in l s _ hw w_API_VERSIONS (i1.toInt16.toInt32) (0 : Int32) (3 : Int32) h s.heap.size K.1 (F_oldestVersion_API_VERSIONS.keep K nin0) (F_latestVersion_API_VERSIONS.keep K nin0) h1 h2) (hc361 := h1) (hc371 := h2)
    · by_cases h1 : (i1.toInt16.toInt32) < (0 : Int32)
      · exact law_lt l s _ hw i0 i1 (0 : Int32) (4 : Int32) w w_CREATE_TOPICS s.heap s.heap.size (Nat.le_refl _) (G := G) (Ek := E_CREATE_TOPICS) (hs := by rw [q]; decide) (hwk := by rw [q]; rfl) (hlo := by rw [q]; rfl) (hhi := by rw [q]; rfl) (Cs := fun h K => serves_lt l s _ hw w_CREATE_TOPICS (i1.toInt16.toInt32) (0 : Int32) (4 : Int32) h s.heap.size K.1 (F_oldestVersion_CREATE_TOPICS.keep K nin0) h1) (hc361 := h1)
      · by_cases h2 : (4 : Int32) < (i1.toInt16.toInt32)
        · exact law_gt l s _ hw i0 i1 (0 : Int32) (4 : Int32) w w_CREATE_TOPICS s.heap s.heap.size (Nat.le_refl _) (G := G) (Ek := E_CREATE_TOPICS) (hs := by rw [q]; decide) (hwk := by rw [q]; rfl) (hlo := by rw [q]; rfl) (hhi := by rw [q]; rfl) (Cs := fun h K => serves_gt l s _ hw w_CREATE_TOPICS (i1.toInt16.toInt32) (0 : Int32) (4 : Int32) h s.heap.size K.1 (F_oldestVersion_CREATE_TOPICS.keep K nin0) (F_latestVersion_CREATE_TOPICS.keep K nin0) h1 h2) (hc361 := h1) (hc371 := h2)
        · exact law_in l s _ hw i0 i1 (0 : Int32) (4 : Int32) w w_CREATE_TOPICS s.heap s.heap.size (Nat.le_refl _) (G := G) (Ek := E_CREATE_TOPICS) (hs := by rw [q]; decide) (hwk := by rw [q]; rfl) (hlo := by rw [q]; rfl) (hhi := by rw [q]; rfl) (Cs := fun h K => serves_in l s _ hw w_CREATE_TOPICS (i1.toInt16.toInt32) (0 : Int32) (4 : Int32) h s.heap.size K.1 (F_oldestVersion_CREATE_TOPICS.keep K nin0) (F_latestVersion_CREATE_TOPICS.keep K nin0) h1 h2) (hc361 := h1) (hc371 := h2)
    · by_cases h1 : (i1.toInt16.toInt32) < (0 : Int32)
      · exact law_lt l s _ hw i0 i1 (0 : Int32) (3 : Int32) w w_DELETE_TOPICS s.heap s.heap.size (Nat.le_refl _) (G := G) (Ek := E_DELETE_TOPICS) (hs := by rw [q]; decide) (hwk := by rw [q]; rfl) (hlo := by rw [q]; rfl) (hhi := by rw [q]; rfl) (Cs := fun h K => serves_lt l s _ hw w_DELETE_TOPICS (i1.toInt16.toInt32) (0 : Int32) (3 : Int32) h s.heap.size K.1 (F_oldestVersion_DELETE_TOPICS.keep K nin0) h1) (hc361 := h1)
      · by_cases h2 : (3 : Int32) < (i1.toInt16.toInt32)
        · exact law_gt l s _ hw i0 i1 (0 : Int32) (3 : Int32) w w_DELETE_TOPICS s.heap s.heap.size (Nat.le_refl _) (G := G) (Ek := E_DELETE_TOPICS) (hs := by rw [q]; decide) (hwk := by rw [q]; rfl) (hlo := by rw [q]; rfl) (hhi := by rw [q]; rfl) (Cs := fun h K => serves_gt l s _ hw w_DELETE_TOPICS (i1.toInt16.toInt32) (0 : Int32) (3 : Int32) h s.heap.size K.1 (F_oldestVersion_DELETE_TOPICS.keep K nin0) (F_latestVersion_DELETE_TOPICS.keep K nin0) h1 h2) (hc361 := h1) (hc371 := h2)
        · exact law_in l s _ hw i0 i1 (0 : Int32) (3 : Int32) w w_DELETE_TOPICS s.heap s.heap.size (Nat.le_refl _) (G := G) (Ek := E_DELETE_TOPICS) (hs := by rw [q]; decide) (hwk := by rw [q]; rfl) (hlo := by rw [q]; rfl) (hhi := by rw [q]; rfl) (Cs := fun h K => serves_in l s _ hw w_DELETE_TOPICS (i1.toInt16.toInt32) (0 : Int32) (3 : Int32) h s.heap.size K.1 (F_oldestVersion_DELETE_TOPICS.keep K nin0) (F_latestVersion_DELETE_TOPICS.keep K nin0) h1 h2) (hc361 := h1) (hc371 := h2)
    · by_cases h1 : (i1.toInt16.toInt32) < (0 : Int32)
      · exact law_lt l s _ hw i0 i1 (0 : Int32) (1 : Int32) w w_INIT_PRODUCER_ID s.heap s.heap.size (Nat.le_refl _) (G := G) (Ek := E_INIT_PRODUCER_ID) (hs := by rw [q]; decide) (hwk := by rw [q]; rfl) (hlo := by rw [q]; rfl) (hhi := by rw [q]; rfl) (Cs := fun h K => serves_lt l s _ hw w_INIT_PRODUCER_ID (i1.toInt16.toInt32) (0 : Int32) (1 : Int32) h s.heap.size K.1 (F_oldestVersion_INIT_PRODUCER_ID.keep K nin0) h1) (hc361 := h1)
      · by_cases h2 : (1 : Int32) < (i1.toInt16.toInt32)
        · exact law_gt l s _ hw i0 i1 (0 : Int32) (1 : Int32) w w_INIT_PRODUCER_ID s.heap s.heap.size (Nat.le_refl _) (G := G) (Ek := E_INIT_PRODUCER_ID) (hs := by rw [q]; decide) (hwk := by rw [q]; rfl) (hlo := by rw [q]; rfl) (hhi := by rw [q]; rfl) (Cs := fun h K => serves_gt l s _ hw w_INIT_PRODUCER_ID (i1.toInt16.toInt32) (0 : Int32) (1 : Int32) h s.heap.size K.1 (F_oldestVersion_INIT_PRODUCER_ID.keep K nin0) (F_latestVersion_INIT_PRODUCER_ID.keep K nin0) h1 h2) (hc361 := h1) (hc371 := h2)
        · exact law_in l s _ hw i0 i1 (0 : Int32) (1 : Int32) w w_INIT_PRODUCER_ID s.heap s.heap.size (Nat.le_refl _) (G := G) (Ek := E_INIT_PRODUCER_ID) (hs := by rw [q]; decide) (hwk := by rw [q]; rfl) (hlo := by rw [q]; rfl) (hhi := by rw [q]; rfl) (Cs := fun h K => serves_in l s _ hw w_INIT_PRODUCER_ID (i1.toInt16.toInt32) (0 : Int32) (1 : Int32) h s.heap.size K.1 (F_oldestVersion_INIT_PRODUCER_ID.keep K nin0) (F_latestVersion_INIT_PRODUCER_ID.keep K nin0) h1 h2) (hc361 := h1) (hc371 := h2)
    · by_cases h1 : (i1.toInt16.toInt32) < (0 : Int32)
      · exact law_lt l s _ hw i0 i1 (0 : Int32) (2 : Int32) w w_ADD_PARTITIONS_TO_TXN s.heap s.heap.size (Nat.le_refl _) (G := G) (Ek := E_ADD_PARTITIONS_TO_TXN) (hs := by rw [q]; decide) (hwk := by rw [q]; rfl) (hlo := by rw [q]; rfl) (hhi := by rw [q]; rfl) (Cs := fun h K => serves_lt l s _ hw w_ADD_PARTITIONS_TO_TXN (i1.toInt16.toInt32) (0 : Int32) (2 : Int32) h s.heap.size K.1 (F_oldestVersion_ADD_PARTITIONS_TO_TXN.keep K nin0) h1) (hc361 := h1)
      · by_cases h2 : (2 : Int32) < (i1.toInt16.toInt32)
        · exact law_gt l s _ hw i0 i1 (0 : Int32) (2 : Int32) w w_ADD_PARTITIONS_TO_TXN s.heap s.heap.size (Nat.le_refl _) (G := G) (Ek := E_ADD_PARTITIONS_TO_TXN) (hs := by rw [q]; decide) (hwk := by rw [q]; rfl) (hlo := by rw [q]; rfl) (hhi := by rw [q]; rfl) (Cs := fun h K => serves_gt l s _ hw w_ADD_PARTITIONS_TO_TXN (i1.toInt16.toInt32) (0 : Int32) (2 : Int32) h s.heap.size K.1 (F_oldestVersion_ADD_PARTITIONS_TO_TXN.keep K nin0) (F_latestVersion_ADD_PARTITIONS_TO_TXN.keep K nin0) h1 h2) (hc361 := h1) (hc371 := h2)
        · exact law_in l s _ hw i0 i1 (0 : Int32) (2 : Int32) w w_ADD_PARTITIONS_TO_TXN s.heap s.heap.size (Nat.le_refl _) (G := G) (Ek := E_ADD_PARTITIONS_TO_TXN) (hs := by rw [q]; decide) (hwk := by rw [q]; rfl) (hlo := by rw [q]; rfl) (hhi := by rw [q]; rfl) (Cs := fun h K => serves_in l s _ hw w_ADD_PARTITIONS_TO_TXN (i1.toInt16.toInt32) (0 : Int32) (2 : Int32) h s.heap.size K.1 (F_oldestVersion_ADD_PARTITIONS_TO_TXN.keep K nin0) (F_latestVersion_ADD_PARTITIONS_TO_TXN.keep K nin0) h1 h2) (hc361 := h1) (hc371 := h2)
    · by_cases h1 : (i1.toInt16.toInt32) < (0 : Int32)
      · exact law_lt l s _ hw i0 i1 (0 : Int32) (1 : Int32) w w_ADD_OFFSETS_TO_TXN s.heap s.heap.size (Nat.le_refl _) (G := G) (Ek := E_ADD_OFFSETS_TO_TXN) (hs := by rw [q]; decide) (hwk := by rw [q]; rfl) (hlo := by rw [q]; rfl) (hhi := by rw [q]; rfl) (Cs := fun h K => serves_lt l s _ hw w_ADD_OFFSETS_TO_TXN (i1.toInt16.toInt32) (0 : Int32) (1 : Int32) h s.heap.size K.1 (F_oldestVersion_ADD_OFFSETS_TO_TXN.keep K nin0) h1) (hc361 := h1)
      · by_cases h2 : (1 : Int32) < (i1.toInt16.toInt32)
        · exact law_gt l s _ hw i0 i1 (0 : Int32) (1 : Int32) w w_ADD_OFFSETS_TO_TXN s.heap s.heap.size (Nat.le_refl _) (G := G) (Ek := E_ADD_OFFSETS_TO_TXN) (hs := by rw [q]; decide) (hwk := by rw [q]; rfl) (hlo := by rw [q]; rfl) (hhi := by rw [q]; rfl) (Cs := fun h K => serves_gt l s _ hw w_ADD_OFFSETS_TO_TXN (i1.toInt16.toInt32) (0 : Int32) (1 : Int32) h s.heap.size K.1 (F_oldestVersion_ADD_OFFSETS_TO_TXN.keep K nin0) (F_latestVersion_ADD_OFFSETS_TO_TXN.keep K nin0) h1 h2) (hc361 := h1) (hc371 := h2)
        · exact law_in l s _ hw i0 i1 (0 : Int32) (1 : Int32) w w_ADD_OFFSETS_TO_TXN s.heap s.heap.size (Nat.le_refl _) (G := G) (Ek := E_ADD_OFFSETS_TO_TXN) (hs := by rw [q]; decide) (hwk := by rw [q]; rfl) (hlo := by rw [q]; rfl) (hhi := by rw [q]; rfl) (Cs := fun h K => serves_in l s _ hw w_ADD_OFFSETS_TO_TXN (i1.toInt16.toInt32) (0 : Int32) (1 : Int32) h s.heap.size K.1 (F_oldestVersion_ADD_OFFSETS_TO_TXN.keep K nin0) (F_latestVersion_ADD_OFFSETS_TO_TXN.keep K nin0) h1 h2) (hc361 := h1) (hc371 := h2)
    · by_cases h1 : (i1.toInt16.toInt32) < (0 : Int32)
      · exact law_lt l s _ hw i0 i1 (0 : Int32) (2 : Int32) w w_END_TXN s.heap s.heap.size (Nat.le_refl _) (G := G) (Ek := E_END_TXN) (hs := by rw [q]; decide) (hwk := by rw [q]; rfl) (hlo := by rw [q]; rfl) (hhi := by rw [q]; rfl) (Cs := fun h K => serves_lt l s _ hw w_END_TXN (i1.toInt16.toInt32) (0 : Int32) (2 : Int32) h s.heap.size K.1 (F_oldestVersion_END_TXN.keep K nin0) h1) (hc361 := h1)
      · by_cases h2 : (2 : Int32) < (i1.toInt16.toInt32)
        · exact law_gt l s _ hw i0 i1 (0 : Int32) (2 : Int32) w w_END_TXN s.heap s.heap.size (Nat.le_refl _) (G := G) (Ek := E_END_TXN) (hs := by rw [q]; decide) (hwk := by rw [q]; rfl) (hlo := by rw [q]; rfl) (hhi := by rw [q]; rfl) (Cs := fun h K => serves_gt l s _ hw w_END_TXN (i1.toInt16.toInt32) (0 : Int32) (2 : Int32) h s.heap.size K.1 (F_oldestVersion_END_TXN.keep K nin0) (F_latestVersion_END_TXN.keep K nin0) h1 h2) (hc361 := h1) (hc371 := h2)
        · exact law_in l s _ hw i0 i1 (0 : Int32) (2 : Int32) w w_END_TXN s.heap s.heap.size (Nat.le_refl _) (G := G) (Ek := E_END_TXN) (hs := by rw [q]; decide) (hwk := by rw [q]; rfl) (hlo := by rw [q]; rfl) (hhi := by rw [q]; rfl) (Cs := fun h K => serves_in l s _ hw w_END_TXN (i1.toInt16.toInt32) (0 : Int32) (2 : Int32) h s.heap.size K.1 (F_oldestVersion_END_TXN.keep K nin0) (F_latestVersion_END_TXN.keep K nin0) h1 h2) (hc361 := h1) (hc371 := h2)
    · by_cases h1 : (i1.toInt16.toInt32) < (0 : Int32)
      · exact law_lt l s _ hw i0 i1 (0 : Int32) (3 : Int32) w w_TXN_OFFSET_COMMIT s.heap s.heap.size (Nat.le_refl _) (G := G) (Ek := E_TXN_OFFSET_COMMIT) (hs := by rw [q]; decide) (hwk := by rw [q]; rfl) (hlo := by rw [q]; rfl) (hhi := by rw [q]; rfl) (Cs := fun h K => serves_lt l s _ hw w_TXN_OFFSET_COMMIT (i1.toInt16.toInt32) (0 : Int32) (3 : Int32) h s.heap.size K.1 (F_oldestVersion_TXN_OFFSET_COMMIT.keep K nin0) h1) (hc361 := h1)
      · by_cases h2 : (3 : Int32) < (i1.toInt16.toInt32)
        · exact law_gt l s _ hw i0 i1 (0 : Int32) (3 : Int32) w w_TXN_OFFSET_COMMIT s.heap s.heap.size (Nat.le_refl _) (G := G) (Ek := E_TXN_OFFSET_COMMIT) (hs := by rw [q]; decide) (hwk := by rw [q]; rfl) (hlo := by rw [q]; rfl) (hhi := by rw [q]; rfl) (Cs := fun h K => serves_gt l s _ hw w_TXN_OFFSET_COMMIT (i1.toInt16.toInt32) (0 : Int32) (3 : Int32) h s.heap.size K.1 (F_oldestVersion_TXN_OFFSET_COMMIT.keep K nin0) (F_latestVersion_TXN_OFFSET_COMMIT.keep K nin0) h1 h2) (hc361 := h1) (hc371 := h2)
        · exact law_in l s _ hw i0 i1 (0 : Int32) (3 : Int32) w w_TXN_OFFSET_COMMIT s.heap s.heap.size (Nat.le_refl _) (G := G) (Ek := E_TXN_OFFSET_COMMIT) (hs := by rw [q]; decide) (hwk := by rw [q]; rfl) (hlo := by rw [q]; rfl) (hhi := by rw [q]; rfl) (Cs := fun h K => serves_in l s _ hw w_TXN_OFFSET_COMMIT (i1.toInt16.toInt32) (0 : Int32) (3 : Int32) h s.heap.size K.1 (F_oldestVersion_TXN_OFFSET_COMMIT.keep K nin0) (F_latestVersion_TXN_OFFSET_COMMIT.keep K nin0) h1 h2) (hc361 := h1) (hc371 := h2)
    · by_cases h1 : (i1.toInt16.toInt32) < (0 : Int32)
      · exact law_lt l s _ hw i0 i1 (0 : Int32) (2 : Int32) w w_DESCRIBE_CONFIGS s.heap s.heap.size (Nat.le_refl _) (G := G) (Ek := E_DESCRIBE_CONFIGS) (hs := by rw [q]; decide) (hwk := by rw [q]; rfl) (hlo := by rw [q]; rfl) (hhi := by rw [q]; rfl) (Cs := fun h K => serves_lt l s _ hw w_DESCRIBE_CONFIGS (i1.toInt16.toInt32) (0 : Int32) (2 : Int32) h s.heap.size K.1 (F_oldestVersion_DESCRIBE_CONFIGS.keep K nin0) h1) (hc361 := h1)
      · by_cases h2 : (2 : Int32) < (i1.toInt16.toInt32)
        · exact law_gt l s _ hw i0 i1 (0 : Int32) (2 : Int32) w w_DESCRIBE_CONFIGS s.heap s.heap.size (Nat.le_refl _) (G := G) (Ek := E_DESCRIBE_CONFIGS) (hs := by rw [q]; decide) (hwk := by rw [q]; rfl) (hlo := by rw [q]; rfl) (hhi := by rw [q]; rfl) (Cs := fun h K => serves_gt l s _ hw w_DESCRIBE_CONFIGS (i1.toInt16.toInt32) (0 : Int32) (2 : Int32) h s.heap.size K.1 (F_oldestVersion_DESCRIBE_CONFIGS.keep K nin0) (F_latestVersion_DESCRIBE_CONFIGS.keep K nin0) h1 h2) (hc361 := h1) (hc371 := h2)
        · exact law_in l s _ hw i0 i1 (0 : Int32) (2 : Int32) w w_DESCRIBE_CONFIGS s.heap s.heap.size (Nat.le_refl _) (G := G) (Ek := E_DESCRIBE_CONFIGS) (hs := by rw [q]; decide) (hwk := by rw [q]; rfl) (hlo := by rw [q]; rfl) (hhi := by rw [q]; rfl) (Cs := fun h K => serves_in l s _ hw w_DESCRIBE_CONFIGS (i1.toInt16.toInt32) (0 : Int32) (2 : Int32) h s.heap.size K.1 (F_oldestVersion_DESCRIBE_CONFIGS.keep K nin0) (F_latestVersion_DESCRIBE_CONFIGS.keep K nin0) h1 h2) (hc361 := h1) (hc371 := h2)
  obtain ⟨n, o, h1, h2, h3, _, L, rfl, ⟨rfl, N⟩, hq⟩ := C0 tables_1 p e ha hc hk s m _ below hf ((Spec.applies_iff_loose hf).mp happ).1 ⟨rfl, State.Warmed39.refl s, rfl⟩ trivial
  refine ⟨n, _, h1, h2, h3, hpost _ _ _ _ _ _ ⟨Cond.after_iff.mpr rfl, Cond.after_iff.mpr (eq_i res_at (Term.int_eval (1)) rfl), trivial⟩ ⟨hq.1, hq.2.1, (hq.2.2.sift fun y hy => Or.inr (N y hy)).mono (by decide) (by decide)⟩⟩
theorem main_1_1 : Claimed_1_1 := comes_1 fun _ _ _ _ _ _ h hF => ⟨h.1, hF⟩
theorem main_1_2 : Claimed_1_2 := comes_1 fun _ _ _ _ _ _ h hF => ⟨h.2.1, hF⟩
end Jvm.Pilot.@@N@@
namespace Jvm.Pilot.@@N@@
open Jvm Jvm.ClassFile Sem Op Lib Jvm.Free Jvm.Stand Jvm.Pilot.@@N@@.Jvm.D
/-! MADE BY PROGRAM (witnessworld.py) out of the Statement's table words and the real class files: 13 classes; the members and pool entries that the words name. The judged class is class 1, her method 1. -/
namespace start1
open Jvm.ClassFile
def u (s : String) : CpInfo := .utf8 (stringToUtf16 s)
/-- a pool by its gaps: so many unusable entries, then the entry; so many at the end -/
def gap : Nat → List CpInfo → List CpInfo
  | 0, r => r
  | n + 1, r => .unusable :: gap n r
def poolList (es : List (Nat × CpInfo)) (last : Nat) : List CpInfo := es.foldr (fun e r => gap e.1 (e.2 :: r)) (gap last [])
def pool (es : List (Nat × CpInfo)) (last : Nat) : Array CpInfo := ⟨poolList es last⟩
def fileOf (pool : Array CpInfo) (this : Nat) (attrs : Array Attribute := #[]) (ms : Array MethodInfo := #[]) (fl : Nat := 33) (sup : Nat := 0) (ifs : Array Nat := #[]) (fds : Array FieldInfo := #[]) : ClassFile where
  minorVersion := 0
  majorVersion := 65
  constantPool := pool
  accessFlags := fl
  thisClass := this
  superClass := sup
  interfaces := ifs
  fields := fds
  methods := ms
  attributes := attrs
def plain (name : String) (sup : Option ClassId) : Class where
  name := name
  kind := .ordinary
  loader := none
  accessFlags := 33
  super := sup
  interfaces := #[]
  cf := none
  fields := #[]
  methods := #[]
  instanceTypes := #[]
  staticTypes := #[]
  resolved := #[]
  callSites := []
  init := .initialized
  statics := none
  mirror := none

def pool0 : Array CpInfo := pool [(5, u "<init>"), (0, u "()V"), (1, .class_ 10), (1, u "java/lang/Object")] 113

def k0m0 : Method := { name := "<init>", desc := "()V", sig := { parameters := [], returnType := none }, accessFlags := 1, code := none }
/-- java/lang/Object -/
def k0 : Class := { plain "java/lang/Object" none with
  accessFlags := 33
  interfaces := #[]
  cf := some (fileOf pool0 8 #[] #[{ accessFlags := 1, nameIndex := 5, descriptorIndex := 6, attributes := #[] }] 33 0 #[] #[])
  fields := #[]
  methods := #[k0m0]
  instanceTypes := #[]
  staticTypes := #[]
  resolved := Array.replicate 124 none
  statics := none }

def pool1 : Array CpInfo := pool [(2, .class_ 4), (1, u "java/lang/Object"), (0, u "<init>"), (0, u "()V"), (0, .class_ 8), (0, u "com/example/onceward/onceward/protocol/ApiKey"), (0, .fieldref 7 10), (0, .nameAndType 11 12), (0, u "PRODUCE"), (0, u "Lcom/example/onceward/onceward/protocol/ApiKey;"), (0, .fieldref 7 14), (0, .nameAndType 15 12), (0, u "FETCH"), (0, .fieldref 7 17), (0, .nameAndType 18 12), (0, u "LIST_OFFSETS"), (0, .fieldref 7 20), (0, .nameAndType 21 12), (0, u "METADATA"), (0, .fieldref 7 23), (0, .nameAndType 24 12), (0, u "OFFSET_COMMIT"), (0, .fieldref 7 26), (0, .nameAndType 27 12), (0, u "OFFSET_FETCH"), (0, .fieldref 7 29), (0, .nameAndType 30 12), (0, u "FIND_COORDINATOR"), (0, .fieldref 7 32), (0, .nameAndType 33 12), (0, u "JOIN_GROUP"), (0, .fieldref 7 35), (0, .nameAndType 36 12), (0, u "HEARTBEAT"), (0, .fieldref 7 38), (0, .nameAndType 39 12), (0, u "LEAVE_GROUP"), (0, .fieldref 7 41), (0, .nameAndType 42 12), (0, u "SYNC_GROUP"), (0, .fieldref 7 44), (0, .nameAndType 45 12), (0, u "API_VERSIONS"), (0, .fieldref 7 47), (0, .nameAndType 48 12), (0, u "CREATE_TOPICS"), (0, .fieldref 7 50), (0, .nameAndType 51 12), (0, u "DELETE_TOPICS"), (0, .fieldref 7 53), (0, .nameAndType 54 12), (0, u "INIT_PRODUCER_ID"), (0, .fieldref 7 56), (0, .nameAndType 57 12), (0, u "ADD_PARTITIONS_TO_TXN"), (0, .fieldref 7 59), (0, .nameAndType 60 12), (0, u "ADD_OFFSETS_TO_TXN"), (0, .fieldref 7 62), (0, .nameAndType 63 12), (0, u "END_TXN"), (0, .fieldref 7 65), (0, .nameAndType 66 12), (0, u "TXN_OFFSET_COMMIT"), (0, .fieldref 7 68), (0, .nameAndType 69 12), (0, u "DESCRIBE_CONFIGS"), (0, .integer 2147483647), (0, .methodref 7 72), (0, .nameAndType 73 74), (0, u "serves"), (0, u "(S)Z"), (0, .class_ 76), (0, u "com/example/onceward/onceward/protocol/ApiKeyServesPinLaw"), (2, u "law"), (0, u "(II)Z")] 7

def k1m0 : Method := { name := "<init>", desc := "()V", sig := { parameters := [], returnType := none }, accessFlags := 1, code := none }
def k1c1 : Code := { maxStack := 4, maxLocals := 8, code := code, exceptionTable := #[], attributes := #[] }
def k1m1 : Method := { name := "law", desc := "(II)Z", sig := { parameters := [.int, .int], returnType := some .boolean }, accessFlags := 9, code := some k1c1 }
/-- com/example/onceward/onceward/protocol/ApiKeyServesPinLaw -/
def k1 : Class := { plain "com/example/onceward/onceward/protocol/ApiKeyServesPinLaw" (some 0) with
  accessFlags := 49
  interfaces := #[]
  cf := some (fileOf pool1 75 #[] #[{ accessFlags := 1, nameIndex := 5, descriptorIndex := 6, attributes := #[] }, { accessFlags := 9, nameIndex := 79, descriptorIndex := 80, attributes := #[] }] 49 2 #[] #[])
  fields := #[]
  methods := #[k1m0, k1m1]
  instanceTypes := #[]
  staticTypes := #[]
  resolved := Array.replicate 88 none
  statics := none }

def pool2 : Array CpInfo := pool [(1, .class_ 2), (0, u "java/lang/constant/Constable"), (0, .class_ 4), (0, u "java/lang/Object")] 6

/-- java/lang/constant/Constable -/
def k2 : Class := { plain "java/lang/constant/Constable" (some 0) with
  accessFlags := 1537
  interfaces := #[]
  cf := some (fileOf pool2 1 #[] #[] 1537 3 #[] #[])
  fields := #[]
  methods := #[]
  instanceTypes := #[]
  staticTypes := #[]
  resolved := Array.replicate 11 none
  statics := none }

def pool3 : Array CpInfo := pool [(1, .class_ 2), (0, u "java/lang/Comparable"), (0, .class_ 4), (0, u "java/lang/Object")] 7

/-- java/lang/Comparable -/
def k3 : Class := { plain "java/lang/Comparable" (some 0) with
  accessFlags := 1537
  interfaces := #[]
  cf := some (fileOf pool3 1 #[] #[] 1537 3 #[] #[])
  fields := #[]
  methods := #[]
  instanceTypes := #[]
  staticTypes := #[]
  resolved := Array.replicate 12 none
  statics := none }

def pool4 : Array CpInfo := pool [(1, .class_ 2), (0, u "java/io/Serializable"), (0, .class_ 4), (0, u "java/lang/Object")] 2

/-- java/io/Serializable -/
def k4 : Class := { plain "java/io/Serializable" (some 0) with
  accessFlags := 1537
  interfaces := #[]
  cf := some (fileOf pool4 1 #[] #[] 1537 3 #[] #[])
  fields := #[]
  methods := #[]
  instanceTypes := #[]
  staticTypes := #[]
  resolved := Array.replicate 7 none
  statics := none }

def pool5 : Array CpInfo := pool [(2, .class_ 4), (1, u "java/lang/Enum"), (0, u "name"), (0, u "Ljava/lang/String;"), (2, u "ordinal"), (0, u "I"), (1, .class_ 14), (1, u "java/lang/Object"), (4, u "hash"), (86, .class_ 108), (1, u "java/lang/Enum$EnumDesc"), (2, .class_ 112), (0, u "java/lang/constant/Constable"), (0, .class_ 114), (0, u "java/lang/Comparable"), (0, .class_ 116), (0, u "java/io/Serializable")] 87

/-- java/lang/Enum -/
def k5 : Class := { plain "java/lang/Enum" (some 0) with
  accessFlags := 1057
  interfaces := #[2, 3, 4]
  cf := some (fileOf pool5 2 #[.nestMembers #[106]] #[] 1057 12 #[111, 113, 115] #[{ accessFlags := 18, nameIndex := 5, descriptorIndex := 6, attributes := #[] }, { accessFlags := 18, nameIndex := 9, descriptorIndex := 10, attributes := #[] }, { accessFlags := 2, nameIndex := 19, descriptorIndex := 10, attributes := #[] }])
  fields := #[{ name := "name", type := (.object "java/lang/String"), accessFlags := 18, slot := 0, constantValue := 0 }, { name := "ordinal", type := .int, accessFlags := 18, slot := 1, constantValue := 0 }, { name := "hash", type := .int, accessFlags := 2, slot := 2, constantValue := 0 }]
  methods := #[]
  instanceTypes := #[(.object "java/lang/String"), .int, .int]
  staticTypes := #[]
  resolved := Array.replicate 204 none
  statics := none }

def pool6 : Array CpInfo := pool [(1, .class_ 2), (0, u "com/example/onceward/onceward/protocol/ApiKey"), (2, u "PRODUCE"), (0, u "Lcom/example/onceward/onceward/protocol/ApiKey;"), (2, u "FETCH"), (2, u "LIST_OFFSETS"), (2, u "METADATA"), (2, u "OFFSET_COMMIT"), (2, u "OFFSET_FETCH"), (2, u "FIND_COORDINATOR"), (2, u "JOIN_GROUP"), (2, u "HEARTBEAT"), (2, u "LEAVE_GROUP"), (2, u "SYNC_GROUP"), (2, u "API_VERSIONS"), (2, u "CREATE_TOPICS"), (2, u "DELETE_TOPICS"), (2, u "INIT_PRODUCER_ID"), (2, u "ADD_PARTITIONS_TO_TXN"), (2, u "ADD_OFFSETS_TO_TXN"), (2, u "END_TXN"), (2, u "TXN_OFFSET_COMMIT"), (2, u "DESCRIBE_CONFIGS"), (2, u "$VALUES"), (0, u "[Lcom/example/onceward/onceward/protocol/ApiKey;"), (6, .class_ 76), (1, u "java/lang/Enum"), (8, u "id"), (0, u "S"), (0, .fieldref 1 88), (0, .nameAndType 89 86), (0, u "oldestVersion"), (0, .fieldref 1 91), (0, .nameAndType 92 86), (0, u "latestVersion"), (2, u "firstFlexibleVersion"), (7, u "(S)Z"), (36, u "serves")] 6

def k6c0 : Code := { maxStack := 2, maxLocals := 2, code := prog_80_method_8_code, exceptionTable := #[], attributes := #[] }
def k6m0 : Method := { name := "serves", desc := "(S)Z", sig := { parameters := [.short], returnType := some .boolean }, accessFlags := 1, code := some k6c0 }
/-- com/example/onceward/onceward/protocol/ApiKey -/
def k6 : Class := { plain "com/example/onceward/onceward/protocol/ApiKey" (some 5) with
  accessFlags := 16433
  interfaces := #[]
  cf := some (fileOf pool6 1 #[] #[{ accessFlags := 1, nameIndex := 140, descriptorIndex := 103, attributes := #[] }] 16433 74 #[] #[{ accessFlags := 16409, nameIndex := 5, descriptorIndex := 6, attributes := #[] }, { accessFlags := 16409, nameIndex := 9, descriptorIndex := 6, attributes := #[] }, { accessFlags := 16409, nameIndex := 12, descriptorIndex := 6, attributes := #[] }, { accessFlags := 16409, nameIndex := 15, descriptorIndex := 6, attributes := #[] }, { accessFlags := 16409, nameIndex := 18, descriptorIndex := 6, attributes := #[] }, { accessFlags := 16409, nameIndex := 21, descriptorIndex := 6, attributes := #[] }, { accessFlags := 16409, nameIndex := 24, descriptorIndex := 6, attributes := #[] }, { accessFlags := 16409, nameIndex := 27, descriptorIndex := 6, attributes := #[] }, { accessFlags := 16409, nameIndex := 30, descriptorIndex := 6, attributes := #[] }, { accessFlags := 16409, nameIndex := 33, descriptorIndex := 6, attributes := #[] }, { accessFlags := 16409, nameIndex := 36, descriptorIndex := 6, attributes := #[] }, { accessFlags := 16409, nameIndex := 39, descriptorIndex := 6, attributes := #[] }, { accessFlags := 16409, nameIndex := 42, descriptorIndex := 6, attributes := #[] }, { accessFlags := 16409, nameIndex := 45, descriptorIndex := 6, attributes := #[] }, { accessFlags := 16409, nameIndex := 48, descriptorIndex := 6, attributes := #[] }, { accessFlags := 16409, nameIndex := 51, descriptorIndex := 6, attributes := #[] }, { accessFlags := 16409, nameIndex := 54, descriptorIndex := 6, attributes := #[] }, { accessFlags := 16409, nameIndex := 57, descriptorIndex := 6, attributes := #[] }, { accessFlags := 16409, nameIndex := 60, descriptorIndex := 6, attributes := #[] }, { accessFlags := 16409, nameIndex := 63, descriptorIndex := 6, attributes := #[] }, { accessFlags := 18, nameIndex := 85, descriptorIndex := 86, attributes := #[] }, { accessFlags := 18, nameIndex := 89, descriptorIndex := 86, attributes := #[] }, { accessFlags := 18, nameIndex := 92, descriptorIndex := 86, attributes := #[] }, { accessFlags := 18, nameIndex := 95, descriptorIndex := 86, attributes := #[] }, { accessFlags := 4122, nameIndex := 66, descriptorIndex := 67, attributes := #[] }])
  fields := #[{ name := "PRODUCE", type := (.object "com/example/onceward/onceward/protocol/ApiKey"), accessFlags := 16409, slot := 0, constantValue := 0 }, { name := "FETCH", type := (.object "com/example/onceward/onceward/protocol/ApiKey"), accessFlags := 16409, slot := 1, constantValue := 0 }, { name := "LIST_OFFSETS", type := (.object "com/example/onceward/onceward/protocol/ApiKey"), accessFlags := 16409, slot := 2, constantValue := 0 }, { name := "METADATA", type := (.object "com/example/onceward/onceward/protocol/ApiKey"), accessFlags := 16409, slot := 3, constantValue := 0 }, { name := "OFFSET_COMMIT", type := (.object "com/example/onceward/onceward/protocol/ApiKey"), accessFlags := 16409, slot := 4, constantValue := 0 }, { name := "OFFSET_FETCH", type := (.object "com/example/onceward/onceward/protocol/ApiKey"), accessFlags := 16409, slot := 5, constantValue := 0 }, { name := "FIND_COORDINATOR", type := (.object "com/example/onceward/onceward/protocol/ApiKey"), accessFlags := 16409, slot := 6, constantValue := 0 }, { name := "JOIN_GROUP", type := (.object "com/example/onceward/onceward/protocol/ApiKey"), accessFlags := 16409, slot := 7, constantValue := 0 }, { name := "HEARTBEAT", type := (.object "com/example/onceward/onceward/protocol/ApiKey"), accessFlags := 16409, slot := 8, constantValue := 0 }, { name := "LEAVE_GROUP", type := (.object "com/example/onceward/onceward/protocol/ApiKey"), accessFlags := 16409, slot := 9, constantValue := 0 }, { name := "SYNC_GROUP", type := (.object "com/example/onceward/onceward/protocol/ApiKey"), accessFlags := 16409, slot := 10, constantValue := 0 }, { name := "API_VERSIONS", type := (.object "com/example/onceward/onceward/protocol/ApiKey"), accessFlags := 16409, slot := 11, constantValue := 0 }, { name := "CREATE_TOPICS", type := (.object "com/example/onceward/onceward/protocol/ApiKey"), accessFlags := 16409, slot := 12, constantValue := 0 }, { name := "DELETE_TOPICS", type := (.object "com/example/onceward/onceward/protocol/ApiKey"), accessFlags := 16409, slot := 13, constantValue := 0 }, { name := "INIT_PRODUCER_ID", type := (.object "com/example/onceward/onceward/protocol/ApiKey"), accessFlags := 16409, slot := 14, constantValue := 0 }, { name := "ADD_PARTITIONS_TO_TXN", type := (.object "com/example/onceward/onceward/protocol/ApiKey"), accessFlags := 16409, slot := 15, constantValue := 0 }, { name := "ADD_OFFSETS_TO_TXN", type := (.object "com/example/onceward/onceward/protocol/ApiKey"), accessFlags := 16409, slot := 16, constantValue := 0 }, { name := "END_TXN", type := (.object "com/example/onceward/onceward/protocol/ApiKey"), accessFlags := 16409, slot := 17, constantValue := 0 }, { name := "TXN_OFFSET_COMMIT", type := (.object "com/example/onceward/onceward/protocol/ApiKey"), accessFlags := 16409, slot := 18, constantValue := 0 }, { name := "DESCRIBE_CONFIGS", type := (.object "com/example/onceward/onceward/protocol/ApiKey"), accessFlags := 16409, slot := 19, constantValue := 0 }, { name := "id", type := .short, accessFlags := 18, slot := 3, constantValue := 0 }, { name := "oldestVersion", type := .short, accessFlags := 18, slot := 4, constantValue := 0 }, { name := "latestVersion", type := .short, accessFlags := 18, slot := 5, constantValue := 0 }, { name := "firstFlexibleVersion", type := .short, accessFlags := 18, slot := 6, constantValue := 0 }, { name := "$VALUES", type := (.array (.object "com/example/onceward/onceward/protocol/ApiKey")), accessFlags := 4122, slot := 20, constantValue := 0 }]
  methods := #[k6m0]
  instanceTypes := #[(.object "java/lang/String"), .int, .int, .short, .short, .short, .short]
  staticTypes := #[(.object "com/example/onceward/onceward/protocol/ApiKey"), (.object "com/example/onceward/onceward/protocol/ApiKey"), (.object "com/example/onceward/onceward/protocol/ApiKey"), (.object "com/example/onceward/onceward/protocol/ApiKey"), (.object "com/example/onceward/onceward/protocol/ApiKey"), (.object "com/example/onceward/onceward/protocol/ApiKey"), (.object "com/example/onceward/onceward/protocol/ApiKey"), (.object "com/example/onceward/onceward/protocol/ApiKey"), (.object "com/example/onceward/onceward/protocol/ApiKey"), (.object "com/example/onceward/onceward/protocol/ApiKey"), (.object "com/example/onceward/onceward/protocol/ApiKey"), (.object "com/example/onceward/onceward/protocol/ApiKey"), (.object "com/example/onceward/onceward/protocol/ApiKey"), (.object "com/example/onceward/onceward/protocol/ApiKey"), (.object "com/example/onceward/onceward/protocol/ApiKey"), (.object "com/example/onceward/onceward/protocol/ApiKey"), (.object "com/example/onceward/onceward/protocol/ApiKey"), (.object "com/example/onceward/onceward/protocol/ApiKey"), (.object "com/example/onceward/onceward/protocol/ApiKey"), (.object "com/example/onceward/onceward/protocol/ApiKey"), (.array (.object "com/example/onceward/onceward/protocol/ApiKey"))]
  resolved := Array.replicate 147 none
  statics := some 0 }

def pool7 : Array CpInfo := pool [(1, u "java/lang/Cloneable"), (0, .class_ 1), (0, u "java/lang/Object"), (0, .class_ 3)] 3

/-- java/lang/Cloneable -/
def k7 : Class := { plain "java/lang/Cloneable" (some 0) with
  accessFlags := 1537
  interfaces := #[]
  cf := some (fileOf pool7 2 #[] #[] 1537 4 #[] #[])
  fields := #[]
  methods := #[]
  instanceTypes := #[]
  staticTypes := #[]
  resolved := Array.replicate 8 none
  statics := none }

/-- the primitive byte -/
def k8 : Class := { plain "byte" none with kind := .primitive 'B', accessFlags := 0x411 }
/-- [B -/
def k9 : Class := { plain "[B" (some 0) with kind := .array 8 .byte, interfaces := #[7, 4], accessFlags := 1041 }

/-- the primitive int -/
def k10 : Class := { plain "int" none with kind := .primitive 'I', accessFlags := 0x411 }
/-- [I -/
def k11 : Class := { plain "[I" (some 0) with kind := .array 10 .int, interfaces := #[7, 4], accessFlags := 1041 }

/-- [Lcom/example/onceward/onceward/protocol/ApiKey; -/
def k12 : Class := { plain "[Lcom/example/onceward/onceward/protocol/ApiKey;" (some 0) with kind := .array 6 (.object "com/example/onceward/onceward/protocol/ApiKey"), interfaces := #[7, 4], accessFlags := 1041 }

def heap : Heap := #[{ cls := 6, slots := #[.ref 1, .ref 2, .ref 3, .ref 4, .ref 5, .ref 6, .ref 7, .ref 8, .ref 9, .ref 10, .ref 11, .ref 12, .ref 13, .ref 14, .ref 15, .ref 16, .ref 17, .ref 18, .ref 19, .ref 20, .null], vm := .statics 6 },
  { cls := 6, slots := #[.null, .int 0, .int 0, .int 0, .int 3, .int 7, .int 0], vm := .none },
  { cls := 6, slots := #[.null, .int 1, .int 0, .int 0, .int 4, .int 11, .int 0], vm := .none },
  { cls := 6, slots := #[.null, .int 2, .int 0, .int 0, .int 1, .int 5, .int 0], vm := .none },
  { cls := 6, slots := #[.null, .int 3, .int 0, .int 0, .int 0, .int 5, .int 0], vm := .none },
  { cls := 6, slots := #[.null, .int 4, .int 0, .int 0, .int 1, .int 3, .int 0], vm := .none },
  { cls := 6, slots := #[.null, .int 5, .int 0, .int 0, .int 1, .int 7, .int 0], vm := .none },
  { cls := 6, slots := #[.null, .int 6, .int 0, .int 0, .int 0, .int 2, .int 0], vm := .none },
  { cls := 6, slots := #[.null, .int 7, .int 0, .int 0, .int 0, .int 2, .int 0], vm := .none },
  { cls := 6, slots := #[.null, .int 8, .int 0, .int 0, .int 0, .int 1, .int 0], vm := .none },
  { cls := 6, slots := #[.null, .int 9, .int 0, .int 0, .int 0, .int 1, .int 0], vm := .none },
  { cls := 6, slots := #[.null, .int 10, .int 0, .int 0, .int 0, .int 1, .int 0], vm := .none },
  { cls := 6, slots := #[.null, .int 11, .int 0, .int 0, .int 0, .int 3, .int 0], vm := .none },
  { cls := 6, slots := #[.null, .int 12, .int 0, .int 0, .int 0, .int 4, .int 0], vm := .none },
  { cls := 6, slots := #[.null, .int 13, .int 0, .int 0, .int 0, .int 3, .int 0], vm := .none },
  { cls := 6, slots := #[.null, .int 14, .int 0, .int 0, .int 0, .int 1, .int 0], vm := .none },
  { cls := 6, slots := #[.null, .int 15, .int 0, .int 0, .int 0, .int 2, .int 0], vm := .none },
  { cls := 6, slots := #[.null, .int 16, .int 0, .int 0, .int 0, .int 1, .int 0], vm := .none },
  { cls := 6, slots := #[.null, .int 17, .int 0, .int 0, .int 0, .int 2, .int 0], vm := .none },
  { cls := 6, slots := #[.null, .int 18, .int 0, .int 0, .int 0, .int 3, .int 0], vm := .none },
  { cls := 6, slots := #[.null, .int 19, .int 0, .int 0, .int 0, .int 2, .int 0], vm := .none }]
def classes : Array Class := #[k0, k1, k2, k3, k4, k5, k6, k7, k8, k9, k10, k11, k12]
def interned : List (Array UInt16 × Addr) := []
def slotsUsed : Nat := 161
def theMethod : MethodId := ⟨1, 1⟩
def args0 : Array Value := #[.int 3, .int 2]
def aboutOver (below : List Frame) : State where
  vm := { classes := classes, interned := interned.toArray }
  heap := heap
  slotsUsed := slotsUsed
  threads := #[{ frames := .invoking theMethod args0 :: below }]
def below0 : List Frame := [.native { method := ⟨0, 0⟩, args := #[] }]
def about1 : State := aboutOver below0
def p0 : Program := .bare "" "" ""
def e0 : Env := launch0.env 0 0 0
theorem w_frames : about1.frames = Frame.invoking theMethod args0 :: below0 := rfl
set_option maxRecDepth 65536 in
theorem w_args : argsFit about1.vm theMethod args0 = true := by decide +kernel
set_option maxRecDepth 65536 in
theorem w_heap : heapFits about1 = true := by decide +kernel
set_option maxRecDepth 65536 in
theorem w_runnable : about1.curStatus? = some .runnable := by decide +kernel
set_option maxRecDepth 65536 in
theorem w_alone : about1.alone = true := by decide +kernel
set_option maxRecDepth 65536 in
theorem w_named : about1.methodNamed? x = some theMethod := by decide +kernel
set_option maxRecDepth 65536 in
theorem w_hears : about1.hears theMethod below0 = true := by decide +kernel
set_option maxRecDepth 65536 in
theorem w_ripe : about1.ripe theMethod args0 below0 = true := by decide +kernel
theorem w_running : about1.status = .running := rfl
set_option maxRecDepth 65536 in
theorem w_room : about1.hasRoom e0.platform room_1 = true :=
  launch0.hasRoom_least _ room_1 (by decide +kernel) (by decide +kernel) (by decide +kernel) (by decide +kernel) (by decide +kernel) (by decide +kernel)
theorem allAtoms_all (ts : List Jvm.Cond) (a : Array Jvm.Value) (st : Jvm.State) : (allAtoms ts).before a st = ts.all (fun c => c.before a st) := by
  induction ts with
  | nil => rfl
  | cons c t ih =>
    show (Jvm.Cond.and c (allAtoms t)).before a st = _
    rw [Jvm.Cond.before_and, ih, List.all_cons]
def words1 : List Jvm.Cond := Jvm.Cond.code x code maxLocals ret :: tables_1
/-- a 'code' word, met by the world's own term for the bytes: nothing is compared byte by byte -/
theorem code_word {y : MethodName} {bytes : ByteArray} {mx : Nat} {rt : Option FieldType} {a : Array Value} {s : State} {m : MethodId} {meth : Method} {c : Code} (h1 : s.methodNamed? y = some m) (h2 : s.vm.method? m = some meth) (h3 : meth.code = some c) (h4 : c.code = bytes)
    (h5 : (c.maxLocals == mx && c.exceptionTable.isEmpty && decide (c.maxStack ≤ mostOperands) && decide (meth.sig.returnType = rt) && !meth.locks && decide (parseMethodDescriptor y.desc = some meth.sig)) = true) : (Jvm.Cond.code y bytes mx rt).before a s = true := by
  simp only [Bool.and_eq_true, beq_iff_eq, Bool.not_eq_true', decide_eq_true_eq] at h5
  obtain ⟨⟨⟨⟨⟨g1, g2⟩, g3⟩, g4⟩, g5⟩, g6⟩ := h5
  simp [Cond.before, Cond.holds, Cond.value, h1, h2, h3, h4, g1, g2, g3, g4, g5, g6]
def isCode : Jvm.Cond → Bool
  | .code _ _ _ _ => true
  | _ => false
theorem all_split {L : List Jvm.Cond} {P : Jvm.Cond → Bool} (h1 : L.all (fun c => isCode c || P c) = true) (h2 : ∀ c ∈ L.filter isCode, P c = true) : L.all P = true := by
  refine List.all_eq_true.mpr fun c hc => ?_
  have h := List.all_eq_true.mp h1 c hc
  rcases Bool.eq_false_or_eq_true (isCode c) with hi | hi
  · exact h2 c (List.mem_filter.mpr ⟨hc, hi⟩)
  · simpa [hi] using h
set_option maxRecDepth 65536 in
theorem w_c0 : (Jvm.Cond.code x code maxLocals ret).before args0 about1 = true := code_word (m := ⟨1, 1⟩) (meth := k1m1) (c := k1c1) (by decide +kernel) rfl rfl rfl (by decide +kernel)
set_option maxRecDepth 65536 in
theorem w_c1 : (Jvm.Cond.code ({ cls := "com/example/onceward/onceward/protocol/ApiKey", name := "serves", desc := "(S)Z" } : Jvm.MethodName) prog_80_method_8_code (2 : Nat) (Option.some Jvm.ClassFile.FieldType.boolean)).before args0 about1 = true := code_word (m := ⟨6, 0⟩) (meth := k6m0) (c := k6c0) (by decide +kernel) rfl rfl rfl (by decide +kernel)
def codes1 : List Jvm.Cond := [Jvm.Cond.code x code maxLocals ret, Jvm.Cond.code ({ cls := "com/example/onceward/onceward/protocol/ApiKey", name := "serves", desc := "(S)Z" } : Jvm.MethodName) prog_80_method_8_code (2 : Nat) (Option.some Jvm.ClassFile.FieldType.boolean)]
set_option maxRecDepth 65536 in
theorem codes_eq : words1.filter isCode = codes1 := rfl
theorem w_codes : ∀ c ∈ words1.filter isCode, c.before args0 about1 = true := by
  rw [codes_eq]
  intro c hc
  simp only [codes1, List.mem_cons, List.not_mem_nil, or_false] at hc
  rcases hc with rfl | rfl
  · exact w_c0
  · exact w_c1
set_option maxRecDepth 65536 in
theorem w_t1 : (words1.take 24).all (fun c => isCode c || c.before args0 about1) = true := by decide +kernel
set_option maxRecDepth 65536 in
theorem w_t2 : ((words1.drop 24).take 24).all (fun c => isCode c || c.before args0 about1) = true := by decide +kernel
set_option maxRecDepth 65536 in
theorem w_t3 : ((words1.drop 24).drop 24).all (fun c => isCode c || c.before args0 about1) = true := by decide +kernel
theorem w_tables : (allAtoms (Jvm.Cond.code x code maxLocals ret :: tables_1)).before args0 about1 = true := by
  rw [allAtoms_all]
  show words1.all (fun c => c.before args0 about1) = true
  refine all_split ?_ w_codes
  rw [← List.take_append_drop 24 words1, List.all_append, w_t1, ← List.take_append_drop 24 (words1.drop 24), List.all_append, w_t2, w_t3]
  rfl
set_option maxRecDepth 65536 in
theorem w_case : (Jvm.Cond.and given_1 narrow_1).before args0 about1 = true := by decide +kernel
theorem w_applies : (headSpec (Jvm.Cond.code x code maxLocals ret :: tables_1) room_1).applies x e0.platform about1 = true :=
  (Spec.applies_iff w_frames).mpr ⟨w_running, w_runnable, w_alone, w_named, w_hears, w_ripe, w_room, w_tables⟩
theorem atStart : AtStart classFile x code maxLocals ret World_1 tables_1 room_1 Calls_1 rest_1 Pre_1 launch0 p0 e0 about1 theMethod args0 below0 :=
  ⟨lists_1, trivial, launch0.admits_env _ _ _, launch0.least_env, fairChoices_fair.cas, fairChoices_fair.clock, w_frames, w_args, w_heap, w_applies, trivial, trivial, w_case⟩
end start1
theorem witness_1 : WitnessClaimed_1 := ⟨start1.p0, start1.e0, start1.about1, start1.theMethod, start1.args0, start1.below0, start1.atStart⟩
end Jvm.Pilot.@@N@@
