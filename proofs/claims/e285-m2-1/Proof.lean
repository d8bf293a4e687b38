import JvmDerived
import JvmDerived.Pilot.@@N@@Statement
import JvmDerived.Pilot.@@N@@Code
set_option linter.unusedVariables false
set_option linter.unusedSimpArgs false
namespace Jvm.Pilot.@@N@@
open Jvm Jvm.ClassFile Sem Op Lib Jvm.Free Jvm.Stand Jvm.LawKit Jvm.RoadKit Bundle Jvm.Pilot.@@N@@.Jvm.D
theorem own_fld {s : State} {args : Array Value} {t : Term} {w : Addr} {C n d : String} {k : Int32} (ev : t.eval args s none [] s = some (.ref w)) (h : (Cond.eq (Term.field t C n d) (Term.int k)).value args s none s [] = some true) : Fld s s.heap w C n d (.int k) := by
  refine Fld.start ?_
  have h1 : (Term.field t C n d).eval args s none [] s = s.fieldOf? w C n d := fld_at ev
  have h2 : (Term.int k).eval args s none [] s = some (.int k) := Term.int_eval k
  cases hf : s.fieldOf? w C n d with
  | none => rw [hf] at h1; simp [Cond.value, h1] at h
  | some x =>
    rw [hf] at h1
    cases x <;> simp [Cond.value, h1, h2] at h
    rw [h]
theorem own_sta {Z : State} {h h' : Heap} {C n d : String} {v : Value} (F : Sta Z h C n d v) (K : Keep h h' []) : Sta Z h' C n d v := by
  obtain ⟨cf, i, k, f, st, cell, h1, h2, h3, h4, h5, r⟩ := F
  exact ⟨cf, i, k, f, st, cell, h1, h2, h3, h4, K.2.1 _ _ h5 nin0, r⟩
def own_rel (a g_TABLE g_VIEW g_MATERIALIZED_VIEW g_SEQUENCE g_FOREIGN_TABLE g_INDEX : Addr) : Int32 := if a = g_TABLE ∨ a = g_VIEW ∨ a = g_MATERIALIZED_VIEW ∨ a = g_SEQUENCE ∨ a = g_FOREIGN_TABLE ∨ a = g_INDEX then 1 else 0
def own_All (P : Nat → Addr → Prop) : Nat → List Addr → Prop
  | _, [] => True
  | n, a :: r => P n a ∧ own_All P (n + 1) r
theorem own_cons {P : Nat → Addr → Prop} {n : Nat} {a : Addr} {r : List Addr} (h : P n a) (t : own_All P (n + 1) r) : own_All P n (a :: r) := ⟨h, t⟩
theorem own_All_get {P : Nat → Addr → Prop} : ∀ (L : List Addr) (n : Nat), own_All P n L → ∀ i, i < L.length → P (n + i) (L.getD i 0)
  | [], _, _, _, q => absurd q (Nat.not_lt_zero _)
  | a :: r, n, h, 0, _ => h.1
  | a :: r, n, h, i + 1, q => by
    have := own_All_get r (n + 1) h.2 i (Nat.lt_of_succ_lt_succ q)
    have e : n + 1 + i = n + (i + 1) := by omega
    rw [e] at this
    exact this
def own_ws (w : Nat → Addr) (n : Nat) : List Value := (List.range n).map fun i => .ref (w i)
theorem own_ws_len (w : Nat → Addr) (n : Nat) : (own_ws w n).length = n := by simp [own_ws]
theorem own_ws_succ (w : Nat → Addr) (n : Nat) : (own_ws w n ++ List.replicate 1 Value.null).set n (.ref (w n)) = own_ws w (n + 1) := by
  have h : (own_ws w n).length = n := own_ws_len w n
  rw [List.set_append_right _ _ (by rw [h]; exact Nat.le_refl n), h, Nat.sub_self]
  simp [own_ws, List.range_succ]
theorem own_ws_at (w : Nat → Addr) {n i : Nat} (h : i < n) : (own_ws w n).getD i .null = .ref (w i) := by
  simp [own_ws, List.getD_eq_getElem?_getD, h]
def own_At (p : Program) (l : Launch) (e : Env) (R : Room) (s : State) (m : MethodId) (args : Array Value) (below : List Frame) (meth : Method) (c : Code) (Z : State) (h0 : Heap) (n0 : Nat) (b : Addr) (k : ClassId) (C : String) (z : Int32) (w : Nat → Addr) (Ls : Array Slot) (cells slots : Nat) (src : State) (pc n : Nat) : Prop :=
  ∃ (T : State) (locs : List Loc) (h : Heap), Stand p l e R s m args below meth c T locs cells slots ∧ Fr n0 locs ∧ T.heap = h ∧ Keep h0 h [] ∧ Arv Z h b k (.object C) z (own_ws w n) .null ∧
    ∀ t, Steps p.tables e below (T.setTop (mkF m pc Ls [.ref b])) t → Steps p.tables e below src t
set_option maxRecDepth 65536 in
set_option maxHeartbeats 4000000 in
theorem own_turn {p : Program} {l : Launch} {e : Env} {R : Room} {s : State} {m : MethodId} {args : Array Value} {below : List Frame} {meth : Method} {c : Code} {Z : State} {h0 : Heap} {n0 : Nat} {b : Addr} {k : ClassId} {C : String} {z : Int32} {w : Nat → Addr} {Ls : Array Slot} {cells slots : Nat} {src : State} {pc n : Nat}
    (Y : own_At p l e R s m args below meth c Z h0 n0 b k C z w Ls cells slots src pc n) (hx : p.tables.exec = Jvm.exec) (hZ : Z.Warmed39 s.vm) {own : String} (hown : s.vm.findClass own = some m.cls) (O : Ovr Z k C) (gb : n0 ≤ b) (sb : h0.size ≤ b)
    {a0 : Array Value} {nm D : String} {idx d pc' : Nat} {jj : Int} {j : Int32} (wl : (Cond.fieldLink own idx C nm D).before a0 Z = true) (F : Sta Z h0 C nm D (.ref (w n))) (I : Exa Z h0 (w n) C) (hjn : j.toNatClampNeg = n) (hj : ¬ j < 0 ∧ j < z)
    (hd0 : decode c.code pc = .ok (.dup, 1)) (hd1 : (decode c.code (pc + 1) = .ok (.iconst jj, 1) ∧ Int32.ofInt jj = j ∧ d = 1) ∨ (decode c.code (pc + 1) = .ok (.bipush jj, 2) ∧ (Int8.ofInt jj).toInt32 = j ∧ d = 2))
    (hd2 : decode c.code (pc + 1 + d) = .ok (.getstatic idx, 3)) (hd3 : decode c.code (pc + 1 + d + 3) = .ok (.aastore, 1)) (hp : pc + 1 + d + 3 + 1 = pc') :
    own_At p l e R s m args below meth c Z h0 n0 b k C z w Ls cells slots src pc' (n + 1) := by
  obtain ⟨T, locs, h, X, N, eT, K, V, st⟩ := Y
  obtain ⟨T1, X1, e1, st1⟩ := getS2 X hx hZ hown (host := "") (Or.inl wl) Via.refl eT (own_sta F K) (g := mkF m (pc + 1 + d) Ls [.int j, .ref b, .ref b]) rfl hd2
  obtain ⟨cl, Ar, q, S, M, Hs, G⟩ := V.pad (pad_rep (own_ws w n) .null 1)
  have hin := inb_of S hj
  obtain ⟨T2, h2, X2, e2, W2, st2⟩ := stR X1 hx hZ e1 Ar (j := j) hin rfl (Sto.ofV Ar q O (Ins.self (I.keep K))) (g := mkF m (pc + 1 + d + 3) Ls [.ref (w n), .int j, .ref b, .ref b]) rfl rfl hd3
  have V2 := Arv.set Ar q S M Hs G (v := .ref (w n)) rfl W2 n hjn (by rw [List.length_append, own_ws_len]; simp)
  rw [own_ws_succ] at V2
  refine ⟨T2, _, h2, X2, Fr.snoc X2 N gb, e2, K.wr W2 (Or.inr sb), V2, fun t kt => st t ?_⟩
  refine XS.dup X.here hx rfl hd0 rfl rfl ?_
  subst hp
  rcases hd1 with ⟨g1, g2, rfl⟩ | ⟨g1, g2, rfl⟩
  · refine XT.iconstV X.here hx rfl j g1 g2 ?_
    refine st1 _ ?_
    refine st2 _ ?_
    exact kt
  · refine XT.bipushV X.here hx rfl j g1 g2 ?_
    refine st1 _ ?_
    refine st2 _ ?_
    exact kt
theorem own_rng {p i : Int32} (h : i = (p &&& (2147483647 : Int32)) % (45 : Int32)) : ¬ i < 0 ∧ i < (45 : Int32) := by
  have a := c_and p (2147483647 : Int32) (by decide)
  have b := (c_iremV (p &&& (2147483647 : Int32)) (45 : Int32)).1 a.1 (by decide)
  have c : (45 : Int32).toInt = 45 := rfl
  have d : (0 : Int32).toInt = 0 := rfl
  rw [Int32.lt_iff_toInt_lt, Int32.lt_iff_toInt_lt, h]
  omega
theorem own_idx {i : Int32} (h : ¬ i < 0 ∧ i < (45 : Int32)) : i.toInt = (i.toNatClampNeg : Int) ∧ i.toNatClampNeg < 45 := by
  have c : (45 : Int32).toInt = 45 := rfl
  have d : (0 : Int32).toInt = 0 := rfl
  simp only [Int32.lt_iff_toInt_lt, Int32.toNatClampNeg] at h ⊢
  omega
theorem own_inj {Z : State} {h : Heap} {w : Nat → Addr} (hO : ∀ i, i < 45 → Fld Z h (w i) "java/lang/Enum" "ordinal" "I" (.int (Int32.ofNat i))) {a b : Nat} (ha : a < 45) (hb : b < 45) (ne : ¬ a = b) : ¬ w a = w b := by
  refine Fld.ne (hO a ha) (hO b hb) fun q => ne ?_
  have q1 : Int32.ofNat a = Int32.ofNat b := Value.int.inj q
  have q2 : (Int32.ofNat a).toInt = (Int32.ofNat b).toInt := by rw [q1]
  have e1 : (Int32.ofNat a).toInt = (a : Int) := len_toInt (n := a) (by omega)
  have e2 : (Int32.ofNat b).toInt = (b : Int) := len_toInt (n := b) (by omega)
  rw [e1, e2] at q2
  omega
theorem own_pos {w : Nat → Addr} {q : Nat} (h : q = 33 ∨ q = 44 ∨ q = 17 ∨ q = 28 ∨ q = 11 ∨ q = 14) : own_rel (w q) (w 33) (w 44) (w 17) (w 28) (w 11) (w 14) = 1 := by
  rcases h with rfl | rfl | rfl | rfl | rfl | rfl <;> simp [own_rel]
theorem own_neg {Z : State} {h : Heap} {w : Nat → Addr} (hO : ∀ i, i < 45 → Fld Z h (w i) "java/lang/Enum" "ordinal" "I" (.int (Int32.ofNat i))) {q : Nat} (hq : q < 45) (hn : ¬ q = 33 ∧ ¬ q = 44 ∧ ¬ q = 17 ∧ ¬ q = 28 ∧ ¬ q = 11 ∧ ¬ q = 14) : own_rel (w q) (w 33) (w 44) (w 17) (w 28) (w 11) (w 14) = 0 := by
  obtain ⟨n33, n44, n17, n28, n11, n14⟩ := hn
  have m33 := own_inj hO hq (by decide : 33 < 45) n33
  have m44 := own_inj hO hq (by decide : 44 < 45) n44
  have m17 := own_inj hO hq (by decide : 17 < 45) n17
  have m28 := own_inj hO hq (by decide : 28 < 45) n28
  have m11 := own_inj hO hq (by decide : 11 < 45) n11
  have m14 := own_inj hO hq (by decide : 14 < 45) n14
  simp [own_rel, m33, m44, m17, m28, m11, m14]
theorem dK_0 : decode prog_68_method_7_code 0 = .ok (.aload_n 0, 1) := by decide +kernel
theorem dK_1 : decode prog_68_method_7_code 1 = .ok (.getstatic 103, 3) := by decide +kernel
theorem dK_4 : decode prog_68_method_7_code 4 = .ok (.if_acmp .eq 38, 3) := by decide +kernel
theorem dK_7 : decode prog_68_method_7_code 7 = .ok (.aload_n 0, 1) := by decide +kernel
theorem dK_8 : decode prog_68_method_7_code 8 = .ok (.getstatic 136, 3) := by decide +kernel
theorem dK_11 : decode prog_68_method_7_code 11 = .ok (.if_acmp .eq 31, 3) := by decide +kernel
theorem dK_14 : decode prog_68_method_7_code 14 = .ok (.aload_n 0, 1) := by decide +kernel
theorem dK_15 : decode prog_68_method_7_code 15 = .ok (.getstatic 55, 3) := by decide +kernel
theorem dK_18 : decode prog_68_method_7_code 18 = .ok (.if_acmp .eq 24, 3) := by decide +kernel
theorem dK_21 : decode prog_68_method_7_code 21 = .ok (.aload_n 0, 1) := by decide +kernel
theorem dK_22 : decode prog_68_method_7_code 22 = .ok (.getstatic 88, 3) := by decide +kernel
theorem dK_25 : decode prog_68_method_7_code 25 = .ok (.if_acmp .eq 17, 3) := by decide +kernel
theorem dK_28 : decode prog_68_method_7_code 28 = .ok (.aload_n 0, 1) := by decide +kernel
theorem dK_29 : decode prog_68_method_7_code 29 = .ok (.getstatic 37, 3) := by decide +kernel
theorem dK_32 : decode prog_68_method_7_code 32 = .ok (.if_acmp .eq 10, 3) := by decide +kernel
theorem dK_35 : decode prog_68_method_7_code 35 = .ok (.aload_n 0, 1) := by decide +kernel
theorem dK_36 : decode prog_68_method_7_code 36 = .ok (.getstatic 46, 3) := by decide +kernel
theorem dK_39 : decode prog_68_method_7_code 39 = .ok (.if_acmp .ne 7, 3) := by decide +kernel
theorem dK_42 : decode prog_68_method_7_code 42 = .ok (.iconst 1, 1) := by decide +kernel
theorem dK_43 : decode prog_68_method_7_code 43 = .ok (.goto 4, 3) := by decide +kernel
theorem dK_46 : decode prog_68_method_7_code 46 = .ok (.iconst 0, 1) := by decide +kernel
theorem dK_47 : decode prog_68_method_7_code 47 = .ok (.ireturn, 1) := by decide +kernel
theorem pnK : plainName "com/example/largo/largo/ObjectType" = true := by first | (simp [plainName, overriddenIn]; done) | decide +kernel
theorem efK (m : MethodId) (a : Addr) : entryFrame m #[(.ref a)] 1 = mkF m 0 #[.val (.ref a)] [] := by first | (simp [entryFrame, mkF, argsToLocals, Value.category]; done) | rfl
def QK (a g_TABLE g_VIEW g_MATERIALIZED_VIEW g_SEQUENCE g_FOREIGN_TABLE g_INDEX : Addr) (h0 : Heap) (n0 : Nat) (v : Option Value) (h : Heap) (L : List Loc) : Prop := v = some (.int (own_rel a g_TABLE g_VIEW g_MATERIALIZED_VIEW g_SEQUENCE g_FOREIGN_TABLE g_INDEX)) ∧ Fr n0 L ∧ h = h0
set_option maxRecDepth 65536 in
set_option maxHeartbeats 40000000 in
theorem rmK (l : Launch) (Z : State) (a0 : Array Value) (hw : ∀ d ∈ tables_1, d.before a0 Z = true) (ws : List Jvm.Cond) (a : Addr) (g_TABLE g_VIEW g_MATERIALIZED_VIEW g_SEQUENCE g_FOREIGN_TABLE g_INDEX : Addr) (h0 : Heap) (n0 : Nat) (Z0 : n0 ≤ h0.size) (S_TABLE : Sta Z h0 "com/example/largo/largo/ObjectType" "TABLE" "Lcom/example/largo/largo/ObjectType;" (.ref g_TABLE)) (S_VIEW : Sta Z h0 "com/example/largo/largo/ObjectType" "VIEW" "Lcom/example/largo/largo/ObjectType;" (.ref g_VIEW)) (S_MATERIALIZED_VIEW : Sta Z h0 "com/example/largo/largo/ObjectType" "MATERIALIZED_VIEW" "Lcom/example/largo/largo/ObjectType;" (.ref g_MATERIALIZED_VIEW)) (S_SEQUENCE : Sta Z h0 "com/example/largo/largo/ObjectType" "SEQUENCE" "Lcom/example/largo/largo/ObjectType;" (.ref g_SEQUENCE)) (S_FOREIGN_TABLE : Sta Z h0 "com/example/largo/largo/ObjectType" "FOREIGN_TABLE" "Lcom/example/largo/largo/ObjectType;" (.ref g_FOREIGN_TABLE)) (S_INDEX : Sta Z h0 "com/example/largo/largo/ObjectType" "INDEX" "Lcom/example/largo/largo/ObjectType;" (.ref g_INDEX)) :
    MetFree l (⟨"com/example/largo/largo/ObjectType", "isRelation", "()Z"⟩ : MethodName) (head1 (Jvm.Cond.code (⟨"com/example/largo/largo/ObjectType", "isRelation", "()Z"⟩ : MethodName) prog_68_method_7_code 1 (some .boolean) :: ws) ({ frames := 0, cells := 0, slots := 0, locals := 0 } : Room)) (fun as_ U => as_ = #[(.ref a)] ∧ Z.Warmed39 U.vm ∧ U.heap = h0) (fun _ _ _ _ _ => True) (fun _ U o U' => ∃ v L, o = .returned v ∧ QK a g_TABLE g_VIEW g_MATERIALIZED_VIEW g_SEQUENCE g_FOREIGN_TABLE g_INDEX h0 n0 v U'.heap L ∧ FrameEnd U o U' L ({ frames := 0, cells := 0, slots := 0, locals := 0 } : Room).cells ({ frames := 0, cells := 0, slots := 0, locals := 0 } : Room).slots) := by
  refine MetFree.of_bodySF (plainFor_of_name pnK) hisR ?_
  intro p e s m args below meth c s₁ Bd hml0 hP hK
  obtain ⟨rfl, hZ, hh⟩ := hP
  have hx := Bd.exec
  have hby := Bd.bytes
  have hml : c.maxLocals = 1 := hml0
  have hown : s.vm.findClass "com/example/largo/largo/ObjectType" = some m.cls := findClass_of_methodNamed Bd.named
  have X0 : Stand p l e ({ frames := 0, cells := 0, slots := 0, locals := 0 } : Room) s m #[(.ref a)] below meth c s₁ [] 0 0 := Stand.of_body Bd
  have e0 : s₁.heap = h0 := by rw [← hh, Bd.state]; rfl
  have N0 := Fr.nil n0
  have pre0 : ∀ t, Steps p.tables e below (s₁.setTop (mkF m 0 #[.val (.ref a)] [])) t → Steps p.tables e below (s₁.setTop (entryFrame m #[(.ref a)] 1)) t := fun t kk_ => castTop (efK m a) kk_
  obtain ⟨T1, X1, e1, st1⟩ := getS2 X0 hx hZ hown (host := "") (Or.inl (hw _ (List.mem_of_getElem? (i := 100) rfl))) Via.refl e0 S_TABLE (g := (mkF m 1 #[.val (.ref a)] [(.ref a)])) rfl (hb hby dK_1)
  have pre2 : ∀ t, Steps p.tables e below (T1.setTop (mkF m 4 #[.val (.ref a)] [(.ref g_TABLE), (.ref a)])) t → Steps p.tables e below (s₁.setTop (entryFrame m #[(.ref a)] 1)) t := fun t kt => by
    refine pre0 t ?_
    show Steps p.tables e below (s₁.setTop (mkF m 0 #[.val (.ref a)] [])) _
    refine XS.aloadN X0.here hx rfl (hb hby dK_0) rfl rfl ?_
    show Steps p.tables e below (s₁.setTop (mkF m 1 #[.val (.ref a)] [(.ref a)])) _
    refine st1 _ ?_
    exact kt
  by_cases hc4_3 : a = g_TABLE
  · obtain ⟨fs, hr, hrun, hended, hW, hsame⟩ := X1.leave (v := some (.int (1 : Int32))) (fun h => by rw [Bd.returns] at h; cases h)
    refine ⟨_, _, pre2 _ ?_, hrun, hended, _, _, rfl, ?_, ⟨_, rfl⟩, hW, hsame.mono (by decide) (by decide)⟩
    · show Steps p.tables e below (T1.setTop (mkF m 4 #[.val (.ref a)] [(.ref g_TABLE), (.ref a)])) _
      refine Jvm.RoadKit.acmp (g := (mkF m 4 #[.val (.ref a)] [(.ref g_TABLE), (.ref a)])) X1 hx rfl rfl rfl (pc0 := 4) (pc' := 42) (same := true) rfl (hb hby dK_4) rfl (decide_eq_true (congrArg Value.ref hc4_3)) (by decide) (by decide) ?_
      show Steps p.tables e below (T1.setTop (mkF m 42 #[.val (.ref a)] [])) _
      refine XS.iconst X1.here hx rfl (hb hby dK_42) ?_
      show Steps p.tables e below (T1.setTop (mkF m 43 #[.val (.ref a)] [(.int (1 : Int32))])) _
      refine XS.goto X1.here hx rfl (pc0 := 43) (pc' := 47) rfl (hb hby dK_43) (by decide) (by decide) ?_
      show Steps p.tables e below (T1.setTop (mkF m 47 #[.val (.ref a)] [(.int (1 : Int32))])) _
      exact retN X1 hx (t := .boolean) Bd.returns (by simp) (hb hby dK_47) hr
    · show QK a g_TABLE g_VIEW g_MATERIALIZED_VIEW g_SEQUENCE g_FOREIGN_TABLE g_INDEX h0 n0 _ T1.heap _
      rw [e1]
      exact ⟨by simp [own_rel, hc4_3], N0, rfl⟩
  · obtain ⟨T4, X4, e4, st4⟩ := getS2 X1 hx hZ hown (host := "") (Or.inl (hw _ (List.mem_of_getElem? (i := 101) rfl))) Via.refl e1 S_VIEW (g := (mkF m 8 #[.val (.ref a)] [(.ref a)])) rfl (hb hby dK_8)
    have pre5 : ∀ t, Steps p.tables e below (T4.setTop (mkF m 11 #[.val (.ref a)] [(.ref g_VIEW), (.ref a)])) t → Steps p.tables e below (s₁.setTop (entryFrame m #[(.ref a)] 1)) t := fun t kt => by
      refine pre2 t ?_
      show Steps p.tables e below (T1.setTop (mkF m 4 #[.val (.ref a)] [(.ref g_TABLE), (.ref a)])) _
      refine Jvm.RoadKit.acmp (g := (mkF m 4 #[.val (.ref a)] [(.ref g_TABLE), (.ref a)])) X1 hx rfl rfl rfl (pc0 := 4) (pc' := 7) (same := false) rfl (hb hby dK_4) rfl (decide_eq_false fun q => hc4_3 (Value.ref.inj q)) (by decide) (by decide) ?_
      show Steps p.tables e below (T1.setTop (mkF m 7 #[.val (.ref a)] [])) _
      refine XS.aloadN X1.here hx rfl (hb hby dK_7) rfl rfl ?_
      show Steps p.tables e below (T1.setTop (mkF m 8 #[.val (.ref a)] [(.ref a)])) _
      refine st4 _ ?_
      exact kt
    by_cases hc11_6 : a = g_VIEW
    · obtain ⟨fs, hr, hrun, hended, hW, hsame⟩ := X4.leave (v := some (.int (1 : Int32))) (fun h => by rw [Bd.returns] at h; cases h)
      refine ⟨_, _, pre5 _ ?_, hrun, hended, _, _, rfl, ?_, ⟨_, rfl⟩, hW, hsame.mono (by decide) (by decide)⟩
      · show Steps p.tables e below (T4.setTop (mkF m 11 #[.val (.ref a)] [(.ref g_VIEW), (.ref a)])) _
        refine Jvm.RoadKit.acmp (g := (mkF m 11 #[.val (.ref a)] [(.ref g_VIEW), (.ref a)])) X4 hx rfl rfl rfl (pc0 := 11) (pc' := 42) (same := true) rfl (hb hby dK_11) rfl (decide_eq_true (congrArg Value.ref hc11_6)) (by decide) (by decide) ?_
        show Steps p.tables e below (T4.setTop (mkF m 42 #[.val (.ref a)] [])) _
        refine XS.iconst X4.here hx rfl (hb hby dK_42) ?_
        show Steps p.tables e below (T4.setTop (mkF m 43 #[.val (.ref a)] [(.int (1 : Int32))])) _
        refine XS.goto X4.here hx rfl (pc0 := 43) (pc' := 47) rfl (hb hby dK_43) (by decide) (by decide) ?_
        show Steps p.tables e below (T4.setTop (mkF m 47 #[.val (.ref a)] [(.int (1 : Int32))])) _
        exact retN X4 hx (t := .boolean) Bd.returns (by simp) (hb hby dK_47) hr
      · show QK a g_TABLE g_VIEW g_MATERIALIZED_VIEW g_SEQUENCE g_FOREIGN_TABLE g_INDEX h0 n0 _ T4.heap _
        rw [e4]
        exact ⟨by simp [own_rel, hc4_3, hc11_6], N0, rfl⟩
    · obtain ⟨T7, X7, e7, st7⟩ := getS2 X4 hx hZ hown (host := "") (Or.inl (hw _ (List.mem_of_getElem? (i := 102) rfl))) Via.refl e4 S_MATERIALIZED_VIEW (g := (mkF m 15 #[.val (.ref a)] [(.ref a)])) rfl (hb hby dK_15)
      have pre8 : ∀ t, Steps p.tables e below (T7.setTop (mkF m 18 #[.val (.ref a)] [(.ref g_MATERIALIZED_VIEW), (.ref a)])) t → Steps p.tables e below (s₁.setTop (entryFrame m #[(.ref a)] 1)) t := fun t kt => by
        refine pre5 t ?_
        show Steps p.tables e below (T4.setTop (mkF m 11 #[.val (.ref a)] [(.ref g_VIEW), (.ref a)])) _
        refine Jvm.RoadKit.acmp (g := (mkF m 11 #[.val (.ref a)] [(.ref g_VIEW), (.ref a)])) X4 hx rfl rfl rfl (pc0 := 11) (pc' := 14) (same := false) rfl (hb hby dK_11) rfl (decide_eq_false fun q => hc11_6 (Value.ref.inj q)) (by decide) (by decide) ?_
        show Steps p.tables e below (T4.setTop (mkF m 14 #[.val (.ref a)] [])) _
        refine XS.aloadN X4.here hx rfl (hb hby dK_14) rfl rfl ?_
        show Steps p.tables e below (T4.setTop (mkF m 15 #[.val (.ref a)] [(.ref a)])) _
        refine st7 _ ?_
        exact kt
      by_cases hc18_9 : a = g_MATERIALIZED_VIEW
      · obtain ⟨fs, hr, hrun, hended, hW, hsame⟩ := X7.leave (v := some (.int (1 : Int32))) (fun h => by rw [Bd.returns] at h; cases h)
        refine ⟨_, _, pre8 _ ?_, hrun, hended, _, _, rfl, ?_, ⟨_, rfl⟩, hW, hsame.mono (by decide) (by decide)⟩
        · show Steps p.tables e below (T7.setTop (mkF m 18 #[.val (.ref a)] [(.ref g_MATERIALIZED_VIEW), (.ref a)])) _
          refine Jvm.RoadKit.acmp (g := (mkF m 18 #[.val (.ref a)] [(.ref g_MATERIALIZED_VIEW), (.ref a)])) X7 hx rfl rfl rfl (pc0 := 18) (pc' := 42) (same := true) rfl (hb hby dK_18) rfl (decide_eq_true (congrArg Value.ref hc18_9)) (by decide) (by decide) ?_
          show Steps p.tables e below (T7.setTop (mkF m 42 #[.val (.ref a)] [])) _
          refine XS.iconst X7.here hx rfl (hb hby dK_42) ?_
          show Steps p.tables e below (T7.setTop (mkF m 43 #[.val (.ref a)] [(.int (1 : Int32))])) _
          refine XS.goto X7.here hx rfl (pc0 := 43) (pc' := 47) rfl (hb hby dK_43) (by decide) (by decide) ?_
          show Steps p.tables e below (T7.setTop (mkF m 47 #[.val (.ref a)] [(.int (1 : Int32))])) _
          exact retN X7 hx (t := .boolean) Bd.returns (by simp) (hb hby dK_47) hr
        · show QK a g_TABLE g_VIEW g_MATERIALIZED_VIEW g_SEQUENCE g_FOREIGN_TABLE g_INDEX h0 n0 _ T7.heap _
          rw [e7]
          exact ⟨by simp [own_rel, hc4_3, hc11_6, hc18_9], N0, rfl⟩
      · obtain ⟨T10, X10, e10, st10⟩ := getS2 X7 hx hZ hown (host := "") (Or.inl (hw _ (List.mem_of_getElem? (i := 103) rfl))) Via.refl e7 S_SEQUENCE (g := (mkF m 22 #[.val (.ref a)] [(.ref a)])) rfl (hb hby dK_22)
        have pre11 : ∀ t, Steps p.tables e below (T10.setTop (mkF m 25 #[.val (.ref a)] [(.ref g_SEQUENCE), (.ref a)])) t → Steps p.tables e below (s₁.setTop (entryFrame m #[(.ref a)] 1)) t := fun t kt => by
          refine pre8 t ?_
          show Steps p.tables e below (T7.setTop (mkF m 18 #[.val (.ref a)] [(.ref g_MATERIALIZED_VIEW), (.ref a)])) _
          refine Jvm.RoadKit.acmp (g := (mkF m 18 #[.val (.ref a)] [(.ref g_MATERIALIZED_VIEW), (.ref a)])) X7 hx rfl rfl rfl (pc0 := 18) (pc' := 21) (same := false) rfl (hb hby dK_18) rfl (decide_eq_false fun q => hc18_9 (Value.ref.inj q)) (by decide) (by decide) ?_
          show Steps p.tables e below (T7.setTop (mkF m 21 #[.val (.ref a)] [])) _
          refine XS.aloadN X7.here hx rfl (hb hby dK_21) rfl rfl ?_
          show Steps p.tables e below (T7.setTop (mkF m 22 #[.val (.ref a)] [(.ref a)])) _
          refine st10 _ ?_
          exact kt
        by_cases hc25_12 : a = g_SEQUENCE
        · obtain ⟨fs, hr, hrun, hended, hW, hsame⟩ := X10.leave (v := some (.int (1 : Int32))) (fun h => by rw [Bd.returns] at h; cases h)
          refine ⟨_, _, pre11 _ ?_, hrun, hended, _, _, rfl, ?_, ⟨_, rfl⟩, hW, hsame.mono (by decide) (by decide)⟩
          · show Steps p.tables e below (T10.setTop (mkF m 25 #[.val (.ref a)] [(.ref g_SEQUENCE), (.ref a)])) _
            refine Jvm.RoadKit.acmp (g := (mkF m 25 #[.val (.ref a)] [(.ref g_SEQUENCE), (.ref a)])) X10 hx rfl rfl rfl (pc0 := 25) (pc' := 42) (same := true) rfl (hb hby dK_25) rfl (decide_eq_true (congrArg Value.ref hc25_12)) (by decide) (by decide) ?_
            show Steps p.tables e below (T10.setTop (mkF m 42 #[.val (.ref a)] [])) _
            refine XS.iconst X10.here hx rfl (hb hby dK_42) ?_
            show Steps p.tables e below (T10.setTop (mkF m 43 #[.val (.ref a)] [(.int (1 : Int32))])) _
            refine XS.goto X10.here hx rfl (pc0 := 43) (pc' := 47) rfl (hb hby dK_43) (by decide) (by decide) ?_
            show Steps p.tables e below (T10.setTop (mkF m 47 #[.val (.ref a)] [(.int (1 : Int32))])) _
            exact retN X10 hx (t := .boolean) Bd.returns (by simp) (hb hby dK_47) hr
          · show QK a g_TABLE g_VIEW g_MATERIALIZED_VIEW g_SEQUENCE g_FOREIGN_TABLE g_INDEX h0 n0 _ T10.heap _
            rw [e10]
            exact ⟨by simp [own_rel, hc4_3, hc11_6, hc18_9, hc25_12], N0, rfl⟩
        · obtain ⟨T13, X13, e13, st13⟩ := getS2 X10 hx hZ hown (host := "") (Or.inl (hw _ (List.mem_of_getElem? (i := 104) rfl))) Via.refl e10 S_FOREIGN_TABLE (g := (mkF m 29 #[.val (.ref a)] [(.ref a)])) rfl (hb hby dK_29)
          have pre14 : ∀ t, Steps p.tables e below (T13.setTop (mkF m 32 #[.val (.ref a)] [(.ref g_FOREIGN_TABLE), (.ref a)])) t → Steps p.tables e below (s₁.setTop (entryFrame m #[(.ref a)] 1)) t := fun t kt => by
            refine pre11 t ?_
            show Steps p.tables e below (T10.setTop (mkF m 25 #[.val (.ref a)] [(.ref g_SEQUENCE), (.ref a)])) _
            refine Jvm.RoadKit.acmp (g := (mkF m 25 #[.val (.ref a)] [(.ref g_SEQUENCE), (.ref a)])) X10 hx rfl rfl rfl (pc0 := 25) (pc' := 28) (same := false) rfl (hb hby dK_25) rfl (decide_eq_false fun q => hc25_12 (Value.ref.inj q)) (by decide) (by decide) ?_
            show Steps p.tables e below (T10.setTop (mkF m 28 #[.val (.ref a)] [])) _
            refine XS.aloadN X10.here hx rfl (hb hby dK_28) rfl rfl ?_
            show Steps p.tables e below (T10.setTop (mkF m 29 #[.val (.ref a)] [(.ref a)])) _
            refine st13 _ ?_
            exact kt
          by_cases hc32_15 : a = g_FOREIGN_TABLE
          · obtain ⟨fs, hr, hrun, hended, hW, hsame⟩ := X13.leave (v := some (.int (1 : Int32))) (fun h => by rw [Bd.returns] at h; cases h)
            refine ⟨_, _, pre14 _ ?_, hrun, hended, _, _, rfl, ?_, ⟨_, rfl⟩, hW, hsame.mono (by decide) (by decide)⟩
            · show Steps p.tables e below (T13.setTop (mkF m 32 #[.val (.ref a)] [(.ref g_FOREIGN_TABLE), (.ref a)])) _
              refine Jvm.RoadKit.acmp (g := (mkF m 32 #[.val (.ref a)] [(.ref g_FOREIGN_TABLE), (.ref a)])) X13 hx rfl rfl rfl (pc0 := 32) (pc' := 42) (same := true) rfl (hb hby dK_32) rfl (decide_eq_true (congrArg Value.ref hc32_15)) (by decide) (by decide) ?_
              show Steps p.tables e below (T13.setTop (mkF m 42 #[.val (.ref a)] [])) _
              refine XS.iconst X13.here hx rfl (hb hby dK_42) ?_
              show Steps p.tables e below (T13.setTop (mkF m 43 #[.val (.ref a)] [(.int (1 : Int32))])) _
              refine XS.goto X13.here hx rfl (pc0 := 43) (pc' := 47) rfl (hb hby dK_43) (by decide) (by decide) ?_
              show Steps p.tables e below (T13.setTop (mkF m 47 #[.val (.ref a)] [(.int (1 : Int32))])) _
              exact retN X13 hx (t := .boolean) Bd.returns (by simp) (hb hby dK_47) hr
            · show QK a g_TABLE g_VIEW g_MATERIALIZED_VIEW g_SEQUENCE g_FOREIGN_TABLE g_INDEX h0 n0 _ T13.heap _
              rw [e13]
              exact ⟨by simp [own_rel, hc4_3, hc11_6, hc18_9, hc25_12, hc32_15], N0, rfl⟩
          · obtain ⟨T16, X16, e16, st16⟩ := getS2 X13 hx hZ hown (host := "") (Or.inl (hw _ (List.mem_of_getElem? (i := 105) rfl))) Via.refl e13 S_INDEX (g := (mkF m 36 #[.val (.ref a)] [(.ref a)])) rfl (hb hby dK_36)
            have pre17 : ∀ t, Steps p.tables e below (T16.setTop (mkF m 39 #[.val (.ref a)] [(.ref g_INDEX), (.ref a)])) t → Steps p.tables e below (s₁.setTop (entryFrame m #[(.ref a)] 1)) t := fun t kt => by
              refine pre14 t ?_
              show Steps p.tables e below (T13.setTop (mkF m 32 #[.val (.ref a)] [(.ref g_FOREIGN_TABLE), (.ref a)])) _
              refine Jvm.RoadKit.acmp (g := (mkF m 32 #[.val (.ref a)] [(.ref g_FOREIGN_TABLE), (.ref a)])) X13 hx rfl rfl rfl (pc0 := 32) (pc' := 35) (same := false) rfl (hb hby dK_32) rfl (decide_eq_false fun q => hc32_15 (Value.ref.inj q)) (by decide) (by decide) ?_
              show Steps p.tables e below (T13.setTop (mkF m 35 #[.val (.ref a)] [])) _
              refine XS.aloadN X13.here hx rfl (hb hby dK_35) rfl rfl ?_
              show Steps p.tables e below (T13.setTop (mkF m 36 #[.val (.ref a)] [(.ref a)])) _
              refine st16 _ ?_
              exact kt
            by_cases hc39_18 : a = g_INDEX
            · obtain ⟨fs, hr, hrun, hended, hW, hsame⟩ := X16.leave (v := some (.int (1 : Int32))) (fun h => by rw [Bd.returns] at h; cases h)
              refine ⟨_, _, pre17 _ ?_, hrun, hended, _, _, rfl, ?_, ⟨_, rfl⟩, hW, hsame.mono (by decide) (by decide)⟩
              · show Steps p.tables e below (T16.setTop (mkF m 39 #[.val (.ref a)] [(.ref g_INDEX), (.ref a)])) _
                refine Jvm.RoadKit.acmp (g := (mkF m 39 #[.val (.ref a)] [(.ref g_INDEX), (.ref a)])) X16 hx rfl rfl rfl (pc0 := 39) (pc' := 42) (same := true) rfl (hb hby dK_39) rfl (decide_eq_true (congrArg Value.ref hc39_18)) (by decide) (by decide) ?_
                show Steps p.tables e below (T16.setTop (mkF m 42 #[.val (.ref a)] [])) _
                refine XS.iconst X16.here hx rfl (hb hby dK_42) ?_
                show Steps p.tables e below (T16.setTop (mkF m 43 #[.val (.ref a)] [(.int (1 : Int32))])) _
                refine XS.goto X16.here hx rfl (pc0 := 43) (pc' := 47) rfl (hb hby dK_43) (by decide) (by decide) ?_
                show Steps p.tables e below (T16.setTop (mkF m 47 #[.val (.ref a)] [(.int (1 : Int32))])) _
                exact retN X16 hx (t := .boolean) Bd.returns (by simp) (hb hby dK_47) hr
              · show QK a g_TABLE g_VIEW g_MATERIALIZED_VIEW g_SEQUENCE g_FOREIGN_TABLE g_INDEX h0 n0 _ T16.heap _
                rw [e16]
                exact ⟨by simp [own_rel, hc4_3, hc11_6, hc18_9, hc25_12, hc32_15, hc39_18], N0, rfl⟩
            · obtain ⟨fs, hr, hrun, hended, hW, hsame⟩ := X16.leave (v := some (.int (0 : Int32))) (fun h => by rw [Bd.returns] at h; cases h)
              refine ⟨_, _, pre17 _ ?_, hrun, hended, _, _, rfl, ?_, ⟨_, rfl⟩, hW, hsame.mono (by decide) (by decide)⟩
              · show Steps p.tables e below (T16.setTop (mkF m 39 #[.val (.ref a)] [(.ref g_INDEX), (.ref a)])) _
                refine Jvm.RoadKit.acmp (g := (mkF m 39 #[.val (.ref a)] [(.ref g_INDEX), (.ref a)])) X16 hx rfl rfl rfl (pc0 := 39) (pc' := 46) (same := false) rfl (hb hby dK_39) rfl (decide_eq_false fun q => hc39_18 (Value.ref.inj q)) (by decide) (by decide) ?_
                show Steps p.tables e below (T16.setTop (mkF m 46 #[.val (.ref a)] [])) _
                refine XS.iconst X16.here hx rfl (hb hby dK_46) ?_
                show Steps p.tables e below (T16.setTop (mkF m 47 #[.val (.ref a)] [(.int (0 : Int32))])) _
                exact retN X16 hx (t := .boolean) Bd.returns (by simp) (hb hby dK_47) hr
              · show QK a g_TABLE g_VIEW g_MATERIALIZED_VIEW g_SEQUENCE g_FOREIGN_TABLE g_INDEX h0 n0 _ T16.heap _
                rw [e16]
                exact ⟨by simp [own_rel, hc4_3, hc11_6, hc18_9, hc25_12, hc32_15, hc39_18], N0, rfl⟩
theorem pn0 : plainName "com/example/largo/largo/ObjectTypeIsRelationPinLaw" = true := by first | (simp [plainName, overriddenIn]; done) | decide +kernel
theorem pd0_0 : parseMethodDescriptor "()Z" = some ⟨[], some .boolean⟩ := by decide +kernel
theorem ef0 (m : MethodId) (p1 : Int32) : entryFrame m #[(.int p1)] maxLocals = mkF m 0 #[.val (.int p1), .unset, .unset, .unset] [] := by first | (simp [entryFrame, mkF, argsToLocals, Value.category, maxLocals]; done) | rfl
def Q0  (h0 : Heap) (n0 : Nat) (v : Option Value) (h : Heap) (L : List Loc) : Prop := v = some (.int (1 : Int32)) ∧ Fr n0 L
set_option maxRecDepth 65536 in
set_option maxHeartbeats 40000000 in
theorem rm0 (l : Launch) (Z : State) (a0 : Array Value) (hw : ∀ d ∈ tables_1, d.before a0 Z = true) (ws : List Jvm.Cond) (p1 : Int32) (w : Nat → Addr) (h0 : Heap) (n0 : Nat) (Z0 : n0 ≤ h0.size) (S_ACCESS_METHOD : Sta Z h0 "com/example/largo/largo/ObjectType" "ACCESS_METHOD" "Lcom/example/largo/largo/ObjectType;" (.ref (w 0))) (S_AGGREGATE : Sta Z h0 "com/example/largo/largo/ObjectType" "AGGREGATE" "Lcom/example/largo/largo/ObjectType;" (.ref (w 1))) (S_CAST : Sta Z h0 "com/example/largo/largo/ObjectType" "CAST" "Lcom/example/largo/largo/ObjectType;" (.ref (w 2))) (S_COLLATION : Sta Z h0 "com/example/largo/largo/ObjectType" "COLLATION" "Lcom/example/largo/largo/ObjectType;" (.ref (w 3))) (S_CONVERSION : Sta Z h0 "com/example/largo/largo/ObjectType" "CONVERSION" "Lcom/example/largo/largo/ObjectType;" (.ref (w 4))) (S_DATABASE : Sta Z h0 "com/example/largo/largo/ObjectType" "DATABASE" "Lcom/example/largo/largo/ObjectType;" (.ref (w 5))) (S_DEFAULT_PRIVILEGES : Sta Z h0 "com/example/largo/largo/ObjectType" "DEFAULT_PRIVILEGES" "Lcom/example/largo/largo/ObjectType;" (.ref (w 6))) (S_DOMAIN : Sta Z h0 "com/example/largo/largo/ObjectType" "DOMAIN" "Lcom/example/largo/largo/ObjectType;" (.ref (w 7))) (S_EVENT_TRIGGER : Sta Z h0 "com/example/largo/largo/ObjectType" "EVENT_TRIGGER" "Lcom/example/largo/largo/ObjectType;" (.ref (w 8))) (S_EXTENSION : Sta Z h0 "com/example/largo/largo/ObjectType" "EXTENSION" "Lcom/example/largo/largo/ObjectType;" (.ref (w 9))) (S_FOREIGN_DATA_WRAPPER : Sta Z h0 "com/example/largo/largo/ObjectType" "FOREIGN_DATA_WRAPPER" "Lcom/example/largo/largo/ObjectType;" (.ref (w 10))) (S_FOREIGN_TABLE : Sta Z h0 "com/example/largo/largo/ObjectType" "FOREIGN_TABLE" "Lcom/example/largo/largo/ObjectType;" (.ref (w 11))) (S_FUNCTION : Sta Z h0 "com/example/largo/largo/ObjectType" "FUNCTION" "Lcom/example/largo/largo/ObjectType;" (.ref (w 12))) (S_GROUP : Sta Z h0 "com/example/largo/largo/ObjectType" "GROUP" "Lcom/example/largo/largo/ObjectType;" (.ref (w 13))) (S_INDEX : Sta Z h0 "com/example/largo/largo/ObjectType" "INDEX" "Lcom/example/largo/largo/ObjectType;" (.ref (w 14))) (S_LANGUAGE : Sta Z h0 "com/example/largo/largo/ObjectType" "LANGUAGE" "Lcom/example/largo/largo/ObjectType;" (.ref (w 15))) (S_LARGE_OBJECT : Sta Z h0 "com/example/largo/largo/ObjectType" "LARGE_OBJECT" "Lcom/example/largo/largo/ObjectType;" (.ref (w 16))) (S_MATERIALIZED_VIEW : Sta Z h0 "com/example/largo/largo/ObjectType" "MATERIALIZED_VIEW" "Lcom/example/largo/largo/ObjectType;" (.ref (w 17))) (S_OPERATOR : Sta Z h0 "com/example/largo/largo/ObjectType" "OPERATOR" "Lcom/example/largo/largo/ObjectType;" (.ref (w 18))) (S_OPERATOR_CLASS : Sta Z h0 "com/example/largo/largo/ObjectType" "OPERATOR_CLASS" "Lcom/example/largo/largo/ObjectType;" (.ref (w 19))) (S_OPERATOR_FAMILY : Sta Z h0 "com/example/largo/largo/ObjectType" "OPERATOR_FAMILY" "Lcom/example/largo/largo/ObjectType;" (.ref (w 20))) (S_POLICY : Sta Z h0 "com/example/largo/largo/ObjectType" "POLICY" "Lcom/example/largo/largo/ObjectType;" (.ref (w 21))) (S_PROCEDURE : Sta Z h0 "com/example/largo/largo/ObjectType" "PROCEDURE" "Lcom/example/largo/largo/ObjectType;" (.ref (w 22))) (S_PUBLICATION : Sta Z h0 "com/example/largo/largo/ObjectType" "PUBLICATION" "Lcom/example/largo/largo/ObjectType;" (.ref (w 23))) (S_ROLE : Sta Z h0 "com/example/largo/largo/ObjectType" "ROLE" "Lcom/example/largo/largo/ObjectType;" (.ref (w 24))) (S_ROUTINE : Sta Z h0 "com/example/largo/largo/ObjectType" "ROUTINE" "Lcom/example/largo/largo/ObjectType;" (.ref (w 25))) (S_RULE : Sta Z h0 "com/example/largo/largo/ObjectType" "RULE" "Lcom/example/largo/largo/ObjectType;" (.ref (w 26))) (S_SCHEMA : Sta Z h0 "com/example/largo/largo/ObjectType" "SCHEMA" "Lcom/example/largo/largo/ObjectType;" (.ref (w 27))) (S_SEQUENCE : Sta Z h0 "com/example/largo/largo/ObjectType" "SEQUENCE" "Lcom/example/largo/largo/ObjectType;" (.ref (w 28))) (S_SERVER : Sta Z h0 "com/example/largo/largo/ObjectType" "SERVER" "Lcom/example/largo/largo/ObjectType;" (.ref (w 29))) (S_STATISTICS : Sta Z h0 "com/example/largo/largo/ObjectType" "STATISTICS" "Lcom/example/largo/largo/ObjectType;" (.ref (w 30))) (S_SUBSCRIPTION : Sta Z h0 "com/example/largo/largo/ObjectType" "SUBSCRIPTION" "Lcom/example/largo/largo/ObjectType;" (.ref (w 31))) (S_SYSTEM : Sta Z h0 "com/example/largo/largo/ObjectType" "SYSTEM" "Lcom/example/largo/largo/ObjectType;" (.ref (w 32))) (S_TABLE : Sta Z h0 "com/example/largo/largo/ObjectType" "TABLE" "Lcom/example/largo/largo/ObjectType;" (.ref (w 33))) (S_TABLESPACE : Sta Z h0 "com/example/largo/largo/ObjectType" "TABLESPACE" "Lcom/example/largo/largo/ObjectType;" (.ref (w 34))) (S_TEXT_SEARCH_CONFIGURATION : Sta Z h0 "com/example/largo/largo/ObjectType" "TEXT_SEARCH_CONFIGURATION" "Lcom/example/largo/largo/ObjectType;" (.ref (w 35))) (S_TEXT_SEARCH_DICTIONARY : Sta Z h0 "com/example/largo/largo/ObjectType" "TEXT_SEARCH_DICTIONARY" "Lcom/example/largo/largo/ObjectType;" (.ref (w 36))) (S_TEXT_SEARCH_PARSER : Sta Z h0 "com/example/largo/largo/ObjectType" "TEXT_SEARCH_PARSER" "Lcom/example/largo/largo/ObjectType;" (.ref (w 37))) (S_TEXT_SEARCH_TEMPLATE : Sta Z h0 "com/example/largo/largo/ObjectType" "TEXT_SEARCH_TEMPLATE" "Lcom/example/largo/largo/ObjectType;" (.ref (w 38))) (S_TRANSFORM : Sta Z h0 "com/example/largo/largo/ObjectType" "TRANSFORM" "Lcom/example/largo/largo/ObjectType;" (.ref (w 39))) (S_TRIGGER : Sta Z h0 "com/example/largo/largo/ObjectType" "TRIGGER" "Lcom/example/largo/largo/ObjectType;" (.ref (w 40))) (S_TYPE : Sta Z h0 "com/example/largo/largo/ObjectType" "TYPE" "Lcom/example/largo/largo/ObjectType;" (.ref (w 41))) (S_USER : Sta Z h0 "com/example/largo/largo/ObjectType" "USER" "Lcom/example/largo/largo/ObjectType;" (.ref (w 42))) (S_USER_MAPPING : Sta Z h0 "com/example/largo/largo/ObjectType" "USER_MAPPING" "Lcom/example/largo/largo/ObjectType;" (.ref (w 43))) (S_VIEW : Sta Z h0 "com/example/largo/largo/ObjectType" "VIEW" "Lcom/example/largo/largo/ObjectType;" (.ref (w 44))) (hE : ∀ i, i < 45 → Exa Z h0 (w i) "com/example/largo/largo/ObjectType") (hO : ∀ i, i < 45 → Fld Z h0 (w i) "java/lang/Enum" "ordinal" "I" (.int (Int32.ofNat i))) :
    MetFree l x (head1 (Jvm.Cond.code x code maxLocals ret :: ws) room_1) (fun as_ U => as_ = #[(.int p1)] ∧ Z.Warmed39 U.vm ∧ U.heap = h0) (fun _ _ _ _ _ => True) (fun _ U o U' => ∃ v L, o = .returned v ∧ Q0 h0 n0 v U'.heap L ∧ FrameEnd U o U' L room_1.cells room_1.slots) := by
  refine MetFree.of_bodySF (plainFor_of_name pn0) hisR ?_
  intro p e s m args below meth c s₁ Bd hml0 hP hK
  obtain ⟨rfl, hZ, hh⟩ := hP
  have hx := Bd.exec
  have hby := Bd.bytes
  have hml : c.maxLocals = 4 := hml0
  have hown : s.vm.findClass "com/example/largo/largo/ObjectTypeIsRelationPinLaw" = some m.cls := findClass_of_methodNamed Bd.named
  have X0 : Stand p l e room_1 s m #[(.int p1)] below meth c s₁ [] 0 0 := Stand.of_body Bd
  have e0 : s₁.heap = h0 := by rw [← hh, Bd.state]; rfl
  have N0 := Fr.nil n0
  have pre0 : ∀ t, Steps p.tables e below (s₁.setTop (mkF m 0 #[.val (.int p1), .unset, .unset, .unset] [])) t → Steps p.tables e below (s₁.setTop (entryFrame m #[(.int p1)] maxLocals)) t := fun t kk_ => castTop (ef0 m p1) kk_
  obtain ⟨i, hi⟩ : ∃ z : Int32, z = (p1 &&& (2147483647 : Int32)) % (45 : Int32) := ⟨_, rfl⟩
  have ri := own_rng hi
  obtain ⟨q, hqi⟩ : ∃ z : Nat, z = i.toNatClampNeg := ⟨_, rfl⟩
  have hq := own_idx ri
  rw [← hqi] at hq
  obtain ⟨T1, h1, k1, X1, e1, E1, A1, O1, st1⟩ := newR X0 hx hZ hown (hw _ (List.mem_of_getElem? (i := 0) rfl)) (hw _ (List.mem_of_getElem? (i := 1) rfl)) e0 (g := (mkF m 2 #[.val (.int p1), .unset, .unset, .unset] [(.int (45 : Int32))])) rfl (hb hby at_2) rfl (by decide) (cap := 45) (by decide) (by decide) (by decide) (by decide)
  obtain ⟨b1, g1⟩ : ∃ z, z = h0.size := ⟨_, rfl⟩
  rw [← g1] at A1 st1
  have sz1 : h0.size ≤ b1 := Nat.le_of_eq g1.symm
  have gb1 : n0 ≤ b1 := Nat.le_trans Z0 sz1
  have pre2 : ∀ t, Steps p.tables e below (T1.setTop (mkF m 5 #[.val (.int p1), .unset, .unset, .unset] [(.ref b1)])) t → Steps p.tables e below (s₁.setTop (entryFrame m #[(.int p1)] maxLocals)) t := fun t kt => by
    refine pre0 t ?_
    show Steps p.tables e below (s₁.setTop (mkF m 0 #[.val (.int p1), .unset, .unset, .unset] [])) _
    refine XS.bipush X0.here hx rfl (hb hby at_0) ?_
    show Steps p.tables e below (s₁.setTop (mkF m 2 #[.val (.int p1), .unset, .unset, .unset] [(.int (45 : Int32))])) _
    refine st1 _ ?_
    exact kt
  have Y0 : own_At p l e room_1 s m #[(.int p1)] below meth c Z h0 n0 b1 k1 "com/example/largo/largo/ObjectType" (45 : Int32) w #[.val (.int p1), .unset, .unset, .unset] (0 + 1) (0 + 45) (s₁.setTop (entryFrame m #[(.int p1)] maxLocals)) 5 0 := ⟨T1, _, h1, X1, N0, e1, (Keep.refl h0 []).ext E1, Arv.new A1 (by decide), pre2⟩
  have Y1 : own_At p l e room_1 s m #[(.int p1)] below meth c Z h0 n0 b1 k1 "com/example/largo/largo/ObjectType" (45 : Int32) w #[.val (.int p1), .unset, .unset, .unset] (0 + 1) (0 + 45) (s₁.setTop (entryFrame m #[(.int p1)] maxLocals)) 11 1 := own_turn Y0 hx hZ hown O1 gb1 sz1 (hw _ (List.mem_of_getElem? (i := 2) rfl)) S_ACCESS_METHOD (hE 0 (by decide)) (j := (0 : Int32)) (by decide) ⟨by decide, by decide⟩ (hb hby at_5) (Or.inl ⟨hb hby at_6, by decide, rfl⟩) (hb hby at_7) (hb hby at_10) rfl
  have Y2 : own_At p l e room_1 s m #[(.int p1)] below meth c Z h0 n0 b1 k1 "com/example/largo/largo/ObjectType" (45 : Int32) w #[.val (.int p1), .unset, .unset, .unset] (0 + 1) (0 + 45) (s₁.setTop (entryFrame m #[(.int p1)] maxLocals)) 17 2 := own_turn Y1 hx hZ hown O1 gb1 sz1 (hw _ (List.mem_of_getElem? (i := 6) rfl)) S_AGGREGATE (hE 1 (by decide)) (j := (1 : Int32)) (by decide) ⟨by decide, by decide⟩ (hb hby at_11) (Or.inl ⟨hb hby at_12, by decide, rfl⟩) (hb hby at_13) (hb hby at_16) rfl
  have Y3 : own_At p l e room_1 s m #[(.int p1)] below meth c Z h0 n0 b1 k1 "com/example/largo/largo/ObjectType" (45 : Int32) w #[.val (.int p1), .unset, .unset, .unset] (0 + 1) (0 + 45) (s₁.setTop (entryFrame m #[(.int p1)] maxLocals)) 23 3 := own_turn Y2 hx hZ hown O1 gb1 sz1 (hw _ (List.mem_of_getElem? (i := 8) rfl)) S_CAST (hE 2 (by decide)) (j := (2 : Int32)) (by decide) ⟨by decide, by decide⟩ (hb hby at_17) (Or.inl ⟨hb hby at_18, by decide, rfl⟩) (hb hby at_19) (hb hby at_22) rfl
  have Y4 : own_At p l e room_1 s m #[(.int p1)] below meth c Z h0 n0 b1 k1 "com/example/largo/largo/ObjectType" (45 : Int32) w #[.val (.int p1), .unset, .unset, .unset] (0 + 1) (0 + 45) (s₁.setTop (entryFrame m #[(.int p1)] maxLocals)) 29 4 := own_turn Y3 hx hZ hown O1 gb1 sz1 (hw _ (List.mem_of_getElem? (i := 10) rfl)) S_COLLATION (hE 3 (by decide)) (j := (3 : Int32)) (by decide) ⟨by decide, by decide⟩ (hb hby at_23) (Or.inl ⟨hb hby at_24, by decide, rfl⟩) (hb hby at_25) (hb hby at_28) rfl
  have Y5 : own_At p l e room_1 s m #[(.int p1)] below meth c Z h0 n0 b1 k1 "com/example/largo/largo/ObjectType" (45 : Int32) w #[.val (.int p1), .unset, .unset, .unset] (0 + 1) (0 + 45) (s₁.setTop (entryFrame m #[(.int p1)] maxLocals)) 35 5 := own_turn Y4 hx hZ hown O1 gb1 sz1 (hw _ (List.mem_of_getElem? (i := 12) rfl)) S_CONVERSION (hE 4 (by decide)) (j := (4 : Int32)) (by decide) ⟨by decide, by decide⟩ (hb hby at_29) (Or.inl ⟨hb hby at_30, by decide, rfl⟩) (hb hby at_31) (hb hby at_34) rfl
  have Y6 : own_At p l e room_1 s m #[(.int p1)] below meth c Z h0 n0 b1 k1 "com/example/largo/largo/ObjectType" (45 : Int32) w #[.val (.int p1), .unset, .unset, .unset] (0 + 1) (0 + 45) (s₁.setTop (entryFrame m #[(.int p1)] maxLocals)) 41 6 := own_turn Y5 hx hZ hown O1 gb1 sz1 (hw _ (List.mem_of_getElem? (i := 14) rfl)) S_DATABASE (hE 5 (by decide)) (j := (5 : Int32)) (by decide) ⟨by decide, by decide⟩ (hb hby at_35) (Or.inl ⟨hb hby at_36, by decide, rfl⟩) (hb hby at_37) (hb hby at_40) rfl
  have Y7 : own_At p l e room_1 s m #[(.int p1)] below meth c Z h0 n0 b1 k1 "com/example/largo/largo/ObjectType" (45 : Int32) w #[.val (.int p1), .unset, .unset, .unset] (0 + 1) (0 + 45) (s₁.setTop (entryFrame m #[(.int p1)] maxLocals)) 48 7 := own_turn Y6 hx hZ hown O1 gb1 sz1 (hw _ (List.mem_of_getElem? (i := 16) rfl)) S_DEFAULT_PRIVILEGES (hE 6 (by decide)) (j := (6 : Int32)) (by decide) ⟨by decide, by decide⟩ (hb hby at_41) (Or.inr ⟨hb hby at_42, by decide, rfl⟩) (hb hby at_44) (hb hby at_47) rfl
  have Y8 : own_At p l e room_1 s m #[(.int p1)] below meth c Z h0 n0 b1 k1 "com/example/largo/largo/ObjectType" (45 : Int32) w #[.val (.int p1), .unset, .unset, .unset] (0 + 1) (0 + 45) (s₁.setTop (entryFrame m #[(.int p1)] maxLocals)) 55 8 := own_turn Y7 hx hZ hown O1 gb1 sz1 (hw _ (List.mem_of_getElem? (i := 18) rfl)) S_DOMAIN (hE 7 (by decide)) (j := (7 : Int32)) (by decide) ⟨by decide, by decide⟩ (hb hby at_48) (Or.inr ⟨hb hby at_49, by decide, rfl⟩) (hb hby at_51) (hb hby at_54) rfl
  have Y9 : own_At p l e room_1 s m #[(.int p1)] below meth c Z h0 n0 b1 k1 "com/example/largo/largo/ObjectType" (45 : Int32) w #[.val (.int p1), .unset, .unset, .unset] (0 + 1) (0 + 45) (s₁.setTop (entryFrame m #[(.int p1)] maxLocals)) 62 9 := own_turn Y8 hx hZ hown O1 gb1 sz1 (hw _ (List.mem_of_getElem? (i := 20) rfl)) S_EVENT_TRIGGER (hE 8 (by decide)) (j := (8 : Int32)) (by decide) ⟨by decide, by decide⟩ (hb hby at_55) (Or.inr ⟨hb hby at_56, by decide, rfl⟩) (hb hby at_58) (hb hby at_61) rfl
  have Y10 : own_At p l e room_1 s m #[(.int p1)] below meth c Z h0 n0 b1 k1 "com/example/largo/largo/ObjectType" (45 : Int32) w #[.val (.int p1), .unset, .unset, .unset] (0 + 1) (0 + 45) (s₁.setTop (entryFrame m #[(.int p1)] maxLocals)) 69 10 := own_turn Y9 hx hZ hown O1 gb1 sz1 (hw _ (List.mem_of_getElem? (i := 22) rfl)) S_EXTENSION (hE 9 (by decide)) (j := (9 : Int32)) (by decide) ⟨by decide, by decide⟩ (hb hby at_62) (Or.inr ⟨hb hby at_63, by decide, rfl⟩) (hb hby at_65) (hb hby at_68) rfl
  have Y11 : own_At p l e room_1 s m #[(.int p1)] below meth c Z h0 n0 b1 k1 "com/example/largo/largo/ObjectType" (45 : Int32) w #[.val (.int p1), .unset, .unset, .unset] (0 + 1) (0 + 45) (s₁.setTop (entryFrame m #[(.int p1)] maxLocals)) 76 11 := own_turn Y10 hx hZ hown O1 gb1 sz1 (hw _ (List.mem_of_getElem? (i := 24) rfl)) S_FOREIGN_DATA_WRAPPER (hE 10 (by decide)) (j := (10 : Int32)) (by decide) ⟨by decide, by decide⟩ (hb hby at_69) (Or.inr ⟨hb hby at_70, by decide, rfl⟩) (hb hby at_72) (hb hby at_75) rfl
  have Y12 : own_At p l e room_1 s m #[(.int p1)] below meth c Z h0 n0 b1 k1 "com/example/largo/largo/ObjectType" (45 : Int32) w #[.val (.int p1), .unset, .unset, .unset] (0 + 1) (0 + 45) (s₁.setTop (entryFrame m #[(.int p1)] maxLocals)) 83 12 := own_turn Y11 hx hZ hown O1 gb1 sz1 (hw _ (List.mem_of_getElem? (i := 26) rfl)) S_FOREIGN_TABLE (hE 11 (by decide)) (j := (11 : Int32)) (by decide) ⟨by decide, by decide⟩ (hb hby at_76) (Or.inr ⟨hb hby at_77, by decide, rfl⟩) (hb hby at_79) (hb hby at_82) rfl
  have Y13 : own_At p l e room_1 s m #[(.int p1)] below meth c Z h0 n0 b1 k1 "com/example/largo/largo/ObjectType" (45 : Int32) w #[.val (.int p1), .unset, .unset, .unset] (0 + 1) (0 + 45) (s₁.setTop (entryFrame m #[(.int p1)] maxLocals)) 90 13 := own_turn Y12 hx hZ hown O1 gb1 sz1 (hw _ (List.mem_of_getElem? (i := 28) rfl)) S_FUNCTION (hE 12 (by decide)) (j := (12 : Int32)) (by decide) ⟨by decide, by decide⟩ (hb hby at_83) (Or.inr ⟨hb hby at_84, by decide, rfl⟩) (hb hby at_86) (hb hby at_89) rfl
  have Y14 : own_At p l e room_1 s m #[(.int p1)] below meth c Z h0 n0 b1 k1 "com/example/largo/largo/ObjectType" (45 : Int32) w #[.val (.int p1), .unset, .unset, .unset] (0 + 1) (0 + 45) (s₁.setTop (entryFrame m #[(.int p1)] maxLocals)) 97 14 := own_turn Y13 hx hZ hown O1 gb1 sz1 (hw _ (List.mem_of_getElem? (i := 30) rfl)) S_GROUP (hE 13 (by decide)) (j := (13 : Int32)) (by decide) ⟨by decide, by decide⟩ (hb hby at_90) (Or.inr ⟨hb hby at_91, by decide, rfl⟩) (hb hby at_93) (hb hby at_96) rfl
  have Y15 : own_At p l e room_1 s m #[(.int p1)] below meth c Z h0 n0 b1 k1 "com/example/largo/largo/ObjectType" (45 : Int32) w #[.val (.int p1), .unset, .unset, .unset] (0 + 1) (0 + 45) (s₁.setTop (entryFrame m #[(.int p1)] maxLocals)) 104 15 := own_turn Y14 hx hZ hown O1 gb1 sz1 (hw _ (List.mem_of_getElem? (i := 32) rfl)) S_INDEX (hE 14 (by decide)) (j := (14 : Int32)) (by decide) ⟨by decide, by decide⟩ (hb hby at_97) (Or.inr ⟨hb hby at_98, by decide, rfl⟩) (hb hby at_100) (hb hby at_103) rfl
  have Y16 : own_At p l e room_1 s m #[(.int p1)] below meth c Z h0 n0 b1 k1 "com/example/largo/largo/ObjectType" (45 : Int32) w #[.val (.int p1), .unset, .unset, .unset] (0 + 1) (0 + 45) (s₁.setTop (entryFrame m #[(.int p1)] maxLocals)) 111 16 := own_turn Y15 hx hZ hown O1 gb1 sz1 (hw _ (List.mem_of_getElem? (i := 34) rfl)) S_LANGUAGE (hE 15 (by decide)) (j := (15 : Int32)) (by decide) ⟨by decide, by decide⟩ (hb hby at_104) (Or.inr ⟨hb hby at_105, by decide, rfl⟩) (hb hby at_107) (hb hby at_110) rfl
  have Y17 : own_At p l e room_1 s m #[(.int p1)] below meth c Z h0 n0 b1 k1 "com/example/largo/largo/ObjectType" (45 : Int32) w #[.val (.int p1), .unset, .unset, .unset] (0 + 1) (0 + 45) (s₁.setTop (entryFrame m #[(.int p1)] maxLocals)) 118 17 := own_turn Y16 hx hZ hown O1 gb1 sz1 (hw _ (List.mem_of_getElem? (i := 36) rfl)) S_LARGE_OBJECT (hE 16 (by decide)) (j := (16 : Int32)) (by decide) ⟨by decide, by decide⟩ (hb hby at_111) (Or.inr ⟨hb hby at_112, by decide, rfl⟩) (hb hby at_114) (hb hby at_117) rfl
  have Y18 : own_At p l e room_1 s m #[(.int p1)] below meth c Z h0 n0 b1 k1 "com/example/largo/largo/ObjectType" (45 : Int32) w #[.val (.int p1), .unset, .unset, .unset] (0 + 1) (0 + 45) (s₁.setTop (entryFrame m #[(.int p1)] maxLocals)) 125 18 := own_turn Y17 hx hZ hown O1 gb1 sz1 (hw _ (List.mem_of_getElem? (i := 38) rfl)) S_MATERIALIZED_VIEW (hE 17 (by decide)) (j := (17 : Int32)) (by decide) ⟨by decide, by decide⟩ (hb hby at_118) (Or.inr ⟨hb hby at_119, by decide, rfl⟩) (hb hby at_121) (hb hby at_124) rfl
  have Y19 : own_At p l e room_1 s m #[(.int p1)] below meth c Z h0 n0 b1 k1 "com/example/largo/largo/ObjectType" (45 : Int32) w #[.val (.int p1), .unset, .unset, .unset] (0 + 1) (0 + 45) (s₁.setTop (entryFrame m #[(.int p1)] maxLocals)) 132 19 := own_turn Y18 hx hZ hown O1 gb1 sz1 (hw _ (List.mem_of_getElem? (i := 40) rfl)) S_OPERATOR (hE 18 (by decide)) (j := (18 : Int32)) (by decide) ⟨by decide, by decide⟩ (hb hby at_125) (Or.inr ⟨hb hby at_126, by decide, rfl⟩) (hb hby at_128) (hb hby at_131) rfl
  have Y20 : own_At p l e room_1 s m #[(.int p1)] below meth c Z h0 n0 b1 k1 "com/example/largo/largo/ObjectType" (45 : Int32) w #[.val (.int p1), .unset, .unset, .unset] (0 + 1) (0 + 45) (s₁.setTop (entryFrame m #[(.int p1)] maxLocals)) 139 20 := own_turn Y19 hx hZ hown O1 gb1 sz1 (hw _ (List.mem_of_getElem? (i := 42) rfl)) S_OPERATOR_CLASS (hE 19 (by decide)) (j := (19 : Int32)) (by decide) ⟨by decide, by decide⟩ (hb hby at_132) (Or.inr ⟨hb hby at_133, by decide, rfl⟩) (hb hby at_135) (hb hby at_138) rfl
  have Y21 : own_At p l e room_1 s m #[(.int p1)] below meth c Z h0 n0 b1 k1 "com/example/largo/largo/ObjectType" (45 : Int32) w #[.val (.int p1), .unset, .unset, .unset] (0 + 1) (0 + 45) (s₁.setTop (entryFrame m #[(.int p1)] maxLocals)) 146 21 := own_turn Y20 hx hZ hown O1 gb1 sz1 (hw _ (List.mem_of_getElem? (i := 44) rfl)) S_OPERATOR_FAMILY (hE 20 (by decide)) (j := (20 : Int32)) (by decide) ⟨by decide, by decide⟩ (hb hby at_139) (Or.inr ⟨hb hby at_140, by decide, rfl⟩) (hb hby at_142) (hb hby at_145) rfl
  have Y22 : own_At p l e room_1 s m #[(.int p1)] below meth c Z h0 n0 b1 k1 "com/example/largo/largo/ObjectType" (45 : Int32) w #[.val (.int p1), .unset, .unset, .unset] (0 + 1) (0 + 45) (s₁.setTop (entryFrame m #[(.int p1)] maxLocals)) 153 22 := own_turn Y21 hx hZ hown O1 gb1 sz1 (hw _ (List.mem_of_getElem? (i := 46) rfl)) S_POLICY (hE 21 (by decide)) (j := (21 : Int32)) (by decide) ⟨by decide, by decide⟩ (hb hby at_146) (Or.inr ⟨hb hby at_147, by decide, rfl⟩) (hb hby at_149) (hb hby at_152) rfl
  have Y23 : own_At p l e room_1 s m #[(.int p1)] below meth c Z h0 n0 b1 k1 "com/example/largo/largo/ObjectType" (45 : Int32) w #[.val (.int p1), .unset, .unset, .unset] (0 + 1) (0 + 45) (s₁.setTop (entryFrame m #[(.int p1)] maxLocals)) 160 23 := own_turn Y22 hx hZ hown O1 gb1 sz1 (hw _ (List.mem_of_getElem? (i := 48) rfl)) S_PROCEDURE (hE 22 (by decide)) (j := (22 : Int32)) (by decide) ⟨by decide, by decide⟩ (hb hby at_153) (Or.inr ⟨hb hby at_154, by decide, rfl⟩) (hb hby at_156) (hb hby at_159) rfl
  have Y24 : own_At p l e room_1 s m #[(.int p1)] below meth c Z h0 n0 b1 k1 "com/example/largo/largo/ObjectType" (45 : Int32) w #[.val (.int p1), .unset, .unset, .unset] (0 + 1) (0 + 45) (s₁.setTop (entryFrame m #[(.int p1)] maxLocals)) 167 24 := own_turn Y23 hx hZ hown O1 gb1 sz1 (hw _ (List.mem_of_getElem? (i := 50) rfl)) S_PUBLICATION (hE 23 (by decide)) (j := (23 : Int32)) (by decide) ⟨by decide, by decide⟩ (hb hby at_160) (Or.inr ⟨hb hby at_161, by decide, rfl⟩) (hb hby at_163) (hb hby at_166) rfl
  have Y25 : own_At p l e room_1 s m #[(.int p1)] below meth c Z h0 n0 b1 k1 "com/example/largo/largo/ObjectType" (45 : Int32) w #[.val (.int p1), .unset, .unset, .unset] (0 + 1) (0 + 45) (s₁.setTop (entryFrame m #[(.int p1)] maxLocals)) 174 25 := own_turn Y24 hx hZ hown O1 gb1 sz1 (hw _ (List.mem_of_getElem? (i := 52) rfl)) S_ROLE (hE 24 (by decide)) (j := (24 : Int32)) (by decide) ⟨by decide, by decide⟩ (hb hby at_167) (Or.inr ⟨hb hby at_168, by decide, rfl⟩) (hb hby at_170) (hb hby at_173) rfl
  have Y26 : own_At p l e room_1 s m #[(.int p1)] below meth c Z h0 n0 b1 k1 "com/example/largo/largo/ObjectType" (45 : Int32) w #[.val (.int p1), .unset, .unset, .unset] (0 + 1) (0 + 45) (s₁.setTop (entryFrame m #[(.int p1)] maxLocals)) 181 26 := own_turn Y25 hx hZ hown O1 gb1 sz1 (hw _ (List.mem_of_getElem? (i := 54) rfl)) S_ROUTINE (hE 25 (by decide)) (j := (25 : Int32)) (by decide) ⟨by decide, by decide⟩ (hb hby at_174) (Or.inr ⟨hb hby at_175, by decide, rfl⟩) (hb hby at_177) (hb hby at_180) rfl
  have Y27 : own_At p l e room_1 s m #[(.int p1)] below meth c Z h0 n0 b1 k1 "com/example/largo/largo/ObjectType" (45 : Int32) w #[.val (.int p1), .unset, .unset, .unset] (0 + 1) (0 + 45) (s₁.setTop (entryFrame m #[(.int p1)] maxLocals)) 188 27 := own_turn Y26 hx hZ hown O1 gb1 sz1 (hw _ (List.mem_of_getElem? (i := 56) rfl)) S_RULE (hE 26 (by decide)) (j := (26 : Int32)) (by decide) ⟨by decide, by decide⟩ (hb hby at_181) (Or.inr ⟨hb hby at_182, by decide, rfl⟩) (hb hby at_184) (hb hby at_187) rfl
  have Y28 : own_At p l e room_1 s m #[(.int p1)] below meth c Z h0 n0 b1 k1 "com/example/largo/largo/ObjectType" (45 : Int32) w #[.val (.int p1), .unset, .unset, .unset] (0 + 1) (0 + 45) (s₁.setTop (entryFrame m #[(.int p1)] maxLocals)) 195 28 := own_turn Y27 hx hZ hown O1 gb1 sz1 (hw _ (List.mem_of_getElem? (i := 58) rfl)) S_SCHEMA (hE 27 (by decide)) (j := (27 : Int32)) (by decide) ⟨by decide, by decide⟩ (hb hby at_188) (Or.inr ⟨hb hby at_189, by decide, rfl⟩) (hb hby at_191) (hb hby at_194) rfl
  have Y29 : own_At p l e room_1 s m #[(.int p1)] below meth c Z h0 n0 b1 k1 "com/example/largo/largo/ObjectType" (45 : Int32) w #[.val (.int p1), .unset, .unset, .unset] (0 + 1) (0 + 45) (s₁.setTop (entryFrame m #[(.int p1)] maxLocals)) 202 29 := own_turn Y28 hx hZ hown O1 gb1 sz1 (hw _ (List.mem_of_getElem? (i := 60) rfl)) S_SEQUENCE (hE 28 (by decide)) (j := (28 : Int32)) (by decide) ⟨by decide, by decide⟩ (hb hby at_195) (Or.inr ⟨hb hby at_196, by decide, rfl⟩) (hb hby at_198) (hb hby at_201) rfl
  have Y30 : own_At p l e room_1 s m #[(.int p1)] below meth c Z h0 n0 b1 k1 "com/example/largo/largo/ObjectType" (45 : Int32) w #[.val (.int p1), .unset, .unset, .unset] (0 + 1) (0 + 45) (s₁.setTop (entryFrame m #[(.int p1)] maxLocals)) 209 30 := own_turn Y29 hx hZ hown O1 gb1 sz1 (hw _ (List.mem_of_getElem? (i := 62) rfl)) S_SERVER (hE 29 (by decide)) (j := (29 : Int32)) (by decide) ⟨by decide, by decide⟩ (hb hby at_202) (Or.inr ⟨hb hby at_203, by decide, rfl⟩) (hb hby at_205) (hb hby at_208) rfl
  have Y31 : own_At p l e room_1 s m #[(.int p1)] below meth c Z h0 n0 b1 k1 "com/example/largo/largo/ObjectType" (45 : Int32) w #[.val (.int p1), .unset, .unset, .unset] (0 + 1) (0 + 45) (s₁.setTop (entryFrame m #[(.int p1)] maxLocals)) 216 31 := own_turn Y30 hx hZ hown O1 gb1 sz1 (hw _ (List.mem_of_getElem? (i := 64) rfl)) S_STATISTICS (hE 30 (by decide)) (j := (30 : Int32)) (by decide) ⟨by decide, by decide⟩ (hb hby at_209) (Or.inr ⟨hb hby at_210, by decide, rfl⟩) (hb hby at_212) (hb hby at_215) rfl
  have Y32 : own_At p l e room_1 s m #[(.int p1)] below meth c Z h0 n0 b1 k1 "com/example/largo/largo/ObjectType" (45 : Int32) w #[.val (.int p1), .unset, .unset, .unset] (0 + 1) (0 + 45) (s₁.setTop (entryFrame m #[(.int p1)] maxLocals)) 223 32 := own_turn Y31 hx hZ hown O1 gb1 sz1 (hw _ (List.mem_of_getElem? (i := 66) rfl)) S_SUBSCRIPTION (hE 31 (by decide)) (j := (31 : Int32)) (by decide) ⟨by decide, by decide⟩ (hb hby at_216) (Or.inr ⟨hb hby at_217, by decide, rfl⟩) (hb hby at_219) (hb hby at_222) rfl
  have Y33 : own_At p l e room_1 s m #[(.int p1)] below meth c Z h0 n0 b1 k1 "com/example/largo/largo/ObjectType" (45 : Int32) w #[.val (.int p1), .unset, .unset, .unset] (0 + 1) (0 + 45) (s₁.setTop (entryFrame m #[(.int p1)] maxLocals)) 230 33 := own_turn Y32 hx hZ hown O1 gb1 sz1 (hw _ (List.mem_of_getElem? (i := 68) rfl)) S_SYSTEM (hE 32 (by decide)) (j := (32 : Int32)) (by decide) ⟨by decide, by decide⟩ (hb hby at_223) (Or.inr ⟨hb hby at_224, by decide, rfl⟩) (hb hby at_226) (hb hby at_229) rfl
  have Y34 : own_At p l e room_1 s m #[(.int p1)] below meth c Z h0 n0 b1 k1 "com/example/largo/largo/ObjectType" (45 : Int32) w #[.val (.int p1), .unset, .unset, .unset] (0 + 1) (0 + 45) (s₁.setTop (entryFrame m #[(.int p1)] maxLocals)) 237 34 := own_turn Y33 hx hZ hown O1 gb1 sz1 (hw _ (List.mem_of_getElem? (i := 70) rfl)) S_TABLE (hE 33 (by decide)) (j := (33 : Int32)) (by decide) ⟨by decide, by decide⟩ (hb hby at_230) (Or.inr ⟨hb hby at_231, by decide, rfl⟩) (hb hby at_233) (hb hby at_236) rfl
  have Y35 : own_At p l e room_1 s m #[(.int p1)] below meth c Z h0 n0 b1 k1 "com/example/largo/largo/ObjectType" (45 : Int32) w #[.val (.int p1), .unset, .unset, .unset] (0 + 1) (0 + 45) (s₁.setTop (entryFrame m #[(.int p1)] maxLocals)) 244 35 := own_turn Y34 hx hZ hown O1 gb1 sz1 (hw _ (List.mem_of_getElem? (i := 72) rfl)) S_TABLESPACE (hE 34 (by decide)) (j := (34 : Int32)) (by decide) ⟨by decide, by decide⟩ (hb hby at_237) (Or.inr ⟨hb hby at_238, by decide, rfl⟩) (hb hby at_240) (hb hby at_243) rfl
  have Y36 : own_At p l e room_1 s m #[(.int p1)] below meth c Z h0 n0 b1 k1 "com/example/largo/largo/ObjectType" (45 : Int32) w #[.val (.int p1), .unset, .unset, .unset] (0 + 1) (0 + 45) (s₁.setTop (entryFrame m #[(.int p1)] maxLocals)) 251 36 := own_turn Y35 hx hZ hown O1 gb1 sz1 (hw _ (List.mem_of_getElem? (i := 74) rfl)) S_TEXT_SEARCH_CONFIGURATION (hE 35 (by decide)) (j := (35 : Int32)) (by decide) ⟨by decide, by decide⟩ (hb hby at_244) (Or.inr ⟨hb hby at_245, by decide, rfl⟩) (hb hby at_247) (hb hby at_250) rfl
  have Y37 : own_At p l e room_1 s m #[(.int p1)] below meth c Z h0 n0 b1 k1 "com/example/largo/largo/ObjectType" (45 : Int32) w #[.val (.int p1), .unset, .unset, .unset] (0 + 1) (0 + 45) (s₁.setTop (entryFrame m #[(.int p1)] maxLocals)) 258 37 := own_turn Y36 hx hZ hown O1 gb1 sz1 (hw _ (List.mem_of_getElem? (i := 76) rfl)) S_TEXT_SEARCH_DICTIONARY (hE 36 (by decide)) (j := (36 : Int32)) (by decide) ⟨by decide, by decide⟩ (hb hby at_251) (Or.inr ⟨hb hby at_252, by decide, rfl⟩) (hb hby at_254) (hb hby at_257) rfl
  have Y38 : own_At p l e room_1 s m #[(.int p1)] below meth c Z h0 n0 b1 k1 "com/example/largo/largo/ObjectType" (45 : Int32) w #[.val (.int p1), .unset, .unset, .unset] (0 + 1) (0 + 45) (s₁.setTop (entryFrame m #[(.int p1)] maxLocals)) 265 38 := own_turn Y37 hx hZ hown O1 gb1 sz1 (hw _ (List.mem_of_getElem? (i := 78) rfl)) S_TEXT_SEARCH_PARSER (hE 37 (by decide)) (j := (37 : Int32)) (by decide) ⟨by decide, by decide⟩ (hb hby at_258) (Or.inr ⟨hb hby at_259, by decide, rfl⟩) (hb hby at_261) (hb hby at_264) rfl
  have Y39 : own_At p l e room_1 s m #[(.int p1)] below meth c Z h0 n0 b1 k1 "com/example/largo/largo/ObjectType" (45 : Int32) w #[.val (.int p1), .unset, .unset, .unset] (0 + 1) (0 + 45) (s₁.setTop (entryFrame m #[(.int p1)] maxLocals)) 272 39 := own_turn Y38 hx hZ hown O1 gb1 sz1 (hw _ (List.mem_of_getElem? (i := 80) rfl)) S_TEXT_SEARCH_TEMPLATE (hE 38 (by decide)) (j := (38 : Int32)) (by decide) ⟨by decide, by decide⟩ (hb hby at_265) (Or.inr ⟨hb hby at_266, by decide, rfl⟩) (hb hby at_268) (hb hby at_271) rfl
  have Y40 : own_At p l e room_1 s m #[(.int p1)] below meth c Z h0 n0 b1 k1 "com/example/largo/largo/ObjectType" (45 : Int32) w #[.val (.int p1), .unset, .unset, .unset] (0 + 1) (0 + 45) (s₁.setTop (entryFrame m #[(.int p1)] maxLocals)) 279 40 := own_turn Y39 hx hZ hown O1 gb1 sz1 (hw _ (List.mem_of_getElem? (i := 82) rfl)) S_TRANSFORM (hE 39 (by decide)) (j := (39 : Int32)) (by decide) ⟨by decide, by decide⟩ (hb hby at_272) (Or.inr ⟨hb hby at_273, by decide, rfl⟩) (hb hby at_275) (hb hby at_278) rfl
  have Y41 : own_At p l e room_1 s m #[(.int p1)] below meth c Z h0 n0 b1 k1 "com/example/largo/largo/ObjectType" (45 : Int32) w #[.val (.int p1), .unset, .unset, .unset] (0 + 1) (0 + 45) (s₁.setTop (entryFrame m #[(.int p1)] maxLocals)) 286 41 := own_turn Y40 hx hZ hown O1 gb1 sz1 (hw _ (List.mem_of_getElem? (i := 84) rfl)) S_TRIGGER (hE 40 (by decide)) (j := (40 : Int32)) (by decide) ⟨by decide, by decide⟩ (hb hby at_279) (Or.inr ⟨hb hby at_280, by decide, rfl⟩) (hb hby at_282) (hb hby at_285) rfl
  have Y42 : own_At p l e room_1 s m #[(.int p1)] below meth c Z h0 n0 b1 k1 "com/example/largo/largo/ObjectType" (45 : Int32) w #[.val (.int p1), .unset, .unset, .unset] (0 + 1) (0 + 45) (s₁.setTop (entryFrame m #[(.int p1)] maxLocals)) 293 42 := own_turn Y41 hx hZ hown O1 gb1 sz1 (hw _ (List.mem_of_getElem? (i := 86) rfl)) S_TYPE (hE 41 (by decide)) (j := (41 : Int32)) (by decide) ⟨by decide, by decide⟩ (hb hby at_286) (Or.inr ⟨hb hby at_287, by decide, rfl⟩) (hb hby at_289) (hb hby at_292) rfl
  have Y43 : own_At p l e room_1 s m #[(.int p1)] below meth c Z h0 n0 b1 k1 "com/example/largo/largo/ObjectType" (45 : Int32) w #[.val (.int p1), .unset, .unset, .unset] (0 + 1) (0 + 45) (s₁.setTop (entryFrame m #[(.int p1)] maxLocals)) 300 43 := own_turn Y42 hx hZ hown O1 gb1 sz1 (hw _ (List.mem_of_getElem? (i := 88) rfl)) S_USER (hE 42 (by decide)) (j := (42 : Int32)) (by decide) ⟨by decide, by decide⟩ (hb hby at_293) (Or.inr ⟨hb hby at_294, by decide, rfl⟩) (hb hby at_296) (hb hby at_299) rfl
  have Y44 : own_At p l e room_1 s m #[(.int p1)] below meth c Z h0 n0 b1 k1 "com/example/largo/largo/ObjectType" (45 : Int32) w #[.val (.int p1), .unset, .unset, .unset] (0 + 1) (0 + 45) (s₁.setTop (entryFrame m #[(.int p1)] maxLocals)) 307 44 := own_turn Y43 hx hZ hown O1 gb1 sz1 (hw _ (List.mem_of_getElem? (i := 90) rfl)) S_USER_MAPPING (hE 43 (by decide)) (j := (43 : Int32)) (by decide) ⟨by decide, by decide⟩ (hb hby at_300) (Or.inr ⟨hb hby at_301, by decide, rfl⟩) (hb hby at_303) (hb hby at_306) rfl
  have Y45 : own_At p l e room_1 s m #[(.int p1)] below meth c Z h0 n0 b1 k1 "com/example/largo/largo/ObjectType" (45 : Int32) w #[.val (.int p1), .unset, .unset, .unset] (0 + 1) (0 + 45) (s₁.setTop (entryFrame m #[(.int p1)] maxLocals)) 314 45 := own_turn Y44 hx hZ hown O1 gb1 sz1 (hw _ (List.mem_of_getElem? (i := 92) rfl)) S_VIEW (hE 44 (by decide)) (j := (44 : Int32)) (by decide) ⟨by decide, by decide⟩ (hb hby at_307) (Or.inr ⟨hb hby at_308, by decide, rfl⟩) (hb hby at_310) (hb hby at_313) rfl
  obtain ⟨T3, Lx3, h3, X3, N3, e3, K3, V3, st3⟩ := Y45
  have pre4 : ∀ t, Steps p.tables e below (T3.setTop (mkF m 326 #[.val (.int p1), .val (.ref b1), .val (.int i), .unset] [(.int (11 : Int32)), (.int i)])) t → Steps p.tables e below (s₁.setTop (entryFrame m #[(.int p1)] maxLocals)) t := fun t kt => by
    refine st3 t ?_
    show Steps p.tables e below (T3.setTop (mkF m 314 #[.val (.int p1), .unset, .unset, .unset] [(.ref b1)])) _
    refine XS.astoreN X3.here hx rfl (hb hby at_314) rfl rfl (l' := #[.val (.int p1), .val (.ref b1), .unset, .unset]) rfl ?_
    show Steps p.tables e below (T3.setTop (mkF m 315 #[.val (.int p1), .val (.ref b1), .unset, .unset] [])) _
    refine XS.iloadN X3.here hx rfl (hb hby at_315) rfl ?_
    show Steps p.tables e below (T3.setTop (mkF m 316 #[.val (.int p1), .val (.ref b1), .unset, .unset] [(.int p1)])) _
    refine X3.ldcI hx hown (mvT hZ (hw _ (List.mem_of_getElem? (i := 94) rfl))) (g := (mkF m 316 #[.val (.int p1), .val (.ref b1), .unset, .unset] [(.int p1)])) rfl (hb hby at_316) ?_
    show Steps p.tables e below (T3.setTop (mkF m 318 #[.val (.int p1), .val (.ref b1), .unset, .unset] [(.int (2147483647 : Int32)), (.int p1)])) _
    refine XS.iand X3.here hx rfl (hb hby at_318) rfl ?_
    show Steps p.tables e below (T3.setTop (mkF m 319 #[.val (.int p1), .val (.ref b1), .unset, .unset] [(.int (p1 &&& (2147483647 : Int32)))])) _
    refine XS.bipush X3.here hx rfl (hb hby at_319) ?_
    show Steps p.tables e below (T3.setTop (mkF m 321 #[.val (.int p1), .val (.ref b1), .unset, .unset] [(.int (45 : Int32)), (.int (p1 &&& (2147483647 : Int32)))])) _
    refine iremM (g := (mkF m 321 #[.val (.int p1), .val (.ref b1), .unset, .unset] [(.int (45 : Int32)), (.int (p1 &&& (2147483647 : Int32)))])) X3 hx rfl (hb hby at_321) rfl (by decide) ?_
    show Steps p.tables e below (T3.setTop (mkF m 322 #[.val (.int p1), .val (.ref b1), .unset, .unset] [(.int ((p1 &&& (2147483647 : Int32)) % (45 : Int32)))])) _
    rw [← hi]
    show Steps p.tables e below (T3.setTop (mkF m 322 #[.val (.int p1), .val (.ref b1), .unset, .unset] [(.int i)])) _
    refine XS.istoreN X3.here hx rfl (hb hby at_322) rfl (l' := #[.val (.int p1), .val (.ref b1), .val (.int i), .unset]) rfl ?_
    show Steps p.tables e below (T3.setTop (mkF m 323 #[.val (.int p1), .val (.ref b1), .val (.int i), .unset] [])) _
    refine XS.iloadN X3.here hx rfl (hb hby at_323) rfl ?_
    show Steps p.tables e below (T3.setTop (mkF m 324 #[.val (.int p1), .val (.ref b1), .val (.int i), .unset] [(.int i)])) _
    refine XS.bipush X3.here hx rfl (hb hby at_324) ?_
    exact kt
  by_cases hc326_5 : i = (11 : Int32)
  · obtain ⟨cl6, Ar6, qa6, Sa6, Ma6, Ha6, Ga6⟩ := V3
    have hin6 := inb_of (j := i) Sa6 ri
    have hat6 : cl6.slots[(i).toNatClampNeg]? = some (.ref (w q)) := Has.at Ha6 hin6 (by rw [← hqi]; exact own_ws_at w hq.2)
    obtain ⟨cq7, kq7, q7a, q7b, q7c⟩ := isOf hZ e3 (Exa.keep (hE q hq.2) K3)
    obtain ⟨_, _, ⟨T7, L7, k7, n7⟩, -, X7, ⟨Lc7, hQ7, l7, y7, z7⟩, st7⟩ := X3.virtualBack hx (y := (⟨"com/example/largo/largo/ObjectType", "isRelation", "()Z"⟩ : MethodName)) (z := (⟨"com/example/largo/largo/ObjectType", "isRelation", "()Z"⟩ : MethodName)) hown (mvT hZ (hw _ (List.mem_of_getElem? (i := 95) rfl))) (mvT hZ (hw _ (List.mem_of_getElem? (i := 96) rfl))) (notFace_of_selects (args := #[]) (mvT hZ (hw _ (List.mem_of_getElem? (i := 98) rfl)))) (mvT hZ (hw _ (List.mem_of_getElem? (i := 98) rfl))) (mvT hZ (hw _ (List.mem_of_getElem? (i := 97) rfl))) (by decide) (backOf (W := 0) (rmK l Z a0 hw [] (w q) (w 33) (w 44) (w 17) (w 28) (w 11) (w 14) h3 n0 (Nat.le_trans Z0 K3.1) (own_sta S_TABLE K3) (own_sta S_VIEW K3) (own_sta S_MATERIALIZED_VIEW K3) (own_sta S_SEQUENCE K3) (own_sta S_FOREIGN_TABLE K3) (own_sta S_INDEX K3)) hZ (hw _ (List.mem_of_getElem? (i := 99) rfl)) (hw _ (List.mem_of_getElem? (i := 3) rfl)) (by decide) (by decide)) q7a q7c (g := (mkF m 368 #[.val (.int p1), .val (.ref b1), .val (.int i), .val (.int (1 : Int32))] [(.ref (w q))])) rfl (by rw [hml]; rfl) (Steps.refl _) (argsL := []) (rest := []) (lenOf pd0_0 rfl) rfl (by show 2 * 0 + _ ≤ _; exact Nat.le_of_eq rfl) (hb hby at_368) (fun _ _ => ⟨rfl, e3, (by decide : 1 + 0 ≤ _), (by decide : 45 + 0 ≤ _)⟩)
    dsimp only [Pt.U, Pt.locs, Pt.cells, Pt.slots] at X7 l7 y7 z7 st7 hQ7
    subst l7 y7 z7
    obtain ⟨rfl, N7q, eh7⟩ := hQ7
    have N7 := Fr.app N3 N7q
    obtain ⟨fs, hr, hrun, hended, hW, hsame⟩ := X7.leave (v := some (.int (1 : Int32))) (fun h => by rw [Bd.returns] at h; cases h)
    refine ⟨_, _, pre4 _ ?_, hrun, hended, _, _, rfl, ?_, ⟨_, rfl⟩, hW, hsame.mono (by decide) (by decide)⟩
    · show Steps p.tables e below (T3.setTop (mkF m 326 #[.val (.int p1), .val (.ref b1), .val (.int i), .unset] [(.int (11 : Int32)), (.int i)])) _
      refine XS.icmpYes X3.here hx rfl (pc0 := 326) (pc' := 359) rfl (hb hby at_326) rfl (teq hc326_5).1 (by decide) (by decide) ?_
      show Steps p.tables e below (T3.setTop (mkF m 359 #[.val (.int p1), .val (.ref b1), .val (.int i), .unset] [])) _
      refine XS.iconst X3.here hx rfl (hb hby at_359) ?_
      show Steps p.tables e below (T3.setTop (mkF m 360 #[.val (.int p1), .val (.ref b1), .val (.int i), .unset] [(.int (1 : Int32))])) _
      refine XS.goto X3.here hx rfl (pc0 := 360) (pc' := 364) rfl (hb hby at_360) (by decide) (by decide) ?_
      show Steps p.tables e below (T3.setTop (mkF m 364 #[.val (.int p1), .val (.ref b1), .val (.int i), .unset] [(.int (1 : Int32))])) _
      refine XS.istoreN X3.here hx rfl (hb hby at_364) rfl (l' := #[.val (.int p1), .val (.ref b1), .val (.int i), .val (.int (1 : Int32))]) rfl ?_
      show Steps p.tables e below (T3.setTop (mkF m 365 #[.val (.int p1), .val (.ref b1), .val (.int i), .val (.int (1 : Int32))] [])) _
      refine XS.aloadN X3.here hx rfl (hb hby at_365) rfl rfl ?_
      show Steps p.tables e below (T3.setTop (mkF m 366 #[.val (.int p1), .val (.ref b1), .val (.int i), .val (.int (1 : Int32))] [(.ref b1)])) _
      refine XS.iloadN X3.here hx rfl (hb hby at_366) rfl ?_
      show Steps p.tables e below (T3.setTop (mkF m 367 #[.val (.int p1), .val (.ref b1), .val (.int i), .val (.int (1 : Int32))] [(.int i), (.ref b1)])) _
      refine X3.aaload hx (j := i) (v := (.ref (w q))) (by rw [e3]; exact Ar6.1) (State.isArrayOf_alike hZ.alike Ar6.2.1) rfl Ar6.2.2 hin6 hat6 (g := (mkF m 367 #[.val (.int p1), .val (.ref b1), .val (.int i), .val (.int (1 : Int32))] [(.int i), (.ref b1)])) rfl rfl (hb hby at_367) _ ?_
      show Steps p.tables e below (T3.setTop (mkF m 368 #[.val (.int p1), .val (.ref b1), .val (.int i), .val (.int (1 : Int32))] [(.ref (w q))])) _
      refine st7.trans ?_
      show Steps p.tables e below (T7.setTop (mkF m 371 #[.val (.int p1), .val (.ref b1), .val (.int i), .val (.int (1 : Int32))] [(.int (own_rel (w q) (w 33) (w 44) (w 17) (w 28) (w 11) (w 14)))])) _
      refine XS.iloadN X7.here hx rfl (hb hby at_371) rfl ?_
      show Steps p.tables e below (T7.setTop (mkF m 372 #[.val (.int p1), .val (.ref b1), .val (.int i), .val (.int (1 : Int32))] [(.int (1 : Int32)), (.int (own_rel (w q) (w 33) (w 44) (w 17) (w 28) (w 11) (w 14)))])) _
      refine XS.icmpNo X7.here hx rfl (hb hby at_372) rfl (teq (own_pos (by have c11 : (11 : Int32).toInt = 11 := rfl; have hq1 := hq.1; have z0 := hc326_5; simp only [Int32.lt_iff_toInt_lt, ← Int32.toInt_inj] at z0; omega) : (own_rel (w q) (w 33) (w 44) (w 17) (w 28) (w 11) (w 14)) = (1 : Int32))).2 ?_
      show Steps p.tables e below (T7.setTop (mkF m 375 #[.val (.int p1), .val (.ref b1), .val (.int i), .val (.int (1 : Int32))] [])) _
      refine XS.iconst X7.here hx rfl (hb hby at_375) ?_
      show Steps p.tables e below (T7.setTop (mkF m 376 #[.val (.int p1), .val (.ref b1), .val (.int i), .val (.int (1 : Int32))] [(.int (1 : Int32))])) _
      refine XS.goto X7.here hx rfl (pc0 := 376) (pc' := 380) rfl (hb hby at_376) (by decide) (by decide) ?_
      show Steps p.tables e below (T7.setTop (mkF m 380 #[.val (.int p1), .val (.ref b1), .val (.int i), .val (.int (1 : Int32))] [(.int (1 : Int32))])) _
      exact retN X7 hx (t := .boolean) Bd.returns (by simp) (hb hby at_380) hr
    · show Q0 h0 n0 _ T7.heap _
      rw [eh7]
      exact ⟨rfl, N7⟩
  · have pre8 : ∀ t, Steps p.tables e below (T3.setTop (mkF m 332 #[.val (.int p1), .val (.ref b1), .val (.int i), .unset] [(.int (14 : Int32)), (.int i)])) t → Steps p.tables e below (s₁.setTop (entryFrame m #[(.int p1)] maxLocals)) t := fun t kt => by
      refine pre4 t ?_
      show Steps p.tables e below (T3.setTop (mkF m 326 #[.val (.int p1), .val (.ref b1), .val (.int i), .unset] [(.int (11 : Int32)), (.int i)])) _
      refine XS.icmpNo X3.here hx rfl (hb hby at_326) rfl (feq hc326_5).1 ?_
      show Steps p.tables e below (T3.setTop (mkF m 329 #[.val (.int p1), .val (.ref b1), .val (.int i), .unset] [])) _
      refine XS.iloadN X3.here hx rfl (hb hby at_329) rfl ?_
      show Steps p.tables e below (T3.setTop (mkF m 330 #[.val (.int p1), .val (.ref b1), .val (.int i), .unset] [(.int i)])) _
      refine XS.bipush X3.here hx rfl (hb hby at_330) ?_
      exact kt
    by_cases hc332_9 : i = (14 : Int32)
    · obtain ⟨cl10, Ar10, qa10, Sa10, Ma10, Ha10, Ga10⟩ := V3
      have hin10 := inb_of (j := i) Sa10 ri
      have hat10 : cl10.slots[(i).toNatClampNeg]? = some (.ref (w q)) := Has.at Ha10 hin10 (by rw [← hqi]; exact own_ws_at w hq.2)
      obtain ⟨cq11, kq11, q11a, q11b, q11c⟩ := isOf hZ e3 (Exa.keep (hE q hq.2) K3)
      obtain ⟨_, _, ⟨T11, L11, k11, n11⟩, -, X11, ⟨Lc11, hQ11, l11, y11, z11⟩, st11⟩ := X3.virtualBack hx (y := (⟨"com/example/largo/largo/ObjectType", "isRelation", "()Z"⟩ : MethodName)) (z := (⟨"com/example/largo/largo/ObjectType", "isRelation", "()Z"⟩ : MethodName)) hown (mvT hZ (hw _ (List.mem_of_getElem? (i := 95) rfl))) (mvT hZ (hw _ (List.mem_of_getElem? (i := 96) rfl))) (notFace_of_selects (args := #[]) (mvT hZ (hw _ (List.mem_of_getElem? (i := 98) rfl)))) (mvT hZ (hw _ (List.mem_of_getElem? (i := 98) rfl))) (mvT hZ (hw _ (List.mem_of_getElem? (i := 97) rfl))) (by decide) (backOf (W := 0) (rmK l Z a0 hw [] (w q) (w 33) (w 44) (w 17) (w 28) (w 11) (w 14) h3 n0 (Nat.le_trans Z0 K3.1) (own_sta S_TABLE K3) (own_sta S_VIEW K3) (own_sta S_MATERIALIZED_VIEW K3) (own_sta S_SEQUENCE K3) (own_sta S_FOREIGN_TABLE K3) (own_sta S_INDEX K3)) hZ (hw _ (List.mem_of_getElem? (i := 99) rfl)) (hw _ (List.mem_of_getElem? (i := 3) rfl)) (by decide) (by decide)) q11a q11c (g := (mkF m 368 #[.val (.int p1), .val (.ref b1), .val (.int i), .val (.int (1 : Int32))] [(.ref (w q))])) rfl (by rw [hml]; rfl) (Steps.refl _) (argsL := []) (rest := []) (lenOf pd0_0 rfl) rfl (by show 2 * 0 + _ ≤ _; exact Nat.le_of_eq rfl) (hb hby at_368) (fun _ _ => ⟨rfl, e3, (by decide : 1 + 0 ≤ _), (by decide : 45 + 0 ≤ _)⟩)
      dsimp only [Pt.U, Pt.locs, Pt.cells, Pt.slots] at X11 l11 y11 z11 st11 hQ11
      subst l11 y11 z11
      obtain ⟨rfl, N11q, eh11⟩ := hQ11
      have N11 := Fr.app N3 N11q
      obtain ⟨fs, hr, hrun, hended, hW, hsame⟩ := X11.leave (v := some (.int (1 : Int32))) (fun h => by rw [Bd.returns] at h; cases h)
      refine ⟨_, _, pre8 _ ?_, hrun, hended, _, _, rfl, ?_, ⟨_, rfl⟩, hW, hsame.mono (by decide) (by decide)⟩
      · show Steps p.tables e below (T3.setTop (mkF m 332 #[.val (.int p1), .val (.ref b1), .val (.int i), .unset] [(.int (14 : Int32)), (.int i)])) _
        refine XS.icmpYes X3.here hx rfl (pc0 := 332) (pc' := 359) rfl (hb hby at_332) rfl (teq hc332_9).1 (by decide) (by decide) ?_
        show Steps p.tables e below (T3.setTop (mkF m 359 #[.val (.int p1), .val (.ref b1), .val (.int i), .unset] [])) _
        refine XS.iconst X3.here hx rfl (hb hby at_359) ?_
        show Steps p.tables e below (T3.setTop (mkF m 360 #[.val (.int p1), .val (.ref b1), .val (.int i), .unset] [(.int (1 : Int32))])) _
        refine XS.goto X3.here hx rfl (pc0 := 360) (pc' := 364) rfl (hb hby at_360) (by decide) (by decide) ?_
        show Steps p.tables e below (T3.setTop (mkF m 364 #[.val (.int p1), .val (.ref b1), .val (.int i), .unset] [(.int (1 : Int32))])) _
        refine XS.istoreN X3.here hx rfl (hb hby at_364) rfl (l' := #[.val (.int p1), .val (.ref b1), .val (.int i), .val (.int (1 : Int32))]) rfl ?_
        show Steps p.tables e below (T3.setTop (mkF m 365 #[.val (.int p1), .val (.ref b1), .val (.int i), .val (.int (1 : Int32))] [])) _
        refine XS.aloadN X3.here hx rfl (hb hby at_365) rfl rfl ?_
        show Steps p.tables e below (T3.setTop (mkF m 366 #[.val (.int p1), .val (.ref b1), .val (.int i), .val (.int (1 : Int32))] [(.ref b1)])) _
        refine XS.iloadN X3.here hx rfl (hb hby at_366) rfl ?_
        show Steps p.tables e below (T3.setTop (mkF m 367 #[.val (.int p1), .val (.ref b1), .val (.int i), .val (.int (1 : Int32))] [(.int i), (.ref b1)])) _
        refine X3.aaload hx (j := i) (v := (.ref (w q))) (by rw [e3]; exact Ar10.1) (State.isArrayOf_alike hZ.alike Ar10.2.1) rfl Ar10.2.2 hin10 hat10 (g := (mkF m 367 #[.val (.int p1), .val (.ref b1), .val (.int i), .val (.int (1 : Int32))] [(.int i), (.ref b1)])) rfl rfl (hb hby at_367) _ ?_
        show Steps p.tables e below (T3.setTop (mkF m 368 #[.val (.int p1), .val (.ref b1), .val (.int i), .val (.int (1 : Int32))] [(.ref (w q))])) _
        refine st11.trans ?_
        show Steps p.tables e below (T11.setTop (mkF m 371 #[.val (.int p1), .val (.ref b1), .val (.int i), .val (.int (1 : Int32))] [(.int (own_rel (w q) (w 33) (w 44) (w 17) (w 28) (w 11) (w 14)))])) _
        refine XS.iloadN X11.here hx rfl (hb hby at_371) rfl ?_
        show Steps p.tables e below (T11.setTop (mkF m 372 #[.val (.int p1), .val (.ref b1), .val (.int i), .val (.int (1 : Int32))] [(.int (1 : Int32)), (.int (own_rel (w q) (w 33) (w 44) (w 17) (w 28) (w 11) (w 14)))])) _
        refine XS.icmpNo X11.here hx rfl (hb hby at_372) rfl (teq (own_pos (by have c11 : (11 : Int32).toInt = 11 := rfl; have c14 : (14 : Int32).toInt = 14 := rfl; have hq1 := hq.1; have z0 := hc326_5; have z1 := hc332_9; simp only [Int32.lt_iff_toInt_lt, ← Int32.toInt_inj] at z0 z1; omega) : (own_rel (w q) (w 33) (w 44) (w 17) (w 28) (w 11) (w 14)) = (1 : Int32))).2 ?_
        show Steps p.tables e below (T11.setTop (mkF m 375 #[.val (.int p1), .val (.ref b1), .val (.int i), .val (.int (1 : Int32))] [])) _
        refine XS.iconst X11.here hx rfl (hb hby at_375) ?_
        show Steps p.tables e below (T11.setTop (mkF m 376 #[.val (.int p1), .val (.ref b1), .val (.int i), .val (.int (1 : Int32))] [(.int (1 : Int32))])) _
        refine XS.goto X11.here hx rfl (pc0 := 376) (pc' := 380) rfl (hb hby at_376) (by decide) (by decide) ?_
        show Steps p.tables e below (T11.setTop (mkF m 380 #[.val (.int p1), .val (.ref b1), .val (.int i), .val (.int (1 : Int32))] [(.int (1 : Int32))])) _
        exact retN X11 hx (t := .boolean) Bd.returns (by simp) (hb hby at_380) hr
      · show Q0 h0 n0 _ T11.heap _
        rw [eh11]
        exact ⟨rfl, N11⟩
    · have pre12 : ∀ t, Steps p.tables e below (T3.setTop (mkF m 338 #[.val (.int p1), .val (.ref b1), .val (.int i), .unset] [(.int (17 : Int32)), (.int i)])) t → Steps p.tables e below (s₁.setTop (entryFrame m #[(.int p1)] maxLocals)) t := fun t kt => by
        refine pre8 t ?_
        show Steps p.tables e below (T3.setTop (mkF m 332 #[.val (.int p1), .val (.ref b1), .val (.int i), .unset] [(.int (14 : Int32)), (.int i)])) _
        refine XS.icmpNo X3.here hx rfl (hb hby at_332) rfl (feq hc332_9).1 ?_
        show Steps p.tables e below (T3.setTop (mkF m 335 #[.val (.int p1), .val (.ref b1), .val (.int i), .unset] [])) _
        refine XS.iloadN X3.here hx rfl (hb hby at_335) rfl ?_
        show Steps p.tables e below (T3.setTop (mkF m 336 #[.val (.int p1), .val (.ref b1), .val (.int i), .unset] [(.int i)])) _
        refine XS.bipush X3.here hx rfl (hb hby at_336) ?_
        exact kt
      by_cases hc338_13 : i = (17 : Int32)
      · obtain ⟨cl14, Ar14, qa14, Sa14, Ma14, Ha14, Ga14⟩ := V3
        have hin14 := inb_of (j := i) Sa14 ri
        have hat14 : cl14.slots[(i).toNatClampNeg]? = some (.ref (w q)) := Has.at Ha14 hin14 (by rw [← hqi]; exact own_ws_at w hq.2)
        obtain ⟨cq15, kq15, q15a, q15b, q15c⟩ := isOf hZ e3 (Exa.keep (hE q hq.2) K3)
        obtain ⟨_, _, ⟨T15, L15, k15, n15⟩, -, X15, ⟨Lc15, hQ15, l15, y15, z15⟩, st15⟩ := X3.virtualBack hx (y := (⟨"com/example/largo/largo/ObjectType", "isRelation", "()Z"⟩ : MethodName)) (z := (⟨"com/example/largo/largo/ObjectType", "isRelation", "()Z"⟩ : MethodName)) hown (mvT hZ (hw _ (List.mem_of_getElem? (i := 95) rfl))) (mvT hZ (hw _ (List.mem_of_getElem? (i := 96) rfl))) (notFace_of_selects (args := #[]) (mvT hZ (hw _ (List.mem_of_getElem? (i := 98) rfl)))) (mvT hZ (hw _ (List.mem_of_getElem? (i := 98) rfl))) (mvT hZ (hw _ (List.mem_of_getElem? (i := 97) rfl))) (by decide) (backOf (W := 0) (rmK l Z a0 hw [] (w q) (w 33) (w 44) (w 17) (w 28) (w 11) (w 14) h3 n0 (Nat.le_trans Z0 K3.1) (own_sta S_TABLE K3) (own_sta S_VIEW K3) (own_sta S_MATERIALIZED_VIEW K3) (own_sta S_SEQUENCE K3) (own_sta S_FOREIGN_TABLE K3) (own_sta S_INDEX K3)) hZ (hw _ (List.mem_of_getElem? (i := 99) rfl)) (hw _ (List.mem_of_getElem? (i := 3) rfl)) (by decide) (by decide)) q15a q15c (g := (mkF m 368 #[.val (.int p1), .val (.ref b1), .val (.int i), .val (.int (1 : Int32))] [(.ref (w q))])) rfl (by rw [hml]; rfl) (Steps.refl _) (argsL := []) (rest := []) (lenOf pd0_0 rfl) rfl (by show 2 * 0 + _ ≤ _; exact Nat.le_of_eq rfl) (hb hby at_368) (fun _ _ => ⟨rfl, e3, (by decide : 1 + 0 ≤ _), (by decide : 45 + 0 ≤ _)⟩)
        dsimp only [Pt.U, Pt.locs, Pt.cells, Pt.slots] at X15 l15 y15 z15 st15 hQ15
        subst l15 y15 z15
        obtain ⟨rfl, N15q, eh15⟩ := hQ15
        have N15 := Fr.app N3 N15q
        obtain ⟨fs, hr, hrun, hended, hW, hsame⟩ := X15.leave (v := some (.int (1 : Int32))) (fun h => by rw [Bd.returns] at h; cases h)
        refine ⟨_, _, pre12 _ ?_, hrun, hended, _, _, rfl, ?_, ⟨_, rfl⟩, hW, hsame.mono (by decide) (by decide)⟩
        · show Steps p.tables e below (T3.setTop (mkF m 338 #[.val (.int p1), .val (.ref b1), .val (.int i), .unset] [(.int (17 : Int32)), (.int i)])) _
          refine XS.icmpYes X3.here hx rfl (pc0 := 338) (pc' := 359) rfl (hb hby at_338) rfl (teq hc338_13).1 (by decide) (by decide) ?_
          show Steps p.tables e below (T3.setTop (mkF m 359 #[.val (.int p1), .val (.ref b1), .val (.int i), .unset] [])) _
          refine XS.iconst X3.here hx rfl (hb hby at_359) ?_
          show Steps p.tables e below (T3.setTop (mkF m 360 #[.val (.int p1), .val (.ref b1), .val (.int i), .unset] [(.int (1 : Int32))])) _
          refine XS.goto X3.here hx rfl (pc0 := 360) (pc' := 364) rfl (hb hby at_360) (by decide) (by decide) ?_
          show Steps p.tables e below (T3.setTop (mkF m 364 #[.val (.int p1), .val (.ref b1), .val (.int i), .unset] [(.int (1 : Int32))])) _
          refine XS.istoreN X3.here hx rfl (hb hby at_364) rfl (l' := #[.val (.int p1), .val (.ref b1), .val (.int i), .val (.int (1 : Int32))]) rfl ?_
          show Steps p.tables e below (T3.setTop (mkF m 365 #[.val (.int p1), .val (.ref b1), .val (.int i), .val (.int (1 : Int32))] [])) _
          refine XS.aloadN X3.here hx rfl (hb hby at_365) rfl rfl ?_
          show Steps p.tables e below (T3.setTop (mkF m 366 #[.val (.int p1), .val (.ref b1), .val (.int i), .val (.int (1 : Int32))] [(.ref b1)])) _
          refine XS.iloadN X3.here hx rfl (hb hby at_366) rfl ?_
          show Steps p.tables e below (T3.setTop (mkF m 367 #[.val (.int p1), .val (.ref b1), .val (.int i), .val (.int (1 : Int32))] [(.int i), (.ref b1)])) _
          refine X3.aaload hx (j := i) (v := (.ref (w q))) (by rw [e3]; exact Ar14.1) (State.isArrayOf_alike hZ.alike Ar14.2.1) rfl Ar14.2.2 hin14 hat14 (g := (mkF m 367 #[.val (.int p1), .val (.ref b1), .val (.int i), .val (.int (1 : Int32))] [(.int i), (.ref b1)])) rfl rfl (hb hby at_367) _ ?_
          show Steps p.tables e below (T3.setTop (mkF m 368 #[.val (.int p1), .val (.ref b1), .val (.int i), .val (.int (1 : Int32))] [(.ref (w q))])) _
          refine st15.trans ?_
          show Steps p.tables e below (T15.setTop (mkF m 371 #[.val (.int p1), .val (.ref b1), .val (.int i), .val (.int (1 : Int32))] [(.int (own_rel (w q) (w 33) (w 44) (w 17) (w 28) (w 11) (w 14)))])) _
          refine XS.iloadN X15.here hx rfl (hb hby at_371) rfl ?_
          show Steps p.tables e below (T15.setTop (mkF m 372 #[.val (.int p1), .val (.ref b1), .val (.int i), .val (.int (1 : Int32))] [(.int (1 : Int32)), (.int (own_rel (w q) (w 33) (w 44) (w 17) (w 28) (w 11) (w 14)))])) _
          refine XS.icmpNo X15.here hx rfl (hb hby at_372) rfl (teq (own_pos (by have c11 : (11 : Int32).toInt = 11 := rfl; have c14 : (14 : Int32).toInt = 14 := rfl; have c17 : (17 : Int32).toInt = 17 := rfl; have hq1 := hq.1; have z0 := hc326_5; have z1 := hc332_9; have z2 := hc338_13; simp only [Int32.lt_iff_toInt_lt, ← Int32.toInt_inj] at z0 z1 z2; omega) : (own_rel (w q) (w 33) (w 44) (w 17) (w 28) (w 11) (w 14)) = (1 : Int32))).2 ?_
          show Steps p.tables e below (T15.setTop (mkF m 375 #[.val (.int p1), .val (.ref b1), .val (.int i), .val (.int (1 : Int32))] [])) _
          refine XS.iconst X15.here hx rfl (hb hby at_375) ?_
          show Steps p.tables e below (T15.setTop (mkF m 376 #[.val (.int p1), .val (.ref b1), .val (.int i), .val (.int (1 : Int32))] [(.int (1 : Int32))])) _
          refine XS.goto X15.here hx rfl (pc0 := 376) (pc' := 380) rfl (hb hby at_376) (by decide) (by decide) ?_
          show Steps p.tables e below (T15.setTop (mkF m 380 #[.val (.int p1), .val (.ref b1), .val (.int i), .val (.int (1 : Int32))] [(.int (1 : Int32))])) _
          exact retN X15 hx (t := .boolean) Bd.returns (by simp) (hb hby at_380) hr
        · show Q0 h0 n0 _ T15.heap _
          rw [eh15]
          exact ⟨rfl, N15⟩
      · have pre16 : ∀ t, Steps p.tables e below (T3.setTop (mkF m 344 #[.val (.int p1), .val (.ref b1), .val (.int i), .unset] [(.int (28 : Int32)), (.int i)])) t → Steps p.tables e below (s₁.setTop (entryFrame m #[(.int p1)] maxLocals)) t := fun t kt => by
          refine pre12 t ?_
          show Steps p.tables e below (T3.setTop (mkF m 338 #[.val (.int p1), .val (.ref b1), .val (.int i), .unset] [(.int (17 : Int32)), (.int i)])) _
          refine XS.icmpNo X3.here hx rfl (hb hby at_338) rfl (feq hc338_13).1 ?_
          show Steps p.tables e below (T3.setTop (mkF m 341 #[.val (.int p1), .val (.ref b1), .val (.int i), .unset] [])) _
          refine XS.iloadN X3.here hx rfl (hb hby at_341) rfl ?_
          show Steps p.tables e below (T3.setTop (mkF m 342 #[.val (.int p1), .val (.ref b1), .val (.int i), .unset] [(.int i)])) _
          refine XS.bipush X3.here hx rfl (hb hby at_342) ?_
          exact kt
        by_cases hc344_17 : i = (28 : Int32)
        · obtain ⟨cl18, Ar18, qa18, Sa18, Ma18, Ha18, Ga18⟩ := V3
          have hin18 := inb_of (j := i) Sa18 ri
          have hat18 : cl18.slots[(i).toNatClampNeg]? = some (.ref (w q)) := Has.at Ha18 hin18 (by rw [← hqi]; exact own_ws_at w hq.2)
          obtain ⟨cq19, kq19, q19a, q19b, q19c⟩ := isOf hZ e3 (Exa.keep (hE q hq.2) K3)
          obtain ⟨_, _, ⟨T19, L19, k19, n19⟩, -, X19, ⟨Lc19, hQ19, l19, y19, z19⟩, st19⟩ := X3.virtualBack hx (y := (⟨"com/example/largo/largo/ObjectType", "isRelation", "()Z"⟩ : MethodName)) (z := (⟨"com/example/largo/largo/ObjectType", "isRelation", "()Z"⟩ : MethodName)) hown (mvT hZ (hw _ (List.mem_of_getElem? (i := 95) rfl))) (mvT hZ (hw _ (List.mem_of_getElem? (i := 96) rfl))) (notFace_of_selects (args := #[]) (mvT hZ (hw _ (List.mem_of_getElem? (i := 98) rfl)))) (mvT hZ (hw _ (List.mem_of_getElem? (i := 98) rfl))) (mvT hZ (hw _ (List.mem_of_getElem? (i := 97) rfl))) (by decide) (backOf (W := 0) (rmK l Z a0 hw [] (w q) (w 33) (w 44) (w 17) (w 28) (w 11) (w 14) h3 n0 (Nat.le_trans Z0 K3.1) (own_sta S_TABLE K3) (own_sta S_VIEW K3) (own_sta S_MATERIALIZED_VIEW K3) (own_sta S_SEQUENCE K3) (own_sta S_FOREIGN_TABLE K3) (own_sta S_INDEX K3)) hZ (hw _ (List.mem_of_getElem? (i := 99) rfl)) (hw _ (List.mem_of_getElem? (i := 3) rfl)) (by decide) (by decide)) q19a q19c (g := (mkF m 368 #[.val (.int p1), .val (.ref b1), .val (.int i), .val (.int (1 : Int32))] [(.ref (w q))])) rfl (by rw [hml]; rfl) (Steps.refl _) (argsL := []) (rest := []) (lenOf pd0_0 rfl) rfl (by show 2 * 0 + _ ≤ _; exact Nat.le_of_eq rfl) (hb hby at_368) (fun _ _ => ⟨rfl, e3, (by decide : 1 + 0 ≤ _), (by decide : 45 + 0 ≤ _)⟩)
          dsimp only [Pt.U, Pt.locs, Pt.cells, Pt.slots] at X19 l19 y19 z19 st19 hQ19
          subst l19 y19 z19
          obtain ⟨rfl, N19q, eh19⟩ := hQ19
          have N19 := Fr.app N3 N19q
          obtain ⟨fs, hr, hrun, hended, hW, hsame⟩ := X19.leave (v := some (.int (1 : Int32))) (fun h => by rw [Bd.returns] at h; cases h)
          refine ⟨_, _, pre16 _ ?_, hrun, hended, _, _, rfl, ?_, ⟨_, rfl⟩, hW, hsame.mono (by decide) (by decide)⟩
          · show Steps p.tables e below (T3.setTop (mkF m 344 #[.val (.int p1), .val (.ref b1), .val (.int i), .unset] [(.int (28 : Int32)), (.int i)])) _
            refine XS.icmpYes X3.here hx rfl (pc0 := 344) (pc' := 359) rfl (hb hby at_344) rfl (teq hc344_17).1 (by decide) (by decide) ?_
            show Steps p.tables e below (T3.setTop (mkF m 359 #[.val (.int p1), .val (.ref b1), .val (.int i), .unset] [])) _
            refine XS.iconst X3.here hx rfl (hb hby at_359) ?_
            show Steps p.tables e below (T3.setTop (mkF m 360 #[.val (.int p1), .val (.ref b1), .val (.int i), .unset] [(.int (1 : Int32))])) _
            refine XS.goto X3.here hx rfl (pc0 := 360) (pc' := 364) rfl (hb hby at_360) (by decide) (by decide) ?_
            show Steps p.tables e below (T3.setTop (mkF m 364 #[.val (.int p1), .val (.ref b1), .val (.int i), .unset] [(.int (1 : Int32))])) _
            refine XS.istoreN X3.here hx rfl (hb hby at_364) rfl (l' := #[.val (.int p1), .val (.ref b1), .val (.int i), .val (.int (1 : Int32))]) rfl ?_
            show Steps p.tables e below (T3.setTop (mkF m 365 #[.val (.int p1), .val (.ref b1), .val (.int i), .val (.int (1 : Int32))] [])) _
            refine XS.aloadN X3.here hx rfl (hb hby at_365) rfl rfl ?_
            show Steps p.tables e below (T3.setTop (mkF m 366 #[.val (.int p1), .val (.ref b1), .val (.int i), .val (.int (1 : Int32))] [(.ref b1)])) _
            refine XS.iloadN X3.here hx rfl (hb hby at_366) rfl ?_
            show Steps p.tables e below (T3.setTop (mkF m 367 #[.val (.int p1), .val (.ref b1), .val (.int i), .val (.int (1 : Int32))] [(.int i), (.ref b1)])) _
            refine X3.aaload hx (j := i) (v := (.ref (w q))) (by rw [e3]; exact Ar18.1) (State.isArrayOf_alike hZ.alike Ar18.2.1) rfl Ar18.2.2 hin18 hat18 (g := (mkF m 367 #[.val (.int p1), .val (.ref b1), .val (.int i), .val (.int (1 : Int32))] [(.int i), (.ref b1)])) rfl rfl (hb hby at_367) _ ?_
            show Steps p.tables e below (T3.setTop (mkF m 368 #[.val (.int p1), .val (.ref b1), .val (.int i), .val (.int (1 : Int32))] [(.ref (w q))])) _
            refine st19.trans ?_
            show Steps p.tables e below (T19.setTop (mkF m 371 #[.val (.int p1), .val (.ref b1), .val (.int i), .val (.int (1 : Int32))] [(.int (own_rel (w q) (w 33) (w 44) (w 17) (w 28) (w 11) (w 14)))])) _
            refine XS.iloadN X19.here hx rfl (hb hby at_371) rfl ?_
            show Steps p.tables e below (T19.setTop (mkF m 372 #[.val (.int p1), .val (.ref b1), .val (.int i), .val (.int (1 : Int32))] [(.int (1 : Int32)), (.int (own_rel (w q) (w 33) (w 44) (w 17) (w 28) (w 11) (w 14)))])) _
            refine XS.icmpNo X19.here hx rfl (hb hby at_372) rfl (teq (own_pos (by have c11 : (11 : Int32).toInt = 11 := rfl; have c14 : (14 : Int32).toInt = 14 := rfl; have c17 : (17 : Int32).toInt = 17 := rfl; have c28 : (28 : Int32).toInt = 28 := rfl; have hq1 := hq.1; have z0 := hc326_5; have z1 := hc332_9; have z2 := hc338_13; have z3 := hc344_17; simp only [Int32.lt_iff_toInt_lt, ← Int32.toInt_inj] at z0 z1 z2 z3; omega) : (own_rel (w q) (w 33) (w 44) (w 17) (w 28) (w 11) (w 14)) = (1 : Int32))).2 ?_
            show Steps p.tables e below (T19.setTop (mkF m 375 #[.val (.int p1), .val (.ref b1), .val (.int i), .val (.int (1 : Int32))] [])) _
            refine XS.iconst X19.here hx rfl (hb hby at_375) ?_
            show Steps p.tables e below (T19.setTop (mkF m 376 #[.val (.int p1), .val (.ref b1), .val (.int i), .val (.int (1 : Int32))] [(.int (1 : Int32))])) _
            refine XS.goto X19.here hx rfl (pc0 := 376) (pc' := 380) rfl (hb hby at_376) (by decide) (by decide) ?_
            show Steps p.tables e below (T19.setTop (mkF m 380 #[.val (.int p1), .val (.ref b1), .val (.int i), .val (.int (1 : Int32))] [(.int (1 : Int32))])) _
            exact retN X19 hx (t := .boolean) Bd.returns (by simp) (hb hby at_380) hr
          · show Q0 h0 n0 _ T19.heap _
            rw [eh19]
            exact ⟨rfl, N19⟩
        · have pre20 : ∀ t, Steps p.tables e below (T3.setTop (mkF m 350 #[.val (.int p1), .val (.ref b1), .val (.int i), .unset] [(.int (33 : Int32)), (.int i)])) t → Steps p.tables e below (s₁.setTop (entryFrame m #[(.int p1)] maxLocals)) t := fun t kt => by
            refine pre16 t ?_
            show Steps p.tables e below (T3.setTop (mkF m 344 #[.val (.int p1), .val (.ref b1), .val (.int i), .unset] [(.int (28 : Int32)), (.int i)])) _
            refine XS.icmpNo X3.here hx rfl (hb hby at_344) rfl (feq hc344_17).1 ?_
            show Steps p.tables e below (T3.setTop (mkF m 347 #[.val (.int p1), .val (.ref b1), .val (.int i), .unset] [])) _
            refine XS.iloadN X3.here hx rfl (hb hby at_347) rfl ?_
            show Steps p.tables e below (T3.setTop (mkF m 348 #[.val (.int p1), .val (.ref b1), .val (.int i), .unset] [(.int i)])) _
            refine XS.bipush X3.here hx rfl (hb hby at_348) ?_
            exact kt
          by_cases hc350_21 : i = (33 : Int32)
          · obtain ⟨cl22, Ar22, qa22, Sa22, Ma22, Ha22, Ga22⟩ := V3
            have hin22 := inb_of (j := i) Sa22 ri
            have hat22 : cl22.slots[(i).toNatClampNeg]? = some (.ref (w q)) := Has.at Ha22 hin22 (by rw [← hqi]; exact own_ws_at w hq.2)
            obtain ⟨cq23, kq23, q23a, q23b, q23c⟩ := isOf hZ e3 (Exa.keep (hE q hq.2) K3)
            obtain ⟨_, _, ⟨T23, L23, k23, n23⟩, -, X23, ⟨Lc23, hQ23, l23, y23, z23⟩, st23⟩ := X3.virtualBack hx (y := (⟨"com/example/largo/largo/ObjectType", "isRelation", "()Z"⟩ : MethodName)) (z := (⟨"com/example/largo/largo/ObjectType", "isRelation", "()Z"⟩ : MethodName)) hown (mvT hZ (hw _ (List.mem_of_getElem? (i := 95) rfl))) (mvT hZ (hw _ (List.mem_of_getElem? (i := 96) rfl))) (notFace_of_selects (args := #[]) (mvT hZ (hw _ (List.mem_of_getElem? (i := 98) rfl)))) (mvT hZ (hw _ (List.mem_of_getElem? (i := 98) rfl))) (mvT hZ (hw _ (List.mem_of_getElem? (i := 97) rfl))) (by decide) (backOf (W := 0) (rmK l Z a0 hw [] (w q) (w 33) (w 44) (w 17) (w 28) (w 11) (w 14) h3 n0 (Nat.le_trans Z0 K3.1) (own_sta S_TABLE K3) (own_sta S_VIEW K3) (own_sta S_MATERIALIZED_VIEW K3) (own_sta S_SEQUENCE K3) (own_sta S_FOREIGN_TABLE K3) (own_sta S_INDEX K3)) hZ (hw _ (List.mem_of_getElem? (i := 99) rfl)) (hw _ (List.mem_of_getElem? (i := 3) rfl)) (by decide) (by decide)) q23a q23c (g := (mkF m 368 #[.val (.int p1), .val (.ref b1), .val (.int i), .val (.int (1 : Int32))] [(.ref (w q))])) rfl (by rw [hml]; rfl) (Steps.refl _) (argsL := []) (rest := []) (lenOf pd0_0 rfl) rfl (by show 2 * 0 + _ ≤ _; exact Nat.le_of_eq rfl) (hb hby at_368) (fun _ _ => ⟨rfl, e3, (by decide : 1 + 0 ≤ _), (by decide : 45 + 0 ≤ _)⟩)
            dsimp only [Pt.U, Pt.locs, Pt.cells, Pt.slots] at X23 l23 y23 z23 st23 hQ23
            subst l23 y23 z23
            obtain ⟨rfl, N23q, eh23⟩ := hQ23
            have N23 := Fr.app N3 N23q
            obtain ⟨fs, hr, hrun, hended, hW, hsame⟩ := X23.leave (v := some (.int (1 : Int32))) (fun h => by rw [Bd.returns] at h; cases h)
            refine ⟨_, _, pre20 _ ?_, hrun, hended, _, _, rfl, ?_, ⟨_, rfl⟩, hW, hsame.mono (by decide) (by decide)⟩
            · show Steps p.tables e below (T3.setTop (mkF m 350 #[.val (.int p1), .val (.ref b1), .val (.int i), .unset] [(.int (33 : Int32)), (.int i)])) _
              refine XS.icmpYes X3.here hx rfl (pc0 := 350) (pc' := 359) rfl (hb hby at_350) rfl (teq hc350_21).1 (by decide) (by decide) ?_
              show Steps p.tables e below (T3.setTop (mkF m 359 #[.val (.int p1), .val (.ref b1), .val (.int i), .unset] [])) _
              refine XS.iconst X3.here hx rfl (hb hby at_359) ?_
              show Steps p.tables e below (T3.setTop (mkF m 360 #[.val (.int p1), .val (.ref b1), .val (.int i), .unset] [(.int (1 : Int32))])) _
              refine XS.goto X3.here hx rfl (pc0 := 360) (pc' := 364) rfl (hb hby at_360) (by decide) (by decide) ?_
              show Steps p.tables e below (T3.setTop (mkF m 364 #[.val (.int p1), .val (.ref b1), .val (.int i), .unset] [(.int (1 : Int32))])) _
              refine XS.istoreN X3.here hx rfl (hb hby at_364) rfl (l' := #[.val (.int p1), .val (.ref b1), .val (.int i), .val (.int (1 : Int32))]) rfl ?_
              show Steps p.tables e below (T3.setTop (mkF m 365 #[.val (.int p1), .val (.ref b1), .val (.int i), .val (.int (1 : Int32))] [])) _
              refine XS.aloadN X3.here hx rfl (hb hby at_365) rfl rfl ?_
              show Steps p.tables e below (T3.setTop (mkF m 366 #[.val (.int p1), .val (.ref b1), .val (.int i), .val (.int (1 : Int32))] [(.ref b1)])) _
              refine XS.iloadN X3.here hx rfl (hb hby at_366) rfl ?_
              show Steps p.tables e below (T3.setTop (mkF m 367 #[.val (.int p1), .val (.ref b1), .val (.int i), .val (.int (1 : Int32))] [(.int i), (.ref b1)])) _
              refine X3.aaload hx (j := i) (v := (.ref (w q))) (by rw [e3]; exact Ar22.1) (State.isArrayOf_alike hZ.alike Ar22.2.1) rfl Ar22.2.2 hin22 hat22 (g := (mkF m 367 #[.val (.int p1), .val (.ref b1), .val (.int i), .val (.int (1 : Int32))] [(.int i), (.ref b1)])) rfl rfl (hb hby at_367) _ ?_
              show Steps p.tables e below (T3.setTop (mkF m 368 #[.val (.int p1), .val (.ref b1), .val (.int i), .val (.int (1 : Int32))] [(.ref (w q))])) _
              refine st23.trans ?_
              show Steps p.tables e below (T23.setTop (mkF m 371 #[.val (.int p1), .val (.ref b1), .val (.int i), .val (.int (1 : Int32))] [(.int (own_rel (w q) (w 33) (w 44) (w 17) (w 28) (w 11) (w 14)))])) _
              refine XS.iloadN X23.here hx rfl (hb hby at_371) rfl ?_
              show Steps p.tables e below (T23.setTop (mkF m 372 #[.val (.int p1), .val (.ref b1), .val (.int i), .val (.int (1 : Int32))] [(.int (1 : Int32)), (.int (own_rel (w q) (w 33) (w 44) (w 17) (w 28) (w 11) (w 14)))])) _
              refine XS.icmpNo X23.here hx rfl (hb hby at_372) rfl (teq (own_pos (by have c11 : (11 : Int32).toInt = 11 := rfl; have c14 : (14 : Int32).toInt = 14 := rfl; have c17 : (17 : Int32).toInt = 17 := rfl; have c28 : (28 : Int32).toInt = 28 := rfl; have c33 : (33 : Int32).toInt = 33 := rfl; have hq1 := hq.1; have z0 := hc326_5; have z1 := hc332_9; have z2 := hc338_13; have z3 := hc344_17; have z4 := hc350_21; simp only [Int32.lt_iff_toInt_lt, ← Int32.toInt_inj] at z0 z1 z2 z3 z4; omega) : (own_rel (w q) (w 33) (w 44) (w 17) (w 28) (w 11) (w 14)) = (1 : Int32))).2 ?_
              show Steps p.tables e below (T23.setTop (mkF m 375 #[.val (.int p1), .val (.ref b1), .val (.int i), .val (.int (1 : Int32))] [])) _
              refine XS.iconst X23.here hx rfl (hb hby at_375) ?_
              show Steps p.tables e below (T23.setTop (mkF m 376 #[.val (.int p1), .val (.ref b1), .val (.int i), .val (.int (1 : Int32))] [(.int (1 : Int32))])) _
              refine XS.goto X23.here hx rfl (pc0 := 376) (pc' := 380) rfl (hb hby at_376) (by decide) (by decide) ?_
              show Steps p.tables e below (T23.setTop (mkF m 380 #[.val (.int p1), .val (.ref b1), .val (.int i), .val (.int (1 : Int32))] [(.int (1 : Int32))])) _
              exact retN X23 hx (t := .boolean) Bd.returns (by simp) (hb hby at_380) hr
            · show Q0 h0 n0 _ T23.heap _
              rw [eh23]
              exact ⟨rfl, N23⟩
          · have pre24 : ∀ t, Steps p.tables e below (T3.setTop (mkF m 356 #[.val (.int p1), .val (.ref b1), .val (.int i), .unset] [(.int (44 : Int32)), (.int i)])) t → Steps p.tables e below (s₁.setTop (entryFrame m #[(.int p1)] maxLocals)) t := fun t kt => by
              refine pre20 t ?_
              show Steps p.tables e below (T3.setTop (mkF m 350 #[.val (.int p1), .val (.ref b1), .val (.int i), .unset] [(.int (33 : Int32)), (.int i)])) _
              refine XS.icmpNo X3.here hx rfl (hb hby at_350) rfl (feq hc350_21).1 ?_
              show Steps p.tables e below (T3.setTop (mkF m 353 #[.val (.int p1), .val (.ref b1), .val (.int i), .unset] [])) _
              refine XS.iloadN X3.here hx rfl (hb hby at_353) rfl ?_
              show Steps p.tables e below (T3.setTop (mkF m 354 #[.val (.int p1), .val (.ref b1), .val (.int i), .unset] [(.int i)])) _
              refine XS.bipush X3.here hx rfl (hb hby at_354) ?_
              exact kt
            by_cases hc356_25 : i = (44 : Int32)
            · obtain ⟨cl26, Ar26, qa26, Sa26, Ma26, Ha26, Ga26⟩ := V3
              have hin26 := inb_of (j := i) Sa26 ri
              have hat26 : cl26.slots[(i).toNatClampNeg]? = some (.ref (w q)) := Has.at Ha26 hin26 (by rw [← hqi]; exact own_ws_at w hq.2)
              obtain ⟨cq27, kq27, q27a, q27b, q27c⟩ := isOf hZ e3 (Exa.keep (hE q hq.2) K3)
              obtain ⟨_, _, ⟨T27, L27, k27, n27⟩, -, X27, ⟨Lc27, hQ27, l27, y27, z27⟩, st27⟩ := X3.virtualBack hx (y := (⟨"com/example/largo/largo/ObjectType", "isRelation", "()Z"⟩ : MethodName)) (z := (⟨"com/example/largo/largo/ObjectType", "isRelation", "()Z"⟩ : MethodName)) hown (mvT hZ (hw _ (List.mem_of_getElem? (i := 95) rfl))) (mvT hZ (hw _ (List.mem_of_getElem? (i := 96) rfl))) (notFace_of_selects (args := #[]) (mvT hZ (hw _ (List.mem_of_getElem? (i := 98) rfl)))) (mvT hZ (hw _ (List.mem_of_getElem? (i := 98) rfl))) (mvT hZ (hw _ (List.mem_of_getElem? (i := 97) rfl))) (by decide) (backOf (W := 0) (rmK l Z a0 hw [] (w q) (w 33) (w 44) (w 17) (w 28) (w 11) (w 14) h3 n0 (Nat.le_trans Z0 K3.1) (own_sta S_TABLE K3) (own_sta S_VIEW K3) (own_sta S_MATERIALIZED_VIEW K3) (own_sta S_SEQUENCE K3) (own_sta S_FOREIGN_TABLE K3) (own_sta S_INDEX K3)) hZ (hw _ (List.mem_of_getElem? (i := 99) rfl)) (hw _ (List.mem_of_getElem? (i := 3) rfl)) (by decide) (by decide)) q27a q27c (g := (mkF m 368 #[.val (.int p1), .val (.ref b1), .val (.int i), .val (.int (1 : Int32))] [(.ref (w q))])) rfl (by rw [hml]; rfl) (Steps.refl _) (argsL := []) (rest := []) (lenOf pd0_0 rfl) rfl (by show 2 * 0 + _ ≤ _; exact Nat.le_of_eq rfl) (hb hby at_368) (fun _ _ => ⟨rfl, e3, (by decide : 1 + 0 ≤ _), (by decide : 45 + 0 ≤ _)⟩)
              dsimp only [Pt.U, Pt.locs, Pt.cells, Pt.slots] at X27 l27 y27 z27 st27 hQ27
              subst l27 y27 z27
              obtain ⟨rfl, N27q, eh27⟩ := hQ27
              have N27 := Fr.app N3 N27q
              obtain ⟨fs, hr, hrun, hended, hW, hsame⟩ := X27.leave (v := some (.int (1 : Int32))) (fun h => by rw [Bd.returns] at h; cases h)
              refine ⟨_, _, pre24 _ ?_, hrun, hended, _, _, rfl, ?_, ⟨_, rfl⟩, hW, hsame.mono (by decide) (by decide)⟩
              · show Steps p.tables e below (T3.setTop (mkF m 356 #[.val (.int p1), .val (.ref b1), .val (.int i), .unset] [(.int (44 : Int32)), (.int i)])) _
                refine XS.icmpNo X3.here hx rfl (hb hby at_356) rfl (teq hc356_25).2 ?_
                show Steps p.tables e below (T3.setTop (mkF m 359 #[.val (.int p1), .val (.ref b1), .val (.int i), .unset] [])) _
                refine XS.iconst X3.here hx rfl (hb hby at_359) ?_
                show Steps p.tables e below (T3.setTop (mkF m 360 #[.val (.int p1), .val (.ref b1), .val (.int i), .unset] [(.int (1 : Int32))])) _
                refine XS.goto X3.here hx rfl (pc0 := 360) (pc' := 364) rfl (hb hby at_360) (by decide) (by decide) ?_
                show Steps p.tables e below (T3.setTop (mkF m 364 #[.val (.int p1), .val (.ref b1), .val (.int i), .unset] [(.int (1 : Int32))])) _
                refine XS.istoreN X3.here hx rfl (hb hby at_364) rfl (l' := #[.val (.int p1), .val (.ref b1), .val (.int i), .val (.int (1 : Int32))]) rfl ?_
                show Steps p.tables e below (T3.setTop (mkF m 365 #[.val (.int p1), .val (.ref b1), .val (.int i), .val (.int (1 : Int32))] [])) _
                refine XS.aloadN X3.here hx rfl (hb hby at_365) rfl rfl ?_
                show Steps p.tables e below (T3.setTop (mkF m 366 #[.val (.int p1), .val (.ref b1), .val (.int i), .val (.int (1 : Int32))] [(.ref b1)])) _
                refine XS.iloadN X3.here hx rfl (hb hby at_366) rfl ?_
                show Steps p.tables e below (T3.setTop (mkF m 367 #[.val (.int p1), .val (.ref b1), .val (.int i), .val (.int (1 : Int32))] [(.int i), (.ref b1)])) _
                refine X3.aaload hx (j := i) (v := (.ref (w q))) (by rw [e3]; exact Ar26.1) (State.isArrayOf_alike hZ.alike Ar26.2.1) rfl Ar26.2.2 hin26 hat26 (g := (mkF m 367 #[.val (.int p1), .val (.ref b1), .val (.int i), .val (.int (1 : Int32))] [(.int i), (.ref b1)])) rfl rfl (hb hby at_367) _ ?_
                show Steps p.tables e below (T3.setTop (mkF m 368 #[.val (.int p1), .val (.ref b1), .val (.int i), .val (.int (1 : Int32))] [(.ref (w q))])) _
                refine st27.trans ?_
                show Steps p.tables e below (T27.setTop (mkF m 371 #[.val (.int p1), .val (.ref b1), .val (.int i), .val (.int (1 : Int32))] [(.int (own_rel (w q) (w 33) (w 44) (w 17) (w 28) (w 11) (w 14)))])) _
                refine XS.iloadN X27.here hx rfl (hb hby at_371) rfl ?_
                show Steps p.tables e below (T27.setTop (mkF m 372 #[.val (.int p1), .val (.ref b1), .val (.int i), .val (.int (1 : Int32))] [(.int (1 : Int32)), (.int (own_rel (w q) (w 33) (w 44) (w 17) (w 28) (w 11) (w 14)))])) _
                refine XS.icmpNo X27.here hx rfl (hb hby at_372) rfl (teq (own_pos (by have c11 : (11 : Int32).toInt = 11 := rfl; have c14 : (14 : Int32).toInt = 14 := rfl; have c17 : (17 : Int32).toInt = 17 := rfl; have c28 : (28 : Int32).toInt = 28 := rfl; have c33 : (33 : Int32).toInt = 33 := rfl; have c44 : (44 : Int32).toInt = 44 := rfl; have hq1 := hq.1; have z0 := hc326_5; have z1 := hc332_9; have z2 := hc338_13; have z3 := hc344_17; have z4 := hc350_21; have z5 := hc356_25; simp only [Int32.lt_iff_toInt_lt, ← Int32.toInt_inj] at z0 z1 z2 z3 z4 z5; omega) : (own_rel (w q) (w 33) (w 44) (w 17) (w 28) (w 11) (w 14)) = (1 : Int32))).2 ?_
                show Steps p.tables e below (T27.setTop (mkF m 375 #[.val (.int p1), .val (.ref b1), .val (.int i), .val (.int (1 : Int32))] [])) _
                refine XS.iconst X27.here hx rfl (hb hby at_375) ?_
                show Steps p.tables e below (T27.setTop (mkF m 376 #[.val (.int p1), .val (.ref b1), .val (.int i), .val (.int (1 : Int32))] [(.int (1 : Int32))])) _
                refine XS.goto X27.here hx rfl (pc0 := 376) (pc' := 380) rfl (hb hby at_376) (by decide) (by decide) ?_
                show Steps p.tables e below (T27.setTop (mkF m 380 #[.val (.int p1), .val (.ref b1), .val (.int i), .val (.int (1 : Int32))] [(.int (1 : Int32))])) _
                exact retN X27 hx (t := .boolean) Bd.returns (by simp) (hb hby at_380) hr
              · show Q0 h0 n0 _ T27.heap _
                rw [eh27]
                exact ⟨rfl, N27⟩
            · obtain ⟨cl28, Ar28, qa28, Sa28, Ma28, Ha28, Ga28⟩ := V3
              have hin28 := inb_of (j := i) Sa28 ri
              have hat28 : cl28.slots[(i).toNatClampNeg]? = some (.ref (w q)) := Has.at Ha28 hin28 (by rw [← hqi]; exact own_ws_at w hq.2)
              obtain ⟨cq29, kq29, q29a, q29b, q29c⟩ := isOf hZ e3 (Exa.keep (hE q hq.2) K3)
              obtain ⟨_, _, ⟨T29, L29, k29, n29⟩, -, X29, ⟨Lc29, hQ29, l29, y29, z29⟩, st29⟩ := X3.virtualBack hx (y := (⟨"com/example/largo/largo/ObjectType", "isRelation", "()Z"⟩ : MethodName)) (z := (⟨"com/example/largo/largo/ObjectType", "isRelation", "()Z"⟩ : MethodName)) hown (mvT hZ (hw _ (List.mem_of_getElem? (i := 95) rfl))) (mvT hZ (hw _ (List.mem_of_getElem? (i := 96) rfl))) (notFace_of_selects (args := #[]) (mvT hZ (hw _ (List.mem_of_getElem? (i := 98) rfl)))) (mvT hZ (hw _ (List.mem_of_getElem? (i := 98) rfl))) (mvT hZ (hw _ (List.mem_of_getElem? (i := 97) rfl))) (by decide) (backOf (W := 0) (rmK l Z a0 hw [] (w q) (w 33) (w 44) (w 17) (w 28) (w 11) (w 14) h3 n0 (Nat.le_trans Z0 K3.1) (own_sta S_TABLE K3) (own_sta S_VIEW K3) (own_sta S_MATERIALIZED_VIEW K3) (own_sta S_SEQUENCE K3) (own_sta S_FOREIGN_TABLE K3) (own_sta S_INDEX K3)) hZ (hw _ (List.mem_of_getElem? (i := 99) rfl)) (hw _ (List.mem_of_getElem? (i := 3) rfl)) (by decide) (by decide)) q29a q29c (g := (mkF m 368 #[.val (.int p1), .val (.ref b1), .val (.int i), .val (.int (0 : Int32))] [(.ref (w q))])) rfl (by rw [hml]; rfl) (Steps.refl _) (argsL := []) (rest := []) (lenOf pd0_0 rfl) rfl (by show 2 * 0 + _ ≤ _; exact Nat.le_of_eq rfl) (hb hby at_368) (fun _ _ => ⟨rfl, e3, (by decide : 1 + 0 ≤ _), (by decide : 45 + 0 ≤ _)⟩)
              dsimp only [Pt.U, Pt.locs, Pt.cells, Pt.slots] at X29 l29 y29 z29 st29 hQ29
              subst l29 y29 z29
              obtain ⟨rfl, N29q, eh29⟩ := hQ29
              have N29 := Fr.app N3 N29q
              obtain ⟨fs, hr, hrun, hended, hW, hsame⟩ := X29.leave (v := some (.int (1 : Int32))) (fun h => by rw [Bd.returns] at h; cases h)
              refine ⟨_, _, pre24 _ ?_, hrun, hended, _, _, rfl, ?_, ⟨_, rfl⟩, hW, hsame.mono (by decide) (by decide)⟩
              · show Steps p.tables e below (T3.setTop (mkF m 356 #[.val (.int p1), .val (.ref b1), .val (.int i), .unset] [(.int (44 : Int32)), (.int i)])) _
                refine XS.icmpYes X3.here hx rfl (pc0 := 356) (pc' := 363) rfl (hb hby at_356) rfl (feq hc356_25).2 (by decide) (by decide) ?_
                show Steps p.tables e below (T3.setTop (mkF m 363 #[.val (.int p1), .val (.ref b1), .val (.int i), .unset] [])) _
                refine XS.iconst X3.here hx rfl (hb hby at_363) ?_
                show Steps p.tables e below (T3.setTop (mkF m 364 #[.val (.int p1), .val (.ref b1), .val (.int i), .unset] [(.int (0 : Int32))])) _
                refine XS.istoreN X3.here hx rfl (hb hby at_364) rfl (l' := #[.val (.int p1), .val (.ref b1), .val (.int i), .val (.int (0 : Int32))]) rfl ?_
                show Steps p.tables e below (T3.setTop (mkF m 365 #[.val (.int p1), .val (.ref b1), .val (.int i), .val (.int (0 : Int32))] [])) _
                refine XS.aloadN X3.here hx rfl (hb hby at_365) rfl rfl ?_
                show Steps p.tables e below (T3.setTop (mkF m 366 #[.val (.int p1), .val (.ref b1), .val (.int i), .val (.int (0 : Int32))] [(.ref b1)])) _
                refine XS.iloadN X3.here hx rfl (hb hby at_366) rfl ?_
                show Steps p.tables e below (T3.setTop (mkF m 367 #[.val (.int p1), .val (.ref b1), .val (.int i), .val (.int (0 : Int32))] [(.int i), (.ref b1)])) _
                refine X3.aaload hx (j := i) (v := (.ref (w q))) (by rw [e3]; exact Ar28.1) (State.isArrayOf_alike hZ.alike Ar28.2.1) rfl Ar28.2.2 hin28 hat28 (g := (mkF m 367 #[.val (.int p1), .val (.ref b1), .val (.int i), .val (.int (0 : Int32))] [(.int i), (.ref b1)])) rfl rfl (hb hby at_367) _ ?_
                show Steps p.tables e below (T3.setTop (mkF m 368 #[.val (.int p1), .val (.ref b1), .val (.int i), .val (.int (0 : Int32))] [(.ref (w q))])) _
                refine st29.trans ?_
                show Steps p.tables e below (T29.setTop (mkF m 371 #[.val (.int p1), .val (.ref b1), .val (.int i), .val (.int (0 : Int32))] [(.int (own_rel (w q) (w 33) (w 44) (w 17) (w 28) (w 11) (w 14)))])) _
                refine XS.iloadN X29.here hx rfl (hb hby at_371) rfl ?_
                show Steps p.tables e below (T29.setTop (mkF m 372 #[.val (.int p1), .val (.ref b1), .val (.int i), .val (.int (0 : Int32))] [(.int (0 : Int32)), (.int (own_rel (w q) (w 33) (w 44) (w 17) (w 28) (w 11) (w 14)))])) _
                refine XS.icmpNo X29.here hx rfl (hb hby at_372) rfl (teq (own_neg hO hq.2 (by have c11 : (11 : Int32).toInt = 11 := rfl; have c14 : (14 : Int32).toInt = 14 := rfl; have c17 : (17 : Int32).toInt = 17 := rfl; have c28 : (28 : Int32).toInt = 28 := rfl; have c33 : (33 : Int32).toInt = 33 := rfl; have c44 : (44 : Int32).toInt = 44 := rfl; have hq1 := hq.1; have z0 := hc326_5; have z1 := hc332_9; have z2 := hc338_13; have z3 := hc344_17; have z4 := hc350_21; have z5 := hc356_25; simp only [Int32.lt_iff_toInt_lt, ← Int32.toInt_inj] at z0 z1 z2 z3 z4 z5; omega) : (own_rel (w q) (w 33) (w 44) (w 17) (w 28) (w 11) (w 14)) = (0 : Int32))).2 ?_
                show Steps p.tables e below (T29.setTop (mkF m 375 #[.val (.int p1), .val (.ref b1), .val (.int i), .val (.int (0 : Int32))] [])) _
                refine XS.iconst X29.here hx rfl (hb hby at_375) ?_
                show Steps p.tables e below (T29.setTop (mkF m 376 #[.val (.int p1), .val (.ref b1), .val (.int i), .val (.int (0 : Int32))] [(.int (1 : Int32))])) _
                refine XS.goto X29.here hx rfl (pc0 := 376) (pc' := 380) rfl (hb hby at_376) (by decide) (by decide) ?_
                show Steps p.tables e below (T29.setTop (mkF m 380 #[.val (.int p1), .val (.ref b1), .val (.int i), .val (.int (0 : Int32))] [(.int (1 : Int32))])) _
                exact retN X29 hx (t := .boolean) Bd.returns (by simp) (hb hby at_380) hr
              · show Q0 h0 n0 _ T29.heap _
                rw [eh29]
                exact ⟨rfl, N29⟩
set_option maxRecDepth 65536 in
set_option maxHeartbeats 40000000 in
theorem comes_1 {Post : Tables → Env → Array Value → State → Outcome → State → Prop} (hpost : ∀ tb e args s v u, (limb_1_1.after args s (.returned v) u = true ∧ limb_1_2.after args s (.returned v) u = true ∧ True) → FrameEnd s (.returned v) u (Jvm.fieldLocs frame_1_writes args s ++ Jvm.arrayLocs frame_1_arrays args s ++ Jvm.staticLocs frame_1_statics s) 16 192 → Post tb e args s (.returned v) u) :
    ArmFor flags0 classFile x code maxLocals ret World_1 tables_1 room_1 Calls_1 rest_1 Pre_1 Post := by
  intro l hfl _ _ p e ha hc hk s m args below hf hA hF happ hP
  obtain ⟨hcalls, hrest, hpre⟩ := hP
  obtain ⟨-, -, -, hnamed, -, -, -, hat⟩ := (Spec.applies_iff hf).mp happ
  obtain ⟨hg, hn⟩ := and_e (Cond.before_iff.mp (show (Jvm.Cond.and given_1 narrow_1).before args s = true from hpre))
  obtain ⟨hcnt, ha0⟩ := and_e hg
  obtain ⟨w0, rfl⟩ : ∃ w0 : Value, args = #[w0] := by
    have hs : args.size = 1 := by simpa [Cond.value, given_1] using hcnt
    obtain ⟨L⟩ := args
    match L, hs with
    | [w0], _ => exact ⟨w0, rfl⟩
  have hw := fun d (hd : d ∈ tables_1) => atoms_spec (ws := Jvm.Cond.code x code maxLocals ret :: tables_1) hat d (List.mem_cons_of_mem _ hd)
  obtain ⟨i0, ei0⟩ := is_v ha0
  obtain rfl : w0 = (.int i0) := Option.some.inj ei0
  obtain ⟨hg0, hr0⟩ := and_e hn
  obtain ⟨w_ACCESS_METHOD, ev_ACCESS_METHOD⟩ := exa_v hg0
  have E_ACCESS_METHOD : Exa s s.heap w_ACCESS_METHOD "com/example/largo/largo/ObjectType" := Exa.start ev_ACCESS_METHOD hg0
  have S_ACCESS_METHOD : Sta s s.heap "com/example/largo/largo/ObjectType" "ACCESS_METHOD" "Lcom/example/largo/largo/ObjectType;" (.ref w_ACCESS_METHOD) := Sta.start ev_ACCESS_METHOD (Or.inr ⟨(hw _ (List.mem_of_getElem? (i := 3) rfl)), (hw _ (List.mem_of_getElem? (i := 4) rfl))⟩)
  obtain ⟨hg1, hr1⟩ := and_e hr0
  obtain ⟨w_AGGREGATE, ev_AGGREGATE⟩ := exa_v hg1
  have E_AGGREGATE : Exa s s.heap w_AGGREGATE "com/example/largo/largo/ObjectType" := Exa.start ev_AGGREGATE hg1
  have S_AGGREGATE : Sta s s.heap "com/example/largo/largo/ObjectType" "AGGREGATE" "Lcom/example/largo/largo/ObjectType;" (.ref w_AGGREGATE) := Sta.start ev_AGGREGATE (Or.inr ⟨(hw _ (List.mem_of_getElem? (i := 3) rfl)), (hw _ (List.mem_of_getElem? (i := 7) rfl))⟩)
  obtain ⟨hg2, hr2⟩ := and_e hr1
  obtain ⟨w_CAST, ev_CAST⟩ := exa_v hg2
  have E_CAST : Exa s s.heap w_CAST "com/example/largo/largo/ObjectType" := Exa.start ev_CAST hg2
  have S_CAST : Sta s s.heap "com/example/largo/largo/ObjectType" "CAST" "Lcom/example/largo/largo/ObjectType;" (.ref w_CAST) := Sta.start ev_CAST (Or.inr ⟨(hw _ (List.mem_of_getElem? (i := 3) rfl)), (hw _ (List.mem_of_getElem? (i := 9) rfl))⟩)
  obtain ⟨hg3, hr3⟩ := and_e hr2
  obtain ⟨w_COLLATION, ev_COLLATION⟩ := exa_v hg3
  have E_COLLATION : Exa s s.heap w_COLLATION "com/example/largo/largo/ObjectType" := Exa.start ev_COLLATION hg3
  have S_COLLATION : Sta s s.heap "com/example/largo/largo/ObjectType" "COLLATION" "Lcom/example/largo/largo/ObjectType;" (.ref w_COLLATION) := Sta.start ev_COLLATION (Or.inr ⟨(hw _ (List.mem_of_getElem? (i := 3) rfl)), (hw _ (List.mem_of_getElem? (i := 11) rfl))⟩)
  obtain ⟨hg4, hr4⟩ := and_e hr3
  obtain ⟨w_CONVERSION, ev_CONVERSION⟩ := exa_v hg4
  have E_CONVERSION : Exa s s.heap w_CONVERSION "com/example/largo/largo/ObjectType" := Exa.start ev_CONVERSION hg4
  have S_CONVERSION : Sta s s.heap "com/example/largo/largo/ObjectType" "CONVERSION" "Lcom/example/largo/largo/ObjectType;" (.ref w_CONVERSION) := Sta.start ev_CONVERSION (Or.inr ⟨(hw _ (List.mem_of_getElem? (i := 3) rfl)), (hw _ (List.mem_of_getElem? (i := 13) rfl))⟩)
  obtain ⟨hg5, hr5⟩ := and_e hr4
  obtain ⟨w_DATABASE, ev_DATABASE⟩ := exa_v hg5
  have E_DATABASE : Exa s s.heap w_DATABASE "com/example/largo/largo/ObjectType" := Exa.start ev_DATABASE hg5
  have S_DATABASE : Sta s s.heap "com/example/largo/largo/ObjectType" "DATABASE" "Lcom/example/largo/largo/ObjectType;" (.ref w_DATABASE) := Sta.start ev_DATABASE (Or.inr ⟨(hw _ (List.mem_of_getElem? (i := 3) rfl)), (hw _ (List.mem_of_getElem? (i := 15) rfl))⟩)
  obtain ⟨hg6, hr6⟩ := and_e hr5
  obtain ⟨w_DEFAULT_PRIVILEGES, ev_DEFAULT_PRIVILEGES⟩ := exa_v hg6
  have E_DEFAULT_PRIVILEGES : Exa s s.heap w_DEFAULT_PRIVILEGES "com/example/largo/largo/ObjectType" := Exa.start ev_DEFAULT_PRIVILEGES hg6
  have S_DEFAULT_PRIVILEGES : Sta s s.heap "com/example/largo/largo/ObjectType" "DEFAULT_PRIVILEGES" "Lcom/example/largo/largo/ObjectType;" (.ref w_DEFAULT_PRIVILEGES) := Sta.start ev_DEFAULT_PRIVILEGES (Or.inr ⟨(hw _ (List.mem_of_getElem? (i := 3) rfl)), (hw _ (List.mem_of_getElem? (i := 17) rfl))⟩)
  obtain ⟨hg7, hr7⟩ := and_e hr6
  obtain ⟨w_DOMAIN, ev_DOMAIN⟩ := exa_v hg7
  have E_DOMAIN : Exa s s.heap w_DOMAIN "com/example/largo/largo/ObjectType" := Exa.start ev_DOMAIN hg7
  have S_DOMAIN : Sta s s.heap "com/example/largo/largo/ObjectType" "DOMAIN" "Lcom/example/largo/largo/ObjectType;" (.ref w_DOMAIN) := Sta.start ev_DOMAIN (Or.inr ⟨(hw _ (List.mem_of_getElem? (i := 3) rfl)), (hw _ (List.mem_of_getElem? (i := 19) rfl))⟩)
  obtain ⟨hg8, hr8⟩ := and_e hr7
  obtain ⟨w_EVENT_TRIGGER, ev_EVENT_TRIGGER⟩ := exa_v hg8
  have E_EVENT_TRIGGER : Exa s s.heap w_EVENT_TRIGGER "com/example/largo/largo/ObjectType" := Exa.start ev_EVENT_TRIGGER hg8
  have S_EVENT_TRIGGER : Sta s s.heap "com/example/largo/largo/ObjectType" "EVENT_TRIGGER" "Lcom/example/largo/largo/ObjectType;" (.ref w_EVENT_TRIGGER) := Sta.start ev_EVENT_TRIGGER (Or.inr ⟨(hw _ (List.mem_of_getElem? (i := 3) rfl)), (hw _ (List.mem_of_getElem? (i := 21) rfl))⟩)
  obtain ⟨hg9, hr9⟩ := and_e hr8
  obtain ⟨w_EXTENSION, ev_EXTENSION⟩ := exa_v hg9
  have E_EXTENSION : Exa s s.heap w_EXTENSION "com/example/largo/largo/ObjectType" := Exa.start ev_EXTENSION hg9
  have S_EXTENSION : Sta s s.heap "com/example/largo/largo/ObjectType" "EXTENSION" "Lcom/example/largo/largo/ObjectType;" (.ref w_EXTENSION) := Sta.start ev_EXTENSION (Or.inr ⟨(hw _ (List.mem_of_getElem? (i := 3) rfl)), (hw _ (List.mem_of_getElem? (i := 23) rfl))⟩)
  obtain ⟨hg10, hr10⟩ := and_e hr9
  obtain ⟨w_FOREIGN_DATA_WRAPPER, ev_FOREIGN_DATA_WRAPPER⟩ := exa_v hg10
  have E_FOREIGN_DATA_WRAPPER : Exa s s.heap w_FOREIGN_DATA_WRAPPER "com/example/largo/largo/ObjectType" := Exa.start ev_FOREIGN_DATA_WRAPPER hg10
  have S_FOREIGN_DATA_WRAPPER : Sta s s.heap "com/example/largo/largo/ObjectType" "FOREIGN_DATA_WRAPPER" "Lcom/example/largo/largo/ObjectType;" (.ref w_FOREIGN_DATA_WRAPPER) := Sta.start ev_FOREIGN_DATA_WRAPPER (Or.inr ⟨(hw _ (List.mem_of_getElem? (i := 3) rfl)), (hw _ (List.mem_of_getElem? (i := 25) rfl))⟩)
  obtain ⟨hg11, hr11⟩ := and_e hr10
  obtain ⟨w_FOREIGN_TABLE, ev_FOREIGN_TABLE⟩ := exa_v hg11
  have E_FOREIGN_TABLE : Exa s s.heap w_FOREIGN_TABLE "com/example/largo/largo/ObjectType" := Exa.start ev_FOREIGN_TABLE hg11
  have S_FOREIGN_TABLE : Sta s s.heap "com/example/largo/largo/ObjectType" "FOREIGN_TABLE" "Lcom/example/largo/largo/ObjectType;" (.ref w_FOREIGN_TABLE) := Sta.start ev_FOREIGN_TABLE (Or.inr ⟨(hw _ (List.mem_of_getElem? (i := 3) rfl)), (hw _ (List.mem_of_getElem? (i := 27) rfl))⟩)
  obtain ⟨hg12, hr12⟩ := and_e hr11
  obtain ⟨w_FUNCTION, ev_FUNCTION⟩ := exa_v hg12
  have E_FUNCTION : Exa s s.heap w_FUNCTION "com/example/largo/largo/ObjectType" := Exa.start ev_FUNCTION hg12
  have S_FUNCTION : Sta s s.heap "com/example/largo/largo/ObjectType" "FUNCTION" "Lcom/example/largo/largo/ObjectType;" (.ref w_FUNCTION) := Sta.start ev_FUNCTION (Or.inr ⟨(hw _ (List.mem_of_getElem? (i := 3) rfl)), (hw _ (List.mem_of_getElem? (i := 29) rfl))⟩)
  obtain ⟨hg13, hr13⟩ := and_e hr12
  obtain ⟨w_GROUP, ev_GROUP⟩ := exa_v hg13
  have E_GROUP : Exa s s.heap w_GROUP "com/example/largo/largo/ObjectType" := Exa.start ev_GROUP hg13
  have S_GROUP : Sta s s.heap "com/example/largo/largo/ObjectType" "GROUP" "Lcom/example/largo/largo/ObjectType;" (.ref w_GROUP) := Sta.start ev_GROUP (Or.inr ⟨(hw _ (List.mem_of_getElem? (i := 3) rfl)), (hw _ (List.mem_of_getElem? (i := 31) rfl))⟩)
  obtain ⟨hg14, hr14⟩ := and_e hr13
  obtain ⟨w_INDEX, ev_INDEX⟩ := exa_v hg14
  have E_INDEX : Exa s s.heap w_INDEX "com/example/largo/largo/ObjectType" := Exa.start ev_INDEX hg14
  have S_INDEX : Sta s s.heap "com/example/largo/largo/ObjectType" "INDEX" "Lcom/example/largo/largo/ObjectType;" (.ref w_INDEX) := Sta.start ev_INDEX (Or.inr ⟨(hw _ (List.mem_of_getElem? (i := 3) rfl)), (hw _ (List.mem_of_getElem? (i := 33) rfl))⟩)
  obtain ⟨hg15, hr15⟩ := and_e hr14
  obtain ⟨w_LANGUAGE, ev_LANGUAGE⟩ := exa_v hg15
  have E_LANGUAGE : Exa s s.heap w_LANGUAGE "com/example/largo/largo/ObjectType" := Exa.start ev_LANGUAGE hg15
  have S_LANGUAGE : Sta s s.heap "com/example/largo/largo/ObjectType" "LANGUAGE" "Lcom/example/largo/largo/ObjectType;" (.ref w_LANGUAGE) := Sta.start ev_LANGUAGE (Or.inr ⟨(hw _ (List.mem_of_getElem? (i := 3) rfl)), (hw _ (List.mem_of_getElem? (i := 35) rfl))⟩)
  obtain ⟨hg16, hr16⟩ := and_e hr15
  obtain ⟨w_LARGE_OBJECT, ev_LARGE_OBJECT⟩ := exa_v hg16
  have E_LARGE_OBJECT : Exa s s.heap w_LARGE_OBJECT "com/example/largo/largo/ObjectType" := Exa.start ev_LARGE_OBJECT hg16
  have S_LARGE_OBJECT : Sta s s.heap "com/example/largo/largo/ObjectType" "LARGE_OBJECT" "Lcom/example/largo/largo/ObjectType;" (.ref w_LARGE_OBJECT) := Sta.start ev_LARGE_OBJECT (Or.inr ⟨(hw _ (List.mem_of_getElem? (i := 3) rfl)), (hw _ (List.mem_of_getElem? (i := 37) rfl))⟩)
  obtain ⟨hg17, hr17⟩ := and_e hr16
  obtain ⟨w_MATERIALIZED_VIEW, ev_MATERIALIZED_VIEW⟩ := exa_v hg17
  have E_MATERIALIZED_VIEW : Exa s s.heap w_MATERIALIZED_VIEW "com/example/largo/largo/ObjectType" := Exa.start ev_MATERIALIZED_VIEW hg17
  have S_MATERIALIZED_VIEW : Sta s s.heap "com/example/largo/largo/ObjectType" "MATERIALIZED_VIEW" "Lcom/example/largo/largo/ObjectType;" (.ref w_MATERIALIZED_VIEW) := Sta.start ev_MATERIALIZED_VIEW (Or.inr ⟨(hw _ (List.mem_of_getElem? (i := 3) rfl)), (hw _ (List.mem_of_getElem? (i := 39) rfl))⟩)
  obtain ⟨hg18, hr18⟩ := and_e hr17
  obtain ⟨w_OPERATOR, ev_OPERATOR⟩ := exa_v hg18
  have E_OPERATOR : Exa s s.heap w_OPERATOR "com/example/largo/largo/ObjectType" := Exa.start ev_OPERATOR hg18
  have S_OPERATOR : Sta s s.heap "com/example/largo/largo/ObjectType" "OPERATOR" "Lcom/example/largo/largo/ObjectType;" (.ref w_OPERATOR) := Sta.start ev_OPERATOR (Or.inr ⟨(hw _ (List.mem_of_getElem? (i := 3) rfl)), (hw _ (List.mem_of_getElem? (i := 41) rfl))⟩)
  obtain ⟨hg19, hr19⟩ := and_e hr18
  obtain ⟨w_OPERATOR_CLASS, ev_OPERATOR_CLASS⟩ := exa_v hg19
  have E_OPERATOR_CLASS : Exa s s.heap w_OPERATOR_CLASS "com/example/largo/largo/ObjectType" := Exa.start ev_OPERATOR_CLASS hg19
  have S_OPERATOR_CLASS : Sta s s.heap "com/example/largo/largo/ObjectType" "OPERATOR_CLASS" "Lcom/example/largo/largo/ObjectType;" (.ref w_OPERATOR_CLASS) := Sta.start ev_OPERATOR_CLASS (Or.inr ⟨(hw _ (List.mem_of_getElem? (i := 3) rfl)), (hw _ (List.mem_of_getElem? (i := 43) rfl))⟩)
  obtain ⟨hg20, hr20⟩ := and_e hr19
  obtain ⟨w_OPERATOR_FAMILY, ev_OPERATOR_FAMILY⟩ := exa_v hg20
  have E_OPERATOR_FAMILY : Exa s s.heap w_OPERATOR_FAMILY "com/example/largo/largo/ObjectType" := Exa.start ev_OPERATOR_FAMILY hg20
  have S_OPERATOR_FAMILY : Sta s s.heap "com/example/largo/largo/ObjectType" "OPERATOR_FAMILY" "Lcom/example/largo/largo/ObjectType;" (.ref w_OPERATOR_FAMILY) := Sta.start ev_OPERATOR_FAMILY (Or.inr ⟨(hw _ (List.mem_of_getElem? (i := 3) rfl)), (hw _ (List.mem_of_getElem? (i := 45) rfl))⟩)
  obtain ⟨hg21, hr21⟩ := and_e hr20
  obtain ⟨w_POLICY, ev_POLICY⟩ := exa_v hg21
  have E_POLICY : Exa s s.heap w_POLICY "com/example/largo/largo/ObjectType" := Exa.start ev_POLICY hg21
  have S_POLICY : Sta s s.heap "com/example/largo/largo/ObjectType" "POLICY" "Lcom/example/largo/largo/ObjectType;" (.ref w_POLICY) := Sta.start ev_POLICY (Or.inr ⟨(hw _ (List.mem_of_getElem? (i := 3) rfl)), (hw _ (List.mem_of_getElem? (i := 47) rfl))⟩)
  obtain ⟨hg22, hr22⟩ := and_e hr21
  obtain ⟨w_PROCEDURE, ev_PROCEDURE⟩ := exa_v hg22
  have E_PROCEDURE : Exa s s.heap w_PROCEDURE "com/example/largo/largo/ObjectType" := Exa.start ev_PROCEDURE hg22
  have S_PROCEDURE : Sta s s.heap "com/example/largo/largo/ObjectType" "PROCEDURE" "Lcom/example/largo/largo/ObjectType;" (.ref w_PROCEDURE) := Sta.start ev_PROCEDURE (Or.inr ⟨(hw _ (List.mem_of_getElem? (i := 3) rfl)), (hw _ (List.mem_of_getElem? (i := 49) rfl))⟩)
  obtain ⟨hg23, hr23⟩ := and_e hr22
  obtain ⟨w_PUBLICATION, ev_PUBLICATION⟩ := exa_v hg23
  have E_PUBLICATION : Exa s s.heap w_PUBLICATION "com/example/largo/largo/ObjectType" := Exa.start ev_PUBLICATION hg23
  have S_PUBLICATION : Sta s s.heap "com/example/largo/largo/ObjectType" "PUBLICATION" "Lcom/example/largo/largo/ObjectType;" (.ref w_PUBLICATION) := Sta.start ev_PUBLICATION (Or.inr ⟨(hw _ (List.mem_of_getElem? (i := 3) rfl)), (hw _ (List.mem_of_getElem? (i := 51) rfl))⟩)
  obtain ⟨hg24, hr24⟩ := and_e hr23
  obtain ⟨w_ROLE, ev_ROLE⟩ := exa_v hg24
  have E_ROLE : Exa s s.heap w_ROLE "com/example/largo/largo/ObjectType" := Exa.start ev_ROLE hg24
  have S_ROLE : Sta s s.heap "com/example/largo/largo/ObjectType" "ROLE" "Lcom/example/largo/largo/ObjectType;" (.ref w_ROLE) := Sta.start ev_ROLE (Or.inr ⟨(hw _ (List.mem_of_getElem? (i := 3) rfl)), (hw _ (List.mem_of_getElem? (i := 53) rfl))⟩)
  obtain ⟨hg25, hr25⟩ := and_e hr24
  obtain ⟨w_ROUTINE, ev_ROUTINE⟩ := exa_v hg25
  have E_ROUTINE : Exa s s.heap w_ROUTINE "com/example/largo/largo/ObjectType" := Exa.start ev_ROUTINE hg25
  have S_ROUTINE : Sta s s.heap "com/example/largo/largo/ObjectType" "ROUTINE" "Lcom/example/largo/largo/ObjectType;" (.ref w_ROUTINE) := Sta.start ev_ROUTINE (Or.inr ⟨(hw _ (List.mem_of_getElem? (i := 3) rfl)), (hw _ (List.mem_of_getElem? (i := 55) rfl))⟩)
  obtain ⟨hg26, hr26⟩ := and_e hr25
  obtain ⟨w_RULE, ev_RULE⟩ := exa_v hg26
  have E_RULE : Exa s s.heap w_RULE "com/example/largo/largo/ObjectType" := Exa.start ev_RULE hg26
  have S_RULE : Sta s s.heap "com/example/largo/largo/ObjectType" "RULE" "Lcom/example/largo/largo/ObjectType;" (.ref w_RULE) := Sta.start ev_RULE (Or.inr ⟨(hw _ (List.mem_of_getElem? (i := 3) rfl)), (hw _ (List.mem_of_getElem? (i := 57) rfl))⟩)
  obtain ⟨hg27, hr27⟩ := and_e hr26
  obtain ⟨w_SCHEMA, ev_SCHEMA⟩ := exa_v hg27
  have E_SCHEMA : Exa s s.heap w_SCHEMA "com/example/largo/largo/ObjectType" := Exa.start ev_SCHEMA hg27
  have S_SCHEMA : Sta s s.heap "com/example/largo/largo/ObjectType" "SCHEMA" "Lcom/example/largo/largo/ObjectType;" (.ref w_SCHEMA) := Sta.start ev_SCHEMA (Or.inr ⟨(hw _ (List.mem_of_getElem? (i := 3) rfl)), (hw _ (List.mem_of_getElem? (i := 59) rfl))⟩)
  obtain ⟨hg28, hr28⟩ := and_e hr27
  obtain ⟨w_SEQUENCE, ev_SEQUENCE⟩ := exa_v hg28
  have E_SEQUENCE : Exa s s.heap w_SEQUENCE "com/example/largo/largo/ObjectType" := Exa.start ev_SEQUENCE hg28
  have S_SEQUENCE : Sta s s.heap "com/example/largo/largo/ObjectType" "SEQUENCE" "Lcom/example/largo/largo/ObjectType;" (.ref w_SEQUENCE) := Sta.start ev_SEQUENCE (Or.inr ⟨(hw _ (List.mem_of_getElem? (i := 3) rfl)), (hw _ (List.mem_of_getElem? (i := 61) rfl))⟩)
  obtain ⟨hg29, hr29⟩ := and_e hr28
  obtain ⟨w_SERVER, ev_SERVER⟩ := exa_v hg29
  have E_SERVER : Exa s s.heap w_SERVER "com/example/largo/largo/ObjectType" := Exa.start ev_SERVER hg29
  have S_SERVER : Sta s s.heap "com/example/largo/largo/ObjectType" "SERVER" "Lcom/example/largo/largo/ObjectType;" (.ref w_SERVER) := Sta.start ev_SERVER (Or.inr ⟨(hw _ (List.mem_of_getElem? (i := 3) rfl)), (hw _ (List.mem_of_getElem? (i := 63) rfl))⟩)
  obtain ⟨hg30, hr30⟩ := and_e hr29
  obtain ⟨w_STATISTICS, ev_STATISTICS⟩ := exa_v hg30
  have E_STATISTICS : Exa s s.heap w_STATISTICS "com/example/largo/largo/ObjectType" := Exa.start ev_STATISTICS hg30
  have S_STATISTICS : Sta s s.heap "com/example/largo/largo/ObjectType" "STATISTICS" "Lcom/example/largo/largo/ObjectType;" (.ref w_STATISTICS) := Sta.start ev_STATISTICS (Or.inr ⟨(hw _ (List.mem_of_getElem? (i := 3) rfl)), (hw _ (List.mem_of_getElem? (i := 65) rfl))⟩)
  obtain ⟨hg31, hr31⟩ := and_e hr30
  obtain ⟨w_SUBSCRIPTION, ev_SUBSCRIPTION⟩ := exa_v hg31
  have E_SUBSCRIPTION : Exa s s.heap w_SUBSCRIPTION "com/example/largo/largo/ObjectType" := Exa.start ev_SUBSCRIPTION hg31
  have S_SUBSCRIPTION : Sta s s.heap "com/example/largo/largo/ObjectType" "SUBSCRIPTION" "Lcom/example/largo/largo/ObjectType;" (.ref w_SUBSCRIPTION) := Sta.start ev_SUBSCRIPTION (Or.inr ⟨(hw _ (List.mem_of_getElem? (i := 3) rfl)), (hw _ (List.mem_of_getElem? (i := 67) rfl))⟩)
  obtain ⟨hg32, hr32⟩ := and_e hr31
  obtain ⟨w_SYSTEM, ev_SYSTEM⟩ := exa_v hg32
  have E_SYSTEM : Exa s s.heap w_SYSTEM "com/example/largo/largo/ObjectType" := Exa.start ev_SYSTEM hg32
  have S_SYSTEM : Sta s s.heap "com/example/largo/largo/ObjectType" "SYSTEM" "Lcom/example/largo/largo/ObjectType;" (.ref w_SYSTEM) := Sta.start ev_SYSTEM (Or.inr ⟨(hw _ (List.mem_of_getElem? (i := 3) rfl)), (hw _ (List.mem_of_getElem? (i := 69) rfl))⟩)
  obtain ⟨hg33, hr33⟩ := and_e hr32
  obtain ⟨w_TABLE, ev_TABLE⟩ := exa_v hg33
  have E_TABLE : Exa s s.heap w_TABLE "com/example/largo/largo/ObjectType" := Exa.start ev_TABLE hg33
  have S_TABLE : Sta s s.heap "com/example/largo/largo/ObjectType" "TABLE" "Lcom/example/largo/largo/ObjectType;" (.ref w_TABLE) := Sta.start ev_TABLE (Or.inr ⟨(hw _ (List.mem_of_getElem? (i := 3) rfl)), (hw _ (List.mem_of_getElem? (i := 71) rfl))⟩)
  obtain ⟨hg34, hr34⟩ := and_e hr33
  obtain ⟨w_TABLESPACE, ev_TABLESPACE⟩ := exa_v hg34
  have E_TABLESPACE : Exa s s.heap w_TABLESPACE "com/example/largo/largo/ObjectType" := Exa.start ev_TABLESPACE hg34
  have S_TABLESPACE : Sta s s.heap "com/example/largo/largo/ObjectType" "TABLESPACE" "Lcom/example/largo/largo/ObjectType;" (.ref w_TABLESPACE) := Sta.start ev_TABLESPACE (Or.inr ⟨(hw _ (List.mem_of_getElem? (i := 3) rfl)), (hw _ (List.mem_of_getElem? (i := 73) rfl))⟩)
  obtain ⟨hg35, hr35⟩ := and_e hr34
  obtain ⟨w_TEXT_SEARCH_CONFIGURATION, ev_TEXT_SEARCH_CONFIGURATION⟩ := exa_v hg35
  have E_TEXT_SEARCH_CONFIGURATION : Exa s s.heap w_TEXT_SEARCH_CONFIGURATION "com/example/largo/largo/ObjectType" := Exa.start ev_TEXT_SEARCH_CONFIGURATION hg35
  have S_TEXT_SEARCH_CONFIGURATION : Sta s s.heap "com/example/largo/largo/ObjectType" "TEXT_SEARCH_CONFIGURATION" "Lcom/example/largo/largo/ObjectType;" (.ref w_TEXT_SEARCH_CONFIGURATION) := Sta.start ev_TEXT_SEARCH_CONFIGURATION (Or.inr ⟨(hw _ (List.mem_of_getElem? (i := 3) rfl)), (hw _ (List.mem_of_getElem? (i := 75) rfl))⟩)
  obtain ⟨hg36, hr36⟩ := and_e hr35
  obtain ⟨w_TEXT_SEARCH_DICTIONARY, ev_TEXT_SEARCH_DICTIONARY⟩ := exa_v hg36
  have E_TEXT_SEARCH_DICTIONARY : Exa s s.heap w_TEXT_SEARCH_DICTIONARY "com/example/largo/largo/ObjectType" := Exa.start ev_TEXT_SEARCH_DICTIONARY hg36
  have S_TEXT_SEARCH_DICTIONARY : Sta s s.heap "com/example/largo/largo/ObjectType" "TEXT_SEARCH_DICTIONARY" "Lcom/example/largo/largo/ObjectType;" (.ref w_TEXT_SEARCH_DICTIONARY) := Sta.start ev_TEXT_SEARCH_DICTIONARY (Or.inr ⟨(hw _ (List.mem_of_getElem? (i := 3) rfl)), (hw _ (List.mem_of_getElem? (i := 77) rfl))⟩)
  obtain ⟨hg37, hr37⟩ := and_e hr36
  obtain ⟨w_TEXT_SEARCH_PARSER, ev_TEXT_SEARCH_PARSER⟩ := exa_v hg37
  have E_TEXT_SEARCH_PARSER : Exa s s.heap w_TEXT_SEARCH_PARSER "com/example/largo/largo/ObjectType" := Exa.start ev_TEXT_SEARCH_PARSER hg37
  have S_TEXT_SEARCH_PARSER : Sta s s.heap "com/example/largo/largo/ObjectType" "TEXT_SEARCH_PARSER" "Lcom/example/largo/largo/ObjectType;" (.ref w_TEXT_SEARCH_PARSER) := Sta.start ev_TEXT_SEARCH_PARSER (Or.inr ⟨(hw _ (List.mem_of_getElem? (i := 3) rfl)), (hw _ (List.mem_of_getElem? (i := 79) rfl))⟩)
  obtain ⟨hg38, hr38⟩ := and_e hr37
  obtain ⟨w_TEXT_SEARCH_TEMPLATE, ev_TEXT_SEARCH_TEMPLATE⟩ := exa_v hg38
  have E_TEXT_SEARCH_TEMPLATE : Exa s s.heap w_TEXT_SEARCH_TEMPLATE "com/example/largo/largo/ObjectType" := Exa.start ev_TEXT_SEARCH_TEMPLATE hg38
  have S_TEXT_SEARCH_TEMPLATE : Sta s s.heap "com/example/largo/largo/ObjectType" "TEXT_SEARCH_TEMPLATE" "Lcom/example/largo/largo/ObjectType;" (.ref w_TEXT_SEARCH_TEMPLATE) := Sta.start ev_TEXT_SEARCH_TEMPLATE (Or.inr ⟨(hw _ (List.mem_of_getElem? (i := 3) rfl)), (hw _ (List.mem_of_getElem? (i := 81) rfl))⟩)
  obtain ⟨hg39, hr39⟩ := and_e hr38
  obtain ⟨w_TRANSFORM, ev_TRANSFORM⟩ := exa_v hg39
  have E_TRANSFORM : Exa s s.heap w_TRANSFORM "com/example/largo/largo/ObjectType" := Exa.start ev_TRANSFORM hg39
  have S_TRANSFORM : Sta s s.heap "com/example/largo/largo/ObjectType" "TRANSFORM" "Lcom/example/largo/largo/ObjectType;" (.ref w_TRANSFORM) := Sta.start ev_TRANSFORM (Or.inr ⟨(hw _ (List.mem_of_getElem? (i := 3) rfl)), (hw _ (List.mem_of_getElem? (i := 83) rfl))⟩)
  obtain ⟨hg40, hr40⟩ := and_e hr39
  obtain ⟨w_TRIGGER, ev_TRIGGER⟩ := exa_v hg40
  have E_TRIGGER : Exa s s.heap w_TRIGGER "com/example/largo/largo/ObjectType" := Exa.start ev_TRIGGER hg40
  have S_TRIGGER : Sta s s.heap "com/example/largo/largo/ObjectType" "TRIGGER" "Lcom/example/largo/largo/ObjectType;" (.ref w_TRIGGER) := Sta.start ev_TRIGGER (Or.inr ⟨(hw _ (List.mem_of_getElem? (i := 3) rfl)), (hw _ (List.mem_of_getElem? (i := 85) rfl))⟩)
  obtain ⟨hg41, hr41⟩ := and_e hr40
  obtain ⟨w_TYPE, ev_TYPE⟩ := exa_v hg41
  have E_TYPE : Exa s s.heap w_TYPE "com/example/largo/largo/ObjectType" := Exa.start ev_TYPE hg41
  have S_TYPE : Sta s s.heap "com/example/largo/largo/ObjectType" "TYPE" "Lcom/example/largo/largo/ObjectType;" (.ref w_TYPE) := Sta.start ev_TYPE (Or.inr ⟨(hw _ (List.mem_of_getElem? (i := 3) rfl)), (hw _ (List.mem_of_getElem? (i := 87) rfl))⟩)
  obtain ⟨hg42, hr42⟩ := and_e hr41
  obtain ⟨w_USER, ev_USER⟩ := exa_v hg42
  have E_USER : Exa s s.heap w_USER "com/example/largo/largo/ObjectType" := Exa.start ev_USER hg42
  have S_USER : Sta s s.heap "com/example/largo/largo/ObjectType" "USER" "Lcom/example/largo/largo/ObjectType;" (.ref w_USER) := Sta.start ev_USER (Or.inr ⟨(hw _ (List.mem_of_getElem? (i := 3) rfl)), (hw _ (List.mem_of_getElem? (i := 89) rfl))⟩)
  obtain ⟨hg43, hr43⟩ := and_e hr42
  obtain ⟨w_USER_MAPPING, ev_USER_MAPPING⟩ := exa_v hg43
  have E_USER_MAPPING : Exa s s.heap w_USER_MAPPING "com/example/largo/largo/ObjectType" := Exa.start ev_USER_MAPPING hg43
  have S_USER_MAPPING : Sta s s.heap "com/example/largo/largo/ObjectType" "USER_MAPPING" "Lcom/example/largo/largo/ObjectType;" (.ref w_USER_MAPPING) := Sta.start ev_USER_MAPPING (Or.inr ⟨(hw _ (List.mem_of_getElem? (i := 3) rfl)), (hw _ (List.mem_of_getElem? (i := 91) rfl))⟩)
  obtain ⟨hg44, hr44⟩ := and_e hr43
  obtain ⟨w_VIEW, ev_VIEW⟩ := exa_v hg44
  have E_VIEW : Exa s s.heap w_VIEW "com/example/largo/largo/ObjectType" := Exa.start ev_VIEW hg44
  have S_VIEW : Sta s s.heap "com/example/largo/largo/ObjectType" "VIEW" "Lcom/example/largo/largo/ObjectType;" (.ref w_VIEW) := Sta.start ev_VIEW (Or.inr ⟨(hw _ (List.mem_of_getElem? (i := 3) rfl)), (hw _ (List.mem_of_getElem? (i := 93) rfl))⟩)
  obtain ⟨hg45, hr45⟩ := and_e hr44
  have O_ordinal_ACCESS_METHOD : Fld s s.heap w_ACCESS_METHOD "java/lang/Enum" "ordinal" "I" (.int (0 : Int32)) := own_fld ev_ACCESS_METHOD hg45
  obtain ⟨hg46, hr46⟩ := and_e hr45
  have O_ordinal_TABLE : Fld s s.heap w_TABLE "java/lang/Enum" "ordinal" "I" (.int (33 : Int32)) := own_fld ev_TABLE hg46
  obtain ⟨hg47, hr47⟩ := and_e hr46
  have O_ordinal_VIEW : Fld s s.heap w_VIEW "java/lang/Enum" "ordinal" "I" (.int (44 : Int32)) := own_fld ev_VIEW hg47
  obtain ⟨hg48, hr48⟩ := and_e hr47
  have O_ordinal_MATERIALIZED_VIEW : Fld s s.heap w_MATERIALIZED_VIEW "java/lang/Enum" "ordinal" "I" (.int (17 : Int32)) := own_fld ev_MATERIALIZED_VIEW hg48
  obtain ⟨hg49, hr49⟩ := and_e hr48
  have O_ordinal_SEQUENCE : Fld s s.heap w_SEQUENCE "java/lang/Enum" "ordinal" "I" (.int (28 : Int32)) := own_fld ev_SEQUENCE hg49
  obtain ⟨hg50, hr50⟩ := and_e hr49
  have O_ordinal_FOREIGN_TABLE : Fld s s.heap w_FOREIGN_TABLE "java/lang/Enum" "ordinal" "I" (.int (11 : Int32)) := own_fld ev_FOREIGN_TABLE hg50
  obtain ⟨hg51, hr51⟩ := and_e hr50
  have O_ordinal_INDEX : Fld s s.heap w_INDEX "java/lang/Enum" "ordinal" "I" (.int (14 : Int32)) := own_fld ev_INDEX hg51
  obtain ⟨hg52, hr52⟩ := and_e hr51
  have O_ordinal_COLLATION : Fld s s.heap w_COLLATION "java/lang/Enum" "ordinal" "I" (.int (3 : Int32)) := own_fld ev_COLLATION hg52
  obtain ⟨hg53, hr53⟩ := and_e hr52
  have O_ordinal_OPERATOR_FAMILY : Fld s s.heap w_OPERATOR_FAMILY "java/lang/Enum" "ordinal" "I" (.int (20 : Int32)) := own_fld ev_OPERATOR_FAMILY hg53
  obtain ⟨hg54, hr54⟩ := and_e hr53
  have O_ordinal_POLICY : Fld s s.heap w_POLICY "java/lang/Enum" "ordinal" "I" (.int (21 : Int32)) := own_fld ev_POLICY hg54
  obtain ⟨hg55, hr55⟩ := and_e hr54
  have O_ordinal_SERVER : Fld s s.heap w_SERVER "java/lang/Enum" "ordinal" "I" (.int (29 : Int32)) := own_fld ev_SERVER hg55
  obtain ⟨hg56, hr56⟩ := and_e hr55
  have O_ordinal_DOMAIN : Fld s s.heap w_DOMAIN "java/lang/Enum" "ordinal" "I" (.int (7 : Int32)) := own_fld ev_DOMAIN hg56
  obtain ⟨hg57, hr57⟩ := and_e hr56
  have O_ordinal_CAST : Fld s s.heap w_CAST "java/lang/Enum" "ordinal" "I" (.int (2 : Int32)) := own_fld ev_CAST hg57
  obtain ⟨hg58, hr58⟩ := and_e hr57
  have O_ordinal_TRIGGER : Fld s s.heap w_TRIGGER "java/lang/Enum" "ordinal" "I" (.int (40 : Int32)) := own_fld ev_TRIGGER hg58
  obtain ⟨hg59, hr59⟩ := and_e hr58
  have O_ordinal_EVENT_TRIGGER : Fld s s.heap w_EVENT_TRIGGER "java/lang/Enum" "ordinal" "I" (.int (8 : Int32)) := own_fld ev_EVENT_TRIGGER hg59
  obtain ⟨hg60, hr60⟩ := and_e hr59
  have O_ordinal_AGGREGATE : Fld s s.heap w_AGGREGATE "java/lang/Enum" "ordinal" "I" (.int (1 : Int32)) := own_fld ev_AGGREGATE hg60
  obtain ⟨hg61, hr61⟩ := and_e hr60
  have O_ordinal_ROUTINE : Fld s s.heap w_ROUTINE "java/lang/Enum" "ordinal" "I" (.int (25 : Int32)) := own_fld ev_ROUTINE hg61
  obtain ⟨hg62, hr62⟩ := and_e hr61
  have O_ordinal_STATISTICS : Fld s s.heap w_STATISTICS "java/lang/Enum" "ordinal" "I" (.int (30 : Int32)) := own_fld ev_STATISTICS hg62
  obtain ⟨hg63, hr63⟩ := and_e hr62
  have O_ordinal_LARGE_OBJECT : Fld s s.heap w_LARGE_OBJECT "java/lang/Enum" "ordinal" "I" (.int (16 : Int32)) := own_fld ev_LARGE_OBJECT hg63
  obtain ⟨hg64, hr64⟩ := and_e hr63
  have O_ordinal_USER : Fld s s.heap w_USER "java/lang/Enum" "ordinal" "I" (.int (42 : Int32)) := own_fld ev_USER hg64
  obtain ⟨hg65, hr65⟩ := and_e hr64
  have O_ordinal_FOREIGN_DATA_WRAPPER : Fld s s.heap w_FOREIGN_DATA_WRAPPER "java/lang/Enum" "ordinal" "I" (.int (10 : Int32)) := own_fld ev_FOREIGN_DATA_WRAPPER hg65
  obtain ⟨hg66, hr66⟩ := and_e hr65
  have O_ordinal_CONVERSION : Fld s s.heap w_CONVERSION "java/lang/Enum" "ordinal" "I" (.int (4 : Int32)) := own_fld ev_CONVERSION hg66
  obtain ⟨hg67, hr67⟩ := and_e hr66
  have O_ordinal_LANGUAGE : Fld s s.heap w_LANGUAGE "java/lang/Enum" "ordinal" "I" (.int (15 : Int32)) := own_fld ev_LANGUAGE hg67
  obtain ⟨hg68, hr68⟩ := and_e hr67
  have O_ordinal_OPERATOR_CLASS : Fld s s.heap w_OPERATOR_CLASS "java/lang/Enum" "ordinal" "I" (.int (19 : Int32)) := own_fld ev_OPERATOR_CLASS hg68
  obtain ⟨hg69, hr69⟩ := and_e hr68
  have O_ordinal_PROCEDURE : Fld s s.heap w_PROCEDURE "java/lang/Enum" "ordinal" "I" (.int (22 : Int32)) := own_fld ev_PROCEDURE hg69
  obtain ⟨hg70, hr70⟩ := and_e hr69
  have O_ordinal_TEXT_SEARCH_CONFIGURATION : Fld s s.heap w_TEXT_SEARCH_CONFIGURATION "java/lang/Enum" "ordinal" "I" (.int (35 : Int32)) := own_fld ev_TEXT_SEARCH_CONFIGURATION hg70
  obtain ⟨hg71, hr71⟩ := and_e hr70
  have O_ordinal_SUBSCRIPTION : Fld s s.heap w_SUBSCRIPTION "java/lang/Enum" "ordinal" "I" (.int (31 : Int32)) := own_fld ev_SUBSCRIPTION hg71
  obtain ⟨hg72, hr72⟩ := and_e hr71
  have O_ordinal_PUBLICATION : Fld s s.heap w_PUBLICATION "java/lang/Enum" "ordinal" "I" (.int (23 : Int32)) := own_fld ev_PUBLICATION hg72
  obtain ⟨hg73, hr73⟩ := and_e hr72
  have O_ordinal_DATABASE : Fld s s.heap w_DATABASE "java/lang/Enum" "ordinal" "I" (.int (5 : Int32)) := own_fld ev_DATABASE hg73
  obtain ⟨hg74, hr74⟩ := and_e hr73
  have O_ordinal_DEFAULT_PRIVILEGES : Fld s s.heap w_DEFAULT_PRIVILEGES "java/lang/Enum" "ordinal" "I" (.int (6 : Int32)) := own_fld ev_DEFAULT_PRIVILEGES hg74
  obtain ⟨hg75, hr75⟩ := and_e hr74
  have O_ordinal_TRANSFORM : Fld s s.heap w_TRANSFORM "java/lang/Enum" "ordinal" "I" (.int (39 : Int32)) := own_fld ev_TRANSFORM hg75
  obtain ⟨hg76, hr76⟩ := and_e hr75
  have O_ordinal_EXTENSION : Fld s s.heap w_EXTENSION "java/lang/Enum" "ordinal" "I" (.int (9 : Int32)) := own_fld ev_EXTENSION hg76
  obtain ⟨hg77, hr77⟩ := and_e hr76
  have O_ordinal_FUNCTION : Fld s s.heap w_FUNCTION "java/lang/Enum" "ordinal" "I" (.int (12 : Int32)) := own_fld ev_FUNCTION hg77
  obtain ⟨hg78, hr78⟩ := and_e hr77
  have O_ordinal_GROUP : Fld s s.heap w_GROUP "java/lang/Enum" "ordinal" "I" (.int (13 : Int32)) := own_fld ev_GROUP hg78
  obtain ⟨hg79, hr79⟩ := and_e hr78
  have O_ordinal_OPERATOR : Fld s s.heap w_OPERATOR "java/lang/Enum" "ordinal" "I" (.int (18 : Int32)) := own_fld ev_OPERATOR hg79
  obtain ⟨hg80, hr80⟩ := and_e hr79
  have O_ordinal_SCHEMA : Fld s s.heap w_SCHEMA "java/lang/Enum" "ordinal" "I" (.int (27 : Int32)) := own_fld ev_SCHEMA hg80
  obtain ⟨hg81, hr81⟩ := and_e hr80
  have O_ordinal_RULE : Fld s s.heap w_RULE "java/lang/Enum" "ordinal" "I" (.int (26 : Int32)) := own_fld ev_RULE hg81
  obtain ⟨hg82, hr82⟩ := and_e hr81
  have O_ordinal_TEXT_SEARCH_PARSER : Fld s s.heap w_TEXT_SEARCH_PARSER "java/lang/Enum" "ordinal" "I" (.int (37 : Int32)) := own_fld ev_TEXT_SEARCH_PARSER hg82
  obtain ⟨hg83, hr83⟩ := and_e hr82
  have O_ordinal_SYSTEM : Fld s s.heap w_SYSTEM "java/lang/Enum" "ordinal" "I" (.int (32 : Int32)) := own_fld ev_SYSTEM hg83
  obtain ⟨hg84, hr84⟩ := and_e hr83
  have O_ordinal_TYPE : Fld s s.heap w_TYPE "java/lang/Enum" "ordinal" "I" (.int (41 : Int32)) := own_fld ev_TYPE hg84
  obtain ⟨hg85, hr85⟩ := and_e hr84
  have O_ordinal_TEXT_SEARCH_TEMPLATE : Fld s s.heap w_TEXT_SEARCH_TEMPLATE "java/lang/Enum" "ordinal" "I" (.int (38 : Int32)) := own_fld ev_TEXT_SEARCH_TEMPLATE hg85
  obtain ⟨hg86, hr86⟩ := and_e hr85
  have O_ordinal_TABLESPACE : Fld s s.heap w_TABLESPACE "java/lang/Enum" "ordinal" "I" (.int (34 : Int32)) := own_fld ev_TABLESPACE hg86
  obtain ⟨hg87, hr87⟩ := and_e hr86
  have O_ordinal_ROLE : Fld s s.heap w_ROLE "java/lang/Enum" "ordinal" "I" (.int (24 : Int32)) := own_fld ev_ROLE hg87
  obtain ⟨hg88, hr88⟩ := and_e hr87
  have O_ordinal_TEXT_SEARCH_DICTIONARY : Fld s s.heap w_TEXT_SEARCH_DICTIONARY "java/lang/Enum" "ordinal" "I" (.int (36 : Int32)) := own_fld ev_TEXT_SEARCH_DICTIONARY hg88
  have O_ordinal_USER_MAPPING : Fld s s.heap w_USER_MAPPING "java/lang/Enum" "ordinal" "I" (.int (43 : Int32)) := own_fld ev_USER_MAPPING hr88
  have hEO := own_All_get (P := fun n a => Exa s s.heap a "com/example/largo/largo/ObjectType" ∧ Fld s s.heap a "java/lang/Enum" "ordinal" "I" (.int (Int32.ofNat n))) [w_ACCESS_METHOD, w_AGGREGATE, w_CAST, w_COLLATION, w_CONVERSION, w_DATABASE, w_DEFAULT_PRIVILEGES, w_DOMAIN, w_EVENT_TRIGGER, w_EXTENSION, w_FOREIGN_DATA_WRAPPER, w_FOREIGN_TABLE, w_FUNCTION, w_GROUP, w_INDEX, w_LANGUAGE, w_LARGE_OBJECT, w_MATERIALIZED_VIEW, w_OPERATOR, w_OPERATOR_CLASS, w_OPERATOR_FAMILY, w_POLICY, w_PROCEDURE, w_PUBLICATION, w_ROLE, w_ROUTINE, w_RULE, w_SCHEMA, w_SEQUENCE, w_SERVER, w_STATISTICS, w_SUBSCRIPTION, w_SYSTEM, w_TABLE, w_TABLESPACE, w_TEXT_SEARCH_CONFIGURATION, w_TEXT_SEARCH_DICTIONARY, w_TEXT_SEARCH_PARSER, w_TEXT_SEARCH_TEMPLATE, w_TRANSFORM, w_TRIGGER, w_TYPE, w_USER, w_USER_MAPPING, w_VIEW] 0 (own_cons ⟨E_ACCESS_METHOD, O_ordinal_ACCESS_METHOD⟩ (own_cons ⟨E_AGGREGATE, O_ordinal_AGGREGATE⟩ (own_cons ⟨E_CAST, O_ordinal_CAST⟩ (own_cons ⟨E_COLLATION, O_ordinal_COLLATION⟩ (own_cons ⟨E_CONVERSION, O_ordinal_CONVERSION⟩ (own_cons ⟨E_DATABASE, O_ordinal_DATABASE⟩ (own_cons ⟨E_DEFAULT_PRIVILEGES, O_ordinal_DEFAULT_PRIVILEGES⟩ (own_cons ⟨E_DOMAIN, O_ordinal_DOMAIN⟩ (own_cons ⟨E_EVENT_TRIGGER, O_ordinal_EVENT_TRIGGER⟩ (own_cons ⟨E_EXTENSION, O_ordinal_EXTENSION⟩ (own_cons ⟨E_FOREIGN_DATA_WRAPPER, O_ordinal_FOREIGN_DATA_WRAPPER⟩ (own_cons ⟨E_FOREIGN_TABLE, O_ordinal_FOREIGN_TABLE⟩ (own_cons ⟨E_FUNCTION, O_ordinal_FUNCTION⟩ (own_cons ⟨E_GROUP, O_ordinal_GROUP⟩ (own_cons ⟨E_INDEX, O_ordinal_INDEX⟩ (own_cons ⟨E_LANGUAGE, O_ordinal_LANGUAGE⟩ (own_cons ⟨E_LARGE_OBJECT, O_ordinal_LARGE_OBJECT⟩ (own_cons ⟨E_MATERIALIZED_VIEW, O_ordinal_MATERIALIZED_VIEW⟩ (own_cons ⟨E_OPERATOR, O_ordinal_OPERATOR⟩ (own_cons ⟨E_OPERATOR_CLASS, O_ordinal_OPERATOR_CLASS⟩ (own_cons ⟨E_OPERATOR_FAMILY, O_ordinal_OPERATOR_FAMILY⟩ (own_cons ⟨E_POLICY, O_ordinal_POLICY⟩ (own_cons ⟨E_PROCEDURE, O_ordinal_PROCEDURE⟩ (own_cons ⟨E_PUBLICATION, O_ordinal_PUBLICATION⟩ (own_cons ⟨E_ROLE, O_ordinal_ROLE⟩ (own_cons ⟨E_ROUTINE, O_ordinal_ROUTINE⟩ (own_cons ⟨E_RULE, O_ordinal_RULE⟩ (own_cons ⟨E_SCHEMA, O_ordinal_SCHEMA⟩ (own_cons ⟨E_SEQUENCE, O_ordinal_SEQUENCE⟩ (own_cons ⟨E_SERVER, O_ordinal_SERVER⟩ (own_cons ⟨E_STATISTICS, O_ordinal_STATISTICS⟩ (own_cons ⟨E_SUBSCRIPTION, O_ordinal_SUBSCRIPTION⟩ (own_cons ⟨E_SYSTEM, O_ordinal_SYSTEM⟩ (own_cons ⟨E_TABLE, O_ordinal_TABLE⟩ (own_cons ⟨E_TABLESPACE, O_ordinal_TABLESPACE⟩ (own_cons ⟨E_TEXT_SEARCH_CONFIGURATION, O_ordinal_TEXT_SEARCH_CONFIGURATION⟩ (own_cons ⟨E_TEXT_SEARCH_DICTIONARY, O_ordinal_TEXT_SEARCH_DICTIONARY⟩ (own_cons ⟨E_TEXT_SEARCH_PARSER, O_ordinal_TEXT_SEARCH_PARSER⟩ (own_cons ⟨E_TEXT_SEARCH_TEMPLATE, O_ordinal_TEXT_SEARCH_TEMPLATE⟩ (own_cons ⟨E_TRANSFORM, O_ordinal_TRANSFORM⟩ (own_cons ⟨E_TRIGGER, O_ordinal_TRIGGER⟩ (own_cons ⟨E_TYPE, O_ordinal_TYPE⟩ (own_cons ⟨E_USER, O_ordinal_USER⟩ (own_cons ⟨E_USER_MAPPING, O_ordinal_USER_MAPPING⟩ (own_cons ⟨E_VIEW, O_ordinal_VIEW⟩ trivial)))))))))))))))))))))))))))))))))))))))))))))
  obtain ⟨n, o, h1, h2, h3, _, L, rfl, ⟨rfl, N⟩, hq⟩ := rm0 l s _ hw tables_1 i0 (fun i => ([w_ACCESS_METHOD, w_AGGREGATE, w_CAST, w_COLLATION, w_CONVERSION, w_DATABASE, w_DEFAULT_PRIVILEGES, w_DOMAIN, w_EVENT_TRIGGER, w_EXTENSION, w_FOREIGN_DATA_WRAPPER, w_FOREIGN_TABLE, w_FUNCTION, w_GROUP, w_INDEX, w_LANGUAGE, w_LARGE_OBJECT, w_MATERIALIZED_VIEW, w_OPERATOR, w_OPERATOR_CLASS, w_OPERATOR_FAMILY, w_POLICY, w_PROCEDURE, w_PUBLICATION, w_ROLE, w_ROUTINE, w_RULE, w_SCHEMA, w_SEQUENCE, w_SERVER, w_STATISTICS, w_SUBSCRIPTION, w_SYSTEM, w_TABLE, w_TABLESPACE, w_TEXT_SEARCH_CONFIGURATION, w_TEXT_SEARCH_DICTIONARY, w_TEXT_SEARCH_PARSER, w_TEXT_SEARCH_TEMPLATE, w_TRANSFORM, w_TRIGGER, w_TYPE, w_USER, w_USER_MAPPING, w_VIEW] : List Addr).getD i 0) s.heap s.heap.size (Nat.le_refl _) S_ACCESS_METHOD S_AGGREGATE S_CAST S_COLLATION S_CONVERSION S_DATABASE S_DEFAULT_PRIVILEGES S_DOMAIN S_EVENT_TRIGGER S_EXTENSION S_FOREIGN_DATA_WRAPPER S_FOREIGN_TABLE S_FUNCTION S_GROUP S_INDEX S_LANGUAGE S_LARGE_OBJECT S_MATERIALIZED_VIEW S_OPERATOR S_OPERATOR_CLASS S_OPERATOR_FAMILY S_POLICY S_PROCEDURE S_PUBLICATION S_ROLE S_ROUTINE S_RULE S_SCHEMA S_SEQUENCE S_SERVER S_STATISTICS S_SUBSCRIPTION S_SYSTEM S_TABLE S_TABLESPACE S_TEXT_SEARCH_CONFIGURATION S_TEXT_SEARCH_DICTIONARY S_TEXT_SEARCH_PARSER S_TEXT_SEARCH_TEMPLATE S_TRANSFORM S_TRIGGER S_TYPE S_USER S_USER_MAPPING S_VIEW (fun i hi => (hEO i hi).1) (fun i hi => by have := (hEO i hi).2; rwa [Nat.zero_add] at this) p e ha hc hk s m _ below hf ((Spec.applies_iff_loose hf).mp happ).1 ⟨rfl, State.Warmed39.refl s, rfl⟩ trivial
  refine ⟨n, _, h1, h2, h3, hpost _ _ _ _ _ _ ⟨Cond.after_iff.mpr rfl, Cond.after_iff.mpr (eq_i res_at (Term.int_eval (1)) rfl), trivial⟩ ⟨hq.1, hq.2.1, (hq.2.2.sift fun y hy => Or.inr (N y hy)).mono (by decide) (by decide)⟩⟩
theorem main_1_1 : Claimed_1_1 := comes_1 fun _ _ _ _ _ _ h hF => ⟨h.1, hF⟩
theorem main_1_2 : Claimed_1_2 := comes_1 fun _ _ _ _ _ _ h hF => ⟨h.2.1, hF⟩
end Jvm.Pilot.@@N@@
namespace Jvm.Pilot.@@N@@
open Jvm Jvm.ClassFile Sem Op Lib Jvm.Free Jvm.Stand Jvm.Pilot.@@N@@.Jvm.D
/-! MADE BY PROGRAM (witnessworld.py) out of the Statement's table words and the real class files: 13 classes; the members and pool entries that the words name. The judged class is class 1, her method 1. -/
namespace start1
open Jvm.ClassFile
def u (s : String) : CpInfo := .utf8 (stringToUtf16 s)
/-- a pool by its gaps: so many unusable entries, then the entry; so many at the end -/
def gap : Nat → List CpInfo → List CpInfo
  | 0, r => r
  | n + 1, r => .unusable :: gap n r
def poolList (es : List (Nat × CpInfo)) (last : Nat) : List CpInfo := es.foldr (fun e r => gap e.1 (e.2 :: r)) (gap last [])
def pool (es : List (Nat × CpInfo)) (last : Nat) : Array CpInfo := ⟨poolList es last⟩
def fileOf (pool : Array CpInfo) (this : Nat) (attrs : Array Attribute := #[]) (ms : Array MethodInfo := #[]) (fl : Nat := 33) (sup : Nat := 0) (ifs : Array Nat := #[]) (fds : Array FieldInfo := #[]) : ClassFile where
  minorVersion := 0
  majorVersion := 65
  constantPool := pool
  accessFlags := fl
  thisClass := this
  superClass := sup
  interfaces := ifs
  fields := fds
  methods := ms
  attributes := attrs
def plain (name : String) (sup : Option ClassId) : Class where
  name := name
  kind := .ordinary
  loader := none
  accessFlags := 33
  super := sup
  interfaces := #[]
  cf := none
  fields := #[]
  methods := #[]
  instanceTypes := #[]
  staticTypes := #[]
  resolved := #[]
  callSites := []
  init := .initialized
  statics := none
  mirror := none

def pool0 : Array CpInfo := pool [(5, u "<init>"), (0, u "()V"), (1, .class_ 10), (1, u "java/lang/Object")] 113

def k0m0 : Method := { name := "<init>", desc := "()V", sig := { parameters := [], returnType := none }, accessFlags := 1, code := none }
/-- java/lang/Object -/
def k0 : Class := { plain "java/lang/Object" none with
  accessFlags := 33
  interfaces := #[]
  cf := some (fileOf pool0 8 #[] #[{ accessFlags := 1, nameIndex := 5, descriptorIndex := 6, attributes := #[] }] 33 0 #[] #[])
  fields := #[]
  methods := #[k0m0]
  instanceTypes := #[]
  staticTypes := #[]
  resolved := Array.replicate 124 none
  statics := none }

def pool1 : Array CpInfo := pool [(2, .class_ 4), (1, u "java/lang/Object"), (0, u "<init>"), (0, u "()V"), (0, .class_ 8), (0, u "com/example/largo/largo/ObjectType"), (0, .fieldref 7 10), (0, .nameAndType 11 12), (0, u "ACCESS_METHOD"), (0, u "Lcom/example/largo/largo/ObjectType;"), (0, .fieldref 7 14), (0, .nameAndType 15 12), (0, u "AGGREGATE"), (0, .fieldref 7 17), (0, .nameAndType 18 12), (0, u "CAST"), (0, .fieldref 7 20), (0, .nameAndType 21 12), (0, u "COLLATION"), (0, .fieldref 7 23), (0, .nameAndType 24 12), (0, u "CONVERSION"), (0, .fieldref 7 26), (0, .nameAndType 27 12), (0, u "DATABASE"), (0, .fieldref 7 29), (0, .nameAndType 30 12), (0, u "DEFAULT_PRIVILEGES"), (0, .fieldref 7 32), (0, .nameAndType 33 12), (0, u "DOMAIN"), (0, .fieldref 7 35), (0, .nameAndType 36 12), (0, u "EVENT_TRIGGER"), (0, .fieldref 7 38), (0, .nameAndType 39 12), (0, u "EXTENSION"), (0, .fieldref 7 41), (0, .nameAndType 42 12), (0, u "FOREIGN_DATA_WRAPPER"), (0, .fieldref 7 44), (0, .nameAndType 45 12), (0, u "FOREIGN_TABLE"), (0, .fieldref 7 47), (0, .nameAndType 48 12), (0, u "FUNCTION"), (0, .fieldref 7 50), (0, .nameAndType 51 12), (0, u "GROUP"), (0, .fieldref 7 53), (0, .nameAndType 54 12), (0, u "INDEX"), (0, .fieldref 7 56), (0, .nameAndType 57 12), (0, u "LANGUAGE"), (0, .fieldref 7 59), (0, .nameAndType 60 12), (0, u "LARGE_OBJECT"), (0, .fieldref 7 62), (0, .nameAndType 63 12), (0, u "MATERIALIZED_VIEW"), (0, .fieldref 7 65), (0, .nameAndType 66 12), (0, u "OPERATOR"), (0, .fieldref 7 68), (0, .nameAndType 69 12), (0, u "OPERATOR_CLASS"), (0, .fieldref 7 71), (0, .nameAndType 72 12), (0, u "OPERATOR_FAMILY"), (0, .fieldref 7 74), (0, .nameAndType 75 12), (0, u "POLICY"), (0, .fieldref 7 77), (0, .nameAndType 78 12), (0, u "PROCEDURE"), (0, .fieldref 7 80), (0, .nameAndType 81 12), (0, u "PUBLICATION"), (0, .fieldref 7 83), (0, .nameAndType 84 12), (0, u "ROLE"), (0, .fieldref 7 86), (0, .nameAndType 87 12), (0, u "ROUTINE"), (0, .fieldref 7 89), (0, .nameAndType 90 12), (0, u "RULE"), (0, .fieldref 7 92), (0, .nameAndType 93 12), (0, u "SCHEMA"), (0, .fieldref 7 95), (0, .nameAndType 96 12), (0, u "SEQUENCE"), (0, .fieldref 7 98), (0, .nameAndType 99 12), (0, u "SERVER"), (0, .fieldref 7 101), (0, .nameAndType 102 12), (0, u "STATISTICS"), (0, .fieldref 7 104), (0, .nameAndType 105 12), (0, u "SUBSCRIPTION"), (0, .fieldref 7 107), (0, .nameAndType 108 12), (0, u "SYSTEM"), (0, .fieldref 7 110), (0, .nameAndType 111 12), (0, u "TABLE"), (0, .fieldref 7 113), (0, .nameAndType 114 12), (0, u "TABLESPACE"), (0, .fieldref 7 116), (0, .nameAndType 117 12), (0, u "TEXT_SEARCH_CONFIGURATION"), (0, .fieldref 7 119), (0, .nameAndType 120 12), (0, u "TEXT_SEARCH_DICTIONARY"), (0, .fieldref 7 122), (0, .nameAndType 123 12), (0, u "TEXT_SEARCH_PARSER"), (0, .fieldref 7 125), (0, .nameAndType 126 12), (0, u "TEXT_SEARCH_TEMPLATE"), (0, .fieldref 7 128), (0, .nameAndType 129 12), (0, u "TRANSFORM"), (0, .fieldref 7 131), (0, .nameAndType 132 12), (0, u "TRIGGER"), (0, .fieldref 7 134), (0, .nameAndType 135 12), (0, u "TYPE"), (0, .fieldref 7 137), (0, .nameAndType 138 12), (0, u "USER"), (0, .fieldref 7 140), (0, .nameAndType 141 12), (0, u "USER_MAPPING"), (0, .fieldref 7 143), (0, .nameAndType 144 12), (0, u "VIEW"), (0, .integer 2147483647), (0, .methodref 7 147), (0, .nameAndType 148 149), (0, u "isRelation"), (0, u "()Z"), (0, .class_ 151), (0, u "com/example/largo/largo/ObjectTypeIsRelationPinLaw"), (2, u "law"), (0, u "(I)Z")] 5

def k1m0 : Method := { name := "<init>", desc := "()V", sig := { parameters := [], returnType := none }, accessFlags := 2, code := none }
def k1c1 : Code := { maxStack := 4, maxLocals := 4, code := code, exceptionTable := #[], attributes := #[] }
def k1m1 : Method := { name := "law", desc := "(I)Z", sig := { parameters := [.int], returnType := some .boolean }, accessFlags := 9, code := some k1c1 }
/-- com/example/largo/largo/ObjectTypeIsRelationPinLaw -/
def k1 : Class := { plain "com/example/largo/largo/ObjectTypeIsRelationPinLaw" (some 0) with
  accessFlags := 49
  interfaces := #[]
  cf := some (fileOf pool1 150 #[] #[{ accessFlags := 2, nameIndex := 5, descriptorIndex := 6, attributes := #[] }, { accessFlags := 9, nameIndex := 154, descriptorIndex := 155, attributes := #[] }] 49 2 #[] #[])
  fields := #[]
  methods := #[k1m0, k1m1]
  instanceTypes := #[]
  staticTypes := #[]
  resolved := Array.replicate 161 none
  statics := none }

def pool2 : Array CpInfo := pool [(1, .class_ 2), (0, u "java/lang/constant/Constable"), (0, .class_ 4), (0, u "java/lang/Object")] 6

/-- java/lang/constant/Constable -/
def k2 : Class := { plain "java/lang/constant/Constable" (some 0) with
  accessFlags := 1537
  interfaces := #[]
  cf := some (fileOf pool2 1 #[] #[] 1537 3 #[] #[])
  fields := #[]
  methods := #[]
  instanceTypes := #[]
  staticTypes := #[]
  resolved := Array.replicate 11 none
  statics := none }

def pool3 : Array CpInfo := pool [(1, .class_ 2), (0, u "java/lang/Comparable"), (0, .class_ 4), (0, u "java/lang/Object")] 7

/-- java/lang/Comparable -/
def k3 : Class := { plain "java/lang/Comparable" (some 0) with
  accessFlags := 1537
  interfaces := #[]
  cf := some (fileOf pool3 1 #[] #[] 1537 3 #[] #[])
  fields := #[]
  methods := #[]
  instanceTypes := #[]
  staticTypes := #[]
  resolved := Array.replicate 12 none
  statics := none }

def pool4 : Array CpInfo := pool [(1, .class_ 2), (0, u "java/io/Serializable"), (0, .class_ 4), (0, u "java/lang/Object")] 2

/-- java/io/Serializable -/
def k4 : Class := { plain "java/io/Serializable" (some 0) with
  accessFlags := 1537
  interfaces := #[]
  cf := some (fileOf pool4 1 #[] #[] 1537 3 #[] #[])
  fields := #[]
  methods := #[]
  instanceTypes := #[]
  staticTypes := #[]
  resolved := Array.replicate 7 none
  statics := none }

def pool5 : Array CpInfo := pool [(2, .class_ 4), (1, u "java/lang/Enum"), (0, u "name"), (0, u "Ljava/lang/String;"), (2, u "ordinal"), (0, u "I"), (1, .class_ 14), (1, u "java/lang/Object"), (4, u "hash"), (86, .class_ 108), (1, u "java/lang/Enum$EnumDesc"), (2, .class_ 112), (0, u "java/lang/constant/Constable"), (0, .class_ 114), (0, u "java/lang/Comparable"), (0, .class_ 116), (0, u "java/io/Serializable")] 87

/-- java/lang/Enum -/
def k5 : Class := { plain "java/lang/Enum" (some 0) with
  accessFlags := 1057
  interfaces := #[2, 3, 4]
  cf := some (fileOf pool5 2 #[.nestMembers #[106]] #[] 1057 12 #[111, 113, 115] #[{ accessFlags := 18, nameIndex := 5, descriptorIndex := 6, attributes := #[] }, { accessFlags := 18, nameIndex := 9, descriptorIndex := 10, attributes := #[] }, { accessFlags := 2, nameIndex := 19, descriptorIndex := 10, attributes := #[] }])
  fields := #[{ name := "name", type := (.object "java/lang/String"), accessFlags := 18, slot := 0, constantValue := 0 }, { name := "ordinal", type := .int, accessFlags := 18, slot := 1, constantValue := 0 }, { name := "hash", type := .int, accessFlags := 2, slot := 2, constantValue := 0 }]
  methods := #[]
  instanceTypes := #[(.object "java/lang/String"), .int, .int]
  staticTypes := #[]
  resolved := Array.replicate 204 none
  statics := none }

def pool6 : Array CpInfo := pool [(1, .class_ 2), (0, u "com/example/largo/largo/ObjectType"), (2, u "ACCESS_METHOD"), (0, u "Lcom/example/largo/largo/ObjectType;"), (2, u "AGGREGATE"), (2, u "CAST"), (2, u "COLLATION"), (2, u "CONVERSION"), (2, u "DATABASE"), (2, u "DEFAULT_PRIVILEGES"), (2, u "DOMAIN"), (2, u "EVENT_TRIGGER"), (2, u "EXTENSION"), (2, u "FOREIGN_DATA_WRAPPER"), (0, .fieldref 1 38), (0, .nameAndType 39 6), (0, u "FOREIGN_TABLE"), (2, u "FUNCTION"), (2, u "GROUP"), (0, .fieldref 1 47), (0, .nameAndType 48 6), (0, u "INDEX"), (2, u "LANGUAGE"), (2, u "LARGE_OBJECT"), (0, .fieldref 1 56), (0, .nameAndType 57 6), (0, u "MATERIALIZED_VIEW"), (2, u "OPERATOR"), (2, u "OPERATOR_CLASS"), (2, u "OPERATOR_FAMILY"), (2, u "POLICY"), (2, u "PROCEDURE"), (2, u "PUBLICATION"), (2, u "ROLE"), (2, u "ROUTINE"), (2, u "RULE"), (2, u "SCHEMA"), (0, .fieldref 1 89), (0, .nameAndType 90 6), (0, u "SEQUENCE"), (2, u "SERVER"), (2, u "STATISTICS"), (2, u "SUBSCRIPTION"), (2, u "SYSTEM"), (0, .fieldref 1 104), (0, .nameAndType 105 6), (0, u "TABLE"), (2, u "TABLESPACE"), (2, u "TEXT_SEARCH_CONFIGURATION"), (2, u "TEXT_SEARCH_DICTIONARY"), (2, u "TEXT_SEARCH_PARSER"), (2, u "TEXT_SEARCH_TEMPLATE"), (2, u "TRANSFORM"), (2, u "TRIGGER"), (2, u "TYPE"), (2, u "USER"), (2, u "USER_MAPPING"), (0, .fieldref 1 137), (0, .nameAndType 138 6), (0, u "VIEW"), (2, u "$VALUES"), (0, u "[Lcom/example/largo/largo/ObjectType;"), (6, .class_ 151), (1, u "java/lang/Enum"), (35, u "words"), (0, u "Ljava/util/List;"), (2, u "tag"), (0, u "Ljava/lang/String;"), (112, u "isRelation"), (0, u "()Z")] 6

def k6c0 : Code := { maxStack := 2, maxLocals := 1, code := prog_68_method_7_code, exceptionTable := #[], attributes := #[] }
def k6m0 : Method := { name := "isRelation", desc := "()Z", sig := { parameters := [], returnType := some .boolean }, accessFlags := 0, code := some k6c0 }
/-- com/example/largo/largo/ObjectType -/
def k6 : Class := { plain "com/example/largo/largo/ObjectType" (some 5) with
  accessFlags := 16432
  interfaces := #[]
  cf := some (fileOf pool6 1 #[] #[{ accessFlags := 0, nameIndex := 305, descriptorIndex := 306, attributes := #[] }] 16432 149 #[] #[{ accessFlags := 16409, nameIndex := 5, descriptorIndex := 6, attributes := #[] }, { accessFlags := 16409, nameIndex := 9, descriptorIndex := 6, attributes := #[] }, { accessFlags := 16409, nameIndex := 12, descriptorIndex := 6, attributes := #[] }, { accessFlags := 16409, nameIndex := 15, descriptorIndex := 6, attributes := #[] }, { accessFlags := 16409, nameIndex := 18, descriptorIndex := 6, attributes := #[] }, { accessFlags := 16409, nameIndex := 21, descriptorIndex := 6, attributes := #[] }, { accessFlags := 16409, nameIndex := 24, descriptorIndex := 6, attributes := #[] }, { accessFlags := 16409, nameIndex := 27, descriptorIndex := 6, attributes := #[] }, { accessFlags := 16409, nameIndex := 30, descriptorIndex := 6, attributes := #[] }, { accessFlags := 16409, nameIndex := 33, descriptorIndex := 6, attributes := #[] }, { accessFlags := 16409, nameIndex := 36, descriptorIndex := 6, attributes := #[] }, { accessFlags := 16409, nameIndex := 39, descriptorIndex := 6, attributes := #[] }, { accessFlags := 16409, nameIndex := 42, descriptorIndex := 6, attributes := #[] }, { accessFlags := 16409, nameIndex := 45, descriptorIndex := 6, attributes := #[] }, { accessFlags := 16409, nameIndex := 48, descriptorIndex := 6, attributes := #[] }, { accessFlags := 16409, nameIndex := 51, descriptorIndex := 6, attributes := #[] }, { accessFlags := 16409, nameIndex := 54, descriptorIndex := 6, attributes := #[] }, { accessFlags := 16409, nameIndex := 57, descriptorIndex := 6, attributes := #[] }, { accessFlags := 16409, nameIndex := 60, descriptorIndex := 6, attributes := #[] }, { accessFlags := 16409, nameIndex := 63, descriptorIndex := 6, attributes := #[] }, { accessFlags := 16409, nameIndex := 66, descriptorIndex := 6, attributes := #[] }, { accessFlags := 16409, nameIndex := 69, descriptorIndex := 6, attributes := #[] }, { accessFlags := 16409, nameIndex := 72, descriptorIndex := 6, attributes := #[] }, { accessFlags := 16409, nameIndex := 75, descriptorIndex := 6, attributes := #[] }, { accessFlags := 16409, nameIndex := 78, descriptorIndex := 6, attributes := #[] }, { accessFlags := 16409, nameIndex := 81, descriptorIndex := 6, attributes := #[] }, { accessFlags := 16409, nameIndex := 84, descriptorIndex := 6, attributes := #[] }, { accessFlags := 16409, nameIndex := 87, descriptorIndex := 6, attributes := #[] }, { accessFlags := 16409, nameIndex := 90, descriptorIndex := 6, attributes := #[] }, { accessFlags := 16409, nameIndex := 93, descriptorIndex := 6, attributes := #[] }, { accessFlags := 16409, nameIndex := 96, descriptorIndex := 6, attributes := #[] }, { accessFlags := 16409, nameIndex := 99, descriptorIndex := 6, attributes := #[] }, { accessFlags := 16409, nameIndex := 102, descriptorIndex := 6, attributes := #[] }, { accessFlags := 16409, nameIndex := 105, descriptorIndex := 6, attributes := #[] }, { accessFlags := 16409, nameIndex := 108, descriptorIndex := 6, attributes := #[] }, { accessFlags := 16409, nameIndex := 111, descriptorIndex := 6, attributes := #[] }, { accessFlags := 16409, nameIndex := 114, descriptorIndex := 6, attributes := #[] }, { accessFlags := 16409, nameIndex := 117, descriptorIndex := 6, attributes := #[] }, { accessFlags := 16409, nameIndex := 120, descriptorIndex := 6, attributes := #[] }, { accessFlags := 16409, nameIndex := 123, descriptorIndex := 6, attributes := #[] }, { accessFlags := 16409, nameIndex := 126, descriptorIndex := 6, attributes := #[] }, { accessFlags := 16409, nameIndex := 129, descriptorIndex := 6, attributes := #[] }, { accessFlags := 16409, nameIndex := 132, descriptorIndex := 6, attributes := #[] }, { accessFlags := 16409, nameIndex := 135, descriptorIndex := 6, attributes := #[] }, { accessFlags := 16409, nameIndex := 138, descriptorIndex := 6, attributes := #[] }, { accessFlags := 18, nameIndex := 187, descriptorIndex := 188, attributes := #[] }, { accessFlags := 18, nameIndex := 191, descriptorIndex := 192, attributes := #[] }, { accessFlags := 4122, nameIndex := 141, descriptorIndex := 142, attributes := #[] }])
  fields := #[{ name := "ACCESS_METHOD", type := (.object "com/example/largo/largo/ObjectType"), accessFlags := 16409, slot := 0, constantValue := 0 }, { name := "AGGREGATE", type := (.object "com/example/largo/largo/ObjectType"), accessFlags := 16409, slot := 1, constantValue := 0 }, { name := "CAST", type := (.object "com/example/largo/largo/ObjectType"), accessFlags := 16409, slot := 2, constantValue := 0 }, { name := "COLLATION", type := (.object "com/example/largo/largo/ObjectType"), accessFlags := 16409, slot := 3, constantValue := 0 }, { name := "CONVERSION", type := (.object "com/example/largo/largo/ObjectType"), accessFlags := 16409, slot := 4, constantValue := 0 }, { name := "DATABASE", type := (.object "com/example/largo/largo/ObjectType"), accessFlags := 16409, slot := 5, constantValue := 0 }, { name := "DEFAULT_PRIVILEGES", type := (.object "com/example/largo/largo/ObjectType"), accessFlags := 16409, slot := 6, constantValue := 0 }, { name := "DOMAIN", type := (.object "com/example/largo/largo/ObjectType"), accessFlags := 16409, slot := 7, constantValue := 0 }, { name := "EVENT_TRIGGER", type := (.object "com/example/largo/largo/ObjectType"), accessFlags := 16409, slot := 8, constantValue := 0 }, { name := "EXTENSION", type := (.object "com/example/largo/largo/ObjectType"), accessFlags := 16409, slot := 9, constantValue := 0 }, { name := "FOREIGN_DATA_WRAPPER", type := (.object "com/example/largo/largo/ObjectType"), accessFlags := 16409, slot := 10, constantValue := 0 }, { name := "FOREIGN_TABLE", type := (.object "com/example/largo/largo/ObjectType"), accessFlags := 16409, slot := 11, constantValue := 0 }, { name := "FUNCTION", type := (.object "com/example/largo/largo/ObjectType"), accessFlags := 16409, slot := 12, constantValue := 0 }, { name := "GROUP", type := (.object "com/example/largo/largo/ObjectType"), accessFlags := 16409, slot := 13, constantValue := 0 }, { name := "INDEX", type := (.object "com/example/largo/largo/ObjectType"), accessFlags := 16409, slot := 14, constantValue := 0 }, { name := "LANGUAGE", type := (.object "com/example/largo/largo/ObjectType"), accessFlags := 16409, slot := 15, constantValue := 0 }, { name := "LARGE_OBJECT", type := (.object "com/example/largo/largo/ObjectType"), accessFlags := 16409, slot := 16, constantValue := 0 }, { name := "MATERIALIZED_VIEW", type := (.object "com/example/largo/largo/ObjectType"), accessFlags := 16409, slot := 17, constantValue := 0 }, { name := "OPERATOR", type := (.object "com/example/largo/largo/ObjectType"), accessFlags := 16409, slot := 18, constantValue := 0 }, { name := "OPERATOR_CLASS", type := (.object "com/example/largo/largo/ObjectType"), accessFlags := 16409, slot := 19, constantValue := 0 }, { name := "OPERATOR_FAMILY", type := (.object "com/example/largo/largo/ObjectType"), accessFlags := 16409, slot := 20, constantValue := 0 }, { name := "POLICY", type := (.object "com/example/largo/largo/ObjectType"), accessFlags := 16409, slot := 21, constantValue := 0 }, { name := "PROCEDURE", type := (.object "com/example/largo/largo/ObjectType"), accessFlags := 16409, slot := 22, constantValue := 0 }, { name := "PUBLICATION", type := (.object "com/example/largo/largo/ObjectType"), accessFlags := 16409, slot := 23, constantValue := 0 }, { name := "ROLE", type := (.object "com/example/largo/largo/ObjectType"), accessFlags := 16409, slot := 24, constantValue := 0 }, { name := "ROUTINE", type := (.object "com/example/largo/largo/ObjectType"), accessFlags := 16409, slot := 25, constantValue := 0 }, { name := "RULE", type := (.object "com/example/largo/largo/ObjectType"), accessFlags := 16409, slot := 26, constantValue := 0 }, { name := "SCHEMA", type := (.object "com/example/largo/largo/ObjectType"), accessFlags := 16409, slot := 27, constantValue := 0 }, { name := "SEQUENCE", type := (.object "com/example/largo/largo/ObjectType"), accessFlags := 16409, slot := 28, constantValue := 0 }, { name := "SERVER", type := (.object "com/example/largo/largo/ObjectType"), accessFlags := 16409, slot := 29, constantValue := 0 }, { name := "STATISTICS", type := (.object "com/example/largo/largo/ObjectType"), accessFlags := 16409, slot := 30, constantValue := 0 }, { name := "SUBSCRIPTION", type := (.object "com/example/largo/largo/ObjectType"), accessFlags := 16409, slot := 31, constantValue := 0 }, { name := "SYSTEM", type := (.object "com/example/largo/largo/ObjectType"), accessFlags := 16409, slot := 32, constantValue := 0 }, { name := "TABLE", type := (.object "com/example/largo/largo/ObjectType"), accessFlags := 16409, slot := 33, constantValue := 0 }, { name := "TABLESPACE", type := (.object "com/example/largo/largo/ObjectType"), accessFlags := 16409, slot := 34, constantValue := 0 }, { name := "TEXT_SEARCH_CONFIGURATION", type := (.object "com/example/largo/largo/ObjectType"), accessFlags := 16409, slot := 35, constantValue := 0 }, { name := "TEXT_SEARCH_DICTIONARY", type := (.object "com/example/largo/largo/ObjectType"), accessFlags := 16409, slot := 36, constantValue := 0 }, { name := "TEXT_SEARCH_PARSER", type := (.object "com/example/largo/largo/ObjectType"), accessFlags := 16409, slot := 37, constantValue := 0 }, { name := "TEXT_SEARCH_TEMPLATE", type := (.object "com/example/largo/largo/ObjectType"), accessFlags := 16409, slot := 38, constantValue := 0 }, { name := "TRANSFORM", type := (.object "com/example/largo/largo/ObjectType"), accessFlags := 16409, slot := 39, constantValue := 0 }, { name := "TRIGGER", type := (.object "com/example/largo/largo/ObjectType"), accessFlags := 16409, slot := 40, constantValue := 0 }, { name := "TYPE", type := (.object "com/example/largo/largo/ObjectType"), accessFlags := 16409, slot := 41, constantValue := 0 }, { name := "USER", type := (.object "com/example/largo/largo/ObjectType"), accessFlags := 16409, slot := 42, constantValue := 0 }, { name := "USER_MAPPING", type := (.object "com/example/largo/largo/ObjectType"), accessFlags := 16409, slot := 43, constantValue := 0 }, { name := "VIEW", type := (.object "com/example/largo/largo/ObjectType"), accessFlags := 16409, slot := 44, constantValue := 0 }, { name := "words", type := (.object "java/util/List"), accessFlags := 18, slot := 3, constantValue := 0 }, { name := "tag", type := (.object "java/lang/String"), accessFlags := 18, slot := 4, constantValue := 0 }, { name := "$VALUES", type := (.array (.object "com/example/largo/largo/ObjectType")), accessFlags := 4122, slot := 45, constantValue := 0 }]
  methods := #[k6m0]
  instanceTypes := #[(.object "java/lang/String"), .int, .int, (.object "java/util/List"), (.object "java/lang/String")]
  staticTypes := #[(.object "com/example/largo/largo/ObjectType"), (.object "com/example/largo/largo/ObjectType"), (.object "com/example/largo/largo/ObjectType"), (.object "com/example/largo/largo/ObjectType"), (.object "com/example/largo/largo/ObjectType"), (.object "com/example/largo/largo/ObjectType"), (.object "com/example/largo/largo/ObjectType"), (.object "com/example/largo/largo/ObjectType"), (.object "com/example/largo/largo/ObjectType"), (.object "com/example/largo/largo/ObjectType"), (.object "com/example/largo/largo/ObjectType"), (.object "com/example/largo/largo/ObjectType"), (.object "com/example/largo/largo/ObjectType"), (.object "com/example/largo/largo/ObjectType"), (.object "com/example/largo/largo/ObjectType"), (.object "com/example/largo/largo/ObjectType"), (.object "com/example/largo/largo/ObjectType"), (.object "com/example/largo/largo/ObjectType"), (.object "com/example/largo/largo/ObjectType"), (.object "com/example/largo/largo/ObjectType"), (.object "com/example/largo/largo/ObjectType"), (.object "com/example/largo/largo/ObjectType"), (.object "com/example/largo/largo/ObjectType"), (.object "com/example/largo/largo/ObjectType"), (.object "com/example/largo/largo/ObjectType"), (.object "com/example/largo/largo/ObjectType"), (.object "com/example/largo/largo/ObjectType"), (.object "com/example/largo/largo/ObjectType"), (.object "com/example/largo/largo/ObjectType"), (.object "com/example/largo/largo/ObjectType"), (.object "com/example/largo/largo/ObjectType"), (.object "com/example/largo/largo/ObjectType"), (.object "com/example/largo/largo/ObjectType"), (.object "com/example/largo/largo/ObjectType"), (.object "com/example/largo/largo/ObjectType"), (.object "com/example/largo/largo/ObjectType"), (.object "com/example/largo/largo/ObjectType"), (.object "com/example/largo/largo/ObjectType"), (.object "com/example/largo/largo/ObjectType"), (.object "com/example/largo/largo/ObjectType"), (.object "com/example/largo/largo/ObjectType"), (.object "com/example/largo/largo/ObjectType"), (.object "com/example/largo/largo/ObjectType"), (.object "com/example/largo/largo/ObjectType"), (.object "com/example/largo/largo/ObjectType"), (.array (.object "com/example/largo/largo/ObjectType"))]
  resolved := Array.replicate 313 none
  statics := some 0 }

def pool7 : Array CpInfo := pool [(1, u "java/lang/Cloneable"), (0, .class_ 1), (0, u "java/lang/Object"), (0, .class_ 3)] 3

/-- java/lang/Cloneable -/
def k7 : Class := { plain "java/lang/Cloneable" (some 0) with
  accessFlags := 1537
  interfaces := #[]
  cf := some (fileOf pool7 2 #[] #[] 1537 4 #[] #[])
  fields := #[]
  methods := #[]
  instanceTypes := #[]
  staticTypes := #[]
  resolved := Array.replicate 8 none
  statics := none }

/-- the primitive byte -/
def k8 : Class := { plain "byte" none with kind := .primitive 'B', accessFlags := 0x411 }
/-- [B -/
def k9 : Class := { plain "[B" (some 0) with kind := .array 8 .byte, interfaces := #[7, 4], accessFlags := 1041 }

/-- the primitive int -/
def k10 : Class := { plain "int" none with kind := .primitive 'I', accessFlags := 0x411 }
/-- [I -/
def k11 : Class := { plain "[I" (some 0) with kind := .array 10 .int, interfaces := #[7, 4], accessFlags := 1041 }

/-- [Lcom/example/largo/largo/ObjectType; -/
def k12 : Class := { plain "[Lcom/example/largo/largo/ObjectType;" (some 0) with kind := .array 6 (.object "com/example/largo/largo/ObjectType"), interfaces := #[7, 4], accessFlags := 1041 }

def heap : Heap := #[{ cls := 6, slots := #[.ref 1, .ref 2, .ref 3, .ref 4, .ref 5, .ref 6, .ref 7, .ref 8, .ref 9, .ref 10, .ref 11, .ref 12, .ref 13, .ref 14, .ref 15, .ref 16, .ref 17, .ref 18, .ref 19, .ref 20, .ref 21, .ref 22, .ref 23, .ref 24, .ref 25, .ref 26, .ref 27, .ref 28, .ref 29, .ref 30, .ref 31, .ref 32, .ref 33, .ref 34, .ref 35, .ref 36, .ref 37, .ref 38, .ref 39, .ref 40, .ref 41, .ref 42, .ref 43, .ref 44, .ref 45, .null], vm := .statics 6 },
  { cls := 6, slots := #[.null, .int 0, .int 0, .null, .null], vm := .none },
  { cls := 6, slots := #[.null, .int 1, .int 0, .null, .null], vm := .none },
  { cls := 6, slots := #[.null, .int 2, .int 0, .null, .null], vm := .none },
  { cls := 6, slots := #[.null, .int 3, .int 0, .null, .null], vm := .none },
  { cls := 6, slots := #[.null, .int 4, .int 0, .null, .null], vm := .none },
  { cls := 6, slots := #[.null, .int 5, .int 0, .null, .null], vm := .none },
  { cls := 6, slots := #[.null, .int 6, .int 0, .null, .null], vm := .none },
  { cls := 6, slots := #[.null, .int 7, .int 0, .null, .null], vm := .none },
  { cls := 6, slots := #[.null, .int 8, .int 0, .null, .null], vm := .none },
  { cls := 6, slots := #[.null, .int 9, .int 0, .null, .null], vm := .none },
  { cls := 6, slots := #[.null, .int 10, .int 0, .null, .null], vm := .none },
  { cls := 6, slots := #[.null, .int 11, .int 0, .null, .null], vm := .none },
  { cls := 6, slots := #[.null, .int 12, .int 0, .null, .null], vm := .none },
  { cls := 6, slots := #[.null, .int 13, .int 0, .null, .null], vm := .none },
  { cls := 6, slots := #[.null, .int 14, .int 0, .null, .null], vm := .none },
  { cls := 6, slots := #[.null, .int 15, .int 0, .null, .null], vm := .none },
  { cls := 6, slots := #[.null, .int 16, .int 0, .null, .null], vm := .none },
  { cls := 6, slots := #[.null, .int 17, .int 0, .null, .null], vm := .none },
  { cls := 6, slots := #[.null, .int 18, .int 0, .null, .null], vm := .none },
  { cls := 6, slots := #[.null, .int 19, .int 0, .null, .null], vm := .none },
  { cls := 6, slots := #[.null, .int 20, .int 0, .null, .null], vm := .none },
  { cls := 6, slots := #[.null, .int 21, .int 0, .null, .null], vm := .none },
  { cls := 6, slots := #[.null, .int 22, .int 0, .null, .null], vm := .none },
  { cls := 6, slots := #[.null, .int 23, .int 0, .null, .null], vm := .none },
  { cls := 6, slots := #[.null, .int 24, .int 0, .null, .null], vm := .none },
  { cls := 6, slots := #[.null, .int 25, .int 0, .null, .null], vm := .none },
  { cls := 6, slots := #[.null, .int 26, .int 0, .null, .null], vm := .none },
  { cls := 6, slots := #[.null, .int 27, .int 0, .null, .null], vm := .none },
  { cls := 6, slots := #[.null, .int 28, .int 0, .null, .null], vm := .none },
  { cls := 6, slots := #[.null, .int 29, .int 0, .null, .null], vm := .none },
  { cls := 6, slots := #[.null, .int 30, .int 0, .null, .null], vm := .none },
  { cls := 6, slots := #[.null, .int 31, .int 0, .null, .null], vm := .none },
  { cls := 6, slots := #[.null, .int 32, .int 0, .null, .null], vm := .none },
  { cls := 6, slots := #[.null, .int 33, .int 0, .null, .null], vm := .none },
  { cls := 6, slots := #[.null, .int 34, .int 0, .null, .null], vm := .none },
  { cls := 6, slots := #[.null, .int 35, .int 0, .null, .null], vm := .none },
  { cls := 6, slots := #[.null, .int 36, .int 0, .null, .null], vm := .none },
  { cls := 6, slots := #[.null, .int 37, .int 0, .null, .null], vm := .none },
  { cls := 6, slots := #[.null, .int 38, .int 0, .null, .null], vm := .none },
  { cls := 6, slots := #[.null, .int 39, .int 0, .null, .null], vm := .none },
  { cls := 6, slots := #[.null, .int 40, .int 0, .null, .null], vm := .none },
  { cls := 6, slots := #[.null, .int 41, .int 0, .null, .null], vm := .none },
  { cls := 6, slots := #[.null, .int 42, .int 0, .null, .null], vm := .none },
  { cls := 6, slots := #[.null, .int 43, .int 0, .null, .null], vm := .none },
  { cls := 6, slots := #[.null, .int 44, .int 0, .null, .null], vm := .none }]
def classes : Array Class := #[k0, k1, k2, k3, k4, k5, k6, k7, k8, k9, k10, k11, k12]
def interned : List (Array UInt16 × Addr) := []
def slotsUsed : Nat := 271
def theMethod : MethodId := ⟨1, 1⟩
def args0 : Array Value := #[.int 7]
def aboutOver (below : List Frame) : State where
  vm := { classes := classes, interned := interned.toArray }
  heap := heap
  slotsUsed := slotsUsed
  threads := #[{ frames := .invoking theMethod args0 :: below }]
def below0 : List Frame := [.native { method := ⟨0, 0⟩, args := #[] }]
def about1 : State := aboutOver below0
def p0 : Program := .bare "" "" ""
def e0 : Env := launch0.env 0 0 0
theorem w_frames : about1.frames = Frame.invoking theMethod args0 :: below0 := rfl
set_option maxRecDepth 65536 in
theorem w_args : argsFit about1.vm theMethod args0 = true := by decide +kernel
set_option maxRecDepth 65536 in
theorem w_heap : heapFits about1 = true := by decide +kernel
set_option maxRecDepth 65536 in
theorem w_runnable : about1.curStatus? = some .runnable := by decide +kernel
set_option maxRecDepth 65536 in
theorem w_alone : about1.alone = true := by decide +kernel
set_option maxRecDepth 65536 in
theorem w_named : about1.methodNamed? x = some theMethod := by decide +kernel
set_option maxRecDepth 65536 in
theorem w_hears : about1.hears theMethod below0 = true := by decide +kernel
set_option maxRecDepth 65536 in
theorem w_ripe : about1.ripe theMethod args0 below0 = true := by decide +kernel
theorem w_running : about1.status = .running := rfl
set_option maxRecDepth 65536 in
theorem w_room : about1.hasRoom e0.platform room_1 = true :=
  launch0.hasRoom_least _ room_1 (by decide +kernel) (by decide +kernel) (by decide +kernel) (by decide +kernel) (by decide +kernel) (by decide +kernel)
theorem allAtoms_all (ts : List Jvm.Cond) (a : Array Jvm.Value) (st : Jvm.State) : (allAtoms ts).before a st = ts.all (fun c => c.before a st) := by
  induction ts with
  | nil => rfl
  | cons c t ih =>
    show (Jvm.Cond.and c (allAtoms t)).before a st = _
    rw [Jvm.Cond.before_and, ih, List.all_cons]
def words1 : List Jvm.Cond := Jvm.Cond.code x code maxLocals ret :: tables_1
/-- a 'code' word, met by the world's own term for the bytes: nothing is compared byte by byte -/
theorem code_word {y : MethodName} {bytes : ByteArray} {mx : Nat} {rt : Option FieldType} {a : Array Value} {s : State} {m : MethodId} {meth : Method} {c : Code} (h1 : s.methodNamed? y = some m) (h2 : s.vm.method? m = some meth) (h3 : meth.code = some c) (h4 : c.code = bytes)
    (h5 : (c.maxLocals == mx && c.exceptionTable.isEmpty && decide (c.maxStack ≤ mostOperands) && decide (meth.sig.returnType = rt) && !meth.locks && decide (parseMethodDescriptor y.desc = some meth.sig)) = true) : (Jvm.Cond.code y bytes mx rt).before a s = true := by
  simp only [Bool.and_eq_true, beq_iff_eq, Bool.not_eq_true', decide_eq_true_eq] at h5
  obtain ⟨⟨⟨⟨⟨g1, g2⟩, g3⟩, g4⟩, g5⟩, g6⟩ := h5
  simp [Cond.before, Cond.holds, Cond.value, h1, h2, h3, h4, g1, g2, g3, g4, g5, g6]
def isCode : Jvm.Cond → Bool
  | .code _ _ _ _ => true
  | _ => false
theorem all_split {L : List Jvm.Cond} {P : Jvm.Cond → Bool} (h1 : L.all (fun c => isCode c || P c) = true) (h2 : ∀ c ∈ L.filter isCode, P c = true) : L.all P = true := by
  refine List.all_eq_true.mpr fun c hc => ?_
  have h := List.all_eq_true.mp h1 c hc
  rcases Bool.eq_false_or_eq_true (isCode c) with hi | hi
  · exact h2 c (List.mem_filter.mpr ⟨hc, hi⟩)
  · simpa [hi] using h
set_option maxRecDepth 65536 in
theorem w_c0 : (Jvm.Cond.code x code maxLocals ret).before args0 about1 = true := code_word (m := ⟨1, 1⟩) (meth := k1m1) (c := k1c1) (by decide +kernel) rfl rfl rfl (by decide +kernel)
set_option maxRecDepth 65536 in
theorem w_c1 : (Jvm.Cond.code ({ cls := "com/example/largo/largo/ObjectType", name := "isRelation", desc := "()Z" } : Jvm.MethodName) prog_68_method_7_code (1 : Nat) (Option.some Jvm.ClassFile.FieldType.boolean)).before args0 about1 = true := code_word (m := ⟨6, 0⟩) (meth := k6m0) (c := k6c0) (by decide +kernel) rfl rfl rfl (by decide +kernel)
def codes1 : List Jvm.Cond := [Jvm.Cond.code x code maxLocals ret, Jvm.Cond.code ({ cls := "com/example/largo/largo/ObjectType", name := "isRelation", desc := "()Z" } : Jvm.MethodName) prog_68_method_7_code (1 : Nat) (Option.some Jvm.ClassFile.FieldType.boolean)]
set_option maxRecDepth 65536 in
theorem codes_eq : words1.filter isCode = codes1 := rfl
theorem w_codes : ∀ c ∈ words1.filter isCode, c.before args0 about1 = true := by
  rw [codes_eq]
  intro c hc
  simp only [codes1, List.mem_cons, List.not_mem_nil, or_false] at hc
  rcases hc with rfl | rfl
  · exact w_c0
  · exact w_c1
set_option maxRecDepth 65536 in
theorem w_t1 : (words1.take 24).all (fun c => isCode c || c.before args0 about1) = true := by decide +kernel
set_option maxRecDepth 65536 in
theorem w_t2 : ((words1.drop 24).take 24).all (fun c => isCode c || c.before args0 about1) = true := by decide +kernel
set_option maxRecDepth 65536 in
theorem w_t3 : (((words1.drop 24).drop 24).take 24).all (fun c => isCode c || c.before args0 about1) = true := by decide +kernel
set_option maxRecDepth 65536 in
theorem w_t4 : ((((words1.drop 24).drop 24).drop 24).take 24).all (fun c => isCode c || c.before args0 about1) = true := by decide +kernel
set_option maxRecDepth 65536 in
theorem w_t5 : ((((words1.drop 24).drop 24).drop 24).drop 24).all (fun c => isCode c || c.before args0 about1) = true := by decide +kernel
theorem w_tables : (allAtoms (Jvm.Cond.code x code maxLocals ret :: tables_1)).before args0 about1 = true := by
  rw [allAtoms_all]
  show words1.all (fun c => c.before args0 about1) = true
  refine all_split ?_ w_codes
  rw [← List.take_append_drop 24 words1, List.all_append, w_t1, ← List.take_append_drop 24 (words1.drop 24), List.all_append, w_t2, ← List.take_append_drop 24 ((words1.drop 24).drop 24), List.all_append, w_t3, ← List.take_append_drop 24 (((words1.drop 24).drop 24).drop 24), List.all_append, w_t4, w_t5]
  rfl
set_option maxRecDepth 65536 in
theorem w_case : (Jvm.Cond.and given_1 narrow_1).before args0 about1 = true := by decide +kernel
theorem w_applies : (headSpec (Jvm.Cond.code x code maxLocals ret :: tables_1) room_1).applies x e0.platform about1 = true :=
  (Spec.applies_iff w_frames).mpr ⟨w_running, w_runnable, w_alone, w_named, w_hears, w_ripe, w_room, w_tables⟩
theorem atStart : AtStart classFile x code maxLocals ret World_1 tables_1 room_1 Calls_1 rest_1 Pre_1 launch0 p0 e0 about1 theMethod args0 below0 :=
  ⟨lists_1, trivial, launch0.admits_env _ _ _, launch0.least_env, fairChoices_fair.cas, fairChoices_fair.clock, w_frames, w_args, w_heap, w_applies, trivial, trivial, w_case⟩
end start1
theorem witness_1 : WitnessClaimed_1 := ⟨start1.p0, start1.e0, start1.about1, start1.theMethod, start1.args0, start1.below0, start1.atStart⟩
end Jvm.Pilot.@@N@@
