import JvmDerived
import JvmDerived.Pilot.@@N@@Statement
import JvmDerived.Pilot.@@N@@Code
set_option linter.unusedVariables false
set_option linter.unusedSimpArgs false
namespace Jvm.Pilot.@@N@@
open Jvm Jvm.ClassFile Sem Op Lib Jvm.Free Jvm.Stand Jvm.LawKit Jvm.RoadKit Bundle Jvm.Pilot.@@N@@.Jvm.D
theorem own_fld {s : State} {args : Array Value} {t : Term} {w : Addr} {C n d : String} {k : Int32} (ev : t.eval args s none [] s = some (.ref w)) (h : (Cond.eq (Term.field t C n d) (Term.int k)).value args s none s [] = some true) : Fld s s.heap w C n d (.int k) := by
  refine Fld.start ?_
  have h1 : (Term.field t C n d).eval args s none [] s = s.fieldOf? w C n d := fld_at ev
  have h2 : (Term.int k).eval args s none [] s = some (.int k) := Term.int_eval k
  cases hf : s.fieldOf? w C n d with
  | none => rw [hf] at h1; simp [Cond.value, h1] at h
  | some x =>
    rw [hf] at h1
    cases x <;> simp [Cond.value, h1, h2] at h
    rw [h]
theorem own_sta {Z : State} {h h' : Heap} {C n d : String} {v : Value} (F : Sta Z h C n d v) (K : Keep h h' []) : Sta Z h' C n d v := by
  obtain ⟨cf, i, k, f, st, cell, h1, h2, h3, h4, h5, r⟩ := F
  exact ⟨cf, i, k, f, st, cell, h1, h2, h3, h4, K.2.1 _ _ h5 nin0, r⟩
def own_rel (a g_NAME g_PREFIXED_NAME g_URI_QUALIFIED_NAME : Addr) : Int32 := if a = g_NAME ∨ a = g_PREFIXED_NAME ∨ a = g_URI_QUALIFIED_NAME then 1 else 0
def own_All (P : Nat → Addr → Prop) : Nat → List Addr → Prop
  | _, [] => True
  | n, a :: r => P n a ∧ own_All P (n + 1) r
theorem own_cons {P : Nat → Addr → Prop} {n : Nat} {a : Addr} {r : List Addr} (h : P n a) (t : own_All P (n + 1) r) : own_All P n (a :: r) := ⟨h, t⟩
theorem own_All_get {P : Nat → Addr → Prop} : ∀ (L : List Addr) (n : Nat), own_All P n L → ∀ i, i < L.length → P (n + i) (L.getD i 0)
  | [], _, _, _, q => absurd q (Nat.not_lt_zero _)
  | a :: r, n, h, 0, _ => h.1
  | a :: r, n, h, i + 1, q => by
    have := own_All_get r (n + 1) h.2 i (Nat.lt_of_succ_lt_succ q)
    have e : n + 1 + i = n + (i + 1) := by omega
    rw [e] at this
    exact this
def own_ws (w : Nat → Addr) (n : Nat) : List Value := (List.range n).map fun i => .ref (w i)
theorem own_ws_len (w : Nat → Addr) (n : Nat) : (own_ws w n).length = n := by simp [own_ws]
theorem own_ws_succ (w : Nat → Addr) (n : Nat) : (own_ws w n ++ List.replicate 1 Value.null).set n (.ref (w n)) = own_ws w (n + 1) := by
  have h : (own_ws w n).length = n := own_ws_len w n
  rw [List.set_append_right _ _ (by rw [h]; exact Nat.le_refl n), h, Nat.sub_self]
  simp [own_ws, List.range_succ]
theorem own_ws_at (w : Nat → Addr) {n i : Nat} (h : i < n) : (own_ws w n).getD i .null = .ref (w i) := by
  simp [own_ws, List.getD_eq_getElem?_getD, h]
def own_At (p : Program) (l : Launch) (e : Env) (R : Room) (s : State) (m : MethodId) (args : Array Value) (below : List Frame) (meth : Method) (c : Code) (Z : State) (h0 : Heap) (n0 : Nat) (b : Addr) (k : ClassId) (C : String) (z : Int32) (w : Nat → Addr) (Ls : Array Slot) (cells slots : Nat) (src : State) (pc n : Nat) : Prop :=
  ∃ (T : State) (locs : List Loc) (h : Heap), Stand p l e R s m args below meth c T locs cells slots ∧ Fr n0 locs ∧ T.heap = h ∧ Keep h0 h [] ∧ Arv Z h b k (.object C) z (own_ws w n) .null ∧
    ∀ t, Steps p.tables e below (T.setTop (mkF m pc Ls [.ref b])) t → Steps p.tables e below src t
set_option maxRecDepth 65536 in
set_option maxHeartbeats 4000000 in
theorem own_turn {p : Program} {l : Launch} {e : Env} {R : Room} {s : State} {m : MethodId} {args : Array Value} {below : List Frame} {meth : Method} {c : Code} {Z : State} {h0 : Heap} {n0 : Nat} {b : Addr} {k : ClassId} {C : String} {z : Int32} {w : Nat → Addr} {Ls : Array Slot} {cells slots : Nat} {src : State} {pc n : Nat}
    (Y : own_At p l e R s m args below meth c Z h0 n0 b k C z w Ls cells slots src pc n) (hx : p.tables.exec = Jvm.exec) (hZ : Z.Warmed39 s.vm) {own : String} (hown : s.vm.findClass own = some m.cls) (O : Ovr Z k C) (gb : n0 ≤ b) (sb : h0.size ≤ b)
    {a0 : Array Value} {nm D : String} {idx d pc' : Nat} {jj : Int} {j : Int32} (wl : (Cond.fieldLink own idx C nm D).before a0 Z = true) (F : Sta Z h0 C nm D (.ref (w n))) (I : Exa Z h0 (w n) C) (hjn : j.toNatClampNeg = n) (hj : ¬ j < 0 ∧ j < z)
    (hd0 : decode c.code pc = .ok (.dup, 1)) (hd1 : (decode c.code (pc + 1) = .ok (.iconst jj, 1) ∧ Int32.ofInt jj = j ∧ d = 1) ∨ (decode c.code (pc + 1) = .ok (.bipush jj, 2) ∧ (Int8.ofInt jj).toInt32 = j ∧ d = 2))
    (hd2 : decode c.code (pc + 1 + d) = .ok (.getstatic idx, 3)) (hd3 : decode c.code (pc + 1 + d + 3) = .ok (.aastore, 1)) (hp : pc + 1 + d + 3 + 1 = pc') :
    own_At p l e R s m args below meth c Z h0 n0 b k C z w Ls cells slots src pc' (n + 1) := by
  obtain ⟨T, locs, h, X, N, eT, K, V, st⟩ := Y
  obtain ⟨T1, X1, e1, st1⟩ := getS2 X hx hZ hown (host := "") (Or.inl wl) Via.refl eT (own_sta F K) (g := mkF m (pc + 1 + d) Ls [.int j, .ref b, .ref b]) rfl hd2
  obtain ⟨cl, Ar, q, S, M, Hs, G⟩ := V.pad (pad_rep (own_ws w n) .null 1)
  have hin := inb_of S hj
  obtain ⟨T2, h2, X2, e2, W2, st2⟩ := stR X1 hx hZ e1 Ar (j := j) hin rfl (Sto.ofV Ar q O (Ins.self (I.keep K))) (g := mkF m (pc + 1 + d + 3) Ls [.ref (w n), .int j, .ref b, .ref b]) rfl rfl hd3
  have V2 := Arv.set Ar q S M Hs G (v := .ref (w n)) rfl W2 n hjn (by rw [List.length_append, own_ws_len]; simp)
  rw [own_ws_succ] at V2
  refine ⟨T2, _, h2, X2, Fr.snoc X2 N gb, e2, K.wr W2 (Or.inr sb), V2, fun t kt => st t ?_⟩
  refine XS.dup X.here hx rfl hd0 rfl rfl ?_
  subst hp
  rcases hd1 with ⟨g1, g2, rfl⟩ | ⟨g1, g2, rfl⟩
  · refine XT.iconstV X.here hx rfl j g1 g2 ?_
    refine st1 _ ?_
    refine st2 _ ?_
    exact kt
  · refine XT.bipushV X.here hx rfl j g1 g2 ?_
    refine st1 _ ?_
    refine st2 _ ?_
    exact kt
theorem own_rng {p i : Int32} (h : i = (p &&& (2147483647 : Int32)) % (40 : Int32)) : ¬ i < 0 ∧ i < (40 : Int32) := by
  have a := c_and p (2147483647 : Int32) (by decide)
  have b := (c_iremV (p &&& (2147483647 : Int32)) (40 : Int32)).1 a.1 (by decide)
  have c : (40 : Int32).toInt = 40 := rfl
  have d : (0 : Int32).toInt = 0 := rfl
  rw [Int32.lt_iff_toInt_lt, Int32.lt_iff_toInt_lt, h]
  omega
theorem own_idx {i : Int32} (h : ¬ i < 0 ∧ i < (40 : Int32)) : i.toInt = (i.toNatClampNeg : Int) ∧ i.toNatClampNeg < 40 := by
  have c : (40 : Int32).toInt = 40 := rfl
  have d : (0 : Int32).toInt = 0 := rfl
  simp only [Int32.lt_iff_toInt_lt, Int32.toNatClampNeg] at h ⊢
  omega
theorem own_inj {Z : State} {h : Heap} {w : Nat → Addr} (hO : ∀ i, i < 40 → Fld Z h (w i) "java/lang/Enum" "ordinal" "I" (.int (Int32.ofNat i))) {a b : Nat} (ha : a < 40) (hb : b < 40) (ne : ¬ a = b) : ¬ w a = w b := by
  refine Fld.ne (hO a ha) (hO b hb) fun q => ne ?_
  have q1 : Int32.ofNat a = Int32.ofNat b := Value.int.inj q
  have q2 : (Int32.ofNat a).toInt = (Int32.ofNat b).toInt := by rw [q1]
  have e1 : (Int32.ofNat a).toInt = (a : Int) := len_toInt (n := a) (by omega)
  have e2 : (Int32.ofNat b).toInt = (b : Int) := len_toInt (n := b) (by omega)
  rw [e1, e2] at q2
  omega
theorem own_pos {w : Nat → Addr} {q : Nat} (h : q = 2 ∨ q = 3 ∨ q = 4) : own_rel (w q) (w 2) (w 3) (w 4) = 1 := by
  rcases h with rfl | rfl | rfl <;> simp [own_rel]
theorem own_neg {Z : State} {h : Heap} {w : Nat → Addr} (hO : ∀ i, i < 40 → Fld Z h (w i) "java/lang/Enum" "ordinal" "I" (.int (Int32.ofNat i))) {q : Nat} (hq : q < 40) (hn : ¬ q = 2 ∧ ¬ q = 3 ∧ ¬ q = 4) : own_rel (w q) (w 2) (w 3) (w 4) = 0 := by
  obtain ⟨n2, n3, n4⟩ := hn
  have m2 := own_inj hO hq (by decide : 2 < 40) n2
  have m3 := own_inj hO hq (by decide : 3 < 40) n3
  have m4 := own_inj hO hq (by decide : 4 < 40) n4
  simp [own_rel, m2, m3, m4]
theorem dK_0 : decode prog_27_method_5_code 0 = .ok (.aload_n 0, 1) := by decide +kernel
theorem dK_1 : decode prog_27_method_5_code 1 = .ok (.getstatic 10, 3) := by decide +kernel
theorem dK_4 : decode prog_27_method_5_code 4 = .ok (.if_acmp .eq 17, 3) := by decide +kernel
theorem dK_7 : decode prog_27_method_5_code 7 = .ok (.aload_n 0, 1) := by decide +kernel
theorem dK_8 : decode prog_27_method_5_code 8 = .ok (.getstatic 13, 3) := by decide +kernel
theorem dK_11 : decode prog_27_method_5_code 11 = .ok (.if_acmp .eq 10, 3) := by decide +kernel
theorem dK_14 : decode prog_27_method_5_code 14 = .ok (.aload_n 0, 1) := by decide +kernel
theorem dK_15 : decode prog_27_method_5_code 15 = .ok (.getstatic 16, 3) := by decide +kernel
theorem dK_18 : decode prog_27_method_5_code 18 = .ok (.if_acmp .ne 7, 3) := by decide +kernel
theorem dK_21 : decode prog_27_method_5_code 21 = .ok (.iconst 1, 1) := by decide +kernel
theorem dK_22 : decode prog_27_method_5_code 22 = .ok (.goto 4, 3) := by decide +kernel
theorem dK_25 : decode prog_27_method_5_code 25 = .ok (.iconst 0, 1) := by decide +kernel
theorem dK_26 : decode prog_27_method_5_code 26 = .ok (.ireturn, 1) := by decide +kernel
theorem pnK : plainName "com/example/mint_path/mintpath/parse/TokenKind" = true := by first | (simp [plainName, overriddenIn]; done) | decide +kernel
theorem efK (m : MethodId) (a : Addr) : entryFrame m #[(.ref a)] 1 = mkF m 0 #[.val (.ref a)] [] := by first | (simp [entryFrame, mkF, argsToLocals, Value.category]; done) | rfl
def QK (a g_NAME g_PREFIXED_NAME g_URI_QUALIFIED_NAME : Addr) (h0 : Heap) (n0 : Nat) (v : Option Value) (h : Heap) (L : List Loc) : Prop := v = some (.int (own_rel a g_NAME g_PREFIXED_NAME g_URI_QUALIFIED_NAME)) ∧ Fr n0 L ∧ h = h0
set_option maxRecDepth 65536 in
set_option maxHeartbeats 40000000 in
theorem rmK (l : Launch) (Z : State) (a0 : Array Value) (hw : ∀ d ∈ tables_1, d.before a0 Z = true) (ws : List Jvm.Cond) (a : Addr) (g_NAME g_PREFIXED_NAME g_URI_QUALIFIED_NAME : Addr) (h0 : Heap) (n0 : Nat) (Z0 : n0 ≤ h0.size) (S_NAME : Sta Z h0 "com/example/mint_path/mintpath/parse/TokenKind" "NAME" "Lcom/example/mint_path/mintpath/parse/TokenKind;" (.ref g_NAME)) (S_PREFIXED_NAME : Sta Z h0 "com/example/mint_path/mintpath/parse/TokenKind" "PREFIXED_NAME" "Lcom/example/mint_path/mintpath/parse/TokenKind;" (.ref g_PREFIXED_NAME)) (S_URI_QUALIFIED_NAME : Sta Z h0 "com/example/mint_path/mintpath/parse/TokenKind" "URI_QUALIFIED_NAME" "Lcom/example/mint_path/mintpath/parse/TokenKind;" (.ref g_URI_QUALIFIED_NAME)) :
    MetFree l (⟨"com/example/mint_path/mintpath/parse/TokenKind", "isName", "()Z"⟩ : MethodName) (head1 (Jvm.Cond.code (⟨"com/example/mint_path/mintpath/parse/TokenKind", "isName", "()Z"⟩ : MethodName) prog_27_method_5_code 1 (some .boolean) :: ws) ({ frames := 0, cells := 0, slots := 0, locals := 0 } : Room)) (fun as_ U => as_ = #[(.ref a)] ∧ Z.Warmed39 U.vm ∧ U.heap = h0) (fun _ _ _ _ _ => True) (fun _ U o U' => ∃ v L, o = .returned v ∧ QK a g_NAME g_PREFIXED_NAME g_URI_QUALIFIED_NAME h0 n0 v U'.heap L ∧ FrameEnd U o U' L ({ frames := 0, cells := 0, slots := 0, locals := 0 } : Room).cells ({ frames := 0, cells := 0, slots := 0, locals := 0 } : Room).slots) := by
  refine MetFree.of_bodySF (plainFor_of_name pnK) hisR ?_
  intro p e s m args below meth c s₁ Bd hml0 hP hK
  obtain ⟨rfl, hZ, hh⟩ := hP
  have hx := Bd.exec
  have hby := Bd.bytes
  have hml : c.maxLocals = 1 := hml0
  have hown : s.vm.findClass "com/example/mint_path/mintpath/parse/TokenKind" = some m.cls := findClass_of_methodNamed Bd.named
  have X0 : Stand p l e ({ frames := 0, cells := 0, slots := 0, locals := 0 } : Room) s m #[(.ref a)] below meth c s₁ [] 0 0 := Stand.of_body Bd
  have e0 : s₁.heap = h0 := by rw [← hh, Bd.state]; rfl
  have N0 := Fr.nil n0
  have pre0 : ∀ t, Steps p.tables e below (s₁.setTop (mkF m 0 #[.val (.ref a)] [])) t → Steps p.tables e below (s₁.setTop (entryFrame m #[(.ref a)] 1)) t := fun t kk_ => castTop (efK m a) kk_
  obtain ⟨T1, X1, e1, st1⟩ := getS2 X0 hx hZ hown (host := "") (Or.inl (hw _ (List.mem_of_getElem? (i := 90) rfl))) Via.refl e0 S_NAME (g := (mkF m 1 #[.val (.ref a)] [(.ref a)])) rfl (hb hby dK_1)
  have pre2 : ∀ t, Steps p.tables e below (T1.setTop (mkF m 4 #[.val (.ref a)] [(.ref g_NAME), (.ref a)])) t → Steps p.tables e below (s₁.setTop (entryFrame m #[(.ref a)] 1)) t := fun t kt => by
    refine pre0 t ?_
    show Steps p.tables e below (s₁.setTop (mkF m 0 #[.val (.ref a)] [])) _
    refine XS.aloadN X0.here hx rfl (hb hby dK_0) rfl rfl ?_
    show Steps p.tables e below (s₁.setTop (mkF m 1 #[.val (.ref a)] [(.ref a)])) _
    refine st1 _ ?_
    exact kt
  by_cases hc4_3 : a = g_NAME
  · obtain ⟨fs, hr, hrun, hended, hW, hsame⟩ := X1.leave (v := some (.int (1 : Int32))) (fun h => by rw [Bd.returns] at h; cases h)
    refine ⟨_, _, pre2 _ ?_, hrun, hended, _, _, rfl, ?_, ⟨_, rfl⟩, hW, hsame.mono (by decide) (by decide)⟩
    · show Steps p.tables e below (T1.setTop (mkF m 4 #[.val (.ref a)] [(.ref g_NAME), (.ref a)])) _
      refine Jvm.RoadKit.acmp (g := (mkF m 4 #[.val (.ref a)] [(.ref g_NAME), (.ref a)])) X1 hx rfl rfl rfl (pc0 := 4) (pc' := 21) (same := true) rfl (hb hby dK_4) rfl (decide_eq_true (congrArg Value.ref hc4_3)) (by decide) (by decide) ?_
      show Steps p.tables e below (T1.setTop (mkF m 21 #[.val (.ref a)] [])) _
      refine XS.iconst X1.here hx rfl (hb hby dK_21) ?_
      show Steps p.tables e below (T1.setTop (mkF m 22 #[.val (.ref a)] [(.int (1 : Int32))])) _
      refine XS.goto X1.here hx rfl (pc0 := 22) (pc' := 26) rfl (hb hby dK_22) (by decide) (by decide) ?_
      show Steps p.tables e below (T1.setTop (mkF m 26 #[.val (.ref a)] [(.int (1 : Int32))])) _
      exact retN X1 hx (t := .boolean) Bd.returns (by simp) (hb hby dK_26) hr
    · show QK a g_NAME g_PREFIXED_NAME g_URI_QUALIFIED_NAME h0 n0 _ T1.heap _
      rw [e1]
      exact ⟨by simp [own_rel, hc4_3], N0, rfl⟩
  · obtain ⟨T4, X4, e4, st4⟩ := getS2 X1 hx hZ hown (host := "") (Or.inl (hw _ (List.mem_of_getElem? (i := 91) rfl))) Via.refl e1 S_PREFIXED_NAME (g := (mkF m 8 #[.val (.ref a)] [(.ref a)])) rfl (hb hby dK_8)
    have pre5 : ∀ t, Steps p.tables e below (T4.setTop (mkF m 11 #[.val (.ref a)] [(.ref g_PREFIXED_NAME), (.ref a)])) t → Steps p.tables e below (s₁.setTop (entryFrame m #[(.ref a)] 1)) t := fun t kt => by
      refine pre2 t ?_
      show Steps p.tables e below (T1.setTop (mkF m 4 #[.val (.ref a)] [(.ref g_NAME), (.ref a)])) _
      refine Jvm.RoadKit.acmp (g := (mkF m 4 #[.val (.ref a)] [(.ref g_NAME), (.ref a)])) X1 hx rfl rfl rfl (pc0 := 4) (pc' := 7) (same := false) rfl (hb hby dK_4) rfl (decide_eq_false fun q => hc4_3 (Value.ref.inj q)) (by decide) (by decide) ?_
      show Steps p.tables e below (T1.setTop (mkF m 7 #[.val (.ref a)] [])) _
      refine XS.aloadN X1.here hx rfl (hb hby dK_7) rfl rfl ?_
      show Steps p.tables e below (T1.setTop (mkF m 8 #[.val (.ref a)] [(.ref a)])) _
      refine st4 _ ?_
      exact kt
    by_cases hc11_6 : a = g_PREFIXED_NAME
    · obtain ⟨fs, hr, hrun, hended, hW, hsame⟩ := X4.leave (v := some (.int (1 : Int32))) (fun h => by rw [Bd.returns] at h; cases h)
      refine ⟨_, _, pre5 _ ?_, hrun, hended, _, _, rfl, ?_, ⟨_, rfl⟩, hW, hsame.mono (by decide) (by decide)⟩
      · show Steps p.tables e below (T4.setTop (mkF m 11 #[.val (.ref a)] [(.ref g_PREFIXED_NAME), (.ref a)])) _
        refine Jvm.RoadKit.acmp (g := (mkF m 11 #[.val (.ref a)] [(.ref g_PREFIXED_NAME), (.ref a)])) X4 hx rfl rfl rfl (pc0 := 11) (pc' := 21) (same := true) rfl (hb hby dK_11) rfl (decide_eq_true (congrArg Value.ref hc11_6)) (by decide) (by decide) ?_
        show Steps p.tables e below (T4.setTop (mkF m 21 #[.val (.ref a)] [])) _
        refine XS.iconst X4.here hx rfl (hb hby dK_21) ?_
        show Steps p.tables e below (T4.setTop (mkF m 22 #[.val (.ref a)] [(.int (1 : Int32))])) _
        refine XS.goto X4.here hx rfl (pc0 := 22) (pc' := 26) rfl (hb hby dK_22) (by decide) (by decide) ?_
        show Steps p.tables e below (T4.setTop (mkF m 26 #[.val (.ref a)] [(.int (1 : Int32))])) _
        exact retN X4 hx (t := .boolean) Bd.returns (by simp) (hb hby dK_26) hr
      · show QK a g_NAME g_PREFIXED_NAME g_URI_QUALIFIED_NAME h0 n0 _ T4.heap _
        rw [e4]
        exact ⟨by simp [own_rel, hc4_3, hc11_6], N0, rfl⟩
    · obtain ⟨T7, X7, e7, st7⟩ := getS2 X4 hx hZ hown (host := "") (Or.inl (hw _ (List.mem_of_getElem? (i := 92) rfl))) Via.refl e4 S_URI_QUALIFIED_NAME (g := (mkF m 15 #[.val (.ref a)] [(.ref a)])) rfl (hb hby dK_15)
      have pre8 : ∀ t, Steps p.tables e below (T7.setTop (mkF m 18 #[.val (.ref a)] [(.ref g_URI_QUALIFIED_NAME), (.ref a)])) t → Steps p.tables e below (s₁.setTop (entryFrame m #[(.ref a)] 1)) t := fun t kt => by
        refine pre5 t ?_
        show Steps p.tables e below (T4.setTop (mkF m 11 #[.val (.ref a)] [(.ref g_PREFIXED_NAME), (.ref a)])) _
        refine Jvm.RoadKit.acmp (g := (mkF m 11 #[.val (.ref a)] [(.ref g_PREFIXED_NAME), (.ref a)])) X4 hx rfl rfl rfl (pc0 := 11) (pc' := 14) (same := false) rfl (hb hby dK_11) rfl (decide_eq_false fun q => hc11_6 (Value.ref.inj q)) (by decide) (by decide) ?_
        show Steps p.tables e below (T4.setTop (mkF m 14 #[.val (.ref a)] [])) _
        refine XS.aloadN X4.here hx rfl (hb hby dK_14) rfl rfl ?_
        show Steps p.tables e below (T4.setTop (mkF m 15 #[.val (.ref a)] [(.ref a)])) _
        refine st7 _ ?_
        exact kt
      by_cases hc18_9 : a = g_URI_QUALIFIED_NAME
      · obtain ⟨fs, hr, hrun, hended, hW, hsame⟩ := X7.leave (v := some (.int (1 : Int32))) (fun h => by rw [Bd.returns] at h; cases h)
        refine ⟨_, _, pre8 _ ?_, hrun, hended, _, _, rfl, ?_, ⟨_, rfl⟩, hW, hsame.mono (by decide) (by decide)⟩
        · show Steps p.tables e below (T7.setTop (mkF m 18 #[.val (.ref a)] [(.ref g_URI_QUALIFIED_NAME), (.ref a)])) _
          refine Jvm.RoadKit.acmp (g := (mkF m 18 #[.val (.ref a)] [(.ref g_URI_QUALIFIED_NAME), (.ref a)])) X7 hx rfl rfl rfl (pc0 := 18) (pc' := 21) (same := true) rfl (hb hby dK_18) rfl (decide_eq_true (congrArg Value.ref hc18_9)) (by decide) (by decide) ?_
          show Steps p.tables e below (T7.setTop (mkF m 21 #[.val (.ref a)] [])) _
          refine XS.iconst X7.here hx rfl (hb hby dK_21) ?_
          show Steps p.tables e below (T7.setTop (mkF m 22 #[.val (.ref a)] [(.int (1 : Int32))])) _
          refine XS.goto X7.here hx rfl (pc0 := 22) (pc' := 26) rfl (hb hby dK_22) (by decide) (by decide) ?_
          show Steps p.tables e below (T7.setTop (mkF m 26 #[.val (.ref a)] [(.int (1 : Int32))])) _
          exact retN X7 hx (t := .boolean) Bd.returns (by simp) (hb hby dK_26) hr
        · show QK a g_NAME g_PREFIXED_NAME g_URI_QUALIFIED_NAME h0 n0 _ T7.heap _
          rw [e7]
          exact ⟨by simp [own_rel, hc4_3, hc11_6, hc18_9], N0, rfl⟩
      · obtain ⟨fs, hr, hrun, hended, hW, hsame⟩ := X7.leave (v := some (.int (0 : Int32))) (fun h => by rw [Bd.returns] at h; cases h)
        refine ⟨_, _, pre8 _ ?_, hrun, hended, _, _, rfl, ?_, ⟨_, rfl⟩, hW, hsame.mono (by decide) (by decide)⟩
        · show Steps p.tables e below (T7.setTop (mkF m 18 #[.val (.ref a)] [(.ref g_URI_QUALIFIED_NAME), (.ref a)])) _
          refine Jvm.RoadKit.acmp (g := (mkF m 18 #[.val (.ref a)] [(.ref g_URI_QUALIFIED_NAME), (.ref a)])) X7 hx rfl rfl rfl (pc0 := 18) (pc' := 25) (same := false) rfl (hb hby dK_18) rfl (decide_eq_false fun q => hc18_9 (Value.ref.inj q)) (by decide) (by decide) ?_
          show Steps p.tables e below (T7.setTop (mkF m 25 #[.val (.ref a)] [])) _
          refine XS.iconst X7.here hx rfl (hb hby dK_25) ?_
          show Steps p.tables e below (T7.setTop (mkF m 26 #[.val (.ref a)] [(.int (0 : Int32))])) _
          exact retN X7 hx (t := .boolean) Bd.returns (by simp) (hb hby dK_26) hr
        · show QK a g_NAME g_PREFIXED_NAME g_URI_QUALIFIED_NAME h0 n0 _ T7.heap _
          rw [e7]
          exact ⟨by simp [own_rel, hc4_3, hc11_6, hc18_9], N0, rfl⟩
theorem pn0 : plainName "com/example/mint_path/mintpath/parse/TokenKindIsNamePinLaw" = true := by first | (simp [plainName, overriddenIn]; done) | decide +kernel
theorem pd0_0 : parseMethodDescriptor "()Z" = some ⟨[], some .boolean⟩ := by decide +kernel
theorem ef0 (m : MethodId) (p1 : Int32) : entryFrame m #[(.int p1)] maxLocals = mkF m 0 #[.val (.int p1), .unset, .unset, .unset, .unset] [] := by first | (simp [entryFrame, mkF, argsToLocals, Value.category, maxLocals]; done) | rfl
def Q0  (h0 : Heap) (n0 : Nat) (v : Option Value) (h : Heap) (L : List Loc) : Prop := v = some (.int (1 : Int32)) ∧ Fr n0 L
set_option maxRecDepth 65536 in
set_option maxHeartbeats 40000000 in
theorem rm0 (l : Launch) (Z : State) (a0 : Array Value) (hw : ∀ d ∈ tables_1, d.before a0 Z = true) (ws : List Jvm.Cond) (p1 : Int32) (w : Nat → Addr) (h0 : Heap) (n0 : Nat) (Z0 : n0 ≤ h0.size) (S_NUMERIC_LITERAL : Sta Z h0 "com/example/mint_path/mintpath/parse/TokenKind" "NUMERIC_LITERAL" "Lcom/example/mint_path/mintpath/parse/TokenKind;" (.ref (w 0))) (S_STRING_LITERAL : Sta Z h0 "com/example/mint_path/mintpath/parse/TokenKind" "STRING_LITERAL" "Lcom/example/mint_path/mintpath/parse/TokenKind;" (.ref (w 1))) (S_NAME : Sta Z h0 "com/example/mint_path/mintpath/parse/TokenKind" "NAME" "Lcom/example/mint_path/mintpath/parse/TokenKind;" (.ref (w 2))) (S_PREFIXED_NAME : Sta Z h0 "com/example/mint_path/mintpath/parse/TokenKind" "PREFIXED_NAME" "Lcom/example/mint_path/mintpath/parse/TokenKind;" (.ref (w 3))) (S_URI_QUALIFIED_NAME : Sta Z h0 "com/example/mint_path/mintpath/parse/TokenKind" "URI_QUALIFIED_NAME" "Lcom/example/mint_path/mintpath/parse/TokenKind;" (.ref (w 4))) (S_WILDCARD : Sta Z h0 "com/example/mint_path/mintpath/parse/TokenKind" "WILDCARD" "Lcom/example/mint_path/mintpath/parse/TokenKind;" (.ref (w 5))) (S_LEFT_PAREN : Sta Z h0 "com/example/mint_path/mintpath/parse/TokenKind" "LEFT_PAREN" "Lcom/example/mint_path/mintpath/parse/TokenKind;" (.ref (w 6))) (S_RIGHT_PAREN : Sta Z h0 "com/example/mint_path/mintpath/parse/TokenKind" "RIGHT_PAREN" "Lcom/example/mint_path/mintpath/parse/TokenKind;" (.ref (w 7))) (S_COMMA : Sta Z h0 "com/example/mint_path/mintpath/parse/TokenKind" "COMMA" "Lcom/example/mint_path/mintpath/parse/TokenKind;" (.ref (w 8))) (S_SEMICOLON : Sta Z h0 "com/example/mint_path/mintpath/parse/TokenKind" "SEMICOLON" "Lcom/example/mint_path/mintpath/parse/TokenKind;" (.ref (w 9))) (S_PLUS : Sta Z h0 "com/example/mint_path/mintpath/parse/TokenKind" "PLUS" "Lcom/example/mint_path/mintpath/parse/TokenKind;" (.ref (w 10))) (S_MINUS : Sta Z h0 "com/example/mint_path/mintpath/parse/TokenKind" "MINUS" "Lcom/example/mint_path/mintpath/parse/TokenKind;" (.ref (w 11))) (S_QUESTION_MARK : Sta Z h0 "com/example/mint_path/mintpath/parse/TokenKind" "QUESTION_MARK" "Lcom/example/mint_path/mintpath/parse/TokenKind;" (.ref (w 12))) (S_STAR : Sta Z h0 "com/example/mint_path/mintpath/parse/TokenKind" "STAR" "Lcom/example/mint_path/mintpath/parse/TokenKind;" (.ref (w 13))) (S_VERTICAL_BAR : Sta Z h0 "com/example/mint_path/mintpath/parse/TokenKind" "VERTICAL_BAR" "Lcom/example/mint_path/mintpath/parse/TokenKind;" (.ref (w 14))) (S_DOLLAR : Sta Z h0 "com/example/mint_path/mintpath/parse/TokenKind" "DOLLAR" "Lcom/example/mint_path/mintpath/parse/TokenKind;" (.ref (w 15))) (S_HASH : Sta Z h0 "com/example/mint_path/mintpath/parse/TokenKind" "HASH" "Lcom/example/mint_path/mintpath/parse/TokenKind;" (.ref (w 16))) (S_SLASH : Sta Z h0 "com/example/mint_path/mintpath/parse/TokenKind" "SLASH" "Lcom/example/mint_path/mintpath/parse/TokenKind;" (.ref (w 17))) (S_DOUBLE_SLASH : Sta Z h0 "com/example/mint_path/mintpath/parse/TokenKind" "DOUBLE_SLASH" "Lcom/example/mint_path/mintpath/parse/TokenKind;" (.ref (w 18))) (S_AT : Sta Z h0 "com/example/mint_path/mintpath/parse/TokenKind" "AT" "Lcom/example/mint_path/mintpath/parse/TokenKind;" (.ref (w 19))) (S_LEFT_BRACKET : Sta Z h0 "com/example/mint_path/mintpath/parse/TokenKind" "LEFT_BRACKET" "Lcom/example/mint_path/mintpath/parse/TokenKind;" (.ref (w 20))) (S_RIGHT_BRACKET : Sta Z h0 "com/example/mint_path/mintpath/parse/TokenKind" "RIGHT_BRACKET" "Lcom/example/mint_path/mintpath/parse/TokenKind;" (.ref (w 21))) (S_DOT : Sta Z h0 "com/example/mint_path/mintpath/parse/TokenKind" "DOT" "Lcom/example/mint_path/mintpath/parse/TokenKind;" (.ref (w 22))) (S_DOT_DOT : Sta Z h0 "com/example/mint_path/mintpath/parse/TokenKind" "DOT_DOT" "Lcom/example/mint_path/mintpath/parse/TokenKind;" (.ref (w 23))) (S_COLON_COLON : Sta Z h0 "com/example/mint_path/mintpath/parse/TokenKind" "COLON_COLON" "Lcom/example/mint_path/mintpath/parse/TokenKind;" (.ref (w 24))) (S_EQUALS : Sta Z h0 "com/example/mint_path/mintpath/parse/TokenKind" "EQUALS" "Lcom/example/mint_path/mintpath/parse/TokenKind;" (.ref (w 25))) (S_NOT_EQUALS : Sta Z h0 "com/example/mint_path/mintpath/parse/TokenKind" "NOT_EQUALS" "Lcom/example/mint_path/mintpath/parse/TokenKind;" (.ref (w 26))) (S_LESS_THAN : Sta Z h0 "com/example/mint_path/mintpath/parse/TokenKind" "LESS_THAN" "Lcom/example/mint_path/mintpath/parse/TokenKind;" (.ref (w 27))) (S_LESS_THAN_OR_EQUAL : Sta Z h0 "com/example/mint_path/mintpath/parse/TokenKind" "LESS_THAN_OR_EQUAL" "Lcom/example/mint_path/mintpath/parse/TokenKind;" (.ref (w 28))) (S_GREATER_THAN : Sta Z h0 "com/example/mint_path/mintpath/parse/TokenKind" "GREATER_THAN" "Lcom/example/mint_path/mintpath/parse/TokenKind;" (.ref (w 29))) (S_GREATER_THAN_OR_EQUAL : Sta Z h0 "com/example/mint_path/mintpath/parse/TokenKind" "GREATER_THAN_OR_EQUAL" "Lcom/example/mint_path/mintpath/parse/TokenKind;" (.ref (w 30))) (S_NODE_PRECEDES : Sta Z h0 "com/example/mint_path/mintpath/parse/TokenKind" "NODE_PRECEDES" "Lcom/example/mint_path/mintpath/parse/TokenKind;" (.ref (w 31))) (S_NODE_FOLLOWS : Sta Z h0 "com/example/mint_path/mintpath/parse/TokenKind" "NODE_FOLLOWS" "Lcom/example/mint_path/mintpath/parse/TokenKind;" (.ref (w 32))) (S_CONCATENATION : Sta Z h0 "com/example/mint_path/mintpath/parse/TokenKind" "CONCATENATION" "Lcom/example/mint_path/mintpath/parse/TokenKind;" (.ref (w 33))) (S_MULTIPLICATION_SIGN : Sta Z h0 "com/example/mint_path/mintpath/parse/TokenKind" "MULTIPLICATION_SIGN" "Lcom/example/mint_path/mintpath/parse/TokenKind;" (.ref (w 34))) (S_DIVISION_SIGN : Sta Z h0 "com/example/mint_path/mintpath/parse/TokenKind" "DIVISION_SIGN" "Lcom/example/mint_path/mintpath/parse/TokenKind;" (.ref (w 35))) (S_ASSIGN : Sta Z h0 "com/example/mint_path/mintpath/parse/TokenKind" "ASSIGN" "Lcom/example/mint_path/mintpath/parse/TokenKind;" (.ref (w 36))) (S_LEFT_BRACE : Sta Z h0 "com/example/mint_path/mintpath/parse/TokenKind" "LEFT_BRACE" "Lcom/example/mint_path/mintpath/parse/TokenKind;" (.ref (w 37))) (S_RIGHT_BRACE : Sta Z h0 "com/example/mint_path/mintpath/parse/TokenKind" "RIGHT_BRACE" "Lcom/example/mint_path/mintpath/parse/TokenKind;" (.ref (w 38))) (S_END : Sta Z h0 "com/example/mint_path/mintpath/parse/TokenKind" "END" "Lcom/example/mint_path/mintpath/parse/TokenKind;" (.ref (w 39))) (hE : ∀ i, i < 40 → Exa Z h0 (w i) "com/example/mint_path/mintpath/parse/TokenKind") (hO : ∀ i, i < 40 → Fld Z h0 (w i) "java/lang/Enum" "ordinal" "I" (.int (Int32.ofNat i))) :
    MetFree l x (head1 (Jvm.Cond.code x code maxLocals ret :: ws) room_1) (fun as_ U => as_ = #[(.int p1)] ∧ Z.Warmed39 U.vm ∧ U.heap = h0) (fun _ _ _ _ _ => True) (fun _ U o U' => ∃ v L, o = .returned v ∧ Q0 h0 n0 v U'.heap L ∧ FrameEnd U o U' L room_1.cells room_1.slots) := by
  refine MetFree.of_bodySF (plainFor_of_name pn0) hisR ?_
  intro p e s m args below meth c s₁ Bd hml0 hP hK
  obtain ⟨rfl, hZ, hh⟩ := hP
  have hx := Bd.exec
  have hby := Bd.bytes
  have hml : c.maxLocals = 5 := hml0
  have hown : s.vm.findClass "com/example/mint_path/mintpath/parse/TokenKindIsNamePinLaw" = some m.cls := findClass_of_methodNamed Bd.named
  have X0 : Stand p l e room_1 s m #[(.int p1)] below meth c s₁ [] 0 0 := Stand.of_body Bd
  have e0 : s₁.heap = h0 := by rw [← hh, Bd.state]; rfl
  have N0 := Fr.nil n0
  have pre0 : ∀ t, Steps p.tables e below (s₁.setTop (mkF m 0 #[.val (.int p1), .unset, .unset, .unset, .unset] [])) t → Steps p.tables e below (s₁.setTop (entryFrame m #[(.int p1)] maxLocals)) t := fun t kk_ => castTop (ef0 m p1) kk_
  obtain ⟨i, hi⟩ : ∃ z : Int32, z = (p1 &&& (2147483647 : Int32)) % (40 : Int32) := ⟨_, rfl⟩
  have ri := own_rng hi
  obtain ⟨q, hqi⟩ : ∃ z : Nat, z = i.toNatClampNeg := ⟨_, rfl⟩
  have hq := own_idx ri
  rw [← hqi] at hq
  obtain ⟨T1, h1, k1, X1, e1, E1, A1, O1, st1⟩ := newR X0 hx hZ hown (hw _ (List.mem_of_getElem? (i := 0) rfl)) (hw _ (List.mem_of_getElem? (i := 1) rfl)) e0 (g := (mkF m 2 #[.val (.int p1), .unset, .unset, .unset, .unset] [(.int (40 : Int32))])) rfl (hb hby at_2) rfl (by decide) (cap := 40) (by decide) (by decide) (by decide) (by decide)
  obtain ⟨b1, g1⟩ : ∃ z, z = h0.size := ⟨_, rfl⟩
  rw [← g1] at A1 st1
  have sz1 : h0.size ≤ b1 := Nat.le_of_eq g1.symm
  have gb1 : n0 ≤ b1 := Nat.le_trans Z0 sz1
  have pre2 : ∀ t, Steps p.tables e below (T1.setTop (mkF m 5 #[.val (.int p1), .unset, .unset, .unset, .unset] [(.ref b1)])) t → Steps p.tables e below (s₁.setTop (entryFrame m #[(.int p1)] maxLocals)) t := fun t kt => by
    refine pre0 t ?_
    show Steps p.tables e below (s₁.setTop (mkF m 0 #[.val (.int p1), .unset, .unset, .unset, .unset] [])) _
    refine XS.bipush X0.here hx rfl (hb hby at_0) ?_
    show Steps p.tables e below (s₁.setTop (mkF m 2 #[.val (.int p1), .unset, .unset, .unset, .unset] [(.int (40 : Int32))])) _
    refine st1 _ ?_
    exact kt
  have Y0 : own_At p l e room_1 s m #[(.int p1)] below meth c Z h0 n0 b1 k1 "com/example/mint_path/mintpath/parse/TokenKind" (40 : Int32) w #[.val (.int p1), .unset, .unset, .unset, .unset] (0 + 1) (0 + 40) (s₁.setTop (entryFrame m #[(.int p1)] maxLocals)) 5 0 := ⟨T1, _, h1, X1, N0, e1, (Keep.refl h0 []).ext E1, Arv.new A1 (by decide), pre2⟩
  have Y1 : own_At p l e room_1 s m #[(.int p1)] below meth c Z h0 n0 b1 k1 "com/example/mint_path/mintpath/parse/TokenKind" (40 : Int32) w #[.val (.int p1), .unset, .unset, .unset, .unset] (0 + 1) (0 + 40) (s₁.setTop (entryFrame m #[(.int p1)] maxLocals)) 11 1 := own_turn Y0 hx hZ hown O1 gb1 sz1 (hw _ (List.mem_of_getElem? (i := 2) rfl)) S_NUMERIC_LITERAL (hE 0 (by decide)) (j := (0 : Int32)) (by decide) ⟨by decide, by decide⟩ (hb hby at_5) (Or.inl ⟨hb hby at_6, by decide, rfl⟩) (hb hby at_7) (hb hby at_10) rfl
  have Y2 : own_At p l e room_1 s m #[(.int p1)] below meth c Z h0 n0 b1 k1 "com/example/mint_path/mintpath/parse/TokenKind" (40 : Int32) w #[.val (.int p1), .unset, .unset, .unset, .unset] (0 + 1) (0 + 40) (s₁.setTop (entryFrame m #[(.int p1)] maxLocals)) 17 2 := own_turn Y1 hx hZ hown O1 gb1 sz1 (hw _ (List.mem_of_getElem? (i := 6) rfl)) S_STRING_LITERAL (hE 1 (by decide)) (j := (1 : Int32)) (by decide) ⟨by decide, by decide⟩ (hb hby at_11) (Or.inl ⟨hb hby at_12, by decide, rfl⟩) (hb hby at_13) (hb hby at_16) rfl
  have Y3 : own_At p l e room_1 s m #[(.int p1)] below meth c Z h0 n0 b1 k1 "com/example/mint_path/mintpath/parse/TokenKind" (40 : Int32) w #[.val (.int p1), .unset, .unset, .unset, .unset] (0 + 1) (0 + 40) (s₁.setTop (entryFrame m #[(.int p1)] maxLocals)) 23 3 := own_turn Y2 hx hZ hown O1 gb1 sz1 (hw _ (List.mem_of_getElem? (i := 8) rfl)) S_NAME (hE 2 (by decide)) (j := (2 : Int32)) (by decide) ⟨by decide, by decide⟩ (hb hby at_17) (Or.inl ⟨hb hby at_18, by decide, rfl⟩) (hb hby at_19) (hb hby at_22) rfl
  have Y4 : own_At p l e room_1 s m #[(.int p1)] below meth c Z h0 n0 b1 k1 "com/example/mint_path/mintpath/parse/TokenKind" (40 : Int32) w #[.val (.int p1), .unset, .unset, .unset, .unset] (0 + 1) (0 + 40) (s₁.setTop (entryFrame m #[(.int p1)] maxLocals)) 29 4 := own_turn Y3 hx hZ hown O1 gb1 sz1 (hw _ (List.mem_of_getElem? (i := 10) rfl)) S_PREFIXED_NAME (hE 3 (by decide)) (j := (3 : Int32)) (by decide) ⟨by decide, by decide⟩ (hb hby at_23) (Or.inl ⟨hb hby at_24, by decide, rfl⟩) (hb hby at_25) (hb hby at_28) rfl
  have Y5 : own_At p l e room_1 s m #[(.int p1)] below meth c Z h0 n0 b1 k1 "com/example/mint_path/mintpath/parse/TokenKind" (40 : Int32) w #[.val (.int p1), .unset, .unset, .unset, .unset] (0 + 1) (0 + 40) (s₁.setTop (entryFrame m #[(.int p1)] maxLocals)) 35 5 := own_turn Y4 hx hZ hown O1 gb1 sz1 (hw _ (List.mem_of_getElem? (i := 12) rfl)) S_URI_QUALIFIED_NAME (hE 4 (by decide)) (j := (4 : Int32)) (by decide) ⟨by decide, by decide⟩ (hb hby at_29) (Or.inl ⟨hb hby at_30, by decide, rfl⟩) (hb hby at_31) (hb hby at_34) rfl
  have Y6 : own_At p l e room_1 s m #[(.int p1)] below meth c Z h0 n0 b1 k1 "com/example/mint_path/mintpath/parse/TokenKind" (40 : Int32) w #[.val (.int p1), .unset, .unset, .unset, .unset] (0 + 1) (0 + 40) (s₁.setTop (entryFrame m #[(.int p1)] maxLocals)) 41 6 := own_turn Y5 hx hZ hown O1 gb1 sz1 (hw _ (List.mem_of_getElem? (i := 14) rfl)) S_WILDCARD (hE 5 (by decide)) (j := (5 : Int32)) (by decide) ⟨by decide, by decide⟩ (hb hby at_35) (Or.inl ⟨hb hby at_36, by decide, rfl⟩) (hb hby at_37) (hb hby at_40) rfl
  have Y7 : own_At p l e room_1 s m #[(.int p1)] below meth c Z h0 n0 b1 k1 "com/example/mint_path/mintpath/parse/TokenKind" (40 : Int32) w #[.val (.int p1), .unset, .unset, .unset, .unset] (0 + 1) (0 + 40) (s₁.setTop (entryFrame m #[(.int p1)] maxLocals)) 48 7 := own_turn Y6 hx hZ hown O1 gb1 sz1 (hw _ (List.mem_of_getElem? (i := 16) rfl)) S_LEFT_PAREN (hE 6 (by decide)) (j := (6 : Int32)) (by decide) ⟨by decide, by decide⟩ (hb hby at_41) (Or.inr ⟨hb hby at_42, by decide, rfl⟩) (hb hby at_44) (hb hby at_47) rfl
  have Y8 : own_At p l e room_1 s m #[(.int p1)] below meth c Z h0 n0 b1 k1 "com/example/mint_path/mintpath/parse/TokenKind" (40 : Int32) w #[.val (.int p1), .unset, .unset, .unset, .unset] (0 + 1) (0 + 40) (s₁.setTop (entryFrame m #[(.int p1)] maxLocals)) 55 8 := own_turn Y7 hx hZ hown O1 gb1 sz1 (hw _ (List.mem_of_getElem? (i := 18) rfl)) S_RIGHT_PAREN (hE 7 (by decide)) (j := (7 : Int32)) (by decide) ⟨by decide, by decide⟩ (hb hby at_48) (Or.inr ⟨hb hby at_49, by decide, rfl⟩) (hb hby at_51) (hb hby at_54) rfl
  have Y9 : own_At p l e room_1 s m #[(.int p1)] below meth c Z h0 n0 b1 k1 "com/example/mint_path/mintpath/parse/TokenKind" (40 : Int32) w #[.val (.int p1), .unset, .unset, .unset, .unset] (0 + 1) (0 + 40) (s₁.setTop (entryFrame m #[(.int p1)] maxLocals)) 62 9 := own_turn Y8 hx hZ hown O1 gb1 sz1 (hw _ (List.mem_of_getElem? (i := 20) rfl)) S_COMMA (hE 8 (by decide)) (j := (8 : Int32)) (by decide) ⟨by decide, by decide⟩ (hb hby at_55) (Or.inr ⟨hb hby at_56, by decide, rfl⟩) (hb hby at_58) (hb hby at_61) rfl
  have Y10 : own_At p l e room_1 s m #[(.int p1)] below meth c Z h0 n0 b1 k1 "com/example/mint_path/mintpath/parse/TokenKind" (40 : Int32) w #[.val (.int p1), .unset, .unset, .unset, .unset] (0 + 1) (0 + 40) (s₁.setTop (entryFrame m #[(.int p1)] maxLocals)) 69 10 := own_turn Y9 hx hZ hown O1 gb1 sz1 (hw _ (List.mem_of_getElem? (i := 22) rfl)) S_SEMICOLON (hE 9 (by decide)) (j := (9 : Int32)) (by decide) ⟨by decide, by decide⟩ (hb hby at_62) (Or.inr ⟨hb hby at_63, by decide, rfl⟩) (hb hby at_65) (hb hby at_68) rfl
  have Y11 : own_At p l e room_1 s m #[(.int p1)] below meth c Z h0 n0 b1 k1 "com/example/mint_path/mintpath/parse/TokenKind" (40 : Int32) w #[.val (.int p1), .unset, .unset, .unset, .unset] (0 + 1) (0 + 40) (s₁.setTop (entryFrame m #[(.int p1)] maxLocals)) 76 11 := own_turn Y10 hx hZ hown O1 gb1 sz1 (hw _ (List.mem_of_getElem? (i := 24) rfl)) S_PLUS (hE 10 (by decide)) (j := (10 : Int32)) (by decide) ⟨by decide, by decide⟩ (hb hby at_69) (Or.inr ⟨hb hby at_70, by decide, rfl⟩) (hb hby at_72) (hb hby at_75) rfl
  have Y12 : own_At p l e room_1 s m #[(.int p1)] below meth c Z h0 n0 b1 k1 "com/example/mint_path/mintpath/parse/TokenKind" (40 : Int32) w #[.val (.int p1), .unset, .unset, .unset, .unset] (0 + 1) (0 + 40) (s₁.setTop (entryFrame m #[(.int p1)] maxLocals)) 83 12 := own_turn Y11 hx hZ hown O1 gb1 sz1 (hw _ (List.mem_of_getElem? (i := 26) rfl)) S_MINUS (hE 11 (by decide)) (j := (11 : Int32)) (by decide) ⟨by decide, by decide⟩ (hb hby at_76) (Or.inr ⟨hb hby at_77, by decide, rfl⟩) (hb hby at_79) (hb hby at_82) rfl
  have Y13 : own_At p l e room_1 s m #[(.int p1)] below meth c Z h0 n0 b1 k1 "com/example/mint_path/mintpath/parse/TokenKind" (40 : Int32) w #[.val (.int p1), .unset, .unset, .unset, .unset] (0 + 1) (0 + 40) (s₁.setTop (entryFrame m #[(.int p1)] maxLocals)) 90 13 := own_turn Y12 hx hZ hown O1 gb1 sz1 (hw _ (List.mem_of_getElem? (i := 28) rfl)) S_QUESTION_MARK (hE 12 (by decide)) (j := (12 : Int32)) (by decide) ⟨by decide, by decide⟩ (hb hby at_83) (Or.inr ⟨hb hby at_84, by decide, rfl⟩) (hb hby at_86) (hb hby at_89) rfl
  have Y14 : own_At p l e room_1 s m #[(.int p1)] below meth c Z h0 n0 b1 k1 "com/example/mint_path/mintpath/parse/TokenKind" (40 : Int32) w #[.val (.int p1), .unset, .unset, .unset, .unset] (0 + 1) (0 + 40) (s₁.setTop (entryFrame m #[(.int p1)] maxLocals)) 97 14 := own_turn Y13 hx hZ hown O1 gb1 sz1 (hw _ (List.mem_of_getElem? (i := 30) rfl)) S_STAR (hE 13 (by decide)) (j := (13 : Int32)) (by decide) ⟨by decide, by decide⟩ (hb hby at_90) (Or.inr ⟨hb hby at_91, by decide, rfl⟩) (hb hby at_93) (hb hby at_96) rfl
  have Y15 : own_At p l e room_1 s m #[(.int p1)] below meth c Z h0 n0 b1 k1 "com/example/mint_path/mintpath/parse/TokenKind" (40 : Int32) w #[.val (.int p1), .unset, .unset, .unset, .unset] (0 + 1) (0 + 40) (s₁.setTop (entryFrame m #[(.int p1)] maxLocals)) 104 15 := own_turn Y14 hx hZ hown O1 gb1 sz1 (hw _ (List.mem_of_getElem? (i := 32) rfl)) S_VERTICAL_BAR (hE 14 (by decide)) (j := (14 : Int32)) (by decide) ⟨by decide, by decide⟩ (hb hby at_97) (Or.inr ⟨hb hby at_98, by decide, rfl⟩) (hb hby at_100) (hb hby at_103) rfl
  have Y16 : own_At p l e room_1 s m #[(.int p1)] below meth c Z h0 n0 b1 k1 "com/example/mint_path/mintpath/parse/TokenKind" (40 : Int32) w #[.val (.int p1), .unset, .unset, .unset, .unset] (0 + 1) (0 + 40) (s₁.setTop (entryFrame m #[(.int p1)] maxLocals)) 111 16 := own_turn Y15 hx hZ hown O1 gb1 sz1 (hw _ (List.mem_of_getElem? (i := 34) rfl)) S_DOLLAR (hE 15 (by decide)) (j := (15 : Int32)) (by decide) ⟨by decide, by decide⟩ (hb hby at_104) (Or.inr ⟨hb hby at_105, by decide, rfl⟩) (hb hby at_107) (hb hby at_110) rfl
  have Y17 : own_At p l e room_1 s m #[(.int p1)] below meth c Z h0 n0 b1 k1 "com/example/mint_path/mintpath/parse/TokenKind" (40 : Int32) w #[.val (.int p1), .unset, .unset, .unset, .unset] (0 + 1) (0 + 40) (s₁.setTop (entryFrame m #[(.int p1)] maxLocals)) 118 17 := own_turn Y16 hx hZ hown O1 gb1 sz1 (hw _ (List.mem_of_getElem? (i := 36) rfl)) S_HASH (hE 16 (by decide)) (j := (16 : Int32)) (by decide) ⟨by decide, by decide⟩ (hb hby at_111) (Or.inr ⟨hb hby at_112, by decide, rfl⟩) (hb hby at_114) (hb hby at_117) rfl
  have Y18 : own_At p l e room_1 s m #[(.int p1)] below meth c Z h0 n0 b1 k1 "com/example/mint_path/mintpath/parse/TokenKind" (40 : Int32) w #[.val (.int p1), .unset, .unset, .unset, .unset] (0 + 1) (0 + 40) (s₁.setTop (entryFrame m #[(.int p1)] maxLocals)) 125 18 := own_turn Y17 hx hZ hown O1 gb1 sz1 (hw _ (List.mem_of_getElem? (i := 38) rfl)) S_SLASH (hE 17 (by decide)) (j := (17 : Int32)) (by decide) ⟨by decide, by decide⟩ (hb hby at_118) (Or.inr ⟨hb hby at_119, by decide, rfl⟩) (hb hby at_121) (hb hby at_124) rfl
  have Y19 : own_At p l e room_1 s m #[(.int p1)] below meth c Z h0 n0 b1 k1 "com/example/mint_path/mintpath/parse/TokenKind" (40 : Int32) w #[.val (.int p1), .unset, .unset, .unset, .unset] (0 + 1) (0 + 40) (s₁.setTop (entryFrame m #[(.int p1)] maxLocals)) 132 19 := own_turn Y18 hx hZ hown O1 gb1 sz1 (hw _ (List.mem_of_getElem? (i := 40) rfl)) S_DOUBLE_SLASH (hE 18 (by decide)) (j := (18 : Int32)) (by decide) ⟨by decide, by decide⟩ (hb hby at_125) (Or.inr ⟨hb hby at_126, by decide, rfl⟩) (hb hby at_128) (hb hby at_131) rfl
  have Y20 : own_At p l e room_1 s m #[(.int p1)] below meth c Z h0 n0 b1 k1 "com/example/mint_path/mintpath/parse/TokenKind" (40 : Int32) w #[.val (.int p1), .unset, .unset, .unset, .unset] (0 + 1) (0 + 40) (s₁.setTop (entryFrame m #[(.int p1)] maxLocals)) 139 20 := own_turn Y19 hx hZ hown O1 gb1 sz1 (hw _ (List.mem_of_getElem? (i := 42) rfl)) S_AT (hE 19 (by decide)) (j := (19 : Int32)) (by decide) ⟨by decide, by decide⟩ (hb hby at_132) (Or.inr ⟨hb hby at_133, by decide, rfl⟩) (hb hby at_135) (hb hby at_138) rfl
  have Y21 : own_At p l e room_1 s m #[(.int p1)] below meth c Z h0 n0 b1 k1 "com/example/mint_path/mintpath/parse/TokenKind" (40 : Int32) w #[.val (.int p1), .unset, .unset, .unset, .unset] (0 + 1) (0 + 40) (s₁.setTop (entryFrame m #[(.int p1)] maxLocals)) 146 21 := own_turn Y20 hx hZ hown O1 gb1 sz1 (hw _ (List.mem_of_getElem? (i := 44) rfl)) S_LEFT_BRACKET (hE 20 (by decide)) (j := (20 : Int32)) (by decide) ⟨by decide, by decide⟩ (hb hby at_139) (Or.inr ⟨hb hby at_140, by decide, rfl⟩) (hb hby at_142) (hb hby at_145) rfl
  have Y22 : own_At p l e room_1 s m #[(.int p1)] below meth c Z h0 n0 b1 k1 "com/example/mint_path/mintpath/parse/TokenKind" (40 : Int32) w #[.val (.int p1), .unset, .unset, .unset, .unset] (0 + 1) (0 + 40) (s₁.setTop (entryFrame m #[(.int p1)] maxLocals)) 153 22 := own_turn Y21 hx hZ hown O1 gb1 sz1 (hw _ (List.mem_of_getElem? (i := 46) rfl)) S_RIGHT_BRACKET (hE 21 (by decide)) (j := (21 : Int32)) (by decide) ⟨by decide, by decide⟩ (hb hby at_146) (Or.inr ⟨hb hby at_147, by decide, rfl⟩) (hb hby at_149) (hb hby at_152) rfl
  have Y23 : own_At p l e room_1 s m #[(.int p1)] below meth c Z h0 n0 b1 k1 "com/example/mint_path/mintpath/parse/TokenKind" (40 : Int32) w #[.val (.int p1), .unset, .unset, .unset, .unset] (0 + 1) (0 + 40) (s₁.setTop (entryFrame m #[(.int p1)] maxLocals)) 160 23 := own_turn Y22 hx hZ hown O1 gb1 sz1 (hw _ (List.mem_of_getElem? (i := 48) rfl)) S_DOT (hE 22 (by decide)) (j := (22 : Int32)) (by decide) ⟨by decide, by decide⟩ (hb hby at_153) (Or.inr ⟨hb hby at_154, by decide, rfl⟩) (hb hby at_156) (hb hby at_159) rfl
  have Y24 : own_At p l e room_1 s m #[(.int p1)] below meth c Z h0 n0 b1 k1 "com/example/mint_path/mintpath/parse/TokenKind" (40 : Int32) w #[.val (.int p1), .unset, .unset, .unset, .unset] (0 + 1) (0 + 40) (s₁.setTop (entryFrame m #[(.int p1)] maxLocals)) 167 24 := own_turn Y23 hx hZ hown O1 gb1 sz1 (hw _ (List.mem_of_getElem? (i := 50) rfl)) S_DOT_DOT (hE 23 (by decide)) (j := (23 : Int32)) (by decide) ⟨by decide, by decide⟩ (hb hby at_160) (Or.inr ⟨hb hby at_161, by decide, rfl⟩) (hb hby at_163) (hb hby at_166) rfl
  have Y25 : own_At p l e room_1 s m #[(.int p1)] below meth c Z h0 n0 b1 k1 "com/example/mint_path/mintpath/parse/TokenKind" (40 : Int32) w #[.val (.int p1), .unset, .unset, .unset, .unset] (0 + 1) (0 + 40) (s₁.setTop (entryFrame m #[(.int p1)] maxLocals)) 174 25 := own_turn Y24 hx hZ hown O1 gb1 sz1 (hw _ (List.mem_of_getElem? (i := 52) rfl)) S_COLON_COLON (hE 24 (by decide)) (j := (24 : Int32)) (by decide) ⟨by decide, by decide⟩ (hb hby at_167) (Or.inr ⟨hb hby at_168, by decide, rfl⟩) (hb hby at_170) (hb hby at_173) rfl
  have Y26 : own_At p l e room_1 s m #[(.int p1)] below meth c Z h0 n0 b1 k1 "com/example/mint_path/mintpath/parse/TokenKind" (40 : Int32) w #[.val (.int p1), .unset, .unset, .unset, .unset] (0 + 1) (0 + 40) (s₁.setTop (entryFrame m #[(.int p1)] maxLocals)) 181 26 := own_turn Y25 hx hZ hown O1 gb1 sz1 (hw _ (List.mem_of_getElem? (i := 54) rfl)) S_EQUALS (hE 25 (by decide)) (j := (25 : Int32)) (by decide) ⟨by decide, by decide⟩ (hb hby at_174) (Or.inr ⟨hb hby at_175, by decide, rfl⟩) (hb hby at_177) (hb hby at_180) rfl
  have Y27 : own_At p l e room_1 s m #[(.int p1)] below meth c Z h0 n0 b1 k1 "com/example/mint_path/mintpath/parse/TokenKind" (40 : Int32) w #[.val (.int p1), .unset, .unset, .unset, .unset] (0 + 1) (0 + 40) (s₁.setTop (entryFrame m #[(.int p1)] maxLocals)) 188 27 := own_turn Y26 hx hZ hown O1 gb1 sz1 (hw _ (List.mem_of_getElem? (i := 56) rfl)) S_NOT_EQUALS (hE 26 (by decide)) (j := (26 : Int32)) (by decide) ⟨by decide, by decide⟩ (hb hby at_181) (Or.inr ⟨hb hby at_182, by decide, rfl⟩) (hb hby at_184) (hb hby at_187) rfl
  have Y28 : own_At p l e room_1 s m #[(.int p1)] below meth c Z h0 n0 b1 k1 "com/example/mint_path/mintpath/parse/TokenKind" (40 : Int32) w #[.val (.int p1), .unset, .unset, .unset, .unset] (0 + 1) (0 + 40) (s₁.setTop (entryFrame m #[(.int p1)] maxLocals)) 195 28 := own_turn Y27 hx hZ hown O1 gb1 sz1 (hw _ (List.mem_of_getElem? (i := 58) rfl)) S_LESS_THAN (hE 27 (by decide)) (j := (27 : Int32)) (by decide) ⟨by decide, by decide⟩ (hb hby at_188) (Or.inr ⟨hb hby at_189, by decide, rfl⟩) (hb hby at_191) (hb hby at_194) rfl
  have Y29 : own_At p l e room_1 s m #[(.int p1)] below meth c Z h0 n0 b1 k1 "com/example/mint_path/mintpath/parse/TokenKind" (40 : Int32) w #[.val (.int p1), .unset, .unset, .unset, .unset] (0 + 1) (0 + 40) (s₁.setTop (entryFrame m #[(.int p1)] maxLocals)) 202 29 := own_turn Y28 hx hZ hown O1 gb1 sz1 (hw _ (List.mem_of_getElem? (i := 60) rfl)) S_LESS_THAN_OR_EQUAL (hE 28 (by decide)) (j := (28 : Int32)) (by decide) ⟨by decide, by decide⟩ (hb hby at_195) (Or.inr ⟨hb hby at_196, by decide, rfl⟩) (hb hby at_198) (hb hby at_201) rfl
  have Y30 : own_At p l e room_1 s m #[(.int p1)] below meth c Z h0 n0 b1 k1 "com/example/mint_path/mintpath/parse/TokenKind" (40 : Int32) w #[.val (.int p1), .unset, .unset, .unset, .unset] (0 + 1) (0 + 40) (s₁.setTop (entryFrame m #[(.int p1)] maxLocals)) 209 30 := own_turn Y29 hx hZ hown O1 gb1 sz1 (hw _ (List.mem_of_getElem? (i := 62) rfl)) S_GREATER_THAN (hE 29 (by decide)) (j := (29 : Int32)) (by decide) ⟨by decide, by decide⟩ (hb hby at_202) (Or.inr ⟨hb hby at_203, by decide, rfl⟩) (hb hby at_205) (hb hby at_208) rfl
  have Y31 : own_At p l e room_1 s m #[(.int p1)] below meth c Z h0 n0 b1 k1 "com/example/mint_path/mintpath/parse/TokenKind" (40 : Int32) w #[.val (.int p1), .unset, .unset, .unset, .unset] (0 + 1) (0 + 40) (s₁.setTop (entryFrame m #[(.int p1)] maxLocals)) 216 31 := own_turn Y30 hx hZ hown O1 gb1 sz1 (hw _ (List.mem_of_getElem? (i := 64) rfl)) S_GREATER_THAN_OR_EQUAL (hE 30 (by decide)) (j := (30 : Int32)) (by decide) ⟨by decide, by decide⟩ (hb hby at_209) (Or.inr ⟨hb hby at_210, by decide, rfl⟩) (hb hby at_212) (hb hby at_215) rfl
  have Y32 : own_At p l e room_1 s m #[(.int p1)] below meth c Z h0 n0 b1 k1 "com/example/mint_path/mintpath/parse/TokenKind" (40 : Int32) w #[.val (.int p1), .unset, .unset, .unset, .unset] (0 + 1) (0 + 40) (s₁.setTop (entryFrame m #[(.int p1)] maxLocals)) 223 32 := own_turn Y31 hx hZ hown O1 gb1 sz1 (hw _ (List.mem_of_getElem? (i := 66) rfl)) S_NODE_PRECEDES (hE 31 (by decide)) (j := (31 : Int32)) (by decide) ⟨by decide, by decide⟩ (hb hby at_216) (Or.inr ⟨hb hby at_217, by decide, rfl⟩) (hb hby at_219) (hb hby at_222) rfl
  have Y33 : own_At p l e room_1 s m #[(.int p1)] below meth c Z h0 n0 b1 k1 "com/example/mint_path/mintpath/parse/TokenKind" (40 : Int32) w #[.val (.int p1), .unset, .unset, .unset, .unset] (0 + 1) (0 + 40) (s₁.setTop (entryFrame m #[(.int p1)] maxLocals)) 230 33 := own_turn Y32 hx hZ hown O1 gb1 sz1 (hw _ (List.mem_of_getElem? (i := 68) rfl)) S_NODE_FOLLOWS (hE 32 (by decide)) (j := (32 : Int32)) (by decide) ⟨by decide, by decide⟩ (hb hby at_223) (Or.inr ⟨hb hby at_224, by decide, rfl⟩) (hb hby at_226) (hb hby at_229) rfl
  have Y34 : own_At p l e room_1 s m #[(.int p1)] below meth c Z h0 n0 b1 k1 "com/example/mint_path/mintpath/parse/TokenKind" (40 : Int32) w #[.val (.int p1), .unset, .unset, .unset, .unset] (0 + 1) (0 + 40) (s₁.setTop (entryFrame m #[(.int p1)] maxLocals)) 237 34 := own_turn Y33 hx hZ hown O1 gb1 sz1 (hw _ (List.mem_of_getElem? (i := 70) rfl)) S_CONCATENATION (hE 33 (by decide)) (j := (33 : Int32)) (by decide) ⟨by decide, by decide⟩ (hb hby at_230) (Or.inr ⟨hb hby at_231, by decide, rfl⟩) (hb hby at_233) (hb hby at_236) rfl
  have Y35 : own_At p l e room_1 s m #[(.int p1)] below meth c Z h0 n0 b1 k1 "com/example/mint_path/mintpath/parse/TokenKind" (40 : Int32) w #[.val (.int p1), .unset, .unset, .unset, .unset] (0 + 1) (0 + 40) (s₁.setTop (entryFrame m #[(.int p1)] maxLocals)) 244 35 := own_turn Y34 hx hZ hown O1 gb1 sz1 (hw _ (List.mem_of_getElem? (i := 72) rfl)) S_MULTIPLICATION_SIGN (hE 34 (by decide)) (j := (34 : Int32)) (by decide) ⟨by decide, by decide⟩ (hb hby at_237) (Or.inr ⟨hb hby at_238, by decide, rfl⟩) (hb hby at_240) (hb hby at_243) rfl
  have Y36 : own_At p l e room_1 s m #[(.int p1)] below meth c Z h0 n0 b1 k1 "com/example/mint_path/mintpath/parse/TokenKind" (40 : Int32) w #[.val (.int p1), .unset, .unset, .unset, .unset] (0 + 1) (0 + 40) (s₁.setTop (entryFrame m #[(.int p1)] maxLocals)) 251 36 := own_turn Y35 hx hZ hown O1 gb1 sz1 (hw _ (List.mem_of_getElem? (i := 74) rfl)) S_DIVISION_SIGN (hE 35 (by decide)) (j := (35 : Int32)) (by decide) ⟨by decide, by decide⟩ (hb hby at_244) (Or.inr ⟨hb hby at_245, by decide, rfl⟩) (hb hby at_247) (hb hby at_250) rfl
  have Y37 : own_At p l e room_1 s m #[(.int p1)] below meth c Z h0 n0 b1 k1 "com/example/mint_path/mintpath/parse/TokenKind" (40 : Int32) w #[.val (.int p1), .unset, .unset, .unset, .unset] (0 + 1) (0 + 40) (s₁.setTop (entryFrame m #[(.int p1)] maxLocals)) 258 37 := own_turn Y36 hx hZ hown O1 gb1 sz1 (hw _ (List.mem_of_getElem? (i := 76) rfl)) S_ASSIGN (hE 36 (by decide)) (j := (36 : Int32)) (by decide) ⟨by decide, by decide⟩ (hb hby at_251) (Or.inr ⟨hb hby at_252, by decide, rfl⟩) (hb hby at_254) (hb hby at_257) rfl
  have Y38 : own_At p l e room_1 s m #[(.int p1)] below meth c Z h0 n0 b1 k1 "com/example/mint_path/mintpath/parse/TokenKind" (40 : Int32) w #[.val (.int p1), .unset, .unset, .unset, .unset] (0 + 1) (0 + 40) (s₁.setTop (entryFrame m #[(.int p1)] maxLocals)) 265 38 := own_turn Y37 hx hZ hown O1 gb1 sz1 (hw _ (List.mem_of_getElem? (i := 78) rfl)) S_LEFT_BRACE (hE 37 (by decide)) (j := (37 : Int32)) (by decide) ⟨by decide, by decide⟩ (hb hby at_258) (Or.inr ⟨hb hby at_259, by decide, rfl⟩) (hb hby at_261) (hb hby at_264) rfl
  have Y39 : own_At p l e room_1 s m #[(.int p1)] below meth c Z h0 n0 b1 k1 "com/example/mint_path/mintpath/parse/TokenKind" (40 : Int32) w #[.val (.int p1), .unset, .unset, .unset, .unset] (0 + 1) (0 + 40) (s₁.setTop (entryFrame m #[(.int p1)] maxLocals)) 272 39 := own_turn Y38 hx hZ hown O1 gb1 sz1 (hw _ (List.mem_of_getElem? (i := 80) rfl)) S_RIGHT_BRACE (hE 38 (by decide)) (j := (38 : Int32)) (by decide) ⟨by decide, by decide⟩ (hb hby at_265) (Or.inr ⟨hb hby at_266, by decide, rfl⟩) (hb hby at_268) (hb hby at_271) rfl
  have Y40 : own_At p l e room_1 s m #[(.int p1)] below meth c Z h0 n0 b1 k1 "com/example/mint_path/mintpath/parse/TokenKind" (40 : Int32) w #[.val (.int p1), .unset, .unset, .unset, .unset] (0 + 1) (0 + 40) (s₁.setTop (entryFrame m #[(.int p1)] maxLocals)) 279 40 := own_turn Y39 hx hZ hown O1 gb1 sz1 (hw _ (List.mem_of_getElem? (i := 82) rfl)) S_END (hE 39 (by decide)) (j := (39 : Int32)) (by decide) ⟨by decide, by decide⟩ (hb hby at_272) (Or.inr ⟨hb hby at_273, by decide, rfl⟩) (hb hby at_275) (hb hby at_278) rfl
  obtain ⟨T3, Lx3, h3, X3, N3, e3, K3, V3, st3⟩ := Y40
  obtain ⟨cl4, Ar4, qa4, Sa4, Ma4, Ha4, Ga4⟩ := V3
  have hin4 := inb_of (j := i) Sa4 ri
  have hat4 : cl4.slots[(i).toNatClampNeg]? = some (.ref (w q)) := Has.at Ha4 hin4 (by rw [← hqi]; exact own_ws_at w hq.2)
  have pre5 : ∀ t, Steps p.tables e below (T3.setTop (mkF m 294 #[.val (.int p1), .val (.ref b1), .val (.int i), .val (.ref (w q)), .unset] [(.int (2 : Int32)), (.int i)])) t → Steps p.tables e below (s₁.setTop (entryFrame m #[(.int p1)] maxLocals)) t := fun t kt => by
    refine st3 t ?_
    show Steps p.tables e below (T3.setTop (mkF m 279 #[.val (.int p1), .unset, .unset, .unset, .unset] [(.ref b1)])) _
    refine XS.astoreN X3.here hx rfl (hb hby at_279) rfl rfl (l' := #[.val (.int p1), .val (.ref b1), .unset, .unset, .unset]) rfl ?_
    show Steps p.tables e below (T3.setTop (mkF m 280 #[.val (.int p1), .val (.ref b1), .unset, .unset, .unset] [])) _
    refine XS.iloadN X3.here hx rfl (hb hby at_280) rfl ?_
    show Steps p.tables e below (T3.setTop (mkF m 281 #[.val (.int p1), .val (.ref b1), .unset, .unset, .unset] [(.int p1)])) _
    refine X3.ldcI hx hown (mvT hZ (hw _ (List.mem_of_getElem? (i := 84) rfl))) (g := (mkF m 281 #[.val (.int p1), .val (.ref b1), .unset, .unset, .unset] [(.int p1)])) rfl (hb hby at_281) ?_
    show Steps p.tables e below (T3.setTop (mkF m 283 #[.val (.int p1), .val (.ref b1), .unset, .unset, .unset] [(.int (2147483647 : Int32)), (.int p1)])) _
    refine XS.iand X3.here hx rfl (hb hby at_283) rfl ?_
    show Steps p.tables e below (T3.setTop (mkF m 284 #[.val (.int p1), .val (.ref b1), .unset, .unset, .unset] [(.int (p1 &&& (2147483647 : Int32)))])) _
    refine XS.bipush X3.here hx rfl (hb hby at_284) ?_
    show Steps p.tables e below (T3.setTop (mkF m 286 #[.val (.int p1), .val (.ref b1), .unset, .unset, .unset] [(.int (40 : Int32)), (.int (p1 &&& (2147483647 : Int32)))])) _
    refine iremM (g := (mkF m 286 #[.val (.int p1), .val (.ref b1), .unset, .unset, .unset] [(.int (40 : Int32)), (.int (p1 &&& (2147483647 : Int32)))])) X3 hx rfl (hb hby at_286) rfl (by decide) ?_
    show Steps p.tables e below (T3.setTop (mkF m 287 #[.val (.int p1), .val (.ref b1), .unset, .unset, .unset] [(.int ((p1 &&& (2147483647 : Int32)) % (40 : Int32)))])) _
    rw [← hi]
    show Steps p.tables e below (T3.setTop (mkF m 287 #[.val (.int p1), .val (.ref b1), .unset, .unset, .unset] [(.int i)])) _
    refine XS.istoreN X3.here hx rfl (hb hby at_287) rfl (l' := #[.val (.int p1), .val (.ref b1), .val (.int i), .unset, .unset]) rfl ?_
    show Steps p.tables e below (T3.setTop (mkF m 288 #[.val (.int p1), .val (.ref b1), .val (.int i), .unset, .unset] [])) _
    refine XS.aloadN X3.here hx rfl (hb hby at_288) rfl rfl ?_
    show Steps p.tables e below (T3.setTop (mkF m 289 #[.val (.int p1), .val (.ref b1), .val (.int i), .unset, .unset] [(.ref b1)])) _
    refine XS.iloadN X3.here hx rfl (hb hby at_289) rfl ?_
    show Steps p.tables e below (T3.setTop (mkF m 290 #[.val (.int p1), .val (.ref b1), .val (.int i), .unset, .unset] [(.int i), (.ref b1)])) _
    refine X3.aaload hx (j := i) (v := (.ref (w q))) (by rw [e3]; exact Ar4.1) (State.isArrayOf_alike hZ.alike Ar4.2.1) rfl Ar4.2.2 hin4 hat4 (g := (mkF m 290 #[.val (.int p1), .val (.ref b1), .val (.int i), .unset, .unset] [(.int i), (.ref b1)])) rfl rfl (hb hby at_290) _ ?_
    show Steps p.tables e below (T3.setTop (mkF m 291 #[.val (.int p1), .val (.ref b1), .val (.int i), .unset, .unset] [(.ref (w q))])) _
    refine XS.astoreN X3.here hx rfl (hb hby at_291) rfl rfl (l' := #[.val (.int p1), .val (.ref b1), .val (.int i), .val (.ref (w q)), .unset]) rfl ?_
    show Steps p.tables e below (T3.setTop (mkF m 292 #[.val (.int p1), .val (.ref b1), .val (.int i), .val (.ref (w q)), .unset] [])) _
    refine XS.iloadN X3.here hx rfl (hb hby at_292) rfl ?_
    show Steps p.tables e below (T3.setTop (mkF m 293 #[.val (.int p1), .val (.ref b1), .val (.int i), .val (.ref (w q)), .unset] [(.int i)])) _
    refine XS.iconst X3.here hx rfl (hb hby at_293) ?_
    exact kt
  by_cases hc294_6 : i < (2 : Int32)
  · obtain ⟨cq7, kq7, q7a, q7b, q7c⟩ := isOf hZ e3 (Exa.keep (hE q hq.2) K3)
    obtain ⟨_, _, ⟨T7, L7, k7, n7⟩, -, X7, ⟨Lc7, hQ7, l7, y7, z7⟩, st7⟩ := X3.virtualBack hx (y := (⟨"com/example/mint_path/mintpath/parse/TokenKind", "isName", "()Z"⟩ : MethodName)) (z := (⟨"com/example/mint_path/mintpath/parse/TokenKind", "isName", "()Z"⟩ : MethodName)) hown (mvT hZ (hw _ (List.mem_of_getElem? (i := 85) rfl))) (mvT hZ (hw _ (List.mem_of_getElem? (i := 86) rfl))) (notFace_of_selects (args := #[]) (mvT hZ (hw _ (List.mem_of_getElem? (i := 88) rfl)))) (mvT hZ (hw _ (List.mem_of_getElem? (i := 88) rfl))) (mvT hZ (hw _ (List.mem_of_getElem? (i := 87) rfl))) (by decide) (backOf (W := 0) (rmK l Z a0 hw [] (w q) (w 2) (w 3) (w 4) h3 n0 (Nat.le_trans Z0 K3.1) (own_sta S_NAME K3) (own_sta S_PREFIXED_NAME K3) (own_sta S_URI_QUALIFIED_NAME K3)) hZ (hw _ (List.mem_of_getElem? (i := 89) rfl)) (hw _ (List.mem_of_getElem? (i := 3) rfl)) (by decide) (by decide)) q7a q7c (g := (mkF m 310 #[.val (.int p1), .val (.ref b1), .val (.int i), .val (.ref (w q)), .val (.int (0 : Int32))] [(.ref (w q))])) rfl (by rw [hml]; rfl) (Steps.refl _) (argsL := []) (rest := []) (lenOf pd0_0 rfl) rfl (by show 2 * 0 + _ ≤ _; exact Nat.le_of_eq rfl) (hb hby at_310) (fun _ _ => ⟨rfl, e3, (by decide : 1 + 0 ≤ _), (by decide : 40 + 0 ≤ _)⟩)
    dsimp only [Pt.U, Pt.locs, Pt.cells, Pt.slots] at X7 l7 y7 z7 st7 hQ7
    subst l7 y7 z7
    obtain ⟨rfl, N7q, eh7⟩ := hQ7
    have N7 := Fr.app N3 N7q
    obtain ⟨fs, hr, hrun, hended, hW, hsame⟩ := X7.leave (v := some (.int (1 : Int32))) (fun h => by rw [Bd.returns] at h; cases h)
    refine ⟨_, _, pre5 _ ?_, hrun, hended, _, _, rfl, ?_, ⟨_, rfl⟩, hW, hsame.mono (by decide) (by decide)⟩
    · show Steps p.tables e below (T3.setTop (mkF m 294 #[.val (.int p1), .val (.ref b1), .val (.int i), .val (.ref (w q)), .unset] [(.int (2 : Int32)), (.int i)])) _
      refine XS.icmpYes X3.here hx rfl (pc0 := 294) (pc' := 306) rfl (hb hby at_294) rfl (tlt hc294_6).1 (by decide) (by decide) ?_
      show Steps p.tables e below (T3.setTop (mkF m 306 #[.val (.int p1), .val (.ref b1), .val (.int i), .val (.ref (w q)), .unset] [])) _
      refine XS.iconst X3.here hx rfl (hb hby at_306) ?_
      show Steps p.tables e below (T3.setTop (mkF m 307 #[.val (.int p1), .val (.ref b1), .val (.int i), .val (.ref (w q)), .unset] [(.int (0 : Int32))])) _
      refine XS.istore X3.here hx rfl (hb hby at_307) rfl (l' := #[.val (.int p1), .val (.ref b1), .val (.int i), .val (.ref (w q)), .val (.int (0 : Int32))]) rfl ?_
      show Steps p.tables e below (T3.setTop (mkF m 309 #[.val (.int p1), .val (.ref b1), .val (.int i), .val (.ref (w q)), .val (.int (0 : Int32))] [])) _
      refine XS.aloadN X3.here hx rfl (hb hby at_309) rfl rfl ?_
      show Steps p.tables e below (T3.setTop (mkF m 310 #[.val (.int p1), .val (.ref b1), .val (.int i), .val (.ref (w q)), .val (.int (0 : Int32))] [(.ref (w q))])) _
      refine st7.trans ?_
      show Steps p.tables e below (T7.setTop (mkF m 313 #[.val (.int p1), .val (.ref b1), .val (.int i), .val (.ref (w q)), .val (.int (0 : Int32))] [(.int (own_rel (w q) (w 2) (w 3) (w 4)))])) _
      refine XS.iload X7.here hx rfl (hb hby at_313) rfl ?_
      show Steps p.tables e below (T7.setTop (mkF m 315 #[.val (.int p1), .val (.ref b1), .val (.int i), .val (.ref (w q)), .val (.int (0 : Int32))] [(.int (0 : Int32)), (.int (own_rel (w q) (w 2) (w 3) (w 4)))])) _
      refine XS.icmpNo X7.here hx rfl (hb hby at_315) rfl (teq (own_neg hO hq.2 (by have c2 : (2 : Int32).toInt = 2 := rfl; have hq1 := hq.1; have z0 := hc294_6; simp only [Int32.lt_iff_toInt_lt, ← Int32.toInt_inj] at z0; omega) : (own_rel (w q) (w 2) (w 3) (w 4)) = (0 : Int32))).2 ?_
      show Steps p.tables e below (T7.setTop (mkF m 318 #[.val (.int p1), .val (.ref b1), .val (.int i), .val (.ref (w q)), .val (.int (0 : Int32))] [])) _
      refine XS.iconst X7.here hx rfl (hb hby at_318) ?_
      show Steps p.tables e below (T7.setTop (mkF m 319 #[.val (.int p1), .val (.ref b1), .val (.int i), .val (.ref (w q)), .val (.int (0 : Int32))] [(.int (1 : Int32))])) _
      refine XS.goto X7.here hx rfl (pc0 := 319) (pc' := 323) rfl (hb hby at_319) (by decide) (by decide) ?_
      show Steps p.tables e below (T7.setTop (mkF m 323 #[.val (.int p1), .val (.ref b1), .val (.int i), .val (.ref (w q)), .val (.int (0 : Int32))] [(.int (1 : Int32))])) _
      exact retN X7 hx (t := .boolean) Bd.returns (by simp) (hb hby at_323) hr
    · show Q0 h0 n0 _ T7.heap _
      rw [eh7]
      exact ⟨rfl, N7⟩
  · have pre8 : ∀ t, Steps p.tables e below (T3.setTop (mkF m 299 #[.val (.int p1), .val (.ref b1), .val (.int i), .val (.ref (w q)), .unset] [(.int (4 : Int32)), (.int i)])) t → Steps p.tables e below (s₁.setTop (entryFrame m #[(.int p1)] maxLocals)) t := fun t kt => by
      refine pre5 t ?_
      show Steps p.tables e below (T3.setTop (mkF m 294 #[.val (.int p1), .val (.ref b1), .val (.int i), .val (.ref (w q)), .unset] [(.int (2 : Int32)), (.int i)])) _
      refine XS.icmpNo X3.here hx rfl (hb hby at_294) rfl (flt hc294_6).1 ?_
      show Steps p.tables e below (T3.setTop (mkF m 297 #[.val (.int p1), .val (.ref b1), .val (.int i), .val (.ref (w q)), .unset] [])) _
      refine XS.iloadN X3.here hx rfl (hb hby at_297) rfl ?_
      show Steps p.tables e below (T3.setTop (mkF m 298 #[.val (.int p1), .val (.ref b1), .val (.int i), .val (.ref (w q)), .unset] [(.int i)])) _
      refine XS.iconst X3.here hx rfl (hb hby at_298) ?_
      exact kt
    by_cases hc299_9 : (4 : Int32) < i
    · obtain ⟨cq10, kq10, q10a, q10b, q10c⟩ := isOf hZ e3 (Exa.keep (hE q hq.2) K3)
      obtain ⟨_, _, ⟨T10, L10, k10, n10⟩, -, X10, ⟨Lc10, hQ10, l10, y10, z10⟩, st10⟩ := X3.virtualBack hx (y := (⟨"com/example/mint_path/mintpath/parse/TokenKind", "isName", "()Z"⟩ : MethodName)) (z := (⟨"com/example/mint_path/mintpath/parse/TokenKind", "isName", "()Z"⟩ : MethodName)) hown (mvT hZ (hw _ (List.mem_of_getElem? (i := 85) rfl))) (mvT hZ (hw _ (List.mem_of_getElem? (i := 86) rfl))) (notFace_of_selects (args := #[]) (mvT hZ (hw _ (List.mem_of_getElem? (i := 88) rfl)))) (mvT hZ (hw _ (List.mem_of_getElem? (i := 88) rfl))) (mvT hZ (hw _ (List.mem_of_getElem? (i := 87) rfl))) (by decide) (backOf (W := 0) (rmK l Z a0 hw [] (w q) (w 2) (w 3) (w 4) h3 n0 (Nat.le_trans Z0 K3.1) (own_sta S_NAME K3) (own_sta S_PREFIXED_NAME K3) (own_sta S_URI_QUALIFIED_NAME K3)) hZ (hw _ (List.mem_of_getElem? (i := 89) rfl)) (hw _ (List.mem_of_getElem? (i := 3) rfl)) (by decide) (by decide)) q10a q10c (g := (mkF m 310 #[.val (.int p1), .val (.ref b1), .val (.int i), .val (.ref (w q)), .val (.int (0 : Int32))] [(.ref (w q))])) rfl (by rw [hml]; rfl) (Steps.refl _) (argsL := []) (rest := []) (lenOf pd0_0 rfl) rfl (by show 2 * 0 + _ ≤ _; exact Nat.le_of_eq rfl) (hb hby at_310) (fun _ _ => ⟨rfl, e3, (by decide : 1 + 0 ≤ _), (by decide : 40 + 0 ≤ _)⟩)
      dsimp only [Pt.U, Pt.locs, Pt.cells, Pt.slots] at X10 l10 y10 z10 st10 hQ10
      subst l10 y10 z10
      obtain ⟨rfl, N10q, eh10⟩ := hQ10
      have N10 := Fr.app N3 N10q
      obtain ⟨fs, hr, hrun, hended, hW, hsame⟩ := X10.leave (v := some (.int (1 : Int32))) (fun h => by rw [Bd.returns] at h; cases h)
      refine ⟨_, _, pre8 _ ?_, hrun, hended, _, _, rfl, ?_, ⟨_, rfl⟩, hW, hsame.mono (by decide) (by decide)⟩
      · show Steps p.tables e below (T3.setTop (mkF m 299 #[.val (.int p1), .val (.ref b1), .val (.int i), .val (.ref (w q)), .unset] [(.int (4 : Int32)), (.int i)])) _
        refine XS.icmpYes X3.here hx rfl (pc0 := 299) (pc' := 306) rfl (hb hby at_299) rfl (tlt hc299_9).2.2.1 (by decide) (by decide) ?_
        show Steps p.tables e below (T3.setTop (mkF m 306 #[.val (.int p1), .val (.ref b1), .val (.int i), .val (.ref (w q)), .unset] [])) _
        refine XS.iconst X3.here hx rfl (hb hby at_306) ?_
        show Steps p.tables e below (T3.setTop (mkF m 307 #[.val (.int p1), .val (.ref b1), .val (.int i), .val (.ref (w q)), .unset] [(.int (0 : Int32))])) _
        refine XS.istore X3.here hx rfl (hb hby at_307) rfl (l' := #[.val (.int p1), .val (.ref b1), .val (.int i), .val (.ref (w q)), .val (.int (0 : Int32))]) rfl ?_
        show Steps p.tables e below (T3.setTop (mkF m 309 #[.val (.int p1), .val (.ref b1), .val (.int i), .val (.ref (w q)), .val (.int (0 : Int32))] [])) _
        refine XS.aloadN X3.here hx rfl (hb hby at_309) rfl rfl ?_
        show Steps p.tables e below (T3.setTop (mkF m 310 #[.val (.int p1), .val (.ref b1), .val (.int i), .val (.ref (w q)), .val (.int (0 : Int32))] [(.ref (w q))])) _
        refine st10.trans ?_
        show Steps p.tables e below (T10.setTop (mkF m 313 #[.val (.int p1), .val (.ref b1), .val (.int i), .val (.ref (w q)), .val (.int (0 : Int32))] [(.int (own_rel (w q) (w 2) (w 3) (w 4)))])) _
        refine XS.iload X10.here hx rfl (hb hby at_313) rfl ?_
        show Steps p.tables e below (T10.setTop (mkF m 315 #[.val (.int p1), .val (.ref b1), .val (.int i), .val (.ref (w q)), .val (.int (0 : Int32))] [(.int (0 : Int32)), (.int (own_rel (w q) (w 2) (w 3) (w 4)))])) _
        refine XS.icmpNo X10.here hx rfl (hb hby at_315) rfl (teq (own_neg hO hq.2 (by have c2 : (2 : Int32).toInt = 2 := rfl; have c4 : (4 : Int32).toInt = 4 := rfl; have hq1 := hq.1; have z0 := hc294_6; have z1 := hc299_9; simp only [Int32.lt_iff_toInt_lt, ← Int32.toInt_inj] at z0 z1; omega) : (own_rel (w q) (w 2) (w 3) (w 4)) = (0 : Int32))).2 ?_
        show Steps p.tables e below (T10.setTop (mkF m 318 #[.val (.int p1), .val (.ref b1), .val (.int i), .val (.ref (w q)), .val (.int (0 : Int32))] [])) _
        refine XS.iconst X10.here hx rfl (hb hby at_318) ?_
        show Steps p.tables e below (T10.setTop (mkF m 319 #[.val (.int p1), .val (.ref b1), .val (.int i), .val (.ref (w q)), .val (.int (0 : Int32))] [(.int (1 : Int32))])) _
        refine XS.goto X10.here hx rfl (pc0 := 319) (pc' := 323) rfl (hb hby at_319) (by decide) (by decide) ?_
        show Steps p.tables e below (T10.setTop (mkF m 323 #[.val (.int p1), .val (.ref b1), .val (.int i), .val (.ref (w q)), .val (.int (0 : Int32))] [(.int (1 : Int32))])) _
        exact retN X10 hx (t := .boolean) Bd.returns (by simp) (hb hby at_323) hr
      · show Q0 h0 n0 _ T10.heap _
        rw [eh10]
        exact ⟨rfl, N10⟩
    · obtain ⟨cq11, kq11, q11a, q11b, q11c⟩ := isOf hZ e3 (Exa.keep (hE q hq.2) K3)
      obtain ⟨_, _, ⟨T11, L11, k11, n11⟩, -, X11, ⟨Lc11, hQ11, l11, y11, z11⟩, st11⟩ := X3.virtualBack hx (y := (⟨"com/example/mint_path/mintpath/parse/TokenKind", "isName", "()Z"⟩ : MethodName)) (z := (⟨"com/example/mint_path/mintpath/parse/TokenKind", "isName", "()Z"⟩ : MethodName)) hown (mvT hZ (hw _ (List.mem_of_getElem? (i := 85) rfl))) (mvT hZ (hw _ (List.mem_of_getElem? (i := 86) rfl))) (notFace_of_selects (args := #[]) (mvT hZ (hw _ (List.mem_of_getElem? (i := 88) rfl)))) (mvT hZ (hw _ (List.mem_of_getElem? (i := 88) rfl))) (mvT hZ (hw _ (List.mem_of_getElem? (i := 87) rfl))) (by decide) (backOf (W := 0) (rmK l Z a0 hw [] (w q) (w 2) (w 3) (w 4) h3 n0 (Nat.le_trans Z0 K3.1) (own_sta S_NAME K3) (own_sta S_PREFIXED_NAME K3) (own_sta S_URI_QUALIFIED_NAME K3)) hZ (hw _ (List.mem_of_getElem? (i := 89) rfl)) (hw _ (List.mem_of_getElem? (i := 3) rfl)) (by decide) (by decide)) q11a q11c (g := (mkF m 310 #[.val (.int p1), .val (.ref b1), .val (.int i), .val (.ref (w q)), .val (.int (1 : Int32))] [(.ref (w q))])) rfl (by rw [hml]; rfl) (Steps.refl _) (argsL := []) (rest := []) (lenOf pd0_0 rfl) rfl (by show 2 * 0 + _ ≤ _; exact Nat.le_of_eq rfl) (hb hby at_310) (fun _ _ => ⟨rfl, e3, (by decide : 1 + 0 ≤ _), (by decide : 40 + 0 ≤ _)⟩)
      dsimp only [Pt.U, Pt.locs, Pt.cells, Pt.slots] at X11 l11 y11 z11 st11 hQ11
      subst l11 y11 z11
      obtain ⟨rfl, N11q, eh11⟩ := hQ11
      have N11 := Fr.app N3 N11q
      obtain ⟨fs, hr, hrun, hended, hW, hsame⟩ := X11.leave (v := some (.int (1 : Int32))) (fun h => by rw [Bd.returns] at h; cases h)
      refine ⟨_, _, pre8 _ ?_, hrun, hended, _, _, rfl, ?_, ⟨_, rfl⟩, hW, hsame.mono (by decide) (by decide)⟩
      · show Steps p.tables e below (T3.setTop (mkF m 299 #[.val (.int p1), .val (.ref b1), .val (.int i), .val (.ref (w q)), .unset] [(.int (4 : Int32)), (.int i)])) _
        refine XS.icmpNo X3.here hx rfl (hb hby at_299) rfl (flt hc299_9).2.2.1 ?_
        show Steps p.tables e below (T3.setTop (mkF m 302 #[.val (.int p1), .val (.ref b1), .val (.int i), .val (.ref (w q)), .unset] [])) _
        refine XS.iconst X3.here hx rfl (hb hby at_302) ?_
        show Steps p.tables e below (T3.setTop (mkF m 303 #[.val (.int p1), .val (.ref b1), .val (.int i), .val (.ref (w q)), .unset] [(.int (1 : Int32))])) _
        refine XS.goto X3.here hx rfl (pc0 := 303) (pc' := 307) rfl (hb hby at_303) (by decide) (by decide) ?_
        show Steps p.tables e below (T3.setTop (mkF m 307 #[.val (.int p1), .val (.ref b1), .val (.int i), .val (.ref (w q)), .unset] [(.int (1 : Int32))])) _
        refine XS.istore X3.here hx rfl (hb hby at_307) rfl (l' := #[.val (.int p1), .val (.ref b1), .val (.int i), .val (.ref (w q)), .val (.int (1 : Int32))]) rfl ?_
        show Steps p.tables e below (T3.setTop (mkF m 309 #[.val (.int p1), .val (.ref b1), .val (.int i), .val (.ref (w q)), .val (.int (1 : Int32))] [])) _
        refine XS.aloadN X3.here hx rfl (hb hby at_309) rfl rfl ?_
        show Steps p.tables e below (T3.setTop (mkF m 310 #[.val (.int p1), .val (.ref b1), .val (.int i), .val (.ref (w q)), .val (.int (1 : Int32))] [(.ref (w q))])) _
        refine st11.trans ?_
        show Steps p.tables e below (T11.setTop (mkF m 313 #[.val (.int p1), .val (.ref b1), .val (.int i), .val (.ref (w q)), .val (.int (1 : Int32))] [(.int (own_rel (w q) (w 2) (w 3) (w 4)))])) _
        refine XS.iload X11.here hx rfl (hb hby at_313) rfl ?_
        show Steps p.tables e below (T11.setTop (mkF m 315 #[.val (.int p1), .val (.ref b1), .val (.int i), .val (.ref (w q)), .val (.int (1 : Int32))] [(.int (1 : Int32)), (.int (own_rel (w q) (w 2) (w 3) (w 4)))])) _
        refine XS.icmpNo X11.here hx rfl (hb hby at_315) rfl (teq (own_pos (by have c2 : (2 : Int32).toInt = 2 := rfl; have c4 : (4 : Int32).toInt = 4 := rfl; have hq1 := hq.1; have z0 := hc294_6; have z1 := hc299_9; simp only [Int32.lt_iff_toInt_lt, ← Int32.toInt_inj] at z0 z1; omega) : (own_rel (w q) (w 2) (w 3) (w 4)) = (1 : Int32))).2 ?_
        show Steps p.tables e below (T11.setTop (mkF m 318 #[.val (.int p1), .val (.ref b1), .val (.int i), .val (.ref (w q)), .val (.int (1 : Int32))] [])) _
        refine XS.iconst X11.here hx rfl (hb hby at_318) ?_
        show Steps p.tables e below (T11.setTop (mkF m 319 #[.val (.int p1), .val (.ref b1), .val (.int i), .val (.ref (w q)), .val (.int (1 : Int32))] [(.int (1 : Int32))])) _
        refine XS.goto X11.here hx rfl (pc0 := 319) (pc' := 323) rfl (hb hby at_319) (by decide) (by decide) ?_
        show Steps p.tables e below (T11.setTop (mkF m 323 #[.val (.int p1), .val (.ref b1), .val (.int i), .val (.ref (w q)), .val (.int (1 : Int32))] [(.int (1 : Int32))])) _
        exact retN X11 hx (t := .boolean) Bd.returns (by simp) (hb hby at_323) hr
      · show Q0 h0 n0 _ T11.heap _
        rw [eh11]
        exact ⟨rfl, N11⟩
set_option maxRecDepth 65536 in
set_option maxHeartbeats 40000000 in
theorem comes_1 {Post : Tables → Env → Array Value → State → Outcome → State → Prop} (hpost : ∀ tb e args s v u, (limb_1_1.after args s (.returned v) u = true ∧ limb_1_2.after args s (.returned v) u = true ∧ True) → FrameEnd s (.returned v) u (Jvm.fieldLocs frame_1_writes args s ++ Jvm.arrayLocs frame_1_arrays args s ++ Jvm.staticLocs frame_1_statics s) 16 192 → Post tb e args s (.returned v) u) :
    ArmFor flags0 classFile x code maxLocals ret World_1 tables_1 room_1 Calls_1 rest_1 Pre_1 Post := by
  intro l hfl _ _ p e ha hc hk s m args below hf hA hF happ hP
  obtain ⟨hcalls, hrest, hpre⟩ := hP
  obtain ⟨-, -, -, hnamed, -, -, -, hat⟩ := (Spec.applies_iff hf).mp happ
  obtain ⟨hg, hn⟩ := and_e (Cond.before_iff.mp (show (Jvm.Cond.and given_1 narrow_1).before args s = true from hpre))
  obtain ⟨hcnt, ha0⟩ := and_e hg
  obtain ⟨w0, rfl⟩ : ∃ w0 : Value, args = #[w0] := by
    have hs : args.size = 1 := by simpa [Cond.value, given_1] using hcnt
    obtain ⟨L⟩ := args
    match L, hs with
    | [w0], _ => exact ⟨w0, rfl⟩
  have hw := fun d (hd : d ∈ tables_1) => atoms_spec (ws := Jvm.Cond.code x code maxLocals ret :: tables_1) hat d (List.mem_cons_of_mem _ hd)
  obtain ⟨i0, ei0⟩ := is_v ha0
  obtain rfl : w0 = (.int i0) := Option.some.inj ei0
  obtain ⟨hg0, hr0⟩ := and_e hn
  obtain ⟨w_NUMERIC_LITERAL, ev_NUMERIC_LITERAL⟩ := exa_v hg0
  have E_NUMERIC_LITERAL : Exa s s.heap w_NUMERIC_LITERAL "com/example/mint_path/mintpath/parse/TokenKind" := Exa.start ev_NUMERIC_LITERAL hg0
  have S_NUMERIC_LITERAL : Sta s s.heap "com/example/mint_path/mintpath/parse/TokenKind" "NUMERIC_LITERAL" "Lcom/example/mint_path/mintpath/parse/TokenKind;" (.ref w_NUMERIC_LITERAL) := Sta.start ev_NUMERIC_LITERAL (Or.inr ⟨(hw _ (List.mem_of_getElem? (i := 3) rfl)), (hw _ (List.mem_of_getElem? (i := 4) rfl))⟩)
  obtain ⟨hg1, hr1⟩ := and_e hr0
  obtain ⟨w_STRING_LITERAL, ev_STRING_LITERAL⟩ := exa_v hg1
  have E_STRING_LITERAL : Exa s s.heap w_STRING_LITERAL "com/example/mint_path/mintpath/parse/TokenKind" := Exa.start ev_STRING_LITERAL hg1
  have S_STRING_LITERAL : Sta s s.heap "com/example/mint_path/mintpath/parse/TokenKind" "STRING_LITERAL" "Lcom/example/mint_path/mintpath/parse/TokenKind;" (.ref w_STRING_LITERAL) := Sta.start ev_STRING_LITERAL (Or.inr ⟨(hw _ (List.mem_of_getElem? (i := 3) rfl)), (hw _ (List.mem_of_getElem? (i := 7) rfl))⟩)
  obtain ⟨hg2, hr2⟩ := and_e hr1
  obtain ⟨w_NAME, ev_NAME⟩ := exa_v hg2
  have E_NAME : Exa s s.heap w_NAME "com/example/mint_path/mintpath/parse/TokenKind" := Exa.start ev_NAME hg2
  have S_NAME : Sta s s.heap "com/example/mint_path/mintpath/parse/TokenKind" "NAME" "Lcom/example/mint_path/mintpath/parse/TokenKind;" (.ref w_NAME) := Sta.start ev_NAME (Or.inr ⟨(hw _ (List.mem_of_getElem? (i := 3) rfl)), (hw _ (List.mem_of_getElem? (i := 9) rfl))⟩)
  obtain ⟨hg3, hr3⟩ := and_e hr2
  obtain ⟨w_PREFIXED_NAME, ev_PREFIXED_NAME⟩ := exa_v hg3
  have E_PREFIXED_NAME : Exa s s.heap w_PREFIXED_NAME "com/example/mint_path/mintpath/parse/TokenKind" := Exa.start ev_PREFIXED_NAME hg3
  have S_PREFIXED_NAME : Sta s s.heap "com/example/mint_path/mintpath/parse/TokenKind" "PREFIXED_NAME" "Lcom/example/mint_path/mintpath/parse/TokenKind;" (.ref w_PREFIXED_NAME) := Sta.start ev_PREFIXED_NAME (Or.inr ⟨(hw _ (List.mem_of_getElem? (i := 3) rfl)), (hw _ (List.mem_of_getElem? (i := 11) rfl))⟩)
  obtain ⟨hg4, hr4⟩ := and_e hr3
  obtain ⟨w_URI_QUALIFIED_NAME, ev_URI_QUALIFIED_NAME⟩ := exa_v hg4
  have E_URI_QUALIFIED_NAME : Exa s s.heap w_URI_QUALIFIED_NAME "com/example/mint_path/mintpath/parse/TokenKind" := Exa.start ev_URI_QUALIFIED_NAME hg4
  have S_URI_QUALIFIED_NAME : Sta s s.heap "com/example/mint_path/mintpath/parse/TokenKind" "URI_QUALIFIED_NAME" "Lcom/example/mint_path/mintpath/parse/TokenKind;" (.ref w_URI_QUALIFIED_NAME) := Sta.start ev_URI_QUALIFIED_NAME (Or.inr ⟨(hw _ (List.mem_of_getElem? (i := 3) rfl)), (hw _ (List.mem_of_getElem? (i := 13) rfl))⟩)
  obtain ⟨hg5, hr5⟩ := and_e hr4
  obtain ⟨w_WILDCARD, ev_WILDCARD⟩ := exa_v hg5
  have E_WILDCARD : Exa s s.heap w_WILDCARD "com/example/mint_path/mintpath/parse/TokenKind" := Exa.start ev_WILDCARD hg5
  have S_WILDCARD : Sta s s.heap "com/example/mint_path/mintpath/parse/TokenKind" "WILDCARD" "Lcom/example/mint_path/mintpath/parse/TokenKind;" (.ref w_WILDCARD) := Sta.start ev_WILDCARD (Or.inr ⟨(hw _ (List.mem_of_getElem? (i := 3) rfl)), (hw _ (List.mem_of_getElem? (i := 15) rfl))⟩)
  obtain ⟨hg6, hr6⟩ := and_e hr5
  obtain ⟨w_LEFT_PAREN, ev_LEFT_PAREN⟩ := exa_v hg6
  have E_LEFT_PAREN : Exa s s.heap w_LEFT_PAREN "com/example/mint_path/mintpath/parse/TokenKind" := Exa.start ev_LEFT_PAREN hg6
  have S_LEFT_PAREN : Sta s s.heap "com/example/mint_path/mintpath/parse/TokenKind" "LEFT_PAREN" "Lcom/example/mint_path/mintpath/parse/TokenKind;" (.ref w_LEFT_PAREN) := Sta.start ev_LEFT_PAREN (Or.inr ⟨(hw _ (List.mem_of_getElem? (i := 3) rfl)), (hw _ (List.mem_of_getElem? (i := 17) rfl))⟩)
  obtain ⟨hg7, hr7⟩ := and_e hr6
  obtain ⟨w_RIGHT_PAREN, ev_RIGHT_PAREN⟩ := exa_v hg7
  have E_RIGHT_PAREN : Exa s s.heap w_RIGHT_PAREN "com/example/mint_path/mintpath/parse/TokenKind" := Exa.start ev_RIGHT_PAREN hg7
  have S_RIGHT_PAREN : Sta s s.heap "com/example/mint_path/mintpath/parse/TokenKind" "RIGHT_PAREN" "Lcom/example/mint_path/mintpath/parse/TokenKind;" (.ref w_RIGHT_PAREN) := Sta.start ev_RIGHT_PAREN (Or.inr ⟨(hw _ (List.mem_of_getElem? (i := 3) rfl)), (hw _ (List.mem_of_getElem? (i := 19) rfl))⟩)
  obtain ⟨hg8, hr8⟩ := and_e hr7
  obtain ⟨w_COMMA, ev_COMMA⟩ := exa_v hg8
  have E_COMMA : Exa s s.heap w_COMMA "com/example/mint_path/mintpath/parse/TokenKind" := Exa.start ev_COMMA hg8
  have S_COMMA : Sta s s.heap "com/example/mint_path/mintpath/parse/TokenKind" "COMMA" "Lcom/example/mint_path/mintpath/parse/TokenKind;" (.ref w_COMMA) := Sta.start ev_COMMA (Or.inr ⟨(hw _ (List.mem_of_getElem? (i := 3) rfl)), (hw _ (List.mem_of_getElem? (i := 21) rfl))⟩)
  obtain ⟨hg9, hr9⟩ := and_e hr8
  obtain ⟨w_SEMICOLON, ev_SEMICOLON⟩ := exa_v hg9
  have E_SEMICOLON : Exa s s.heap w_SEMICOLON "com/example/mint_path/mintpath/parse/TokenKind" := Exa.start ev_SEMICOLON hg9
  have S_SEMICOLON : Sta s s.heap "com/example/mint_path/mintpath/parse/TokenKind" "SEMICOLON" "Lcom/example/mint_path/mintpath/parse/TokenKind;" (.ref w_SEMICOLON) := Sta.start ev_SEMICOLON (Or.inr ⟨(hw _ (List.mem_of_getElem? (i := 3) rfl)), (hw _ (List.mem_of_getElem? (i := 23) rfl))⟩)
  obtain ⟨hg10, hr10⟩ := and_e hr9
  obtain ⟨w_PLUS, ev_PLUS⟩ := exa_v hg10
  have E_PLUS : Exa s s.heap w_PLUS "com/example/mint_path/mintpath/parse/TokenKind" := Exa.start ev_PLUS hg10
  have S_PLUS : Sta s s.heap "com/example/mint_path/mintpath/parse/TokenKind" "PLUS" "Lcom/example/mint_path/mintpath/parse/TokenKind;" (.ref w_PLUS) := Sta.start ev_PLUS (Or.inr ⟨(hw _ (List.mem_of_getElem? (i := 3) rfl)), (hw _ (List.mem_of_getElem? (i := 25) rfl))⟩)
  obtain ⟨hg11, hr11⟩ := and_e hr10
  obtain ⟨w_MINUS, ev_MINUS⟩ := exa_v hg11
  have E_MINUS : Exa s s.heap w_MINUS "com/example/mint_path/mintpath/parse/TokenKind" := Exa.start ev_MINUS hg11
  have S_MINUS : Sta s s.heap "com/example/mint_path/mintpath/parse/TokenKind" "MINUS" "Lcom/example/mint_path/mintpath/parse/TokenKind;" (.ref w_MINUS) := Sta.start ev_MINUS (Or.inr ⟨(hw _ (List.mem_of_getElem? (i := 3) rfl)), (hw _ (List.mem_of_getElem? (i := 27) rfl))⟩)
  obtain ⟨hg12, hr12⟩ := and_e hr11
  obtain ⟨w_QUESTION_MARK, ev_QUESTION_MARK⟩ := exa_v hg12
  have E_QUESTION_MARK : Exa s s.heap w_QUESTION_MARK "com/example/mint_path/mintpath/parse/TokenKind" := Exa.start ev_QUESTION_MARK hg12
  have S_QUESTION_MARK : Sta s s.heap "com/example/mint_path/mintpath/parse/TokenKind" "QUESTION_MARK" "Lcom/example/mint_path/mintpath/parse/TokenKind;" (.ref w_QUESTION_MARK) := Sta.start ev_QUESTION_MARK (Or.inr ⟨(hw _ (List.mem_of_getElem? (i := 3) rfl)), (hw _ (List.mem_of_getElem? (i := 29) rfl))⟩)
  obtain ⟨hg13, hr13⟩ := and_e hr12
  obtain ⟨w_STAR, ev_STAR⟩ := exa_v hg13
  have E_STAR : Exa s s.heap w_STAR "com/example/mint_path/mintpath/parse/TokenKind" := Exa.start ev_STAR hg13
  have S_STAR : Sta s s.heap "com/example/mint_path/mintpath/parse/TokenKind" "STAR" "Lcom/example/mint_path/mintpath/parse/TokenKind;" (.ref w_STAR) := Sta.start ev_STAR (Or.inr ⟨(hw _ (List.mem_of_getElem? (i := 3) rfl)), (hw _ (List.mem_of_getElem? (i := 31) rfl))⟩)
  obtain ⟨hg14, hr14⟩ := and_e hr13
  obtain ⟨w_VERTICAL_BAR, ev_VERTICAL_BAR⟩ := exa_v hg14
  have E_VERTICAL_BAR : Exa s s.heap w_VERTICAL_BAR "com/example/mint_path/mintpath/parse/TokenKind" := Exa.start ev_VERTICAL_BAR hg14
  have S_VERTICAL_BAR : Sta s s.heap "com/example/mint_path/mintpath/parse/TokenKind" "VERTICAL_BAR" "Lcom/example/mint_path/mintpath/parse/TokenKind;" (.ref w_VERTICAL_BAR) := Sta.start ev_VERTICAL_BAR (Or.inr ⟨(hw _ (List.mem_of_getElem? (i := 3) rfl)), (hw _ (List.mem_of_getElem? (i := 33) rfl))⟩)
  obtain ⟨hg15, hr15⟩ := and_e hr14
  obtain ⟨w_DOLLAR, ev_DOLLAR⟩ := exa_v hg15
  have E_DOLLAR : Exa s s.heap w_DOLLAR "com/example/mint_path/mintpath/parse/TokenKind" := Exa.start ev_DOLLAR hg15
  have S_DOLLAR : Sta s s.heap "com/example/mint_path/mintpath/parse/TokenKind" "DOLLAR" "Lcom/example/mint_path/mintpath/parse/TokenKind;" (.ref w_DOLLAR) := Sta.start ev_DOLLAR (Or.inr ⟨(hw _ (List.mem_of_getElem? (i := 3) rfl)), (hw _ (List.mem_of_getElem? (i := 35) rfl))⟩)
  obtain ⟨hg16, hr16⟩ := and_e hr15
  obtain ⟨w_HASH, ev_HASH⟩ := exa_v hg16
  have E_HASH : Exa s s.heap w_HASH "com/example/mint_path/mintpath/parse/TokenKind" := Exa.start ev_HASH hg16
  have S_HASH : Sta s s.heap "com/example/mint_path/mintpath/parse/TokenKind" "HASH" "Lcom/example/mint_path/mintpath/parse/TokenKind;" (.ref w_HASH) := Sta.start ev_HASH (Or.inr ⟨(hw _ (List.mem_of_getElem? (i := 3) rfl)), (hw _ (List.mem_of_getElem? (i := 37) rfl))⟩)
  obtain ⟨hg17, hr17⟩ := and_e hr16
  obtain ⟨w_SLASH, ev_SLASH⟩ := exa_v hg17
  have E_SLASH : Exa s s.heap w_SLASH "com/example/mint_path/mintpath/parse/TokenKind" := Exa.start ev_SLASH hg17
  have S_SLASH : Sta s s.heap "com/example/mint_path/mintpath/parse/TokenKind" "SLASH" "Lcom/example/mint_path/mintpath/parse/TokenKind;" (.ref w_SLASH) := Sta.start ev_SLASH (Or.inr ⟨(hw _ (List.mem_of_getElem? (i := 3) rfl)), (hw _ (List.mem_of_getElem? (i := 39) rfl))⟩)
  obtain ⟨hg18, hr18⟩ := and_e hr17
  obtain ⟨w_DOUBLE_SLASH, ev_DOUBLE_SLASH⟩ := exa_v hg18
  have E_DOUBLE_SLASH : Exa s s.heap w_DOUBLE_SLASH "com/example/mint_path/mintpath/parse/TokenKind" := Exa.start ev_DOUBLE_SLASH hg18
  have S_DOUBLE_SLASH : Sta s s.heap "com/example/mint_path/mintpath/parse/TokenKind" "DOUBLE_SLASH" "Lcom/example/mint_path/mintpath/parse/TokenKind;" (.ref w_DOUBLE_SLASH) := Sta.start ev_DOUBLE_SLASH (Or.inr ⟨(hw _ (List.mem_of_getElem? (i := 3) rfl)), (hw _ (List.mem_of_getElem? (i := 41) rfl))⟩)
  obtain ⟨hg19, hr19⟩ := and_e hr18
  obtain ⟨w_AT, ev_AT⟩ := exa_v hg19
  have E_AT : Exa s s.heap w_AT "com/example/mint_path/mintpath/parse/TokenKind" := Exa.start ev_AT hg19
  have S_AT : Sta s s.heap "com/example/mint_path/mintpath/parse/TokenKind" "AT" "Lcom/example/mint_path/mintpath/parse/TokenKind;" (.ref w_AT) := Sta.start ev_AT (Or.inr ⟨(hw _ (List.mem_of_getElem? (i := 3) rfl)), (hw _ (List.mem_of_getElem? (i := 43) rfl))⟩)
  obtain ⟨hg20, hr20⟩ := and_e hr19
  obtain ⟨w_LEFT_BRACKET, ev_LEFT_BRACKET⟩ := exa_v hg20
  have E_LEFT_BRACKET : Exa s s.heap w_LEFT_BRACKET "com/example/mint_path/mintpath/parse/TokenKind" := Exa.start ev_LEFT_BRACKET hg20
  have S_LEFT_BRACKET : Sta s s.heap "com/example/mint_path/mintpath/parse/TokenKind" "LEFT_BRACKET" "Lcom/example/mint_path/mintpath/parse/TokenKind;" (.ref w_LEFT_BRACKET) := Sta.start ev_LEFT_BRACKET (Or.inr ⟨(hw _ (List.mem_of_getElem? (i := 3) rfl)), (hw _ (List.mem_of_getElem? (i := 45) rfl))⟩)
  obtain ⟨hg21, hr21⟩ := and_e hr20
  obtain ⟨w_RIGHT_BRACKET, ev_RIGHT_BRACKET⟩ := exa_v hg21
  have E_RIGHT_BRACKET : Exa s s.heap w_RIGHT_BRACKET "com/example/mint_path/mintpath/parse/TokenKind" := Exa.start ev_RIGHT_BRACKET hg21
  have S_RIGHT_BRACKET : Sta s s.heap "com/example/mint_path/mintpath/parse/TokenKind" "RIGHT_BRACKET" "Lcom/example/mint_path/mintpath/parse/TokenKind;" (.ref w_RIGHT_BRACKET) := Sta.start ev_RIGHT_BRACKET (Or.inr ⟨(hw _ (List.mem_of_getElem? (i := 3) rfl)), (hw _ (List.mem_of_getElem? (i := 47) rfl))⟩)
  obtain ⟨hg22, hr22⟩ := and_e hr21
  obtain ⟨w_DOT, ev_DOT⟩ := exa_v hg22
  have E_DOT : Exa s s.heap w_DOT "com/example/mint_path/mintpath/parse/TokenKind" := Exa.start ev_DOT hg22
  have S_DOT : Sta s s.heap "com/example/mint_path/mintpath/parse/TokenKind" "DOT" "Lcom/example/mint_path/mintpath/parse/TokenKind;" (.ref w_DOT) := Sta.start ev_DOT (Or.inr ⟨(hw _ (List.mem_of_getElem? (i := 3) rfl)), (hw _ (List.mem_of_getElem? (i := 49) rfl))⟩)
  obtain ⟨hg23, hr23⟩ := and_e hr22
  obtain ⟨w_DOT_DOT, ev_DOT_DOT⟩ := exa_v hg23
  have E_DOT_DOT : Exa s s.heap w_DOT_DOT "com/example/mint_path/mintpath/parse/TokenKind" := Exa.start ev_DOT_DOT hg23
  have S_DOT_DOT : Sta s s.heap "com/example/mint_path/mintpath/parse/TokenKind" "DOT_DOT" "Lcom/example/mint_path/mintpath/parse/TokenKind;" (.ref w_DOT_DOT) := Sta.start ev_DOT_DOT (Or.inr ⟨(hw _ (List.mem_of_getElem? (i := 3) rfl)), (hw _ (List.mem_of_getElem? (i := 51) rfl))⟩)
  obtain ⟨hg24, hr24⟩ := and_e hr23
  obtain ⟨w_COLON_COLON, ev_COLON_COLON⟩ := exa_v hg24
  have E_COLON_COLON : Exa s s.heap w_COLON_COLON "com/example/mint_path/mintpath/parse/TokenKind" := Exa.start ev_COLON_COLON hg24
  have S_COLON_COLON : Sta s s.heap "com/example/mint_path/mintpath/parse/TokenKind" "COLON_COLON" "Lcom/example/mint_path/mintpath/parse/TokenKind;" (.ref w_COLON_COLON) := Sta.start ev_COLON_COLON (Or.inr ⟨(hw _ (List.mem_of_getElem? (i := 3) rfl)), (hw _ (List.mem_of_getElem? (i := 53) rfl))⟩)
  obtain ⟨hg25, hr25⟩ := and_e hr24
  obtain ⟨w_EQUALS, ev_EQUALS⟩ := exa_v hg25
  have E_EQUALS : Exa s s.heap w_EQUALS "com/example/mint_path/mintpath/parse/TokenKind" := Exa.start ev_EQUALS hg25
  have S_EQUALS : Sta s s.heap "com/example/mint_path/mintpath/parse/TokenKind" "EQUALS" "Lcom/example/mint_path/mintpath/parse/TokenKind;" (.ref w_EQUALS) := Sta.start ev_EQUALS (Or.inr ⟨(hw _ (List.mem_of_getElem? (i := 3) rfl)), (hw _ (List.mem_of_getElem? (i := 55) rfl))⟩)
  obtain ⟨hg26, hr26⟩ := and_e hr25
  obtain ⟨w_NOT_EQUALS, ev_NOT_EQUALS⟩ := exa_v hg26
  have E_NOT_EQUALS : Exa s s.heap w_NOT_EQUALS "com/example/mint_path/mintpath/parse/TokenKind" := Exa.start ev_NOT_EQUALS hg26
  have S_NOT_EQUALS : Sta s s.heap "com/example/mint_path/mintpath/parse/TokenKind" "NOT_EQUALS" "Lcom/example/mint_path/mintpath/parse/TokenKind;" (.ref w_NOT_EQUALS) := Sta.start ev_NOT_EQUALS (Or.inr ⟨(hw _ (List.mem_of_getElem? (i := 3) rfl)), (hw _ (List.mem_of_getElem? (i := 57) rfl))⟩)
  obtain ⟨hg27, hr27⟩ := and_e hr26
  obtain ⟨w_LESS_THAN, ev_LESS_THAN⟩ := exa_v hg27
  have E_LESS_THAN : Exa s s.heap w_LESS_THAN "com/example/mint_path/mintpath/parse/TokenKind" := Exa.start ev_LESS_THAN hg27
  have S_LESS_THAN : Sta s s.heap "com/example/mint_path/mintpath/parse/TokenKind" "LESS_THAN" "Lcom/example/mint_path/mintpath/parse/TokenKind;" (.ref w_LESS_THAN) := Sta.start ev_LESS_THAN (Or.inr ⟨(hw _ (List.mem_of_getElem? (i := 3) rfl)), (hw _ (List.mem_of_getElem? (i := 59) rfl))⟩)
  obtain ⟨hg28, hr28⟩ := and_e hr27
  obtain ⟨w_LESS_THAN_OR_EQUAL, ev_LESS_THAN_OR_EQUAL⟩ := exa_v hg28
  have E_LESS_THAN_OR_EQUAL : Exa s s.heap w_LESS_THAN_OR_EQUAL "com/example/mint_path/mintpath/parse/TokenKind" := Exa.start ev_LESS_THAN_OR_EQUAL hg28
  have S_LESS_THAN_OR_EQUAL : Sta s s.heap "com/example/mint_path/mintpath/parse/TokenKind" "LESS_THAN_OR_EQUAL" "Lcom/example/mint_path/mintpath/parse/TokenKind;" (.ref w_LESS_THAN_OR_EQUAL) := Sta.start ev_LESS_THAN_OR_EQUAL (Or.inr ⟨(hw _ (List.mem_of_getElem? (i := 3) rfl)), (hw _ (List.mem_of_getElem? (i := 61) rfl))⟩)
  obtain ⟨hg29, hr29⟩ := and_e hr28
  obtain ⟨w_GREATER_THAN, ev_GREATER_THAN⟩ := exa_v hg29
  have E_GREATER_THAN : Exa s s.heap w_GREATER_THAN "com/example/mint_path/mintpath/parse/TokenKind" := Exa.start ev_GREATER_THAN hg29
  have S_GREATER_THAN : Sta s s.heap "com/example/mint_path/mintpath/parse/TokenKind" "GREATER_THAN" "Lcom/example/mint_path/mintpath/parse/TokenKind;" (.ref w_GREATER_THAN) := Sta.start ev_GREATER_THAN (Or.inr ⟨(hw _ (List.mem_of_getElem? (i := 3) rfl)), (hw _ (List.mem_of_getElem? (i := 63) rfl))⟩)
  obtain ⟨hg30, hr30⟩ := and_e hr29
  obtain ⟨w_GREATER_THAN_OR_EQUAL, ev_GREATER_THAN_OR_EQUAL⟩ := exa_v hg30
  have E_GREATER_THAN_OR_EQUAL : Exa s s.heap w_GREATER_THAN_OR_EQUAL "com/example/mint_path/mintpath/parse/TokenKind" := Exa.start ev_GREATER_THAN_OR_EQUAL hg30
  have S_GREATER_THAN_OR_EQUAL : Sta s s.heap "com/example/mint_path/mintpath/parse/TokenKind" "GREATER_THAN_OR_EQUAL" "Lcom/example/mint_path/mintpath/parse/TokenKind;" (.ref w_GREATER_THAN_OR_EQUAL) := Sta.start ev_GREATER_THAN_OR_EQUAL (Or.inr ⟨(hw _ (List.mem_of_getElem? (i := 3) rfl)), (hw _ (List.mem_of_getElem? (i := 65) rfl))⟩)
  obtain ⟨hg31, hr31⟩ := and_e hr30
  obtain ⟨w_NODE_PRECEDES, ev_NODE_PRECEDES⟩ := exa_v hg31
  have E_NODE_PRECEDES : Exa s s.heap w_NODE_PRECEDES "com/example/mint_path/mintpath/parse/TokenKind" := Exa.start ev_NODE_PRECEDES hg31
  have S_NODE_PRECEDES : Sta s s.heap "com/example/mint_path/mintpath/parse/TokenKind" "NODE_PRECEDES" "Lcom/example/mint_path/mintpath/parse/TokenKind;" (.ref w_NODE_PRECEDES) := Sta.start ev_NODE_PRECEDES (Or.inr ⟨(hw _ (List.mem_of_getElem? (i := 3) rfl)), (hw _ (List.mem_of_getElem? (i := 67) rfl))⟩)
  obtain ⟨hg32, hr32⟩ := and_e hr31
  obtain ⟨w_NODE_FOLLOWS, ev_NODE_FOLLOWS⟩ := exa_v hg32
  have E_NODE_FOLLOWS : Exa s s.heap w_NODE_FOLLOWS "com/example/mint_path/mintpath/parse/TokenKind" := Exa.start ev_NODE_FOLLOWS hg32
  have S_NODE_FOLLOWS : Sta s s.heap "com/example/mint_path/mintpath/parse/TokenKind" "NODE_FOLLOWS" "Lcom/example/mint_path/mintpath/parse/TokenKind;" (.ref w_NODE_FOLLOWS) := Sta.start ev_NODE_FOLLOWS (Or.inr ⟨(hw _ (List.mem_of_getElem? (i := 3) rfl)), (hw _ (List.mem_of_getElem? (i := 69) rfl))⟩)
  obtain ⟨hg33, hr33⟩ := and_e hr32
  obtain ⟨w_CONCATENATION, ev_CONCATENATION⟩ := exa_v hg33
  have E_CONCATENATION : Exa s s.heap w_CONCATENATION "com/example/mint_path/mintpath/parse/TokenKind" := Exa.start ev_CONCATENATION hg33
  have S_CONCATENATION : Sta s s.heap "com/example/mint_path/mintpath/parse/TokenKind" "CONCATENATION" "Lcom/example/mint_path/mintpath/parse/TokenKind;" (.ref w_CONCATENATION) := Sta.start ev_CONCATENATION (Or.inr ⟨(hw _ (List.mem_of_getElem? (i := 3) rfl)), (hw _ (List.mem_of_getElem? (i := 71) rfl))⟩)
  obtain ⟨hg34, hr34⟩ := and_e hr33
  obtain ⟨w_MULTIPLICATION_SIGN, ev_MULTIPLICATION_SIGN⟩ := exa_v hg34
  have E_MULTIPLICATION_SIGN : Exa s s.heap w_MULTIPLICATION_SIGN "com/example/mint_path/mintpath/parse/TokenKind" := Exa.start ev_MULTIPLICATION_SIGN hg34
  have S_MULTIPLICATION_SIGN : Sta s s.heap "com/example/mint_path/mintpath/parse/TokenKind" "MULTIPLICATION_SIGN" "Lcom/example/mint_path/mintpath/parse/TokenKind;" (.ref w_MULTIPLICATION_SIGN) := Sta.start ev_MULTIPLICATION_SIGN (Or.inr ⟨(hw _ (List.mem_of_getElem? (i := 3) rfl)), (hw _ (List.mem_of_getElem? (i := 73) rfl))⟩)
  obtain ⟨hg35, hr35⟩ := and_e hr34
  obtain ⟨w_DIVISION_SIGN, ev_DIVISION_SIGN⟩ := exa_v hg35
  have E_DIVISION_SIGN : Exa s s.heap w_DIVISION_SIGN "com/example/mint_path/mintpath/parse/TokenKind" := Exa.start ev_DIVISION_SIGN hg35
  have S_DIVISION_SIGN : Sta s s.heap "com/example/mint_path/mintpath/parse/TokenKind" "DIVISION_SIGN" "Lcom/example/mint_path/mintpath/parse/TokenKind;" (.ref w_DIVISION_SIGN) := Sta.start ev_DIVISION_SIGN (Or.inr ⟨(hw _ (List.mem_of_getElem? (i := 3) rfl)), (hw _ (List.mem_of_getElem? (i := 75) rfl))⟩)
  obtain ⟨hg36, hr36⟩ := and_e hr35
  obtain ⟨w_ASSIGN, ev_ASSIGN⟩ := exa_v hg36
  have E_ASSIGN : Exa s s.heap w_ASSIGN "com/example/mint_path/mintpath/parse/TokenKind" := Exa.start ev_ASSIGN hg36
  have S_ASSIGN : Sta s s.heap "com/example/mint_path/mintpath/parse/TokenKind" "ASSIGN" "Lcom/example/mint_path/mintpath/parse/TokenKind;" (.ref w_ASSIGN) := Sta.start ev_ASSIGN (Or.inr ⟨(hw _ (List.mem_of_getElem? (i := 3) rfl)), (hw _ (List.mem_of_getElem? (i := 77) rfl))⟩)
  obtain ⟨hg37, hr37⟩ := and_e hr36
  obtain ⟨w_LEFT_BRACE, ev_LEFT_BRACE⟩ := exa_v hg37
  have E_LEFT_BRACE : Exa s s.heap w_LEFT_BRACE "com/example/mint_path/mintpath/parse/TokenKind" := Exa.start ev_LEFT_BRACE hg37
  have S_LEFT_BRACE : Sta s s.heap "com/example/mint_path/mintpath/parse/TokenKind" "LEFT_BRACE" "Lcom/example/mint_path/mintpath/parse/TokenKind;" (.ref w_LEFT_BRACE) := Sta.start ev_LEFT_BRACE (Or.inr ⟨(hw _ (List.mem_of_getElem? (i := 3) rfl)), (hw _ (List.mem_of_getElem? (i := 79) rfl))⟩)
  obtain ⟨hg38, hr38⟩ := and_e hr37
  obtain ⟨w_RIGHT_BRACE, ev_RIGHT_BRACE⟩ := exa_v hg38
  have E_RIGHT_BRACE : Exa s s.heap w_RIGHT_BRACE "com/example/mint_path/mintpath/parse/TokenKind" := Exa.start ev_RIGHT_BRACE hg38
  have S_RIGHT_BRACE : Sta s s.heap "com/example/mint_path/mintpath/parse/TokenKind" "RIGHT_BRACE" "Lcom/example/mint_path/mintpath/parse/TokenKind;" (.ref w_RIGHT_BRACE) := Sta.start ev_RIGHT_BRACE (Or.inr ⟨(hw _ (List.mem_of_getElem? (i := 3) rfl)), (hw _ (List.mem_of_getElem? (i := 81) rfl))⟩)
  obtain ⟨hg39, hr39⟩ := and_e hr38
  obtain ⟨w_END, ev_END⟩ := exa_v hg39
  have E_END : Exa s s.heap w_END "com/example/mint_path/mintpath/parse/TokenKind" := Exa.start ev_END hg39
  have S_END : Sta s s.heap "com/example/mint_path/mintpath/parse/TokenKind" "END" "Lcom/example/mint_path/mintpath/parse/TokenKind;" (.ref w_END) := Sta.start ev_END (Or.inr ⟨(hw _ (List.mem_of_getElem? (i := 3) rfl)), (hw _ (List.mem_of_getElem? (i := 83) rfl))⟩)
  obtain ⟨hg40, hr40⟩ := and_e hr39
  have O_ordinal_NUMERIC_LITERAL : Fld s s.heap w_NUMERIC_LITERAL "java/lang/Enum" "ordinal" "I" (.int (0 : Int32)) := own_fld ev_NUMERIC_LITERAL hg40
  obtain ⟨hg41, hr41⟩ := and_e hr40
  have O_ordinal_NAME : Fld s s.heap w_NAME "java/lang/Enum" "ordinal" "I" (.int (2 : Int32)) := own_fld ev_NAME hg41
  obtain ⟨hg42, hr42⟩ := and_e hr41
  have O_ordinal_PREFIXED_NAME : Fld s s.heap w_PREFIXED_NAME "java/lang/Enum" "ordinal" "I" (.int (3 : Int32)) := own_fld ev_PREFIXED_NAME hg42
  obtain ⟨hg43, hr43⟩ := and_e hr42
  have O_ordinal_URI_QUALIFIED_NAME : Fld s s.heap w_URI_QUALIFIED_NAME "java/lang/Enum" "ordinal" "I" (.int (4 : Int32)) := own_fld ev_URI_QUALIFIED_NAME hg43
  obtain ⟨hg44, hr44⟩ := and_e hr43
  have O_ordinal_GREATER_THAN_OR_EQUAL : Fld s s.heap w_GREATER_THAN_OR_EQUAL "java/lang/Enum" "ordinal" "I" (.int (30 : Int32)) := own_fld ev_GREATER_THAN_OR_EQUAL hg44
  obtain ⟨hg45, hr45⟩ := and_e hr44
  have O_ordinal_NODE_PRECEDES : Fld s s.heap w_NODE_PRECEDES "java/lang/Enum" "ordinal" "I" (.int (31 : Int32)) := own_fld ev_NODE_PRECEDES hg45
  obtain ⟨hg46, hr46⟩ := and_e hr45
  have O_ordinal_MULTIPLICATION_SIGN : Fld s s.heap w_MULTIPLICATION_SIGN "java/lang/Enum" "ordinal" "I" (.int (34 : Int32)) := own_fld ev_MULTIPLICATION_SIGN hg46
  obtain ⟨hg47, hr47⟩ := and_e hr46
  have O_ordinal_RIGHT_PAREN : Fld s s.heap w_RIGHT_PAREN "java/lang/Enum" "ordinal" "I" (.int (7 : Int32)) := own_fld ev_RIGHT_PAREN hg47
  obtain ⟨hg48, hr48⟩ := and_e hr47
  have O_ordinal_MINUS : Fld s s.heap w_MINUS "java/lang/Enum" "ordinal" "I" (.int (11 : Int32)) := own_fld ev_MINUS hg48
  obtain ⟨hg49, hr49⟩ := and_e hr48
  have O_ordinal_COMMA : Fld s s.heap w_COMMA "java/lang/Enum" "ordinal" "I" (.int (8 : Int32)) := own_fld ev_COMMA hg49
  obtain ⟨hg50, hr50⟩ := and_e hr49
  have O_ordinal_STRING_LITERAL : Fld s s.heap w_STRING_LITERAL "java/lang/Enum" "ordinal" "I" (.int (1 : Int32)) := own_fld ev_STRING_LITERAL hg50
  obtain ⟨hg51, hr51⟩ := and_e hr50
  have O_ordinal_END : Fld s s.heap w_END "java/lang/Enum" "ordinal" "I" (.int (39 : Int32)) := own_fld ev_END hg51
  obtain ⟨hg52, hr52⟩ := and_e hr51
  have O_ordinal_DIVISION_SIGN : Fld s s.heap w_DIVISION_SIGN "java/lang/Enum" "ordinal" "I" (.int (35 : Int32)) := own_fld ev_DIVISION_SIGN hg52
  obtain ⟨hg53, hr53⟩ := and_e hr52
  have O_ordinal_NOT_EQUALS : Fld s s.heap w_NOT_EQUALS "java/lang/Enum" "ordinal" "I" (.int (26 : Int32)) := own_fld ev_NOT_EQUALS hg53
  obtain ⟨hg54, hr54⟩ := and_e hr53
  have O_ordinal_SLASH : Fld s s.heap w_SLASH "java/lang/Enum" "ordinal" "I" (.int (17 : Int32)) := own_fld ev_SLASH hg54
  obtain ⟨hg55, hr55⟩ := and_e hr54
  have O_ordinal_PLUS : Fld s s.heap w_PLUS "java/lang/Enum" "ordinal" "I" (.int (10 : Int32)) := own_fld ev_PLUS hg55
  obtain ⟨hg56, hr56⟩ := and_e hr55
  have O_ordinal_HASH : Fld s s.heap w_HASH "java/lang/Enum" "ordinal" "I" (.int (16 : Int32)) := own_fld ev_HASH hg56
  obtain ⟨hg57, hr57⟩ := and_e hr56
  have O_ordinal_ASSIGN : Fld s s.heap w_ASSIGN "java/lang/Enum" "ordinal" "I" (.int (36 : Int32)) := own_fld ev_ASSIGN hg57
  obtain ⟨hg58, hr58⟩ := and_e hr57
  have O_ordinal_DOLLAR : Fld s s.heap w_DOLLAR "java/lang/Enum" "ordinal" "I" (.int (15 : Int32)) := own_fld ev_DOLLAR hg58
  obtain ⟨hg59, hr59⟩ := and_e hr58
  have O_ordinal_DOT : Fld s s.heap w_DOT "java/lang/Enum" "ordinal" "I" (.int (22 : Int32)) := own_fld ev_DOT hg59
  obtain ⟨hg60, hr60⟩ := and_e hr59
  have O_ordinal_AT : Fld s s.heap w_AT "java/lang/Enum" "ordinal" "I" (.int (19 : Int32)) := own_fld ev_AT hg60
  obtain ⟨hg61, hr61⟩ := and_e hr60
  have O_ordinal_LEFT_BRACKET : Fld s s.heap w_LEFT_BRACKET "java/lang/Enum" "ordinal" "I" (.int (20 : Int32)) := own_fld ev_LEFT_BRACKET hg61
  obtain ⟨hg62, hr62⟩ := and_e hr61
  have O_ordinal_QUESTION_MARK : Fld s s.heap w_QUESTION_MARK "java/lang/Enum" "ordinal" "I" (.int (12 : Int32)) := own_fld ev_QUESTION_MARK hg62
  obtain ⟨hg63, hr63⟩ := and_e hr62
  have O_ordinal_WILDCARD : Fld s s.heap w_WILDCARD "java/lang/Enum" "ordinal" "I" (.int (5 : Int32)) := own_fld ev_WILDCARD hg63
  obtain ⟨hg64, hr64⟩ := and_e hr63
  have O_ordinal_LESS_THAN_OR_EQUAL : Fld s s.heap w_LESS_THAN_OR_EQUAL "java/lang/Enum" "ordinal" "I" (.int (28 : Int32)) := own_fld ev_LESS_THAN_OR_EQUAL hg64
  obtain ⟨hg65, hr65⟩ := and_e hr64
  have O_ordinal_VERTICAL_BAR : Fld s s.heap w_VERTICAL_BAR "java/lang/Enum" "ordinal" "I" (.int (14 : Int32)) := own_fld ev_VERTICAL_BAR hg65
  obtain ⟨hg66, hr66⟩ := and_e hr65
  have O_ordinal_COLON_COLON : Fld s s.heap w_COLON_COLON "java/lang/Enum" "ordinal" "I" (.int (24 : Int32)) := own_fld ev_COLON_COLON hg66
  obtain ⟨hg67, hr67⟩ := and_e hr66
  have O_ordinal_LEFT_PAREN : Fld s s.heap w_LEFT_PAREN "java/lang/Enum" "ordinal" "I" (.int (6 : Int32)) := own_fld ev_LEFT_PAREN hg67
  obtain ⟨hg68, hr68⟩ := and_e hr67
  have O_ordinal_SEMICOLON : Fld s s.heap w_SEMICOLON "java/lang/Enum" "ordinal" "I" (.int (9 : Int32)) := own_fld ev_SEMICOLON hg68
  obtain ⟨hg69, hr69⟩ := and_e hr68
  have O_ordinal_DOT_DOT : Fld s s.heap w_DOT_DOT "java/lang/Enum" "ordinal" "I" (.int (23 : Int32)) := own_fld ev_DOT_DOT hg69
  obtain ⟨hg70, hr70⟩ := and_e hr69
  have O_ordinal_RIGHT_BRACKET : Fld s s.heap w_RIGHT_BRACKET "java/lang/Enum" "ordinal" "I" (.int (21 : Int32)) := own_fld ev_RIGHT_BRACKET hg70
  obtain ⟨hg71, hr71⟩ := and_e hr70
  have O_ordinal_GREATER_THAN : Fld s s.heap w_GREATER_THAN "java/lang/Enum" "ordinal" "I" (.int (29 : Int32)) := own_fld ev_GREATER_THAN hg71
  obtain ⟨hg72, hr72⟩ := and_e hr71
  have O_ordinal_STAR : Fld s s.heap w_STAR "java/lang/Enum" "ordinal" "I" (.int (13 : Int32)) := own_fld ev_STAR hg72
  obtain ⟨hg73, hr73⟩ := and_e hr72
  have O_ordinal_DOUBLE_SLASH : Fld s s.heap w_DOUBLE_SLASH "java/lang/Enum" "ordinal" "I" (.int (18 : Int32)) := own_fld ev_DOUBLE_SLASH hg73
  obtain ⟨hg74, hr74⟩ := and_e hr73
  have O_ordinal_LEFT_BRACE : Fld s s.heap w_LEFT_BRACE "java/lang/Enum" "ordinal" "I" (.int (37 : Int32)) := own_fld ev_LEFT_BRACE hg74
  obtain ⟨hg75, hr75⟩ := and_e hr74
  have O_ordinal_LESS_THAN : Fld s s.heap w_LESS_THAN "java/lang/Enum" "ordinal" "I" (.int (27 : Int32)) := own_fld ev_LESS_THAN hg75
  obtain ⟨hg76, hr76⟩ := and_e hr75
  have O_ordinal_CONCATENATION : Fld s s.heap w_CONCATENATION "java/lang/Enum" "ordinal" "I" (.int (33 : Int32)) := own_fld ev_CONCATENATION hg76
  obtain ⟨hg77, hr77⟩ := and_e hr76
  have O_ordinal_NODE_FOLLOWS : Fld s s.heap w_NODE_FOLLOWS "java/lang/Enum" "ordinal" "I" (.int (32 : Int32)) := own_fld ev_NODE_FOLLOWS hg77
  obtain ⟨hg78, hr78⟩ := and_e hr77
  have O_ordinal_RIGHT_BRACE : Fld s s.heap w_RIGHT_BRACE "java/lang/Enum" "ordinal" "I" (.int (38 : Int32)) := own_fld ev_RIGHT_BRACE hg78
  have O_ordinal_EQUALS : Fld s s.heap w_EQUALS "java/lang/Enum" "ordinal" "I" (.int (25 : Int32)) := own_fld ev_EQUALS hr78
  have hEO := own_All_get (P := fun n a => Exa s s.heap a "com/example/mint_path/mintpath/parse/TokenKind" ∧ Fld s s.heap a "java/lang/Enum" "ordinal" "I" (.int (Int32.ofNat n))) [w_NUMERIC_LITERAL, w_STRING_LITERAL, w_NAME, w_PREFIXED_NAME, w_URI_QUALIFIED_NAME, w_WILDCARD, w_LEFT_PAREN, w_RIGHT_PAREN, w_COMMA, w_SEMICOLON, w_PLUS, w_MINUS, w_QUESTION_MARK, w_STAR, w_VERTICAL_BAR, w_DOLLAR, w_HASH, w_SLASH, w_DOUBLE_SLASH, w_AT, w_LEFT_BRACKET, w_RIGHT_BRACKET, w_DOT, w_DOT_DOT, w_COLON_COLON, w_EQUALS, w_NOT_EQUALS, w_LESS_THAN, w_LESS_THAN_OR_EQUAL, w_GREATER_THAN, w_GREATER_THAN_OR_EQUAL, w_NODE_PRECEDES, w_NODE_FOLLOWS, w_CONCATENATION, w_MULTIPLICATION_SIGN, w_DIVISION_SIGN, w_ASSIGN, w_LEFT_BRACE, w_RIGHT_BRACE, w_END] 0 (own_cons ⟨E_NUMERIC_LITERAL, O_ordinal_NUMERIC_LITERAL⟩ (own_cons ⟨E_STRING_LITERAL, O_ordinal_STRING_LITERAL⟩ (own_cons ⟨E_NAME, O_ordinal_NAME⟩ (own_cons ⟨E_PREFIXED_NAME, O_ordinal_PREFIXED_NAME⟩ (own_cons ⟨E_URI_QUALIFIED_NAME, O_ordinal_URI_QUALIFIED_NAME⟩ (own_cons ⟨E_WILDCARD, O_ordinal_WILDCARD⟩ (own_cons ⟨E_LEFT_PAREN, O_ordinal_LEFT_PAREN⟩ (own_cons ⟨E_RIGHT_PAREN, O_ordinal_RIGHT_PAREN⟩ (own_cons ⟨E_COMMA, O_ordinal_COMMA⟩ (own_cons ⟨E_SEMICOLON, O_ordinal_SEMICOLON⟩ (own_cons ⟨E_PLUS, O_ordinal_PLUS⟩ (own_cons ⟨E_MINUS, O_ordinal_MINUS⟩ (own_cons ⟨E_QUESTION_MARK, O_ordinal_QUESTION_MARK⟩ (own_cons ⟨E_STAR, O_ordinal_STAR⟩ (own_cons ⟨E_VERTICAL_BAR, O_ordinal_VERTICAL_BAR⟩ (own_cons ⟨E_DOLLAR, O_ordinal_DOLLAR⟩ (own_cons ⟨E_HASH, O_ordinal_HASH⟩ (own_cons ⟨E_SLASH, O_ordinal_SLASH⟩ (own_cons ⟨E_DOUBLE_SLASH, O_ordinal_DOUBLE_SLASH⟩ (own_cons ⟨E_AT, O_ordinal_AT⟩ (own_cons ⟨E_LEFT_BRACKET, O_ordinal_LEFT_BRACKET⟩ (own_cons ⟨E_RIGHT_BRACKET, O_ordinal_RIGHT_BRACKET⟩ (own_cons ⟨E_DOT, O_ordinal_DOT⟩ (own_cons ⟨E_DOT_DOT, O_ordinal_DOT_DOT⟩ (own_cons ⟨E_COLON_COLON, O_ordinal_COLON_COLON⟩ (own_cons ⟨E_EQUALS, O_ordinal_EQUALS⟩ (own_cons ⟨E_NOT_EQUALS, O_ordinal_NOT_EQUALS⟩ (own_cons ⟨E_LESS_THAN, O_ordinal_LESS_THAN⟩ (own_cons ⟨E_LESS_THAN_OR_EQUAL, O_ordinal_LESS_THAN_OR_EQUAL⟩ (own_cons ⟨E_GREATER_THAN, O_ordinal_GREATER_THAN⟩ (own_cons ⟨E_GREATER_THAN_OR_EQUAL, O_ordinal_GREATER_THAN_OR_EQUAL⟩ (own_cons ⟨E_NODE_PRECEDES, O_ordinal_NODE_PRECEDES⟩ (own_cons ⟨E_NODE_FOLLOWS, O_ordinal_NODE_FOLLOWS⟩ (own_cons ⟨E_CONCATENATION, O_ordinal_CONCATENATION⟩ (own_cons ⟨E_MULTIPLICATION_SIGN, O_ordinal_MULTIPLICATION_SIGN⟩ (own_cons ⟨E_DIVISION_SIGN, O_ordinal_DIVISION_SIGN⟩ (own_cons ⟨E_ASSIGN, O_ordinal_ASSIGN⟩ (own_cons ⟨E_LEFT_BRACE, O_ordinal_LEFT_BRACE⟩ (own_cons ⟨E_RIGHT_BRACE, O_ordinal_RIGHT_BRACE⟩ (own_cons ⟨E_END, O_ordinal_END⟩ trivial))))))))))))))))))))))))))))))))))))))))
  obtain ⟨n, o, h1, h2, h3, _, L, rfl, ⟨rfl, N⟩, hq⟩ := rm0 l s _ hw tables_1 i0 (fun i => ([w_NUMERIC_LITERAL, w_STRING_LITERAL, w_NAME, w_PREFIXED_NAME, w_URI_QUALIFIED_NAME, w_WILDCARD, w_LEFT_PAREN, w_RIGHT_PAREN, w_COMMA, w_SEMICOLON, w_PLUS, w_MINUS, w_QUESTION_MARK, w_STAR, w_VERTICAL_BAR, w_DOLLAR, w_HASH, w_SLASH, w_DOUBLE_SLASH, w_AT, w_LEFT_BRACKET, w_RIGHT_BRACKET, w_DOT, w_DOT_DOT, w_COLON_COLON, w_EQUALS, w_NOT_EQUALS, w_LESS_THAN, w_LESS_THAN_OR_EQUAL, w_GREATER_THAN, w_GREATER_THAN_OR_EQUAL, w_NODE_PRECEDES, w_NODE_FOLLOWS, w_CONCATENATION, w_MULTIPLICATION_SIGN, w_DIVISION_SIGN, w_ASSIGN, w_LEFT_BRACE, w_RIGHT_BRACE, w_END] : List Addr).getD i 0) s.heap s.heap.size (Nat.le_refl _) S_NUMERIC_LITERAL S_STRING_LITERAL S_NAME S_PREFIXED_NAME S_URI_QUALIFIED_NAME S_WILDCARD S_LEFT_PAREN S_RIGHT_PAREN S_COMMA S_SEMICOLON S_PLUS S_MINUS S_QUESTION_MARK S_STAR S_VERTICAL_BAR S_DOLLAR S_HASH S_SLASH S_DOUBLE_SLASH S_AT S_LEFT_BRACKET S_RIGHT_BRACKET S_DOT S_DOT_DOT S_COLON_COLON S_EQUALS S_NOT_EQUALS S_LESS_THAN S_LESS_THAN_OR_EQUAL S_GREATER_THAN S_GREATER_THAN_OR_EQUAL S_NODE_PRECEDES S_NODE_FOLLOWS S_CONCATENATION S_MULTIPLICATION_SIGN S_DIVISION_SIGN S_ASSIGN S_LEFT_BRACE S_RIGHT_BRACE S_END (fun i hi => (hEO i hi).1) (fun i hi => by have := (hEO i hi).2; rwa [Nat.zero_add] at this) p e ha hc hk s m _ below hf ((Spec.applies_iff_loose hf).mp happ).1 ⟨rfl, State.Warmed39.refl s, rfl⟩ trivial
  refine ⟨n, _, h1, h2, h3, hpost _ _ _ _ _ _ ⟨Cond.after_iff.mpr rfl, Cond.after_iff.mpr (eq_i res_at (Term.int_eval (1)) rfl), trivial⟩ ⟨hq.1, hq.2.1, (hq.2.2.sift fun y hy => Or.inr (N y hy)).mono (by decide) (by decide)⟩⟩
theorem main_1_1 : Claimed_1_1 := comes_1 fun _ _ _ _ _ _ h hF => ⟨h.1, hF⟩
theorem main_1_2 : Claimed_1_2 := comes_1 fun _ _ _ _ _ _ h hF => ⟨h.2.1, hF⟩
end Jvm.Pilot.@@N@@
namespace Jvm.Pilot.@@N@@
open Jvm Jvm.ClassFile Sem Op Lib Jvm.Free Jvm.Stand Jvm.Pilot.@@N@@.Jvm.D
/-! MADE BY PROGRAM (witnessworld.py) out of the Statement's table words and the real class files: 13 classes; the members and pool entries that the words name. The judged class is class 1, her method 1. -/
namespace start1
open Jvm.ClassFile
def u (s : String) : CpInfo := .utf8 (stringToUtf16 s)
/-- a pool by its gaps: so many unusable entries, then the entry; so many at the end -/
def gap : Nat → List CpInfo → List CpInfo
  | 0, r => r
  | n + 1, r => .unusable :: gap n r
def poolList (es : List (Nat × CpInfo)) (last : Nat) : List CpInfo := es.foldr (fun e r => gap e.1 (e.2 :: r)) (gap last [])
def pool (es : List (Nat × CpInfo)) (last : Nat) : Array CpInfo := ⟨poolList es last⟩
def fileOf (pool : Array CpInfo) (this : Nat) (attrs : Array Attribute := #[]) (ms : Array MethodInfo := #[]) (fl : Nat := 33) (sup : Nat := 0) (ifs : Array Nat := #[]) (fds : Array FieldInfo := #[]) : ClassFile where
  minorVersion := 0
  majorVersion := 65
  constantPool := pool
  accessFlags := fl
  thisClass := this
  superClass := sup
  interfaces := ifs
  fields := fds
  methods := ms
  attributes := attrs
def plain (name : String) (sup : Option ClassId) : Class where
  name := name
  kind := .ordinary
  loader := none
  accessFlags := 33
  super := sup
  interfaces := #[]
  cf := none
  fields := #[]
  methods := #[]
  instanceTypes := #[]
  staticTypes := #[]
  resolved := #[]
  callSites := []
  init := .initialized
  statics := none
  mirror := none

def pool0 : Array CpInfo := pool [(5, u "<init>"), (0, u "()V"), (1, .class_ 10), (1, u "java/lang/Object")] 113

def k0m0 : Method := { name := "<init>", desc := "()V", sig := { parameters := [], returnType := none }, accessFlags := 1, code := none }
/-- java/lang/Object -/
def k0 : Class := { plain "java/lang/Object" none with
  accessFlags := 33
  interfaces := #[]
  cf := some (fileOf pool0 8 #[] #[{ accessFlags := 1, nameIndex := 5, descriptorIndex := 6, attributes := #[] }] 33 0 #[] #[])
  fields := #[]
  methods := #[k0m0]
  instanceTypes := #[]
  staticTypes := #[]
  resolved := Array.replicate 124 none
  statics := none }

def pool1 : Array CpInfo := pool [(2, .class_ 4), (1, u "java/lang/Object"), (0, u "<init>"), (0, u "()V"), (0, .class_ 8), (0, u "com/example/mint_path/mintpath/parse/TokenKind"), (0, .fieldref 7 10), (0, .nameAndType 11 12), (0, u "NUMERIC_LITERAL"), (0, u "Lcom/example/mint_path/mintpath/parse/TokenKind;"), (0, .fieldref 7 14), (0, .nameAndType 15 12), (0, u "STRING_LITERAL"), (0, .fieldref 7 17), (0, .nameAndType 18 12), (0, u "NAME"), (0, .fieldref 7 20), (0, .nameAndType 21 12), (0, u "PREFIXED_NAME"), (0, .fieldref 7 23), (0, .nameAndType 24 12), (0, u "URI_QUALIFIED_NAME"), (0, .fieldref 7 26), (0, .nameAndType 27 12), (0, u "WILDCARD"), (0, .fieldref 7 29), (0, .nameAndType 30 12), (0, u "LEFT_PAREN"), (0, .fieldref 7 32), (0, .nameAndType 33 12), (0, u "RIGHT_PAREN"), (0, .fieldref 7 35), (0, .nameAndType 36 12), (0, u "COMMA"), (0, .fieldref 7 38), (0, .nameAndType 39 12), (0, u "SEMICOLON"), (0, .fieldref 7 41), (0, .nameAndType 42 12), (0, u "PLUS"), (0, .fieldref 7 44), (0, .nameAndType 45 12), (0, u "MINUS"), (0, .fieldref 7 47), (0, .nameAndType 48 12), (0, u "QUESTION_MARK"), (0, .fieldref 7 50), (0, .nameAndType 51 12), (0, u "STAR"), (0, .fieldref 7 53), (0, .nameAndType 54 12), (0, u "VERTICAL_BAR"), (0, .fieldref 7 56), (0, .nameAndType 57 12), (0, u "DOLLAR"), (0, .fieldref 7 59), (0, .nameAndType 60 12), (0, u "HASH"), (0, .fieldref 7 62), (0, .nameAndType 63 12), (0, u "SLASH"), (0, .fieldref 7 65), (0, .nameAndType 66 12), (0, u "DOUBLE_SLASH"), (0, .fieldref 7 68), (0, .nameAndType 69 12), (0, u "AT"), (0, .fieldref 7 71), (0, .nameAndType 72 12), (0, u "LEFT_BRACKET"), (0, .fieldref 7 74), (0, .nameAndType 75 12), (0, u "RIGHT_BRACKET"), (0, .fieldref 7 77), (0, .nameAndType 78 12), (0, u "DOT"), (0, .fieldref 7 80), (0, .nameAndType 81 12), (0, u "DOT_DOT"), (0, .fieldref 7 83), (0, .nameAndType 84 12), (0, u "COLON_COLON"), (0, .fieldref 7 86), (0, .nameAndType 87 12), (0, u "EQUALS"), (0, .fieldref 7 89), (0, .nameAndType 90 12), (0, u "NOT_EQUALS"), (0, .fieldref 7 92), (0, .nameAndType 93 12), (0, u "LESS_THAN"), (0, .fieldref 7 95), (0, .nameAndType 96 12), (0, u "LESS_THAN_OR_EQUAL"), (0, .fieldref 7 98), (0, .nameAndType 99 12), (0, u "GREATER_THAN"), (0, .fieldref 7 101), (0, .nameAndType 102 12), (0, u "GREATER_THAN_OR_EQUAL"), (0, .fieldref 7 104), (0, .nameAndType 105 12), (0, u "NODE_PRECEDES"), (0, .fieldref 7 107), (0, .nameAndType 108 12), (0, u "NODE_FOLLOWS"), (0, .fieldref 7 110), (0, .nameAndType 111 12), (0, u "CONCATENATION"), (0, .fieldref 7 113), (0, .nameAndType 114 12), (0, u "MULTIPLICATION_SIGN"), (0, .fieldref 7 116), (0, .nameAndType 117 12), (0, u "DIVISION_SIGN"), (0, .fieldref 7 119), (0, .nameAndType 120 12), (0, u "ASSIGN"), (0, .fieldref 7 122), (0, .nameAndType 123 12), (0, u "LEFT_BRACE"), (0, .fieldref 7 125), (0, .nameAndType 126 12), (0, u "RIGHT_BRACE"), (0, .fieldref 7 128), (0, .nameAndType 129 12), (0, u "END"), (0, .integer 2147483647), (0, .methodref 7 132), (0, .nameAndType 133 134), (0, u "isName"), (0, u "()Z"), (0, .class_ 136), (0, u "com/example/mint_path/mintpath/parse/TokenKindIsNamePinLaw"), (2, u "law"), (0, u "(I)Z")] 5

def k1m0 : Method := { name := "<init>", desc := "()V", sig := { parameters := [], returnType := none }, accessFlags := 2, code := none }
def k1c1 : Code := { maxStack := 4, maxLocals := 5, code := code, exceptionTable := #[], attributes := #[] }
def k1m1 : Method := { name := "law", desc := "(I)Z", sig := { parameters := [.int], returnType := some .boolean }, accessFlags := 9, code := some k1c1 }
/-- com/example/mint_path/mintpath/parse/TokenKindIsNamePinLaw -/
def k1 : Class := { plain "com/example/mint_path/mintpath/parse/TokenKindIsNamePinLaw" (some 0) with
  accessFlags := 49
  interfaces := #[]
  cf := some (fileOf pool1 135 #[] #[{ accessFlags := 2, nameIndex := 5, descriptorIndex := 6, attributes := #[] }, { accessFlags := 9, nameIndex := 139, descriptorIndex := 140, attributes := #[] }] 49 2 #[] #[])
  fields := #[]
  methods := #[k1m0, k1m1]
  instanceTypes := #[]
  staticTypes := #[]
  resolved := Array.replicate 146 none
  statics := none }

def pool2 : Array CpInfo := pool [(1, .class_ 2), (0, u "java/lang/constant/Constable"), (0, .class_ 4), (0, u "java/lang/Object")] 6

/-- java/lang/constant/Constable -/
def k2 : Class := { plain "java/lang/constant/Constable" (some 0) with
  accessFlags := 1537
  interfaces := #[]
  cf := some (fileOf pool2 1 #[] #[] 1537 3 #[] #[])
  fields := #[]
  methods := #[]
  instanceTypes := #[]
  staticTypes := #[]
  resolved := Array.replicate 11 none
  statics := none }

def pool3 : Array CpInfo := pool [(1, .class_ 2), (0, u "java/lang/Comparable"), (0, .class_ 4), (0, u "java/lang/Object")] 7

/-- java/lang/Comparable -/
def k3 : Class := { plain "java/lang/Comparable" (some 0) with
  accessFlags := 1537
  interfaces := #[]
  cf := some (fileOf pool3 1 #[] #[] 1537 3 #[] #[])
  fields := #[]
  methods := #[]
  instanceTypes := #[]
  staticTypes := #[]
  resolved := Array.replicate 12 none
  statics := none }

def pool4 : Array CpInfo := pool [(1, .class_ 2), (0, u "java/io/Serializable"), (0, .class_ 4), (0, u "java/lang/Object")] 2

/-- java/io/Serializable -/
def k4 : Class := { plain "java/io/Serializable" (some 0) with
  accessFlags := 1537
  interfaces := #[]
  cf := some (fileOf pool4 1 #[] #[] 1537 3 #[] #[])
  fields := #[]
  methods := #[]
  instanceTypes := #[]
  staticTypes := #[]
  resolved := Array.replicate 7 none
  statics := none }

def pool5 : Array CpInfo := pool [(2, .class_ 4), (1, u "java/lang/Enum"), (0, u "name"), (0, u "Ljava/lang/String;"), (2, u "ordinal"), (0, u "I"), (1, .class_ 14), (1, u "java/lang/Object"), (4, u "hash"), (86, .class_ 108), (1, u "java/lang/Enum$EnumDesc"), (2, .class_ 112), (0, u "java/lang/constant/Constable"), (0, .class_ 114), (0, u "java/lang/Comparable"), (0, .class_ 116), (0, u "java/io/Serializable")] 87

/-- java/lang/Enum -/
def k5 : Class := { plain "java/lang/Enum" (some 0) with
  accessFlags := 1057
  interfaces := #[2, 3, 4]
  cf := some (fileOf pool5 2 #[.nestMembers #[106]] #[] 1057 12 #[111, 113, 115] #[{ accessFlags := 18, nameIndex := 5, descriptorIndex := 6, attributes := #[] }, { accessFlags := 18, nameIndex := 9, descriptorIndex := 10, attributes := #[] }, { accessFlags := 2, nameIndex := 19, descriptorIndex := 10, attributes := #[] }])
  fields := #[{ name := "name", type := (.object "java/lang/String"), accessFlags := 18, slot := 0, constantValue := 0 }, { name := "ordinal", type := .int, accessFlags := 18, slot := 1, constantValue := 0 }, { name := "hash", type := .int, accessFlags := 2, slot := 2, constantValue := 0 }]
  methods := #[]
  instanceTypes := #[(.object "java/lang/String"), .int, .int]
  staticTypes := #[]
  resolved := Array.replicate 204 none
  statics := none }

def pool6 : Array CpInfo := pool [(1, .class_ 2), (0, u "com/example/mint_path/mintpath/parse/TokenKind"), (2, u "NUMERIC_LITERAL"), (0, u "Lcom/example/mint_path/mintpath/parse/TokenKind;"), (2, u "STRING_LITERAL"), (0, .fieldref 1 11), (0, .nameAndType 12 6), (0, u "NAME"), (0, .fieldref 1 14), (0, .nameAndType 15 6), (0, u "PREFIXED_NAME"), (0, .fieldref 1 17), (0, .nameAndType 18 6), (0, u "URI_QUALIFIED_NAME"), (2, u "WILDCARD"), (2, u "LEFT_PAREN"), (2, u "RIGHT_PAREN"), (2, u "COMMA"), (2, u "SEMICOLON"), (2, u "PLUS"), (2, u "MINUS"), (2, u "QUESTION_MARK"), (2, u "STAR"), (2, u "VERTICAL_BAR"), (2, u "DOLLAR"), (2, u "HASH"), (2, u "SLASH"), (2, u "DOUBLE_SLASH"), (2, u "AT"), (2, u "LEFT_BRACKET"), (2, u "RIGHT_BRACKET"), (2, u "DOT"), (2, u "DOT_DOT"), (2, u "COLON_COLON"), (2, u "EQUALS"), (2, u "NOT_EQUALS"), (2, u "LESS_THAN"), (2, u "LESS_THAN_OR_EQUAL"), (2, u "GREATER_THAN"), (2, u "GREATER_THAN_OR_EQUAL"), (2, u "NODE_PRECEDES"), (2, u "NODE_FOLLOWS"), (2, u "CONCATENATION"), (2, u "MULTIPLICATION_SIGN"), (2, u "DIVISION_SIGN"), (2, u "ASSIGN"), (2, u "LEFT_BRACE"), (2, u "RIGHT_BRACE"), (2, u "END"), (2, u "$VALUES"), (0, u "[Lcom/example/mint_path/mintpath/parse/TokenKind;"), (6, .class_ 136), (1, u "java/lang/Enum"), (8, u "description"), (0, u "Ljava/lang/String;"), (135, u "isName"), (0, u "()Z")] 6

def k6c0 : Code := { maxStack := 2, maxLocals := 1, code := prog_27_method_5_code, exceptionTable := #[], attributes := #[] }
def k6m0 : Method := { name := "isName", desc := "()Z", sig := { parameters := [], returnType := some .boolean }, accessFlags := 0, code := some k6c0 }
/-- com/example/mint_path/mintpath/parse/TokenKind -/
def k6 : Class := { plain "com/example/mint_path/mintpath/parse/TokenKind" (some 5) with
  accessFlags := 16432
  interfaces := #[]
  cf := some (fileOf pool6 1 #[] #[{ accessFlags := 0, nameIndex := 282, descriptorIndex := 283, attributes := #[] }] 16432 134 #[] #[{ accessFlags := 16409, nameIndex := 5, descriptorIndex := 6, attributes := #[] }, { accessFlags := 16409, nameIndex := 9, descriptorIndex := 6, attributes := #[] }, { accessFlags := 16409, nameIndex := 12, descriptorIndex := 6, attributes := #[] }, { accessFlags := 16409, nameIndex := 15, descriptorIndex := 6, attributes := #[] }, { accessFlags := 16409, nameIndex := 18, descriptorIndex := 6, attributes := #[] }, { accessFlags := 16409, nameIndex := 21, descriptorIndex := 6, attributes := #[] }, { accessFlags := 16409, nameIndex := 24, descriptorIndex := 6, attributes := #[] }, { accessFlags := 16409, nameIndex := 27, descriptorIndex := 6, attributes := #[] }, { accessFlags := 16409, nameIndex := 30, descriptorIndex := 6, attributes := #[] }, { accessFlags := 16409, nameIndex := 33, descriptorIndex := 6, attributes := #[] }, { accessFlags := 16409, nameIndex := 36, descriptorIndex := 6, attributes := #[] }, { accessFlags := 16409, nameIndex := 39, descriptorIndex := 6, attributes := #[] }, { accessFlags := 16409, nameIndex := 42, descriptorIndex := 6, attributes := #[] }, { accessFlags := 16409, nameIndex := 45, descriptorIndex := 6, attributes := #[] }, { accessFlags := 16409, nameIndex := 48, descriptorIndex := 6, attributes := #[] }, { accessFlags := 16409, nameIndex := 51, descriptorIndex := 6, attributes := #[] }, { accessFlags := 16409, nameIndex := 54, descriptorIndex := 6, attributes := #[] }, { accessFlags := 16409, nameIndex := 57, descriptorIndex := 6, attributes := #[] }, { accessFlags := 16409, nameIndex := 60, descriptorIndex := 6, attributes := #[] }, { accessFlags := 16409, nameIndex := 63, descriptorIndex := 6, attributes := #[] }, { accessFlags := 16409, nameIndex := 66, descriptorIndex := 6, attributes := #[] }, { accessFlags := 16409, nameIndex := 69, descriptorIndex := 6, attributes := #[] }, { accessFlags := 16409, nameIndex := 72, descriptorIndex := 6, attributes := #[] }, { accessFlags := 16409, nameIndex := 75, descriptorIndex := 6, attributes := #[] }, { accessFlags := 16409, nameIndex := 78, descriptorIndex := 6, attributes := #[] }, { accessFlags := 16409, nameIndex := 81, descriptorIndex := 6, attributes := #[] }, { accessFlags := 16409, nameIndex := 84, descriptorIndex := 6, attributes := #[] }, { accessFlags := 16409, nameIndex := 87, descriptorIndex := 6, attributes := #[] }, { accessFlags := 16409, nameIndex := 90, descriptorIndex := 6, attributes := #[] }, { accessFlags := 16409, nameIndex := 93, descriptorIndex := 6, attributes := #[] }, { accessFlags := 16409, nameIndex := 96, descriptorIndex := 6, attributes := #[] }, { accessFlags := 16409, nameIndex := 99, descriptorIndex := 6, attributes := #[] }, { accessFlags := 16409, nameIndex := 102, descriptorIndex := 6, attributes := #[] }, { accessFlags := 16409, nameIndex := 105, descriptorIndex := 6, attributes := #[] }, { accessFlags := 16409, nameIndex := 108, descriptorIndex := 6, attributes := #[] }, { accessFlags := 16409, nameIndex := 111, descriptorIndex := 6, attributes := #[] }, { accessFlags := 16409, nameIndex := 114, descriptorIndex := 6, attributes := #[] }, { accessFlags := 16409, nameIndex := 117, descriptorIndex := 6, attributes := #[] }, { accessFlags := 16409, nameIndex := 120, descriptorIndex := 6, attributes := #[] }, { accessFlags := 16409, nameIndex := 123, descriptorIndex := 6, attributes := #[] }, { accessFlags := 18, nameIndex := 145, descriptorIndex := 146, attributes := #[] }, { accessFlags := 4122, nameIndex := 126, descriptorIndex := 127, attributes := #[] }])
  fields := #[{ name := "NUMERIC_LITERAL", type := (.object "com/example/mint_path/mintpath/parse/TokenKind"), accessFlags := 16409, slot := 0, constantValue := 0 }, { name := "STRING_LITERAL", type := (.object "com/example/mint_path/mintpath/parse/TokenKind"), accessFlags := 16409, slot := 1, constantValue := 0 }, { name := "NAME", type := (.object "com/example/mint_path/mintpath/parse/TokenKind"), accessFlags := 16409, slot := 2, constantValue := 0 }, { name := "PREFIXED_NAME", type := (.object "com/example/mint_path/mintpath/parse/TokenKind"), accessFlags := 16409, slot := 3, constantValue := 0 }, { name := "URI_QUALIFIED_NAME", type := (.object "com/example/mint_path/mintpath/parse/TokenKind"), accessFlags := 16409, slot := 4, constantValue := 0 }, { name := "WILDCARD", type := (.object "com/example/mint_path/mintpath/parse/TokenKind"), accessFlags := 16409, slot := 5, constantValue := 0 }, { name := "LEFT_PAREN", type := (.object "com/example/mint_path/mintpath/parse/TokenKind"), accessFlags := 16409, slot := 6, constantValue := 0 }, { name := "RIGHT_PAREN", type := (.object "com/example/mint_path/mintpath/parse/TokenKind"), accessFlags := 16409, slot := 7, constantValue := 0 }, { name := "COMMA", type := (.object "com/example/mint_path/mintpath/parse/TokenKind"), accessFlags := 16409, slot := 8, constantValue := 0 }, { name := "SEMICOLON", type := (.object "com/example/mint_path/mintpath/parse/TokenKind"), accessFlags := 16409, slot := 9, constantValue := 0 }, { name := "PLUS", type := (.object "com/example/mint_path/mintpath/parse/TokenKind"), accessFlags := 16409, slot := 10, constantValue := 0 }, { name := "MINUS", type := (.object "com/example/mint_path/mintpath/parse/TokenKind"), accessFlags := 16409, slot := 11, constantValue := 0 }, { name := "QUESTION_MARK", type := (.object "com/example/mint_path/mintpath/parse/TokenKind"), accessFlags := 16409, slot := 12, constantValue := 0 }, { name := "STAR", type := (.object "com/example/mint_path/mintpath/parse/TokenKind"), accessFlags := 16409, slot := 13, constantValue := 0 }, { name := "VERTICAL_BAR", type := (.object "com/example/mint_path/mintpath/parse/TokenKind"), accessFlags := 16409, slot := 14, constantValue := 0 }, { name := "DOLLAR", type := (.object "com/example/mint_path/mintpath/parse/TokenKind"), accessFlags := 16409, slot := 15, constantValue := 0 }, { name := "HASH", type := (.object "com/example/mint_path/mintpath/parse/TokenKind"), accessFlags := 16409, slot := 16, constantValue := 0 }, { name := "SLASH", type := (.object "com/example/mint_path/mintpath/parse/TokenKind"), accessFlags := 16409, slot := 17, constantValue := 0 }, { name := "DOUBLE_SLASH", type := (.object "com/example/mint_path/mintpath/parse/TokenKind"), accessFlags := 16409, slot := 18, constantValue := 0 }, { name := "AT", type := (.object "com/example/mint_path/mintpath/parse/TokenKind"), accessFlags := 16409, slot := 19, constantValue := 0 }, { name := "LEFT_BRACKET", type := (.object "com/example/mint_path/mintpath/parse/TokenKind"), accessFlags := 16409, slot := 20, constantValue := 0 }, { name := "RIGHT_BRACKET", type := (.object "com/example/mint_path/mintpath/parse/TokenKind"), accessFlags := 16409, slot := 21, constantValue := 0 }, { name := "DOT", type := (.object "com/example/mint_path/mintpath/parse/TokenKind"), accessFlags := 16409, slot := 22, constantValue := 0 }, { name := "DOT_DOT", type := (.object "com/example/mint_path/mintpath/parse/TokenKind"), accessFlags := 16409, slot := 23, constantValue := 0 }, { name := "COLON_COLON", type := (.object "com/example/mint_path/mintpath/parse/TokenKind"), accessFlags := 16409, slot := 24, constantValue := 0 }, { name := "EQUALS", type := (.object "com/example/mint_path/mintpath/parse/TokenKind"), accessFlags := 16409, slot := 25, constantValue := 0 }, { name := "NOT_EQUALS", type := (.object "com/example/mint_path/mintpath/parse/TokenKind"), accessFlags := 16409, slot := 26, constantValue := 0 }, { name := "LESS_THAN", type := (.object "com/example/mint_path/mintpath/parse/TokenKind"), accessFlags := 16409, slot := 27, constantValue := 0 }, { name := "LESS_THAN_OR_EQUAL", type := (.object "com/example/mint_path/mintpath/parse/TokenKind"), accessFlags := 16409, slot := 28, constantValue := 0 }, { name := "GREATER_THAN", type := (.object "com/example/mint_path/mintpath/parse/TokenKind"), accessFlags := 16409, slot := 29, constantValue := 0 }, { name := "GREATER_THAN_OR_EQUAL", type := (.object "com/example/mint_path/mintpath/parse/TokenKind"), accessFlags := 16409, slot := 30, constantValue := 0 }, { name := "NODE_PRECEDES", type := (.object "com/example/mint_path/mintpath/parse/TokenKind"), accessFlags := 16409, slot := 31, constantValue := 0 }, { name := "NODE_FOLLOWS", type := (.object "com/example/mint_path/mintpath/parse/TokenKind"), accessFlags := 16409, slot := 32, constantValue := 0 }, { name := "CONCATENATION", type := (.object "com/example/mint_path/mintpath/parse/TokenKind"), accessFlags := 16409, slot := 33, constantValue := 0 }, { name := "MULTIPLICATION_SIGN", type := (.object "com/example/mint_path/mintpath/parse/TokenKind"), accessFlags := 16409, slot := 34, constantValue := 0 }, { name := "DIVISION_SIGN", type := (.object "com/example/mint_path/mintpath/parse/TokenKind"), accessFlags := 16409, slot := 35, constantValue := 0 }, { name := "ASSIGN", type := (.object "com/example/mint_path/mintpath/parse/TokenKind"), accessFlags := 16409, slot := 36, constantValue := 0 }, { name := "LEFT_BRACE", type := (.object "com/example/mint_path/mintpath/parse/TokenKind"), accessFlags := 16409, slot := 37, constantValue := 0 }, { name := "RIGHT_BRACE", type := (.object "com/example/mint_path/mintpath/parse/TokenKind"), accessFlags := 16409, slot := 38, constantValue := 0 }, { name := "END", type := (.object "com/example/mint_path/mintpath/parse/TokenKind"), accessFlags := 16409, slot := 39, constantValue := 0 }, { name := "description", type := (.object "java/lang/String"), accessFlags := 18, slot := 3, constantValue := 0 }, { name := "$VALUES", type := (.array (.object "com/example/mint_path/mintpath/parse/TokenKind")), accessFlags := 4122, slot := 40, constantValue := 0 }]
  methods := #[k6m0]
  instanceTypes := #[(.object "java/lang/String"), .int, .int, (.object "java/lang/String")]
  staticTypes := #[(.object "com/example/mint_path/mintpath/parse/TokenKind"), (.object "com/example/mint_path/mintpath/parse/TokenKind"), (.object "com/example/mint_path/mintpath/parse/TokenKind"), (.object "com/example/mint_path/mintpath/parse/TokenKind"), (.object "com/example/mint_path/mintpath/parse/TokenKind"), (.object "com/example/mint_path/mintpath/parse/TokenKind"), (.object "com/example/mint_path/mintpath/parse/TokenKind"), (.object "com/example/mint_path/mintpath/parse/TokenKind"), (.object "com/example/mint_path/mintpath/parse/TokenKind"), (.object "com/example/mint_path/mintpath/parse/TokenKind"), (.object "com/example/mint_path/mintpath/parse/TokenKind"), (.object "com/example/mint_path/mintpath/parse/TokenKind"), (.object "com/example/mint_path/mintpath/parse/TokenKind"), (.object "com/example/mint_path/mintpath/parse/TokenKind"), (.object "com/example/mint_path/mintpath/parse/TokenKind"), (.object "com/example/mint_path/mintpath/parse/TokenKind"), (.object "com/example/mint_path/mintpath/parse/TokenKind"), (.object "com/example/mint_path/mintpath/parse/TokenKind"), (.object "com/example/mint_path/mintpath/parse/TokenKind"), (.object "com/example/mint_path/mintpath/parse/TokenKind"), (.object "com/example/mint_path/mintpath/parse/TokenKind"), (.object "com/example/mint_path/mintpath/parse/TokenKind"), (.object "com/example/mint_path/mintpath/parse/TokenKind"), (.object "com/example/mint_path/mintpath/parse/TokenKind"), (.object "com/example/mint_path/mintpath/parse/TokenKind"), (.object "com/example/mint_path/mintpath/parse/TokenKind"), (.object "com/example/mint_path/mintpath/parse/TokenKind"), (.object "com/example/mint_path/mintpath/parse/TokenKind"), (.object "com/example/mint_path/mintpath/parse/TokenKind"), (.object "com/example/mint_path/mintpath/parse/TokenKind"), (.object "com/example/mint_path/mintpath/parse/TokenKind"), (.object "com/example/mint_path/mintpath/parse/TokenKind"), (.object "com/example/mint_path/mintpath/parse/TokenKind"), (.object "com/example/mint_path/mintpath/parse/TokenKind"), (.object "com/example/mint_path/mintpath/parse/TokenKind"), (.object "com/example/mint_path/mintpath/parse/TokenKind"), (.object "com/example/mint_path/mintpath/parse/TokenKind"), (.object "com/example/mint_path/mintpath/parse/TokenKind"), (.object "com/example/mint_path/mintpath/parse/TokenKind"), (.object "com/example/mint_path/mintpath/parse/TokenKind"), (.array (.object "com/example/mint_path/mintpath/parse/TokenKind"))]
  resolved := Array.replicate 290 none
  statics := some 0 }

def pool7 : Array CpInfo := pool [(1, u "java/lang/Cloneable"), (0, .class_ 1), (0, u "java/lang/Object"), (0, .class_ 3)] 3

/-- java/lang/Cloneable -/
def k7 : Class := { plain "java/lang/Cloneable" (some 0) with
  accessFlags := 1537
  interfaces := #[]
  cf := some (fileOf pool7 2 #[] #[] 1537 4 #[] #[])
  fields := #[]
  methods := #[]
  instanceTypes := #[]
  staticTypes := #[]
  resolved := Array.replicate 8 none
  statics := none }

/-- the primitive byte -/
def k8 : Class := { plain "byte" none with kind := .primitive 'B', accessFlags := 0x411 }
/-- [B -/
def k9 : Class := { plain "[B" (some 0) with kind := .array 8 .byte, interfaces := #[7, 4], accessFlags := 1041 }

/-- the primitive int -/
def k10 : Class := { plain "int" none with kind := .primitive 'I', accessFlags := 0x411 }
/-- [I -/
def k11 : Class := { plain "[I" (some 0) with kind := .array 10 .int, interfaces := #[7, 4], accessFlags := 1041 }

/-- [Lcom/example/mint_path/mintpath/parse/TokenKind; -/
def k12 : Class := { plain "[Lcom/example/mint_path/mintpath/parse/TokenKind;" (some 0) with kind := .array 6 (.object "com/example/mint_path/mintpath/parse/TokenKind"), interfaces := #[7, 4], accessFlags := 1041 }

def heap : Heap := #[{ cls := 6, slots := #[.ref 1, .ref 2, .ref 3, .ref 4, .ref 5, .ref 6, .ref 7, .ref 8, .ref 9, .ref 10, .ref 11, .ref 12, .ref 13, .ref 14, .ref 15, .ref 16, .ref 17, .ref 18, .ref 19, .ref 20, .ref 21, .ref 22, .ref 23, .ref 24, .ref 25, .ref 26, .ref 27, .ref 28, .ref 29, .ref 30, .ref 31, .ref 32, .ref 33, .ref 34, .ref 35, .ref 36, .ref 37, .ref 38, .ref 39, .ref 40, .null], vm := .statics 6 },
  { cls := 6, slots := #[.null, .int 0, .int 0, .null], vm := .none },
  { cls := 6, slots := #[.null, .int 1, .int 0, .null], vm := .none },
  { cls := 6, slots := #[.null, .int 2, .int 0, .null], vm := .none },
  { cls := 6, slots := #[.null, .int 3, .int 0, .null], vm := .none },
  { cls := 6, slots := #[.null, .int 4, .int 0, .null], vm := .none },
  { cls := 6, slots := #[.null, .int 5, .int 0, .null], vm := .none },
  { cls := 6, slots := #[.null, .int 6, .int 0, .null], vm := .none },
  { cls := 6, slots := #[.null, .int 7, .int 0, .null], vm := .none },
  { cls := 6, slots := #[.null, .int 8, .int 0, .null], vm := .none },
  { cls := 6, slots := #[.null, .int 9, .int 0, .null], vm := .none },
  { cls := 6, slots := #[.null, .int 10, .int 0, .null], vm := .none },
  { cls := 6, slots := #[.null, .int 11, .int 0, .null], vm := .none },
  { cls := 6, slots := #[.null, .int 12, .int 0, .null], vm := .none },
  { cls := 6, slots := #[.null, .int 13, .int 0, .null], vm := .none },
  { cls := 6, slots := #[.null, .int 14, .int 0, .null], vm := .none },
  { cls := 6, slots := #[.null, .int 15, .int 0, .null], vm := .none },
  { cls := 6, slots := #[.null, .int 16, .int 0, .null], vm := .none },
  { cls := 6, slots := #[.null, .int 17, .int 0, .null], vm := .none },
  { cls := 6, slots := #[.null, .int 18, .int 0, .null], vm := .none },
  { cls := 6, slots := #[.null, .int 19, .int 0, .null], vm := .none },
  { cls := 6, slots := #[.null, .int 20, .int 0, .null], vm := .none },
  { cls := 6, slots := #[.null, .int 21, .int 0, .null], vm := .none },
  { cls := 6, slots := #[.null, .int 22, .int 0, .null], vm := .none },
  { cls := 6, slots := #[.null, .int 23, .int 0, .null], vm := .none },
  { cls := 6, slots := #[.null, .int 24, .int 0, .null], vm := .none },
  { cls := 6, slots := #[.null, .int 25, .int 0, .null], vm := .none },
  { cls := 6, slots := #[.null, .int 26, .int 0, .null], vm := .none },
  { cls := 6, slots := #[.null, .int 27, .int 0, .null], vm := .none },
  { cls := 6, slots := #[.null, .int 28, .int 0, .null], vm := .none },
  { cls := 6, slots := #[.null, .int 29, .int 0, .null], vm := .none },
  { cls := 6, slots := #[.null, .int 30, .int 0, .null], vm := .none },
  { cls := 6, slots := #[.null, .int 31, .int 0, .null], vm := .none },
  { cls := 6, slots := #[.null, .int 32, .int 0, .null], vm := .none },
  { cls := 6, slots := #[.null, .int 33, .int 0, .null], vm := .none },
  { cls := 6, slots := #[.null, .int 34, .int 0, .null], vm := .none },
  { cls := 6, slots := #[.null, .int 35, .int 0, .null], vm := .none },
  { cls := 6, slots := #[.null, .int 36, .int 0, .null], vm := .none },
  { cls := 6, slots := #[.null, .int 37, .int 0, .null], vm := .none },
  { cls := 6, slots := #[.null, .int 38, .int 0, .null], vm := .none },
  { cls := 6, slots := #[.null, .int 39, .int 0, .null], vm := .none }]
def classes : Array Class := #[k0, k1, k2, k3, k4, k5, k6, k7, k8, k9, k10, k11, k12]
def interned : List (Array UInt16 × Addr) := []
def slotsUsed : Nat := 201
def theMethod : MethodId := ⟨1, 1⟩
def args0 : Array Value := #[.int 7]
def aboutOver (below : List Frame) : State where
  vm := { classes := classes, interned := interned.toArray }
  heap := heap
  slotsUsed := slotsUsed
  threads := #[{ frames := .invoking theMethod args0 :: below }]
def below0 : List Frame := [.native { method := ⟨0, 0⟩, args := #[] }]
def about1 : State := aboutOver below0
def p0 : Program := .bare "" "" ""
def e0 : Env := launch0.env 0 0 0
theorem w_frames : about1.frames = Frame.invoking theMethod args0 :: below0 := rfl
set_option maxRecDepth 65536 in
theorem w_args : argsFit about1.vm theMethod args0 = true := by decide +kernel
set_option maxRecDepth 65536 in
theorem w_heap : heapFits about1 = true := by decide +kernel
set_option maxRecDepth 65536 in
theorem w_runnable : about1.curStatus? = some .runnable := by decide +kernel
set_option maxRecDepth 65536 in
theorem w_alone : about1.alone = true := by decide +kernel
set_option maxRecDepth 65536 in
theorem w_named : about1.methodNamed? x = some theMethod := by decide +kernel
set_option maxRecDepth 65536 in
theorem w_hears : about1.hears theMethod below0 = true := by decide +kernel
set_option maxRecDepth 65536 in
theorem w_ripe : about1.ripe theMethod args0 below0 = true := by decide +kernel
theorem w_running : about1.status = .running := rfl
set_option maxRecDepth 65536 in
theorem w_room : about1.hasRoom e0.platform room_1 = true :=
  launch0.hasRoom_least _ room_1 (by decide +kernel) (by decide +kernel) (by decide +kernel) (by decide +kernel) (by decide +kernel) (by decide +kernel)
theorem allAtoms_all (ts : List Jvm.Cond) (a : Array Jvm.Value) (st : Jvm.State) : (allAtoms ts).before a st = ts.all (fun c => c.before a st) := by
  induction ts with
  | nil => rfl
  | cons c t ih =>
    show (Jvm.Cond.and c (allAtoms t)).before a st = _
    rw [Jvm.Cond.before_and, ih, List.all_cons]
def words1 : List Jvm.Cond := Jvm.Cond.code x code maxLocals ret :: tables_1
/-- a 'code' word, met by the world's own term for the bytes: nothing is compared byte by byte -/
theorem code_word {y : MethodName} {bytes : ByteArray} {mx : Nat} {rt : Option FieldType} {a : Array Value} {s : State} {m : MethodId} {meth : Method} {c : Code} (h1 : s.methodNamed? y = some m) (h2 : s.vm.method? m = some meth) (h3 : meth.code = some c) (h4 : c.code = bytes)
    (h5 : (c.maxLocals == mx && c.exceptionTable.isEmpty && decide (c.maxStack ≤ mostOperands) && decide (meth.sig.returnType = rt) && !meth.locks && decide (parseMethodDescriptor y.desc = some meth.sig)) = true) : (Jvm.Cond.code y bytes mx rt).before a s = true := by
  simp only [Bool.and_eq_true, beq_iff_eq, Bool.not_eq_true', decide_eq_true_eq] at h5
  obtain ⟨⟨⟨⟨⟨g1, g2⟩, g3⟩, g4⟩, g5⟩, g6⟩ := h5
  simp [Cond.before, Cond.holds, Cond.value, h1, h2, h3, h4, g1, g2, g3, g4, g5, g6]
def isCode : Jvm.Cond → Bool
  | .code _ _ _ _ => true
  | _ => false
theorem all_split {L : List Jvm.Cond} {P : Jvm.Cond → Bool} (h1 : L.all (fun c => isCode c || P c) = true) (h2 : ∀ c ∈ L.filter isCode, P c = true) : L.all P = true := by
  refine List.all_eq_true.mpr fun c hc => ?_
  have h := List.all_eq_true.mp h1 c hc
  rcases Bool.eq_false_or_eq_true (isCode c) with hi | hi
  · exact h2 c (List.mem_filter.mpr ⟨hc, hi⟩)
  · simpa [hi] using h
set_option maxRecDepth 65536 in
theorem w_c0 : (Jvm.Cond.code x code maxLocals ret).before args0 about1 = true := code_word (m := ⟨1, 1⟩) (meth := k1m1) (c := k1c1) (by decide +kernel) rfl rfl rfl (by decide +kernel)
set_option maxRecDepth 65536 in
theorem w_c1 : (Jvm.Cond.code ({ cls := "com/example/mint_path/mintpath/parse/TokenKind", name := "isName", desc := "()Z" } : Jvm.MethodName) prog_27_method_5_code (1 : Nat) (Option.some Jvm.ClassFile.FieldType.boolean)).before args0 about1 = true := code_word (m := ⟨6, 0⟩) (meth := k6m0) (c := k6c0) (by decide +kernel) rfl rfl rfl (by decide +kernel)
def codes1 : List Jvm.Cond := [Jvm.Cond.code x code maxLocals ret, Jvm.Cond.code ({ cls := "com/example/mint_path/mintpath/parse/TokenKind", name := "isName", desc := "()Z" } : Jvm.MethodName) prog_27_method_5_code (1 : Nat) (Option.some Jvm.ClassFile.FieldType.boolean)]
set_option maxRecDepth 65536 in
theorem codes_eq : words1.filter isCode = codes1 := rfl
theorem w_codes : ∀ c ∈ words1.filter isCode, c.before args0 about1 = true := by
  rw [codes_eq]
  intro c hc
  simp only [codes1, List.mem_cons, List.not_mem_nil, or_false] at hc
  rcases hc with rfl | rfl
  · exact w_c0
  · exact w_c1
set_option maxRecDepth 65536 in
theorem w_t1 : (words1.take 24).all (fun c => isCode c || c.before args0 about1) = true := by decide +kernel
set_option maxRecDepth 65536 in
theorem w_t2 : ((words1.drop 24).take 24).all (fun c => isCode c || c.before args0 about1) = true := by decide +kernel
set_option maxRecDepth 65536 in
theorem w_t3 : (((words1.drop 24).drop 24).take 24).all (fun c => isCode c || c.before args0 about1) = true := by decide +kernel
set_option maxRecDepth 65536 in
theorem w_t4 : (((words1.drop 24).drop 24).drop 24).all (fun c => isCode c || c.before args0 about1) = true := by decide +kernel
theorem w_tables : (allAtoms (Jvm.Cond.code x code maxLocals ret :: tables_1)).before args0 about1 = true := by
  rw [allAtoms_all]
  show words1.all (fun c => c.before args0 about1) = true
  refine all_split ?_ w_codes
  rw [← List.take_append_drop 24 words1, List.all_append, w_t1, ← List.take_append_drop 24 (words1.drop 24), List.all_append, w_t2, ← List.take_append_drop 24 ((words1.drop 24).drop 24), List.all_append, w_t3, w_t4]
  rfl
set_option maxRecDepth 65536 in
theorem w_case : (Jvm.Cond.and given_1 narrow_1).before args0 about1 = true := by decide +kernel
theorem w_applies : (headSpec (Jvm.Cond.code x code maxLocals ret :: tables_1) room_1).applies x e0.platform about1 = true :=
  (Spec.applies_iff w_frames).mpr ⟨w_running, w_runnable, w_alone, w_named, w_hears, w_ripe, w_room, w_tables⟩
theorem atStart : AtStart classFile x code maxLocals ret World_1 tables_1 room_1 Calls_1 rest_1 Pre_1 launch0 p0 e0 about1 theMethod args0 below0 :=
  ⟨lists_1, trivial, launch0.admits_env _ _ _, launch0.least_env, fairChoices_fair.cas, fairChoices_fair.clock, w_frames, w_args, w_heap, w_applies, trivial, trivial, w_case⟩
end start1
theorem witness_1 : WitnessClaimed_1 := ⟨start1.p0, start1.e0, start1.about1, start1.theMethod, start1.args0, start1.below0, start1.atStart⟩
end Jvm.Pilot.@@N@@
