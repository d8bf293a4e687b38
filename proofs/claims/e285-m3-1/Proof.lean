import JvmDerived
import JvmDerived.Pilot.@@N@@Statement
import JvmDerived.Pilot.@@N@@Code
set_option linter.unusedVariables false
set_option linter.unusedSimpArgs false
namespace Jvm.Pilot.@@N@@
open Jvm Jvm.ClassFile Sem Op Lib Jvm.Free Jvm.Stand Jvm.LawKit Jvm.RoadKit Bundle Jvm.Pilot.@@N@@.Jvm.D
theorem own_fld {s : State} {args : Array Value} {t : Term} {w : Addr} {C n d : String} {k : Int32} (ev : t.eval args s none [] s = some (.ref w)) (h : (Cond.eq (Term.field t C n d) (Term.int k)).value args s none s [] = some true) : Fld s s.heap w C n d (.int k) := by
  refine Fld.start ?_
  have h1 : (Term.field t C n d).eval args s none [] s = s.fieldOf? w C n d := fld_at ev
  have h2 : (Term.int k).eval args s none [] s = some (.int k) := Term.int_eval k
  cases hf : s.fieldOf? w C n d with
  | none => rw [hf] at h1; simp [Cond.value, h1] at h
  | some x =>
    rw [hf] at h1
    cases x <;> simp [Cond.value, h1, h2] at h
    rw [h]
def own_kept (a u p e : Addr) : Int32 := if a = u ∨ a = p ∨ a = e then 1 else 0
theorem dK_0 : decode prog_31_method_4_code 0 = .ok (.aload_n 0, 1) := by decide +kernel
theorem dK_1 : decode prog_31_method_4_code 1 = .ok (.getstatic 7, 3) := by decide +kernel
theorem dK_4 : decode prog_31_method_4_code 4 = .ok (.if_acmp .eq 17, 3) := by decide +kernel
theorem dK_7 : decode prog_31_method_4_code 7 = .ok (.aload_n 0, 1) := by decide +kernel
theorem dK_8 : decode prog_31_method_4_code 8 = .ok (.getstatic 10, 3) := by decide +kernel
theorem dK_11 : decode prog_31_method_4_code 11 = .ok (.if_acmp .eq 10, 3) := by decide +kernel
theorem dK_14 : decode prog_31_method_4_code 14 = .ok (.aload_n 0, 1) := by decide +kernel
theorem dK_15 : decode prog_31_method_4_code 15 = .ok (.getstatic 13, 3) := by decide +kernel
theorem dK_18 : decode prog_31_method_4_code 18 = .ok (.if_acmp .ne 7, 3) := by decide +kernel
theorem dK_21 : decode prog_31_method_4_code 21 = .ok (.iconst 1, 1) := by decide +kernel
theorem dK_22 : decode prog_31_method_4_code 22 = .ok (.goto 4, 3) := by decide +kernel
theorem dK_25 : decode prog_31_method_4_code 25 = .ok (.iconst 0, 1) := by decide +kernel
theorem dK_26 : decode prog_31_method_4_code 26 = .ok (.ireturn, 1) := by decide +kernel
theorem pnK : plainName "com/example/largo/largo/ConstraintDefinition$Kind" = true := by first | (simp [plainName, overriddenIn]; done) | decide +kernel
theorem efK (m : MethodId) (a : Addr) : entryFrame m #[(.ref a)] 1 = mkF m 0 #[.val (.ref a)] [] := by first | (simp [entryFrame, mkF, argsToLocals, Value.category]; done) | rfl
def QK (a w_UNIQUE w_PRIMARY_KEY w_EXCLUDE : Addr) (h0 : Heap) (n0 : Nat) (v : Option Value) (h : Heap) (L : List Loc) : Prop := v = some (.int (own_kept a w_UNIQUE w_PRIMARY_KEY w_EXCLUDE)) ∧ Fr n0 L ∧ h = h0
set_option maxRecDepth 65536 in
set_option maxHeartbeats 40000000 in
theorem rmK (l : Launch) (Z : State) (a0 : Array Value) (hw : ∀ d ∈ tables_1, d.before a0 Z = true) (ws : List Jvm.Cond) (a : Addr) (w_UNIQUE w_PRIMARY_KEY w_EXCLUDE : Addr) (h0 : Heap) (n0 : Nat) (Z0 : n0 ≤ h0.size) (S_UNIQUE : Sta Z h0 "com/example/largo/largo/ConstraintDefinition$Kind" "UNIQUE" "Lcom/example/largo/largo/ConstraintDefinition$Kind;" (.ref w_UNIQUE)) (S_PRIMARY_KEY : Sta Z h0 "com/example/largo/largo/ConstraintDefinition$Kind" "PRIMARY_KEY" "Lcom/example/largo/largo/ConstraintDefinition$Kind;" (.ref w_PRIMARY_KEY)) (S_EXCLUDE : Sta Z h0 "com/example/largo/largo/ConstraintDefinition$Kind" "EXCLUDE" "Lcom/example/largo/largo/ConstraintDefinition$Kind;" (.ref w_EXCLUDE)) :
    MetFree l (⟨"com/example/largo/largo/ConstraintDefinition$Kind", "isKeptByIndex", "()Z"⟩ : MethodName) (head1 (Jvm.Cond.code (⟨"com/example/largo/largo/ConstraintDefinition$Kind", "isKeptByIndex", "()Z"⟩ : MethodName) prog_31_method_4_code 1 (some .boolean) :: ws) ({ frames := 0, cells := 0, slots := 0, locals := 0 } : Room)) (fun as_ U => as_ = #[(.ref a)] ∧ Z.Warmed39 U.vm ∧ U.heap = h0) (fun _ _ _ _ _ => True) (fun _ U o U' => ∃ v L, o = .returned v ∧ QK a w_UNIQUE w_PRIMARY_KEY w_EXCLUDE h0 n0 v U'.heap L ∧ FrameEnd U o U' L ({ frames := 0, cells := 0, slots := 0, locals := 0 } : Room).cells ({ frames := 0, cells := 0, slots := 0, locals := 0 } : Room).slots) := by
  refine MetFree.of_bodySF (plainFor_of_name pnK) hisR ?_
  intro p e s m args below meth c s₁ Bd hml0 hP hK
  obtain ⟨rfl, hZ, hh⟩ := hP
  have hx := Bd.exec
  have hby := Bd.bytes
  have hml : c.maxLocals = 1 := hml0
  have hown : s.vm.findClass "com/example/largo/largo/ConstraintDefinition$Kind" = some m.cls := findClass_of_methodNamed Bd.named
  have X0 : Stand p l e ({ frames := 0, cells := 0, slots := 0, locals := 0 } : Room) s m #[(.ref a)] below meth c s₁ [] 0 0 := Stand.of_body Bd
  have e0 : s₁.heap = h0 := by rw [← hh, Bd.state]; rfl
  have N0 := Fr.nil n0
  have pre0 : ∀ t, Steps p.tables e below (s₁.setTop (mkF m 0 #[.val (.ref a)] [])) t → Steps p.tables e below (s₁.setTop (entryFrame m #[(.ref a)] 1)) t := fun t kk_ => castTop (efK m a) kk_
  obtain ⟨T1, X1, e1, st1⟩ := getS2 X0 hx hZ hown (host := "") (Or.inl (hw _ (List.mem_of_getElem? (i := 9) rfl))) Via.refl e0 S_UNIQUE (g := (mkF m 1 #[.val (.ref a)] [(.ref a)])) rfl (hb hby dK_1)
  have pre2 : ∀ t, Steps p.tables e below (T1.setTop (mkF m 4 #[.val (.ref a)] [(.ref w_UNIQUE), (.ref a)])) t → Steps p.tables e below (s₁.setTop (entryFrame m #[(.ref a)] 1)) t := fun t kt => by
    refine pre0 t ?_
    show Steps p.tables e below (s₁.setTop (mkF m 0 #[.val (.ref a)] [])) _
    refine XS.aloadN X0.here hx rfl (hb hby dK_0) rfl rfl ?_
    show Steps p.tables e below (s₁.setTop (mkF m 1 #[.val (.ref a)] [(.ref a)])) _
    refine st1 _ ?_
    exact kt
  by_cases hc4_3 : a = w_UNIQUE
  · obtain ⟨fs, hr, hrun, hended, hW, hsame⟩ := X1.leave (v := some (.int (1 : Int32))) (fun h => by rw [Bd.returns] at h; cases h)
    refine ⟨_, _, pre2 _ ?_, hrun, hended, _, _, rfl, ?_, ⟨_, rfl⟩, hW, hsame.mono (by decide) (by decide)⟩
    · show Steps p.tables e below (T1.setTop (mkF m 4 #[.val (.ref a)] [(.ref w_UNIQUE), (.ref a)])) _
      refine Jvm.RoadKit.acmp (g := (mkF m 4 #[.val (.ref a)] [(.ref w_UNIQUE), (.ref a)])) X1 hx rfl rfl rfl (pc0 := 4) (pc' := 21) (same := true) rfl (hb hby dK_4) rfl (decide_eq_true (congrArg Value.ref hc4_3)) (by decide) (by decide) ?_
      show Steps p.tables e below (T1.setTop (mkF m 21 #[.val (.ref a)] [])) _
      refine XS.iconst X1.here hx rfl (hb hby dK_21) ?_
      show Steps p.tables e below (T1.setTop (mkF m 22 #[.val (.ref a)] [(.int (1 : Int32))])) _
      refine XS.goto X1.here hx rfl (pc0 := 22) (pc' := 26) rfl (hb hby dK_22) (by decide) (by decide) ?_
      show Steps p.tables e below (T1.setTop (mkF m 26 #[.val (.ref a)] [(.int (1 : Int32))])) _
      exact retN X1 hx (t := .boolean) Bd.returns (by simp) (hb hby dK_26) hr
    · show QK a w_UNIQUE w_PRIMARY_KEY w_EXCLUDE h0 n0 _ T1.heap _
      rw [e1]
      exact ⟨by simp [own_kept, hc4_3], N0, rfl⟩
  · obtain ⟨T4, X4, e4, st4⟩ := getS2 X1 hx hZ hown (host := "") (Or.inl (hw _ (List.mem_of_getElem? (i := 11) rfl))) Via.refl e1 S_PRIMARY_KEY (g := (mkF m 8 #[.val (.ref a)] [(.ref a)])) rfl (hb hby dK_8)
    have pre5 : ∀ t, Steps p.tables e below (T4.setTop (mkF m 11 #[.val (.ref a)] [(.ref w_PRIMARY_KEY), (.ref a)])) t → Steps p.tables e below (s₁.setTop (entryFrame m #[(.ref a)] 1)) t := fun t kt => by
      refine pre2 t ?_
      show Steps p.tables e below (T1.setTop (mkF m 4 #[.val (.ref a)] [(.ref w_UNIQUE), (.ref a)])) _
      refine Jvm.RoadKit.acmp (g := (mkF m 4 #[.val (.ref a)] [(.ref w_UNIQUE), (.ref a)])) X1 hx rfl rfl rfl (pc0 := 4) (pc' := 7) (same := false) rfl (hb hby dK_4) rfl (decide_eq_false fun q => hc4_3 (Value.ref.inj q)) (by decide) (by decide) ?_
      show Steps p.tables e below (T1.setTop (mkF m 7 #[.val (.ref a)] [])) _
      refine XS.aloadN X1.here hx rfl (hb hby dK_7) rfl rfl ?_
      show Steps p.tables e below (T1.setTop (mkF m 8 #[.val (.ref a)] [(.ref a)])) _
      refine st4 _ ?_
      exact kt
    by_cases hc11_6 : a = w_PRIMARY_KEY
    · obtain ⟨fs, hr, hrun, hended, hW, hsame⟩ := X4.leave (v := some (.int (1 : Int32))) (fun h => by rw [Bd.returns] at h; cases h)
      refine ⟨_, _, pre5 _ ?_, hrun, hended, _, _, rfl, ?_, ⟨_, rfl⟩, hW, hsame.mono (by decide) (by decide)⟩
      · show Steps p.tables e below (T4.setTop (mkF m 11 #[.val (.ref a)] [(.ref w_PRIMARY_KEY), (.ref a)])) _
        refine Jvm.RoadKit.acmp (g := (mkF m 11 #[.val (.ref a)] [(.ref w_PRIMARY_KEY), (.ref a)])) X4 hx rfl rfl rfl (pc0 := 11) (pc' := 21) (same := true) rfl (hb hby dK_11) rfl (decide_eq_true (congrArg Value.ref hc11_6)) (by decide) (by decide) ?_
        show Steps p.tables e below (T4.setTop (mkF m 21 #[.val (.ref a)] [])) _
        refine XS.iconst X4.here hx rfl (hb hby dK_21) ?_
        show Steps p.tables e below (T4.setTop (mkF m 22 #[.val (.ref a)] [(.int (1 : Int32))])) _
        refine XS.goto X4.here hx rfl (pc0 := 22) (pc' := 26) rfl (hb hby dK_22) (by decide) (by decide) ?_
        show Steps p.tables e below (T4.setTop (mkF m 26 #[.val (.ref a)] [(.int (1 : Int32))])) _
        exact retN X4 hx (t := .boolean) Bd.returns (by simp) (hb hby dK_26) hr
      · show QK a w_UNIQUE w_PRIMARY_KEY w_EXCLUDE h0 n0 _ T4.heap _
        rw [e4]
        exact ⟨by simp [own_kept, hc4_3, hc11_6], N0, rfl⟩
    · obtain ⟨T7, X7, e7, st7⟩ := getS2 X4 hx hZ hown (host := "") (Or.inl (hw _ (List.mem_of_getElem? (i := 13) rfl))) Via.refl e4 S_EXCLUDE (g := (mkF m 15 #[.val (.ref a)] [(.ref a)])) rfl (hb hby dK_15)
      have pre8 : ∀ t, Steps p.tables e below (T7.setTop (mkF m 18 #[.val (.ref a)] [(.ref w_EXCLUDE), (.ref a)])) t → Steps p.tables e below (s₁.setTop (entryFrame m #[(.ref a)] 1)) t := fun t kt => by
        refine pre5 t ?_
        show Steps p.tables e below (T4.setTop (mkF m 11 #[.val (.ref a)] [(.ref w_PRIMARY_KEY), (.ref a)])) _
        refine Jvm.RoadKit.acmp (g := (mkF m 11 #[.val (.ref a)] [(.ref w_PRIMARY_KEY), (.ref a)])) X4 hx rfl rfl rfl (pc0 := 11) (pc' := 14) (same := false) rfl (hb hby dK_11) rfl (decide_eq_false fun q => hc11_6 (Value.ref.inj q)) (by decide) (by decide) ?_
        show Steps p.tables e below (T4.setTop (mkF m 14 #[.val (.ref a)] [])) _
        refine XS.aloadN X4.here hx rfl (hb hby dK_14) rfl rfl ?_
        show Steps p.tables e below (T4.setTop (mkF m 15 #[.val (.ref a)] [(.ref a)])) _
        refine st7 _ ?_
        exact kt
      by_cases hc18_9 : a = w_EXCLUDE
      · obtain ⟨fs, hr, hrun, hended, hW, hsame⟩ := X7.leave (v := some (.int (1 : Int32))) (fun h => by rw [Bd.returns] at h; cases h)
        refine ⟨_, _, pre8 _ ?_, hrun, hended, _, _, rfl, ?_, ⟨_, rfl⟩, hW, hsame.mono (by decide) (by decide)⟩
        · show Steps p.tables e below (T7.setTop (mkF m 18 #[.val (.ref a)] [(.ref w_EXCLUDE), (.ref a)])) _
          refine Jvm.RoadKit.acmp (g := (mkF m 18 #[.val (.ref a)] [(.ref w_EXCLUDE), (.ref a)])) X7 hx rfl rfl rfl (pc0 := 18) (pc' := 21) (same := true) rfl (hb hby dK_18) rfl (decide_eq_true (congrArg Value.ref hc18_9)) (by decide) (by decide) ?_
          show Steps p.tables e below (T7.setTop (mkF m 21 #[.val (.ref a)] [])) _
          refine XS.iconst X7.here hx rfl (hb hby dK_21) ?_
          show Steps p.tables e below (T7.setTop (mkF m 22 #[.val (.ref a)] [(.int (1 : Int32))])) _
          refine XS.goto X7.here hx rfl (pc0 := 22) (pc' := 26) rfl (hb hby dK_22) (by decide) (by decide) ?_
          show Steps p.tables e below (T7.setTop (mkF m 26 #[.val (.ref a)] [(.int (1 : Int32))])) _
          exact retN X7 hx (t := .boolean) Bd.returns (by simp) (hb hby dK_26) hr
        · show QK a w_UNIQUE w_PRIMARY_KEY w_EXCLUDE h0 n0 _ T7.heap _
          rw [e7]
          exact ⟨by simp [own_kept, hc4_3, hc11_6, hc18_9], N0, rfl⟩
      · obtain ⟨fs, hr, hrun, hended, hW, hsame⟩ := X7.leave (v := some (.int (0 : Int32))) (fun h => by rw [Bd.returns] at h; cases h)
        refine ⟨_, _, pre8 _ ?_, hrun, hended, _, _, rfl, ?_, ⟨_, rfl⟩, hW, hsame.mono (by decide) (by decide)⟩
        · show Steps p.tables e below (T7.setTop (mkF m 18 #[.val (.ref a)] [(.ref w_EXCLUDE), (.ref a)])) _
          refine Jvm.RoadKit.acmp (g := (mkF m 18 #[.val (.ref a)] [(.ref w_EXCLUDE), (.ref a)])) X7 hx rfl rfl rfl (pc0 := 18) (pc' := 25) (same := false) rfl (hb hby dK_18) rfl (decide_eq_false fun q => hc18_9 (Value.ref.inj q)) (by decide) (by decide) ?_
          show Steps p.tables e below (T7.setTop (mkF m 25 #[.val (.ref a)] [])) _
          refine XS.iconst X7.here hx rfl (hb hby dK_25) ?_
          show Steps p.tables e below (T7.setTop (mkF m 26 #[.val (.ref a)] [(.int (0 : Int32))])) _
          exact retN X7 hx (t := .boolean) Bd.returns (by simp) (hb hby dK_26) hr
        · show QK a w_UNIQUE w_PRIMARY_KEY w_EXCLUDE h0 n0 _ T7.heap _
          rw [e7]
          exact ⟨by simp [own_kept, hc4_3, hc11_6, hc18_9], N0, rfl⟩
theorem pn0 : plainName "com/example/largo/largo/KindIsKeptByIndexPinLaw" = true := by first | (simp [plainName, overriddenIn]; done) | decide +kernel
theorem pd0_0 : parseMethodDescriptor "()Z" = some ⟨[], some .boolean⟩ := by decide +kernel
theorem ef0 (m : MethodId) (p1 : Int32) : entryFrame m #[(.int p1)] maxLocals = mkF m 0 #[.val (.int p1), .unset, .unset, .unset] [] := by first | (simp [entryFrame, mkF, argsToLocals, Value.category, maxLocals]; done) | rfl
def Q0  (h0 : Heap) (n0 : Nat) (v : Option Value) (h : Heap) (L : List Loc) : Prop := v = some (.int (1 : Int32)) ∧ Fr n0 L
set_option maxRecDepth 65536 in
set_option maxHeartbeats 40000000 in
theorem rm0 (l : Launch) (Z : State) (a0 : Array Value) (hw : ∀ d ∈ tables_1, d.before a0 Z = true) (ws : List Jvm.Cond) (p1 : Int32) (w_CHECK w_UNIQUE w_PRIMARY_KEY w_EXCLUDE w_FOREIGN_KEY : Addr) (h0 : Heap) (n0 : Nat) (Z0 : n0 ≤ h0.size) (S_CHECK : Sta Z h0 "com/example/largo/largo/ConstraintDefinition$Kind" "CHECK" "Lcom/example/largo/largo/ConstraintDefinition$Kind;" (.ref w_CHECK)) (S_UNIQUE : Sta Z h0 "com/example/largo/largo/ConstraintDefinition$Kind" "UNIQUE" "Lcom/example/largo/largo/ConstraintDefinition$Kind;" (.ref w_UNIQUE)) (S_PRIMARY_KEY : Sta Z h0 "com/example/largo/largo/ConstraintDefinition$Kind" "PRIMARY_KEY" "Lcom/example/largo/largo/ConstraintDefinition$Kind;" (.ref w_PRIMARY_KEY)) (S_EXCLUDE : Sta Z h0 "com/example/largo/largo/ConstraintDefinition$Kind" "EXCLUDE" "Lcom/example/largo/largo/ConstraintDefinition$Kind;" (.ref w_EXCLUDE)) (S_FOREIGN_KEY : Sta Z h0 "com/example/largo/largo/ConstraintDefinition$Kind" "FOREIGN_KEY" "Lcom/example/largo/largo/ConstraintDefinition$Kind;" (.ref w_FOREIGN_KEY)) (E_CHECK : Exa Z h0 w_CHECK "com/example/largo/largo/ConstraintDefinition$Kind") (E_UNIQUE : Exa Z h0 w_UNIQUE "com/example/largo/largo/ConstraintDefinition$Kind") (E_PRIMARY_KEY : Exa Z h0 w_PRIMARY_KEY "com/example/largo/largo/ConstraintDefinition$Kind") (E_EXCLUDE : Exa Z h0 w_EXCLUDE "com/example/largo/largo/ConstraintDefinition$Kind") (E_FOREIGN_KEY : Exa Z h0 w_FOREIGN_KEY "com/example/largo/largo/ConstraintDefinition$Kind") (O_CHECK : Fld Z h0 w_CHECK "java/lang/Enum" "ordinal" "I" (.int (0 : Int32))) (O_UNIQUE : Fld Z h0 w_UNIQUE "java/lang/Enum" "ordinal" "I" (.int (1 : Int32))) (O_PRIMARY_KEY : Fld Z h0 w_PRIMARY_KEY "java/lang/Enum" "ordinal" "I" (.int (2 : Int32))) (O_EXCLUDE : Fld Z h0 w_EXCLUDE "java/lang/Enum" "ordinal" "I" (.int (3 : Int32))) (O_FOREIGN_KEY : Fld Z h0 w_FOREIGN_KEY "java/lang/Enum" "ordinal" "I" (.int (4 : Int32))) :
    MetFree l x (head1 (Jvm.Cond.code x code maxLocals ret :: ws) room_1) (fun as_ U => as_ = #[(.int p1)] ∧ Z.Warmed39 U.vm ∧ U.heap = h0) (fun _ _ _ _ _ => True) (fun _ U o U' => ∃ v L, o = .returned v ∧ Q0 h0 n0 v U'.heap L ∧ FrameEnd U o U' L room_1.cells room_1.slots) := by
  refine MetFree.of_bodySF (plainFor_of_name pn0) hisR ?_
  intro p e s m args below meth c s₁ Bd hml0 hP hK
  obtain ⟨rfl, hZ, hh⟩ := hP
  have hx := Bd.exec
  have hby := Bd.bytes
  have hml : c.maxLocals = 4 := hml0
  have hown : s.vm.findClass "com/example/largo/largo/KindIsKeptByIndexPinLaw" = some m.cls := findClass_of_methodNamed Bd.named
  have X0 : Stand p l e room_1 s m #[(.int p1)] below meth c s₁ [] 0 0 := Stand.of_body Bd
  have e0 : s₁.heap = h0 := by rw [← hh, Bd.state]; rfl
  have N0 := Fr.nil n0
  have pre0 : ∀ t, Steps p.tables e below (s₁.setTop (mkF m 0 #[.val (.int p1), .unset, .unset, .unset] [])) t → Steps p.tables e below (s₁.setTop (entryFrame m #[(.int p1)] maxLocals)) t := fun t kk_ => castTop (ef0 m p1) kk_
  have n_CHECK_UNIQUE : ¬ w_CHECK = w_UNIQUE := Fld.ne O_CHECK O_UNIQUE (by decide)
  have n_CHECK_PRIMARY_KEY : ¬ w_CHECK = w_PRIMARY_KEY := Fld.ne O_CHECK O_PRIMARY_KEY (by decide)
  have n_CHECK_EXCLUDE : ¬ w_CHECK = w_EXCLUDE := Fld.ne O_CHECK O_EXCLUDE (by decide)
  have n_UNIQUE_PRIMARY_KEY : ¬ w_UNIQUE = w_PRIMARY_KEY := Fld.ne O_UNIQUE O_PRIMARY_KEY (by decide)
  have n_UNIQUE_EXCLUDE : ¬ w_UNIQUE = w_EXCLUDE := Fld.ne O_UNIQUE O_EXCLUDE (by decide)
  have n_PRIMARY_KEY_UNIQUE : ¬ w_PRIMARY_KEY = w_UNIQUE := Fld.ne O_PRIMARY_KEY O_UNIQUE (by decide)
  have n_PRIMARY_KEY_EXCLUDE : ¬ w_PRIMARY_KEY = w_EXCLUDE := Fld.ne O_PRIMARY_KEY O_EXCLUDE (by decide)
  have n_EXCLUDE_UNIQUE : ¬ w_EXCLUDE = w_UNIQUE := Fld.ne O_EXCLUDE O_UNIQUE (by decide)
  have n_EXCLUDE_PRIMARY_KEY : ¬ w_EXCLUDE = w_PRIMARY_KEY := Fld.ne O_EXCLUDE O_PRIMARY_KEY (by decide)
  have n_FOREIGN_KEY_UNIQUE : ¬ w_FOREIGN_KEY = w_UNIQUE := Fld.ne O_FOREIGN_KEY O_UNIQUE (by decide)
  have n_FOREIGN_KEY_PRIMARY_KEY : ¬ w_FOREIGN_KEY = w_PRIMARY_KEY := Fld.ne O_FOREIGN_KEY O_PRIMARY_KEY (by decide)
  have n_FOREIGN_KEY_EXCLUDE : ¬ w_FOREIGN_KEY = w_EXCLUDE := Fld.ne O_FOREIGN_KEY O_EXCLUDE (by decide)
  have pre1 : ∀ t, Steps p.tables e below (s₁.setTop (mkF m 8 #[.val (.int p1), .val (.int ((p1 &&& (2147483647 : Int32)) % (5 : Int32))), .unset, .unset] [(.int ((p1 &&& (2147483647 : Int32)) % (5 : Int32)))])) t → Steps p.tables e below (s₁.setTop (entryFrame m #[(.int p1)] maxLocals)) t := fun t kt => by
    refine pre0 t ?_
    show Steps p.tables e below (s₁.setTop (mkF m 0 #[.val (.int p1), .unset, .unset, .unset] [])) _
    refine XS.iloadN X0.here hx rfl (hb hby at_0) rfl ?_
    show Steps p.tables e below (s₁.setTop (mkF m 1 #[.val (.int p1), .unset, .unset, .unset] [(.int p1)])) _
    refine X0.ldcI hx hown (mvT hZ (hw _ (List.mem_of_getElem? (i := 0) rfl))) (g := (mkF m 1 #[.val (.int p1), .unset, .unset, .unset] [(.int p1)])) rfl (hb hby at_1) ?_
    show Steps p.tables e below (s₁.setTop (mkF m 3 #[.val (.int p1), .unset, .unset, .unset] [(.int (2147483647 : Int32)), (.int p1)])) _
    refine XS.iand X0.here hx rfl (hb hby at_3) rfl ?_
    show Steps p.tables e below (s₁.setTop (mkF m 4 #[.val (.int p1), .unset, .unset, .unset] [(.int (p1 &&& (2147483647 : Int32)))])) _
    refine XS.iconst X0.here hx rfl (hb hby at_4) ?_
    show Steps p.tables e below (s₁.setTop (mkF m 5 #[.val (.int p1), .unset, .unset, .unset] [(.int (5 : Int32)), (.int (p1 &&& (2147483647 : Int32)))])) _
    refine iremM (g := (mkF m 5 #[.val (.int p1), .unset, .unset, .unset] [(.int (5 : Int32)), (.int (p1 &&& (2147483647 : Int32)))])) X0 hx rfl (hb hby at_5) rfl (by decide) ?_
    show Steps p.tables e below (s₁.setTop (mkF m 6 #[.val (.int p1), .unset, .unset, .unset] [(.int ((p1 &&& (2147483647 : Int32)) % (5 : Int32)))])) _
    refine XS.istoreN X0.here hx rfl (hb hby at_6) rfl (l' := #[.val (.int p1), .val (.int ((p1 &&& (2147483647 : Int32)) % (5 : Int32))), .unset, .unset]) rfl ?_
    show Steps p.tables e below (s₁.setTop (mkF m 7 #[.val (.int p1), .val (.int ((p1 &&& (2147483647 : Int32)) % (5 : Int32))), .unset, .unset] [])) _
    refine XS.iloadN X0.here hx rfl (hb hby at_7) rfl ?_
    exact kt
  by_cases hc8_2 : ((p1 &&& (2147483647 : Int32)) % (5 : Int32)) = (0 : Int32)
  · obtain ⟨T3, X3, e3, st3⟩ := getS2 X0 hx hZ hown (host := "") (Or.inl (hw _ (List.mem_of_getElem? (i := 1) rfl))) Via.refl e0 S_CHECK (g := (mkF m 11 #[.val (.int p1), .val (.int ((p1 &&& (2147483647 : Int32)) % (5 : Int32))), .unset, .unset] [])) rfl (hb hby at_11)
    obtain ⟨cq4, kq4, q4a, q4b, q4c⟩ := isOf hZ e3 E_CHECK
    obtain ⟨_, _, ⟨T4, L4, k4, n4⟩, -, X4, ⟨Lc4, hQ4, l4, y4, z4⟩, st4⟩ := X3.virtualBack hx (y := (⟨"com/example/largo/largo/ConstraintDefinition$Kind", "isKeptByIndex", "()Z"⟩ : MethodName)) (z := (⟨"com/example/largo/largo/ConstraintDefinition$Kind", "isKeptByIndex", "()Z"⟩ : MethodName)) hown (mvT hZ (hw _ (List.mem_of_getElem? (i := 4) rfl))) (mvT hZ (hw _ (List.mem_of_getElem? (i := 5) rfl))) (notFace_of_selects (args := #[]) (mvT hZ (hw _ (List.mem_of_getElem? (i := 7) rfl)))) (mvT hZ (hw _ (List.mem_of_getElem? (i := 7) rfl))) (mvT hZ (hw _ (List.mem_of_getElem? (i := 6) rfl))) (by decide) (backOf (W := 0) (rmK l Z a0 hw [] w_CHECK w_UNIQUE w_PRIMARY_KEY w_EXCLUDE h0 n0 Z0 S_UNIQUE S_PRIMARY_KEY S_EXCLUDE) hZ (hw _ (List.mem_of_getElem? (i := 8) rfl)) (hw _ (List.mem_of_getElem? (i := 2) rfl)) (by decide) (by decide)) q4a q4c (g := (mkF m 69 #[.val (.int p1), .val (.int ((p1 &&& (2147483647 : Int32)) % (5 : Int32))), .val (.ref w_CHECK), .val (.int (0 : Int32))] [(.ref w_CHECK)])) rfl (by rw [hml]; rfl) (Steps.refl _) (argsL := []) (rest := []) (lenOf pd0_0 rfl) rfl (by show 2 * 0 + _ ≤ _; exact Nat.le_of_eq rfl) (hb hby at_69) (fun _ _ => ⟨rfl, e3, (by decide : 0 + 0 ≤ _), (by decide : 0 + 0 ≤ _)⟩)
    dsimp only [Pt.U, Pt.locs, Pt.cells, Pt.slots] at X4 l4 y4 z4 st4 hQ4
    subst l4 y4 z4
    obtain ⟨rfl, N4q, eh4⟩ := hQ4
    have N4 := Fr.app N0 N4q
    obtain ⟨fs, hr, hrun, hended, hW, hsame⟩ := X4.leave (v := some (.int (1 : Int32))) (fun h => by rw [Bd.returns] at h; cases h)
    refine ⟨_, _, pre1 _ ?_, hrun, hended, _, _, rfl, ?_, ⟨_, rfl⟩, hW, hsame.mono (by decide) (by decide)⟩
    · show Steps p.tables e below (s₁.setTop (mkF m 8 #[.val (.int p1), .val (.int ((p1 &&& (2147483647 : Int32)) % (5 : Int32))), .unset, .unset] [(.int ((p1 &&& (2147483647 : Int32)) % (5 : Int32)))])) _
      refine XS.ifNo X0.here hx rfl (hb hby at_8) rfl ((if0 _ _).trans (teq hc8_2).2) ?_
      show Steps p.tables e below (s₁.setTop (mkF m 11 #[.val (.int p1), .val (.int ((p1 &&& (2147483647 : Int32)) % (5 : Int32))), .unset, .unset] [])) _
      refine st3 _ ?_
      show Steps p.tables e below (T3.setTop (mkF m 14 #[.val (.int p1), .val (.int ((p1 &&& (2147483647 : Int32)) % (5 : Int32))), .unset, .unset] [(.ref w_CHECK)])) _
      refine XS.astoreN X3.here hx rfl (hb hby at_14) rfl rfl (l' := #[.val (.int p1), .val (.int ((p1 &&& (2147483647 : Int32)) % (5 : Int32))), .val (.ref w_CHECK), .unset]) rfl ?_
      show Steps p.tables e below (T3.setTop (mkF m 15 #[.val (.int p1), .val (.int ((p1 &&& (2147483647 : Int32)) % (5 : Int32))), .val (.ref w_CHECK), .unset] [])) _
      refine XS.iconst X3.here hx rfl (hb hby at_15) ?_
      show Steps p.tables e below (T3.setTop (mkF m 16 #[.val (.int p1), .val (.int ((p1 &&& (2147483647 : Int32)) % (5 : Int32))), .val (.ref w_CHECK), .unset] [(.int (0 : Int32))])) _
      refine XS.istoreN X3.here hx rfl (hb hby at_16) rfl (l' := #[.val (.int p1), .val (.int ((p1 &&& (2147483647 : Int32)) % (5 : Int32))), .val (.ref w_CHECK), .val (.int (0 : Int32))]) rfl ?_
      show Steps p.tables e below (T3.setTop (mkF m 17 #[.val (.int p1), .val (.int ((p1 &&& (2147483647 : Int32)) % (5 : Int32))), .val (.ref w_CHECK), .val (.int (0 : Int32))] [])) _
      refine XS.goto X3.here hx rfl (pc0 := 17) (pc' := 68) rfl (hb hby at_17) (by decide) (by decide) ?_
      show Steps p.tables e below (T3.setTop (mkF m 68 #[.val (.int p1), .val (.int ((p1 &&& (2147483647 : Int32)) % (5 : Int32))), .val (.ref w_CHECK), .val (.int (0 : Int32))] [])) _
      refine XS.aloadN X3.here hx rfl (hb hby at_68) rfl rfl ?_
      show Steps p.tables e below (T3.setTop (mkF m 69 #[.val (.int p1), .val (.int ((p1 &&& (2147483647 : Int32)) % (5 : Int32))), .val (.ref w_CHECK), .val (.int (0 : Int32))] [(.ref w_CHECK)])) _
      refine st4.trans ?_
      show Steps p.tables e below (T4.setTop (mkF m 72 #[.val (.int p1), .val (.int ((p1 &&& (2147483647 : Int32)) % (5 : Int32))), .val (.ref w_CHECK), .val (.int (0 : Int32))] [(.int (own_kept w_CHECK w_UNIQUE w_PRIMARY_KEY w_EXCLUDE))])) _
      refine XS.iloadN X4.here hx rfl (hb hby at_72) rfl ?_
      show Steps p.tables e below (T4.setTop (mkF m 73 #[.val (.int p1), .val (.int ((p1 &&& (2147483647 : Int32)) % (5 : Int32))), .val (.ref w_CHECK), .val (.int (0 : Int32))] [(.int (0 : Int32)), (.int (own_kept w_CHECK w_UNIQUE w_PRIMARY_KEY w_EXCLUDE))])) _
      refine XS.icmpNo X4.here hx rfl (hb hby at_73) rfl (teq (by simp [own_kept, n_CHECK_UNIQUE, n_CHECK_PRIMARY_KEY, n_CHECK_EXCLUDE] : (own_kept w_CHECK w_UNIQUE w_PRIMARY_KEY w_EXCLUDE) = (0 : Int32))).2 ?_
      show Steps p.tables e below (T4.setTop (mkF m 76 #[.val (.int p1), .val (.int ((p1 &&& (2147483647 : Int32)) % (5 : Int32))), .val (.ref w_CHECK), .val (.int (0 : Int32))] [])) _
      refine XS.iconst X4.here hx rfl (hb hby at_76) ?_
      show Steps p.tables e below (T4.setTop (mkF m 77 #[.val (.int p1), .val (.int ((p1 &&& (2147483647 : Int32)) % (5 : Int32))), .val (.ref w_CHECK), .val (.int (0 : Int32))] [(.int (1 : Int32))])) _
      refine XS.goto X4.here hx rfl (pc0 := 77) (pc' := 81) rfl (hb hby at_77) (by decide) (by decide) ?_
      show Steps p.tables e below (T4.setTop (mkF m 81 #[.val (.int p1), .val (.int ((p1 &&& (2147483647 : Int32)) % (5 : Int32))), .val (.ref w_CHECK), .val (.int (0 : Int32))] [(.int (1 : Int32))])) _
      exact retN X4 hx (t := .boolean) Bd.returns (by simp) (hb hby at_81) hr
    · show Q0 h0 n0 _ T4.heap _
      rw [eh4]
      exact ⟨rfl, N4⟩
  · have pre5 : ∀ t, Steps p.tables e below (s₁.setTop (mkF m 22 #[.val (.int p1), .val (.int ((p1 &&& (2147483647 : Int32)) % (5 : Int32))), .unset, .unset] [(.int (1 : Int32)), (.int ((p1 &&& (2147483647 : Int32)) % (5 : Int32)))])) t → Steps p.tables e below (s₁.setTop (entryFrame m #[(.int p1)] maxLocals)) t := fun t kt => by
      refine pre1 t ?_
      show Steps p.tables e below (s₁.setTop (mkF m 8 #[.val (.int p1), .val (.int ((p1 &&& (2147483647 : Int32)) % (5 : Int32))), .unset, .unset] [(.int ((p1 &&& (2147483647 : Int32)) % (5 : Int32)))])) _
      refine XS.ifYes X0.here hx rfl (pc0 := 8) (pc' := 20) rfl (hb hby at_8) rfl ((if0 _ _).trans (feq hc8_2).2) (by decide) (by decide) ?_
      show Steps p.tables e below (s₁.setTop (mkF m 20 #[.val (.int p1), .val (.int ((p1 &&& (2147483647 : Int32)) % (5 : Int32))), .unset, .unset] [])) _
      refine XS.iloadN X0.here hx rfl (hb hby at_20) rfl ?_
      show Steps p.tables e below (s₁.setTop (mkF m 21 #[.val (.int p1), .val (.int ((p1 &&& (2147483647 : Int32)) % (5 : Int32))), .unset, .unset] [(.int ((p1 &&& (2147483647 : Int32)) % (5 : Int32)))])) _
      refine XS.iconst X0.here hx rfl (hb hby at_21) ?_
      exact kt
    by_cases hc22_6 : ((p1 &&& (2147483647 : Int32)) % (5 : Int32)) = (1 : Int32)
    · obtain ⟨T7, X7, e7, st7⟩ := getS2 X0 hx hZ hown (host := "") (Or.inl (hw _ (List.mem_of_getElem? (i := 16) rfl))) Via.refl e0 S_UNIQUE (g := (mkF m 25 #[.val (.int p1), .val (.int ((p1 &&& (2147483647 : Int32)) % (5 : Int32))), .unset, .unset] [])) rfl (hb hby at_25)
      obtain ⟨cq8, kq8, q8a, q8b, q8c⟩ := isOf hZ e7 E_UNIQUE
      obtain ⟨_, _, ⟨T8, L8, k8, n8⟩, -, X8, ⟨Lc8, hQ8, l8, y8, z8⟩, st8⟩ := X7.virtualBack hx (y := (⟨"com/example/largo/largo/ConstraintDefinition$Kind", "isKeptByIndex", "()Z"⟩ : MethodName)) (z := (⟨"com/example/largo/largo/ConstraintDefinition$Kind", "isKeptByIndex", "()Z"⟩ : MethodName)) hown (mvT hZ (hw _ (List.mem_of_getElem? (i := 4) rfl))) (mvT hZ (hw _ (List.mem_of_getElem? (i := 5) rfl))) (notFace_of_selects (args := #[]) (mvT hZ (hw _ (List.mem_of_getElem? (i := 7) rfl)))) (mvT hZ (hw _ (List.mem_of_getElem? (i := 7) rfl))) (mvT hZ (hw _ (List.mem_of_getElem? (i := 6) rfl))) (by decide) (backOf (W := 0) (rmK l Z a0 hw [] w_UNIQUE w_UNIQUE w_PRIMARY_KEY w_EXCLUDE h0 n0 Z0 S_UNIQUE S_PRIMARY_KEY S_EXCLUDE) hZ (hw _ (List.mem_of_getElem? (i := 8) rfl)) (hw _ (List.mem_of_getElem? (i := 2) rfl)) (by decide) (by decide)) q8a q8c (g := (mkF m 69 #[.val (.int p1), .val (.int ((p1 &&& (2147483647 : Int32)) % (5 : Int32))), .val (.ref w_UNIQUE), .val (.int (1 : Int32))] [(.ref w_UNIQUE)])) rfl (by rw [hml]; rfl) (Steps.refl _) (argsL := []) (rest := []) (lenOf pd0_0 rfl) rfl (by show 2 * 0 + _ ≤ _; exact Nat.le_of_eq rfl) (hb hby at_69) (fun _ _ => ⟨rfl, e7, (by decide : 0 + 0 ≤ _), (by decide : 0 + 0 ≤ _)⟩)
      dsimp only [Pt.U, Pt.locs, Pt.cells, Pt.slots] at X8 l8 y8 z8 st8 hQ8
      subst l8 y8 z8
      obtain ⟨rfl, N8q, eh8⟩ := hQ8
      have N8 := Fr.app N0 N8q
      obtain ⟨fs, hr, hrun, hended, hW, hsame⟩ := X8.leave (v := some (.int (1 : Int32))) (fun h => by rw [Bd.returns] at h; cases h)
      refine ⟨_, _, pre5 _ ?_, hrun, hended, _, _, rfl, ?_, ⟨_, rfl⟩, hW, hsame.mono (by decide) (by decide)⟩
      · show Steps p.tables e below (s₁.setTop (mkF m 22 #[.val (.int p1), .val (.int ((p1 &&& (2147483647 : Int32)) % (5 : Int32))), .unset, .unset] [(.int (1 : Int32)), (.int ((p1 &&& (2147483647 : Int32)) % (5 : Int32)))])) _
        refine XS.icmpNo X0.here hx rfl (hb hby at_22) rfl (teq hc22_6).2 ?_
        show Steps p.tables e below (s₁.setTop (mkF m 25 #[.val (.int p1), .val (.int ((p1 &&& (2147483647 : Int32)) % (5 : Int32))), .unset, .unset] [])) _
        refine st7 _ ?_
        show Steps p.tables e below (T7.setTop (mkF m 28 #[.val (.int p1), .val (.int ((p1 &&& (2147483647 : Int32)) % (5 : Int32))), .unset, .unset] [(.ref w_UNIQUE)])) _
        refine XS.astoreN X7.here hx rfl (hb hby at_28) rfl rfl (l' := #[.val (.int p1), .val (.int ((p1 &&& (2147483647 : Int32)) % (5 : Int32))), .val (.ref w_UNIQUE), .unset]) rfl ?_
        show Steps p.tables e below (T7.setTop (mkF m 29 #[.val (.int p1), .val (.int ((p1 &&& (2147483647 : Int32)) % (5 : Int32))), .val (.ref w_UNIQUE), .unset] [])) _
        refine XS.iconst X7.here hx rfl (hb hby at_29) ?_
        show Steps p.tables e below (T7.setTop (mkF m 30 #[.val (.int p1), .val (.int ((p1 &&& (2147483647 : Int32)) % (5 : Int32))), .val (.ref w_UNIQUE), .unset] [(.int (1 : Int32))])) _
        refine XS.istoreN X7.here hx rfl (hb hby at_30) rfl (l' := #[.val (.int p1), .val (.int ((p1 &&& (2147483647 : Int32)) % (5 : Int32))), .val (.ref w_UNIQUE), .val (.int (1 : Int32))]) rfl ?_
        show Steps p.tables e below (T7.setTop (mkF m 31 #[.val (.int p1), .val (.int ((p1 &&& (2147483647 : Int32)) % (5 : Int32))), .val (.ref w_UNIQUE), .val (.int (1 : Int32))] [])) _
        refine XS.goto X7.here hx rfl (pc0 := 31) (pc' := 68) rfl (hb hby at_31) (by decide) (by decide) ?_
        show Steps p.tables e below (T7.setTop (mkF m 68 #[.val (.int p1), .val (.int ((p1 &&& (2147483647 : Int32)) % (5 : Int32))), .val (.ref w_UNIQUE), .val (.int (1 : Int32))] [])) _
        refine XS.aloadN X7.here hx rfl (hb hby at_68) rfl rfl ?_
        show Steps p.tables e below (T7.setTop (mkF m 69 #[.val (.int p1), .val (.int ((p1 &&& (2147483647 : Int32)) % (5 : Int32))), .val (.ref w_UNIQUE), .val (.int (1 : Int32))] [(.ref w_UNIQUE)])) _
        refine st8.trans ?_
        show Steps p.tables e below (T8.setTop (mkF m 72 #[.val (.int p1), .val (.int ((p1 &&& (2147483647 : Int32)) % (5 : Int32))), .val (.ref w_UNIQUE), .val (.int (1 : Int32))] [(.int (own_kept w_UNIQUE w_UNIQUE w_PRIMARY_KEY w_EXCLUDE))])) _
        refine XS.iloadN X8.here hx rfl (hb hby at_72) rfl ?_
        show Steps p.tables e below (T8.setTop (mkF m 73 #[.val (.int p1), .val (.int ((p1 &&& (2147483647 : Int32)) % (5 : Int32))), .val (.ref w_UNIQUE), .val (.int (1 : Int32))] [(.int (1 : Int32)), (.int (own_kept w_UNIQUE w_UNIQUE w_PRIMARY_KEY w_EXCLUDE))])) _
        refine XS.icmpNo X8.here hx rfl (hb hby at_73) rfl (teq (by simp [own_kept, n_UNIQUE_PRIMARY_KEY, n_UNIQUE_EXCLUDE] : (own_kept w_UNIQUE w_UNIQUE w_PRIMARY_KEY w_EXCLUDE) = (1 : Int32))).2 ?_
        show Steps p.tables e below (T8.setTop (mkF m 76 #[.val (.int p1), .val (.int ((p1 &&& (2147483647 : Int32)) % (5 : Int32))), .val (.ref w_UNIQUE), .val (.int (1 : Int32))] [])) _
        refine XS.iconst X8.here hx rfl (hb hby at_76) ?_
        show Steps p.tables e below (T8.setTop (mkF m 77 #[.val (.int p1), .val (.int ((p1 &&& (2147483647 : Int32)) % (5 : Int32))), .val (.ref w_UNIQUE), .val (.int (1 : Int32))] [(.int (1 : Int32))])) _
        refine XS.goto X8.here hx rfl (pc0 := 77) (pc' := 81) rfl (hb hby at_77) (by decide) (by decide) ?_
        show Steps p.tables e below (T8.setTop (mkF m 81 #[.val (.int p1), .val (.int ((p1 &&& (2147483647 : Int32)) % (5 : Int32))), .val (.ref w_UNIQUE), .val (.int (1 : Int32))] [(.int (1 : Int32))])) _
        exact retN X8 hx (t := .boolean) Bd.returns (by simp) (hb hby at_81) hr
      · show Q0 h0 n0 _ T8.heap _
        rw [eh8]
        exact ⟨rfl, N8⟩
    · have pre9 : ∀ t, Steps p.tables e below (s₁.setTop (mkF m 36 #[.val (.int p1), .val (.int ((p1 &&& (2147483647 : Int32)) % (5 : Int32))), .unset, .unset] [(.int (2 : Int32)), (.int ((p1 &&& (2147483647 : Int32)) % (5 : Int32)))])) t → Steps p.tables e below (s₁.setTop (entryFrame m #[(.int p1)] maxLocals)) t := fun t kt => by
        refine pre5 t ?_
        show Steps p.tables e below (s₁.setTop (mkF m 22 #[.val (.int p1), .val (.int ((p1 &&& (2147483647 : Int32)) % (5 : Int32))), .unset, .unset] [(.int (1 : Int32)), (.int ((p1 &&& (2147483647 : Int32)) % (5 : Int32)))])) _
        refine XS.icmpYes X0.here hx rfl (pc0 := 22) (pc' := 34) rfl (hb hby at_22) rfl (feq hc22_6).2 (by decide) (by decide) ?_
        show Steps p.tables e below (s₁.setTop (mkF m 34 #[.val (.int p1), .val (.int ((p1 &&& (2147483647 : Int32)) % (5 : Int32))), .unset, .unset] [])) _
        refine XS.iloadN X0.here hx rfl (hb hby at_34) rfl ?_
        show Steps p.tables e below (s₁.setTop (mkF m 35 #[.val (.int p1), .val (.int ((p1 &&& (2147483647 : Int32)) % (5 : Int32))), .unset, .unset] [(.int ((p1 &&& (2147483647 : Int32)) % (5 : Int32)))])) _
        refine XS.iconst X0.here hx rfl (hb hby at_35) ?_
        exact kt
      by_cases hc36_10 : ((p1 &&& (2147483647 : Int32)) % (5 : Int32)) = (2 : Int32)
      · obtain ⟨T11, X11, e11, st11⟩ := getS2 X0 hx hZ hown (host := "") (Or.inl (hw _ (List.mem_of_getElem? (i := 19) rfl))) Via.refl e0 S_PRIMARY_KEY (g := (mkF m 39 #[.val (.int p1), .val (.int ((p1 &&& (2147483647 : Int32)) % (5 : Int32))), .unset, .unset] [])) rfl (hb hby at_39)
        obtain ⟨cq12, kq12, q12a, q12b, q12c⟩ := isOf hZ e11 E_PRIMARY_KEY
        obtain ⟨_, _, ⟨T12, L12, k12, n12⟩, -, X12, ⟨Lc12, hQ12, l12, y12, z12⟩, st12⟩ := X11.virtualBack hx (y := (⟨"com/example/largo/largo/ConstraintDefinition$Kind", "isKeptByIndex", "()Z"⟩ : MethodName)) (z := (⟨"com/example/largo/largo/ConstraintDefinition$Kind", "isKeptByIndex", "()Z"⟩ : MethodName)) hown (mvT hZ (hw _ (List.mem_of_getElem? (i := 4) rfl))) (mvT hZ (hw _ (List.mem_of_getElem? (i := 5) rfl))) (notFace_of_selects (args := #[]) (mvT hZ (hw _ (List.mem_of_getElem? (i := 7) rfl)))) (mvT hZ (hw _ (List.mem_of_getElem? (i := 7) rfl))) (mvT hZ (hw _ (List.mem_of_getElem? (i := 6) rfl))) (by decide) (backOf (W := 0) (rmK l Z a0 hw [] w_PRIMARY_KEY w_UNIQUE w_PRIMARY_KEY w_EXCLUDE h0 n0 Z0 S_UNIQUE S_PRIMARY_KEY S_EXCLUDE) hZ (hw _ (List.mem_of_getElem? (i := 8) rfl)) (hw _ (List.mem_of_getElem? (i := 2) rfl)) (by decide) (by decide)) q12a q12c (g := (mkF m 69 #[.val (.int p1), .val (.int ((p1 &&& (2147483647 : Int32)) % (5 : Int32))), .val (.ref w_PRIMARY_KEY), .val (.int (1 : Int32))] [(.ref w_PRIMARY_KEY)])) rfl (by rw [hml]; rfl) (Steps.refl _) (argsL := []) (rest := []) (lenOf pd0_0 rfl) rfl (by show 2 * 0 + _ ≤ _; exact Nat.le_of_eq rfl) (hb hby at_69) (fun _ _ => ⟨rfl, e11, (by decide : 0 + 0 ≤ _), (by decide : 0 + 0 ≤ _)⟩)
        dsimp only [Pt.U, Pt.locs, Pt.cells, Pt.slots] at X12 l12 y12 z12 st12 hQ12
        subst l12 y12 z12
        obtain ⟨rfl, N12q, eh12⟩ := hQ12
        have N12 := Fr.app N0 N12q
        obtain ⟨fs, hr, hrun, hended, hW, hsame⟩ := X12.leave (v := some (.int (1 : Int32))) (fun h => by rw [Bd.returns] at h; cases h)
        refine ⟨_, _, pre9 _ ?_, hrun, hended, _, _, rfl, ?_, ⟨_, rfl⟩, hW, hsame.mono (by decide) (by decide)⟩
        · show Steps p.tables e below (s₁.setTop (mkF m 36 #[.val (.int p1), .val (.int ((p1 &&& (2147483647 : Int32)) % (5 : Int32))), .unset, .unset] [(.int (2 : Int32)), (.int ((p1 &&& (2147483647 : Int32)) % (5 : Int32)))])) _
          refine XS.icmpNo X0.here hx rfl (hb hby at_36) rfl (teq hc36_10).2 ?_
          show Steps p.tables e below (s₁.setTop (mkF m 39 #[.val (.int p1), .val (.int ((p1 &&& (2147483647 : Int32)) % (5 : Int32))), .unset, .unset] [])) _
          refine st11 _ ?_
          show Steps p.tables e below (T11.setTop (mkF m 42 #[.val (.int p1), .val (.int ((p1 &&& (2147483647 : Int32)) % (5 : Int32))), .unset, .unset] [(.ref w_PRIMARY_KEY)])) _
          refine XS.astoreN X11.here hx rfl (hb hby at_42) rfl rfl (l' := #[.val (.int p1), .val (.int ((p1 &&& (2147483647 : Int32)) % (5 : Int32))), .val (.ref w_PRIMARY_KEY), .unset]) rfl ?_
          show Steps p.tables e below (T11.setTop (mkF m 43 #[.val (.int p1), .val (.int ((p1 &&& (2147483647 : Int32)) % (5 : Int32))), .val (.ref w_PRIMARY_KEY), .unset] [])) _
          refine XS.iconst X11.here hx rfl (hb hby at_43) ?_
          show Steps p.tables e below (T11.setTop (mkF m 44 #[.val (.int p1), .val (.int ((p1 &&& (2147483647 : Int32)) % (5 : Int32))), .val (.ref w_PRIMARY_KEY), .unset] [(.int (1 : Int32))])) _
          refine XS.istoreN X11.here hx rfl (hb hby at_44) rfl (l' := #[.val (.int p1), .val (.int ((p1 &&& (2147483647 : Int32)) % (5 : Int32))), .val (.ref w_PRIMARY_KEY), .val (.int (1 : Int32))]) rfl ?_
          show Steps p.tables e below (T11.setTop (mkF m 45 #[.val (.int p1), .val (.int ((p1 &&& (2147483647 : Int32)) % (5 : Int32))), .val (.ref w_PRIMARY_KEY), .val (.int (1 : Int32))] [])) _
          refine XS.goto X11.here hx rfl (pc0 := 45) (pc' := 68) rfl (hb hby at_45) (by decide) (by decide) ?_
          show Steps p.tables e below (T11.setTop (mkF m 68 #[.val (.int p1), .val (.int ((p1 &&& (2147483647 : Int32)) % (5 : Int32))), .val (.ref w_PRIMARY_KEY), .val (.int (1 : Int32))] [])) _
          refine XS.aloadN X11.here hx rfl (hb hby at_68) rfl rfl ?_
          show Steps p.tables e below (T11.setTop (mkF m 69 #[.val (.int p1), .val (.int ((p1 &&& (2147483647 : Int32)) % (5 : Int32))), .val (.ref w_PRIMARY_KEY), .val (.int (1 : Int32))] [(.ref w_PRIMARY_KEY)])) _
          refine st12.trans ?_
          show Steps p.tables e below (T12.setTop (mkF m 72 #[.val (.int p1), .val (.int ((p1 &&& (2147483647 : Int32)) % (5 : Int32))), .val (.ref w_PRIMARY_KEY), .val (.int (1 : Int32))] [(.int (own_kept w_PRIMARY_KEY w_UNIQUE w_PRIMARY_KEY w_EXCLUDE))])) _
          refine XS.iloadN X12.here hx rfl (hb hby at_72) rfl ?_
          show Steps p.tables e below (T12.setTop (mkF m 73 #[.val (.int p1), .val (.int ((p1 &&& (2147483647 : Int32)) % (5 : Int32))), .val (.ref w_PRIMARY_KEY), .val (.int (1 : Int32))] [(.int (1 : Int32)), (.int (own_kept w_PRIMARY_KEY w_UNIQUE w_PRIMARY_KEY w_EXCLUDE))])) _
          refine XS.icmpNo X12.here hx rfl (hb hby at_73) rfl (teq (by simp [own_kept, n_PRIMARY_KEY_UNIQUE, n_PRIMARY_KEY_EXCLUDE] : (own_kept w_PRIMARY_KEY w_UNIQUE w_PRIMARY_KEY w_EXCLUDE) = (1 : Int32))).2 ?_
          show Steps p.tables e below (T12.setTop (mkF m 76 #[.val (.int p1), .val (.int ((p1 &&& (2147483647 : Int32)) % (5 : Int32))), .val (.ref w_PRIMARY_KEY), .val (.int (1 : Int32))] [])) _
          refine XS.iconst X12.here hx rfl (hb hby at_76) ?_
          show Steps p.tables e below (T12.setTop (mkF m 77 #[.val (.int p1), .val (.int ((p1 &&& (2147483647 : Int32)) % (5 : Int32))), .val (.ref w_PRIMARY_KEY), .val (.int (1 : Int32))] [(.int (1 : Int32))])) _
          refine XS.goto X12.here hx rfl (pc0 := 77) (pc' := 81) rfl (hb hby at_77) (by decide) (by decide) ?_
          show Steps p.tables e below (T12.setTop (mkF m 81 #[.val (.int p1), .val (.int ((p1 &&& (2147483647 : Int32)) % (5 : Int32))), .val (.ref w_PRIMARY_KEY), .val (.int (1 : Int32))] [(.int (1 : Int32))])) _
          exact retN X12 hx (t := .boolean) Bd.returns (by simp) (hb hby at_81) hr
        · show Q0 h0 n0 _ T12.heap _
          rw [eh12]
          exact ⟨rfl, N12⟩
      · have pre13 : ∀ t, Steps p.tables e below (s₁.setTop (mkF m 50 #[.val (.int p1), .val (.int ((p1 &&& (2147483647 : Int32)) % (5 : Int32))), .unset, .unset] [(.int (3 : Int32)), (.int ((p1 &&& (2147483647 : Int32)) % (5 : Int32)))])) t → Steps p.tables e below (s₁.setTop (entryFrame m #[(.int p1)] maxLocals)) t := fun t kt => by
          refine pre9 t ?_
          show Steps p.tables e below (s₁.setTop (mkF m 36 #[.val (.int p1), .val (.int ((p1 &&& (2147483647 : Int32)) % (5 : Int32))), .unset, .unset] [(.int (2 : Int32)), (.int ((p1 &&& (2147483647 : Int32)) % (5 : Int32)))])) _
          refine XS.icmpYes X0.here hx rfl (pc0 := 36) (pc' := 48) rfl (hb hby at_36) rfl (feq hc36_10).2 (by decide) (by decide) ?_
          show Steps p.tables e below (s₁.setTop (mkF m 48 #[.val (.int p1), .val (.int ((p1 &&& (2147483647 : Int32)) % (5 : Int32))), .unset, .unset] [])) _
          refine XS.iloadN X0.here hx rfl (hb hby at_48) rfl ?_
          show Steps p.tables e below (s₁.setTop (mkF m 49 #[.val (.int p1), .val (.int ((p1 &&& (2147483647 : Int32)) % (5 : Int32))), .unset, .unset] [(.int ((p1 &&& (2147483647 : Int32)) % (5 : Int32)))])) _
          refine XS.iconst X0.here hx rfl (hb hby at_49) ?_
          exact kt
        by_cases hc50_14 : ((p1 &&& (2147483647 : Int32)) % (5 : Int32)) = (3 : Int32)
        · obtain ⟨T15, X15, e15, st15⟩ := getS2 X0 hx hZ hown (host := "") (Or.inl (hw _ (List.mem_of_getElem? (i := 15) rfl))) Via.refl e0 S_EXCLUDE (g := (mkF m 53 #[.val (.int p1), .val (.int ((p1 &&& (2147483647 : Int32)) % (5 : Int32))), .unset, .unset] [])) rfl (hb hby at_53)
          obtain ⟨cq16, kq16, q16a, q16b, q16c⟩ := isOf hZ e15 E_EXCLUDE
          obtain ⟨_, _, ⟨T16, L16, k16, n16⟩, -, X16, ⟨Lc16, hQ16, l16, y16, z16⟩, st16⟩ := X15.virtualBack hx (y := (⟨"com/example/largo/largo/ConstraintDefinition$Kind", "isKeptByIndex", "()Z"⟩ : MethodName)) (z := (⟨"com/example/largo/largo/ConstraintDefinition$Kind", "isKeptByIndex", "()Z"⟩ : MethodName)) hown (mvT hZ (hw _ (List.mem_of_getElem? (i := 4) rfl))) (mvT hZ (hw _ (List.mem_of_getElem? (i := 5) rfl))) (notFace_of_selects (args := #[]) (mvT hZ (hw _ (List.mem_of_getElem? (i := 7) rfl)))) (mvT hZ (hw _ (List.mem_of_getElem? (i := 7) rfl))) (mvT hZ (hw _ (List.mem_of_getElem? (i := 6) rfl))) (by decide) (backOf (W := 0) (rmK l Z a0 hw [] w_EXCLUDE w_UNIQUE w_PRIMARY_KEY w_EXCLUDE h0 n0 Z0 S_UNIQUE S_PRIMARY_KEY S_EXCLUDE) hZ (hw _ (List.mem_of_getElem? (i := 8) rfl)) (hw _ (List.mem_of_getElem? (i := 2) rfl)) (by decide) (by decide)) q16a q16c (g := (mkF m 69 #[.val (.int p1), .val (.int ((p1 &&& (2147483647 : Int32)) % (5 : Int32))), .val (.ref w_EXCLUDE), .val (.int (1 : Int32))] [(.ref w_EXCLUDE)])) rfl (by rw [hml]; rfl) (Steps.refl _) (argsL := []) (rest := []) (lenOf pd0_0 rfl) rfl (by show 2 * 0 + _ ≤ _; exact Nat.le_of_eq rfl) (hb hby at_69) (fun _ _ => ⟨rfl, e15, (by decide : 0 + 0 ≤ _), (by decide : 0 + 0 ≤ _)⟩)
          dsimp only [Pt.U, Pt.locs, Pt.cells, Pt.slots] at X16 l16 y16 z16 st16 hQ16
          subst l16 y16 z16
          obtain ⟨rfl, N16q, eh16⟩ := hQ16
          have N16 := Fr.app N0 N16q
          obtain ⟨fs, hr, hrun, hended, hW, hsame⟩ := X16.leave (v := some (.int (1 : Int32))) (fun h => by rw [Bd.returns] at h; cases h)
          refine ⟨_, _, pre13 _ ?_, hrun, hended, _, _, rfl, ?_, ⟨_, rfl⟩, hW, hsame.mono (by decide) (by decide)⟩
          · show Steps p.tables e below (s₁.setTop (mkF m 50 #[.val (.int p1), .val (.int ((p1 &&& (2147483647 : Int32)) % (5 : Int32))), .unset, .unset] [(.int (3 : Int32)), (.int ((p1 &&& (2147483647 : Int32)) % (5 : Int32)))])) _
            refine XS.icmpNo X0.here hx rfl (hb hby at_50) rfl (teq hc50_14).2 ?_
            show Steps p.tables e below (s₁.setTop (mkF m 53 #[.val (.int p1), .val (.int ((p1 &&& (2147483647 : Int32)) % (5 : Int32))), .unset, .unset] [])) _
            refine st15 _ ?_
            show Steps p.tables e below (T15.setTop (mkF m 56 #[.val (.int p1), .val (.int ((p1 &&& (2147483647 : Int32)) % (5 : Int32))), .unset, .unset] [(.ref w_EXCLUDE)])) _
            refine XS.astoreN X15.here hx rfl (hb hby at_56) rfl rfl (l' := #[.val (.int p1), .val (.int ((p1 &&& (2147483647 : Int32)) % (5 : Int32))), .val (.ref w_EXCLUDE), .unset]) rfl ?_
            show Steps p.tables e below (T15.setTop (mkF m 57 #[.val (.int p1), .val (.int ((p1 &&& (2147483647 : Int32)) % (5 : Int32))), .val (.ref w_EXCLUDE), .unset] [])) _
            refine XS.iconst X15.here hx rfl (hb hby at_57) ?_
            show Steps p.tables e below (T15.setTop (mkF m 58 #[.val (.int p1), .val (.int ((p1 &&& (2147483647 : Int32)) % (5 : Int32))), .val (.ref w_EXCLUDE), .unset] [(.int (1 : Int32))])) _
            refine XS.istoreN X15.here hx rfl (hb hby at_58) rfl (l' := #[.val (.int p1), .val (.int ((p1 &&& (2147483647 : Int32)) % (5 : Int32))), .val (.ref w_EXCLUDE), .val (.int (1 : Int32))]) rfl ?_
            show Steps p.tables e below (T15.setTop (mkF m 59 #[.val (.int p1), .val (.int ((p1 &&& (2147483647 : Int32)) % (5 : Int32))), .val (.ref w_EXCLUDE), .val (.int (1 : Int32))] [])) _
            refine XS.goto X15.here hx rfl (pc0 := 59) (pc' := 68) rfl (hb hby at_59) (by decide) (by decide) ?_
            show Steps p.tables e below (T15.setTop (mkF m 68 #[.val (.int p1), .val (.int ((p1 &&& (2147483647 : Int32)) % (5 : Int32))), .val (.ref w_EXCLUDE), .val (.int (1 : Int32))] [])) _
            refine XS.aloadN X15.here hx rfl (hb hby at_68) rfl rfl ?_
            show Steps p.tables e below (T15.setTop (mkF m 69 #[.val (.int p1), .val (.int ((p1 &&& (2147483647 : Int32)) % (5 : Int32))), .val (.ref w_EXCLUDE), .val (.int (1 : Int32))] [(.ref w_EXCLUDE)])) _
            refine st16.trans ?_
            show Steps p.tables e below (T16.setTop (mkF m 72 #[.val (.int p1), .val (.int ((p1 &&& (2147483647 : Int32)) % (5 : Int32))), .val (.ref w_EXCLUDE), .val (.int (1 : Int32))] [(.int (own_kept w_EXCLUDE w_UNIQUE w_PRIMARY_KEY w_EXCLUDE))])) _
            refine XS.iloadN X16.here hx rfl (hb hby at_72) rfl ?_
            show Steps p.tables e below (T16.setTop (mkF m 73 #[.val (.int p1), .val (.int ((p1 &&& (2147483647 : Int32)) % (5 : Int32))), .val (.ref w_EXCLUDE), .val (.int (1 : Int32))] [(.int (1 : Int32)), (.int (own_kept w_EXCLUDE w_UNIQUE w_PRIMARY_KEY w_EXCLUDE))])) _
            refine XS.icmpNo X16.here hx rfl (hb hby at_73) rfl (teq (by simp [own_kept, n_EXCLUDE_UNIQUE, n_EXCLUDE_PRIMARY_KEY] : (own_kept w_EXCLUDE w_UNIQUE w_PRIMARY_KEY w_EXCLUDE) = (1 : Int32))).2 ?_
            show Steps p.tables e below (T16.setTop (mkF m 76 #[.val (.int p1), .val (.int ((p1 &&& (2147483647 : Int32)) % (5 : Int32))), .val (.ref w_EXCLUDE), .val (.int (1 : Int32))] [])) _
            refine XS.iconst X16.here hx rfl (hb hby at_76) ?_
            show Steps p.tables e below (T16.setTop (mkF m 77 #[.val (.int p1), .val (.int ((p1 &&& (2147483647 : Int32)) % (5 : Int32))), .val (.ref w_EXCLUDE), .val (.int (1 : Int32))] [(.int (1 : Int32))])) _
            refine XS.goto X16.here hx rfl (pc0 := 77) (pc' := 81) rfl (hb hby at_77) (by decide) (by decide) ?_
            show Steps p.tables e below (T16.setTop (mkF m 81 #[.val (.int p1), .val (.int ((p1 &&& (2147483647 : Int32)) % (5 : Int32))), .val (.ref w_EXCLUDE), .val (.int (1 : Int32))] [(.int (1 : Int32))])) _
            exact retN X16 hx (t := .boolean) Bd.returns (by simp) (hb hby at_81) hr
          · show Q0 h0 n0 _ T16.heap _
            rw [eh16]
            exact ⟨rfl, N16⟩
        · obtain ⟨T17, X17, e17, st17⟩ := getS2 X0 hx hZ hown (host := "") (Or.inl (hw _ (List.mem_of_getElem? (i := 17) rfl))) Via.refl e0 S_FOREIGN_KEY (g := (mkF m 62 #[.val (.int p1), .val (.int ((p1 &&& (2147483647 : Int32)) % (5 : Int32))), .unset, .unset] [])) rfl (hb hby at_62)
          obtain ⟨cq18, kq18, q18a, q18b, q18c⟩ := isOf hZ e17 E_FOREIGN_KEY
          obtain ⟨_, _, ⟨T18, L18, k18, n18⟩, -, X18, ⟨Lc18, hQ18, l18, y18, z18⟩, st18⟩ := X17.virtualBack hx (y := (⟨"com/example/largo/largo/ConstraintDefinition$Kind", "isKeptByIndex", "()Z"⟩ : MethodName)) (z := (⟨"com/example/largo/largo/ConstraintDefinition$Kind", "isKeptByIndex", "()Z"⟩ : MethodName)) hown (mvT hZ (hw _ (List.mem_of_getElem? (i := 4) rfl))) (mvT hZ (hw _ (List.mem_of_getElem? (i := 5) rfl))) (notFace_of_selects (args := #[]) (mvT hZ (hw _ (List.mem_of_getElem? (i := 7) rfl)))) (mvT hZ (hw _ (List.mem_of_getElem? (i := 7) rfl))) (mvT hZ (hw _ (List.mem_of_getElem? (i := 6) rfl))) (by decide) (backOf (W := 0) (rmK l Z a0 hw [] w_FOREIGN_KEY w_UNIQUE w_PRIMARY_KEY w_EXCLUDE h0 n0 Z0 S_UNIQUE S_PRIMARY_KEY S_EXCLUDE) hZ (hw _ (List.mem_of_getElem? (i := 8) rfl)) (hw _ (List.mem_of_getElem? (i := 2) rfl)) (by decide) (by decide)) q18a q18c (g := (mkF m 69 #[.val (.int p1), .val (.int ((p1 &&& (2147483647 : Int32)) % (5 : Int32))), .val (.ref w_FOREIGN_KEY), .val (.int (0 : Int32))] [(.ref w_FOREIGN_KEY)])) rfl (by rw [hml]; rfl) (Steps.refl _) (argsL := []) (rest := []) (lenOf pd0_0 rfl) rfl (by show 2 * 0 + _ ≤ _; exact Nat.le_of_eq rfl) (hb hby at_69) (fun _ _ => ⟨rfl, e17, (by decide : 0 + 0 ≤ _), (by decide : 0 + 0 ≤ _)⟩)
          dsimp only [Pt.U, Pt.locs, Pt.cells, Pt.slots] at X18 l18 y18 z18 st18 hQ18
          subst l18 y18 z18
          obtain ⟨rfl, N18q, eh18⟩ := hQ18
          have N18 := Fr.app N0 N18q
          obtain ⟨fs, hr, hrun, hended, hW, hsame⟩ := X18.leave (v := some (.int (1 : Int32))) (fun h => by rw [Bd.returns] at h; cases h)
          refine ⟨_, _, pre13 _ ?_, hrun, hended, _, _, rfl, ?_, ⟨_, rfl⟩, hW, hsame.mono (by decide) (by decide)⟩
          · show Steps p.tables e below (s₁.setTop (mkF m 50 #[.val (.int p1), .val (.int ((p1 &&& (2147483647 : Int32)) % (5 : Int32))), .unset, .unset] [(.int (3 : Int32)), (.int ((p1 &&& (2147483647 : Int32)) % (5 : Int32)))])) _
            refine XS.icmpYes X0.here hx rfl (pc0 := 50) (pc' := 62) rfl (hb hby at_50) rfl (feq hc50_14).2 (by decide) (by decide) ?_
            show Steps p.tables e below (s₁.setTop (mkF m 62 #[.val (.int p1), .val (.int ((p1 &&& (2147483647 : Int32)) % (5 : Int32))), .unset, .unset] [])) _
            refine st17 _ ?_
            show Steps p.tables e below (T17.setTop (mkF m 65 #[.val (.int p1), .val (.int ((p1 &&& (2147483647 : Int32)) % (5 : Int32))), .unset, .unset] [(.ref w_FOREIGN_KEY)])) _
            refine XS.astoreN X17.here hx rfl (hb hby at_65) rfl rfl (l' := #[.val (.int p1), .val (.int ((p1 &&& (2147483647 : Int32)) % (5 : Int32))), .val (.ref w_FOREIGN_KEY), .unset]) rfl ?_
            show Steps p.tables e below (T17.setTop (mkF m 66 #[.val (.int p1), .val (.int ((p1 &&& (2147483647 : Int32)) % (5 : Int32))), .val (.ref w_FOREIGN_KEY), .unset] [])) _
            refine XS.iconst X17.here hx rfl (hb hby at_66) ?_
            show Steps p.tables e below (T17.setTop (mkF m 67 #[.val (.int p1), .val (.int ((p1 &&& (2147483647 : Int32)) % (5 : Int32))), .val (.ref w_FOREIGN_KEY), .unset] [(.int (0 : Int32))])) _
            refine XS.istoreN X17.here hx rfl (hb hby at_67) rfl (l' := #[.val (.int p1), .val (.int ((p1 &&& (2147483647 : Int32)) % (5 : Int32))), .val (.ref w_FOREIGN_KEY), .val (.int (0 : Int32))]) rfl ?_
            show Steps p.tables e below (T17.setTop (mkF m 68 #[.val (.int p1), .val (.int ((p1 &&& (2147483647 : Int32)) % (5 : Int32))), .val (.ref w_FOREIGN_KEY), .val (.int (0 : Int32))] [])) _
            refine XS.aloadN X17.here hx rfl (hb hby at_68) rfl rfl ?_
            show Steps p.tables e below (T17.setTop (mkF m 69 #[.val (.int p1), .val (.int ((p1 &&& (2147483647 : Int32)) % (5 : Int32))), .val (.ref w_FOREIGN_KEY), .val (.int (0 : Int32))] [(.ref w_FOREIGN_KEY)])) _
            refine st18.trans ?_
            show Steps p.tables e below (T18.setTop (mkF m 72 #[.val (.int p1), .val (.int ((p1 &&& (2147483647 : Int32)) % (5 : Int32))), .val (.ref w_FOREIGN_KEY), .val (.int (0 : Int32))] [(.int (own_kept w_FOREIGN_KEY w_UNIQUE w_PRIMARY_KEY w_EXCLUDE))])) _
            refine XS.iloadN X18.here hx rfl (hb hby at_72) rfl ?_
            show Steps p.tables e below (T18.setTop (mkF m 73 #[.val (.int p1), .val (.int ((p1 &&& (2147483647 : Int32)) % (5 : Int32))), .val (.ref w_FOREIGN_KEY), .val (.int (0 : Int32))] [(.int (0 : Int32)), (.int (own_kept w_FOREIGN_KEY w_UNIQUE w_PRIMARY_KEY w_EXCLUDE))])) _
            refine XS.icmpNo X18.here hx rfl (hb hby at_73) rfl (teq (by simp [own_kept, n_FOREIGN_KEY_UNIQUE, n_FOREIGN_KEY_PRIMARY_KEY, n_FOREIGN_KEY_EXCLUDE] : (own_kept w_FOREIGN_KEY w_UNIQUE w_PRIMARY_KEY w_EXCLUDE) = (0 : Int32))).2 ?_
            show Steps p.tables e below (T18.setTop (mkF m 76 #[.val (.int p1), .val (.int ((p1 &&& (2147483647 : Int32)) % (5 : Int32))), .val (.ref w_FOREIGN_KEY), .val (.int (0 : Int32))] [])) _
            refine XS.iconst X18.here hx rfl (hb hby at_76) ?_
            show Steps p.tables e below (T18.setTop (mkF m 77 #[.val (.int p1), .val (.int ((p1 &&& (2147483647 : Int32)) % (5 : Int32))), .val (.ref w_FOREIGN_KEY), .val (.int (0 : Int32))] [(.int (1 : Int32))])) _
            refine XS.goto X18.here hx rfl (pc0 := 77) (pc' := 81) rfl (hb hby at_77) (by decide) (by decide) ?_
            show Steps p.tables e below (T18.setTop (mkF m 81 #[.val (.int p1), .val (.int ((p1 &&& (2147483647 : Int32)) % (5 : Int32))), .val (.ref w_FOREIGN_KEY), .val (.int (0 : Int32))] [(.int (1 : Int32))])) _
            exact retN X18 hx (t := .boolean) Bd.returns (by simp) (hb hby at_81) hr
          · show Q0 h0 n0 _ T18.heap _
            rw [eh18]
            exact ⟨rfl, N18⟩
set_option maxRecDepth 65536 in
set_option maxHeartbeats 40000000 in
theorem comes_1 {Post : Tables → Env → Array Value → State → Outcome → State → Prop} (hpost : ∀ tb e args s v u, (limb_1_1.after args s (.returned v) u = true ∧ limb_1_2.after args s (.returned v) u = true ∧ True) → FrameEnd s (.returned v) u (Jvm.fieldLocs frame_1_writes args s ++ Jvm.arrayLocs frame_1_arrays args s ++ Jvm.staticLocs frame_1_statics s) 0 0 → Post tb e args s (.returned v) u) :
    ArmFor flags0 classFile x code maxLocals ret World_1 tables_1 room_1 Calls_1 rest_1 Pre_1 Post := by
  intro l hfl _ _ p e ha hc hk s m args below hf hA hF happ hP
  obtain ⟨hcalls, hrest, hpre⟩ := hP
  obtain ⟨-, -, -, hnamed, -, -, -, hat⟩ := (Spec.applies_iff hf).mp happ
  obtain ⟨hg, hn⟩ := and_e (Cond.before_iff.mp (show (Jvm.Cond.and given_1 narrow_1).before args s = true from hpre))
  obtain ⟨hcnt, ha0⟩ := and_e hg
  obtain ⟨w0, rfl⟩ : ∃ w0 : Value, args = #[w0] := by
    have hs : args.size = 1 := by simpa [Cond.value, given_1] using hcnt
    obtain ⟨L⟩ := args
    match L, hs with
    | [w0], _ => exact ⟨w0, rfl⟩
  have hw := fun d (hd : d ∈ tables_1) => atoms_spec (ws := Jvm.Cond.code x code maxLocals ret :: tables_1) hat d (List.mem_cons_of_mem _ hd)
  obtain ⟨i0, ei0⟩ := is_v ha0
  obtain rfl : w0 = (.int i0) := Option.some.inj ei0
  obtain ⟨hg0, hr0⟩ := and_e hn
  obtain ⟨w_CHECK, ev_CHECK⟩ := exa_v hg0
  have E_CHECK : Exa s s.heap w_CHECK "com/example/largo/largo/ConstraintDefinition$Kind" := Exa.start ev_CHECK hg0
  have S_CHECK : Sta s s.heap "com/example/largo/largo/ConstraintDefinition$Kind" "CHECK" "Lcom/example/largo/largo/ConstraintDefinition$Kind;" (.ref w_CHECK) := Sta.start ev_CHECK (Or.inr ⟨(hw _ (List.mem_of_getElem? (i := 2) rfl)), (hw _ (List.mem_of_getElem? (i := 3) rfl))⟩)
  obtain ⟨hg1, hr1⟩ := and_e hr0
  obtain ⟨w_UNIQUE, ev_UNIQUE⟩ := exa_v hg1
  have E_UNIQUE : Exa s s.heap w_UNIQUE "com/example/largo/largo/ConstraintDefinition$Kind" := Exa.start ev_UNIQUE hg1
  have S_UNIQUE : Sta s s.heap "com/example/largo/largo/ConstraintDefinition$Kind" "UNIQUE" "Lcom/example/largo/largo/ConstraintDefinition$Kind;" (.ref w_UNIQUE) := Sta.start ev_UNIQUE (Or.inr ⟨(hw _ (List.mem_of_getElem? (i := 2) rfl)), (hw _ (List.mem_of_getElem? (i := 10) rfl))⟩)
  obtain ⟨hg2, hr2⟩ := and_e hr1
  have O_ordinal_CHECK : Fld s s.heap w_CHECK "java/lang/Enum" "ordinal" "I" (.int (0 : Int32)) := own_fld ev_CHECK hg2
  obtain ⟨hg3, hr3⟩ := and_e hr2
  have O_ordinal_UNIQUE : Fld s s.heap w_UNIQUE "java/lang/Enum" "ordinal" "I" (.int (1 : Int32)) := own_fld ev_UNIQUE hg3
  obtain ⟨hg4, hr4⟩ := and_e hr3
  obtain ⟨w_PRIMARY_KEY, ev_PRIMARY_KEY⟩ := exa_v hg4
  have E_PRIMARY_KEY : Exa s s.heap w_PRIMARY_KEY "com/example/largo/largo/ConstraintDefinition$Kind" := Exa.start ev_PRIMARY_KEY hg4
  have S_PRIMARY_KEY : Sta s s.heap "com/example/largo/largo/ConstraintDefinition$Kind" "PRIMARY_KEY" "Lcom/example/largo/largo/ConstraintDefinition$Kind;" (.ref w_PRIMARY_KEY) := Sta.start ev_PRIMARY_KEY (Or.inr ⟨(hw _ (List.mem_of_getElem? (i := 2) rfl)), (hw _ (List.mem_of_getElem? (i := 12) rfl))⟩)
  obtain ⟨hg5, hr5⟩ := and_e hr4
  have O_ordinal_PRIMARY_KEY : Fld s s.heap w_PRIMARY_KEY "java/lang/Enum" "ordinal" "I" (.int (2 : Int32)) := own_fld ev_PRIMARY_KEY hg5
  obtain ⟨hg6, hr6⟩ := and_e hr5
  obtain ⟨w_EXCLUDE, ev_EXCLUDE⟩ := exa_v hg6
  have E_EXCLUDE : Exa s s.heap w_EXCLUDE "com/example/largo/largo/ConstraintDefinition$Kind" := Exa.start ev_EXCLUDE hg6
  have S_EXCLUDE : Sta s s.heap "com/example/largo/largo/ConstraintDefinition$Kind" "EXCLUDE" "Lcom/example/largo/largo/ConstraintDefinition$Kind;" (.ref w_EXCLUDE) := Sta.start ev_EXCLUDE (Or.inr ⟨(hw _ (List.mem_of_getElem? (i := 2) rfl)), (hw _ (List.mem_of_getElem? (i := 14) rfl))⟩)
  obtain ⟨hg7, hr7⟩ := and_e hr6
  have O_ordinal_EXCLUDE : Fld s s.heap w_EXCLUDE "java/lang/Enum" "ordinal" "I" (.int (3 : Int32)) := own_fld ev_EXCLUDE hg7
  obtain ⟨hg8, hr8⟩ := and_e hr7
  obtain ⟨w_FOREIGN_KEY, ev_FOREIGN_KEY⟩ := exa_v hg8
  have E_FOREIGN_KEY : Exa s s.heap w_FOREIGN_KEY "com/example/largo/largo/ConstraintDefinition$Kind" := Exa.start ev_FOREIGN_KEY hg8
  have S_FOREIGN_KEY : Sta s s.heap "com/example/largo/largo/ConstraintDefinition$Kind" "FOREIGN_KEY" "Lcom/example/largo/largo/ConstraintDefinition$Kind;" (.ref w_FOREIGN_KEY) := Sta.start ev_FOREIGN_KEY (Or.inr ⟨(hw _ (List.mem_of_getElem? (i := 2) rfl)), (hw _ (List.mem_of_getElem? (i := 18) rfl))⟩)
  have O_ordinal_FOREIGN_KEY : Fld s s.heap w_FOREIGN_KEY "java/lang/Enum" "ordinal" "I" (.int (4 : Int32)) := own_fld ev_FOREIGN_KEY hr8
  obtain ⟨n, o, h1, h2, h3, _, L, rfl, ⟨rfl, N⟩, hq⟩ := rm0 l s _ hw tables_1 i0 w_CHECK w_UNIQUE w_PRIMARY_KEY w_EXCLUDE w_FOREIGN_KEY s.heap s.heap.size (Nat.le_refl _) S_CHECK S_UNIQUE S_PRIMARY_KEY S_EXCLUDE S_FOREIGN_KEY E_CHECK E_UNIQUE E_PRIMARY_KEY E_EXCLUDE E_FOREIGN_KEY O_ordinal_CHECK O_ordinal_UNIQUE O_ordinal_PRIMARY_KEY O_ordinal_EXCLUDE O_ordinal_FOREIGN_KEY p e ha hc hk s m _ below hf ((Spec.applies_iff_loose hf).mp happ).1 ⟨rfl, State.Warmed39.refl s, rfl⟩ trivial
  refine ⟨n, _, h1, h2, h3, hpost _ _ _ _ _ _ ⟨Cond.after_iff.mpr rfl, Cond.after_iff.mpr (eq_i res_at (Term.int_eval (1)) rfl), trivial⟩ ⟨hq.1, hq.2.1, (hq.2.2.sift fun y hy => Or.inr (N y hy)).mono (by decide) (by decide)⟩⟩
theorem main_1_1 : Claimed_1_1 := comes_1 fun _ _ _ _ _ _ h hF => ⟨h.1, hF⟩
theorem main_1_2 : Claimed_1_2 := comes_1 fun _ _ _ _ _ _ h hF => ⟨h.2.1, hF⟩
end Jvm.Pilot.@@N@@
namespace Jvm.Pilot.@@N@@
open Jvm Jvm.ClassFile Sem Op Lib Jvm.Free Jvm.Stand Jvm.Pilot.@@N@@.Jvm.D
/-! MADE BY PROGRAM (witnessworld.py) out of the Statement's table words and the real class files: 12 classes; the members and pool entries that the words name. The judged class is class 1, her method 1. -/
namespace start1
open Jvm.ClassFile
def u (s : String) : CpInfo := .utf8 (stringToUtf16 s)
/-- a pool by its gaps: so many unusable entries, then the entry; so many at the end -/
def gap : Nat → List CpInfo → List CpInfo
  | 0, r => r
  | n + 1, r => .unusable :: gap n r
def poolList (es : List (Nat × CpInfo)) (last : Nat) : List CpInfo := es.foldr (fun e r => gap e.1 (e.2 :: r)) (gap last [])
def pool (es : List (Nat × CpInfo)) (last : Nat) : Array CpInfo := ⟨poolList es last⟩
def fileOf (pool : Array CpInfo) (this : Nat) (attrs : Array Attribute := #[]) (ms : Array MethodInfo := #[]) (fl : Nat := 33) (sup : Nat := 0) (ifs : Array Nat := #[]) (fds : Array FieldInfo := #[]) : ClassFile where
  minorVersion := 0
  majorVersion := 65
  constantPool := pool
  accessFlags := fl
  thisClass := this
  superClass := sup
  interfaces := ifs
  fields := fds
  methods := ms
  attributes := attrs
def plain (name : String) (sup : Option ClassId) : Class where
  name := name
  kind := .ordinary
  loader := none
  accessFlags := 33
  super := sup
  interfaces := #[]
  cf := none
  fields := #[]
  methods := #[]
  instanceTypes := #[]
  staticTypes := #[]
  resolved := #[]
  callSites := []
  init := .initialized
  statics := none
  mirror := none

def pool0 : Array CpInfo := pool [(5, u "<init>"), (0, u "()V"), (1, .class_ 10), (1, u "java/lang/Object")] 113

def k0m0 : Method := { name := "<init>", desc := "()V", sig := { parameters := [], returnType := none }, accessFlags := 1, code := none }
/-- java/lang/Object -/
def k0 : Class := { plain "java/lang/Object" none with
  accessFlags := 33
  interfaces := #[]
  cf := some (fileOf pool0 8 #[] #[{ accessFlags := 1, nameIndex := 5, descriptorIndex := 6, attributes := #[] }] 33 0 #[] #[])
  fields := #[]
  methods := #[k0m0]
  instanceTypes := #[]
  staticTypes := #[]
  resolved := Array.replicate 124 none
  statics := none }

def pool1 : Array CpInfo := pool [(2, .class_ 4), (1, u "java/lang/Object"), (0, u "<init>"), (0, u "()V"), (0, .integer 2147483647), (0, .fieldref 9 10), (0, .class_ 11), (0, .nameAndType 12 13), (0, u "com/example/largo/largo/ConstraintDefinition$Kind"), (0, u "CHECK"), (0, u "Lcom/example/largo/largo/ConstraintDefinition$Kind;"), (0, .fieldref 9 15), (0, .nameAndType 16 13), (0, u "UNIQUE"), (0, .fieldref 9 18), (0, .nameAndType 19 13), (0, u "PRIMARY_KEY"), (0, .fieldref 9 21), (0, .nameAndType 22 13), (0, u "EXCLUDE"), (0, .fieldref 9 24), (0, .nameAndType 25 13), (0, u "FOREIGN_KEY"), (0, .methodref 9 27), (0, .nameAndType 28 29), (0, u "isKeptByIndex"), (0, u "()Z"), (0, .class_ 31), (0, u "com/example/largo/largo/KindIsKeptByIndexPinLaw"), (2, u "law"), (0, u "(I)Z")] 7

def k1m0 : Method := { name := "<init>", desc := "()V", sig := { parameters := [], returnType := none }, accessFlags := 2, code := none }
def k1c1 : Code := { maxStack := 2, maxLocals := 4, code := code, exceptionTable := #[], attributes := #[] }
def k1m1 : Method := { name := "law", desc := "(I)Z", sig := { parameters := [.int], returnType := some .boolean }, accessFlags := 9, code := some k1c1 }
/-- com/example/largo/largo/KindIsKeptByIndexPinLaw -/
def k1 : Class := { plain "com/example/largo/largo/KindIsKeptByIndexPinLaw" (some 0) with
  accessFlags := 49
  interfaces := #[]
  cf := some (fileOf pool1 30 #[] #[{ accessFlags := 2, nameIndex := 5, descriptorIndex := 6, attributes := #[] }, { accessFlags := 9, nameIndex := 34, descriptorIndex := 35, attributes := #[] }] 49 2 #[] #[])
  fields := #[]
  methods := #[k1m0, k1m1]
  instanceTypes := #[]
  staticTypes := #[]
  resolved := Array.replicate 43 none
  statics := none }

def pool2 : Array CpInfo := pool [(1, .class_ 2), (0, u "java/lang/constant/Constable"), (0, .class_ 4), (0, u "java/lang/Object")] 6

/-- java/lang/constant/Constable -/
def k2 : Class := { plain "java/lang/constant/Constable" (some 0) with
  accessFlags := 1537
  interfaces := #[]
  cf := some (fileOf pool2 1 #[] #[] 1537 3 #[] #[])
  fields := #[]
  methods := #[]
  instanceTypes := #[]
  staticTypes := #[]
  resolved := Array.replicate 11 none
  statics := none }

def pool3 : Array CpInfo := pool [(1, .class_ 2), (0, u "java/lang/Comparable"), (0, .class_ 4), (0, u "java/lang/Object")] 7

/-- java/lang/Comparable -/
def k3 : Class := { plain "java/lang/Comparable" (some 0) with
  accessFlags := 1537
  interfaces := #[]
  cf := some (fileOf pool3 1 #[] #[] 1537 3 #[] #[])
  fields := #[]
  methods := #[]
  instanceTypes := #[]
  staticTypes := #[]
  resolved := Array.replicate 12 none
  statics := none }

def pool4 : Array CpInfo := pool [(1, .class_ 2), (0, u "java/io/Serializable"), (0, .class_ 4), (0, u "java/lang/Object")] 2

/-- java/io/Serializable -/
def k4 : Class := { plain "java/io/Serializable" (some 0) with
  accessFlags := 1537
  interfaces := #[]
  cf := some (fileOf pool4 1 #[] #[] 1537 3 #[] #[])
  fields := #[]
  methods := #[]
  instanceTypes := #[]
  staticTypes := #[]
  resolved := Array.replicate 7 none
  statics := none }

def pool5 : Array CpInfo := pool [(2, .class_ 4), (1, u "java/lang/Enum"), (0, u "name"), (0, u "Ljava/lang/String;"), (2, u "ordinal"), (0, u "I"), (1, .class_ 14), (1, u "java/lang/Object"), (4, u "hash"), (86, .class_ 108), (1, u "java/lang/Enum$EnumDesc"), (2, .class_ 112), (0, u "java/lang/constant/Constable"), (0, .class_ 114), (0, u "java/lang/Comparable"), (0, .class_ 116), (0, u "java/io/Serializable")] 87

/-- java/lang/Enum -/
def k5 : Class := { plain "java/lang/Enum" (some 0) with
  accessFlags := 1057
  interfaces := #[2, 3, 4]
  cf := some (fileOf pool5 2 #[.nestMembers #[106]] #[] 1057 12 #[111, 113, 115] #[{ accessFlags := 18, nameIndex := 5, descriptorIndex := 6, attributes := #[] }, { accessFlags := 18, nameIndex := 9, descriptorIndex := 10, attributes := #[] }, { accessFlags := 2, nameIndex := 19, descriptorIndex := 10, attributes := #[] }])
  fields := #[{ name := "name", type := (.object "java/lang/String"), accessFlags := 18, slot := 0, constantValue := 0 }, { name := "ordinal", type := .int, accessFlags := 18, slot := 1, constantValue := 0 }, { name := "hash", type := .int, accessFlags := 2, slot := 2, constantValue := 0 }]
  methods := #[]
  instanceTypes := #[(.object "java/lang/String"), .int, .int]
  staticTypes := #[]
  resolved := Array.replicate 204 none
  statics := none }

def pool6 : Array CpInfo := pool [(1, .class_ 2), (0, u "com/example/largo/largo/ConstraintDefinition$Kind"), (2, u "CHECK"), (0, u "Lcom/example/largo/largo/ConstraintDefinition$Kind;"), (0, .fieldref 1 8), (0, .nameAndType 9 6), (0, u "UNIQUE"), (0, .fieldref 1 11), (0, .nameAndType 12 6), (0, u "PRIMARY_KEY"), (0, .fieldref 1 14), (0, .nameAndType 15 6), (0, u "EXCLUDE"), (2, u "FOREIGN_KEY"), (2, u "$VALUES"), (0, u "[Lcom/example/largo/largo/ConstraintDefinition$Kind;"), (6, .class_ 31), (1, u "java/lang/Enum"), (23, u "isKeptByIndex"), (0, u "()Z"), (6, .class_ 64), (0, u "com/example/largo/largo/ConstraintDefinition")] 2

def k6c0 : Code := { maxStack := 2, maxLocals := 1, code := prog_31_method_4_code, exceptionTable := #[], attributes := #[] }
def k6m0 : Method := { name := "isKeptByIndex", desc := "()Z", sig := { parameters := [], returnType := some .boolean }, accessFlags := 0, code := some k6c0 }
/-- com/example/largo/largo/ConstraintDefinition$Kind -/
def k6 : Class := { plain "com/example/largo/largo/ConstraintDefinition$Kind" (some 5) with
  accessFlags := 16432
  interfaces := #[]
  cf := some (fileOf pool6 1 #[.nestHost 63] #[{ accessFlags := 0, nameIndex := 55, descriptorIndex := 56, attributes := #[] }] 16432 29 #[] #[{ accessFlags := 16409, nameIndex := 5, descriptorIndex := 6, attributes := #[] }, { accessFlags := 16409, nameIndex := 9, descriptorIndex := 6, attributes := #[] }, { accessFlags := 16409, nameIndex := 12, descriptorIndex := 6, attributes := #[] }, { accessFlags := 16409, nameIndex := 15, descriptorIndex := 6, attributes := #[] }, { accessFlags := 16409, nameIndex := 18, descriptorIndex := 6, attributes := #[] }, { accessFlags := 4122, nameIndex := 21, descriptorIndex := 22, attributes := #[] }])
  fields := #[{ name := "CHECK", type := (.object "com/example/largo/largo/ConstraintDefinition$Kind"), accessFlags := 16409, slot := 0, constantValue := 0 }, { name := "UNIQUE", type := (.object "com/example/largo/largo/ConstraintDefinition$Kind"), accessFlags := 16409, slot := 1, constantValue := 0 }, { name := "PRIMARY_KEY", type := (.object "com/example/largo/largo/ConstraintDefinition$Kind"), accessFlags := 16409, slot := 2, constantValue := 0 }, { name := "EXCLUDE", type := (.object "com/example/largo/largo/ConstraintDefinition$Kind"), accessFlags := 16409, slot := 3, constantValue := 0 }, { name := "FOREIGN_KEY", type := (.object "com/example/largo/largo/ConstraintDefinition$Kind"), accessFlags := 16409, slot := 4, constantValue := 0 }, { name := "$VALUES", type := (.array (.object "com/example/largo/largo/ConstraintDefinition$Kind")), accessFlags := 4122, slot := 5, constantValue := 0 }]
  methods := #[k6m0]
  instanceTypes := #[(.object "java/lang/String"), .int, .int]
  staticTypes := #[(.object "com/example/largo/largo/ConstraintDefinition$Kind"), (.object "com/example/largo/largo/ConstraintDefinition$Kind"), (.object "com/example/largo/largo/ConstraintDefinition$Kind"), (.object "com/example/largo/largo/ConstraintDefinition$Kind"), (.object "com/example/largo/largo/ConstraintDefinition$Kind"), (.array (.object "com/example/largo/largo/ConstraintDefinition$Kind"))]
  resolved := Array.replicate 67 none
  statics := some 0 }

def pool7 : Array CpInfo := pool [(1, u "java/lang/Cloneable"), (0, .class_ 1), (0, u "java/lang/Object"), (0, .class_ 3)] 3

/-- java/lang/Cloneable -/
def k7 : Class := { plain "java/lang/Cloneable" (some 0) with
  accessFlags := 1537
  interfaces := #[]
  cf := some (fileOf pool7 2 #[] #[] 1537 4 #[] #[])
  fields := #[]
  methods := #[]
  instanceTypes := #[]
  staticTypes := #[]
  resolved := Array.replicate 8 none
  statics := none }

/-- the primitive byte -/
def k8 : Class := { plain "byte" none with kind := .primitive 'B', accessFlags := 0x411 }
/-- [B -/
def k9 : Class := { plain "[B" (some 0) with kind := .array 8 .byte, interfaces := #[7, 4], accessFlags := 1041 }

/-- the primitive int -/
def k10 : Class := { plain "int" none with kind := .primitive 'I', accessFlags := 0x411 }
/-- [I -/
def k11 : Class := { plain "[I" (some 0) with kind := .array 10 .int, interfaces := #[7, 4], accessFlags := 1041 }

def heap : Heap := #[{ cls := 6, slots := #[.ref 1, .ref 2, .ref 3, .ref 4, .ref 5, .null], vm := .statics 6 },
  { cls := 6, slots := #[.null, .int 0, .int 0], vm := .none },
  { cls := 6, slots := #[.null, .int 1, .int 0], vm := .none },
  { cls := 6, slots := #[.null, .int 2, .int 0], vm := .none },
  { cls := 6, slots := #[.null, .int 3, .int 0], vm := .none },
  { cls := 6, slots := #[.null, .int 4, .int 0], vm := .none }]
def classes : Array Class := #[k0, k1, k2, k3, k4, k5, k6, k7, k8, k9, k10, k11]
def interned : List (Array UInt16 × Addr) := []
def slotsUsed : Nat := 21
def theMethod : MethodId := ⟨1, 1⟩
def args0 : Array Value := #[.int 7]
def aboutOver (below : List Frame) : State where
  vm := { classes := classes, interned := interned.toArray }
  heap := heap
  slotsUsed := slotsUsed
  threads := #[{ frames := .invoking theMethod args0 :: below }]
def below0 : List Frame := [.native { method := ⟨0, 0⟩, args := #[] }]
def about1 : State := aboutOver below0
def p0 : Program := .bare "" "" ""
def e0 : Env := launch0.env 0 0 0
theorem w_frames : about1.frames = Frame.invoking theMethod args0 :: below0 := rfl
set_option maxRecDepth 65536 in
theorem w_args : argsFit about1.vm theMethod args0 = true := by decide +kernel
set_option maxRecDepth 65536 in
theorem w_heap : heapFits about1 = true := by decide +kernel
set_option maxRecDepth 65536 in
theorem w_runnable : about1.curStatus? = some .runnable := by decide +kernel
set_option maxRecDepth 65536 in
theorem w_alone : about1.alone = true := by decide +kernel
set_option maxRecDepth 65536 in
theorem w_named : about1.methodNamed? x = some theMethod := by decide +kernel
set_option maxRecDepth 65536 in
theorem w_hears : about1.hears theMethod below0 = true := by decide +kernel
set_option maxRecDepth 65536 in
theorem w_ripe : about1.ripe theMethod args0 below0 = true := by decide +kernel
theorem w_running : about1.status = .running := rfl
set_option maxRecDepth 65536 in
theorem w_room : about1.hasRoom e0.platform room_1 = true :=
  launch0.hasRoom_least _ room_1 (by decide +kernel) (by decide +kernel) (by decide +kernel) (by decide +kernel) (by decide +kernel) (by decide +kernel)
theorem allAtoms_all (ts : List Jvm.Cond) (a : Array Jvm.Value) (st : Jvm.State) : (allAtoms ts).before a st = ts.all (fun c => c.before a st) := by
  induction ts with
  | nil => rfl
  | cons c t ih =>
    show (Jvm.Cond.and c (allAtoms t)).before a st = _
    rw [Jvm.Cond.before_and, ih, List.all_cons]
def words1 : List Jvm.Cond := Jvm.Cond.code x code maxLocals ret :: tables_1
/-- a 'code' word, met by the world's own term for the bytes: nothing is compared byte by byte -/
theorem code_word {y : MethodName} {bytes : ByteArray} {mx : Nat} {rt : Option FieldType} {a : Array Value} {s : State} {m : MethodId} {meth : Method} {c : Code} (h1 : s.methodNamed? y = some m) (h2 : s.vm.method? m = some meth) (h3 : meth.code = some c) (h4 : c.code = bytes)
    (h5 : (c.maxLocals == mx && c.exceptionTable.isEmpty && decide (c.maxStack ≤ mostOperands) && decide (meth.sig.returnType = rt) && !meth.locks && decide (parseMethodDescriptor y.desc = some meth.sig)) = true) : (Jvm.Cond.code y bytes mx rt).before a s = true := by
  simp only [Bool.and_eq_true, beq_iff_eq, Bool.not_eq_true', decide_eq_true_eq] at h5
  obtain ⟨⟨⟨⟨⟨g1, g2⟩, g3⟩, g4⟩, g5⟩, g6⟩ := h5
  simp [Cond.before, Cond.holds, Cond.value, h1, h2, h3, h4, g1, g2, g3, g4, g5, g6]
def isCode : Jvm.Cond → Bool
  | .code _ _ _ _ => true
  | _ => false
theorem all_split {L : List Jvm.Cond} {P : Jvm.Cond → Bool} (h1 : L.all (fun c => isCode c || P c) = true) (h2 : ∀ c ∈ L.filter isCode, P c = true) : L.all P = true := by
  refine List.all_eq_true.mpr fun c hc => ?_
  have h := List.all_eq_true.mp h1 c hc
  rcases Bool.eq_false_or_eq_true (isCode c) with hi | hi
  · exact h2 c (List.mem_filter.mpr ⟨hc, hi⟩)
  · simpa [hi] using h
set_option maxRecDepth 65536 in
theorem w_c0 : (Jvm.Cond.code x code maxLocals ret).before args0 about1 = true := code_word (m := ⟨1, 1⟩) (meth := k1m1) (c := k1c1) (by decide +kernel) rfl rfl rfl (by decide +kernel)
set_option maxRecDepth 65536 in
theorem w_c1 : (Jvm.Cond.code ({ cls := "com/example/largo/largo/ConstraintDefinition$Kind", name := "isKeptByIndex", desc := "()Z" } : Jvm.MethodName) prog_31_method_4_code (1 : Nat) (Option.some Jvm.ClassFile.FieldType.boolean)).before args0 about1 = true := code_word (m := ⟨6, 0⟩) (meth := k6m0) (c := k6c0) (by decide +kernel) rfl rfl rfl (by decide +kernel)
def codes1 : List Jvm.Cond := [Jvm.Cond.code x code maxLocals ret, Jvm.Cond.code ({ cls := "com/example/largo/largo/ConstraintDefinition$Kind", name := "isKeptByIndex", desc := "()Z" } : Jvm.MethodName) prog_31_method_4_code (1 : Nat) (Option.some Jvm.ClassFile.FieldType.boolean)]
set_option maxRecDepth 65536 in
theorem codes_eq : words1.filter isCode = codes1 := rfl
theorem w_codes : ∀ c ∈ words1.filter isCode, c.before args0 about1 = true := by
  rw [codes_eq]
  intro c hc
  simp only [codes1, List.mem_cons, List.not_mem_nil, or_false] at hc
  rcases hc with rfl | rfl
  · exact w_c0
  · exact w_c1
set_option maxRecDepth 65536 in
theorem w_t1 : words1.all (fun c => isCode c || c.before args0 about1) = true := by decide +kernel
theorem w_tables : (allAtoms (Jvm.Cond.code x code maxLocals ret :: tables_1)).before args0 about1 = true := by
  rw [allAtoms_all]
  show words1.all (fun c => c.before args0 about1) = true
  refine all_split ?_ w_codes
  rw [w_t1]
set_option maxRecDepth 65536 in
theorem w_case : (Jvm.Cond.and given_1 narrow_1).before args0 about1 = true := by decide +kernel
theorem w_applies : (headSpec (Jvm.Cond.code x code maxLocals ret :: tables_1) room_1).applies x e0.platform about1 = true :=
  (Spec.applies_iff w_frames).mpr ⟨w_running, w_runnable, w_alone, w_named, w_hears, w_ripe, w_room, w_tables⟩
theorem atStart : AtStart classFile x code maxLocals ret World_1 tables_1 room_1 Calls_1 rest_1 Pre_1 launch0 p0 e0 about1 theMethod args0 below0 :=
  ⟨lists_1, trivial, launch0.admits_env _ _ _, launch0.least_env, fairChoices_fair.cas, fairChoices_fair.clock, w_frames, w_args, w_heap, w_applies, trivial, trivial, w_case⟩
end start1
theorem witness_1 : WitnessClaimed_1 := ⟨start1.p0, start1.e0, start1.about1, start1.theMethod, start1.args0, start1.below0, start1.atStart⟩
end Jvm.Pilot.@@N@@
