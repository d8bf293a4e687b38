import JvmDerived
import JvmDerived.Pilot.@@N@@Statement
import JvmDerived.Pilot.@@N@@Code
set_option linter.unusedVariables false
set_option linter.unusedSimpArgs false
namespace Jvm.Pilot.@@N@@
open Jvm Jvm.ClassFile Sem Op Lib Jvm.Free Jvm.Stand Jvm.LawKit Jvm.RoadKit Bundle Jvm.Pilot.@@N@@.Jvm.D
theorem own_fld {s : State} {args : Array Value} {t : Term} {w : Addr} {C n d : String} {k : Int32} (ev : t.eval args s none [] s = some (.ref w)) (h : (Cond.eq (Term.field t C n d) (Term.int k)).value args s none s [] = some true) : Fld s s.heap w C n d (.int k) := by
  refine Fld.start ?_
  have h1 : (Term.field t C n d).eval args s none [] s = s.fieldOf? w C n d := fld_at ev
  have h2 : (Term.int k).eval args s none [] s = some (.int k) := Term.int_eval k
  cases hf : s.fieldOf? w C n d with
  | none => rw [hf] at h1; simp [Cond.value, h1] at h
  | some x =>
    rw [hf] at h1
    cases x <;> simp [Cond.value, h1, h2] at h
    rw [h]
def own_pick (k : Int32) (w_FORALL w_EXISTS w_COUNT w_MIN w_MAX w_AVG w_SUM w_FIRST : Addr) : Addr := if k = 0 then w_FORALL else if k = 1 then w_EXISTS else if k = 2 then w_COUNT else if k = 3 then w_MIN else if k = 4 then w_MAX else if k = 5 then w_AVG else if k = 6 then w_SUM else w_FIRST
def own_needs (a w_MIN w_MAX w_AVG w_FIRST : Addr) : Int32 := if a = w_MIN ∨ a = w_MAX ∨ a = w_AVG ∨ a = w_FIRST then 1 else 0
theorem own_pick_of {P : Addr → Prop} {k : Int32} {w_FORALL w_EXISTS w_COUNT w_MIN w_MAX w_AVG w_SUM w_FIRST : Addr} (h_FORALL : P w_FORALL) (h_EXISTS : P w_EXISTS) (h_COUNT : P w_COUNT) (h_MIN : P w_MIN) (h_MAX : P w_MAX) (h_AVG : P w_AVG) (h_SUM : P w_SUM) (h_FIRST : P w_FIRST) : P (own_pick k w_FORALL w_EXISTS w_COUNT w_MIN w_MAX w_AVG w_SUM w_FIRST) := by
  unfold own_pick
  repeat' split
  all_goals assumption
theorem dP_0 : decode method_3_code 0 = .ok (.iload_n 0, 1) := by decide +kernel
theorem dP_1 : decode method_3_code 1 = .ok (.ifCond .ne 10, 3) := by decide +kernel
theorem dP_4 : decode method_3_code 4 = .ok (.getstatic 19, 3) := by decide +kernel
theorem dP_7 : decode method_3_code 7 = .ok (.astore_n 1, 1) := by decide +kernel
theorem dP_8 : decode method_3_code 8 = .ok (.goto 80, 3) := by decide +kernel
theorem dP_11 : decode method_3_code 11 = .ok (.iload_n 0, 1) := by decide +kernel
theorem dP_12 : decode method_3_code 12 = .ok (.iconst 1, 1) := by decide +kernel
theorem dP_13 : decode method_3_code 13 = .ok (.if_icmp .ne 10, 3) := by decide +kernel
theorem dP_16 : decode method_3_code 16 = .ok (.getstatic 23, 3) := by decide +kernel
theorem dP_19 : decode method_3_code 19 = .ok (.astore_n 1, 1) := by decide +kernel
theorem dP_20 : decode method_3_code 20 = .ok (.goto 68, 3) := by decide +kernel
theorem dP_23 : decode method_3_code 23 = .ok (.iload_n 0, 1) := by decide +kernel
theorem dP_24 : decode method_3_code 24 = .ok (.iconst 2, 1) := by decide +kernel
theorem dP_25 : decode method_3_code 25 = .ok (.if_icmp .ne 10, 3) := by decide +kernel
theorem dP_28 : decode method_3_code 28 = .ok (.getstatic 26, 3) := by decide +kernel
theorem dP_31 : decode method_3_code 31 = .ok (.astore_n 1, 1) := by decide +kernel
theorem dP_32 : decode method_3_code 32 = .ok (.goto 56, 3) := by decide +kernel
theorem dP_35 : decode method_3_code 35 = .ok (.iload_n 0, 1) := by decide +kernel
theorem dP_36 : decode method_3_code 36 = .ok (.iconst 3, 1) := by decide +kernel
theorem dP_37 : decode method_3_code 37 = .ok (.if_icmp .ne 10, 3) := by decide +kernel
theorem dP_40 : decode method_3_code 40 = .ok (.getstatic 29, 3) := by decide +kernel
theorem dP_43 : decode method_3_code 43 = .ok (.astore_n 1, 1) := by decide +kernel
theorem dP_44 : decode method_3_code 44 = .ok (.goto 44, 3) := by decide +kernel
theorem dP_47 : decode method_3_code 47 = .ok (.iload_n 0, 1) := by decide +kernel
theorem dP_48 : decode method_3_code 48 = .ok (.iconst 4, 1) := by decide +kernel
theorem dP_49 : decode method_3_code 49 = .ok (.if_icmp .ne 10, 3) := by decide +kernel
theorem dP_52 : decode method_3_code 52 = .ok (.getstatic 32, 3) := by decide +kernel
theorem dP_55 : decode method_3_code 55 = .ok (.astore_n 1, 1) := by decide +kernel
theorem dP_56 : decode method_3_code 56 = .ok (.goto 32, 3) := by decide +kernel
theorem dP_59 : decode method_3_code 59 = .ok (.iload_n 0, 1) := by decide +kernel
theorem dP_60 : decode method_3_code 60 = .ok (.iconst 5, 1) := by decide +kernel
theorem dP_61 : decode method_3_code 61 = .ok (.if_icmp .ne 10, 3) := by decide +kernel
theorem dP_64 : decode method_3_code 64 = .ok (.getstatic 35, 3) := by decide +kernel
theorem dP_67 : decode method_3_code 67 = .ok (.astore_n 1, 1) := by decide +kernel
theorem dP_68 : decode method_3_code 68 = .ok (.goto 20, 3) := by decide +kernel
theorem dP_71 : decode method_3_code 71 = .ok (.iload_n 0, 1) := by decide +kernel
theorem dP_72 : decode method_3_code 72 = .ok (.bipush 6, 2) := by decide +kernel
theorem dP_74 : decode method_3_code 74 = .ok (.if_icmp .ne 10, 3) := by decide +kernel
theorem dP_77 : decode method_3_code 77 = .ok (.getstatic 38, 3) := by decide +kernel
theorem dP_80 : decode method_3_code 80 = .ok (.astore_n 1, 1) := by decide +kernel
theorem dP_81 : decode method_3_code 81 = .ok (.goto 7, 3) := by decide +kernel
theorem dP_84 : decode method_3_code 84 = .ok (.getstatic 41, 3) := by decide +kernel
theorem dP_87 : decode method_3_code 87 = .ok (.astore_n 1, 1) := by decide +kernel
theorem dP_88 : decode method_3_code 88 = .ok (.aload_n 1, 1) := by decide +kernel
theorem dP_89 : decode method_3_code 89 = .ok (.areturn, 1) := by decide +kernel
theorem pnP : plainName "com/example/vole/vole/model/property/FilterOperatorNeedsAStatePinLaw" = true := by first | (simp [plainName, overriddenIn]; done) | decide +kernel
theorem efP (m : MethodId) (k : Int32) : entryFrame m #[(.int k)] 2 = mkF m 0 #[.val (.int k), .unset] [] := by first | (simp [entryFrame, mkF, argsToLocals, Value.category]; done) | rfl
def QP (k : Int32) (w_FORALL w_EXISTS w_COUNT w_MIN w_MAX w_AVG w_SUM w_FIRST : Addr) (h0 : Heap) (n0 : Nat) (v : Option Value) (h : Heap) (L : List Loc) : Prop := v = some (.ref (own_pick k w_FORALL w_EXISTS w_COUNT w_MIN w_MAX w_AVG w_SUM w_FIRST)) ∧ Fr n0 L ∧ h = h0
set_option maxRecDepth 65536 in
set_option maxHeartbeats 40000000 in
theorem rmP (l : Launch) (Z : State) (a0 : Array Value) (hw : ∀ d ∈ tables_1, d.before a0 Z = true) (ws : List Jvm.Cond) (k : Int32) (w_FORALL w_EXISTS w_COUNT w_MIN w_MAX w_AVG w_SUM w_FIRST : Addr) (h0 : Heap) (n0 : Nat) (Z0 : n0 ≤ h0.size) (S_FORALL : Sta Z h0 "com/example/vole/vole/model/property/FilterOperator" "FORALL" "Lcom/example/vole/vole/model/property/FilterOperator;" (.ref w_FORALL)) (S_EXISTS : Sta Z h0 "com/example/vole/vole/model/property/FilterOperator" "EXISTS" "Lcom/example/vole/vole/model/property/FilterOperator;" (.ref w_EXISTS)) (S_COUNT : Sta Z h0 "com/example/vole/vole/model/property/FilterOperator" "COUNT" "Lcom/example/vole/vole/model/property/FilterOperator;" (.ref w_COUNT)) (S_MIN : Sta Z h0 "com/example/vole/vole/model/property/FilterOperator" "MIN" "Lcom/example/vole/vole/model/property/FilterOperator;" (.ref w_MIN)) (S_MAX : Sta Z h0 "com/example/vole/vole/model/property/FilterOperator" "MAX" "Lcom/example/vole/vole/model/property/FilterOperator;" (.ref w_MAX)) (S_AVG : Sta Z h0 "com/example/vole/vole/model/property/FilterOperator" "AVG" "Lcom/example/vole/vole/model/property/FilterOperator;" (.ref w_AVG)) (S_SUM : Sta Z h0 "com/example/vole/vole/model/property/FilterOperator" "SUM" "Lcom/example/vole/vole/model/property/FilterOperator;" (.ref w_SUM)) (S_FIRST : Sta Z h0 "com/example/vole/vole/model/property/FilterOperator" "FIRST" "Lcom/example/vole/vole/model/property/FilterOperator;" (.ref w_FIRST)) :
    MetFree l (⟨"com/example/vole/vole/model/property/FilterOperatorNeedsAStatePinLaw", "pick", "(I)Lcom/example/vole/vole/model/property/FilterOperator;"⟩ : MethodName) (head1 (Jvm.Cond.code (⟨"com/example/vole/vole/model/property/FilterOperatorNeedsAStatePinLaw", "pick", "(I)Lcom/example/vole/vole/model/property/FilterOperator;"⟩ : MethodName) method_3_code 2 (some (.object "com/example/vole/vole/model/property/FilterOperator")) :: ws) ({ frames := 0, cells := 0, slots := 0, locals := 0 } : Room)) (fun as_ U => as_ = #[(.int k)] ∧ Z.Warmed39 U.vm ∧ U.heap = h0) (fun _ _ _ _ _ => True) (fun _ U o U' => ∃ v L, o = .returned v ∧ QP k w_FORALL w_EXISTS w_COUNT w_MIN w_MAX w_AVG w_SUM w_FIRST h0 n0 v U'.heap L ∧ FrameEnd U o U' L ({ frames := 0, cells := 0, slots := 0, locals := 0 } : Room).cells ({ frames := 0, cells := 0, slots := 0, locals := 0 } : Room).slots) := by
  refine MetFree.of_bodySF (plainFor_of_name pnP) hisR ?_
  intro p e s m args below meth c s₁ Bd hml0 hP hK
  obtain ⟨rfl, hZ, hh⟩ := hP
  have hx := Bd.exec
  have hby := Bd.bytes
  have hml : c.maxLocals = 2 := hml0
  have hown : s.vm.findClass "com/example/vole/vole/model/property/FilterOperatorNeedsAStatePinLaw" = some m.cls := findClass_of_methodNamed Bd.named
  have X0 : Stand p l e ({ frames := 0, cells := 0, slots := 0, locals := 0 } : Room) s m #[(.int k)] below meth c s₁ [] 0 0 := Stand.of_body Bd
  have e0 : s₁.heap = h0 := by rw [← hh, Bd.state]; rfl
  have N0 := Fr.nil n0
  have pre0 : ∀ t, Steps p.tables e below (s₁.setTop (mkF m 0 #[.val (.int k), .unset] [])) t → Steps p.tables e below (s₁.setTop (entryFrame m #[(.int k)] 2)) t := fun t kk_ => castTop (efP m k) kk_
  have pre1 : ∀ t, Steps p.tables e below (s₁.setTop (mkF m 1 #[.val (.int k), .unset] [(.int k)])) t → Steps p.tables e below (s₁.setTop (entryFrame m #[(.int k)] 2)) t := fun t kt => by
    refine pre0 t ?_
    show Steps p.tables e below (s₁.setTop (mkF m 0 #[.val (.int k), .unset] [])) _
    refine XS.iloadN X0.here hx rfl (hb hby dP_0) rfl ?_
    exact kt
  by_cases hc1_2 : k = (0 : Int32)
  · obtain ⟨T3, X3, e3, st3⟩ := getS2 X0 hx hZ hown (host := "") (Or.inl (hw _ (List.mem_of_getElem? (i := 4) rfl))) Via.refl e0 S_FORALL (g := (mkF m 4 #[.val (.int k), .unset] [])) rfl (hb hby dP_4)
    obtain ⟨fs, hr, hrun, hended, hW, hsame⟩ := X3.leave (v := some (.ref w_FORALL)) (fun h => by rw [Bd.returns] at h; cases h)
    refine ⟨_, _, pre1 _ ?_, hrun, hended, _, _, rfl, ?_, ⟨_, rfl⟩, hW, hsame.mono (by decide) (by decide)⟩
    · show Steps p.tables e below (s₁.setTop (mkF m 1 #[.val (.int k), .unset] [(.int k)])) _
      refine XS.ifNo X0.here hx rfl (hb hby dP_1) rfl ((if0 _ _).trans (teq hc1_2).2) ?_
      show Steps p.tables e below (s₁.setTop (mkF m 4 #[.val (.int k), .unset] [])) _
      refine st3 _ ?_
      show Steps p.tables e below (T3.setTop (mkF m 7 #[.val (.int k), .unset] [(.ref w_FORALL)])) _
      refine XS.astoreN X3.here hx rfl (hb hby dP_7) rfl rfl (l' := #[.val (.int k), .val (.ref w_FORALL)]) rfl ?_
      show Steps p.tables e below (T3.setTop (mkF m 8 #[.val (.int k), .val (.ref w_FORALL)] [])) _
      refine XS.goto X3.here hx rfl (pc0 := 8) (pc' := 88) rfl (hb hby dP_8) (by decide) (by decide) ?_
      show Steps p.tables e below (T3.setTop (mkF m 88 #[.val (.int k), .val (.ref w_FORALL)] [])) _
      refine XS.aloadN X3.here hx rfl (hb hby dP_88) rfl rfl ?_
      show Steps p.tables e below (T3.setTop (mkF m 89 #[.val (.int k), .val (.ref w_FORALL)] [(.ref w_FORALL)])) _
      exact retOut X3 hx Bd.returns rfl (Or.inr (Or.inr (Or.inr (Or.inr ⟨rfl, rfl, rfl⟩)))) (hb hby dP_89) hr
    · show QP k w_FORALL w_EXISTS w_COUNT w_MIN w_MAX w_AVG w_SUM w_FIRST h0 n0 _ T3.heap _
      rw [e3]
      exact ⟨by simp [own_pick, hc1_2], N0, rfl⟩
  · have pre4 : ∀ t, Steps p.tables e below (s₁.setTop (mkF m 13 #[.val (.int k), .unset] [(.int (1 : Int32)), (.int k)])) t → Steps p.tables e below (s₁.setTop (entryFrame m #[(.int k)] 2)) t := fun t kt => by
      refine pre1 t ?_
      show Steps p.tables e below (s₁.setTop (mkF m 1 #[.val (.int k), .unset] [(.int k)])) _
      refine XS.ifYes X0.here hx rfl (pc0 := 1) (pc' := 11) rfl (hb hby dP_1) rfl ((if0 _ _).trans (feq hc1_2).2) (by decide) (by decide) ?_
      show Steps p.tables e below (s₁.setTop (mkF m 11 #[.val (.int k), .unset] [])) _
      refine XS.iloadN X0.here hx rfl (hb hby dP_11) rfl ?_
      show Steps p.tables e below (s₁.setTop (mkF m 12 #[.val (.int k), .unset] [(.int k)])) _
      refine XS.iconst X0.here hx rfl (hb hby dP_12) ?_
      exact kt
    by_cases hc13_5 : k = (1 : Int32)
    · obtain ⟨T6, X6, e6, st6⟩ := getS2 X0 hx hZ hown (host := "") (Or.inl (hw _ (List.mem_of_getElem? (i := 26) rfl))) Via.refl e0 S_EXISTS (g := (mkF m 16 #[.val (.int k), .unset] [])) rfl (hb hby dP_16)
      obtain ⟨fs, hr, hrun, hended, hW, hsame⟩ := X6.leave (v := some (.ref w_EXISTS)) (fun h => by rw [Bd.returns] at h; cases h)
      refine ⟨_, _, pre4 _ ?_, hrun, hended, _, _, rfl, ?_, ⟨_, rfl⟩, hW, hsame.mono (by decide) (by decide)⟩
      · show Steps p.tables e below (s₁.setTop (mkF m 13 #[.val (.int k), .unset] [(.int (1 : Int32)), (.int k)])) _
        refine XS.icmpNo X0.here hx rfl (hb hby dP_13) rfl (teq hc13_5).2 ?_
        show Steps p.tables e below (s₁.setTop (mkF m 16 #[.val (.int k), .unset] [])) _
        refine st6 _ ?_
        show Steps p.tables e below (T6.setTop (mkF m 19 #[.val (.int k), .unset] [(.ref w_EXISTS)])) _
        refine XS.astoreN X6.here hx rfl (hb hby dP_19) rfl rfl (l' := #[.val (.int k), .val (.ref w_EXISTS)]) rfl ?_
        show Steps p.tables e below (T6.setTop (mkF m 20 #[.val (.int k), .val (.ref w_EXISTS)] [])) _
        refine XS.goto X6.here hx rfl (pc0 := 20) (pc' := 88) rfl (hb hby dP_20) (by decide) (by decide) ?_
        show Steps p.tables e below (T6.setTop (mkF m 88 #[.val (.int k), .val (.ref w_EXISTS)] [])) _
        refine XS.aloadN X6.here hx rfl (hb hby dP_88) rfl rfl ?_
        show Steps p.tables e below (T6.setTop (mkF m 89 #[.val (.int k), .val (.ref w_EXISTS)] [(.ref w_EXISTS)])) _
        exact retOut X6 hx Bd.returns rfl (Or.inr (Or.inr (Or.inr (Or.inr ⟨rfl, rfl, rfl⟩)))) (hb hby dP_89) hr
      · show QP k w_FORALL w_EXISTS w_COUNT w_MIN w_MAX w_AVG w_SUM w_FIRST h0 n0 _ T6.heap _
        rw [e6]
        exact ⟨by simp [own_pick, hc1_2, hc13_5], N0, rfl⟩
    · have pre7 : ∀ t, Steps p.tables e below (s₁.setTop (mkF m 25 #[.val (.int k), .unset] [(.int (2 : Int32)), (.int k)])) t → Steps p.tables e below (s₁.setTop (entryFrame m #[(.int k)] 2)) t := fun t kt => by
        refine pre4 t ?_
        show Steps p.tables e below (s₁.setTop (mkF m 13 #[.val (.int k), .unset] [(.int (1 : Int32)), (.int k)])) _
        refine XS.icmpYes X0.here hx rfl (pc0 := 13) (pc' := 23) rfl (hb hby dP_13) rfl (feq hc13_5).2 (by decide) (by decide) ?_
        show Steps p.tables e below (s₁.setTop (mkF m 23 #[.val (.int k), .unset] [])) _
        refine XS.iloadN X0.here hx rfl (hb hby dP_23) rfl ?_
        show Steps p.tables e below (s₁.setTop (mkF m 24 #[.val (.int k), .unset] [(.int k)])) _
        refine XS.iconst X0.here hx rfl (hb hby dP_24) ?_
        exact kt
      by_cases hc25_8 : k = (2 : Int32)
      · obtain ⟨T9, X9, e9, st9⟩ := getS2 X0 hx hZ hown (host := "") (Or.inl (hw _ (List.mem_of_getElem? (i := 24) rfl))) Via.refl e0 S_COUNT (g := (mkF m 28 #[.val (.int k), .unset] [])) rfl (hb hby dP_28)
        obtain ⟨fs, hr, hrun, hended, hW, hsame⟩ := X9.leave (v := some (.ref w_COUNT)) (fun h => by rw [Bd.returns] at h; cases h)
        refine ⟨_, _, pre7 _ ?_, hrun, hended, _, _, rfl, ?_, ⟨_, rfl⟩, hW, hsame.mono (by decide) (by decide)⟩
        · show Steps p.tables e below (s₁.setTop (mkF m 25 #[.val (.int k), .unset] [(.int (2 : Int32)), (.int k)])) _
          refine XS.icmpNo X0.here hx rfl (hb hby dP_25) rfl (teq hc25_8).2 ?_
          show Steps p.tables e below (s₁.setTop (mkF m 28 #[.val (.int k), .unset] [])) _
          refine st9 _ ?_
          show Steps p.tables e below (T9.setTop (mkF m 31 #[.val (.int k), .unset] [(.ref w_COUNT)])) _
          refine XS.astoreN X9.here hx rfl (hb hby dP_31) rfl rfl (l' := #[.val (.int k), .val (.ref w_COUNT)]) rfl ?_
          show Steps p.tables e below (T9.setTop (mkF m 32 #[.val (.int k), .val (.ref w_COUNT)] [])) _
          refine XS.goto X9.here hx rfl (pc0 := 32) (pc' := 88) rfl (hb hby dP_32) (by decide) (by decide) ?_
          show Steps p.tables e below (T9.setTop (mkF m 88 #[.val (.int k), .val (.ref w_COUNT)] [])) _
          refine XS.aloadN X9.here hx rfl (hb hby dP_88) rfl rfl ?_
          show Steps p.tables e below (T9.setTop (mkF m 89 #[.val (.int k), .val (.ref w_COUNT)] [(.ref w_COUNT)])) _
          exact retOut X9 hx Bd.returns rfl (Or.inr (Or.inr (Or.inr (Or.inr ⟨rfl, rfl, rfl⟩)))) (hb hby dP_89) hr
        · show QP k w_FORALL w_EXISTS w_COUNT w_MIN w_MAX w_AVG w_SUM w_FIRST h0 n0 _ T9.heap _
          rw [e9]
          exact ⟨by simp [own_pick, hc1_2, hc13_5, hc25_8], N0, rfl⟩
      · have pre10 : ∀ t, Steps p.tables e below (s₁.setTop (mkF m 37 #[.val (.int k), .unset] [(.int (3 : Int32)), (.int k)])) t → Steps p.tables e below (s₁.setTop (entryFrame m #[(.int k)] 2)) t := fun t kt => by
          refine pre7 t ?_
          show Steps p.tables e below (s₁.setTop (mkF m 25 #[.val (.int k), .unset] [(.int (2 : Int32)), (.int k)])) _
          refine XS.icmpYes X0.here hx rfl (pc0 := 25) (pc' := 35) rfl (hb hby dP_25) rfl (feq hc25_8).2 (by decide) (by decide) ?_
          show Steps p.tables e below (s₁.setTop (mkF m 35 #[.val (.int k), .unset] [])) _
          refine XS.iloadN X0.here hx rfl (hb hby dP_35) rfl ?_
          show Steps p.tables e below (s₁.setTop (mkF m 36 #[.val (.int k), .unset] [(.int k)])) _
          refine XS.iconst X0.here hx rfl (hb hby dP_36) ?_
          exact kt
        by_cases hc37_11 : k = (3 : Int32)
        · obtain ⟨T12, X12, e12, st12⟩ := getS2 X0 hx hZ hown (host := "") (Or.inl (hw _ (List.mem_of_getElem? (i := 20) rfl))) Via.refl e0 S_MIN (g := (mkF m 40 #[.val (.int k), .unset] [])) rfl (hb hby dP_40)
          obtain ⟨fs, hr, hrun, hended, hW, hsame⟩ := X12.leave (v := some (.ref w_MIN)) (fun h => by rw [Bd.returns] at h; cases h)
          refine ⟨_, _, pre10 _ ?_, hrun, hended, _, _, rfl, ?_, ⟨_, rfl⟩, hW, hsame.mono (by decide) (by decide)⟩
          · show Steps p.tables e below (s₁.setTop (mkF m 37 #[.val (.int k), .unset] [(.int (3 : Int32)), (.int k)])) _
            refine XS.icmpNo X0.here hx rfl (hb hby dP_37) rfl (teq hc37_11).2 ?_
            show Steps p.tables e below (s₁.setTop (mkF m 40 #[.val (.int k), .unset] [])) _
            refine st12 _ ?_
            show Steps p.tables e below (T12.setTop (mkF m 43 #[.val (.int k), .unset] [(.ref w_MIN)])) _
            refine XS.astoreN X12.here hx rfl (hb hby dP_43) rfl rfl (l' := #[.val (.int k), .val (.ref w_MIN)]) rfl ?_
            show Steps p.tables e below (T12.setTop (mkF m 44 #[.val (.int k), .val (.ref w_MIN)] [])) _
            refine XS.goto X12.here hx rfl (pc0 := 44) (pc' := 88) rfl (hb hby dP_44) (by decide) (by decide) ?_
            show Steps p.tables e below (T12.setTop (mkF m 88 #[.val (.int k), .val (.ref w_MIN)] [])) _
            refine XS.aloadN X12.here hx rfl (hb hby dP_88) rfl rfl ?_
            show Steps p.tables e below (T12.setTop (mkF m 89 #[.val (.int k), .val (.ref w_MIN)] [(.ref w_MIN)])) _
            exact retOut X12 hx Bd.returns rfl (Or.inr (Or.inr (Or.inr (Or.inr ⟨rfl, rfl, rfl⟩)))) (hb hby dP_89) hr
          · show QP k w_FORALL w_EXISTS w_COUNT w_MIN w_MAX w_AVG w_SUM w_FIRST h0 n0 _ T12.heap _
            rw [e12]
            exact ⟨by simp [own_pick, hc1_2, hc13_5, hc25_8, hc37_11], N0, rfl⟩
        · have pre13 : ∀ t, Steps p.tables e below (s₁.setTop (mkF m 49 #[.val (.int k), .unset] [(.int (4 : Int32)), (.int k)])) t → Steps p.tables e below (s₁.setTop (entryFrame m #[(.int k)] 2)) t := fun t kt => by
            refine pre10 t ?_
            show Steps p.tables e below (s₁.setTop (mkF m 37 #[.val (.int k), .unset] [(.int (3 : Int32)), (.int k)])) _
            refine XS.icmpYes X0.here hx rfl (pc0 := 37) (pc' := 47) rfl (hb hby dP_37) rfl (feq hc37_11).2 (by decide) (by decide) ?_
            show Steps p.tables e below (s₁.setTop (mkF m 47 #[.val (.int k), .unset] [])) _
            refine XS.iloadN X0.here hx rfl (hb hby dP_47) rfl ?_
            show Steps p.tables e below (s₁.setTop (mkF m 48 #[.val (.int k), .unset] [(.int k)])) _
            refine XS.iconst X0.here hx rfl (hb hby dP_48) ?_
            exact kt
          by_cases hc49_14 : k = (4 : Int32)
          · obtain ⟨T15, X15, e15, st15⟩ := getS2 X0 hx hZ hown (host := "") (Or.inl (hw _ (List.mem_of_getElem? (i := 28) rfl))) Via.refl e0 S_MAX (g := (mkF m 52 #[.val (.int k), .unset] [])) rfl (hb hby dP_52)
            obtain ⟨fs, hr, hrun, hended, hW, hsame⟩ := X15.leave (v := some (.ref w_MAX)) (fun h => by rw [Bd.returns] at h; cases h)
            refine ⟨_, _, pre13 _ ?_, hrun, hended, _, _, rfl, ?_, ⟨_, rfl⟩, hW, hsame.mono (by decide) (by decide)⟩
            · show Steps p.tables e below (s₁.setTop (mkF m 49 #[.val (.int k), .unset] [(.int (4 : Int32)), (.int k)])) _
              refine XS.icmpNo X0.here hx rfl (hb hby dP_49) rfl (teq hc49_14).2 ?_
              show Steps p.tables e below (s₁.setTop (mkF m 52 #[.val (.int k), .unset] [])) _
              refine st15 _ ?_
              show Steps p.tables e below (T15.setTop (mkF m 55 #[.val (.int k), .unset] [(.ref w_MAX)])) _
              refine XS.astoreN X15.here hx rfl (hb hby dP_55) rfl rfl (l' := #[.val (.int k), .val (.ref w_MAX)]) rfl ?_
              show Steps p.tables e below (T15.setTop (mkF m 56 #[.val (.int k), .val (.ref w_MAX)] [])) _
              refine XS.goto X15.here hx rfl (pc0 := 56) (pc' := 88) rfl (hb hby dP_56) (by decide) (by decide) ?_
              show Steps p.tables e below (T15.setTop (mkF m 88 #[.val (.int k), .val (.ref w_MAX)] [])) _
              refine XS.aloadN X15.here hx rfl (hb hby dP_88) rfl rfl ?_
              show Steps p.tables e below (T15.setTop (mkF m 89 #[.val (.int k), .val (.ref w_MAX)] [(.ref w_MAX)])) _
              exact retOut X15 hx Bd.returns rfl (Or.inr (Or.inr (Or.inr (Or.inr ⟨rfl, rfl, rfl⟩)))) (hb hby dP_89) hr
            · show QP k w_FORALL w_EXISTS w_COUNT w_MIN w_MAX w_AVG w_SUM w_FIRST h0 n0 _ T15.heap _
              rw [e15]
              exact ⟨by simp [own_pick, hc1_2, hc13_5, hc25_8, hc37_11, hc49_14], N0, rfl⟩
          · have pre16 : ∀ t, Steps p.tables e below (s₁.setTop (mkF m 61 #[.val (.int k), .unset] [(.int (5 : Int32)), (.int k)])) t → Steps p.tables e below (s₁.setTop (entryFrame m #[(.int k)] 2)) t := fun t kt => by
              refine pre13 t ?_
              show Steps p.tables e below (s₁.setTop (mkF m 49 #[.val (.int k), .unset] [(.int (4 : Int32)), (.int k)])) _
              refine XS.icmpYes X0.here hx rfl (pc0 := 49) (pc' := 59) rfl (hb hby dP_49) rfl (feq hc49_14).2 (by decide) (by decide) ?_
              show Steps p.tables e below (s₁.setTop (mkF m 59 #[.val (.int k), .unset] [])) _
              refine XS.iloadN X0.here hx rfl (hb hby dP_59) rfl ?_
              show Steps p.tables e below (s₁.setTop (mkF m 60 #[.val (.int k), .unset] [(.int k)])) _
              refine XS.iconst X0.here hx rfl (hb hby dP_60) ?_
              exact kt
            by_cases hc61_17 : k = (5 : Int32)
            · obtain ⟨T18, X18, e18, st18⟩ := getS2 X0 hx hZ hown (host := "") (Or.inl (hw _ (List.mem_of_getElem? (i := 29) rfl))) Via.refl e0 S_AVG (g := (mkF m 64 #[.val (.int k), .unset] [])) rfl (hb hby dP_64)
              obtain ⟨fs, hr, hrun, hended, hW, hsame⟩ := X18.leave (v := some (.ref w_AVG)) (fun h => by rw [Bd.returns] at h; cases h)
              refine ⟨_, _, pre16 _ ?_, hrun, hended, _, _, rfl, ?_, ⟨_, rfl⟩, hW, hsame.mono (by decide) (by decide)⟩
              · show Steps p.tables e below (s₁.setTop (mkF m 61 #[.val (.int k), .unset] [(.int (5 : Int32)), (.int k)])) _
                refine XS.icmpNo X0.here hx rfl (hb hby dP_61) rfl (teq hc61_17).2 ?_
                show Steps p.tables e below (s₁.setTop (mkF m 64 #[.val (.int k), .unset] [])) _
                refine st18 _ ?_
                show Steps p.tables e below (T18.setTop (mkF m 67 #[.val (.int k), .unset] [(.ref w_AVG)])) _
                refine XS.astoreN X18.here hx rfl (hb hby dP_67) rfl rfl (l' := #[.val (.int k), .val (.ref w_AVG)]) rfl ?_
                show Steps p.tables e below (T18.setTop (mkF m 68 #[.val (.int k), .val (.ref w_AVG)] [])) _
                refine XS.goto X18.here hx rfl (pc0 := 68) (pc' := 88) rfl (hb hby dP_68) (by decide) (by decide) ?_
                show Steps p.tables e below (T18.setTop (mkF m 88 #[.val (.int k), .val (.ref w_AVG)] [])) _
                refine XS.aloadN X18.here hx rfl (hb hby dP_88) rfl rfl ?_
                show Steps p.tables e below (T18.setTop (mkF m 89 #[.val (.int k), .val (.ref w_AVG)] [(.ref w_AVG)])) _
                exact retOut X18 hx Bd.returns rfl (Or.inr (Or.inr (Or.inr (Or.inr ⟨rfl, rfl, rfl⟩)))) (hb hby dP_89) hr
              · show QP k w_FORALL w_EXISTS w_COUNT w_MIN w_MAX w_AVG w_SUM w_FIRST h0 n0 _ T18.heap _
                rw [e18]
                exact ⟨by simp [own_pick, hc1_2, hc13_5, hc25_8, hc37_11, hc49_14, hc61_17], N0, rfl⟩
            · have pre19 : ∀ t, Steps p.tables e below (s₁.setTop (mkF m 74 #[.val (.int k), .unset] [(.int (6 : Int32)), (.int k)])) t → Steps p.tables e below (s₁.setTop (entryFrame m #[(.int k)] 2)) t := fun t kt => by
                refine pre16 t ?_
                show Steps p.tables e below (s₁.setTop (mkF m 61 #[.val (.int k), .unset] [(.int (5 : Int32)), (.int k)])) _
                refine XS.icmpYes X0.here hx rfl (pc0 := 61) (pc' := 71) rfl (hb hby dP_61) rfl (feq hc61_17).2 (by decide) (by decide) ?_
                show Steps p.tables e below (s₁.setTop (mkF m 71 #[.val (.int k), .unset] [])) _
                refine XS.iloadN X0.here hx rfl (hb hby dP_71) rfl ?_
                show Steps p.tables e below (s₁.setTop (mkF m 72 #[.val (.int k), .unset] [(.int k)])) _
                refine XS.bipush X0.here hx rfl (hb hby dP_72) ?_
                exact kt
              by_cases hc74_20 : k = (6 : Int32)
              · obtain ⟨T21, X21, e21, st21⟩ := getS2 X0 hx hZ hown (host := "") (Or.inl (hw _ (List.mem_of_getElem? (i := 21) rfl))) Via.refl e0 S_SUM (g := (mkF m 77 #[.val (.int k), .unset] [])) rfl (hb hby dP_77)
                obtain ⟨fs, hr, hrun, hended, hW, hsame⟩ := X21.leave (v := some (.ref w_SUM)) (fun h => by rw [Bd.returns] at h; cases h)
                refine ⟨_, _, pre19 _ ?_, hrun, hended, _, _, rfl, ?_, ⟨_, rfl⟩, hW, hsame.mono (by decide) (by decide)⟩
                · show Steps p.tables e below (s₁.setTop (mkF m 74 #[.val (.int k), .unset] [(.int (6 : Int32)), (.int k)])) _
                  refine XS.icmpNo X0.here hx rfl (hb hby dP_74) rfl (teq hc74_20).2 ?_
                  show Steps p.tables e below (s₁.setTop (mkF m 77 #[.val (.int k), .unset] [])) _
                  refine st21 _ ?_
                  show Steps p.tables e below (T21.setTop (mkF m 80 #[.val (.int k), .unset] [(.ref w_SUM)])) _
                  refine XS.astoreN X21.here hx rfl (hb hby dP_80) rfl rfl (l' := #[.val (.int k), .val (.ref w_SUM)]) rfl ?_
                  show Steps p.tables e below (T21.setTop (mkF m 81 #[.val (.int k), .val (.ref w_SUM)] [])) _
                  refine XS.goto X21.here hx rfl (pc0 := 81) (pc' := 88) rfl (hb hby dP_81) (by decide) (by decide) ?_
                  show Steps p.tables e below (T21.setTop (mkF m 88 #[.val (.int k), .val (.ref w_SUM)] [])) _
                  refine XS.aloadN X21.here hx rfl (hb hby dP_88) rfl rfl ?_
                  show Steps p.tables e below (T21.setTop (mkF m 89 #[.val (.int k), .val (.ref w_SUM)] [(.ref w_SUM)])) _
                  exact retOut X21 hx Bd.returns rfl (Or.inr (Or.inr (Or.inr (Or.inr ⟨rfl, rfl, rfl⟩)))) (hb hby dP_89) hr
                · show QP k w_FORALL w_EXISTS w_COUNT w_MIN w_MAX w_AVG w_SUM w_FIRST h0 n0 _ T21.heap _
                  rw [e21]
                  exact ⟨by simp [own_pick, hc1_2, hc13_5, hc25_8, hc37_11, hc49_14, hc61_17, hc74_20], N0, rfl⟩
              · obtain ⟨T22, X22, e22, st22⟩ := getS2 X0 hx hZ hown (host := "") (Or.inl (hw _ (List.mem_of_getElem? (i := 23) rfl))) Via.refl e0 S_FIRST (g := (mkF m 84 #[.val (.int k), .unset] [])) rfl (hb hby dP_84)
                obtain ⟨fs, hr, hrun, hended, hW, hsame⟩ := X22.leave (v := some (.ref w_FIRST)) (fun h => by rw [Bd.returns] at h; cases h)
                refine ⟨_, _, pre19 _ ?_, hrun, hended, _, _, rfl, ?_, ⟨_, rfl⟩, hW, hsame.mono (by decide) (by decide)⟩
                · show Steps p.tables e below (s₁.setTop (mkF m 74 #[.val (.int k), .unset] [(.int (6 : Int32)), (.int k)])) _
                  refine XS.icmpYes X0.here hx rfl (pc0 := 74) (pc' := 84) rfl (hb hby dP_74) rfl (feq hc74_20).2 (by decide) (by decide) ?_
                  show Steps p.tables e below (s₁.setTop (mkF m 84 #[.val (.int k), .unset] [])) _
                  refine st22 _ ?_
                  show Steps p.tables e below (T22.setTop (mkF m 87 #[.val (.int k), .unset] [(.ref w_FIRST)])) _
                  refine XS.astoreN X22.here hx rfl (hb hby dP_87) rfl rfl (l' := #[.val (.int k), .val (.ref w_FIRST)]) rfl ?_
                  show Steps p.tables e below (T22.setTop (mkF m 88 #[.val (.int k), .val (.ref w_FIRST)] [])) _
                  refine XS.aloadN X22.here hx rfl (hb hby dP_88) rfl rfl ?_
                  show Steps p.tables e below (T22.setTop (mkF m 89 #[.val (.int k), .val (.ref w_FIRST)] [(.ref w_FIRST)])) _
                  exact retOut X22 hx Bd.returns rfl (Or.inr (Or.inr (Or.inr (Or.inr ⟨rfl, rfl, rfl⟩)))) (hb hby dP_89) hr
                · show QP k w_FORALL w_EXISTS w_COUNT w_MIN w_MAX w_AVG w_SUM w_FIRST h0 n0 _ T22.heap _
                  rw [e22]
                  exact ⟨by simp [own_pick, hc1_2, hc13_5, hc25_8, hc37_11, hc49_14, hc61_17, hc74_20], N0, rfl⟩
theorem dN_0 : decode prog_113_method_7_code 0 = .ok (.aload_n 0, 1) := by decide +kernel
theorem dN_1 : decode prog_113_method_7_code 1 = .ok (.getstatic 13, 3) := by decide +kernel
theorem dN_4 : decode prog_113_method_7_code 4 = .ok (.if_acmp .eq 24, 3) := by decide +kernel
theorem dN_7 : decode prog_113_method_7_code 7 = .ok (.aload_n 0, 1) := by decide +kernel
theorem dN_8 : decode prog_113_method_7_code 8 = .ok (.getstatic 16, 3) := by decide +kernel
theorem dN_11 : decode prog_113_method_7_code 11 = .ok (.if_acmp .eq 17, 3) := by decide +kernel
theorem dN_14 : decode prog_113_method_7_code 14 = .ok (.aload_n 0, 1) := by decide +kernel
theorem dN_15 : decode prog_113_method_7_code 15 = .ok (.getstatic 19, 3) := by decide +kernel
theorem dN_18 : decode prog_113_method_7_code 18 = .ok (.if_acmp .eq 10, 3) := by decide +kernel
theorem dN_21 : decode prog_113_method_7_code 21 = .ok (.aload_n 0, 1) := by decide +kernel
theorem dN_22 : decode prog_113_method_7_code 22 = .ok (.getstatic 25, 3) := by decide +kernel
theorem dN_25 : decode prog_113_method_7_code 25 = .ok (.if_acmp .ne 7, 3) := by decide +kernel
theorem dN_28 : decode prog_113_method_7_code 28 = .ok (.iconst 1, 1) := by decide +kernel
theorem dN_29 : decode prog_113_method_7_code 29 = .ok (.goto 4, 3) := by decide +kernel
theorem dN_32 : decode prog_113_method_7_code 32 = .ok (.iconst 0, 1) := by decide +kernel
theorem dN_33 : decode prog_113_method_7_code 33 = .ok (.ireturn, 1) := by decide +kernel
theorem pnN : plainName "com/example/vole/vole/model/property/FilterOperator" = true := by first | (simp [plainName, overriddenIn]; done) | decide +kernel
theorem efN (m : MethodId) (a : Addr) : entryFrame m #[(.ref a)] 1 = mkF m 0 #[.val (.ref a)] [] := by first | (simp [entryFrame, mkF, argsToLocals, Value.category]; done) | rfl
def QN (a w_MIN w_MAX w_AVG w_FIRST : Addr) (h0 : Heap) (n0 : Nat) (v : Option Value) (h : Heap) (L : List Loc) : Prop := v = some (.int (own_needs a w_MIN w_MAX w_AVG w_FIRST)) ∧ Fr n0 L ∧ h = h0
set_option maxRecDepth 65536 in
set_option maxHeartbeats 40000000 in
theorem rmN (l : Launch) (Z : State) (a0 : Array Value) (hw : ∀ d ∈ tables_1, d.before a0 Z = true) (ws : List Jvm.Cond) (a : Addr) (w_MIN w_MAX w_AVG w_FIRST : Addr) (h0 : Heap) (n0 : Nat) (Z0 : n0 ≤ h0.size) (S_MIN : Sta Z h0 "com/example/vole/vole/model/property/FilterOperator" "MIN" "Lcom/example/vole/vole/model/property/FilterOperator;" (.ref w_MIN)) (S_MAX : Sta Z h0 "com/example/vole/vole/model/property/FilterOperator" "MAX" "Lcom/example/vole/vole/model/property/FilterOperator;" (.ref w_MAX)) (S_AVG : Sta Z h0 "com/example/vole/vole/model/property/FilterOperator" "AVG" "Lcom/example/vole/vole/model/property/FilterOperator;" (.ref w_AVG)) (S_FIRST : Sta Z h0 "com/example/vole/vole/model/property/FilterOperator" "FIRST" "Lcom/example/vole/vole/model/property/FilterOperator;" (.ref w_FIRST)) :
    MetFree l (⟨"com/example/vole/vole/model/property/FilterOperator", "needsAState", "()Z"⟩ : MethodName) (head1 (Jvm.Cond.code (⟨"com/example/vole/vole/model/property/FilterOperator", "needsAState", "()Z"⟩ : MethodName) prog_113_method_7_code 1 (some .boolean) :: ws) ({ frames := 0, cells := 0, slots := 0, locals := 0 } : Room)) (fun as_ U => as_ = #[(.ref a)] ∧ Z.Warmed39 U.vm ∧ U.heap = h0) (fun _ _ _ _ _ => True) (fun _ U o U' => ∃ v L, o = .returned v ∧ QN a w_MIN w_MAX w_AVG w_FIRST h0 n0 v U'.heap L ∧ FrameEnd U o U' L ({ frames := 0, cells := 0, slots := 0, locals := 0 } : Room).cells ({ frames := 0, cells := 0, slots := 0, locals := 0 } : Room).slots) := by
  refine MetFree.of_bodySF (plainFor_of_name pnN) hisR ?_
  intro p e s m args below meth c s₁ Bd hml0 hP hK
  obtain ⟨rfl, hZ, hh⟩ := hP
  have hx := Bd.exec
  have hby := Bd.bytes
  have hml : c.maxLocals = 1 := hml0
  have hown : s.vm.findClass "com/example/vole/vole/model/property/FilterOperator" = some m.cls := findClass_of_methodNamed Bd.named
  have X0 : Stand p l e ({ frames := 0, cells := 0, slots := 0, locals := 0 } : Room) s m #[(.ref a)] below meth c s₁ [] 0 0 := Stand.of_body Bd
  have e0 : s₁.heap = h0 := by rw [← hh, Bd.state]; rfl
  have N0 := Fr.nil n0
  have pre0 : ∀ t, Steps p.tables e below (s₁.setTop (mkF m 0 #[.val (.ref a)] [])) t → Steps p.tables e below (s₁.setTop (entryFrame m #[(.ref a)] 1)) t := fun t kk_ => castTop (efN m a) kk_
  obtain ⟨T1, X1, e1, st1⟩ := getS2 X0 hx hZ hown (host := "") (Or.inl (hw _ (List.mem_of_getElem? (i := 12) rfl))) Via.refl e0 S_MIN (g := (mkF m 1 #[.val (.ref a)] [(.ref a)])) rfl (hb hby dN_1)
  have pre2 : ∀ t, Steps p.tables e below (T1.setTop (mkF m 4 #[.val (.ref a)] [(.ref w_MIN), (.ref a)])) t → Steps p.tables e below (s₁.setTop (entryFrame m #[(.ref a)] 1)) t := fun t kt => by
    refine pre0 t ?_
    show Steps p.tables e below (s₁.setTop (mkF m 0 #[.val (.ref a)] [])) _
    refine XS.aloadN X0.here hx rfl (hb hby dN_0) rfl rfl ?_
    show Steps p.tables e below (s₁.setTop (mkF m 1 #[.val (.ref a)] [(.ref a)])) _
    refine st1 _ ?_
    exact kt
  by_cases hc4_3 : a = w_MIN
  · obtain ⟨fs, hr, hrun, hended, hW, hsame⟩ := X1.leave (v := some (.int (1 : Int32))) (fun h => by rw [Bd.returns] at h; cases h)
    refine ⟨_, _, pre2 _ ?_, hrun, hended, _, _, rfl, ?_, ⟨_, rfl⟩, hW, hsame.mono (by decide) (by decide)⟩
    · show Steps p.tables e below (T1.setTop (mkF m 4 #[.val (.ref a)] [(.ref w_MIN), (.ref a)])) _
      refine Jvm.RoadKit.acmp (g := (mkF m 4 #[.val (.ref a)] [(.ref w_MIN), (.ref a)])) X1 hx rfl rfl rfl (pc0 := 4) (pc' := 28) (same := true) rfl (hb hby dN_4) rfl (decide_eq_true (congrArg Value.ref hc4_3)) (by decide) (by decide) ?_
      show Steps p.tables e below (T1.setTop (mkF m 28 #[.val (.ref a)] [])) _
      refine XS.iconst X1.here hx rfl (hb hby dN_28) ?_
      show Steps p.tables e below (T1.setTop (mkF m 29 #[.val (.ref a)] [(.int (1 : Int32))])) _
      refine XS.goto X1.here hx rfl (pc0 := 29) (pc' := 33) rfl (hb hby dN_29) (by decide) (by decide) ?_
      show Steps p.tables e below (T1.setTop (mkF m 33 #[.val (.ref a)] [(.int (1 : Int32))])) _
      exact retN X1 hx (t := .boolean) Bd.returns (by simp) (hb hby dN_33) hr
    · show QN a w_MIN w_MAX w_AVG w_FIRST h0 n0 _ T1.heap _
      rw [e1]
      exact ⟨by simp [own_needs, hc4_3], N0, rfl⟩
  · obtain ⟨T4, X4, e4, st4⟩ := getS2 X1 hx hZ hown (host := "") (Or.inl (hw _ (List.mem_of_getElem? (i := 14) rfl))) Via.refl e1 S_MAX (g := (mkF m 8 #[.val (.ref a)] [(.ref a)])) rfl (hb hby dN_8)
    have pre5 : ∀ t, Steps p.tables e below (T4.setTop (mkF m 11 #[.val (.ref a)] [(.ref w_MAX), (.ref a)])) t → Steps p.tables e below (s₁.setTop (entryFrame m #[(.ref a)] 1)) t := fun t kt => by
      refine pre2 t ?_
      show Steps p.tables e below (T1.setTop (mkF m 4 #[.val (.ref a)] [(.ref w_MIN), (.ref a)])) _
      refine Jvm.RoadKit.acmp (g := (mkF m 4 #[.val (.ref a)] [(.ref w_MIN), (.ref a)])) X1 hx rfl rfl rfl (pc0 := 4) (pc' := 7) (same := false) rfl (hb hby dN_4) rfl (decide_eq_false fun q => hc4_3 (Value.ref.inj q)) (by decide) (by decide) ?_
      show Steps p.tables e below (T1.setTop (mkF m 7 #[.val (.ref a)] [])) _
      refine XS.aloadN X1.here hx rfl (hb hby dN_7) rfl rfl ?_
      show Steps p.tables e below (T1.setTop (mkF m 8 #[.val (.ref a)] [(.ref a)])) _
      refine st4 _ ?_
      exact kt
    by_cases hc11_6 : a = w_MAX
    · obtain ⟨fs, hr, hrun, hended, hW, hsame⟩ := X4.leave (v := some (.int (1 : Int32))) (fun h => by rw [Bd.returns] at h; cases h)
      refine ⟨_, _, pre5 _ ?_, hrun, hended, _, _, rfl, ?_, ⟨_, rfl⟩, hW, hsame.mono (by decide) (by decide)⟩
      · show Steps p.tables e below (T4.setTop (mkF m 11 #[.val (.ref a)] [(.ref w_MAX), (.ref a)])) _
        refine Jvm.RoadKit.acmp (g := (mkF m 11 #[.val (.ref a)] [(.ref w_MAX), (.ref a)])) X4 hx rfl rfl rfl (pc0 := 11) (pc' := 28) (same := true) rfl (hb hby dN_11) rfl (decide_eq_true (congrArg Value.ref hc11_6)) (by decide) (by decide) ?_
        show Steps p.tables e below (T4.setTop (mkF m 28 #[.val (.ref a)] [])) _
        refine XS.iconst X4.here hx rfl (hb hby dN_28) ?_
        show Steps p.tables e below (T4.setTop (mkF m 29 #[.val (.ref a)] [(.int (1 : Int32))])) _
        refine XS.goto X4.here hx rfl (pc0 := 29) (pc' := 33) rfl (hb hby dN_29) (by decide) (by decide) ?_
        show Steps p.tables e below (T4.setTop (mkF m 33 #[.val (.ref a)] [(.int (1 : Int32))])) _
        exact retN X4 hx (t := .boolean) Bd.returns (by simp) (hb hby dN_33) hr
      · show QN a w_MIN w_MAX w_AVG w_FIRST h0 n0 _ T4.heap _
        rw [e4]
        exact ⟨by simp [own_needs, hc4_3, hc11_6], N0, rfl⟩
    · obtain ⟨T7, X7, e7, st7⟩ := getS2 X4 hx hZ hown (host := "") (Or.inl (hw _ (List.mem_of_getElem? (i := 16) rfl))) Via.refl e4 S_AVG (g := (mkF m 15 #[.val (.ref a)] [(.ref a)])) rfl (hb hby dN_15)
      have pre8 : ∀ t, Steps p.tables e below (T7.setTop (mkF m 18 #[.val (.ref a)] [(.ref w_AVG), (.ref a)])) t → Steps p.tables e below (s₁.setTop (entryFrame m #[(.ref a)] 1)) t := fun t kt => by
        refine pre5 t ?_
        show Steps p.tables e below (T4.setTop (mkF m 11 #[.val (.ref a)] [(.ref w_MAX), (.ref a)])) _
        refine Jvm.RoadKit.acmp (g := (mkF m 11 #[.val (.ref a)] [(.ref w_MAX), (.ref a)])) X4 hx rfl rfl rfl (pc0 := 11) (pc' := 14) (same := false) rfl (hb hby dN_11) rfl (decide_eq_false fun q => hc11_6 (Value.ref.inj q)) (by decide) (by decide) ?_
        show Steps p.tables e below (T4.setTop (mkF m 14 #[.val (.ref a)] [])) _
        refine XS.aloadN X4.here hx rfl (hb hby dN_14) rfl rfl ?_
        show Steps p.tables e below (T4.setTop (mkF m 15 #[.val (.ref a)] [(.ref a)])) _
        refine st7 _ ?_
        exact kt
      by_cases hc18_9 : a = w_AVG
      · obtain ⟨fs, hr, hrun, hended, hW, hsame⟩ := X7.leave (v := some (.int (1 : Int32))) (fun h => by rw [Bd.returns] at h; cases h)
        refine ⟨_, _, pre8 _ ?_, hrun, hended, _, _, rfl, ?_, ⟨_, rfl⟩, hW, hsame.mono (by decide) (by decide)⟩
        · show Steps p.tables e below (T7.setTop (mkF m 18 #[.val (.ref a)] [(.ref w_AVG), (.ref a)])) _
          refine Jvm.RoadKit.acmp (g := (mkF m 18 #[.val (.ref a)] [(.ref w_AVG), (.ref a)])) X7 hx rfl rfl rfl (pc0 := 18) (pc' := 28) (same := true) rfl (hb hby dN_18) rfl (decide_eq_true (congrArg Value.ref hc18_9)) (by decide) (by decide) ?_
          show Steps p.tables e below (T7.setTop (mkF m 28 #[.val (.ref a)] [])) _
          refine XS.iconst X7.here hx rfl (hb hby dN_28) ?_
          show Steps p.tables e below (T7.setTop (mkF m 29 #[.val (.ref a)] [(.int (1 : Int32))])) _
          refine XS.goto X7.here hx rfl (pc0 := 29) (pc' := 33) rfl (hb hby dN_29) (by decide) (by decide) ?_
          show Steps p.tables e below (T7.setTop (mkF m 33 #[.val (.ref a)] [(.int (1 : Int32))])) _
          exact retN X7 hx (t := .boolean) Bd.returns (by simp) (hb hby dN_33) hr
        · show QN a w_MIN w_MAX w_AVG w_FIRST h0 n0 _ T7.heap _
          rw [e7]
          exact ⟨by simp [own_needs, hc4_3, hc11_6, hc18_9], N0, rfl⟩
      · obtain ⟨T10, X10, e10, st10⟩ := getS2 X7 hx hZ hown (host := "") (Or.inl (hw _ (List.mem_of_getElem? (i := 18) rfl))) Via.refl e7 S_FIRST (g := (mkF m 22 #[.val (.ref a)] [(.ref a)])) rfl (hb hby dN_22)
        have pre11 : ∀ t, Steps p.tables e below (T10.setTop (mkF m 25 #[.val (.ref a)] [(.ref w_FIRST), (.ref a)])) t → Steps p.tables e below (s₁.setTop (entryFrame m #[(.ref a)] 1)) t := fun t kt => by
          refine pre8 t ?_
          show Steps p.tables e below (T7.setTop (mkF m 18 #[.val (.ref a)] [(.ref w_AVG), (.ref a)])) _
          refine Jvm.RoadKit.acmp (g := (mkF m 18 #[.val (.ref a)] [(.ref w_AVG), (.ref a)])) X7 hx rfl rfl rfl (pc0 := 18) (pc' := 21) (same := false) rfl (hb hby dN_18) rfl (decide_eq_false fun q => hc18_9 (Value.ref.inj q)) (by decide) (by decide) ?_
          show Steps p.tables e below (T7.setTop (mkF m 21 #[.val (.ref a)] [])) _
          refine XS.aloadN X7.here hx rfl (hb hby dN_21) rfl rfl ?_
          show Steps p.tables e below (T7.setTop (mkF m 22 #[.val (.ref a)] [(.ref a)])) _
          refine st10 _ ?_
          exact kt
        by_cases hc25_12 : a = w_FIRST
        · obtain ⟨fs, hr, hrun, hended, hW, hsame⟩ := X10.leave (v := some (.int (1 : Int32))) (fun h => by rw [Bd.returns] at h; cases h)
          refine ⟨_, _, pre11 _ ?_, hrun, hended, _, _, rfl, ?_, ⟨_, rfl⟩, hW, hsame.mono (by decide) (by decide)⟩
          · show Steps p.tables e below (T10.setTop (mkF m 25 #[.val (.ref a)] [(.ref w_FIRST), (.ref a)])) _
            refine Jvm.RoadKit.acmp (g := (mkF m 25 #[.val (.ref a)] [(.ref w_FIRST), (.ref a)])) X10 hx rfl rfl rfl (pc0 := 25) (pc' := 28) (same := true) rfl (hb hby dN_25) rfl (decide_eq_true (congrArg Value.ref hc25_12)) (by decide) (by decide) ?_
            show Steps p.tables e below (T10.setTop (mkF m 28 #[.val (.ref a)] [])) _
            refine XS.iconst X10.here hx rfl (hb hby dN_28) ?_
            show Steps p.tables e below (T10.setTop (mkF m 29 #[.val (.ref a)] [(.int (1 : Int32))])) _
            refine XS.goto X10.here hx rfl (pc0 := 29) (pc' := 33) rfl (hb hby dN_29) (by decide) (by decide) ?_
            show Steps p.tables e below (T10.setTop (mkF m 33 #[.val (.ref a)] [(.int (1 : Int32))])) _
            exact retN X10 hx (t := .boolean) Bd.returns (by simp) (hb hby dN_33) hr
          · show QN a w_MIN w_MAX w_AVG w_FIRST h0 n0 _ T10.heap _
            rw [e10]
            exact ⟨by simp [own_needs, hc4_3, hc11_6, hc18_9, hc25_12], N0, rfl⟩
        · obtain ⟨fs, hr, hrun, hended, hW, hsame⟩ := X10.leave (v := some (.int (0 : Int32))) (fun h => by rw [Bd.returns] at h; cases h)
          refine ⟨_, _, pre11 _ ?_, hrun, hended, _, _, rfl, ?_, ⟨_, rfl⟩, hW, hsame.mono (by decide) (by decide)⟩
          · show Steps p.tables e below (T10.setTop (mkF m 25 #[.val (.ref a)] [(.ref w_FIRST), (.ref a)])) _
            refine Jvm.RoadKit.acmp (g := (mkF m 25 #[.val (.ref a)] [(.ref w_FIRST), (.ref a)])) X10 hx rfl rfl rfl (pc0 := 25) (pc' := 32) (same := false) rfl (hb hby dN_25) rfl (decide_eq_false fun q => hc25_12 (Value.ref.inj q)) (by decide) (by decide) ?_
            show Steps p.tables e below (T10.setTop (mkF m 32 #[.val (.ref a)] [])) _
            refine XS.iconst X10.here hx rfl (hb hby dN_32) ?_
            show Steps p.tables e below (T10.setTop (mkF m 33 #[.val (.ref a)] [(.int (0 : Int32))])) _
            exact retN X10 hx (t := .boolean) Bd.returns (by simp) (hb hby dN_33) hr
          · show QN a w_MIN w_MAX w_AVG w_FIRST h0 n0 _ T10.heap _
            rw [e10]
            exact ⟨by simp [own_needs, hc4_3, hc11_6, hc18_9, hc25_12], N0, rfl⟩
theorem own_yes {k : Int32} {w_FORALL w_EXISTS w_COUNT w_MIN w_MAX w_AVG w_SUM w_FIRST : Addr} (h0 : ¬ k = 0) (h1 : ¬ k = 1) (h2 : ¬ k = 2) (h6 : ¬ k = 6) : (own_needs (own_pick k w_FORALL w_EXISTS w_COUNT w_MIN w_MAX w_AVG w_SUM w_FIRST) w_MIN w_MAX w_AVG w_FIRST) = 1 := by
  simp only [own_pick, if_neg h0, if_neg h1, if_neg h2, if_neg h6]
  unfold own_needs
  repeat' split
  all_goals simp_all
theorem pn0 : plainName "com/example/vole/vole/model/property/FilterOperatorNeedsAStatePinLaw" = true := by first | (simp [plainName, overriddenIn]; done) | decide +kernel
theorem pd0_0 : parseMethodDescriptor "(I)Lcom/example/vole/vole/model/property/FilterOperator;" = some ⟨[.int], some (.object "com/example/vole/vole/model/property/FilterOperator")⟩ := by decide +kernel
theorem pd0_1 : parseMethodDescriptor "()Z" = some ⟨[], some .boolean⟩ := by decide +kernel
theorem ef0 (m : MethodId) (p1 : Int32) : entryFrame m #[(.int p1)] maxLocals = mkF m 0 #[.val (.int p1), .unset, .unset, .unset] [] := by first | (simp [entryFrame, mkF, argsToLocals, Value.category, maxLocals]; done) | rfl
def Q0  (h0 : Heap) (n0 : Nat) (v : Option Value) (h : Heap) (L : List Loc) : Prop := v = some (.int (1 : Int32)) ∧ Fr n0 L
set_option maxRecDepth 65536 in
set_option maxHeartbeats 40000000 in
theorem rm0 (l : Launch) (Z : State) (a0 : Array Value) (hw : ∀ d ∈ tables_1, d.before a0 Z = true) (ws : List Jvm.Cond) (p1 : Int32) (w_FORALL w_EXISTS w_COUNT w_MIN w_MAX w_AVG w_SUM w_FIRST : Addr) (h0 : Heap) (n0 : Nat) (Z0 : n0 ≤ h0.size) (S_FORALL : Sta Z h0 "com/example/vole/vole/model/property/FilterOperator" "FORALL" "Lcom/example/vole/vole/model/property/FilterOperator;" (.ref w_FORALL)) (S_EXISTS : Sta Z h0 "com/example/vole/vole/model/property/FilterOperator" "EXISTS" "Lcom/example/vole/vole/model/property/FilterOperator;" (.ref w_EXISTS)) (S_COUNT : Sta Z h0 "com/example/vole/vole/model/property/FilterOperator" "COUNT" "Lcom/example/vole/vole/model/property/FilterOperator;" (.ref w_COUNT)) (S_MIN : Sta Z h0 "com/example/vole/vole/model/property/FilterOperator" "MIN" "Lcom/example/vole/vole/model/property/FilterOperator;" (.ref w_MIN)) (S_MAX : Sta Z h0 "com/example/vole/vole/model/property/FilterOperator" "MAX" "Lcom/example/vole/vole/model/property/FilterOperator;" (.ref w_MAX)) (S_AVG : Sta Z h0 "com/example/vole/vole/model/property/FilterOperator" "AVG" "Lcom/example/vole/vole/model/property/FilterOperator;" (.ref w_AVG)) (S_SUM : Sta Z h0 "com/example/vole/vole/model/property/FilterOperator" "SUM" "Lcom/example/vole/vole/model/property/FilterOperator;" (.ref w_SUM)) (S_FIRST : Sta Z h0 "com/example/vole/vole/model/property/FilterOperator" "FIRST" "Lcom/example/vole/vole/model/property/FilterOperator;" (.ref w_FIRST)) (E_FORALL : Exa Z h0 w_FORALL "com/example/vole/vole/model/property/FilterOperator") (E_EXISTS : Exa Z h0 w_EXISTS "com/example/vole/vole/model/property/FilterOperator") (E_COUNT : Exa Z h0 w_COUNT "com/example/vole/vole/model/property/FilterOperator") (E_MIN : Exa Z h0 w_MIN "com/example/vole/vole/model/property/FilterOperator") (E_MAX : Exa Z h0 w_MAX "com/example/vole/vole/model/property/FilterOperator") (E_AVG : Exa Z h0 w_AVG "com/example/vole/vole/model/property/FilterOperator") (E_SUM : Exa Z h0 w_SUM "com/example/vole/vole/model/property/FilterOperator") (E_FIRST : Exa Z h0 w_FIRST "com/example/vole/vole/model/property/FilterOperator") (O_FORALL : Fld Z h0 w_FORALL "java/lang/Enum" "ordinal" "I" (.int (0 : Int32))) (O_EXISTS : Fld Z h0 w_EXISTS "java/lang/Enum" "ordinal" "I" (.int (1 : Int32))) (O_COUNT : Fld Z h0 w_COUNT "java/lang/Enum" "ordinal" "I" (.int (2 : Int32))) (O_MIN : Fld Z h0 w_MIN "java/lang/Enum" "ordinal" "I" (.int (3 : Int32))) (O_MAX : Fld Z h0 w_MAX "java/lang/Enum" "ordinal" "I" (.int (4 : Int32))) (O_AVG : Fld Z h0 w_AVG "java/lang/Enum" "ordinal" "I" (.int (5 : Int32))) (O_SUM : Fld Z h0 w_SUM "java/lang/Enum" "ordinal" "I" (.int (6 : Int32))) (O_FIRST : Fld Z h0 w_FIRST "java/lang/Enum" "ordinal" "I" (.int (7 : Int32))) :
    MetFree l x (head1 (Jvm.Cond.code x code maxLocals ret :: ws) room_1) (fun as_ U => as_ = #[(.int p1)] ∧ Z.Warmed39 U.vm ∧ U.heap = h0) (fun _ _ _ _ _ => True) (fun _ U o U' => ∃ v L, o = .returned v ∧ Q0 h0 n0 v U'.heap L ∧ FrameEnd U o U' L room_1.cells room_1.slots) := by
  refine MetFree.of_bodySF (plainFor_of_name pn0) hisR ?_
  intro p e s m args below meth c s₁ Bd hml0 hP hK
  obtain ⟨rfl, hZ, hh⟩ := hP
  have hx := Bd.exec
  have hby := Bd.bytes
  have hml : c.maxLocals = 4 := hml0
  have hown : s.vm.findClass "com/example/vole/vole/model/property/FilterOperatorNeedsAStatePinLaw" = some m.cls := findClass_of_methodNamed Bd.named
  have X0 : Stand p l e room_1 s m #[(.int p1)] below meth c s₁ [] 0 0 := Stand.of_body Bd
  have e0 : s₁.heap = h0 := by rw [← hh, Bd.state]; rfl
  have N0 := Fr.nil n0
  have pre0 : ∀ t, Steps p.tables e below (s₁.setTop (mkF m 0 #[.val (.int p1), .unset, .unset, .unset] [])) t → Steps p.tables e below (s₁.setTop (entryFrame m #[(.int p1)] maxLocals)) t := fun t kk_ => castTop (ef0 m p1) kk_
  have n_FORALL_MIN : ¬ w_FORALL = w_MIN := Fld.ne O_FORALL O_MIN (by decide)
  have n_FORALL_MAX : ¬ w_FORALL = w_MAX := Fld.ne O_FORALL O_MAX (by decide)
  have n_FORALL_AVG : ¬ w_FORALL = w_AVG := Fld.ne O_FORALL O_AVG (by decide)
  have n_FORALL_FIRST : ¬ w_FORALL = w_FIRST := Fld.ne O_FORALL O_FIRST (by decide)
  have n_EXISTS_MIN : ¬ w_EXISTS = w_MIN := Fld.ne O_EXISTS O_MIN (by decide)
  have n_EXISTS_MAX : ¬ w_EXISTS = w_MAX := Fld.ne O_EXISTS O_MAX (by decide)
  have n_EXISTS_AVG : ¬ w_EXISTS = w_AVG := Fld.ne O_EXISTS O_AVG (by decide)
  have n_EXISTS_FIRST : ¬ w_EXISTS = w_FIRST := Fld.ne O_EXISTS O_FIRST (by decide)
  have n_COUNT_MIN : ¬ w_COUNT = w_MIN := Fld.ne O_COUNT O_MIN (by decide)
  have n_COUNT_MAX : ¬ w_COUNT = w_MAX := Fld.ne O_COUNT O_MAX (by decide)
  have n_COUNT_AVG : ¬ w_COUNT = w_AVG := Fld.ne O_COUNT O_AVG (by decide)
  have n_COUNT_FIRST : ¬ w_COUNT = w_FIRST := Fld.ne O_COUNT O_FIRST (by decide)
  have n_SUM_MIN : ¬ w_SUM = w_MIN := Fld.ne O_SUM O_MIN (by decide)
  have n_SUM_MAX : ¬ w_SUM = w_MAX := Fld.ne O_SUM O_MAX (by decide)
  have n_SUM_AVG : ¬ w_SUM = w_AVG := Fld.ne O_SUM O_AVG (by decide)
  have n_SUM_FIRST : ¬ w_SUM = w_FIRST := Fld.ne O_SUM O_FIRST (by decide)
  obtain ⟨_, _, ⟨T1, L1, k1, n1⟩, -, X1, ⟨Lc1, hQ1, l1, y1, z1⟩, st1⟩ := Jvm.LawKit.callS X0 hx (y := (⟨"com/example/vole/vole/model/property/FilterOperatorNeedsAStatePinLaw", "pick", "(I)Lcom/example/vole/vole/model/property/FilterOperator;"⟩ : MethodName)) hown (mvT hZ (hw _ (List.mem_of_getElem? (i := 0) rfl))) (mvT hZ (hw _ (List.mem_of_getElem? (i := 1) rfl))) (mvT hZ (hw _ (List.mem_of_getElem? (i := 2) rfl))) (mvT hZ (hw _ (List.mem_of_getElem? (i := 3) rfl))) (by decide) (backOf (W := 0) (rmP l Z a0 hw [] (p1 &&& (7 : Int32)) w_FORALL w_EXISTS w_COUNT w_MIN w_MAX w_AVG w_SUM w_FIRST h0 n0 Z0 S_FORALL S_EXISTS S_COUNT S_MIN S_MAX S_AVG S_SUM S_FIRST) hZ (hw _ (List.mem_of_getElem? (i := 3) rfl)) (hw _ (List.mem_of_getElem? (i := 2) rfl)) (by decide) (by decide)) (g := (mkF m 6 #[.val (.int p1), .val (.int (p1 &&& (7 : Int32))), .unset, .unset] [(.int (p1 &&& (7 : Int32)))])) rfl (by rw [hml]; rfl) (argsL := [(.int (p1 &&& (7 : Int32)))]) (rest := []) (lenOf pd0_0 rfl) rfl (by show 2 * 0 + _ ≤ _; exact Nat.le_of_eq rfl) (hb hby at_6) (fun _ _ => ⟨rfl, e0, (by decide : 0 + 0 ≤ _), (by decide : 0 + 0 ≤ _)⟩)
  dsimp only [Pt.U, Pt.locs, Pt.cells, Pt.slots] at X1 l1 y1 z1 st1 hQ1
  subst l1 y1 z1
  obtain ⟨rfl, N1q, eh1⟩ := hQ1
  have N1 := Fr.app N0 N1q
  have pre2 : ∀ t, Steps p.tables e below (T1.setTop (mkF m 11 #[.val (.int p1), .val (.int (p1 &&& (7 : Int32))), .val (.ref (own_pick (p1 &&& (7 : Int32)) w_FORALL w_EXISTS w_COUNT w_MIN w_MAX w_AVG w_SUM w_FIRST)), .unset] [(.int (p1 &&& (7 : Int32)))])) t → Steps p.tables e below (s₁.setTop (entryFrame m #[(.int p1)] maxLocals)) t := fun t kt => by
    refine pre0 t ?_
    show Steps p.tables e below (s₁.setTop (mkF m 0 #[.val (.int p1), .unset, .unset, .unset] [])) _
    refine XS.iloadN X0.here hx rfl (hb hby at_0) rfl ?_
    show Steps p.tables e below (s₁.setTop (mkF m 1 #[.val (.int p1), .unset, .unset, .unset] [(.int p1)])) _
    refine XS.bipush X0.here hx rfl (hb hby at_1) ?_
    show Steps p.tables e below (s₁.setTop (mkF m 3 #[.val (.int p1), .unset, .unset, .unset] [(.int (7 : Int32)), (.int p1)])) _
    refine XS.iand X0.here hx rfl (hb hby at_3) rfl ?_
    show Steps p.tables e below (s₁.setTop (mkF m 4 #[.val (.int p1), .unset, .unset, .unset] [(.int (p1 &&& (7 : Int32)))])) _
    refine XS.istoreN X0.here hx rfl (hb hby at_4) rfl (l' := #[.val (.int p1), .val (.int (p1 &&& (7 : Int32))), .unset, .unset]) rfl ?_
    show Steps p.tables e below (s₁.setTop (mkF m 5 #[.val (.int p1), .val (.int (p1 &&& (7 : Int32))), .unset, .unset] [])) _
    refine XS.iloadN X0.here hx rfl (hb hby at_5) rfl ?_
    show Steps p.tables e below (s₁.setTop (mkF m 6 #[.val (.int p1), .val (.int (p1 &&& (7 : Int32))), .unset, .unset] [(.int (p1 &&& (7 : Int32)))])) _
    refine st1 _ ?_
    show Steps p.tables e below (T1.setTop (mkF m 9 #[.val (.int p1), .val (.int (p1 &&& (7 : Int32))), .unset, .unset] [(.ref (own_pick (p1 &&& (7 : Int32)) w_FORALL w_EXISTS w_COUNT w_MIN w_MAX w_AVG w_SUM w_FIRST))])) _
    refine XS.astoreN X1.here hx rfl (hb hby at_9) rfl rfl (l' := #[.val (.int p1), .val (.int (p1 &&& (7 : Int32))), .val (.ref (own_pick (p1 &&& (7 : Int32)) w_FORALL w_EXISTS w_COUNT w_MIN w_MAX w_AVG w_SUM w_FIRST)), .unset]) rfl ?_
    show Steps p.tables e below (T1.setTop (mkF m 10 #[.val (.int p1), .val (.int (p1 &&& (7 : Int32))), .val (.ref (own_pick (p1 &&& (7 : Int32)) w_FORALL w_EXISTS w_COUNT w_MIN w_MAX w_AVG w_SUM w_FIRST)), .unset] [])) _
    refine XS.iloadN X1.here hx rfl (hb hby at_10) rfl ?_
    exact kt
  by_cases hc11_3 : (p1 &&& (7 : Int32)) = (0 : Int32)
  · obtain ⟨cq4, kq4, q4a, q4b, q4c⟩ := isOf hZ eh1 (own_pick_of (P := fun a => Exa Z h0 a "com/example/vole/vole/model/property/FilterOperator") E_FORALL E_EXISTS E_COUNT E_MIN E_MAX E_AVG E_SUM E_FIRST)
    obtain ⟨_, _, ⟨T4, L4, k4, n4⟩, -, X4, ⟨Lc4, hQ4, l4, y4, z4⟩, st4⟩ := X1.virtualBack hx (y := (⟨"com/example/vole/vole/model/property/FilterOperator", "needsAState", "()Z"⟩ : MethodName)) (z := (⟨"com/example/vole/vole/model/property/FilterOperator", "needsAState", "()Z"⟩ : MethodName)) hown (mvT hZ (hw _ (List.mem_of_getElem? (i := 7) rfl))) (mvT hZ (hw _ (List.mem_of_getElem? (i := 8) rfl))) (notFace_of_selects (args := #[]) (mvT hZ (hw _ (List.mem_of_getElem? (i := 10) rfl)))) (mvT hZ (hw _ (List.mem_of_getElem? (i := 10) rfl))) (mvT hZ (hw _ (List.mem_of_getElem? (i := 9) rfl))) (by decide) (backOf (W := 0) (rmN l Z a0 hw [] (own_pick (p1 &&& (7 : Int32)) w_FORALL w_EXISTS w_COUNT w_MIN w_MAX w_AVG w_SUM w_FIRST) w_MIN w_MAX w_AVG w_FIRST h0 n0 Z0 S_MIN S_MAX S_AVG S_FIRST) hZ (hw _ (List.mem_of_getElem? (i := 11) rfl)) (hw _ (List.mem_of_getElem? (i := 5) rfl)) (by decide) (by decide)) q4a q4c (g := (mkF m 37 #[.val (.int p1), .val (.int (p1 &&& (7 : Int32))), .val (.ref (own_pick (p1 &&& (7 : Int32)) w_FORALL w_EXISTS w_COUNT w_MIN w_MAX w_AVG w_SUM w_FIRST)), .val (.int (1 : Int32))] [(.ref (own_pick (p1 &&& (7 : Int32)) w_FORALL w_EXISTS w_COUNT w_MIN w_MAX w_AVG w_SUM w_FIRST))])) rfl (by rw [hml]; rfl) (Steps.refl _) (argsL := []) (rest := []) (lenOf pd0_1 rfl) rfl (by show 2 * 0 + _ ≤ _; exact Nat.le_of_eq rfl) (hb hby at_37) (fun _ _ => ⟨rfl, eh1, (by decide : 0 + 0 ≤ _), (by decide : 0 + 0 ≤ _)⟩)
    dsimp only [Pt.U, Pt.locs, Pt.cells, Pt.slots] at X4 l4 y4 z4 st4 hQ4
    subst l4 y4 z4
    obtain ⟨rfl, N4q, eh4⟩ := hQ4
    have N4 := Fr.app N1 N4q
    obtain ⟨fs, hr, hrun, hended, hW, hsame⟩ := X4.leave (v := some (.int (1 : Int32))) (fun h => by rw [Bd.returns] at h; cases h)
    refine ⟨_, _, pre2 _ ?_, hrun, hended, _, _, rfl, ?_, ⟨_, rfl⟩, hW, hsame.mono (by decide) (by decide)⟩
    · show Steps p.tables e below (T1.setTop (mkF m 11 #[.val (.int p1), .val (.int (p1 &&& (7 : Int32))), .val (.ref (own_pick (p1 &&& (7 : Int32)) w_FORALL w_EXISTS w_COUNT w_MIN w_MAX w_AVG w_SUM w_FIRST)), .unset] [(.int (p1 &&& (7 : Int32)))])) _
      refine XS.ifYes X1.here hx rfl (pc0 := 11) (pc' := 30) rfl (hb hby at_11) rfl ((if0 _ _).trans (teq hc11_3).1) (by decide) (by decide) ?_
      show Steps p.tables e below (T1.setTop (mkF m 30 #[.val (.int p1), .val (.int (p1 &&& (7 : Int32))), .val (.ref (own_pick (p1 &&& (7 : Int32)) w_FORALL w_EXISTS w_COUNT w_MIN w_MAX w_AVG w_SUM w_FIRST)), .unset] [])) _
      refine XS.iconst X1.here hx rfl (hb hby at_30) ?_
      show Steps p.tables e below (T1.setTop (mkF m 31 #[.val (.int p1), .val (.int (p1 &&& (7 : Int32))), .val (.ref (own_pick (p1 &&& (7 : Int32)) w_FORALL w_EXISTS w_COUNT w_MIN w_MAX w_AVG w_SUM w_FIRST)), .unset] [(.int (1 : Int32))])) _
      refine XS.goto X1.here hx rfl (pc0 := 31) (pc' := 35) rfl (hb hby at_31) (by decide) (by decide) ?_
      show Steps p.tables e below (T1.setTop (mkF m 35 #[.val (.int p1), .val (.int (p1 &&& (7 : Int32))), .val (.ref (own_pick (p1 &&& (7 : Int32)) w_FORALL w_EXISTS w_COUNT w_MIN w_MAX w_AVG w_SUM w_FIRST)), .unset] [(.int (1 : Int32))])) _
      refine XS.istoreN X1.here hx rfl (hb hby at_35) rfl (l' := #[.val (.int p1), .val (.int (p1 &&& (7 : Int32))), .val (.ref (own_pick (p1 &&& (7 : Int32)) w_FORALL w_EXISTS w_COUNT w_MIN w_MAX w_AVG w_SUM w_FIRST)), .val (.int (1 : Int32))]) rfl ?_
      show Steps p.tables e below (T1.setTop (mkF m 36 #[.val (.int p1), .val (.int (p1 &&& (7 : Int32))), .val (.ref (own_pick (p1 &&& (7 : Int32)) w_FORALL w_EXISTS w_COUNT w_MIN w_MAX w_AVG w_SUM w_FIRST)), .val (.int (1 : Int32))] [])) _
      refine XS.aloadN X1.here hx rfl (hb hby at_36) rfl rfl ?_
      show Steps p.tables e below (T1.setTop (mkF m 37 #[.val (.int p1), .val (.int (p1 &&& (7 : Int32))), .val (.ref (own_pick (p1 &&& (7 : Int32)) w_FORALL w_EXISTS w_COUNT w_MIN w_MAX w_AVG w_SUM w_FIRST)), .val (.int (1 : Int32))] [(.ref (own_pick (p1 &&& (7 : Int32)) w_FORALL w_EXISTS w_COUNT w_MIN w_MAX w_AVG w_SUM w_FIRST))])) _
      refine st4.trans ?_
      show Steps p.tables e below (T4.setTop (mkF m 40 #[.val (.int p1), .val (.int (p1 &&& (7 : Int32))), .val (.ref (own_pick (p1 &&& (7 : Int32)) w_FORALL w_EXISTS w_COUNT w_MIN w_MAX w_AVG w_SUM w_FIRST)), .val (.int (1 : Int32))] [(.int (own_needs (own_pick (p1 &&& (7 : Int32)) w_FORALL w_EXISTS w_COUNT w_MIN w_MAX w_AVG w_SUM w_FIRST) w_MIN w_MAX w_AVG w_FIRST))])) _
      refine XS.iloadN X4.here hx rfl (hb hby at_40) rfl ?_
      show Steps p.tables e below (T4.setTop (mkF m 41 #[.val (.int p1), .val (.int (p1 &&& (7 : Int32))), .val (.ref (own_pick (p1 &&& (7 : Int32)) w_FORALL w_EXISTS w_COUNT w_MIN w_MAX w_AVG w_SUM w_FIRST)), .val (.int (1 : Int32))] [(.int (1 : Int32)), (.int (own_needs (own_pick (p1 &&& (7 : Int32)) w_FORALL w_EXISTS w_COUNT w_MIN w_MAX w_AVG w_SUM w_FIRST) w_MIN w_MAX w_AVG w_FIRST))])) _
      refine XS.ifYes X4.here hx rfl (pc0 := 41) (pc' := 48) rfl (hb hby at_41) rfl ((if0 _ _).trans (feq (by decide : ¬ ((1 : Int32) = (0 : Int32)))).2) (by decide) (by decide) ?_
      show Steps p.tables e below (T4.setTop (mkF m 48 #[.val (.int p1), .val (.int (p1 &&& (7 : Int32))), .val (.ref (own_pick (p1 &&& (7 : Int32)) w_FORALL w_EXISTS w_COUNT w_MIN w_MAX w_AVG w_SUM w_FIRST)), .val (.int (1 : Int32))] [(.int (own_needs (own_pick (p1 &&& (7 : Int32)) w_FORALL w_EXISTS w_COUNT w_MIN w_MAX w_AVG w_SUM w_FIRST) w_MIN w_MAX w_AVG w_FIRST))])) _
      refine XS.iconst X4.here hx rfl (hb hby at_48) ?_
      show Steps p.tables e below (T4.setTop (mkF m 49 #[.val (.int p1), .val (.int (p1 &&& (7 : Int32))), .val (.ref (own_pick (p1 &&& (7 : Int32)) w_FORALL w_EXISTS w_COUNT w_MIN w_MAX w_AVG w_SUM w_FIRST)), .val (.int (1 : Int32))] [(.int (0 : Int32)), (.int (own_needs (own_pick (p1 &&& (7 : Int32)) w_FORALL w_EXISTS w_COUNT w_MIN w_MAX w_AVG w_SUM w_FIRST) w_MIN w_MAX w_AVG w_FIRST))])) _
      refine XS.icmpNo X4.here hx rfl (hb hby at_49) rfl (teq (by simp [own_needs, own_pick, hc11_3, n_FORALL_MIN, n_FORALL_MAX, n_FORALL_AVG, n_FORALL_FIRST, n_EXISTS_MIN, n_EXISTS_MAX, n_EXISTS_AVG, n_EXISTS_FIRST, n_COUNT_MIN, n_COUNT_MAX, n_COUNT_AVG, n_COUNT_FIRST, n_SUM_MIN, n_SUM_MAX, n_SUM_AVG, n_SUM_FIRST] : (own_needs (own_pick (p1 &&& (7 : Int32)) w_FORALL w_EXISTS w_COUNT w_MIN w_MAX w_AVG w_SUM w_FIRST) w_MIN w_MAX w_AVG w_FIRST) = (0 : Int32))).2 ?_
      show Steps p.tables e below (T4.setTop (mkF m 52 #[.val (.int p1), .val (.int (p1 &&& (7 : Int32))), .val (.ref (own_pick (p1 &&& (7 : Int32)) w_FORALL w_EXISTS w_COUNT w_MIN w_MAX w_AVG w_SUM w_FIRST)), .val (.int (1 : Int32))] [])) _
      refine XS.iconst X4.here hx rfl (hb hby at_52) ?_
      show Steps p.tables e below (T4.setTop (mkF m 53 #[.val (.int p1), .val (.int (p1 &&& (7 : Int32))), .val (.ref (own_pick (p1 &&& (7 : Int32)) w_FORALL w_EXISTS w_COUNT w_MIN w_MAX w_AVG w_SUM w_FIRST)), .val (.int (1 : Int32))] [(.int (1 : Int32))])) _
      refine XS.goto X4.here hx rfl (pc0 := 53) (pc' := 57) rfl (hb hby at_53) (by decide) (by decide) ?_
      show Steps p.tables e below (T4.setTop (mkF m 57 #[.val (.int p1), .val (.int (p1 &&& (7 : Int32))), .val (.ref (own_pick (p1 &&& (7 : Int32)) w_FORALL w_EXISTS w_COUNT w_MIN w_MAX w_AVG w_SUM w_FIRST)), .val (.int (1 : Int32))] [(.int (1 : Int32))])) _
      exact retN X4 hx (t := .boolean) Bd.returns (by simp) (hb hby at_57) hr
    · show Q0 h0 n0 _ T4.heap _
      rw [eh4]
      exact ⟨rfl, N4⟩
  · have pre5 : ∀ t, Steps p.tables e below (T1.setTop (mkF m 16 #[.val (.int p1), .val (.int (p1 &&& (7 : Int32))), .val (.ref (own_pick (p1 &&& (7 : Int32)) w_FORALL w_EXISTS w_COUNT w_MIN w_MAX w_AVG w_SUM w_FIRST)), .unset] [(.int (1 : Int32)), (.int (p1 &&& (7 : Int32)))])) t → Steps p.tables e below (s₁.setTop (entryFrame m #[(.int p1)] maxLocals)) t := fun t kt => by
      refine pre2 t ?_
      show Steps p.tables e below (T1.setTop (mkF m 11 #[.val (.int p1), .val (.int (p1 &&& (7 : Int32))), .val (.ref (own_pick (p1 &&& (7 : Int32)) w_FORALL w_EXISTS w_COUNT w_MIN w_MAX w_AVG w_SUM w_FIRST)), .unset] [(.int (p1 &&& (7 : Int32)))])) _
      refine XS.ifNo X1.here hx rfl (hb hby at_11) rfl ((if0 _ _).trans (feq hc11_3).1) ?_
      show Steps p.tables e below (T1.setTop (mkF m 14 #[.val (.int p1), .val (.int (p1 &&& (7 : Int32))), .val (.ref (own_pick (p1 &&& (7 : Int32)) w_FORALL w_EXISTS w_COUNT w_MIN w_MAX w_AVG w_SUM w_FIRST)), .unset] [])) _
      refine XS.iloadN X1.here hx rfl (hb hby at_14) rfl ?_
      show Steps p.tables e below (T1.setTop (mkF m 15 #[.val (.int p1), .val (.int (p1 &&& (7 : Int32))), .val (.ref (own_pick (p1 &&& (7 : Int32)) w_FORALL w_EXISTS w_COUNT w_MIN w_MAX w_AVG w_SUM w_FIRST)), .unset] [(.int (p1 &&& (7 : Int32)))])) _
      refine XS.iconst X1.here hx rfl (hb hby at_15) ?_
      exact kt
    by_cases hc16_6 : (p1 &&& (7 : Int32)) = (1 : Int32)
    · obtain ⟨cq7, kq7, q7a, q7b, q7c⟩ := isOf hZ eh1 (own_pick_of (P := fun a => Exa Z h0 a "com/example/vole/vole/model/property/FilterOperator") E_FORALL E_EXISTS E_COUNT E_MIN E_MAX E_AVG E_SUM E_FIRST)
      obtain ⟨_, _, ⟨T7, L7, k7, n7⟩, -, X7, ⟨Lc7, hQ7, l7, y7, z7⟩, st7⟩ := X1.virtualBack hx (y := (⟨"com/example/vole/vole/model/property/FilterOperator", "needsAState", "()Z"⟩ : MethodName)) (z := (⟨"com/example/vole/vole/model/property/FilterOperator", "needsAState", "()Z"⟩ : MethodName)) hown (mvT hZ (hw _ (List.mem_of_getElem? (i := 7) rfl))) (mvT hZ (hw _ (List.mem_of_getElem? (i := 8) rfl))) (notFace_of_selects (args := #[]) (mvT hZ (hw _ (List.mem_of_getElem? (i := 10) rfl)))) (mvT hZ (hw _ (List.mem_of_getElem? (i := 10) rfl))) (mvT hZ (hw _ (List.mem_of_getElem? (i := 9) rfl))) (by decide) (backOf (W := 0) (rmN l Z a0 hw [] (own_pick (p1 &&& (7 : Int32)) w_FORALL w_EXISTS w_COUNT w_MIN w_MAX w_AVG w_SUM w_FIRST) w_MIN w_MAX w_AVG w_FIRST h0 n0 Z0 S_MIN S_MAX S_AVG S_FIRST) hZ (hw _ (List.mem_of_getElem? (i := 11) rfl)) (hw _ (List.mem_of_getElem? (i := 5) rfl)) (by decide) (by decide)) q7a q7c (g := (mkF m 37 #[.val (.int p1), .val (.int (p1 &&& (7 : Int32))), .val (.ref (own_pick (p1 &&& (7 : Int32)) w_FORALL w_EXISTS w_COUNT w_MIN w_MAX w_AVG w_SUM w_FIRST)), .val (.int (1 : Int32))] [(.ref (own_pick (p1 &&& (7 : Int32)) w_FORALL w_EXISTS w_COUNT w_MIN w_MAX w_AVG w_SUM w_FIRST))])) rfl (by rw [hml]; rfl) (Steps.refl _) (argsL := []) (rest := []) (lenOf pd0_1 rfl) rfl (by show 2 * 0 + _ ≤ _; exact Nat.le_of_eq rfl) (hb hby at_37) (fun _ _ => ⟨rfl, eh1, (by decide : 0 + 0 ≤ _), (by decide : 0 + 0 ≤ _)⟩)
      dsimp only [Pt.U, Pt.locs, Pt.cells, Pt.slots] at X7 l7 y7 z7 st7 hQ7
      subst l7 y7 z7
      obtain ⟨rfl, N7q, eh7⟩ := hQ7
      have N7 := Fr.app N1 N7q
      obtain ⟨fs, hr, hrun, hended, hW, hsame⟩ := X7.leave (v := some (.int (1 : Int32))) (fun h => by rw [Bd.returns] at h; cases h)
      refine ⟨_, _, pre5 _ ?_, hrun, hended, _, _, rfl, ?_, ⟨_, rfl⟩, hW, hsame.mono (by decide) (by decide)⟩
      · show Steps p.tables e below (T1.setTop (mkF m 16 #[.val (.int p1), .val (.int (p1 &&& (7 : Int32))), .val (.ref (own_pick (p1 &&& (7 : Int32)) w_FORALL w_EXISTS w_COUNT w_MIN w_MAX w_AVG w_SUM w_FIRST)), .unset] [(.int (1 : Int32)), (.int (p1 &&& (7 : Int32)))])) _
        refine XS.icmpYes X1.here hx rfl (pc0 := 16) (pc' := 30) rfl (hb hby at_16) rfl (teq hc16_6).1 (by decide) (by decide) ?_
        show Steps p.tables e below (T1.setTop (mkF m 30 #[.val (.int p1), .val (.int (p1 &&& (7 : Int32))), .val (.ref (own_pick (p1 &&& (7 : Int32)) w_FORALL w_EXISTS w_COUNT w_MIN w_MAX w_AVG w_SUM w_FIRST)), .unset] [])) _
        refine XS.iconst X1.here hx rfl (hb hby at_30) ?_
        show Steps p.tables e below (T1.setTop (mkF m 31 #[.val (.int p1), .val (.int (p1 &&& (7 : Int32))), .val (.ref (own_pick (p1 &&& (7 : Int32)) w_FORALL w_EXISTS w_COUNT w_MIN w_MAX w_AVG w_SUM w_FIRST)), .unset] [(.int (1 : Int32))])) _
        refine XS.goto X1.here hx rfl (pc0 := 31) (pc' := 35) rfl (hb hby at_31) (by decide) (by decide) ?_
        show Steps p.tables e below (T1.setTop (mkF m 35 #[.val (.int p1), .val (.int (p1 &&& (7 : Int32))), .val (.ref (own_pick (p1 &&& (7 : Int32)) w_FORALL w_EXISTS w_COUNT w_MIN w_MAX w_AVG w_SUM w_FIRST)), .unset] [(.int (1 : Int32))])) _
        refine XS.istoreN X1.here hx rfl (hb hby at_35) rfl (l' := #[.val (.int p1), .val (.int (p1 &&& (7 : Int32))), .val (.ref (own_pick (p1 &&& (7 : Int32)) w_FORALL w_EXISTS w_COUNT w_MIN w_MAX w_AVG w_SUM w_FIRST)), .val (.int (1 : Int32))]) rfl ?_
        show Steps p.tables e below (T1.setTop (mkF m 36 #[.val (.int p1), .val (.int (p1 &&& (7 : Int32))), .val (.ref (own_pick (p1 &&& (7 : Int32)) w_FORALL w_EXISTS w_COUNT w_MIN w_MAX w_AVG w_SUM w_FIRST)), .val (.int (1 : Int32))] [])) _
        refine XS.aloadN X1.here hx rfl (hb hby at_36) rfl rfl ?_
        show Steps p.tables e below (T1.setTop (mkF m 37 #[.val (.int p1), .val (.int (p1 &&& (7 : Int32))), .val (.ref (own_pick (p1 &&& (7 : Int32)) w_FORALL w_EXISTS w_COUNT w_MIN w_MAX w_AVG w_SUM w_FIRST)), .val (.int (1 : Int32))] [(.ref (own_pick (p1 &&& (7 : Int32)) w_FORALL w_EXISTS w_COUNT w_MIN w_MAX w_AVG w_SUM w_FIRST))])) _
        refine st7.trans ?_
        show Steps p.tables e below (T7.setTop (mkF m 40 #[.val (.int p1), .val (.int (p1 &&& (7 : Int32))), .val (.ref (own_pick (p1 &&& (7 : Int32)) w_FORALL w_EXISTS w_COUNT w_MIN w_MAX w_AVG w_SUM w_FIRST)), .val (.int (1 : Int32))] [(.int (own_needs (own_pick (p1 &&& (7 : Int32)) w_FORALL w_EXISTS w_COUNT w_MIN w_MAX w_AVG w_SUM w_FIRST) w_MIN w_MAX w_AVG w_FIRST))])) _
        refine XS.iloadN X7.here hx rfl (hb hby at_40) rfl ?_
        show Steps p.tables e below (T7.setTop (mkF m 41 #[.val (.int p1), .val (.int (p1 &&& (7 : Int32))), .val (.ref (own_pick (p1 &&& (7 : Int32)) w_FORALL w_EXISTS w_COUNT w_MIN w_MAX w_AVG w_SUM w_FIRST)), .val (.int (1 : Int32))] [(.int (1 : Int32)), (.int (own_needs (own_pick (p1 &&& (7 : Int32)) w_FORALL w_EXISTS w_COUNT w_MIN w_MAX w_AVG w_SUM w_FIRST) w_MIN w_MAX w_AVG w_FIRST))])) _
        refine XS.ifYes X7.here hx rfl (pc0 := 41) (pc' := 48) rfl (hb hby at_41) rfl ((if0 _ _).trans (feq (by decide : ¬ ((1 : Int32) = (0 : Int32)))).2) (by decide) (by decide) ?_
        show Steps p.tables e below (T7.setTop (mkF m 48 #[.val (.int p1), .val (.int (p1 &&& (7 : Int32))), .val (.ref (own_pick (p1 &&& (7 : Int32)) w_FORALL w_EXISTS w_COUNT w_MIN w_MAX w_AVG w_SUM w_FIRST)), .val (.int (1 : Int32))] [(.int (own_needs (own_pick (p1 &&& (7 : Int32)) w_FORALL w_EXISTS w_COUNT w_MIN w_MAX w_AVG w_SUM w_FIRST) w_MIN w_MAX w_AVG w_FIRST))])) _
        refine XS.iconst X7.here hx rfl (hb hby at_48) ?_
        show Steps p.tables e below (T7.setTop (mkF m 49 #[.val (.int p1), .val (.int (p1 &&& (7 : Int32))), .val (.ref (own_pick (p1 &&& (7 : Int32)) w_FORALL w_EXISTS w_COUNT w_MIN w_MAX w_AVG w_SUM w_FIRST)), .val (.int (1 : Int32))] [(.int (0 : Int32)), (.int (own_needs (own_pick (p1 &&& (7 : Int32)) w_FORALL w_EXISTS w_COUNT w_MIN w_MAX w_AVG w_SUM w_FIRST) w_MIN w_MAX w_AVG w_FIRST))])) _
        refine XS.icmpNo X7.here hx rfl (hb hby at_49) rfl (teq (by simp [own_needs, own_pick, hc11_3, hc16_6, n_FORALL_MIN, n_FORALL_MAX, n_FORALL_AVG, n_FORALL_FIRST, n_EXISTS_MIN, n_EXISTS_MAX, n_EXISTS_AVG, n_EXISTS_FIRST, n_COUNT_MIN, n_COUNT_MAX, n_COUNT_AVG, n_COUNT_FIRST, n_SUM_MIN, n_SUM_MAX, n_SUM_AVG, n_SUM_FIRST] : (own_needs (own_pick (p1 &&& (7 : Int32)) w_FORALL w_EXISTS w_COUNT w_MIN w_MAX w_AVG w_SUM w_FIRST) w_MIN w_MAX w_AVG w_FIRST) = (0 : Int32))).2 ?_
        show Steps p.tables e below (T7.setTop (mkF m 52 #[.val (.int p1), .val (.int (p1 &&& (7 : Int32))), .val (.ref (own_pick (p1 &&& (7 : Int32)) w_FORALL w_EXISTS w_COUNT w_MIN w_MAX w_AVG w_SUM w_FIRST)), .val (.int (1 : Int32))] [])) _
        refine XS.iconst X7.here hx rfl (hb hby at_52) ?_
        show Steps p.tables e below (T7.setTop (mkF m 53 #[.val (.int p1), .val (.int (p1 &&& (7 : Int32))), .val (.ref (own_pick (p1 &&& (7 : Int32)) w_FORALL w_EXISTS w_COUNT w_MIN w_MAX w_AVG w_SUM w_FIRST)), .val (.int (1 : Int32))] [(.int (1 : Int32))])) _
        refine XS.goto X7.here hx rfl (pc0 := 53) (pc' := 57) rfl (hb hby at_53) (by decide) (by decide) ?_
        show Steps p.tables e below (T7.setTop (mkF m 57 #[.val (.int p1), .val (.int (p1 &&& (7 : Int32))), .val (.ref (own_pick (p1 &&& (7 : Int32)) w_FORALL w_EXISTS w_COUNT w_MIN w_MAX w_AVG w_SUM w_FIRST)), .val (.int (1 : Int32))] [(.int (1 : Int32))])) _
        exact retN X7 hx (t := .boolean) Bd.returns (by simp) (hb hby at_57) hr
      · show Q0 h0 n0 _ T7.heap _
        rw [eh7]
        exact ⟨rfl, N7⟩
    · have pre8 : ∀ t, Steps p.tables e below (T1.setTop (mkF m 21 #[.val (.int p1), .val (.int (p1 &&& (7 : Int32))), .val (.ref (own_pick (p1 &&& (7 : Int32)) w_FORALL w_EXISTS w_COUNT w_MIN w_MAX w_AVG w_SUM w_FIRST)), .unset] [(.int (2 : Int32)), (.int (p1 &&& (7 : Int32)))])) t → Steps p.tables e below (s₁.setTop (entryFrame m #[(.int p1)] maxLocals)) t := fun t kt => by
        refine pre5 t ?_
        show Steps p.tables e below (T1.setTop (mkF m 16 #[.val (.int p1), .val (.int (p1 &&& (7 : Int32))), .val (.ref (own_pick (p1 &&& (7 : Int32)) w_FORALL w_EXISTS w_COUNT w_MIN w_MAX w_AVG w_SUM w_FIRST)), .unset] [(.int (1 : Int32)), (.int (p1 &&& (7 : Int32)))])) _
        refine XS.icmpNo X1.here hx rfl (hb hby at_16) rfl (feq hc16_6).1 ?_
        show Steps p.tables e below (T1.setTop (mkF m 19 #[.val (.int p1), .val (.int (p1 &&& (7 : Int32))), .val (.ref (own_pick (p1 &&& (7 : Int32)) w_FORALL w_EXISTS w_COUNT w_MIN w_MAX w_AVG w_SUM w_FIRST)), .unset] [])) _
        refine XS.iloadN X1.here hx rfl (hb hby at_19) rfl ?_
        show Steps p.tables e below (T1.setTop (mkF m 20 #[.val (.int p1), .val (.int (p1 &&& (7 : Int32))), .val (.ref (own_pick (p1 &&& (7 : Int32)) w_FORALL w_EXISTS w_COUNT w_MIN w_MAX w_AVG w_SUM w_FIRST)), .unset] [(.int (p1 &&& (7 : Int32)))])) _
        refine XS.iconst X1.here hx rfl (hb hby at_20) ?_
        exact kt
      by_cases hc21_9 : (p1 &&& (7 : Int32)) = (2 : Int32)
      · obtain ⟨cq10, kq10, q10a, q10b, q10c⟩ := isOf hZ eh1 (own_pick_of (P := fun a => Exa Z h0 a "com/example/vole/vole/model/property/FilterOperator") E_FORALL E_EXISTS E_COUNT E_MIN E_MAX E_AVG E_SUM E_FIRST)
        obtain ⟨_, _, ⟨T10, L10, k10, n10⟩, -, X10, ⟨Lc10, hQ10, l10, y10, z10⟩, st10⟩ := X1.virtualBack hx (y := (⟨"com/example/vole/vole/model/property/FilterOperator", "needsAState", "()Z"⟩ : MethodName)) (z := (⟨"com/example/vole/vole/model/property/FilterOperator", "needsAState", "()Z"⟩ : MethodName)) hown (mvT hZ (hw _ (List.mem_of_getElem? (i := 7) rfl))) (mvT hZ (hw _ (List.mem_of_getElem? (i := 8) rfl))) (notFace_of_selects (args := #[]) (mvT hZ (hw _ (List.mem_of_getElem? (i := 10) rfl)))) (mvT hZ (hw _ (List.mem_of_getElem? (i := 10) rfl))) (mvT hZ (hw _ (List.mem_of_getElem? (i := 9) rfl))) (by decide) (backOf (W := 0) (rmN l Z a0 hw [] (own_pick (p1 &&& (7 : Int32)) w_FORALL w_EXISTS w_COUNT w_MIN w_MAX w_AVG w_SUM w_FIRST) w_MIN w_MAX w_AVG w_FIRST h0 n0 Z0 S_MIN S_MAX S_AVG S_FIRST) hZ (hw _ (List.mem_of_getElem? (i := 11) rfl)) (hw _ (List.mem_of_getElem? (i := 5) rfl)) (by decide) (by decide)) q10a q10c (g := (mkF m 37 #[.val (.int p1), .val (.int (p1 &&& (7 : Int32))), .val (.ref (own_pick (p1 &&& (7 : Int32)) w_FORALL w_EXISTS w_COUNT w_MIN w_MAX w_AVG w_SUM w_FIRST)), .val (.int (1 : Int32))] [(.ref (own_pick (p1 &&& (7 : Int32)) w_FORALL w_EXISTS w_COUNT w_MIN w_MAX w_AVG w_SUM w_FIRST))])) rfl (by rw [hml]; rfl) (Steps.refl _) (argsL := []) (rest := []) (lenOf pd0_1 rfl) rfl (by show 2 * 0 + _ ≤ _; exact Nat.le_of_eq rfl) (hb hby at_37) (fun _ _ => ⟨rfl, eh1, (by decide : 0 + 0 ≤ _), (by decide : 0 + 0 ≤ _)⟩)
        dsimp only [Pt.U, Pt.locs, Pt.cells, Pt.slots] at X10 l10 y10 z10 st10 hQ10
        subst l10 y10 z10
        obtain ⟨rfl, N10q, eh10⟩ := hQ10
        have N10 := Fr.app N1 N10q
        obtain ⟨fs, hr, hrun, hended, hW, hsame⟩ := X10.leave (v := some (.int (1 : Int32))) (fun h => by rw [Bd.returns] at h; cases h)
        refine ⟨_, _, pre8 _ ?_, hrun, hended, _, _, rfl, ?_, ⟨_, rfl⟩, hW, hsame.mono (by decide) (by decide)⟩
        · show Steps p.tables e below (T1.setTop (mkF m 21 #[.val (.int p1), .val (.int (p1 &&& (7 : Int32))), .val (.ref (own_pick (p1 &&& (7 : Int32)) w_FORALL w_EXISTS w_COUNT w_MIN w_MAX w_AVG w_SUM w_FIRST)), .unset] [(.int (2 : Int32)), (.int (p1 &&& (7 : Int32)))])) _
          refine XS.icmpYes X1.here hx rfl (pc0 := 21) (pc' := 30) rfl (hb hby at_21) rfl (teq hc21_9).1 (by decide) (by decide) ?_
          show Steps p.tables e below (T1.setTop (mkF m 30 #[.val (.int p1), .val (.int (p1 &&& (7 : Int32))), .val (.ref (own_pick (p1 &&& (7 : Int32)) w_FORALL w_EXISTS w_COUNT w_MIN w_MAX w_AVG w_SUM w_FIRST)), .unset] [])) _
          refine XS.iconst X1.here hx rfl (hb hby at_30) ?_
          show Steps p.tables e below (T1.setTop (mkF m 31 #[.val (.int p1), .val (.int (p1 &&& (7 : Int32))), .val (.ref (own_pick (p1 &&& (7 : Int32)) w_FORALL w_EXISTS w_COUNT w_MIN w_MAX w_AVG w_SUM w_FIRST)), .unset] [(.int (1 : Int32))])) _
          refine XS.goto X1.here hx rfl (pc0 := 31) (pc' := 35) rfl (hb hby at_31) (by decide) (by decide) ?_
          show Steps p.tables e below (T1.setTop (mkF m 35 #[.val (.int p1), .val (.int (p1 &&& (7 : Int32))), .val (.ref (own_pick (p1 &&& (7 : Int32)) w_FORALL w_EXISTS w_COUNT w_MIN w_MAX w_AVG w_SUM w_FIRST)), .unset] [(.int (1 : Int32))])) _
          refine XS.istoreN X1.here hx rfl (hb hby at_35) rfl (l' := #[.val (.int p1), .val (.int (p1 &&& (7 : Int32))), .val (.ref (own_pick (p1 &&& (7 : Int32)) w_FORALL w_EXISTS w_COUNT w_MIN w_MAX w_AVG w_SUM w_FIRST)), .val (.int (1 : Int32))]) rfl ?_
          show Steps p.tables e below (T1.setTop (mkF m 36 #[.val (.int p1), .val (.int (p1 &&& (7 : Int32))), .val (.ref (own_pick (p1 &&& (7 : Int32)) w_FORALL w_EXISTS w_COUNT w_MIN w_MAX w_AVG w_SUM w_FIRST)), .val (.int (1 : Int32))] [])) _
          refine XS.aloadN X1.here hx rfl (hb hby at_36) rfl rfl ?_
          show Steps p.tables e below (T1.setTop (mkF m 37 #[.val (.int p1), .val (.int (p1 &&& (7 : Int32))), .val (.ref (own_pick (p1 &&& (7 : Int32)) w_FORALL w_EXISTS w_COUNT w_MIN w_MAX w_AVG w_SUM w_FIRST)), .val (.int (1 : Int32))] [(.ref (own_pick (p1 &&& (7 : Int32)) w_FORALL w_EXISTS w_COUNT w_MIN w_MAX w_AVG w_SUM w_FIRST))])) _
          refine st10.trans ?_
          show Steps p.tables e below (T10.setTop (mkF m 40 #[.val (.int p1), .val (.int (p1 &&& (7 : Int32))), .val (.ref (own_pick (p1 &&& (7 : Int32)) w_FORALL w_EXISTS w_COUNT w_MIN w_MAX w_AVG w_SUM w_FIRST)), .val (.int (1 : Int32))] [(.int (own_needs (own_pick (p1 &&& (7 : Int32)) w_FORALL w_EXISTS w_COUNT w_MIN w_MAX w_AVG w_SUM w_FIRST) w_MIN w_MAX w_AVG w_FIRST))])) _
          refine XS.iloadN X10.here hx rfl (hb hby at_40) rfl ?_
          show Steps p.tables e below (T10.setTop (mkF m 41 #[.val (.int p1), .val (.int (p1 &&& (7 : Int32))), .val (.ref (own_pick (p1 &&& (7 : Int32)) w_FORALL w_EXISTS w_COUNT w_MIN w_MAX w_AVG w_SUM w_FIRST)), .val (.int (1 : Int32))] [(.int (1 : Int32)), (.int (own_needs (own_pick (p1 &&& (7 : Int32)) w_FORALL w_EXISTS w_COUNT w_MIN w_MAX w_AVG w_SUM w_FIRST) w_MIN w_MAX w_AVG w_FIRST))])) _
          refine XS.ifYes X10.here hx rfl (pc0 := 41) (pc' := 48) rfl (hb hby at_41) rfl ((if0 _ _).trans (feq (by decide : ¬ ((1 : Int32) = (0 : Int32)))).2) (by decide) (by decide) ?_
          show Steps p.tables e below (T10.setTop (mkF m 48 #[.val (.int p1), .val (.int (p1 &&& (7 : Int32))), .val (.ref (own_pick (p1 &&& (7 : Int32)) w_FORALL w_EXISTS w_COUNT w_MIN w_MAX w_AVG w_SUM w_FIRST)), .val (.int (1 : Int32))] [(.int (own_needs (own_pick (p1 &&& (7 : Int32)) w_FORALL w_EXISTS w_COUNT w_MIN w_MAX w_AVG w_SUM w_FIRST) w_MIN w_MAX w_AVG w_FIRST))])) _
          refine XS.iconst X10.here hx rfl (hb hby at_48) ?_
          show Steps p.tables e below (T10.setTop (mkF m 49 #[.val (.int p1), .val (.int (p1 &&& (7 : Int32))), .val (.ref (own_pick (p1 &&& (7 : Int32)) w_FORALL w_EXISTS w_COUNT w_MIN w_MAX w_AVG w_SUM w_FIRST)), .val (.int (1 : Int32))] [(.int (0 : Int32)), (.int (own_needs (own_pick (p1 &&& (7 : Int32)) w_FORALL w_EXISTS w_COUNT w_MIN w_MAX w_AVG w_SUM w_FIRST) w_MIN w_MAX w_AVG w_FIRST))])) _
          refine XS.icmpNo X10.here hx rfl (hb hby at_49) rfl (teq (by simp [own_needs, own_pick, hc11_3, hc16_6, hc21_9, n_FORALL_MIN, n_FORALL_MAX, n_FORALL_AVG, n_FORALL_FIRST, n_EXISTS_MIN, n_EXISTS_MAX, n_EXISTS_AVG, n_EXISTS_FIRST, n_COUNT_MIN, n_COUNT_MAX, n_COUNT_AVG, n_COUNT_FIRST, n_SUM_MIN, n_SUM_MAX, n_SUM_AVG, n_SUM_FIRST] : (own_needs (own_pick (p1 &&& (7 : Int32)) w_FORALL w_EXISTS w_COUNT w_MIN w_MAX w_AVG w_SUM w_FIRST) w_MIN w_MAX w_AVG w_FIRST) = (0 : Int32))).2 ?_
          show Steps p.tables e below (T10.setTop (mkF m 52 #[.val (.int p1), .val (.int (p1 &&& (7 : Int32))), .val (.ref (own_pick (p1 &&& (7 : Int32)) w_FORALL w_EXISTS w_COUNT w_MIN w_MAX w_AVG w_SUM w_FIRST)), .val (.int (1 : Int32))] [])) _
          refine XS.iconst X10.here hx rfl (hb hby at_52) ?_
          show Steps p.tables e below (T10.setTop (mkF m 53 #[.val (.int p1), .val (.int (p1 &&& (7 : Int32))), .val (.ref (own_pick (p1 &&& (7 : Int32)) w_FORALL w_EXISTS w_COUNT w_MIN w_MAX w_AVG w_SUM w_FIRST)), .val (.int (1 : Int32))] [(.int (1 : Int32))])) _
          refine XS.goto X10.here hx rfl (pc0 := 53) (pc' := 57) rfl (hb hby at_53) (by decide) (by decide) ?_
          show Steps p.tables e below (T10.setTop (mkF m 57 #[.val (.int p1), .val (.int (p1 &&& (7 : Int32))), .val (.ref (own_pick (p1 &&& (7 : Int32)) w_FORALL w_EXISTS w_COUNT w_MIN w_MAX w_AVG w_SUM w_FIRST)), .val (.int (1 : Int32))] [(.int (1 : Int32))])) _
          exact retN X10 hx (t := .boolean) Bd.returns (by simp) (hb hby at_57) hr
        · show Q0 h0 n0 _ T10.heap _
          rw [eh10]
          exact ⟨rfl, N10⟩
      · have pre11 : ∀ t, Steps p.tables e below (T1.setTop (mkF m 27 #[.val (.int p1), .val (.int (p1 &&& (7 : Int32))), .val (.ref (own_pick (p1 &&& (7 : Int32)) w_FORALL w_EXISTS w_COUNT w_MIN w_MAX w_AVG w_SUM w_FIRST)), .unset] [(.int (6 : Int32)), (.int (p1 &&& (7 : Int32)))])) t → Steps p.tables e below (s₁.setTop (entryFrame m #[(.int p1)] maxLocals)) t := fun t kt => by
          refine pre8 t ?_
          show Steps p.tables e below (T1.setTop (mkF m 21 #[.val (.int p1), .val (.int (p1 &&& (7 : Int32))), .val (.ref (own_pick (p1 &&& (7 : Int32)) w_FORALL w_EXISTS w_COUNT w_MIN w_MAX w_AVG w_SUM w_FIRST)), .unset] [(.int (2 : Int32)), (.int (p1 &&& (7 : Int32)))])) _
          refine XS.icmpNo X1.here hx rfl (hb hby at_21) rfl (feq hc21_9).1 ?_
          show Steps p.tables e below (T1.setTop (mkF m 24 #[.val (.int p1), .val (.int (p1 &&& (7 : Int32))), .val (.ref (own_pick (p1 &&& (7 : Int32)) w_FORALL w_EXISTS w_COUNT w_MIN w_MAX w_AVG w_SUM w_FIRST)), .unset] [])) _
          refine XS.iloadN X1.here hx rfl (hb hby at_24) rfl ?_
          show Steps p.tables e below (T1.setTop (mkF m 25 #[.val (.int p1), .val (.int (p1 &&& (7 : Int32))), .val (.ref (own_pick (p1 &&& (7 : Int32)) w_FORALL w_EXISTS w_COUNT w_MIN w_MAX w_AVG w_SUM w_FIRST)), .unset] [(.int (p1 &&& (7 : Int32)))])) _
          refine XS.bipush X1.here hx rfl (hb hby at_25) ?_
          exact kt
        by_cases hc27_12 : (p1 &&& (7 : Int32)) = (6 : Int32)
        · obtain ⟨cq13, kq13, q13a, q13b, q13c⟩ := isOf hZ eh1 (own_pick_of (P := fun a => Exa Z h0 a "com/example/vole/vole/model/property/FilterOperator") E_FORALL E_EXISTS E_COUNT E_MIN E_MAX E_AVG E_SUM E_FIRST)
          obtain ⟨_, _, ⟨T13, L13, k13, n13⟩, -, X13, ⟨Lc13, hQ13, l13, y13, z13⟩, st13⟩ := X1.virtualBack hx (y := (⟨"com/example/vole/vole/model/property/FilterOperator", "needsAState", "()Z"⟩ : MethodName)) (z := (⟨"com/example/vole/vole/model/property/FilterOperator", "needsAState", "()Z"⟩ : MethodName)) hown (mvT hZ (hw _ (List.mem_of_getElem? (i := 7) rfl))) (mvT hZ (hw _ (List.mem_of_getElem? (i := 8) rfl))) (notFace_of_selects (args := #[]) (mvT hZ (hw _ (List.mem_of_getElem? (i := 10) rfl)))) (mvT hZ (hw _ (List.mem_of_getElem? (i := 10) rfl))) (mvT hZ (hw _ (List.mem_of_getElem? (i := 9) rfl))) (by decide) (backOf (W := 0) (rmN l Z a0 hw [] (own_pick (p1 &&& (7 : Int32)) w_FORALL w_EXISTS w_COUNT w_MIN w_MAX w_AVG w_SUM w_FIRST) w_MIN w_MAX w_AVG w_FIRST h0 n0 Z0 S_MIN S_MAX S_AVG S_FIRST) hZ (hw _ (List.mem_of_getElem? (i := 11) rfl)) (hw _ (List.mem_of_getElem? (i := 5) rfl)) (by decide) (by decide)) q13a q13c (g := (mkF m 37 #[.val (.int p1), .val (.int (p1 &&& (7 : Int32))), .val (.ref (own_pick (p1 &&& (7 : Int32)) w_FORALL w_EXISTS w_COUNT w_MIN w_MAX w_AVG w_SUM w_FIRST)), .val (.int (1 : Int32))] [(.ref (own_pick (p1 &&& (7 : Int32)) w_FORALL w_EXISTS w_COUNT w_MIN w_MAX w_AVG w_SUM w_FIRST))])) rfl (by rw [hml]; rfl) (Steps.refl _) (argsL := []) (rest := []) (lenOf pd0_1 rfl) rfl (by show 2 * 0 + _ ≤ _; exact Nat.le_of_eq rfl) (hb hby at_37) (fun _ _ => ⟨rfl, eh1, (by decide : 0 + 0 ≤ _), (by decide : 0 + 0 ≤ _)⟩)
          dsimp only [Pt.U, Pt.locs, Pt.cells, Pt.slots] at X13 l13 y13 z13 st13 hQ13
          subst l13 y13 z13
          obtain ⟨rfl, N13q, eh13⟩ := hQ13
          have N13 := Fr.app N1 N13q
          obtain ⟨fs, hr, hrun, hended, hW, hsame⟩ := X13.leave (v := some (.int (1 : Int32))) (fun h => by rw [Bd.returns] at h; cases h)
          refine ⟨_, _, pre11 _ ?_, hrun, hended, _, _, rfl, ?_, ⟨_, rfl⟩, hW, hsame.mono (by decide) (by decide)⟩
          · show Steps p.tables e below (T1.setTop (mkF m 27 #[.val (.int p1), .val (.int (p1 &&& (7 : Int32))), .val (.ref (own_pick (p1 &&& (7 : Int32)) w_FORALL w_EXISTS w_COUNT w_MIN w_MAX w_AVG w_SUM w_FIRST)), .unset] [(.int (6 : Int32)), (.int (p1 &&& (7 : Int32)))])) _
            refine XS.icmpNo X1.here hx rfl (hb hby at_27) rfl (teq hc27_12).2 ?_
            show Steps p.tables e below (T1.setTop (mkF m 30 #[.val (.int p1), .val (.int (p1 &&& (7 : Int32))), .val (.ref (own_pick (p1 &&& (7 : Int32)) w_FORALL w_EXISTS w_COUNT w_MIN w_MAX w_AVG w_SUM w_FIRST)), .unset] [])) _
            refine XS.iconst X1.here hx rfl (hb hby at_30) ?_
            show Steps p.tables e below (T1.setTop (mkF m 31 #[.val (.int p1), .val (.int (p1 &&& (7 : Int32))), .val (.ref (own_pick (p1 &&& (7 : Int32)) w_FORALL w_EXISTS w_COUNT w_MIN w_MAX w_AVG w_SUM w_FIRST)), .unset] [(.int (1 : Int32))])) _
            refine XS.goto X1.here hx rfl (pc0 := 31) (pc' := 35) rfl (hb hby at_31) (by decide) (by decide) ?_
            show Steps p.tables e below (T1.setTop (mkF m 35 #[.val (.int p1), .val (.int (p1 &&& (7 : Int32))), .val (.ref (own_pick (p1 &&& (7 : Int32)) w_FORALL w_EXISTS w_COUNT w_MIN w_MAX w_AVG w_SUM w_FIRST)), .unset] [(.int (1 : Int32))])) _
            refine XS.istoreN X1.here hx rfl (hb hby at_35) rfl (l' := #[.val (.int p1), .val (.int (p1 &&& (7 : Int32))), .val (.ref (own_pick (p1 &&& (7 : Int32)) w_FORALL w_EXISTS w_COUNT w_MIN w_MAX w_AVG w_SUM w_FIRST)), .val (.int (1 : Int32))]) rfl ?_
            show Steps p.tables e below (T1.setTop (mkF m 36 #[.val (.int p1), .val (.int (p1 &&& (7 : Int32))), .val (.ref (own_pick (p1 &&& (7 : Int32)) w_FORALL w_EXISTS w_COUNT w_MIN w_MAX w_AVG w_SUM w_FIRST)), .val (.int (1 : Int32))] [])) _
            refine XS.aloadN X1.here hx rfl (hb hby at_36) rfl rfl ?_
            show Steps p.tables e below (T1.setTop (mkF m 37 #[.val (.int p1), .val (.int (p1 &&& (7 : Int32))), .val (.ref (own_pick (p1 &&& (7 : Int32)) w_FORALL w_EXISTS w_COUNT w_MIN w_MAX w_AVG w_SUM w_FIRST)), .val (.int (1 : Int32))] [(.ref (own_pick (p1 &&& (7 : Int32)) w_FORALL w_EXISTS w_COUNT w_MIN w_MAX w_AVG w_SUM w_FIRST))])) _
            refine st13.trans ?_
            show Steps p.tables e below (T13.setTop (mkF m 40 #[.val (.int p1), .val (.int (p1 &&& (7 : Int32))), .val (.ref (own_pick (p1 &&& (7 : Int32)) w_FORALL w_EXISTS w_COUNT w_MIN w_MAX w_AVG w_SUM w_FIRST)), .val (.int (1 : Int32))] [(.int (own_needs (own_pick (p1 &&& (7 : Int32)) w_FORALL w_EXISTS w_COUNT w_MIN w_MAX w_AVG w_SUM w_FIRST) w_MIN w_MAX w_AVG w_FIRST))])) _
            refine XS.iloadN X13.here hx rfl (hb hby at_40) rfl ?_
            show Steps p.tables e below (T13.setTop (mkF m 41 #[.val (.int p1), .val (.int (p1 &&& (7 : Int32))), .val (.ref (own_pick (p1 &&& (7 : Int32)) w_FORALL w_EXISTS w_COUNT w_MIN w_MAX w_AVG w_SUM w_FIRST)), .val (.int (1 : Int32))] [(.int (1 : Int32)), (.int (own_needs (own_pick (p1 &&& (7 : Int32)) w_FORALL w_EXISTS w_COUNT w_MIN w_MAX w_AVG w_SUM w_FIRST) w_MIN w_MAX w_AVG w_FIRST))])) _
            refine XS.ifYes X13.here hx rfl (pc0 := 41) (pc' := 48) rfl (hb hby at_41) rfl ((if0 _ _).trans (feq (by decide : ¬ ((1 : Int32) = (0 : Int32)))).2) (by decide) (by decide) ?_
            show Steps p.tables e below (T13.setTop (mkF m 48 #[.val (.int p1), .val (.int (p1 &&& (7 : Int32))), .val (.ref (own_pick (p1 &&& (7 : Int32)) w_FORALL w_EXISTS w_COUNT w_MIN w_MAX w_AVG w_SUM w_FIRST)), .val (.int (1 : Int32))] [(.int (own_needs (own_pick (p1 &&& (7 : Int32)) w_FORALL w_EXISTS w_COUNT w_MIN w_MAX w_AVG w_SUM w_FIRST) w_MIN w_MAX w_AVG w_FIRST))])) _
            refine XS.iconst X13.here hx rfl (hb hby at_48) ?_
            show Steps p.tables e below (T13.setTop (mkF m 49 #[.val (.int p1), .val (.int (p1 &&& (7 : Int32))), .val (.ref (own_pick (p1 &&& (7 : Int32)) w_FORALL w_EXISTS w_COUNT w_MIN w_MAX w_AVG w_SUM w_FIRST)), .val (.int (1 : Int32))] [(.int (0 : Int32)), (.int (own_needs (own_pick (p1 &&& (7 : Int32)) w_FORALL w_EXISTS w_COUNT w_MIN w_MAX w_AVG w_SUM w_FIRST) w_MIN w_MAX w_AVG w_FIRST))])) _
            refine XS.icmpNo X13.here hx rfl (hb hby at_49) rfl (teq (by simp [own_needs, own_pick, hc11_3, hc16_6, hc21_9, hc27_12, n_FORALL_MIN, n_FORALL_MAX, n_FORALL_AVG, n_FORALL_FIRST, n_EXISTS_MIN, n_EXISTS_MAX, n_EXISTS_AVG, n_EXISTS_FIRST, n_COUNT_MIN, n_COUNT_MAX, n_COUNT_AVG, n_COUNT_FIRST, n_SUM_MIN, n_SUM_MAX, n_SUM_AVG, n_SUM_FIRST] : (own_needs (own_pick (p1 &&& (7 : Int32)) w_FORALL w_EXISTS w_COUNT w_MIN w_MAX w_AVG w_SUM w_FIRST) w_MIN w_MAX w_AVG w_FIRST) = (0 : Int32))).2 ?_
            show Steps p.tables e below (T13.setTop (mkF m 52 #[.val (.int p1), .val (.int (p1 &&& (7 : Int32))), .val (.ref (own_pick (p1 &&& (7 : Int32)) w_FORALL w_EXISTS w_COUNT w_MIN w_MAX w_AVG w_SUM w_FIRST)), .val (.int (1 : Int32))] [])) _
            refine XS.iconst X13.here hx rfl (hb hby at_52) ?_
            show Steps p.tables e below (T13.setTop (mkF m 53 #[.val (.int p1), .val (.int (p1 &&& (7 : Int32))), .val (.ref (own_pick (p1 &&& (7 : Int32)) w_FORALL w_EXISTS w_COUNT w_MIN w_MAX w_AVG w_SUM w_FIRST)), .val (.int (1 : Int32))] [(.int (1 : Int32))])) _
            refine XS.goto X13.here hx rfl (pc0 := 53) (pc' := 57) rfl (hb hby at_53) (by decide) (by decide) ?_
            show Steps p.tables e below (T13.setTop (mkF m 57 #[.val (.int p1), .val (.int (p1 &&& (7 : Int32))), .val (.ref (own_pick (p1 &&& (7 : Int32)) w_FORALL w_EXISTS w_COUNT w_MIN w_MAX w_AVG w_SUM w_FIRST)), .val (.int (1 : Int32))] [(.int (1 : Int32))])) _
            exact retN X13 hx (t := .boolean) Bd.returns (by simp) (hb hby at_57) hr
          · show Q0 h0 n0 _ T13.heap _
            rw [eh13]
            exact ⟨rfl, N13⟩
        · obtain ⟨cq14, kq14, q14a, q14b, q14c⟩ := isOf hZ eh1 (own_pick_of (P := fun a => Exa Z h0 a "com/example/vole/vole/model/property/FilterOperator") E_FORALL E_EXISTS E_COUNT E_MIN E_MAX E_AVG E_SUM E_FIRST)
          obtain ⟨_, _, ⟨T14, L14, k14, n14⟩, -, X14, ⟨Lc14, hQ14, l14, y14, z14⟩, st14⟩ := X1.virtualBack hx (y := (⟨"com/example/vole/vole/model/property/FilterOperator", "needsAState", "()Z"⟩ : MethodName)) (z := (⟨"com/example/vole/vole/model/property/FilterOperator", "needsAState", "()Z"⟩ : MethodName)) hown (mvT hZ (hw _ (List.mem_of_getElem? (i := 7) rfl))) (mvT hZ (hw _ (List.mem_of_getElem? (i := 8) rfl))) (notFace_of_selects (args := #[]) (mvT hZ (hw _ (List.mem_of_getElem? (i := 10) rfl)))) (mvT hZ (hw _ (List.mem_of_getElem? (i := 10) rfl))) (mvT hZ (hw _ (List.mem_of_getElem? (i := 9) rfl))) (by decide) (backOf (W := 0) (rmN l Z a0 hw [] (own_pick (p1 &&& (7 : Int32)) w_FORALL w_EXISTS w_COUNT w_MIN w_MAX w_AVG w_SUM w_FIRST) w_MIN w_MAX w_AVG w_FIRST h0 n0 Z0 S_MIN S_MAX S_AVG S_FIRST) hZ (hw _ (List.mem_of_getElem? (i := 11) rfl)) (hw _ (List.mem_of_getElem? (i := 5) rfl)) (by decide) (by decide)) q14a q14c (g := (mkF m 37 #[.val (.int p1), .val (.int (p1 &&& (7 : Int32))), .val (.ref (own_pick (p1 &&& (7 : Int32)) w_FORALL w_EXISTS w_COUNT w_MIN w_MAX w_AVG w_SUM w_FIRST)), .val (.int (0 : Int32))] [(.ref (own_pick (p1 &&& (7 : Int32)) w_FORALL w_EXISTS w_COUNT w_MIN w_MAX w_AVG w_SUM w_FIRST))])) rfl (by rw [hml]; rfl) (Steps.refl _) (argsL := []) (rest := []) (lenOf pd0_1 rfl) rfl (by show 2 * 0 + _ ≤ _; exact Nat.le_of_eq rfl) (hb hby at_37) (fun _ _ => ⟨rfl, eh1, (by decide : 0 + 0 ≤ _), (by decide : 0 + 0 ≤ _)⟩)
          dsimp only [Pt.U, Pt.locs, Pt.cells, Pt.slots] at X14 l14 y14 z14 st14 hQ14
          subst l14 y14 z14
          obtain ⟨rfl, N14q, eh14⟩ := hQ14
          have N14 := Fr.app N1 N14q
          obtain ⟨fs, hr, hrun, hended, hW, hsame⟩ := X14.leave (v := some (.int (1 : Int32))) (fun h => by rw [Bd.returns] at h; cases h)
          refine ⟨_, _, pre11 _ ?_, hrun, hended, _, _, rfl, ?_, ⟨_, rfl⟩, hW, hsame.mono (by decide) (by decide)⟩
          · show Steps p.tables e below (T1.setTop (mkF m 27 #[.val (.int p1), .val (.int (p1 &&& (7 : Int32))), .val (.ref (own_pick (p1 &&& (7 : Int32)) w_FORALL w_EXISTS w_COUNT w_MIN w_MAX w_AVG w_SUM w_FIRST)), .unset] [(.int (6 : Int32)), (.int (p1 &&& (7 : Int32)))])) _
            refine XS.icmpYes X1.here hx rfl (pc0 := 27) (pc' := 34) rfl (hb hby at_27) rfl (feq hc27_12).2 (by decide) (by decide) ?_
            show Steps p.tables e below (T1.setTop (mkF m 34 #[.val (.int p1), .val (.int (p1 &&& (7 : Int32))), .val (.ref (own_pick (p1 &&& (7 : Int32)) w_FORALL w_EXISTS w_COUNT w_MIN w_MAX w_AVG w_SUM w_FIRST)), .unset] [])) _
            refine XS.iconst X1.here hx rfl (hb hby at_34) ?_
            show Steps p.tables e below (T1.setTop (mkF m 35 #[.val (.int p1), .val (.int (p1 &&& (7 : Int32))), .val (.ref (own_pick (p1 &&& (7 : Int32)) w_FORALL w_EXISTS w_COUNT w_MIN w_MAX w_AVG w_SUM w_FIRST)), .unset] [(.int (0 : Int32))])) _
            refine XS.istoreN X1.here hx rfl (hb hby at_35) rfl (l' := #[.val (.int p1), .val (.int (p1 &&& (7 : Int32))), .val (.ref (own_pick (p1 &&& (7 : Int32)) w_FORALL w_EXISTS w_COUNT w_MIN w_MAX w_AVG w_SUM w_FIRST)), .val (.int (0 : Int32))]) rfl ?_
            show Steps p.tables e below (T1.setTop (mkF m 36 #[.val (.int p1), .val (.int (p1 &&& (7 : Int32))), .val (.ref (own_pick (p1 &&& (7 : Int32)) w_FORALL w_EXISTS w_COUNT w_MIN w_MAX w_AVG w_SUM w_FIRST)), .val (.int (0 : Int32))] [])) _
            refine XS.aloadN X1.here hx rfl (hb hby at_36) rfl rfl ?_
            show Steps p.tables e below (T1.setTop (mkF m 37 #[.val (.int p1), .val (.int (p1 &&& (7 : Int32))), .val (.ref (own_pick (p1 &&& (7 : Int32)) w_FORALL w_EXISTS w_COUNT w_MIN w_MAX w_AVG w_SUM w_FIRST)), .val (.int (0 : Int32))] [(.ref (own_pick (p1 &&& (7 : Int32)) w_FORALL w_EXISTS w_COUNT w_MIN w_MAX w_AVG w_SUM w_FIRST))])) _
            refine st14.trans ?_
            show Steps p.tables e below (T14.setTop (mkF m 40 #[.val (.int p1), .val (.int (p1 &&& (7 : Int32))), .val (.ref (own_pick (p1 &&& (7 : Int32)) w_FORALL w_EXISTS w_COUNT w_MIN w_MAX w_AVG w_SUM w_FIRST)), .val (.int (0 : Int32))] [(.int (own_needs (own_pick (p1 &&& (7 : Int32)) w_FORALL w_EXISTS w_COUNT w_MIN w_MAX w_AVG w_SUM w_FIRST) w_MIN w_MAX w_AVG w_FIRST))])) _
            refine XS.iloadN X14.here hx rfl (hb hby at_40) rfl ?_
            show Steps p.tables e below (T14.setTop (mkF m 41 #[.val (.int p1), .val (.int (p1 &&& (7 : Int32))), .val (.ref (own_pick (p1 &&& (7 : Int32)) w_FORALL w_EXISTS w_COUNT w_MIN w_MAX w_AVG w_SUM w_FIRST)), .val (.int (0 : Int32))] [(.int (0 : Int32)), (.int (own_needs (own_pick (p1 &&& (7 : Int32)) w_FORALL w_EXISTS w_COUNT w_MIN w_MAX w_AVG w_SUM w_FIRST) w_MIN w_MAX w_AVG w_FIRST))])) _
            refine XS.ifNo X14.here hx rfl (hb hby at_41) rfl ((if0 _ _).trans (teq (by decide : (0 : Int32) = (0 : Int32))).2) ?_
            show Steps p.tables e below (T14.setTop (mkF m 44 #[.val (.int p1), .val (.int (p1 &&& (7 : Int32))), .val (.ref (own_pick (p1 &&& (7 : Int32)) w_FORALL w_EXISTS w_COUNT w_MIN w_MAX w_AVG w_SUM w_FIRST)), .val (.int (0 : Int32))] [(.int (own_needs (own_pick (p1 &&& (7 : Int32)) w_FORALL w_EXISTS w_COUNT w_MIN w_MAX w_AVG w_SUM w_FIRST) w_MIN w_MAX w_AVG w_FIRST))])) _
            refine XS.iconst X14.here hx rfl (hb hby at_44) ?_
            show Steps p.tables e below (T14.setTop (mkF m 45 #[.val (.int p1), .val (.int (p1 &&& (7 : Int32))), .val (.ref (own_pick (p1 &&& (7 : Int32)) w_FORALL w_EXISTS w_COUNT w_MIN w_MAX w_AVG w_SUM w_FIRST)), .val (.int (0 : Int32))] [(.int (1 : Int32)), (.int (own_needs (own_pick (p1 &&& (7 : Int32)) w_FORALL w_EXISTS w_COUNT w_MIN w_MAX w_AVG w_SUM w_FIRST) w_MIN w_MAX w_AVG w_FIRST))])) _
            refine XS.goto X14.here hx rfl (pc0 := 45) (pc' := 49) rfl (hb hby at_45) (by decide) (by decide) ?_
            show Steps p.tables e below (T14.setTop (mkF m 49 #[.val (.int p1), .val (.int (p1 &&& (7 : Int32))), .val (.ref (own_pick (p1 &&& (7 : Int32)) w_FORALL w_EXISTS w_COUNT w_MIN w_MAX w_AVG w_SUM w_FIRST)), .val (.int (0 : Int32))] [(.int (1 : Int32)), (.int (own_needs (own_pick (p1 &&& (7 : Int32)) w_FORALL w_EXISTS w_COUNT w_MIN w_MAX w_AVG w_SUM w_FIRST) w_MIN w_MAX w_AVG w_FIRST))])) _
            refine XS.icmpNo X14.here hx rfl (hb hby at_49) rfl (teq (own_yes hc11_3 hc16_6 hc21_9 hc27_12 : (own_needs (own_pick (p1 &&& (7 : Int32)) w_FORALL w_EXISTS w_COUNT w_MIN w_MAX w_AVG w_SUM w_FIRST) w_MIN w_MAX w_AVG w_FIRST) = (1 : Int32))).2 ?_
            show Steps p.tables e below (T14.setTop (mkF m 52 #[.val (.int p1), .val (.int (p1 &&& (7 : Int32))), .val (.ref (own_pick (p1 &&& (7 : Int32)) w_FORALL w_EXISTS w_COUNT w_MIN w_MAX w_AVG w_SUM w_FIRST)), .val (.int (0 : Int32))] [])) _
            refine XS.iconst X14.here hx rfl (hb hby at_52) ?_
            show Steps p.tables e below (T14.setTop (mkF m 53 #[.val (.int p1), .val (.int (p1 &&& (7 : Int32))), .val (.ref (own_pick (p1 &&& (7 : Int32)) w_FORALL w_EXISTS w_COUNT w_MIN w_MAX w_AVG w_SUM w_FIRST)), .val (.int (0 : Int32))] [(.int (1 : Int32))])) _
            refine XS.goto X14.here hx rfl (pc0 := 53) (pc' := 57) rfl (hb hby at_53) (by decide) (by decide) ?_
            show Steps p.tables e below (T14.setTop (mkF m 57 #[.val (.int p1), .val (.int (p1 &&& (7 : Int32))), .val (.ref (own_pick (p1 &&& (7 : Int32)) w_FORALL w_EXISTS w_COUNT w_MIN w_MAX w_AVG w_SUM w_FIRST)), .val (.int (0 : Int32))] [(.int (1 : Int32))])) _
            exact retN X14 hx (t := .boolean) Bd.returns (by simp) (hb hby at_57) hr
          · show Q0 h0 n0 _ T14.heap _
            rw [eh14]
            exact ⟨rfl, N14⟩
set_option maxRecDepth 65536 in
set_option maxHeartbeats 40000000 in
theorem comes_1 {Post : Tables → Env → Array Value → State → Outcome → State → Prop} (hpost : ∀ tb e args s v u, (limb_1_1.after args s (.returned v) u = true ∧ limb_1_2.after args s (.returned v) u = true ∧ True) → FrameEnd s (.returned v) u (Jvm.fieldLocs frame_1_writes args s ++ Jvm.arrayLocs frame_1_arrays args s ++ Jvm.staticLocs frame_1_statics s) 0 0 → Post tb e args s (.returned v) u) :
    ArmFor flags0 classFile x code maxLocals ret World_1 tables_1 room_1 Calls_1 rest_1 Pre_1 Post := by
  intro l hfl _ _ p e ha hc hk s m args below hf hA hF happ hP
  obtain ⟨hcalls, hrest, hpre⟩ := hP
  obtain ⟨-, -, -, hnamed, -, -, -, hat⟩ := (Spec.applies_iff hf).mp happ
  obtain ⟨hg, hn⟩ := and_e (Cond.before_iff.mp (show (Jvm.Cond.and given_1 narrow_1).before args s = true from hpre))
  obtain ⟨hcnt, ha0⟩ := and_e hg
  obtain ⟨w0, rfl⟩ : ∃ w0 : Value, args = #[w0] := by
    have hs : args.size = 1 := by simpa [Cond.value, given_1] using hcnt
    obtain ⟨L⟩ := args
    match L, hs with
    | [w0], _ => exact ⟨w0, rfl⟩
  have hw := fun d (hd : d ∈ tables_1) => atoms_spec (ws := Jvm.Cond.code x code maxLocals ret :: tables_1) hat d (List.mem_cons_of_mem _ hd)
  obtain ⟨i0, ei0⟩ := is_v ha0
  obtain rfl : w0 = (.int i0) := Option.some.inj ei0
  obtain ⟨hg0, hr0⟩ := and_e hn
  obtain ⟨w_FORALL, ev_FORALL⟩ := exa_v hg0
  have E_FORALL : Exa s s.heap w_FORALL "com/example/vole/vole/model/property/FilterOperator" := Exa.start ev_FORALL hg0
  have S_FORALL : Sta s s.heap "com/example/vole/vole/model/property/FilterOperator" "FORALL" "Lcom/example/vole/vole/model/property/FilterOperator;" (.ref w_FORALL) := Sta.start ev_FORALL (Or.inr ⟨(hw _ (List.mem_of_getElem? (i := 5) rfl)), (hw _ (List.mem_of_getElem? (i := 6) rfl))⟩)
  obtain ⟨hg1, hr1⟩ := and_e hr0
  obtain ⟨w_MIN, ev_MIN⟩ := exa_v hg1
  have E_MIN : Exa s s.heap w_MIN "com/example/vole/vole/model/property/FilterOperator" := Exa.start ev_MIN hg1
  have S_MIN : Sta s s.heap "com/example/vole/vole/model/property/FilterOperator" "MIN" "Lcom/example/vole/vole/model/property/FilterOperator;" (.ref w_MIN) := Sta.start ev_MIN (Or.inr ⟨(hw _ (List.mem_of_getElem? (i := 5) rfl)), (hw _ (List.mem_of_getElem? (i := 13) rfl))⟩)
  obtain ⟨hg2, hr2⟩ := and_e hr1
  have O_ordinal_FORALL : Fld s s.heap w_FORALL "java/lang/Enum" "ordinal" "I" (.int (0 : Int32)) := own_fld ev_FORALL hg2
  obtain ⟨hg3, hr3⟩ := and_e hr2
  have O_ordinal_MIN : Fld s s.heap w_MIN "java/lang/Enum" "ordinal" "I" (.int (3 : Int32)) := own_fld ev_MIN hg3
  obtain ⟨hg4, hr4⟩ := and_e hr3
  obtain ⟨w_MAX, ev_MAX⟩ := exa_v hg4
  have E_MAX : Exa s s.heap w_MAX "com/example/vole/vole/model/property/FilterOperator" := Exa.start ev_MAX hg4
  have S_MAX : Sta s s.heap "com/example/vole/vole/model/property/FilterOperator" "MAX" "Lcom/example/vole/vole/model/property/FilterOperator;" (.ref w_MAX) := Sta.start ev_MAX (Or.inr ⟨(hw _ (List.mem_of_getElem? (i := 5) rfl)), (hw _ (List.mem_of_getElem? (i := 15) rfl))⟩)
  obtain ⟨hg5, hr5⟩ := and_e hr4
  have O_ordinal_MAX : Fld s s.heap w_MAX "java/lang/Enum" "ordinal" "I" (.int (4 : Int32)) := own_fld ev_MAX hg5
  obtain ⟨hg6, hr6⟩ := and_e hr5
  obtain ⟨w_AVG, ev_AVG⟩ := exa_v hg6
  have E_AVG : Exa s s.heap w_AVG "com/example/vole/vole/model/property/FilterOperator" := Exa.start ev_AVG hg6
  have S_AVG : Sta s s.heap "com/example/vole/vole/model/property/FilterOperator" "AVG" "Lcom/example/vole/vole/model/property/FilterOperator;" (.ref w_AVG) := Sta.start ev_AVG (Or.inr ⟨(hw _ (List.mem_of_getElem? (i := 5) rfl)), (hw _ (List.mem_of_getElem? (i := 17) rfl))⟩)
  obtain ⟨hg7, hr7⟩ := and_e hr6
  have O_ordinal_AVG : Fld s s.heap w_AVG "java/lang/Enum" "ordinal" "I" (.int (5 : Int32)) := own_fld ev_AVG hg7
  obtain ⟨hg8, hr8⟩ := and_e hr7
  obtain ⟨w_FIRST, ev_FIRST⟩ := exa_v hg8
  have E_FIRST : Exa s s.heap w_FIRST "com/example/vole/vole/model/property/FilterOperator" := Exa.start ev_FIRST hg8
  have S_FIRST : Sta s s.heap "com/example/vole/vole/model/property/FilterOperator" "FIRST" "Lcom/example/vole/vole/model/property/FilterOperator;" (.ref w_FIRST) := Sta.start ev_FIRST (Or.inr ⟨(hw _ (List.mem_of_getElem? (i := 5) rfl)), (hw _ (List.mem_of_getElem? (i := 19) rfl))⟩)
  obtain ⟨hg9, hr9⟩ := and_e hr8
  have O_ordinal_FIRST : Fld s s.heap w_FIRST "java/lang/Enum" "ordinal" "I" (.int (7 : Int32)) := own_fld ev_FIRST hg9
  obtain ⟨hg10, hr10⟩ := and_e hr9
  obtain ⟨w_SUM, ev_SUM⟩ := exa_v hg10
  have E_SUM : Exa s s.heap w_SUM "com/example/vole/vole/model/property/FilterOperator" := Exa.start ev_SUM hg10
  have S_SUM : Sta s s.heap "com/example/vole/vole/model/property/FilterOperator" "SUM" "Lcom/example/vole/vole/model/property/FilterOperator;" (.ref w_SUM) := Sta.start ev_SUM (Or.inr ⟨(hw _ (List.mem_of_getElem? (i := 5) rfl)), (hw _ (List.mem_of_getElem? (i := 22) rfl))⟩)
  obtain ⟨hg11, hr11⟩ := and_e hr10
  have O_ordinal_SUM : Fld s s.heap w_SUM "java/lang/Enum" "ordinal" "I" (.int (6 : Int32)) := own_fld ev_SUM hg11
  obtain ⟨hg12, hr12⟩ := and_e hr11
  obtain ⟨w_COUNT, ev_COUNT⟩ := exa_v hg12
  have E_COUNT : Exa s s.heap w_COUNT "com/example/vole/vole/model/property/FilterOperator" := Exa.start ev_COUNT hg12
  have S_COUNT : Sta s s.heap "com/example/vole/vole/model/property/FilterOperator" "COUNT" "Lcom/example/vole/vole/model/property/FilterOperator;" (.ref w_COUNT) := Sta.start ev_COUNT (Or.inr ⟨(hw _ (List.mem_of_getElem? (i := 5) rfl)), (hw _ (List.mem_of_getElem? (i := 25) rfl))⟩)
  obtain ⟨hg13, hr13⟩ := and_e hr12
  have O_ordinal_COUNT : Fld s s.heap w_COUNT "java/lang/Enum" "ordinal" "I" (.int (2 : Int32)) := own_fld ev_COUNT hg13
  obtain ⟨hg14, hr14⟩ := and_e hr13
  obtain ⟨w_EXISTS, ev_EXISTS⟩ := exa_v hg14
  have E_EXISTS : Exa s s.heap w_EXISTS "com/example/vole/vole/model/property/FilterOperator" := Exa.start ev_EXISTS hg14
  have S_EXISTS : Sta s s.heap "com/example/vole/vole/model/property/FilterOperator" "EXISTS" "Lcom/example/vole/vole/model/property/FilterOperator;" (.ref w_EXISTS) := Sta.start ev_EXISTS (Or.inr ⟨(hw _ (List.mem_of_getElem? (i := 5) rfl)), (hw _ (List.mem_of_getElem? (i := 27) rfl))⟩)
  have O_ordinal_EXISTS : Fld s s.heap w_EXISTS "java/lang/Enum" "ordinal" "I" (.int (1 : Int32)) := own_fld ev_EXISTS hr14
  obtain ⟨n, o, h1, h2, h3, _, L, rfl, ⟨rfl, N⟩, hq⟩ := rm0 l s _ hw tables_1 i0 w_FORALL w_EXISTS w_COUNT w_MIN w_MAX w_AVG w_SUM w_FIRST s.heap s.heap.size (Nat.le_refl _) S_FORALL S_EXISTS S_COUNT S_MIN S_MAX S_AVG S_SUM S_FIRST E_FORALL E_EXISTS E_COUNT E_MIN E_MAX E_AVG E_SUM E_FIRST O_ordinal_FORALL O_ordinal_EXISTS O_ordinal_COUNT O_ordinal_MIN O_ordinal_MAX O_ordinal_AVG O_ordinal_SUM O_ordinal_FIRST p e ha hc hk s m _ below hf ((Spec.applies_iff_loose hf).mp happ).1 ⟨rfl, State.Warmed39.refl s, rfl⟩ trivial
  refine ⟨n, _, h1, h2, h3, hpost _ _ _ _ _ _ ⟨Cond.after_iff.mpr rfl, Cond.after_iff.mpr (eq_i res_at (Term.int_eval (1)) rfl), trivial⟩ ⟨hq.1, hq.2.1, (hq.2.2.sift fun y hy => Or.inr (N y hy)).mono (by decide) (by decide)⟩⟩
theorem main_1_1 : Claimed_1_1 := comes_1 fun _ _ _ _ _ _ h hF => ⟨h.1, hF⟩
theorem main_1_2 : Claimed_1_2 := comes_1 fun _ _ _ _ _ _ h hF => ⟨h.2.1, hF⟩
end Jvm.Pilot.@@N@@
namespace Jvm.Pilot.@@N@@
open Jvm Jvm.ClassFile Sem Op Lib Jvm.Free Jvm.Stand Jvm.Pilot.@@N@@.Jvm.D
/-! MADE BY PROGRAM (witnessworld.py) out of the Statement's table words and the real class files: 12 classes; the members and pool entries that the words name. The judged class is class 1, her method 1. -/
namespace start1
open Jvm.ClassFile
def u (s : String) : CpInfo := .utf8 (stringToUtf16 s)
/-- a pool by its gaps: so many unusable entries, then the entry; so many at the end -/
def gap : Nat → List CpInfo → List CpInfo
  | 0, r => r
  | n + 1, r => .unusable :: gap n r
def poolList (es : List (Nat × CpInfo)) (last : Nat) : List CpInfo := es.foldr (fun e r => gap e.1 (e.2 :: r)) (gap last [])
def pool (es : List (Nat × CpInfo)) (last : Nat) : Array CpInfo := ⟨poolList es last⟩
def fileOf (pool : Array CpInfo) (this : Nat) (attrs : Array Attribute := #[]) (ms : Array MethodInfo := #[]) (fl : Nat := 33) (sup : Nat := 0) (ifs : Array Nat := #[]) (fds : Array FieldInfo := #[]) : ClassFile where
  minorVersion := 0
  majorVersion := 65
  constantPool := pool
  accessFlags := fl
  thisClass := this
  superClass := sup
  interfaces := ifs
  fields := fds
  methods := ms
  attributes := attrs
def plain (name : String) (sup : Option ClassId) : Class where
  name := name
  kind := .ordinary
  loader := none
  accessFlags := 33
  super := sup
  interfaces := #[]
  cf := none
  fields := #[]
  methods := #[]
  instanceTypes := #[]
  staticTypes := #[]
  resolved := #[]
  callSites := []
  init := .initialized
  statics := none
  mirror := none

def pool0 : Array CpInfo := pool [(5, u "<init>"), (0, u "()V"), (1, .class_ 10), (1, u "java/lang/Object")] 113

def k0m0 : Method := { name := "<init>", desc := "()V", sig := { parameters := [], returnType := none }, accessFlags := 1, code := none }
/-- java/lang/Object -/
def k0 : Class := { plain "java/lang/Object" none with
  accessFlags := 33
  interfaces := #[]
  cf := some (fileOf pool0 8 #[] #[{ accessFlags := 1, nameIndex := 5, descriptorIndex := 6, attributes := #[] }] 33 0 #[] #[])
  fields := #[]
  methods := #[k0m0]
  instanceTypes := #[]
  staticTypes := #[]
  resolved := Array.replicate 124 none
  statics := none }

def pool1 : Array CpInfo := pool [(2, .class_ 4), (1, u "java/lang/Object"), (0, u "<init>"), (0, u "()V"), (0, .methodref 8 9), (0, .class_ 10), (0, .nameAndType 11 12), (0, u "com/example/vole/vole/model/property/FilterOperatorNeedsAStatePinLaw"), (0, u "pick"), (0, u "(I)Lcom/example/vole/vole/model/property/FilterOperator;"), (0, .methodref 14 15), (0, .class_ 16), (0, .nameAndType 17 18), (0, u "com/example/vole/vole/model/property/FilterOperator"), (0, u "needsAState"), (0, u "()Z"), (0, .fieldref 14 20), (0, .nameAndType 21 22), (0, u "FORALL"), (0, u "Lcom/example/vole/vole/model/property/FilterOperator;"), (0, .fieldref 14 24), (0, .nameAndType 25 22), (0, u "EXISTS"), (0, .fieldref 14 27), (0, .nameAndType 28 22), (0, u "COUNT"), (0, .fieldref 14 30), (0, .nameAndType 31 22), (0, u "MIN"), (0, .fieldref 14 33), (0, .nameAndType 34 22), (0, u "MAX"), (0, .fieldref 14 36), (0, .nameAndType 37 22), (0, u "AVG"), (0, .fieldref 14 39), (0, .nameAndType 40 22), (0, u "SUM"), (0, .fieldref 14 42), (0, .nameAndType 43 22), (0, u "FIRST"), (2, u "law"), (0, u "(I)Z")] 3

def k1m0 : Method := { name := "<init>", desc := "()V", sig := { parameters := [], returnType := none }, accessFlags := 1, code := none }
def k1c1 : Code := { maxStack := 2, maxLocals := 4, code := code, exceptionTable := #[], attributes := #[] }
def k1m1 : Method := { name := "law", desc := "(I)Z", sig := { parameters := [.int], returnType := some .boolean }, accessFlags := 9, code := some k1c1 }
def k1c2 : Code := { maxStack := 2, maxLocals := 2, code := method_3_code, exceptionTable := #[], attributes := #[] }
def k1m2 : Method := { name := "pick", desc := "(I)Lcom/example/vole/vole/model/property/FilterOperator;", sig := { parameters := [.int], returnType := some (.object "com/example/vole/vole/model/property/FilterOperator") }, accessFlags := 10, code := some k1c2 }
/-- com/example/vole/vole/model/property/FilterOperatorNeedsAStatePinLaw -/
def k1 : Class := { plain "com/example/vole/vole/model/property/FilterOperatorNeedsAStatePinLaw" (some 0) with
  accessFlags := 49
  interfaces := #[]
  cf := some (fileOf pool1 8 #[] #[{ accessFlags := 1, nameIndex := 5, descriptorIndex := 6, attributes := #[] }, { accessFlags := 9, nameIndex := 46, descriptorIndex := 47, attributes := #[] }, { accessFlags := 10, nameIndex := 11, descriptorIndex := 12, attributes := #[] }] 49 2 #[] #[])
  fields := #[]
  methods := #[k1m0, k1m1, k1m2]
  instanceTypes := #[]
  staticTypes := #[]
  resolved := Array.replicate 51 none
  statics := none }

def pool2 : Array CpInfo := pool [(1, .class_ 2), (0, u "java/lang/constant/Constable"), (0, .class_ 4), (0, u "java/lang/Object")] 6

/-- java/lang/constant/Constable -/
def k2 : Class := { plain "java/lang/constant/Constable" (some 0) with
  accessFlags := 1537
  interfaces := #[]
  cf := some (fileOf pool2 1 #[] #[] 1537 3 #[] #[])
  fields := #[]
  methods := #[]
  instanceTypes := #[]
  staticTypes := #[]
  resolved := Array.replicate 11 none
  statics := none }

def pool3 : Array CpInfo := pool [(1, .class_ 2), (0, u "java/lang/Comparable"), (0, .class_ 4), (0, u "java/lang/Object")] 7

/-- java/lang/Comparable -/
def k3 : Class := { plain "java/lang/Comparable" (some 0) with
  accessFlags := 1537
  interfaces := #[]
  cf := some (fileOf pool3 1 #[] #[] 1537 3 #[] #[])
  fields := #[]
  methods := #[]
  instanceTypes := #[]
  staticTypes := #[]
  resolved := Array.replicate 12 none
  statics := none }

def pool4 : Array CpInfo := pool [(1, .class_ 2), (0, u "java/io/Serializable"), (0, .class_ 4), (0, u "java/lang/Object")] 2

/-- java/io/Serializable -/
def k4 : Class := { plain "java/io/Serializable" (some 0) with
  accessFlags := 1537
  interfaces := #[]
  cf := some (fileOf pool4 1 #[] #[] 1537 3 #[] #[])
  fields := #[]
  methods := #[]
  instanceTypes := #[]
  staticTypes := #[]
  resolved := Array.replicate 7 none
  statics := none }

def pool5 : Array CpInfo := pool [(2, .class_ 4), (1, u "java/lang/Enum"), (0, u "name"), (0, u "Ljava/lang/String;"), (2, u "ordinal"), (0, u "I"), (1, .class_ 14), (1, u "java/lang/Object"), (4, u "hash"), (86, .class_ 108), (1, u "java/lang/Enum$EnumDesc"), (2, .class_ 112), (0, u "java/lang/constant/Constable"), (0, .class_ 114), (0, u "java/lang/Comparable"), (0, .class_ 116), (0, u "java/io/Serializable")] 87

/-- java/lang/Enum -/
def k5 : Class := { plain "java/lang/Enum" (some 0) with
  accessFlags := 1057
  interfaces := #[2, 3, 4]
  cf := some (fileOf pool5 2 #[.nestMembers #[106]] #[] 1057 12 #[111, 113, 115] #[{ accessFlags := 18, nameIndex := 5, descriptorIndex := 6, attributes := #[] }, { accessFlags := 18, nameIndex := 9, descriptorIndex := 10, attributes := #[] }, { accessFlags := 2, nameIndex := 19, descriptorIndex := 10, attributes := #[] }])
  fields := #[{ name := "name", type := (.object "java/lang/String"), accessFlags := 18, slot := 0, constantValue := 0 }, { name := "ordinal", type := .int, accessFlags := 18, slot := 1, constantValue := 0 }, { name := "hash", type := .int, accessFlags := 2, slot := 2, constantValue := 0 }]
  methods := #[]
  instanceTypes := #[(.object "java/lang/String"), .int, .int]
  staticTypes := #[]
  resolved := Array.replicate 204 none
  statics := none }

def pool6 : Array CpInfo := pool [(1, .class_ 2), (0, u "com/example/vole/vole/model/property/FilterOperator"), (2, u "FORALL"), (0, u "Lcom/example/vole/vole/model/property/FilterOperator;"), (2, u "EXISTS"), (2, u "COUNT"), (0, .fieldref 1 14), (0, .nameAndType 15 6), (0, u "MIN"), (0, .fieldref 1 17), (0, .nameAndType 18 6), (0, u "MAX"), (0, .fieldref 1 20), (0, .nameAndType 21 6), (0, u "AVG"), (2, u "SUM"), (0, .fieldref 1 26), (0, .nameAndType 27 6), (0, u "FIRST"), (2, u "$VALUES"), (0, u "[Lcom/example/vole/vole/model/property/FilterOperator;"), (6, .class_ 40), (1, u "java/lang/Enum"), (8, u "takesBool"), (0, u "Z"), (2, u "takesNumber"), (32, u "()Z"), (24, u "needsAState")] 5

def k6c0 : Code := { maxStack := 2, maxLocals := 1, code := prog_113_method_7_code, exceptionTable := #[], attributes := #[] }
def k6m0 : Method := { name := "needsAState", desc := "()Z", sig := { parameters := [], returnType := some .boolean }, accessFlags := 1, code := some k6c0 }
/-- com/example/vole/vole/model/property/FilterOperator -/
def k6 : Class := { plain "com/example/vole/vole/model/property/FilterOperator" (some 5) with
  accessFlags := 16433
  interfaces := #[]
  cf := some (fileOf pool6 1 #[] #[{ accessFlags := 1, nameIndex := 111, descriptorIndex := 86, attributes := #[] }] 16433 38 #[] #[{ accessFlags := 16409, nameIndex := 5, descriptorIndex := 6, attributes := #[] }, { accessFlags := 16409, nameIndex := 9, descriptorIndex := 6, attributes := #[] }, { accessFlags := 16409, nameIndex := 12, descriptorIndex := 6, attributes := #[] }, { accessFlags := 16409, nameIndex := 15, descriptorIndex := 6, attributes := #[] }, { accessFlags := 16409, nameIndex := 18, descriptorIndex := 6, attributes := #[] }, { accessFlags := 16409, nameIndex := 21, descriptorIndex := 6, attributes := #[] }, { accessFlags := 16409, nameIndex := 24, descriptorIndex := 6, attributes := #[] }, { accessFlags := 16409, nameIndex := 27, descriptorIndex := 6, attributes := #[] }, { accessFlags := 18, nameIndex := 49, descriptorIndex := 50, attributes := #[] }, { accessFlags := 18, nameIndex := 53, descriptorIndex := 50, attributes := #[] }, { accessFlags := 4122, nameIndex := 30, descriptorIndex := 31, attributes := #[] }])
  fields := #[{ name := "FORALL", type := (.object "com/example/vole/vole/model/property/FilterOperator"), accessFlags := 16409, slot := 0, constantValue := 0 }, { name := "EXISTS", type := (.object "com/example/vole/vole/model/property/FilterOperator"), accessFlags := 16409, slot := 1, constantValue := 0 }, { name := "COUNT", type := (.object "com/example/vole/vole/model/property/FilterOperator"), accessFlags := 16409, slot := 2, constantValue := 0 }, { name := "MIN", type := (.object "com/example/vole/vole/model/property/FilterOperator"), accessFlags := 16409, slot := 3, constantValue := 0 }, { name := "MAX", type := (.object "com/example/vole/vole/model/property/FilterOperator"), accessFlags := 16409, slot := 4, constantValue := 0 }, { name := "AVG", type := (.object "com/example/vole/vole/model/property/FilterOperator"), accessFlags := 16409, slot := 5, constantValue := 0 }, { name := "SUM", type := (.object "com/example/vole/vole/model/property/FilterOperator"), accessFlags := 16409, slot := 6, constantValue := 0 }, { name := "FIRST", type := (.object "com/example/vole/vole/model/property/FilterOperator"), accessFlags := 16409, slot := 7, constantValue := 0 }, { name := "takesBool", type := .boolean, accessFlags := 18, slot := 3, constantValue := 0 }, { name := "takesNumber", type := .boolean, accessFlags := 18, slot := 4, constantValue := 0 }, { name := "$VALUES", type := (.array (.object "com/example/vole/vole/model/property/FilterOperator")), accessFlags := 4122, slot := 8, constantValue := 0 }]
  methods := #[k6m0]
  instanceTypes := #[(.object "java/lang/String"), .int, .int, .boolean, .boolean]
  staticTypes := #[(.object "com/example/vole/vole/model/property/FilterOperator"), (.object "com/example/vole/vole/model/property/FilterOperator"), (.object "com/example/vole/vole/model/property/FilterOperator"), (.object "com/example/vole/vole/model/property/FilterOperator"), (.object "com/example/vole/vole/model/property/FilterOperator"), (.object "com/example/vole/vole/model/property/FilterOperator"), (.object "com/example/vole/vole/model/property/FilterOperator"), (.object "com/example/vole/vole/model/property/FilterOperator"), (.array (.object "com/example/vole/vole/model/property/FilterOperator"))]
  resolved := Array.replicate 117 none
  statics := some 0 }

def pool7 : Array CpInfo := pool [(1, u "java/lang/Cloneable"), (0, .class_ 1), (0, u "java/lang/Object"), (0, .class_ 3)] 3

/-- java/lang/Cloneable -/
def k7 : Class := { plain "java/lang/Cloneable" (some 0) with
  accessFlags := 1537
  interfaces := #[]
  cf := some (fileOf pool7 2 #[] #[] 1537 4 #[] #[])
  fields := #[]
  methods := #[]
  instanceTypes := #[]
  staticTypes := #[]
  resolved := Array.replicate 8 none
  statics := none }

/-- the primitive byte -/
def k8 : Class := { plain "byte" none with kind := .primitive 'B', accessFlags := 0x411 }
/-- [B -/
def k9 : Class := { plain "[B" (some 0) with kind := .array 8 .byte, interfaces := #[7, 4], accessFlags := 1041 }

/-- the primitive int -/
def k10 : Class := { plain "int" none with kind := .primitive 'I', accessFlags := 0x411 }
/-- [I -/
def k11 : Class := { plain "[I" (some 0) with kind := .array 10 .int, interfaces := #[7, 4], accessFlags := 1041 }

def heap : Heap := #[{ cls := 6, slots := #[.ref 1, .ref 8, .ref 7, .ref 2, .ref 3, .ref 4, .ref 6, .ref 5, .null], vm := .statics 6 },
  { cls := 6, slots := #[.null, .int 0, .int 0, .int 0, .int 0], vm := .none },
  { cls := 6, slots := #[.null, .int 3, .int 0, .int 0, .int 0], vm := .none },
  { cls := 6, slots := #[.null, .int 4, .int 0, .int 0, .int 0], vm := .none },
  { cls := 6, slots := #[.null, .int 5, .int 0, .int 0, .int 0], vm := .none },
  { cls := 6, slots := #[.null, .int 7, .int 0, .int 0, .int 0], vm := .none },
  { cls := 6, slots := #[.null, .int 6, .int 0, .int 0, .int 0], vm := .none },
  { cls := 6, slots := #[.null, .int 2, .int 0, .int 0, .int 0], vm := .none },
  { cls := 6, slots := #[.null, .int 1, .int 0, .int 0, .int 0], vm := .none }]
def classes : Array Class := #[k0, k1, k2, k3, k4, k5, k6, k7, k8, k9, k10, k11]
def interned : List (Array UInt16 × Addr) := []
def slotsUsed : Nat := 49
def theMethod : MethodId := ⟨1, 1⟩
def args0 : Array Value := #[.int 3]
def aboutOver (below : List Frame) : State where
  vm := { classes := classes, interned := interned.toArray }
  heap := heap
  slotsUsed := slotsUsed
  threads := #[{ frames := .invoking theMethod args0 :: below }]
def below0 : List Frame := [.native { method := ⟨0, 0⟩, args := #[] }]
def about1 : State := aboutOver below0
def p0 : Program := .bare "" "" ""
def e0 : Env := launch0.env 0 0 0
theorem w_frames : about1.frames = Frame.invoking theMethod args0 :: below0 := rfl
set_option maxRecDepth 65536 in
theorem w_args : argsFit about1.vm theMethod args0 = true := by decide +kernel
set_option maxRecDepth 65536 in
theorem w_heap : heapFits about1 = true := by decide +kernel
set_option maxRecDepth 65536 in
theorem w_runnable : about1.curStatus? = some .runnable := by decide +kernel
set_option maxRecDepth 65536 in
theorem w_alone : about1.alone = true := by decide +kernel
set_option maxRecDepth 65536 in
theorem w_named : about1.methodNamed? x = some theMethod := by decide +kernel
set_option maxRecDepth 65536 in
theorem w_hears : about1.hears theMethod below0 = true := by decide +kernel
set_option maxRecDepth 65536 in
theorem w_ripe : about1.ripe theMethod args0 below0 = true := by decide +kernel
theorem w_running : about1.status = .running := rfl
set_option maxRecDepth 65536 in
theorem w_room : about1.hasRoom e0.platform room_1 = true :=
  launch0.hasRoom_least _ room_1 (by decide +kernel) (by decide +kernel) (by decide +kernel) (by decide +kernel) (by decide +kernel) (by decide +kernel)
theorem allAtoms_all (ts : List Jvm.Cond) (a : Array Jvm.Value) (st : Jvm.State) : (allAtoms ts).before a st = ts.all (fun c => c.before a st) := by
  induction ts with
  | nil => rfl
  | cons c t ih =>
    show (Jvm.Cond.and c (allAtoms t)).before a st = _
    rw [Jvm.Cond.before_and, ih, List.all_cons]
def words1 : List Jvm.Cond := Jvm.Cond.code x code maxLocals ret :: tables_1
/-- a 'code' word, met by the world's own term for the bytes: nothing is compared byte by byte -/
theorem code_word {y : MethodName} {bytes : ByteArray} {mx : Nat} {rt : Option FieldType} {a : Array Value} {s : State} {m : MethodId} {meth : Method} {c : Code} (h1 : s.methodNamed? y = some m) (h2 : s.vm.method? m = some meth) (h3 : meth.code = some c) (h4 : c.code = bytes)
    (h5 : (c.maxLocals == mx && c.exceptionTable.isEmpty && decide (c.maxStack ≤ mostOperands) && decide (meth.sig.returnType = rt) && !meth.locks && decide (parseMethodDescriptor y.desc = some meth.sig)) = true) : (Jvm.Cond.code y bytes mx rt).before a s = true := by
  simp only [Bool.and_eq_true, beq_iff_eq, Bool.not_eq_true', decide_eq_true_eq] at h5
  obtain ⟨⟨⟨⟨⟨g1, g2⟩, g3⟩, g4⟩, g5⟩, g6⟩ := h5
  simp [Cond.before, Cond.holds, Cond.value, h1, h2, h3, h4, g1, g2, g3, g4, g5, g6]
def isCode : Jvm.Cond → Bool
  | .code _ _ _ _ => true
  | _ => false
theorem all_split {L : List Jvm.Cond} {P : Jvm.Cond → Bool} (h1 : L.all (fun c => isCode c || P c) = true) (h2 : ∀ c ∈ L.filter isCode, P c = true) : L.all P = true := by
  refine List.all_eq_true.mpr fun c hc => ?_
  have h := List.all_eq_true.mp h1 c hc
  rcases Bool.eq_false_or_eq_true (isCode c) with hi | hi
  · exact h2 c (List.mem_filter.mpr ⟨hc, hi⟩)
  · simpa [hi] using h
set_option maxRecDepth 65536 in
theorem w_c0 : (Jvm.Cond.code x code maxLocals ret).before args0 about1 = true := code_word (m := ⟨1, 1⟩) (meth := k1m1) (c := k1c1) (by decide +kernel) rfl rfl rfl (by decide +kernel)
set_option maxRecDepth 65536 in
theorem w_c1 : (Jvm.Cond.code ({ cls := "com/example/vole/vole/model/property/FilterOperatorNeedsAStatePinLaw", name := "pick", desc := "(I)Lcom/example/vole/vole/model/property/FilterOperator;" } : Jvm.MethodName) method_3_code (2 : Nat) (Option.some (Jvm.ClassFile.FieldType.object "com/example/vole/vole/model/property/FilterOperator"))).before args0 about1 = true := code_word (m := ⟨1, 2⟩) (meth := k1m2) (c := k1c2) (by decide +kernel) rfl rfl rfl (by decide +kernel)
set_option maxRecDepth 65536 in
theorem w_c2 : (Jvm.Cond.code ({ cls := "com/example/vole/vole/model/property/FilterOperator", name := "needsAState", desc := "()Z" } : Jvm.MethodName) prog_113_method_7_code (1 : Nat) (Option.some Jvm.ClassFile.FieldType.boolean)).before args0 about1 = true := code_word (m := ⟨6, 0⟩) (meth := k6m0) (c := k6c0) (by decide +kernel) rfl rfl rfl (by decide +kernel)
def codes1 : List Jvm.Cond := [Jvm.Cond.code x code maxLocals ret, Jvm.Cond.code ({ cls := "com/example/vole/vole/model/property/FilterOperatorNeedsAStatePinLaw", name := "pick", desc := "(I)Lcom/example/vole/vole/model/property/FilterOperator;" } : Jvm.MethodName) method_3_code (2 : Nat) (Option.some (Jvm.ClassFile.FieldType.object "com/example/vole/vole/model/property/FilterOperator")), Jvm.Cond.code ({ cls := "com/example/vole/vole/model/property/FilterOperator", name := "needsAState", desc := "()Z" } : Jvm.MethodName) prog_113_method_7_code (1 : Nat) (Option.some Jvm.ClassFile.FieldType.boolean)]
set_option maxRecDepth 65536 in
theorem codes_eq : words1.filter isCode = codes1 := rfl
theorem w_codes : ∀ c ∈ words1.filter isCode, c.before args0 about1 = true := by
  rw [codes_eq]
  intro c hc
  simp only [codes1, List.mem_cons, List.not_mem_nil, or_false] at hc
  rcases hc with rfl | rfl | rfl
  · exact w_c0
  · exact w_c1
  · exact w_c2
set_option maxRecDepth 65536 in
theorem w_t1 : (words1.take 24).all (fun c => isCode c || c.before args0 about1) = true := by decide +kernel
set_option maxRecDepth 65536 in
theorem w_t2 : (words1.drop 24).all (fun c => isCode c || c.before args0 about1) = true := by decide +kernel
theorem w_tables : (allAtoms (Jvm.Cond.code x code maxLocals ret :: tables_1)).before args0 about1 = true := by
  rw [allAtoms_all]
  show words1.all (fun c => c.before args0 about1) = true
  refine all_split ?_ w_codes
  rw [← List.take_append_drop 24 words1, List.all_append, w_t1, w_t2]
  rfl
set_option maxRecDepth 65536 in
theorem w_case : (Jvm.Cond.and given_1 narrow_1).before args0 about1 = true := by decide +kernel
theorem w_applies : (headSpec (Jvm.Cond.code x code maxLocals ret :: tables_1) room_1).applies x e0.platform about1 = true :=
  (Spec.applies_iff w_frames).mpr ⟨w_running, w_runnable, w_alone, w_named, w_hears, w_ripe, w_room, w_tables⟩
theorem atStart : AtStart classFile x code maxLocals ret World_1 tables_1 room_1 Calls_1 rest_1 Pre_1 launch0 p0 e0 about1 theMethod args0 below0 :=
  ⟨lists_1, trivial, launch0.admits_env _ _ _, launch0.least_env, fairChoices_fair.cas, fairChoices_fair.clock, w_frames, w_args, w_heap, w_applies, trivial, trivial, w_case⟩
end start1
theorem witness_1 : WitnessClaimed_1 := ⟨start1.p0, start1.e0, start1.about1, start1.theMethod, start1.args0, start1.below0, start1.atStart⟩
end Jvm.Pilot.@@N@@
