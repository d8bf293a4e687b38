import JvmDerived
import JvmDerived.Pilot.@@N@@Statement
import JvmDerived.Pilot.@@N@@Code
set_option linter.unusedVariables false
set_option linter.unusedSimpArgs false
namespace Jvm.Pilot.@@N@@
open Jvm Jvm.ClassFile Sem Op Lib Jvm.Free Jvm.Stand Jvm.LawKit Jvm.RoadKit Bundle Jvm.Pilot.@@N@@.Jvm.D
theorem own_fld {s : State} {args : Array Value} {t : Term} {w : Addr} {C n d : String} {k : Int32} (ev : t.eval args s none [] s = some (.ref w)) (h : (Cond.eq (Term.field t C n d) (Term.int k)).value args s none s [] = some true) : Fld s s.heap w C n d (.int k) := by
  refine Fld.start ?_
  have h1 : (Term.field t C n d).eval args s none [] s = s.fieldOf? w C n d := fld_at ev
  have h2 : (Term.int k).eval args s none [] s = some (.int k) := Term.int_eval k
  cases hf : s.fieldOf? w C n d with
  | none => rw [hf] at h1; simp [Cond.value, h1] at h
  | some x =>
    rw [hf] at h1
    cases x <;> simp [Cond.value, h1, h2] at h
    rw [h]
theorem own_sta {Z : State} {h h' : Heap} {C n d : String} {v : Value} (F : Sta Z h C n d v) (K : Keep h h' []) : Sta Z h' C n d v := by
  obtain ⟨cf, i, k, f, st, cell, h1, h2, h3, h4, h5, r⟩ := F
  exact ⟨cf, i, k, f, st, cell, h1, h2, h3, h4, K.2.1 _ _ h5 nin0, r⟩
def own_pick (k : Int32) (w_ZERO w_EXACTLY_ONE w_ZERO_OR_ONE w_ZERO_OR_MORE w_ONE_OR_MORE : Addr) : Addr := if k = 0 then w_ZERO else if k = 1 then w_EXACTLY_ONE else if k = 2 then w_ZERO_OR_ONE else if k = 3 then w_ZERO_OR_MORE else w_ONE_OR_MORE
def own_mn (k : Int32) : Int32 := if k = 0 then 0 else if k = 1 then 1 else if k = 2 then 0 else if k = 3 then 0 else 1
def own_mx (k : Int32) : Int32 := if k = 0 then 0 else if k = 1 then 1 else if k = 2 then 1 else if k = 3 then 2147483647 else 2147483647
def own_row (k : Int32) : Int32 := if k = 0 then 13 else if k = 1 then 30 else if k = 2 then 12 else if k = 3 then 8 else 24
def own_within (a b c d : Int32) : Int32 := if a < c then 0 else if d < b then 0 else 1
theorem own_pick_of {P : Addr → Prop} {k : Int32} {w_ZERO w_EXACTLY_ONE w_ZERO_OR_ONE w_ZERO_OR_MORE w_ONE_OR_MORE : Addr} (h_ZERO : P w_ZERO) (h_EXACTLY_ONE : P w_EXACTLY_ONE) (h_ZERO_OR_ONE : P w_ZERO_OR_ONE) (h_ZERO_OR_MORE : P w_ZERO_OR_MORE) (h_ONE_OR_MORE : P w_ONE_OR_MORE) : P (own_pick k w_ZERO w_EXACTLY_ONE w_ZERO_OR_ONE w_ZERO_OR_MORE w_ONE_OR_MORE) := by
  unfold own_pick
  repeat' split
  all_goals assumption
theorem own_pick_mn {Z : State} {h : Heap} {k : Int32} {w_ZERO w_EXACTLY_ONE w_ZERO_OR_ONE w_ZERO_OR_MORE w_ONE_OR_MORE : Addr} (h_ZERO : Fld Z h w_ZERO "com/example/mint_path/mintpath/type/Occurrence" "min" "I" (.int (0 : Int32))) (h_EXACTLY_ONE : Fld Z h w_EXACTLY_ONE "com/example/mint_path/mintpath/type/Occurrence" "min" "I" (.int (1 : Int32))) (h_ZERO_OR_ONE : Fld Z h w_ZERO_OR_ONE "com/example/mint_path/mintpath/type/Occurrence" "min" "I" (.int (0 : Int32))) (h_ZERO_OR_MORE : Fld Z h w_ZERO_OR_MORE "com/example/mint_path/mintpath/type/Occurrence" "min" "I" (.int (0 : Int32))) (h_ONE_OR_MORE : Fld Z h w_ONE_OR_MORE "com/example/mint_path/mintpath/type/Occurrence" "min" "I" (.int (1 : Int32))) : Fld Z h (own_pick k w_ZERO w_EXACTLY_ONE w_ZERO_OR_ONE w_ZERO_OR_MORE w_ONE_OR_MORE) "com/example/mint_path/mintpath/type/Occurrence" "min" "I" (.int (own_mn k)) := by
  by_cases c0 : k = 0
  · simpa [own_pick, own_mn, c0] using h_ZERO
  by_cases c1 : k = 1
  · simpa [own_pick, own_mn, c0, c1] using h_EXACTLY_ONE
  by_cases c2 : k = 2
  · simpa [own_pick, own_mn, c0, c1, c2] using h_ZERO_OR_ONE
  by_cases c3 : k = 3
  · simpa [own_pick, own_mn, c0, c1, c2, c3] using h_ZERO_OR_MORE
  · simpa [own_pick, own_mn, c0, c1, c2, c3] using h_ONE_OR_MORE
theorem own_pick_mx {Z : State} {h : Heap} {k : Int32} {w_ZERO w_EXACTLY_ONE w_ZERO_OR_ONE w_ZERO_OR_MORE w_ONE_OR_MORE : Addr} (h_ZERO : Fld Z h w_ZERO "com/example/mint_path/mintpath/type/Occurrence" "max" "I" (.int (0 : Int32))) (h_EXACTLY_ONE : Fld Z h w_EXACTLY_ONE "com/example/mint_path/mintpath/type/Occurrence" "max" "I" (.int (1 : Int32))) (h_ZERO_OR_ONE : Fld Z h w_ZERO_OR_ONE "com/example/mint_path/mintpath/type/Occurrence" "max" "I" (.int (1 : Int32))) (h_ZERO_OR_MORE : Fld Z h w_ZERO_OR_MORE "com/example/mint_path/mintpath/type/Occurrence" "max" "I" (.int (2147483647 : Int32))) (h_ONE_OR_MORE : Fld Z h w_ONE_OR_MORE "com/example/mint_path/mintpath/type/Occurrence" "max" "I" (.int (2147483647 : Int32))) : Fld Z h (own_pick k w_ZERO w_EXACTLY_ONE w_ZERO_OR_ONE w_ZERO_OR_MORE w_ONE_OR_MORE) "com/example/mint_path/mintpath/type/Occurrence" "max" "I" (.int (own_mx k)) := by
  by_cases c0 : k = 0
  · simpa [own_pick, own_mx, c0] using h_ZERO
  by_cases c1 : k = 1
  · simpa [own_pick, own_mx, c0, c1] using h_EXACTLY_ONE
  by_cases c2 : k = 2
  · simpa [own_pick, own_mx, c0, c1, c2] using h_ZERO_OR_ONE
  by_cases c3 : k = 3
  · simpa [own_pick, own_mx, c0, c1, c2, c3] using h_ZERO_OR_MORE
  · simpa [own_pick, own_mx, c0, c1, c2, c3] using h_ONE_OR_MORE
theorem own_rng {p i : Int32} (h : i = (p &&& (2147483647 : Int32)) % (5 : Int32)) : ¬ i < 0 ∧ i < (5 : Int32) := by
  have a := c_and p (2147483647 : Int32) (by decide)
  have b := (c_iremV (p &&& (2147483647 : Int32)) (5 : Int32)).1 a.1 (by decide)
  have c : (5 : Int32).toInt = 5 := rfl
  have d : (0 : Int32).toInt = 0 := rfl
  rw [Int32.lt_iff_toInt_lt, Int32.lt_iff_toInt_lt, h]
  omega
theorem own_five {i : Int32} (h : ¬ i < 0 ∧ i < (5 : Int32)) : i = (0 : Int32) ∨ i = (1 : Int32) ∨ i = (2 : Int32) ∨ i = (3 : Int32) ∨ i = (4 : Int32) := by
  have c0 : (0 : Int32).toInt = 0 := rfl
  have c1 : (1 : Int32).toInt = 1 := rfl
  have c2 : (2 : Int32).toInt = 2 := rfl
  have c3 : (3 : Int32).toInt = 3 := rfl
  have c4 : (4 : Int32).toInt = 4 := rfl
  have c5 : (5 : Int32).toInt = 5 := rfl
  simp only [Int32.lt_iff_toInt_lt, ← Int32.toInt_inj] at h ⊢
  omega
theorem own_at {i : Int32} (h : i = (0 : Int32) ∨ i = (1 : Int32) ∨ i = (2 : Int32) ∨ i = (3 : Int32) ∨ i = (4 : Int32)) : ([.int 13, .int 30, .int 12, .int 8, .int 24] : List Value).getD i.toNatClampNeg (.int (0 : Int32)) = .int (own_row i) := by
  rcases h with rfl | rfl | rfl | rfl | rfl <;> decide
theorem own_fin1 {i j : Int32} (hi : i = (0 : Int32) ∨ i = (1 : Int32) ∨ i = (2 : Int32) ∨ i = (3 : Int32) ∨ i = (4 : Int32)) (hj : j = (0 : Int32) ∨ j = (1 : Int32) ∨ j = (2 : Int32) ∨ j = (3 : Int32) ∨ j = (4 : Int32)) (h : ¬ ((own_row i >>> (j &&& 31)) &&& (1 : Int32)) = 0) : own_within (own_mn i) (own_mx i) (own_mn j) (own_mx j) = 1 := by
  revert h
  rcases hi with rfl | rfl | rfl | rfl | rfl <;> rcases hj with rfl | rfl | rfl | rfl | rfl <;> decide
theorem own_fin0 {i j : Int32} (hi : i = (0 : Int32) ∨ i = (1 : Int32) ∨ i = (2 : Int32) ∨ i = (3 : Int32) ∨ i = (4 : Int32)) (hj : j = (0 : Int32) ∨ j = (1 : Int32) ∨ j = (2 : Int32) ∨ j = (3 : Int32) ∨ j = (4 : Int32)) (h : ((own_row i >>> (j &&& 31)) &&& (1 : Int32)) = 0) : own_within (own_mn i) (own_mx i) (own_mn j) (own_mx j) = 0 := by
  revert h
  rcases hi with rfl | rfl | rfl | rfl | rfl <;> rcases hj with rfl | rfl | rfl | rfl | rfl <;> decide
theorem dP_0 : decode method_2_code 0 = .ok (.iload_n 0, 1) := by decide +kernel
theorem dP_1 : decode method_2_code 1 = .ok (.ifCond .ne 7, 3) := by decide +kernel
theorem dP_4 : decode method_2_code 4 = .ok (.getstatic 7, 3) := by decide +kernel
theorem dP_7 : decode method_2_code 7 = .ok (.areturn, 1) := by decide +kernel
theorem dP_8 : decode method_2_code 8 = .ok (.iload_n 0, 1) := by decide +kernel
theorem dP_9 : decode method_2_code 9 = .ok (.iconst 1, 1) := by decide +kernel
theorem dP_10 : decode method_2_code 10 = .ok (.if_icmp .ne 7, 3) := by decide +kernel
theorem dP_13 : decode method_2_code 13 = .ok (.getstatic 13, 3) := by decide +kernel
theorem dP_16 : decode method_2_code 16 = .ok (.areturn, 1) := by decide +kernel
theorem dP_17 : decode method_2_code 17 = .ok (.iload_n 0, 1) := by decide +kernel
theorem dP_18 : decode method_2_code 18 = .ok (.iconst 2, 1) := by decide +kernel
theorem dP_19 : decode method_2_code 19 = .ok (.if_icmp .ne 7, 3) := by decide +kernel
theorem dP_22 : decode method_2_code 22 = .ok (.getstatic 16, 3) := by decide +kernel
theorem dP_25 : decode method_2_code 25 = .ok (.areturn, 1) := by decide +kernel
theorem dP_26 : decode method_2_code 26 = .ok (.iload_n 0, 1) := by decide +kernel
theorem dP_27 : decode method_2_code 27 = .ok (.iconst 3, 1) := by decide +kernel
theorem dP_28 : decode method_2_code 28 = .ok (.if_icmp .ne 7, 3) := by decide +kernel
theorem dP_31 : decode method_2_code 31 = .ok (.getstatic 19, 3) := by decide +kernel
theorem dP_34 : decode method_2_code 34 = .ok (.areturn, 1) := by decide +kernel
theorem dP_35 : decode method_2_code 35 = .ok (.getstatic 22, 3) := by decide +kernel
theorem dP_38 : decode method_2_code 38 = .ok (.areturn, 1) := by decide +kernel
theorem pnP : plainName "com/example/mint_path/mintpath/type/OccurrenceIsWithinPinLaw" = true := by first | (simp [plainName, overriddenIn]; done) | decide +kernel
theorem efP (m : MethodId) (k : Int32) : entryFrame m #[(.int k)] 1 = mkF m 0 #[.val (.int k)] [] := by first | (simp [entryFrame, mkF, argsToLocals, Value.category]; done) | rfl
def QP (k : Int32) (w_ZERO w_EXACTLY_ONE w_ZERO_OR_ONE w_ZERO_OR_MORE w_ONE_OR_MORE : Addr) (h0 : Heap) (n0 : Nat) (v : Option Value) (h : Heap) (L : List Loc) : Prop := v = some (.ref (own_pick k w_ZERO w_EXACTLY_ONE w_ZERO_OR_ONE w_ZERO_OR_MORE w_ONE_OR_MORE)) ∧ Fr n0 L ∧ h = h0
set_option maxRecDepth 65536 in
set_option maxHeartbeats 40000000 in
theorem rmP (l : Launch) (Z : State) (a0 : Array Value) (hw : ∀ d ∈ tables_1, d.before a0 Z = true) (ws : List Jvm.Cond) (k : Int32) (w_ZERO w_EXACTLY_ONE w_ZERO_OR_ONE w_ZERO_OR_MORE w_ONE_OR_MORE : Addr) (h0 : Heap) (n0 : Nat) (Z0 : n0 ≤ h0.size) (S_ZERO : Sta Z h0 "com/example/mint_path/mintpath/type/Occurrence" "ZERO" "Lcom/example/mint_path/mintpath/type/Occurrence;" (.ref w_ZERO)) (S_EXACTLY_ONE : Sta Z h0 "com/example/mint_path/mintpath/type/Occurrence" "EXACTLY_ONE" "Lcom/example/mint_path/mintpath/type/Occurrence;" (.ref w_EXACTLY_ONE)) (S_ZERO_OR_ONE : Sta Z h0 "com/example/mint_path/mintpath/type/Occurrence" "ZERO_OR_ONE" "Lcom/example/mint_path/mintpath/type/Occurrence;" (.ref w_ZERO_OR_ONE)) (S_ZERO_OR_MORE : Sta Z h0 "com/example/mint_path/mintpath/type/Occurrence" "ZERO_OR_MORE" "Lcom/example/mint_path/mintpath/type/Occurrence;" (.ref w_ZERO_OR_MORE)) (S_ONE_OR_MORE : Sta Z h0 "com/example/mint_path/mintpath/type/Occurrence" "ONE_OR_MORE" "Lcom/example/mint_path/mintpath/type/Occurrence;" (.ref w_ONE_OR_MORE)) :
    MetFree l (⟨"com/example/mint_path/mintpath/type/OccurrenceIsWithinPinLaw", "pick", "(I)Lcom/example/mint_path/mintpath/type/Occurrence;"⟩ : MethodName) (head1 (Jvm.Cond.code (⟨"com/example/mint_path/mintpath/type/OccurrenceIsWithinPinLaw", "pick", "(I)Lcom/example/mint_path/mintpath/type/Occurrence;"⟩ : MethodName) method_2_code 1 (some (.object "com/example/mint_path/mintpath/type/Occurrence")) :: ws) ({ frames := 0, cells := 0, slots := 0, locals := 0 } : Room)) (fun as_ U => as_ = #[(.int k)] ∧ Z.Warmed39 U.vm ∧ U.heap = h0) (fun _ _ _ _ _ => True) (fun _ U o U' => ∃ v L, o = .returned v ∧ QP k w_ZERO w_EXACTLY_ONE w_ZERO_OR_ONE w_ZERO_OR_MORE w_ONE_OR_MORE h0 n0 v U'.heap L ∧ FrameEnd U o U' L ({ frames := 0, cells := 0, slots := 0, locals := 0 } : Room).cells ({ frames := 0, cells := 0, slots := 0, locals := 0 } : Room).slots) := by
  refine MetFree.of_bodySF (plainFor_of_name pnP) hisR ?_
  intro p e s m args below meth c s₁ Bd hml0 hP hK
  obtain ⟨rfl, hZ, hh⟩ := hP
  have hx := Bd.exec
  have hby := Bd.bytes
  have hml : c.maxLocals = 1 := hml0
  have hown : s.vm.findClass "com/example/mint_path/mintpath/type/OccurrenceIsWithinPinLaw" = some m.cls := findClass_of_methodNamed Bd.named
  have X0 : Stand p l e ({ frames := 0, cells := 0, slots := 0, locals := 0 } : Room) s m #[(.int k)] below meth c s₁ [] 0 0 := Stand.of_body Bd
  have e0 : s₁.heap = h0 := by rw [← hh, Bd.state]; rfl
  have N0 := Fr.nil n0
  have pre0 : ∀ t, Steps p.tables e below (s₁.setTop (mkF m 0 #[.val (.int k)] [])) t → Steps p.tables e below (s₁.setTop (entryFrame m #[(.int k)] 1)) t := fun t kk_ => castTop (efP m k) kk_
  have pre1 : ∀ t, Steps p.tables e below (s₁.setTop (mkF m 1 #[.val (.int k)] [(.int k)])) t → Steps p.tables e below (s₁.setTop (entryFrame m #[(.int k)] 1)) t := fun t kt => by
    refine pre0 t ?_
    show Steps p.tables e below (s₁.setTop (mkF m 0 #[.val (.int k)] [])) _
    refine XS.iloadN X0.here hx rfl (hb hby dP_0) rfl ?_
    exact kt
  by_cases hc1_2 : k = (0 : Int32)
  · obtain ⟨T3, X3, e3, st3⟩ := getS2 X0 hx hZ hown (host := "") (Or.inl (hw _ (List.mem_of_getElem? (i := 6) rfl))) Via.refl e0 S_ZERO (g := (mkF m 4 #[.val (.int k)] [])) rfl (hb hby dP_4)
    obtain ⟨fs, hr, hrun, hended, hW, hsame⟩ := X3.leave (v := some (.ref w_ZERO)) (fun h => by rw [Bd.returns] at h; cases h)
    refine ⟨_, _, pre1 _ ?_, hrun, hended, _, _, rfl, ?_, ⟨_, rfl⟩, hW, hsame.mono (by decide) (by decide)⟩
    · show Steps p.tables e below (s₁.setTop (mkF m 1 #[.val (.int k)] [(.int k)])) _
      refine XS.ifNo X0.here hx rfl (hb hby dP_1) rfl ((if0 _ _).trans (teq hc1_2).2) ?_
      show Steps p.tables e below (s₁.setTop (mkF m 4 #[.val (.int k)] [])) _
      refine st3 _ ?_
      show Steps p.tables e below (T3.setTop (mkF m 7 #[.val (.int k)] [(.ref w_ZERO)])) _
      exact retOut X3 hx Bd.returns rfl (Or.inr (Or.inr (Or.inr (Or.inr ⟨rfl, rfl, rfl⟩)))) (hb hby dP_7) hr
    · show QP k w_ZERO w_EXACTLY_ONE w_ZERO_OR_ONE w_ZERO_OR_MORE w_ONE_OR_MORE h0 n0 _ T3.heap _
      rw [e3]
      exact ⟨by simp [own_pick, hc1_2], N0, rfl⟩
  · have pre4 : ∀ t, Steps p.tables e below (s₁.setTop (mkF m 10 #[.val (.int k)] [(.int (1 : Int32)), (.int k)])) t → Steps p.tables e below (s₁.setTop (entryFrame m #[(.int k)] 1)) t := fun t kt => by
      refine pre1 t ?_
      show Steps p.tables e below (s₁.setTop (mkF m 1 #[.val (.int k)] [(.int k)])) _
      refine XS.ifYes X0.here hx rfl (pc0 := 1) (pc' := 8) rfl (hb hby dP_1) rfl ((if0 _ _).trans (feq hc1_2).2) (by decide) (by decide) ?_
      show Steps p.tables e below (s₁.setTop (mkF m 8 #[.val (.int k)] [])) _
      refine XS.iloadN X0.here hx rfl (hb hby dP_8) rfl ?_
      show Steps p.tables e below (s₁.setTop (mkF m 9 #[.val (.int k)] [(.int k)])) _
      refine XS.iconst X0.here hx rfl (hb hby dP_9) ?_
      exact kt
    by_cases hc10_5 : k = (1 : Int32)
    · obtain ⟨T6, X6, e6, st6⟩ := getS2 X0 hx hZ hown (host := "") (Or.inl (hw _ (List.mem_of_getElem? (i := 22) rfl))) Via.refl e0 S_EXACTLY_ONE (g := (mkF m 13 #[.val (.int k)] [])) rfl (hb hby dP_13)
      obtain ⟨fs, hr, hrun, hended, hW, hsame⟩ := X6.leave (v := some (.ref w_EXACTLY_ONE)) (fun h => by rw [Bd.returns] at h; cases h)
      refine ⟨_, _, pre4 _ ?_, hrun, hended, _, _, rfl, ?_, ⟨_, rfl⟩, hW, hsame.mono (by decide) (by decide)⟩
      · show Steps p.tables e below (s₁.setTop (mkF m 10 #[.val (.int k)] [(.int (1 : Int32)), (.int k)])) _
        refine XS.icmpNo X0.here hx rfl (hb hby dP_10) rfl (teq hc10_5).2 ?_
        show Steps p.tables e below (s₁.setTop (mkF m 13 #[.val (.int k)] [])) _
        refine st6 _ ?_
        show Steps p.tables e below (T6.setTop (mkF m 16 #[.val (.int k)] [(.ref w_EXACTLY_ONE)])) _
        exact retOut X6 hx Bd.returns rfl (Or.inr (Or.inr (Or.inr (Or.inr ⟨rfl, rfl, rfl⟩)))) (hb hby dP_16) hr
      · show QP k w_ZERO w_EXACTLY_ONE w_ZERO_OR_ONE w_ZERO_OR_MORE w_ONE_OR_MORE h0 n0 _ T6.heap _
        rw [e6]
        exact ⟨by simp [own_pick, hc1_2, hc10_5], N0, rfl⟩
    · have pre7 : ∀ t, Steps p.tables e below (s₁.setTop (mkF m 19 #[.val (.int k)] [(.int (2 : Int32)), (.int k)])) t → Steps p.tables e below (s₁.setTop (entryFrame m #[(.int k)] 1)) t := fun t kt => by
        refine pre4 t ?_
        show Steps p.tables e below (s₁.setTop (mkF m 10 #[.val (.int k)] [(.int (1 : Int32)), (.int k)])) _
        refine XS.icmpYes X0.here hx rfl (pc0 := 10) (pc' := 17) rfl (hb hby dP_10) rfl (feq hc10_5).2 (by decide) (by decide) ?_
        show Steps p.tables e below (s₁.setTop (mkF m 17 #[.val (.int k)] [])) _
        refine XS.iloadN X0.here hx rfl (hb hby dP_17) rfl ?_
        show Steps p.tables e below (s₁.setTop (mkF m 18 #[.val (.int k)] [(.int k)])) _
        refine XS.iconst X0.here hx rfl (hb hby dP_18) ?_
        exact kt
      by_cases hc19_8 : k = (2 : Int32)
      · obtain ⟨T9, X9, e9, st9⟩ := getS2 X0 hx hZ hown (host := "") (Or.inl (hw _ (List.mem_of_getElem? (i := 24) rfl))) Via.refl e0 S_ZERO_OR_ONE (g := (mkF m 22 #[.val (.int k)] [])) rfl (hb hby dP_22)
        obtain ⟨fs, hr, hrun, hended, hW, hsame⟩ := X9.leave (v := some (.ref w_ZERO_OR_ONE)) (fun h => by rw [Bd.returns] at h; cases h)
        refine ⟨_, _, pre7 _ ?_, hrun, hended, _, _, rfl, ?_, ⟨_, rfl⟩, hW, hsame.mono (by decide) (by decide)⟩
        · show Steps p.tables e below (s₁.setTop (mkF m 19 #[.val (.int k)] [(.int (2 : Int32)), (.int k)])) _
          refine XS.icmpNo X0.here hx rfl (hb hby dP_19) rfl (teq hc19_8).2 ?_
          show Steps p.tables e below (s₁.setTop (mkF m 22 #[.val (.int k)] [])) _
          refine st9 _ ?_
          show Steps p.tables e below (T9.setTop (mkF m 25 #[.val (.int k)] [(.ref w_ZERO_OR_ONE)])) _
          exact retOut X9 hx Bd.returns rfl (Or.inr (Or.inr (Or.inr (Or.inr ⟨rfl, rfl, rfl⟩)))) (hb hby dP_25) hr
        · show QP k w_ZERO w_EXACTLY_ONE w_ZERO_OR_ONE w_ZERO_OR_MORE w_ONE_OR_MORE h0 n0 _ T9.heap _
          rw [e9]
          exact ⟨by simp [own_pick, hc1_2, hc10_5, hc19_8], N0, rfl⟩
      · have pre10 : ∀ t, Steps p.tables e below (s₁.setTop (mkF m 28 #[.val (.int k)] [(.int (3 : Int32)), (.int k)])) t → Steps p.tables e below (s₁.setTop (entryFrame m #[(.int k)] 1)) t := fun t kt => by
          refine pre7 t ?_
          show Steps p.tables e below (s₁.setTop (mkF m 19 #[.val (.int k)] [(.int (2 : Int32)), (.int k)])) _
          refine XS.icmpYes X0.here hx rfl (pc0 := 19) (pc' := 26) rfl (hb hby dP_19) rfl (feq hc19_8).2 (by decide) (by decide) ?_
          show Steps p.tables e below (s₁.setTop (mkF m 26 #[.val (.int k)] [])) _
          refine XS.iloadN X0.here hx rfl (hb hby dP_26) rfl ?_
          show Steps p.tables e below (s₁.setTop (mkF m 27 #[.val (.int k)] [(.int k)])) _
          refine XS.iconst X0.here hx rfl (hb hby dP_27) ?_
          exact kt
        by_cases hc28_11 : k = (3 : Int32)
        · obtain ⟨T12, X12, e12, st12⟩ := getS2 X0 hx hZ hown (host := "") (Or.inl (hw _ (List.mem_of_getElem? (i := 9) rfl))) Via.refl e0 S_ZERO_OR_MORE (g := (mkF m 31 #[.val (.int k)] [])) rfl (hb hby dP_31)
          obtain ⟨fs, hr, hrun, hended, hW, hsame⟩ := X12.leave (v := some (.ref w_ZERO_OR_MORE)) (fun h => by rw [Bd.returns] at h; cases h)
          refine ⟨_, _, pre10 _ ?_, hrun, hended, _, _, rfl, ?_, ⟨_, rfl⟩, hW, hsame.mono (by decide) (by decide)⟩
          · show Steps p.tables e below (s₁.setTop (mkF m 28 #[.val (.int k)] [(.int (3 : Int32)), (.int k)])) _
            refine XS.icmpNo X0.here hx rfl (hb hby dP_28) rfl (teq hc28_11).2 ?_
            show Steps p.tables e below (s₁.setTop (mkF m 31 #[.val (.int k)] [])) _
            refine st12 _ ?_
            show Steps p.tables e below (T12.setTop (mkF m 34 #[.val (.int k)] [(.ref w_ZERO_OR_MORE)])) _
            exact retOut X12 hx Bd.returns rfl (Or.inr (Or.inr (Or.inr (Or.inr ⟨rfl, rfl, rfl⟩)))) (hb hby dP_34) hr
          · show QP k w_ZERO w_EXACTLY_ONE w_ZERO_OR_ONE w_ZERO_OR_MORE w_ONE_OR_MORE h0 n0 _ T12.heap _
            rw [e12]
            exact ⟨by simp [own_pick, hc1_2, hc10_5, hc19_8, hc28_11], N0, rfl⟩
        · obtain ⟨T13, X13, e13, st13⟩ := getS2 X0 hx hZ hown (host := "") (Or.inl (hw _ (List.mem_of_getElem? (i := 20) rfl))) Via.refl e0 S_ONE_OR_MORE (g := (mkF m 35 #[.val (.int k)] [])) rfl (hb hby dP_35)
          obtain ⟨fs, hr, hrun, hended, hW, hsame⟩ := X13.leave (v := some (.ref w_ONE_OR_MORE)) (fun h => by rw [Bd.returns] at h; cases h)
          refine ⟨_, _, pre10 _ ?_, hrun, hended, _, _, rfl, ?_, ⟨_, rfl⟩, hW, hsame.mono (by decide) (by decide)⟩
          · show Steps p.tables e below (s₁.setTop (mkF m 28 #[.val (.int k)] [(.int (3 : Int32)), (.int k)])) _
            refine XS.icmpYes X0.here hx rfl (pc0 := 28) (pc' := 35) rfl (hb hby dP_28) rfl (feq hc28_11).2 (by decide) (by decide) ?_
            show Steps p.tables e below (s₁.setTop (mkF m 35 #[.val (.int k)] [])) _
            refine st13 _ ?_
            show Steps p.tables e below (T13.setTop (mkF m 38 #[.val (.int k)] [(.ref w_ONE_OR_MORE)])) _
            exact retOut X13 hx Bd.returns rfl (Or.inr (Or.inr (Or.inr (Or.inr ⟨rfl, rfl, rfl⟩)))) (hb hby dP_38) hr
          · show QP k w_ZERO w_EXACTLY_ONE w_ZERO_OR_ONE w_ZERO_OR_MORE w_ONE_OR_MORE h0 n0 _ T13.heap _
            rw [e13]
            exact ⟨by simp [own_pick, hc1_2, hc10_5, hc19_8, hc28_11], N0, rfl⟩
theorem dI_0 : decode prog_57_method_5_code 0 = .ok (.aload_n 0, 1) := by decide +kernel
theorem dI_1 : decode prog_57_method_5_code 1 = .ok (.getfield 38, 3) := by decide +kernel
theorem dI_4 : decode prog_57_method_5_code 4 = .ok (.aload_n 1, 1) := by decide +kernel
theorem dI_5 : decode prog_57_method_5_code 5 = .ok (.getfield 38, 3) := by decide +kernel
theorem dI_8 : decode prog_57_method_5_code 8 = .ok (.if_icmp .lt 18, 3) := by decide +kernel
theorem dI_11 : decode prog_57_method_5_code 11 = .ok (.aload_n 0, 1) := by decide +kernel
theorem dI_12 : decode prog_57_method_5_code 12 = .ok (.getfield 42, 3) := by decide +kernel
theorem dI_15 : decode prog_57_method_5_code 15 = .ok (.aload_n 1, 1) := by decide +kernel
theorem dI_16 : decode prog_57_method_5_code 16 = .ok (.getfield 42, 3) := by decide +kernel
theorem dI_19 : decode prog_57_method_5_code 19 = .ok (.if_icmp .gt 7, 3) := by decide +kernel
theorem dI_22 : decode prog_57_method_5_code 22 = .ok (.iconst 1, 1) := by decide +kernel
theorem dI_23 : decode prog_57_method_5_code 23 = .ok (.goto 4, 3) := by decide +kernel
theorem dI_26 : decode prog_57_method_5_code 26 = .ok (.iconst 0, 1) := by decide +kernel
theorem dI_27 : decode prog_57_method_5_code 27 = .ok (.ireturn, 1) := by decide +kernel
theorem pnI : plainName "com/example/mint_path/mintpath/type/Occurrence" = true := by first | (simp [plainName, overriddenIn]; done) | decide +kernel
theorem efI (m : MethodId) (a : Addr) (b : Addr) : entryFrame m #[(.ref a), (.ref b)] 2 = mkF m 0 #[.val (.ref a), .val (.ref b)] [] := by first | (simp [entryFrame, mkF, argsToLocals, Value.category]; done) | rfl
def QI (amn amx bmn bmx : Int32) (h0 : Heap) (n0 : Nat) (v : Option Value) (h : Heap) (L : List Loc) : Prop := v = some (.int (own_within amn amx bmn bmx)) ∧ Fr n0 L ∧ h = h0
set_option maxRecDepth 65536 in
set_option maxHeartbeats 40000000 in
theorem rmI (l : Launch) (Z : State) (a0 : Array Value) (hw : ∀ d ∈ tables_1, d.before a0 Z = true) (ws : List Jvm.Cond) (a : Addr) (b : Addr) (amn amx bmn bmx : Int32) (h0 : Heap) (n0 : Nat) (Z0 : n0 ≤ h0.size) (F1 : Fld Z h0 a "com/example/mint_path/mintpath/type/Occurrence" "min" "I" (.int amn)) (F2 : Fld Z h0 a "com/example/mint_path/mintpath/type/Occurrence" "max" "I" (.int amx)) (F3 : Fld Z h0 b "com/example/mint_path/mintpath/type/Occurrence" "min" "I" (.int bmn)) (F4 : Fld Z h0 b "com/example/mint_path/mintpath/type/Occurrence" "max" "I" (.int bmx)) :
    MetFree l (⟨"com/example/mint_path/mintpath/type/Occurrence", "isWithin", "(Lcom/example/mint_path/mintpath/type/Occurrence;)Z"⟩ : MethodName) (head1 (Jvm.Cond.code (⟨"com/example/mint_path/mintpath/type/Occurrence", "isWithin", "(Lcom/example/mint_path/mintpath/type/Occurrence;)Z"⟩ : MethodName) prog_57_method_5_code 2 (some .boolean) :: ws) ({ frames := 0, cells := 0, slots := 0, locals := 0 } : Room)) (fun as_ U => as_ = #[(.ref a), (.ref b)] ∧ Z.Warmed39 U.vm ∧ U.heap = h0) (fun _ _ _ _ _ => True) (fun _ U o U' => ∃ v L, o = .returned v ∧ QI amn amx bmn bmx h0 n0 v U'.heap L ∧ FrameEnd U o U' L ({ frames := 0, cells := 0, slots := 0, locals := 0 } : Room).cells ({ frames := 0, cells := 0, slots := 0, locals := 0 } : Room).slots) := by
  refine MetFree.of_bodySF (plainFor_of_name pnI) hisR ?_
  intro p e s m args below meth c s₁ Bd hml0 hP hK
  obtain ⟨rfl, hZ, hh⟩ := hP
  have hx := Bd.exec
  have hby := Bd.bytes
  have hml : c.maxLocals = 2 := hml0
  have hown : s.vm.findClass "com/example/mint_path/mintpath/type/Occurrence" = some m.cls := findClass_of_methodNamed Bd.named
  have X0 : Stand p l e ({ frames := 0, cells := 0, slots := 0, locals := 0 } : Room) s m #[(.ref a), (.ref b)] below meth c s₁ [] 0 0 := Stand.of_body Bd
  have e0 : s₁.heap = h0 := by rw [← hh, Bd.state]; rfl
  have N0 := Fr.nil n0
  have pre0 : ∀ t, Steps p.tables e below (s₁.setTop (mkF m 0 #[.val (.ref a), .val (.ref b)] [])) t → Steps p.tables e below (s₁.setTop (entryFrame m #[(.ref a), (.ref b)] 2)) t := fun t kk_ => castTop (efI m a b) kk_
  obtain ⟨T1, X1, e1, st1⟩ := getF X0 hx hZ hown (host := "") (Or.inl (hw _ (List.mem_of_getElem? (i := 16) rfl))) Via.refl e0 F1 (g := (mkF m 1 #[.val (.ref a), .val (.ref b)] [(.ref a)])) rfl rfl (hb hby dI_1)
  obtain ⟨T2, X2, e2, st2⟩ := getF X1 hx hZ hown (host := "") (Or.inl (hw _ (List.mem_of_getElem? (i := 16) rfl))) Via.refl e1 F3 (g := (mkF m 5 #[.val (.ref a), .val (.ref b)] [(.ref b), (.int amn)])) rfl rfl (hb hby dI_5)
  have pre3 : ∀ t, Steps p.tables e below (T2.setTop (mkF m 8 #[.val (.ref a), .val (.ref b)] [(.int bmn), (.int amn)])) t → Steps p.tables e below (s₁.setTop (entryFrame m #[(.ref a), (.ref b)] 2)) t := fun t kt => by
    refine pre0 t ?_
    show Steps p.tables e below (s₁.setTop (mkF m 0 #[.val (.ref a), .val (.ref b)] [])) _
    refine XS.aloadN X0.here hx rfl (hb hby dI_0) rfl rfl ?_
    show Steps p.tables e below (s₁.setTop (mkF m 1 #[.val (.ref a), .val (.ref b)] [(.ref a)])) _
    refine st1 _ ?_
    show Steps p.tables e below (T1.setTop (mkF m 4 #[.val (.ref a), .val (.ref b)] [(.int amn)])) _
    refine XS.aloadN X1.here hx rfl (hb hby dI_4) rfl rfl ?_
    show Steps p.tables e below (T1.setTop (mkF m 5 #[.val (.ref a), .val (.ref b)] [(.ref b), (.int amn)])) _
    refine st2 _ ?_
    exact kt
  by_cases hc8_4 : amn < bmn
  · obtain ⟨fs, hr, hrun, hended, hW, hsame⟩ := X2.leave (v := some (.int (0 : Int32))) (fun h => by rw [Bd.returns] at h; cases h)
    refine ⟨_, _, pre3 _ ?_, hrun, hended, _, _, rfl, ?_, ⟨_, rfl⟩, hW, hsame.mono (by decide) (by decide)⟩
    · show Steps p.tables e below (T2.setTop (mkF m 8 #[.val (.ref a), .val (.ref b)] [(.int bmn), (.int amn)])) _
      refine XS.icmpYes X2.here hx rfl (pc0 := 8) (pc' := 26) rfl (hb hby dI_8) rfl (tlt hc8_4).1 (by decide) (by decide) ?_
      show Steps p.tables e below (T2.setTop (mkF m 26 #[.val (.ref a), .val (.ref b)] [])) _
      refine XS.iconst X2.here hx rfl (hb hby dI_26) ?_
      show Steps p.tables e below (T2.setTop (mkF m 27 #[.val (.ref a), .val (.ref b)] [(.int (0 : Int32))])) _
      exact retN X2 hx (t := .boolean) Bd.returns (by simp) (hb hby dI_27) hr
    · show QI amn amx bmn bmx h0 n0 _ T2.heap _
      rw [e2]
      exact ⟨by simp [own_within, hc8_4], N0, rfl⟩
  · obtain ⟨T5, X5, e5, st5⟩ := getF X2 hx hZ hown (host := "") (Or.inl (hw _ (List.mem_of_getElem? (i := 18) rfl))) Via.refl e2 F2 (g := (mkF m 12 #[.val (.ref a), .val (.ref b)] [(.ref a)])) rfl rfl (hb hby dI_12)
    obtain ⟨T6, X6, e6, st6⟩ := getF X5 hx hZ hown (host := "") (Or.inl (hw _ (List.mem_of_getElem? (i := 18) rfl))) Via.refl e5 F4 (g := (mkF m 16 #[.val (.ref a), .val (.ref b)] [(.ref b), (.int amx)])) rfl rfl (hb hby dI_16)
    have pre7 : ∀ t, Steps p.tables e below (T6.setTop (mkF m 19 #[.val (.ref a), .val (.ref b)] [(.int bmx), (.int amx)])) t → Steps p.tables e below (s₁.setTop (entryFrame m #[(.ref a), (.ref b)] 2)) t := fun t kt => by
      refine pre3 t ?_
      show Steps p.tables e below (T2.setTop (mkF m 8 #[.val (.ref a), .val (.ref b)] [(.int bmn), (.int amn)])) _
      refine XS.icmpNo X2.here hx rfl (hb hby dI_8) rfl (flt hc8_4).1 ?_
      show Steps p.tables e below (T2.setTop (mkF m 11 #[.val (.ref a), .val (.ref b)] [])) _
      refine XS.aloadN X2.here hx rfl (hb hby dI_11) rfl rfl ?_
      show Steps p.tables e below (T2.setTop (mkF m 12 #[.val (.ref a), .val (.ref b)] [(.ref a)])) _
      refine st5 _ ?_
      show Steps p.tables e below (T5.setTop (mkF m 15 #[.val (.ref a), .val (.ref b)] [(.int amx)])) _
      refine XS.aloadN X5.here hx rfl (hb hby dI_15) rfl rfl ?_
      show Steps p.tables e below (T5.setTop (mkF m 16 #[.val (.ref a), .val (.ref b)] [(.ref b), (.int amx)])) _
      refine st6 _ ?_
      exact kt
    by_cases hc19_8 : bmx < amx
    · obtain ⟨fs, hr, hrun, hended, hW, hsame⟩ := X6.leave (v := some (.int (0 : Int32))) (fun h => by rw [Bd.returns] at h; cases h)
      refine ⟨_, _, pre7 _ ?_, hrun, hended, _, _, rfl, ?_, ⟨_, rfl⟩, hW, hsame.mono (by decide) (by decide)⟩
      · show Steps p.tables e below (T6.setTop (mkF m 19 #[.val (.ref a), .val (.ref b)] [(.int bmx), (.int amx)])) _
        refine XS.icmpYes X6.here hx rfl (pc0 := 19) (pc' := 26) rfl (hb hby dI_19) rfl (tlt hc19_8).2.2.1 (by decide) (by decide) ?_
        show Steps p.tables e below (T6.setTop (mkF m 26 #[.val (.ref a), .val (.ref b)] [])) _
        refine XS.iconst X6.here hx rfl (hb hby dI_26) ?_
        show Steps p.tables e below (T6.setTop (mkF m 27 #[.val (.ref a), .val (.ref b)] [(.int (0 : Int32))])) _
        exact retN X6 hx (t := .boolean) Bd.returns (by simp) (hb hby dI_27) hr
      · show QI amn amx bmn bmx h0 n0 _ T6.heap _
        rw [e6]
        exact ⟨by simp [own_within, hc8_4, hc19_8], N0, rfl⟩
    · obtain ⟨fs, hr, hrun, hended, hW, hsame⟩ := X6.leave (v := some (.int (1 : Int32))) (fun h => by rw [Bd.returns] at h; cases h)
      refine ⟨_, _, pre7 _ ?_, hrun, hended, _, _, rfl, ?_, ⟨_, rfl⟩, hW, hsame.mono (by decide) (by decide)⟩
      · show Steps p.tables e below (T6.setTop (mkF m 19 #[.val (.ref a), .val (.ref b)] [(.int bmx), (.int amx)])) _
        refine XS.icmpNo X6.here hx rfl (hb hby dI_19) rfl (flt hc19_8).2.2.1 ?_
        show Steps p.tables e below (T6.setTop (mkF m 22 #[.val (.ref a), .val (.ref b)] [])) _
        refine XS.iconst X6.here hx rfl (hb hby dI_22) ?_
        show Steps p.tables e below (T6.setTop (mkF m 23 #[.val (.ref a), .val (.ref b)] [(.int (1 : Int32))])) _
        refine XS.goto X6.here hx rfl (pc0 := 23) (pc' := 27) rfl (hb hby dI_23) (by decide) (by decide) ?_
        show Steps p.tables e below (T6.setTop (mkF m 27 #[.val (.ref a), .val (.ref b)] [(.int (1 : Int32))])) _
        exact retN X6 hx (t := .boolean) Bd.returns (by simp) (hb hby dI_27) hr
      · show QI amn amx bmn bmx h0 n0 _ T6.heap _
        rw [e6]
        exact ⟨by simp [own_within, hc8_4, hc19_8], N0, rfl⟩
theorem pn0 : plainName "com/example/mint_path/mintpath/type/OccurrenceIsWithinPinLaw" = true := by first | (simp [plainName, overriddenIn]; done) | decide +kernel
theorem pd0_0 : parseMethodDescriptor "(I)Lcom/example/mint_path/mintpath/type/Occurrence;" = some ⟨[.int], some (.object "com/example/mint_path/mintpath/type/Occurrence")⟩ := by decide +kernel
theorem pd0_1 : parseMethodDescriptor "(Lcom/example/mint_path/mintpath/type/Occurrence;)Z" = some ⟨[(.object "com/example/mint_path/mintpath/type/Occurrence")], some .boolean⟩ := by decide +kernel
theorem ef0 (m : MethodId) (p1 : Int32) (p2 : Int32) : entryFrame m #[(.int p1), (.int p2)] maxLocals = mkF m 0 #[.val (.int p1), .val (.int p2), .unset, .unset, .unset, .unset, .unset, .unset] [] := by first | (simp [entryFrame, mkF, argsToLocals, Value.category, maxLocals]; done) | rfl
def Q0  (h0 : Heap) (n0 : Nat) (v : Option Value) (h : Heap) (L : List Loc) : Prop := v = some (.int (1 : Int32)) ∧ Fr n0 L
set_option maxRecDepth 65536 in
set_option maxHeartbeats 40000000 in
theorem rm0 (l : Launch) (Z : State) (a0 : Array Value) (hw : ∀ d ∈ tables_1, d.before a0 Z = true) (ws : List Jvm.Cond) (p1 : Int32) (p2 : Int32) (w_ZERO w_EXACTLY_ONE w_ZERO_OR_ONE w_ZERO_OR_MORE w_ONE_OR_MORE : Addr) (h0 : Heap) (n0 : Nat) (Z0 : n0 ≤ h0.size) (S_ZERO : Sta Z h0 "com/example/mint_path/mintpath/type/Occurrence" "ZERO" "Lcom/example/mint_path/mintpath/type/Occurrence;" (.ref w_ZERO)) (S_EXACTLY_ONE : Sta Z h0 "com/example/mint_path/mintpath/type/Occurrence" "EXACTLY_ONE" "Lcom/example/mint_path/mintpath/type/Occurrence;" (.ref w_EXACTLY_ONE)) (S_ZERO_OR_ONE : Sta Z h0 "com/example/mint_path/mintpath/type/Occurrence" "ZERO_OR_ONE" "Lcom/example/mint_path/mintpath/type/Occurrence;" (.ref w_ZERO_OR_ONE)) (S_ZERO_OR_MORE : Sta Z h0 "com/example/mint_path/mintpath/type/Occurrence" "ZERO_OR_MORE" "Lcom/example/mint_path/mintpath/type/Occurrence;" (.ref w_ZERO_OR_MORE)) (S_ONE_OR_MORE : Sta Z h0 "com/example/mint_path/mintpath/type/Occurrence" "ONE_OR_MORE" "Lcom/example/mint_path/mintpath/type/Occurrence;" (.ref w_ONE_OR_MORE)) (E_ZERO : Exa Z h0 w_ZERO "com/example/mint_path/mintpath/type/Occurrence") (E_EXACTLY_ONE : Exa Z h0 w_EXACTLY_ONE "com/example/mint_path/mintpath/type/Occurrence") (E_ZERO_OR_ONE : Exa Z h0 w_ZERO_OR_ONE "com/example/mint_path/mintpath/type/Occurrence") (E_ZERO_OR_MORE : Exa Z h0 w_ZERO_OR_MORE "com/example/mint_path/mintpath/type/Occurrence") (E_ONE_OR_MORE : Exa Z h0 w_ONE_OR_MORE "com/example/mint_path/mintpath/type/Occurrence") (A_ZERO : Fld Z h0 w_ZERO "com/example/mint_path/mintpath/type/Occurrence" "min" "I" (.int (0 : Int32))) (A_EXACTLY_ONE : Fld Z h0 w_EXACTLY_ONE "com/example/mint_path/mintpath/type/Occurrence" "min" "I" (.int (1 : Int32))) (A_ZERO_OR_ONE : Fld Z h0 w_ZERO_OR_ONE "com/example/mint_path/mintpath/type/Occurrence" "min" "I" (.int (0 : Int32))) (A_ZERO_OR_MORE : Fld Z h0 w_ZERO_OR_MORE "com/example/mint_path/mintpath/type/Occurrence" "min" "I" (.int (0 : Int32))) (A_ONE_OR_MORE : Fld Z h0 w_ONE_OR_MORE "com/example/mint_path/mintpath/type/Occurrence" "min" "I" (.int (1 : Int32))) (B_ZERO : Fld Z h0 w_ZERO "com/example/mint_path/mintpath/type/Occurrence" "max" "I" (.int (0 : Int32))) (B_EXACTLY_ONE : Fld Z h0 w_EXACTLY_ONE "com/example/mint_path/mintpath/type/Occurrence" "max" "I" (.int (1 : Int32))) (B_ZERO_OR_ONE : Fld Z h0 w_ZERO_OR_ONE "com/example/mint_path/mintpath/type/Occurrence" "max" "I" (.int (1 : Int32))) (B_ZERO_OR_MORE : Fld Z h0 w_ZERO_OR_MORE "com/example/mint_path/mintpath/type/Occurrence" "max" "I" (.int (2147483647 : Int32))) (B_ONE_OR_MORE : Fld Z h0 w_ONE_OR_MORE "com/example/mint_path/mintpath/type/Occurrence" "max" "I" (.int (2147483647 : Int32))) :
    MetFree l x (head1 (Jvm.Cond.code x code maxLocals ret :: ws) room_1) (fun as_ U => as_ = #[(.int p1), (.int p2)] ∧ Z.Warmed39 U.vm ∧ U.heap = h0) (fun _ _ _ _ _ => True) (fun _ U o U' => ∃ v L, o = .returned v ∧ Q0 h0 n0 v U'.heap L ∧ FrameEnd U o U' L room_1.cells room_1.slots) := by
  refine MetFree.of_bodySF (plainFor_of_name pn0) hisR ?_
  intro p e s m args below meth c s₁ Bd hml0 hP hK
  obtain ⟨rfl, hZ, hh⟩ := hP
  have hx := Bd.exec
  have hby := Bd.bytes
  have hml : c.maxLocals = 8 := hml0
  have hown : s.vm.findClass "com/example/mint_path/mintpath/type/OccurrenceIsWithinPinLaw" = some m.cls := findClass_of_methodNamed Bd.named
  have X0 : Stand p l e room_1 s m #[(.int p1), (.int p2)] below meth c s₁ [] 0 0 := Stand.of_body Bd
  have e0 : s₁.heap = h0 := by rw [← hh, Bd.state]; rfl
  have N0 := Fr.nil n0
  have pre0 : ∀ t, Steps p.tables e below (s₁.setTop (mkF m 0 #[.val (.int p1), .val (.int p2), .unset, .unset, .unset, .unset, .unset, .unset] [])) t → Steps p.tables e below (s₁.setTop (entryFrame m #[(.int p1), (.int p2)] maxLocals)) t := fun t kk_ => castTop (ef0 m p1 p2) kk_
  obtain ⟨i, hi⟩ : ∃ z : Int32, z = (p1 &&& (2147483647 : Int32)) % (5 : Int32) := ⟨_, rfl⟩
  obtain ⟨j, hj⟩ : ∃ z : Int32, z = (p2 &&& (2147483647 : Int32)) % (5 : Int32) := ⟨_, rfl⟩
  have ri := own_rng hi
  have rj := own_rng hj
  have fi := own_five ri
  have fj := own_five rj
  obtain ⟨T1, h1, k1, X1, e1, E1, A1, st1⟩ := newP X0 hx hZ (hw _ (List.mem_of_getElem? (i := 1) rfl)) e0 (g := (mkF m 15 #[.val (.int p1), .val (.int p2), .val (.int i), .val (.int j), .unset, .unset, .unset, .unset] [(.int (5 : Int32))])) rfl (hb hby at_15) rfl (by decide) (cap := 5) (by decide) (by decide) (by decide) (by decide)
  obtain ⟨b1, g1⟩ : ∃ z, z = h0.size := ⟨_, rfl⟩
  rw [← g1] at A1 st1
  have V1 : Arv Z h1 b1 k1 .int (5 : Int32) [(.int (0 : Int32)), (.int (0 : Int32)), (.int (0 : Int32)), (.int (0 : Int32)), (.int (0 : Int32))] (.int (0 : Int32)) := (Arv.new A1 (by decide)).pad (pad_rep [] (.int (0 : Int32)) 5)
  have K1 : Keep h0 h1 [] := (Keep.refl h0 []).ext E1
  have sz1 : h0.size ≤ b1 := Nat.le_trans (Keep.refl h0 []).1 (Nat.le_of_eq g1.symm)
  have gb1 : n0 ≤ b1 := Nat.le_trans Z0 sz1
  obtain ⟨cl2, Ar2, qa2, Sa2, Ma2, Ha2, Ga2⟩ := V1
  have hin2 := inb_of (j := (0 : Int32)) Sa2 ⟨by decide, by decide⟩
  obtain ⟨T3, h3, X3, e3, W3, st3⟩ := stI X1 hx hZ e1 Ar2 (j := (0 : Int32)) hin2 (g := (mkF m 21 #[.val (.int p1), .val (.int p2), .val (.int i), .val (.int j), .unset, .unset, .unset, .unset] [(.int (13 : Int32)), (.int (0 : Int32)), (.ref b1), (.ref b1)])) rfl rfl (hb hby at_21)
  have V3 : Arv Z h3 b1 k1 .int (5 : Int32) [(.int (13 : Int32)), (.int (0 : Int32)), (.int (0 : Int32)), (.int (0 : Int32)), (.int (0 : Int32))] (.int (0 : Int32)) := Arv.set Ar2 qa2 Sa2 Ma2 Ha2 Ga2 rfl W3 0 rfl (by decide)
  have N3 := Fr.snoc X3 N0 gb1
  have K3 := Keep.wr K1 W3 (Or.inr sz1)
  obtain ⟨cl4, Ar4, qa4, Sa4, Ma4, Ha4, Ga4⟩ := V3
  have hin4 := inb_of (j := (1 : Int32)) Sa4 ⟨by decide, by decide⟩
  obtain ⟨T5, h5, X5, e5, W5, st5⟩ := stI X3 hx hZ e3 Ar4 (j := (1 : Int32)) hin4 (g := (mkF m 26 #[.val (.int p1), .val (.int p2), .val (.int i), .val (.int j), .unset, .unset, .unset, .unset] [(.int (30 : Int32)), (.int (1 : Int32)), (.ref b1), (.ref b1)])) rfl rfl (hb hby at_26)
  have V5 : Arv Z h5 b1 k1 .int (5 : Int32) [(.int (13 : Int32)), (.int (30 : Int32)), (.int (0 : Int32)), (.int (0 : Int32)), (.int (0 : Int32))] (.int (0 : Int32)) := Arv.set Ar4 qa4 Sa4 Ma4 Ha4 Ga4 rfl W5 1 rfl (by decide)
  have N5 := Fr.snoc X5 N3 gb1
  have K5 := Keep.wr K3 W5 (Or.inr sz1)
  obtain ⟨cl6, Ar6, qa6, Sa6, Ma6, Ha6, Ga6⟩ := V5
  have hin6 := inb_of (j := (2 : Int32)) Sa6 ⟨by decide, by decide⟩
  obtain ⟨T7, h7, X7, e7, W7, st7⟩ := stI X5 hx hZ e5 Ar6 (j := (2 : Int32)) hin6 (g := (mkF m 31 #[.val (.int p1), .val (.int p2), .val (.int i), .val (.int j), .unset, .unset, .unset, .unset] [(.int (12 : Int32)), (.int (2 : Int32)), (.ref b1), (.ref b1)])) rfl rfl (hb hby at_31)
  have V7 : Arv Z h7 b1 k1 .int (5 : Int32) [(.int (13 : Int32)), (.int (30 : Int32)), (.int (12 : Int32)), (.int (0 : Int32)), (.int (0 : Int32))] (.int (0 : Int32)) := Arv.set Ar6 qa6 Sa6 Ma6 Ha6 Ga6 rfl W7 2 rfl (by decide)
  have N7 := Fr.snoc X7 N5 gb1
  have K7 := Keep.wr K5 W7 (Or.inr sz1)
  obtain ⟨cl8, Ar8, qa8, Sa8, Ma8, Ha8, Ga8⟩ := V7
  have hin8 := inb_of (j := (3 : Int32)) Sa8 ⟨by decide, by decide⟩
  obtain ⟨T9, h9, X9, e9, W9, st9⟩ := stI X7 hx hZ e7 Ar8 (j := (3 : Int32)) hin8 (g := (mkF m 36 #[.val (.int p1), .val (.int p2), .val (.int i), .val (.int j), .unset, .unset, .unset, .unset] [(.int (8 : Int32)), (.int (3 : Int32)), (.ref b1), (.ref b1)])) rfl rfl (hb hby at_36)
  have V9 : Arv Z h9 b1 k1 .int (5 : Int32) [(.int (13 : Int32)), (.int (30 : Int32)), (.int (12 : Int32)), (.int (8 : Int32)), (.int (0 : Int32))] (.int (0 : Int32)) := Arv.set Ar8 qa8 Sa8 Ma8 Ha8 Ga8 rfl W9 3 rfl (by decide)
  have N9 := Fr.snoc X9 N7 gb1
  have K9 := Keep.wr K7 W9 (Or.inr sz1)
  obtain ⟨cl10, Ar10, qa10, Sa10, Ma10, Ha10, Ga10⟩ := V9
  have hin10 := inb_of (j := (4 : Int32)) Sa10 ⟨by decide, by decide⟩
  obtain ⟨T11, h11, X11, e11, W11, st11⟩ := stI X9 hx hZ e9 Ar10 (j := (4 : Int32)) hin10 (g := (mkF m 41 #[.val (.int p1), .val (.int p2), .val (.int i), .val (.int j), .unset, .unset, .unset, .unset] [(.int (24 : Int32)), (.int (4 : Int32)), (.ref b1), (.ref b1)])) rfl rfl (hb hby at_41)
  have V11 : Arv Z h11 b1 k1 .int (5 : Int32) [(.int (13 : Int32)), (.int (30 : Int32)), (.int (12 : Int32)), (.int (8 : Int32)), (.int (24 : Int32))] (.int (0 : Int32)) := Arv.set Ar10 qa10 Sa10 Ma10 Ha10 Ga10 rfl W11 4 rfl (by decide)
  have N11 := Fr.snoc X11 N9 gb1
  have K11 := Keep.wr K9 W11 (Or.inr sz1)
  obtain ⟨cl12, Ar12, qa12, Sa12, Ma12, Ha12, Ga12⟩ := V11
  have hin12 := inb_of (j := i) Sa12 ri
  have hat12 : cl12.slots[(i).toNatClampNeg]? = some (.int (own_row i)) := Has.at Ha12 hin12 (own_at fi)
  have pre13 : ∀ t, Steps p.tables e below (T11.setTop (mkF m 52 #[.val (.int p1), .val (.int p2), .val (.int i), .val (.int j), .val (.ref b1), .unset, .unset, .unset] [(.int (((own_row i) >>> (j &&& 31)) &&& (1 : Int32)))])) t → Steps p.tables e below (s₁.setTop (entryFrame m #[(.int p1), (.int p2)] maxLocals)) t := fun t kt => by
    refine pre0 t ?_
    show Steps p.tables e below (s₁.setTop (mkF m 0 #[.val (.int p1), .val (.int p2), .unset, .unset, .unset, .unset, .unset, .unset] [])) _
    refine XS.iloadN X0.here hx rfl (hb hby at_0) rfl ?_
    show Steps p.tables e below (s₁.setTop (mkF m 1 #[.val (.int p1), .val (.int p2), .unset, .unset, .unset, .unset, .unset, .unset] [(.int p1)])) _
    refine X0.ldcI hx hown (mvT hZ (hw _ (List.mem_of_getElem? (i := 0) rfl))) (g := (mkF m 1 #[.val (.int p1), .val (.int p2), .unset, .unset, .unset, .unset, .unset, .unset] [(.int p1)])) rfl (hb hby at_1) ?_
    show Steps p.tables e below (s₁.setTop (mkF m 3 #[.val (.int p1), .val (.int p2), .unset, .unset, .unset, .unset, .unset, .unset] [(.int (2147483647 : Int32)), (.int p1)])) _
    refine XS.iand X0.here hx rfl (hb hby at_3) rfl ?_
    show Steps p.tables e below (s₁.setTop (mkF m 4 #[.val (.int p1), .val (.int p2), .unset, .unset, .unset, .unset, .unset, .unset] [(.int (p1 &&& (2147483647 : Int32)))])) _
    refine XS.iconst X0.here hx rfl (hb hby at_4) ?_
    show Steps p.tables e below (s₁.setTop (mkF m 5 #[.val (.int p1), .val (.int p2), .unset, .unset, .unset, .unset, .unset, .unset] [(.int (5 : Int32)), (.int (p1 &&& (2147483647 : Int32)))])) _
    refine iremM (g := (mkF m 5 #[.val (.int p1), .val (.int p2), .unset, .unset, .unset, .unset, .unset, .unset] [(.int (5 : Int32)), (.int (p1 &&& (2147483647 : Int32)))])) X0 hx rfl (hb hby at_5) rfl (by decide) ?_
    show Steps p.tables e below (s₁.setTop (mkF m 6 #[.val (.int p1), .val (.int p2), .unset, .unset, .unset, .unset, .unset, .unset] [(.int ((p1 &&& (2147483647 : Int32)) % (5 : Int32)))])) _
    rw [← hi]
    show Steps p.tables e below (s₁.setTop (mkF m 6 #[.val (.int p1), .val (.int p2), .unset, .unset, .unset, .unset, .unset, .unset] [(.int i)])) _
    refine XS.istoreN X0.here hx rfl (hb hby at_6) rfl (l' := #[.val (.int p1), .val (.int p2), .val (.int i), .unset, .unset, .unset, .unset, .unset]) rfl ?_
    show Steps p.tables e below (s₁.setTop (mkF m 7 #[.val (.int p1), .val (.int p2), .val (.int i), .unset, .unset, .unset, .unset, .unset] [])) _
    refine XS.iloadN X0.here hx rfl (hb hby at_7) rfl ?_
    show Steps p.tables e below (s₁.setTop (mkF m 8 #[.val (.int p1), .val (.int p2), .val (.int i), .unset, .unset, .unset, .unset, .unset] [(.int p2)])) _
    refine X0.ldcI hx hown (mvT hZ (hw _ (List.mem_of_getElem? (i := 0) rfl))) (g := (mkF m 8 #[.val (.int p1), .val (.int p2), .val (.int i), .unset, .unset, .unset, .unset, .unset] [(.int p2)])) rfl (hb hby at_8) ?_
    show Steps p.tables e below (s₁.setTop (mkF m 10 #[.val (.int p1), .val (.int p2), .val (.int i), .unset, .unset, .unset, .unset, .unset] [(.int (2147483647 : Int32)), (.int p2)])) _
    refine XS.iand X0.here hx rfl (hb hby at_10) rfl ?_
    show Steps p.tables e below (s₁.setTop (mkF m 11 #[.val (.int p1), .val (.int p2), .val (.int i), .unset, .unset, .unset, .unset, .unset] [(.int (p2 &&& (2147483647 : Int32)))])) _
    refine XS.iconst X0.here hx rfl (hb hby at_11) ?_
    show Steps p.tables e below (s₁.setTop (mkF m 12 #[.val (.int p1), .val (.int p2), .val (.int i), .unset, .unset, .unset, .unset, .unset] [(.int (5 : Int32)), (.int (p2 &&& (2147483647 : Int32)))])) _
    refine iremM (g := (mkF m 12 #[.val (.int p1), .val (.int p2), .val (.int i), .unset, .unset, .unset, .unset, .unset] [(.int (5 : Int32)), (.int (p2 &&& (2147483647 : Int32)))])) X0 hx rfl (hb hby at_12) rfl (by decide) ?_
    show Steps p.tables e below (s₁.setTop (mkF m 13 #[.val (.int p1), .val (.int p2), .val (.int i), .unset, .unset, .unset, .unset, .unset] [(.int ((p2 &&& (2147483647 : Int32)) % (5 : Int32)))])) _
    rw [← hj]
    show Steps p.tables e below (s₁.setTop (mkF m 13 #[.val (.int p1), .val (.int p2), .val (.int i), .unset, .unset, .unset, .unset, .unset] [(.int j)])) _
    refine XS.istoreN X0.here hx rfl (hb hby at_13) rfl (l' := #[.val (.int p1), .val (.int p2), .val (.int i), .val (.int j), .unset, .unset, .unset, .unset]) rfl ?_
    show Steps p.tables e below (s₁.setTop (mkF m 14 #[.val (.int p1), .val (.int p2), .val (.int i), .val (.int j), .unset, .unset, .unset, .unset] [])) _
    refine XS.iconst X0.here hx rfl (hb hby at_14) ?_
    show Steps p.tables e below (s₁.setTop (mkF m 15 #[.val (.int p1), .val (.int p2), .val (.int i), .val (.int j), .unset, .unset, .unset, .unset] [(.int (5 : Int32))])) _
    refine st1 _ ?_
    show Steps p.tables e below (T1.setTop (mkF m 17 #[.val (.int p1), .val (.int p2), .val (.int i), .val (.int j), .unset, .unset, .unset, .unset] [(.ref b1)])) _
    refine XS.dup X1.here hx rfl (hb hby at_17) rfl rfl ?_
    show Steps p.tables e below (T1.setTop (mkF m 18 #[.val (.int p1), .val (.int p2), .val (.int i), .val (.int j), .unset, .unset, .unset, .unset] [(.ref b1), (.ref b1)])) _
    refine XS.iconst X1.here hx rfl (hb hby at_18) ?_
    show Steps p.tables e below (T1.setTop (mkF m 19 #[.val (.int p1), .val (.int p2), .val (.int i), .val (.int j), .unset, .unset, .unset, .unset] [(.int (0 : Int32)), (.ref b1), (.ref b1)])) _
    refine XS.bipush X1.here hx rfl (hb hby at_19) ?_
    show Steps p.tables e below (T1.setTop (mkF m 21 #[.val (.int p1), .val (.int p2), .val (.int i), .val (.int j), .unset, .unset, .unset, .unset] [(.int (13 : Int32)), (.int (0 : Int32)), (.ref b1), (.ref b1)])) _
    refine st3 _ ?_
    show Steps p.tables e below (T3.setTop (mkF m 22 #[.val (.int p1), .val (.int p2), .val (.int i), .val (.int j), .unset, .unset, .unset, .unset] [(.ref b1)])) _
    refine XS.dup X3.here hx rfl (hb hby at_22) rfl rfl ?_
    show Steps p.tables e below (T3.setTop (mkF m 23 #[.val (.int p1), .val (.int p2), .val (.int i), .val (.int j), .unset, .unset, .unset, .unset] [(.ref b1), (.ref b1)])) _
    refine XS.iconst X3.here hx rfl (hb hby at_23) ?_
    show Steps p.tables e below (T3.setTop (mkF m 24 #[.val (.int p1), .val (.int p2), .val (.int i), .val (.int j), .unset, .unset, .unset, .unset] [(.int (1 : Int32)), (.ref b1), (.ref b1)])) _
    refine XS.bipush X3.here hx rfl (hb hby at_24) ?_
    show Steps p.tables e below (T3.setTop (mkF m 26 #[.val (.int p1), .val (.int p2), .val (.int i), .val (.int j), .unset, .unset, .unset, .unset] [(.int (30 : Int32)), (.int (1 : Int32)), (.ref b1), (.ref b1)])) _
    refine st5 _ ?_
    show Steps p.tables e below (T5.setTop (mkF m 27 #[.val (.int p1), .val (.int p2), .val (.int i), .val (.int j), .unset, .unset, .unset, .unset] [(.ref b1)])) _
    refine XS.dup X5.here hx rfl (hb hby at_27) rfl rfl ?_
    show Steps p.tables e below (T5.setTop (mkF m 28 #[.val (.int p1), .val (.int p2), .val (.int i), .val (.int j), .unset, .unset, .unset, .unset] [(.ref b1), (.ref b1)])) _
    refine XS.iconst X5.here hx rfl (hb hby at_28) ?_
    show Steps p.tables e below (T5.setTop (mkF m 29 #[.val (.int p1), .val (.int p2), .val (.int i), .val (.int j), .unset, .unset, .unset, .unset] [(.int (2 : Int32)), (.ref b1), (.ref b1)])) _
    refine XS.bipush X5.here hx rfl (hb hby at_29) ?_
    show Steps p.tables e below (T5.setTop (mkF m 31 #[.val (.int p1), .val (.int p2), .val (.int i), .val (.int j), .unset, .unset, .unset, .unset] [(.int (12 : Int32)), (.int (2 : Int32)), (.ref b1), (.ref b1)])) _
    refine st7 _ ?_
    show Steps p.tables e below (T7.setTop (mkF m 32 #[.val (.int p1), .val (.int p2), .val (.int i), .val (.int j), .unset, .unset, .unset, .unset] [(.ref b1)])) _
    refine XS.dup X7.here hx rfl (hb hby at_32) rfl rfl ?_
    show Steps p.tables e below (T7.setTop (mkF m 33 #[.val (.int p1), .val (.int p2), .val (.int i), .val (.int j), .unset, .unset, .unset, .unset] [(.ref b1), (.ref b1)])) _
    refine XS.iconst X7.here hx rfl (hb hby at_33) ?_
    show Steps p.tables e below (T7.setTop (mkF m 34 #[.val (.int p1), .val (.int p2), .val (.int i), .val (.int j), .unset, .unset, .unset, .unset] [(.int (3 : Int32)), (.ref b1), (.ref b1)])) _
    refine XS.bipush X7.here hx rfl (hb hby at_34) ?_
    show Steps p.tables e below (T7.setTop (mkF m 36 #[.val (.int p1), .val (.int p2), .val (.int i), .val (.int j), .unset, .unset, .unset, .unset] [(.int (8 : Int32)), (.int (3 : Int32)), (.ref b1), (.ref b1)])) _
    refine st9 _ ?_
    show Steps p.tables e below (T9.setTop (mkF m 37 #[.val (.int p1), .val (.int p2), .val (.int i), .val (.int j), .unset, .unset, .unset, .unset] [(.ref b1)])) _
    refine XS.dup X9.here hx rfl (hb hby at_37) rfl rfl ?_
    show Steps p.tables e below (T9.setTop (mkF m 38 #[.val (.int p1), .val (.int p2), .val (.int i), .val (.int j), .unset, .unset, .unset, .unset] [(.ref b1), (.ref b1)])) _
    refine XS.iconst X9.here hx rfl (hb hby at_38) ?_
    show Steps p.tables e below (T9.setTop (mkF m 39 #[.val (.int p1), .val (.int p2), .val (.int i), .val (.int j), .unset, .unset, .unset, .unset] [(.int (4 : Int32)), (.ref b1), (.ref b1)])) _
    refine XS.bipush X9.here hx rfl (hb hby at_39) ?_
    show Steps p.tables e below (T9.setTop (mkF m 41 #[.val (.int p1), .val (.int p2), .val (.int i), .val (.int j), .unset, .unset, .unset, .unset] [(.int (24 : Int32)), (.int (4 : Int32)), (.ref b1), (.ref b1)])) _
    refine st11 _ ?_
    show Steps p.tables e below (T11.setTop (mkF m 42 #[.val (.int p1), .val (.int p2), .val (.int i), .val (.int j), .unset, .unset, .unset, .unset] [(.ref b1)])) _
    refine XS.astore X11.here hx rfl (hb hby at_42) rfl rfl (l' := #[.val (.int p1), .val (.int p2), .val (.int i), .val (.int j), .val (.ref b1), .unset, .unset, .unset]) rfl ?_
    show Steps p.tables e below (T11.setTop (mkF m 44 #[.val (.int p1), .val (.int p2), .val (.int i), .val (.int j), .val (.ref b1), .unset, .unset, .unset] [])) _
    refine XS.aload X11.here hx rfl (hb hby at_44) rfl rfl ?_
    show Steps p.tables e below (T11.setTop (mkF m 46 #[.val (.int p1), .val (.int p2), .val (.int i), .val (.int j), .val (.ref b1), .unset, .unset, .unset] [(.ref b1)])) _
    refine XS.iloadN X11.here hx rfl (hb hby at_46) rfl ?_
    show Steps p.tables e below (T11.setTop (mkF m 47 #[.val (.int p1), .val (.int p2), .val (.int i), .val (.int j), .val (.ref b1), .unset, .unset, .unset] [(.int i), (.ref b1)])) _
    refine X11.iaload hx (j := i) (v := (.int (own_row i))) (by rw [e11]; exact Ar12.1) (State.isArrayOf_alike hZ.alike Ar12.2.1) Ar12.2.2 hin12 hat12 (g := (mkF m 47 #[.val (.int p1), .val (.int p2), .val (.int i), .val (.int j), .val (.ref b1), .unset, .unset, .unset] [(.int i), (.ref b1)])) rfl rfl (hb hby at_47) _ ?_
    show Steps p.tables e below (T11.setTop (mkF m 48 #[.val (.int p1), .val (.int p2), .val (.int i), .val (.int j), .val (.ref b1), .unset, .unset, .unset] [(.int (own_row i))])) _
    refine XS.iloadN X11.here hx rfl (hb hby at_48) rfl ?_
    show Steps p.tables e below (T11.setTop (mkF m 49 #[.val (.int p1), .val (.int p2), .val (.int i), .val (.int j), .val (.ref b1), .unset, .unset, .unset] [(.int j), (.int (own_row i))])) _
    refine XS.ishr X11.here hx rfl (hb hby at_49) rfl ?_
    show Steps p.tables e below (T11.setTop (mkF m 50 #[.val (.int p1), .val (.int p2), .val (.int i), .val (.int j), .val (.ref b1), .unset, .unset, .unset] [(.int ((own_row i) >>> (j &&& 31)))])) _
    refine XS.iconst X11.here hx rfl (hb hby at_50) ?_
    show Steps p.tables e below (T11.setTop (mkF m 51 #[.val (.int p1), .val (.int p2), .val (.int i), .val (.int j), .val (.ref b1), .unset, .unset, .unset] [(.int (1 : Int32)), (.int ((own_row i) >>> (j &&& 31)))])) _
    refine XS.iand X11.here hx rfl (hb hby at_51) rfl ?_
    exact kt
  by_cases hc52_14 : (((own_row i) >>> (j &&& 31)) &&& (1 : Int32)) = (0 : Int32)
  · obtain ⟨_, _, ⟨T15, L15, k15, n15⟩, -, X15, ⟨Lc15, hQ15, l15, y15, z15⟩, st15⟩ := Jvm.LawKit.callS X11 hx (y := (⟨"com/example/mint_path/mintpath/type/OccurrenceIsWithinPinLaw", "pick", "(I)Lcom/example/mint_path/mintpath/type/Occurrence;"⟩ : MethodName)) hown (mvT hZ (hw _ (List.mem_of_getElem? (i := 2) rfl))) (mvT hZ (hw _ (List.mem_of_getElem? (i := 3) rfl))) (mvT hZ (hw _ (List.mem_of_getElem? (i := 4) rfl))) (mvT hZ (hw _ (List.mem_of_getElem? (i := 5) rfl))) (by decide) (backOf (W := 0) (rmP l Z a0 hw [] i w_ZERO w_EXACTLY_ONE w_ZERO_OR_ONE w_ZERO_OR_MORE w_ONE_OR_MORE h11 n0 (Nat.le_trans Z0 K11.1) (own_sta S_ZERO K11) (own_sta S_EXACTLY_ONE K11) (own_sta S_ZERO_OR_ONE K11) (own_sta S_ZERO_OR_MORE K11) (own_sta S_ONE_OR_MORE K11)) hZ (hw _ (List.mem_of_getElem? (i := 5) rfl)) (hw _ (List.mem_of_getElem? (i := 4) rfl)) (by decide) (by decide)) (g := (mkF m 63 #[.val (.int p1), .val (.int p2), .val (.int i), .val (.int j), .val (.ref b1), .val (.int (0 : Int32)), .unset, .unset] [(.int i)])) rfl (by rw [hml]; rfl) (argsL := [(.int i)]) (rest := []) (lenOf pd0_0 rfl) rfl (by show 2 * 0 + _ ≤ _; exact Nat.le_of_eq rfl) (hb hby at_63) (fun _ _ => ⟨rfl, e11, (by decide : 1 + 0 ≤ _), (by decide : 5 + 0 ≤ _)⟩)
    dsimp only [Pt.U, Pt.locs, Pt.cells, Pt.slots] at X15 l15 y15 z15 st15 hQ15
    subst l15 y15 z15
    obtain ⟨rfl, N15q, eh15⟩ := hQ15
    have N15 := Fr.app N11 N15q
    obtain ⟨_, _, ⟨T16, L16, k16, n16⟩, -, X16, ⟨Lc16, hQ16, l16, y16, z16⟩, st16⟩ := Jvm.LawKit.callS X15 hx (y := (⟨"com/example/mint_path/mintpath/type/OccurrenceIsWithinPinLaw", "pick", "(I)Lcom/example/mint_path/mintpath/type/Occurrence;"⟩ : MethodName)) hown (mvT hZ (hw _ (List.mem_of_getElem? (i := 2) rfl))) (mvT hZ (hw _ (List.mem_of_getElem? (i := 3) rfl))) (mvT hZ (hw _ (List.mem_of_getElem? (i := 4) rfl))) (mvT hZ (hw _ (List.mem_of_getElem? (i := 5) rfl))) (by decide) (backOf (W := 0) (rmP l Z a0 hw [] j w_ZERO w_EXACTLY_ONE w_ZERO_OR_ONE w_ZERO_OR_MORE w_ONE_OR_MORE h11 n0 (Nat.le_trans Z0 K11.1) (own_sta S_ZERO K11) (own_sta S_EXACTLY_ONE K11) (own_sta S_ZERO_OR_ONE K11) (own_sta S_ZERO_OR_MORE K11) (own_sta S_ONE_OR_MORE K11)) hZ (hw _ (List.mem_of_getElem? (i := 5) rfl)) (hw _ (List.mem_of_getElem? (i := 4) rfl)) (by decide) (by decide)) (g := (mkF m 69 #[.val (.int p1), .val (.int p2), .val (.int i), .val (.int j), .val (.ref b1), .val (.int (0 : Int32)), .val (.ref (own_pick i w_ZERO w_EXACTLY_ONE w_ZERO_OR_ONE w_ZERO_OR_MORE w_ONE_OR_MORE)), .unset] [(.int j)])) rfl (by rw [hml]; rfl) (argsL := [(.int j)]) (rest := []) (lenOf pd0_0 rfl) rfl (by show 2 * 0 + _ ≤ _; exact Nat.le_of_eq rfl) (hb hby at_69) (fun _ _ => ⟨rfl, eh15, (by decide : 1 + 0 ≤ _), (by decide : 5 + 0 ≤ _)⟩)
    dsimp only [Pt.U, Pt.locs, Pt.cells, Pt.slots] at X16 l16 y16 z16 st16 hQ16
    subst l16 y16 z16
    obtain ⟨rfl, N16q, eh16⟩ := hQ16
    have N16 := Fr.app N15 N16q
    obtain ⟨cq17, kq17, q17a, q17b, q17c⟩ := isOf hZ eh16 (own_pick_of (P := fun a => Exa Z h11 a "com/example/mint_path/mintpath/type/Occurrence") (Exa.keep E_ZERO K11) (Exa.keep E_EXACTLY_ONE K11) (Exa.keep E_ZERO_OR_ONE K11) (Exa.keep E_ZERO_OR_MORE K11) (Exa.keep E_ONE_OR_MORE K11))
    obtain ⟨_, _, ⟨T17, L17, k17, n17⟩, -, X17, ⟨Lc17, hQ17, l17, y17, z17⟩, st17⟩ := X16.virtualBack hx (y := (⟨"com/example/mint_path/mintpath/type/Occurrence", "isWithin", "(Lcom/example/mint_path/mintpath/type/Occurrence;)Z"⟩ : MethodName)) (z := (⟨"com/example/mint_path/mintpath/type/Occurrence", "isWithin", "(Lcom/example/mint_path/mintpath/type/Occurrence;)Z"⟩ : MethodName)) hown (mvT hZ (hw _ (List.mem_of_getElem? (i := 11) rfl))) (mvT hZ (hw _ (List.mem_of_getElem? (i := 12) rfl))) (notFace_of_selects (args := #[]) (mvT hZ (hw _ (List.mem_of_getElem? (i := 14) rfl)))) (mvT hZ (hw _ (List.mem_of_getElem? (i := 14) rfl))) (mvT hZ (hw _ (List.mem_of_getElem? (i := 13) rfl))) (by decide) (backOf (W := 0) (rmI l Z a0 hw [] (own_pick i w_ZERO w_EXACTLY_ONE w_ZERO_OR_ONE w_ZERO_OR_MORE w_ONE_OR_MORE) (own_pick j w_ZERO w_EXACTLY_ONE w_ZERO_OR_ONE w_ZERO_OR_MORE w_ONE_OR_MORE) (own_mn i) (own_mx i) (own_mn j) (own_mx j) h11 n0 (Nat.le_trans Z0 K11.1) (own_pick_mn (Fld.keep A_ZERO K11 nin0) (Fld.keep A_EXACTLY_ONE K11 nin0) (Fld.keep A_ZERO_OR_ONE K11 nin0) (Fld.keep A_ZERO_OR_MORE K11 nin0) (Fld.keep A_ONE_OR_MORE K11 nin0)) (own_pick_mx (Fld.keep B_ZERO K11 nin0) (Fld.keep B_EXACTLY_ONE K11 nin0) (Fld.keep B_ZERO_OR_ONE K11 nin0) (Fld.keep B_ZERO_OR_MORE K11 nin0) (Fld.keep B_ONE_OR_MORE K11 nin0)) (own_pick_mn (Fld.keep A_ZERO K11 nin0) (Fld.keep A_EXACTLY_ONE K11 nin0) (Fld.keep A_ZERO_OR_ONE K11 nin0) (Fld.keep A_ZERO_OR_MORE K11 nin0) (Fld.keep A_ONE_OR_MORE K11 nin0)) (own_pick_mx (Fld.keep B_ZERO K11 nin0) (Fld.keep B_EXACTLY_ONE K11 nin0) (Fld.keep B_ZERO_OR_ONE K11 nin0) (Fld.keep B_ZERO_OR_MORE K11 nin0) (Fld.keep B_ONE_OR_MORE K11 nin0))) hZ (hw _ (List.mem_of_getElem? (i := 15) rfl)) (hw _ (List.mem_of_getElem? (i := 7) rfl)) (by decide) (by decide)) q17a q17c (g := (mkF m 78 #[.val (.int p1), .val (.int p2), .val (.int i), .val (.int j), .val (.ref b1), .val (.int (0 : Int32)), .val (.ref (own_pick i w_ZERO w_EXACTLY_ONE w_ZERO_OR_ONE w_ZERO_OR_MORE w_ONE_OR_MORE)), .val (.ref (own_pick j w_ZERO w_EXACTLY_ONE w_ZERO_OR_ONE w_ZERO_OR_MORE w_ONE_OR_MORE))] [(.ref (own_pick j w_ZERO w_EXACTLY_ONE w_ZERO_OR_ONE w_ZERO_OR_MORE w_ONE_OR_MORE)), (.ref (own_pick i w_ZERO w_EXACTLY_ONE w_ZERO_OR_ONE w_ZERO_OR_MORE w_ONE_OR_MORE))])) rfl (by rw [hml]; rfl) (Steps.refl _) (argsL := [(.ref (own_pick j w_ZERO w_EXACTLY_ONE w_ZERO_OR_ONE w_ZERO_OR_MORE w_ONE_OR_MORE))]) (rest := []) (lenOf pd0_1 rfl) rfl (by show 2 * 0 + _ ≤ _; exact Nat.le_of_eq rfl) (hb hby at_78) (fun _ _ => ⟨rfl, eh16, (by decide : 1 + 0 ≤ _), (by decide : 5 + 0 ≤ _)⟩)
    dsimp only [Pt.U, Pt.locs, Pt.cells, Pt.slots] at X17 l17 y17 z17 st17 hQ17
    subst l17 y17 z17
    obtain ⟨rfl, N17q, eh17⟩ := hQ17
    have N17 := Fr.app N16 N17q
    obtain ⟨fs, hr, hrun, hended, hW, hsame⟩ := X17.leave (v := some (.int (1 : Int32))) (fun h => by rw [Bd.returns] at h; cases h)
    refine ⟨_, _, pre13 _ ?_, hrun, hended, _, _, rfl, ?_, ⟨_, rfl⟩, hW, hsame.mono (by decide) (by decide)⟩
    · show Steps p.tables e below (T11.setTop (mkF m 52 #[.val (.int p1), .val (.int p2), .val (.int i), .val (.int j), .val (.ref b1), .unset, .unset, .unset] [(.int (((own_row i) >>> (j &&& 31)) &&& (1 : Int32)))])) _
      refine XS.ifYes X11.here hx rfl (pc0 := 52) (pc' := 59) rfl (hb hby at_52) rfl ((if0 _ _).trans (teq hc52_14).1) (by decide) (by decide) ?_
      show Steps p.tables e below (T11.setTop (mkF m 59 #[.val (.int p1), .val (.int p2), .val (.int i), .val (.int j), .val (.ref b1), .unset, .unset, .unset] [])) _
      refine XS.iconst X11.here hx rfl (hb hby at_59) ?_
      show Steps p.tables e below (T11.setTop (mkF m 60 #[.val (.int p1), .val (.int p2), .val (.int i), .val (.int j), .val (.ref b1), .unset, .unset, .unset] [(.int (0 : Int32))])) _
      refine XS.istore X11.here hx rfl (hb hby at_60) rfl (l' := #[.val (.int p1), .val (.int p2), .val (.int i), .val (.int j), .val (.ref b1), .val (.int (0 : Int32)), .unset, .unset]) rfl ?_
      show Steps p.tables e below (T11.setTop (mkF m 62 #[.val (.int p1), .val (.int p2), .val (.int i), .val (.int j), .val (.ref b1), .val (.int (0 : Int32)), .unset, .unset] [])) _
      refine XS.iloadN X11.here hx rfl (hb hby at_62) rfl ?_
      show Steps p.tables e below (T11.setTop (mkF m 63 #[.val (.int p1), .val (.int p2), .val (.int i), .val (.int j), .val (.ref b1), .val (.int (0 : Int32)), .unset, .unset] [(.int i)])) _
      refine st15 _ ?_
      show Steps p.tables e below (T15.setTop (mkF m 66 #[.val (.int p1), .val (.int p2), .val (.int i), .val (.int j), .val (.ref b1), .val (.int (0 : Int32)), .unset, .unset] [(.ref (own_pick i w_ZERO w_EXACTLY_ONE w_ZERO_OR_ONE w_ZERO_OR_MORE w_ONE_OR_MORE))])) _
      refine XS.astore X15.here hx rfl (hb hby at_66) rfl rfl (l' := #[.val (.int p1), .val (.int p2), .val (.int i), .val (.int j), .val (.ref b1), .val (.int (0 : Int32)), .val (.ref (own_pick i w_ZERO w_EXACTLY_ONE w_ZERO_OR_ONE w_ZERO_OR_MORE w_ONE_OR_MORE)), .unset]) rfl ?_
      show Steps p.tables e below (T15.setTop (mkF m 68 #[.val (.int p1), .val (.int p2), .val (.int i), .val (.int j), .val (.ref b1), .val (.int (0 : Int32)), .val (.ref (own_pick i w_ZERO w_EXACTLY_ONE w_ZERO_OR_ONE w_ZERO_OR_MORE w_ONE_OR_MORE)), .unset] [])) _
      refine XS.iloadN X15.here hx rfl (hb hby at_68) rfl ?_
      show Steps p.tables e below (T15.setTop (mkF m 69 #[.val (.int p1), .val (.int p2), .val (.int i), .val (.int j), .val (.ref b1), .val (.int (0 : Int32)), .val (.ref (own_pick i w_ZERO w_EXACTLY_ONE w_ZERO_OR_ONE w_ZERO_OR_MORE w_ONE_OR_MORE)), .unset] [(.int j)])) _
      refine st16 _ ?_
      show Steps p.tables e below (T16.setTop (mkF m 72 #[.val (.int p1), .val (.int p2), .val (.int i), .val (.int j), .val (.ref b1), .val (.int (0 : Int32)), .val (.ref (own_pick i w_ZERO w_EXACTLY_ONE w_ZERO_OR_ONE w_ZERO_OR_MORE w_ONE_OR_MORE)), .unset] [(.ref (own_pick j w_ZERO w_EXACTLY_ONE w_ZERO_OR_ONE w_ZERO_OR_MORE w_ONE_OR_MORE))])) _
      refine XS.astore X16.here hx rfl (hb hby at_72) rfl rfl (l' := #[.val (.int p1), .val (.int p2), .val (.int i), .val (.int j), .val (.ref b1), .val (.int (0 : Int32)), .val (.ref (own_pick i w_ZERO w_EXACTLY_ONE w_ZERO_OR_ONE w_ZERO_OR_MORE w_ONE_OR_MORE)), .val (.ref (own_pick j w_ZERO w_EXACTLY_ONE w_ZERO_OR_ONE w_ZERO_OR_MORE w_ONE_OR_MORE))]) rfl ?_
      show Steps p.tables e below (T16.setTop (mkF m 74 #[.val (.int p1), .val (.int p2), .val (.int i), .val (.int j), .val (.ref b1), .val (.int (0 : Int32)), .val (.ref (own_pick i w_ZERO w_EXACTLY_ONE w_ZERO_OR_ONE w_ZERO_OR_MORE w_ONE_OR_MORE)), .val (.ref (own_pick j w_ZERO w_EXACTLY_ONE w_ZERO_OR_ONE w_ZERO_OR_MORE w_ONE_OR_MORE))] [])) _
      refine XS.aload X16.here hx rfl (hb hby at_74) rfl rfl ?_
      show Steps p.tables e below (T16.setTop (mkF m 76 #[.val (.int p1), .val (.int p2), .val (.int i), .val (.int j), .val (.ref b1), .val (.int (0 : Int32)), .val (.ref (own_pick i w_ZERO w_EXACTLY_ONE w_ZERO_OR_ONE w_ZERO_OR_MORE w_ONE_OR_MORE)), .val (.ref (own_pick j w_ZERO w_EXACTLY_ONE w_ZERO_OR_ONE w_ZERO_OR_MORE w_ONE_OR_MORE))] [(.ref (own_pick i w_ZERO w_EXACTLY_ONE w_ZERO_OR_ONE w_ZERO_OR_MORE w_ONE_OR_MORE))])) _
      refine XS.aload X16.here hx rfl (hb hby at_76) rfl rfl ?_
      show Steps p.tables e below (T16.setTop (mkF m 78 #[.val (.int p1), .val (.int p2), .val (.int i), .val (.int j), .val (.ref b1), .val (.int (0 : Int32)), .val (.ref (own_pick i w_ZERO w_EXACTLY_ONE w_ZERO_OR_ONE w_ZERO_OR_MORE w_ONE_OR_MORE)), .val (.ref (own_pick j w_ZERO w_EXACTLY_ONE w_ZERO_OR_ONE w_ZERO_OR_MORE w_ONE_OR_MORE))] [(.ref (own_pick j w_ZERO w_EXACTLY_ONE w_ZERO_OR_ONE w_ZERO_OR_MORE w_ONE_OR_MORE)), (.ref (own_pick i w_ZERO w_EXACTLY_ONE w_ZERO_OR_ONE w_ZERO_OR_MORE w_ONE_OR_MORE))])) _
      refine st17.trans ?_
      show Steps p.tables e below (T17.setTop (mkF m 81 #[.val (.int p1), .val (.int p2), .val (.int i), .val (.int j), .val (.ref b1), .val (.int (0 : Int32)), .val (.ref (own_pick i w_ZERO w_EXACTLY_ONE w_ZERO_OR_ONE w_ZERO_OR_MORE w_ONE_OR_MORE)), .val (.ref (own_pick j w_ZERO w_EXACTLY_ONE w_ZERO_OR_ONE w_ZERO_OR_MORE w_ONE_OR_MORE))] [(.int (own_within (own_mn i) (own_mx i) (own_mn j) (own_mx j)))])) _
      refine XS.iload X17.here hx rfl (hb hby at_81) rfl ?_
      show Steps p.tables e below (T17.setTop (mkF m 83 #[.val (.int p1), .val (.int p2), .val (.int i), .val (.int j), .val (.ref b1), .val (.int (0 : Int32)), .val (.ref (own_pick i w_ZERO w_EXACTLY_ONE w_ZERO_OR_ONE w_ZERO_OR_MORE w_ONE_OR_MORE)), .val (.ref (own_pick j w_ZERO w_EXACTLY_ONE w_ZERO_OR_ONE w_ZERO_OR_MORE w_ONE_OR_MORE))] [(.int (0 : Int32)), (.int (own_within (own_mn i) (own_mx i) (own_mn j) (own_mx j)))])) _
      refine XS.icmpNo X17.here hx rfl (hb hby at_83) rfl (teq (own_fin0 fi fj hc52_14)).2 ?_
      show Steps p.tables e below (T17.setTop (mkF m 86 #[.val (.int p1), .val (.int p2), .val (.int i), .val (.int j), .val (.ref b1), .val (.int (0 : Int32)), .val (.ref (own_pick i w_ZERO w_EXACTLY_ONE w_ZERO_OR_ONE w_ZERO_OR_MORE w_ONE_OR_MORE)), .val (.ref (own_pick j w_ZERO w_EXACTLY_ONE w_ZERO_OR_ONE w_ZERO_OR_MORE w_ONE_OR_MORE))] [])) _
      refine XS.iconst X17.here hx rfl (hb hby at_86) ?_
      show Steps p.tables e below (T17.setTop (mkF m 87 #[.val (.int p1), .val (.int p2), .val (.int i), .val (.int j), .val (.ref b1), .val (.int (0 : Int32)), .val (.ref (own_pick i w_ZERO w_EXACTLY_ONE w_ZERO_OR_ONE w_ZERO_OR_MORE w_ONE_OR_MORE)), .val (.ref (own_pick j w_ZERO w_EXACTLY_ONE w_ZERO_OR_ONE w_ZERO_OR_MORE w_ONE_OR_MORE))] [(.int (1 : Int32))])) _
      refine XS.goto X17.here hx rfl (pc0 := 87) (pc' := 91) rfl (hb hby at_87) (by decide) (by decide) ?_
      show Steps p.tables e below (T17.setTop (mkF m 91 #[.val (.int p1), .val (.int p2), .val (.int i), .val (.int j), .val (.ref b1), .val (.int (0 : Int32)), .val (.ref (own_pick i w_ZERO w_EXACTLY_ONE w_ZERO_OR_ONE w_ZERO_OR_MORE w_ONE_OR_MORE)), .val (.ref (own_pick j w_ZERO w_EXACTLY_ONE w_ZERO_OR_ONE w_ZERO_OR_MORE w_ONE_OR_MORE))] [(.int (1 : Int32))])) _
      exact retN X17 hx (t := .boolean) Bd.returns (by simp) (hb hby at_91) hr
    · show Q0 h0 n0 _ T17.heap _
      rw [eh17]
      exact ⟨rfl, N17⟩
  · obtain ⟨_, _, ⟨T18, L18, k18, n18⟩, -, X18, ⟨Lc18, hQ18, l18, y18, z18⟩, st18⟩ := Jvm.LawKit.callS X11 hx (y := (⟨"com/example/mint_path/mintpath/type/OccurrenceIsWithinPinLaw", "pick", "(I)Lcom/example/mint_path/mintpath/type/Occurrence;"⟩ : MethodName)) hown (mvT hZ (hw _ (List.mem_of_getElem? (i := 2) rfl))) (mvT hZ (hw _ (List.mem_of_getElem? (i := 3) rfl))) (mvT hZ (hw _ (List.mem_of_getElem? (i := 4) rfl))) (mvT hZ (hw _ (List.mem_of_getElem? (i := 5) rfl))) (by decide) (backOf (W := 0) (rmP l Z a0 hw [] i w_ZERO w_EXACTLY_ONE w_ZERO_OR_ONE w_ZERO_OR_MORE w_ONE_OR_MORE h11 n0 (Nat.le_trans Z0 K11.1) (own_sta S_ZERO K11) (own_sta S_EXACTLY_ONE K11) (own_sta S_ZERO_OR_ONE K11) (own_sta S_ZERO_OR_MORE K11) (own_sta S_ONE_OR_MORE K11)) hZ (hw _ (List.mem_of_getElem? (i := 5) rfl)) (hw _ (List.mem_of_getElem? (i := 4) rfl)) (by decide) (by decide)) (g := (mkF m 63 #[.val (.int p1), .val (.int p2), .val (.int i), .val (.int j), .val (.ref b1), .val (.int (1 : Int32)), .unset, .unset] [(.int i)])) rfl (by rw [hml]; rfl) (argsL := [(.int i)]) (rest := []) (lenOf pd0_0 rfl) rfl (by show 2 * 0 + _ ≤ _; exact Nat.le_of_eq rfl) (hb hby at_63) (fun _ _ => ⟨rfl, e11, (by decide : 1 + 0 ≤ _), (by decide : 5 + 0 ≤ _)⟩)
    dsimp only [Pt.U, Pt.locs, Pt.cells, Pt.slots] at X18 l18 y18 z18 st18 hQ18
    subst l18 y18 z18
    obtain ⟨rfl, N18q, eh18⟩ := hQ18
    have N18 := Fr.app N11 N18q
    obtain ⟨_, _, ⟨T19, L19, k19, n19⟩, -, X19, ⟨Lc19, hQ19, l19, y19, z19⟩, st19⟩ := Jvm.LawKit.callS X18 hx (y := (⟨"com/example/mint_path/mintpath/type/OccurrenceIsWithinPinLaw", "pick", "(I)Lcom/example/mint_path/mintpath/type/Occurrence;"⟩ : MethodName)) hown (mvT hZ (hw _ (List.mem_of_getElem? (i := 2) rfl))) (mvT hZ (hw _ (List.mem_of_getElem? (i := 3) rfl))) (mvT hZ (hw _ (List.mem_of_getElem? (i := 4) rfl))) (mvT hZ (hw _ (List.mem_of_getElem? (i := 5) rfl))) (by decide) (backOf (W := 0) (rmP l Z a0 hw [] j w_ZERO w_EXACTLY_ONE w_ZERO_OR_ONE w_ZERO_OR_MORE w_ONE_OR_MORE h11 n0 (Nat.le_trans Z0 K11.1) (own_sta S_ZERO K11) (own_sta S_EXACTLY_ONE K11) (own_sta S_ZERO_OR_ONE K11) (own_sta S_ZERO_OR_MORE K11) (own_sta S_ONE_OR_MORE K11)) hZ (hw _ (List.mem_of_getElem? (i := 5) rfl)) (hw _ (List.mem_of_getElem? (i := 4) rfl)) (by decide) (by decide)) (g := (mkF m 69 #[.val (.int p1), .val (.int p2), .val (.int i), .val (.int j), .val (.ref b1), .val (.int (1 : Int32)), .val (.ref (own_pick i w_ZERO w_EXACTLY_ONE w_ZERO_OR_ONE w_ZERO_OR_MORE w_ONE_OR_MORE)), .unset] [(.int j)])) rfl (by rw [hml]; rfl) (argsL := [(.int j)]) (rest := []) (lenOf pd0_0 rfl) rfl (by show 2 * 0 + _ ≤ _; exact Nat.le_of_eq rfl) (hb hby at_69) (fun _ _ => ⟨rfl, eh18, (by decide : 1 + 0 ≤ _), (by decide : 5 + 0 ≤ _)⟩)
    dsimp only [Pt.U, Pt.locs, Pt.cells, Pt.slots] at X19 l19 y19 z19 st19 hQ19
    subst l19 y19 z19
    obtain ⟨rfl, N19q, eh19⟩ := hQ19
    have N19 := Fr.app N18 N19q
    obtain ⟨cq20, kq20, q20a, q20b, q20c⟩ := isOf hZ eh19 (own_pick_of (P := fun a => Exa Z h11 a "com/example/mint_path/mintpath/type/Occurrence") (Exa.keep E_ZERO K11) (Exa.keep E_EXACTLY_ONE K11) (Exa.keep E_ZERO_OR_ONE K11) (Exa.keep E_ZERO_OR_MORE K11) (Exa.keep E_ONE_OR_MORE K11))
    obtain ⟨_, _, ⟨T20, L20, k20, n20⟩, -, X20, ⟨Lc20, hQ20, l20, y20, z20⟩, st20⟩ := X19.virtualBack hx (y := (⟨"com/example/mint_path/mintpath/type/Occurrence", "isWithin", "(Lcom/example/mint_path/mintpath/type/Occurrence;)Z"⟩ : MethodName)) (z := (⟨"com/example/mint_path/mintpath/type/Occurrence", "isWithin", "(Lcom/example/mint_path/mintpath/type/Occurrence;)Z"⟩ : MethodName)) hown (mvT hZ (hw _ (List.mem_of_getElem? (i := 11) rfl))) (mvT hZ (hw _ (List.mem_of_getElem? (i := 12) rfl))) (notFace_of_selects (args := #[]) (mvT hZ (hw _ (List.mem_of_getElem? (i := 14) rfl)))) (mvT hZ (hw _ (List.mem_of_getElem? (i := 14) rfl))) (mvT hZ (hw _ (List.mem_of_getElem? (i := 13) rfl))) (by decide) (backOf (W := 0) (rmI l Z a0 hw [] (own_pick i w_ZERO w_EXACTLY_ONE w_ZERO_OR_ONE w_ZERO_OR_MORE w_ONE_OR_MORE) (own_pick j w_ZERO w_EXACTLY_ONE w_ZERO_OR_ONE w_ZERO_OR_MORE w_ONE_OR_MORE) (own_mn i) (own_mx i) (own_mn j) (own_mx j) h11 n0 (Nat.le_trans Z0 K11.1) (own_pick_mn (Fld.keep A_ZERO K11 nin0) (Fld.keep A_EXACTLY_ONE K11 nin0) (Fld.keep A_ZERO_OR_ONE K11 nin0) (Fld.keep A_ZERO_OR_MORE K11 nin0) (Fld.keep A_ONE_OR_MORE K11 nin0)) (own_pick_mx (Fld.keep B_ZERO K11 nin0) (Fld.keep B_EXACTLY_ONE K11 nin0) (Fld.keep B_ZERO_OR_ONE K11 nin0) (Fld.keep B_ZERO_OR_MORE K11 nin0) (Fld.keep B_ONE_OR_MORE K11 nin0)) (own_pick_mn (Fld.keep A_ZERO K11 nin0) (Fld.keep A_EXACTLY_ONE K11 nin0) (Fld.keep A_ZERO_OR_ONE K11 nin0) (Fld.keep A_ZERO_OR_MORE K11 nin0) (Fld.keep A_ONE_OR_MORE K11 nin0)) (own_pick_mx (Fld.keep B_ZERO K11 nin0) (Fld.keep B_EXACTLY_ONE K11 nin0) (Fld.keep B_ZERO_OR_ONE K11 nin0) (Fld.keep B_ZERO_OR_MORE K11 nin0) (Fld.keep B_ONE_OR_MORE K11 nin0))) hZ (hw _ (List.mem_of_getElem? (i := 15) rfl)) (hw _ (List.mem_of_getElem? (i := 7) rfl)) (by decide) (by decide)) q20a q20c (g := (mkF m 78 #[.val (.int p1), .val (.int p2), .val (.int i), .val (.int j), .val (.ref b1), .val (.int (1 : Int32)), .val (.ref (own_pick i w_ZERO w_EXACTLY_ONE w_ZERO_OR_ONE w_ZERO_OR_MORE w_ONE_OR_MORE)), .val (.ref (own_pick j w_ZERO w_EXACTLY_ONE w_ZERO_OR_ONE w_ZERO_OR_MORE w_ONE_OR_MORE))] [(.ref (own_pick j w_ZERO w_EXACTLY_ONE w_ZERO_OR_ONE w_ZERO_OR_MORE w_ONE_OR_MORE)), (.ref (own_pick i w_ZERO w_EXACTLY_ONE w_ZERO_OR_ONE w_ZERO_OR_MORE w_ONE_OR_MORE))])) rfl (by rw [hml]; rfl) (Steps.refl _) (argsL := [(.ref (own_pick j w_ZERO w_EXACTLY_ONE w_ZERO_OR_ONE w_ZERO_OR_MORE w_ONE_OR_MORE))]) (rest := []) (lenOf pd0_1 rfl) rfl (by show 2 * 0 + _ ≤ _; exact Nat.le_of_eq rfl) (hb hby at_78) (fun _ _ => ⟨rfl, eh19, (by decide : 1 + 0 ≤ _), (by decide : 5 + 0 ≤ _)⟩)
    dsimp only [Pt.U, Pt.locs, Pt.cells, Pt.slots] at X20 l20 y20 z20 st20 hQ20
    subst l20 y20 z20
    obtain ⟨rfl, N20q, eh20⟩ := hQ20
    have N20 := Fr.app N19 N20q
    obtain ⟨fs, hr, hrun, hended, hW, hsame⟩ := X20.leave (v := some (.int (1 : Int32))) (fun h => by rw [Bd.returns] at h; cases h)
    refine ⟨_, _, pre13 _ ?_, hrun, hended, _, _, rfl, ?_, ⟨_, rfl⟩, hW, hsame.mono (by decide) (by decide)⟩
    · show Steps p.tables e below (T11.setTop (mkF m 52 #[.val (.int p1), .val (.int p2), .val (.int i), .val (.int j), .val (.ref b1), .unset, .unset, .unset] [(.int (((own_row i) >>> (j &&& 31)) &&& (1 : Int32)))])) _
      refine XS.ifNo X11.here hx rfl (hb hby at_52) rfl ((if0 _ _).trans (feq hc52_14).1) ?_
      show Steps p.tables e below (T11.setTop (mkF m 55 #[.val (.int p1), .val (.int p2), .val (.int i), .val (.int j), .val (.ref b1), .unset, .unset, .unset] [])) _
      refine XS.iconst X11.here hx rfl (hb hby at_55) ?_
      show Steps p.tables e below (T11.setTop (mkF m 56 #[.val (.int p1), .val (.int p2), .val (.int i), .val (.int j), .val (.ref b1), .unset, .unset, .unset] [(.int (1 : Int32))])) _
      refine XS.goto X11.here hx rfl (pc0 := 56) (pc' := 60) rfl (hb hby at_56) (by decide) (by decide) ?_
      show Steps p.tables e below (T11.setTop (mkF m 60 #[.val (.int p1), .val (.int p2), .val (.int i), .val (.int j), .val (.ref b1), .unset, .unset, .unset] [(.int (1 : Int32))])) _
      refine XS.istore X11.here hx rfl (hb hby at_60) rfl (l' := #[.val (.int p1), .val (.int p2), .val (.int i), .val (.int j), .val (.ref b1), .val (.int (1 : Int32)), .unset, .unset]) rfl ?_
      show Steps p.tables e below (T11.setTop (mkF m 62 #[.val (.int p1), .val (.int p2), .val (.int i), .val (.int j), .val (.ref b1), .val (.int (1 : Int32)), .unset, .unset] [])) _
      refine XS.iloadN X11.here hx rfl (hb hby at_62) rfl ?_
      show Steps p.tables e below (T11.setTop (mkF m 63 #[.val (.int p1), .val (.int p2), .val (.int i), .val (.int j), .val (.ref b1), .val (.int (1 : Int32)), .unset, .unset] [(.int i)])) _
      refine st18 _ ?_
      show Steps p.tables e below (T18.setTop (mkF m 66 #[.val (.int p1), .val (.int p2), .val (.int i), .val (.int j), .val (.ref b1), .val (.int (1 : Int32)), .unset, .unset] [(.ref (own_pick i w_ZERO w_EXACTLY_ONE w_ZERO_OR_ONE w_ZERO_OR_MORE w_ONE_OR_MORE))])) _
      refine XS.astore X18.here hx rfl (hb hby at_66) rfl rfl (l' := #[.val (.int p1), .val (.int p2), .val (.int i), .val (.int j), .val (.ref b1), .val (.int (1 : Int32)), .val (.ref (own_pick i w_ZERO w_EXACTLY_ONE w_ZERO_OR_ONE w_ZERO_OR_MORE w_ONE_OR_MORE)), .unset]) rfl ?_
      show Steps p.tables e below (T18.setTop (mkF m 68 #[.val (.int p1), .val (.int p2), .val (.int i), .val (.int j), .val (.ref b1), .val (.int (1 : Int32)), .val (.ref (own_pick i w_ZERO w_EXACTLY_ONE w_ZERO_OR_ONE w_ZERO_OR_MORE w_ONE_OR_MORE)), .unset] [])) _
      refine XS.iloadN X18.here hx rfl (hb hby at_68) rfl ?_
      show Steps p.tables e below (T18.setTop (mkF m 69 #[.val (.int p1), .val (.int p2), .val (.int i), .val (.int j), .val (.ref b1), .val (.int (1 : Int32)), .val (.ref (own_pick i w_ZERO w_EXACTLY_ONE w_ZERO_OR_ONE w_ZERO_OR_MORE w_ONE_OR_MORE)), .unset] [(.int j)])) _
      refine st19 _ ?_
      show Steps p.tables e below (T19.setTop (mkF m 72 #[.val (.int p1), .val (.int p2), .val (.int i), .val (.int j), .val (.ref b1), .val (.int (1 : Int32)), .val (.ref (own_pick i w_ZERO w_EXACTLY_ONE w_ZERO_OR_ONE w_ZERO_OR_MORE w_ONE_OR_MORE)), .unset] [(.ref (own_pick j w_ZERO w_EXACTLY_ONE w_ZERO_OR_ONE w_ZERO_OR_MORE w_ONE_OR_MORE))])) _
      refine XS.astore X19.here hx rfl (hb hby at_72) rfl rfl (l' := #[.val (.int p1), .val (.int p2), .val (.int i), .val (.int j), .val (.ref b1), .val (.int (1 : Int32)), .val (.ref (own_pick i w_ZERO w_EXACTLY_ONE w_ZERO_OR_ONE w_ZERO_OR_MORE w_ONE_OR_MORE)), .val (.ref (own_pick j w_ZERO w_EXACTLY_ONE w_ZERO_OR_ONE w_ZERO_OR_MORE w_ONE_OR_MORE))]) rfl ?_
      show Steps p.tables e below (T19.setTop (mkF m 74 #[.val (.int p1), .val (.int p2), .val (.int i), .val (.int j), .val (.ref b1), .val (.int (1 : Int32)), .val (.ref (own_pick i w_ZERO w_EXACTLY_ONE w_ZERO_OR_ONE w_ZERO_OR_MORE w_ONE_OR_MORE)), .val (.ref (own_pick j w_ZERO w_EXACTLY_ONE w_ZERO_OR_ONE w_ZERO_OR_MORE w_ONE_OR_MORE))] [])) _
      refine XS.aload X19.here hx rfl (hb hby at_74) rfl rfl ?_
      show Steps p.tables e below (T19.setTop (mkF m 76 #[.val (.int p1), .val (.int p2), .val (.int i), .val (.int j), .val (.ref b1), .val (.int (1 : Int32)), .val (.ref (own_pick i w_ZERO w_EXACTLY_ONE w_ZERO_OR_ONE w_ZERO_OR_MORE w_ONE_OR_MORE)), .val (.ref (own_pick j w_ZERO w_EXACTLY_ONE w_ZERO_OR_ONE w_ZERO_OR_MORE w_ONE_OR_MORE))] [(.ref (own_pick i w_ZERO w_EXACTLY_ONE w_ZERO_OR_ONE w_ZERO_OR_MORE w_ONE_OR_MORE))])) _
      refine XS.aload X19.here hx rfl (hb hby at_76) rfl rfl ?_
      show Steps p.tables e below (T19.setTop (mkF m 78 #[.val (.int p1), .val (.int p2), .val (.int i), .val (.int j), .val (.ref b1), .val (.int (1 : Int32)), .val (.ref (own_pick i w_ZERO w_EXACTLY_ONE w_ZERO_OR_ONE w_ZERO_OR_MORE w_ONE_OR_MORE)), .val (.ref (own_pick j w_ZERO w_EXACTLY_ONE w_ZERO_OR_ONE w_ZERO_OR_MORE w_ONE_OR_MORE))] [(.ref (own_pick j w_ZERO w_EXACTLY_ONE w_ZERO_OR_ONE w_ZERO_OR_MORE w_ONE_OR_MORE)), (.ref (own_pick i w_ZERO w_EXACTLY_ONE w_ZERO_OR_ONE w_ZERO_OR_MORE w_ONE_OR_MORE))])) _
      refine st20.trans ?_
      show Steps p.tables e below (T20.setTop (mkF m 81 #[.val (.int p1), .val (.int p2), .val (.int i), .val (.int j), .val (.ref b1), .val (.int (1 : Int32)), .val (.ref (own_pick i w_ZERO w_EXACTLY_ONE w_ZERO_OR_ONE w_ZERO_OR_MORE w_ONE_OR_MORE)), .val (.ref (own_pick j w_ZERO w_EXACTLY_ONE w_ZERO_OR_ONE w_ZERO_OR_MORE w_ONE_OR_MORE))] [(.int (own_within (own_mn i) (own_mx i) (own_mn j) (own_mx j)))])) _
      refine XS.iload X20.here hx rfl (hb hby at_81) rfl ?_
      show Steps p.tables e below (T20.setTop (mkF m 83 #[.val (.int p1), .val (.int p2), .val (.int i), .val (.int j), .val (.ref b1), .val (.int (1 : Int32)), .val (.ref (own_pick i w_ZERO w_EXACTLY_ONE w_ZERO_OR_ONE w_ZERO_OR_MORE w_ONE_OR_MORE)), .val (.ref (own_pick j w_ZERO w_EXACTLY_ONE w_ZERO_OR_ONE w_ZERO_OR_MORE w_ONE_OR_MORE))] [(.int (1 : Int32)), (.int (own_within (own_mn i) (own_mx i) (own_mn j) (own_mx j)))])) _
      refine XS.icmpNo X20.here hx rfl (hb hby at_83) rfl (teq (own_fin1 fi fj hc52_14)).2 ?_
      show Steps p.tables e below (T20.setTop (mkF m 86 #[.val (.int p1), .val (.int p2), .val (.int i), .val (.int j), .val (.ref b1), .val (.int (1 : Int32)), .val (.ref (own_pick i w_ZERO w_EXACTLY_ONE w_ZERO_OR_ONE w_ZERO_OR_MORE w_ONE_OR_MORE)), .val (.ref (own_pick j w_ZERO w_EXACTLY_ONE w_ZERO_OR_ONE w_ZERO_OR_MORE w_ONE_OR_MORE))] [])) _
      refine XS.iconst X20.here hx rfl (hb hby at_86) ?_
      show Steps p.tables e below (T20.setTop (mkF m 87 #[.val (.int p1), .val (.int p2), .val (.int i), .val (.int j), .val (.ref b1), .val (.int (1 : Int32)), .val (.ref (own_pick i w_ZERO w_EXACTLY_ONE w_ZERO_OR_ONE w_ZERO_OR_MORE w_ONE_OR_MORE)), .val (.ref (own_pick j w_ZERO w_EXACTLY_ONE w_ZERO_OR_ONE w_ZERO_OR_MORE w_ONE_OR_MORE))] [(.int (1 : Int32))])) _
      refine XS.goto X20.here hx rfl (pc0 := 87) (pc' := 91) rfl (hb hby at_87) (by decide) (by decide) ?_
      show Steps p.tables e below (T20.setTop (mkF m 91 #[.val (.int p1), .val (.int p2), .val (.int i), .val (.int j), .val (.ref b1), .val (.int (1 : Int32)), .val (.ref (own_pick i w_ZERO w_EXACTLY_ONE w_ZERO_OR_ONE w_ZERO_OR_MORE w_ONE_OR_MORE)), .val (.ref (own_pick j w_ZERO w_EXACTLY_ONE w_ZERO_OR_ONE w_ZERO_OR_MORE w_ONE_OR_MORE))] [(.int (1 : Int32))])) _
      exact retN X20 hx (t := .boolean) Bd.returns (by simp) (hb hby at_91) hr
    · show Q0 h0 n0 _ T20.heap _
      rw [eh20]
      exact ⟨rfl, N20⟩
set_option maxRecDepth 65536 in
set_option maxHeartbeats 40000000 in
theorem comes_1 {Post : Tables → Env → Array Value → State → Outcome → State → Prop} (hpost : ∀ tb e args s v u, (limb_1_1.after args s (.returned v) u = true ∧ limb_1_2.after args s (.returned v) u = true ∧ True) → FrameEnd s (.returned v) u (Jvm.fieldLocs frame_1_writes args s ++ Jvm.arrayLocs frame_1_arrays args s ++ Jvm.staticLocs frame_1_statics s) 16 128 → Post tb e args s (.returned v) u) :
    ArmFor flags0 classFile x code maxLocals ret World_1 tables_1 room_1 Calls_1 rest_1 Pre_1 Post := by
  intro l hfl _ _ p e ha hc hk s m args below hf hA hF happ hP
  obtain ⟨hcalls, hrest, hpre⟩ := hP
  obtain ⟨-, -, -, hnamed, -, -, -, hat⟩ := (Spec.applies_iff hf).mp happ
  obtain ⟨hg, hn⟩ := and_e (Cond.before_iff.mp (show (Jvm.Cond.and given_1 narrow_1).before args s = true from hpre))
  obtain ⟨hcnt, ha0⟩ := and_e hg
  obtain ⟨hi0, ha1⟩ := and_e ha0
  obtain ⟨w0, w1, rfl⟩ : ∃ w0 w1 : Value, args = #[w0, w1] := by
    have hs : args.size = 2 := by simpa [Cond.value, given_1] using hcnt
    obtain ⟨L⟩ := args
    match L, hs with
    | [w0, w1], _ => exact ⟨w0, w1, rfl⟩
  have hw := fun d (hd : d ∈ tables_1) => atoms_spec (ws := Jvm.Cond.code x code maxLocals ret :: tables_1) hat d (List.mem_cons_of_mem _ hd)
  obtain ⟨i0, ei0⟩ := is_v hi0
  obtain rfl : w0 = (.int i0) := Option.some.inj ei0
  obtain ⟨i1, ei1⟩ := is_v ha1
  obtain rfl : w1 = (.int i1) := Option.some.inj ei1
  obtain ⟨hg0, hr0⟩ := and_e hn
  obtain ⟨w_ZERO, ev_ZERO⟩ := exa_v hg0
  have E_ZERO : Exa s s.heap w_ZERO "com/example/mint_path/mintpath/type/Occurrence" := Exa.start ev_ZERO hg0
  have S_ZERO : Sta s s.heap "com/example/mint_path/mintpath/type/Occurrence" "ZERO" "Lcom/example/mint_path/mintpath/type/Occurrence;" (.ref w_ZERO) := Sta.start ev_ZERO (Or.inr ⟨(hw _ (List.mem_of_getElem? (i := 7) rfl)), (hw _ (List.mem_of_getElem? (i := 8) rfl))⟩)
  obtain ⟨hg1, hr1⟩ := and_e hr0
  obtain ⟨w_ZERO_OR_MORE, ev_ZERO_OR_MORE⟩ := exa_v hg1
  have E_ZERO_OR_MORE : Exa s s.heap w_ZERO_OR_MORE "com/example/mint_path/mintpath/type/Occurrence" := Exa.start ev_ZERO_OR_MORE hg1
  have S_ZERO_OR_MORE : Sta s s.heap "com/example/mint_path/mintpath/type/Occurrence" "ZERO_OR_MORE" "Lcom/example/mint_path/mintpath/type/Occurrence;" (.ref w_ZERO_OR_MORE) := Sta.start ev_ZERO_OR_MORE (Or.inr ⟨(hw _ (List.mem_of_getElem? (i := 7) rfl)), (hw _ (List.mem_of_getElem? (i := 10) rfl))⟩)
  obtain ⟨hg2, hr2⟩ := and_e hr1
  have O_min_ZERO : Fld s s.heap w_ZERO "com/example/mint_path/mintpath/type/Occurrence" "min" "I" (.int (0 : Int32)) := own_fld ev_ZERO hg2
  obtain ⟨hg3, hr3⟩ := and_e hr2
  have O_min_ZERO_OR_MORE : Fld s s.heap w_ZERO_OR_MORE "com/example/mint_path/mintpath/type/Occurrence" "min" "I" (.int (0 : Int32)) := own_fld ev_ZERO_OR_MORE hg3
  obtain ⟨hg4, hr4⟩ := and_e hr3
  have O_max_ZERO : Fld s s.heap w_ZERO "com/example/mint_path/mintpath/type/Occurrence" "max" "I" (.int (0 : Int32)) := own_fld ev_ZERO hg4
  obtain ⟨hg5, hr5⟩ := and_e hr4
  have O_max_ZERO_OR_MORE : Fld s s.heap w_ZERO_OR_MORE "com/example/mint_path/mintpath/type/Occurrence" "max" "I" (.int (2147483647 : Int32)) := own_fld ev_ZERO_OR_MORE hg5
  obtain ⟨hg6, hr6⟩ := and_e hr5
  obtain ⟨w_ONE_OR_MORE, ev_ONE_OR_MORE⟩ := exa_v hg6
  have E_ONE_OR_MORE : Exa s s.heap w_ONE_OR_MORE "com/example/mint_path/mintpath/type/Occurrence" := Exa.start ev_ONE_OR_MORE hg6
  have S_ONE_OR_MORE : Sta s s.heap "com/example/mint_path/mintpath/type/Occurrence" "ONE_OR_MORE" "Lcom/example/mint_path/mintpath/type/Occurrence;" (.ref w_ONE_OR_MORE) := Sta.start ev_ONE_OR_MORE (Or.inr ⟨(hw _ (List.mem_of_getElem? (i := 7) rfl)), (hw _ (List.mem_of_getElem? (i := 21) rfl))⟩)
  obtain ⟨hg7, hr7⟩ := and_e hr6
  obtain ⟨w_EXACTLY_ONE, ev_EXACTLY_ONE⟩ := exa_v hg7
  have E_EXACTLY_ONE : Exa s s.heap w_EXACTLY_ONE "com/example/mint_path/mintpath/type/Occurrence" := Exa.start ev_EXACTLY_ONE hg7
  have S_EXACTLY_ONE : Sta s s.heap "com/example/mint_path/mintpath/type/Occurrence" "EXACTLY_ONE" "Lcom/example/mint_path/mintpath/type/Occurrence;" (.ref w_EXACTLY_ONE) := Sta.start ev_EXACTLY_ONE (Or.inr ⟨(hw _ (List.mem_of_getElem? (i := 7) rfl)), (hw _ (List.mem_of_getElem? (i := 23) rfl))⟩)
  obtain ⟨hg8, hr8⟩ := and_e hr7
  have O_min_ONE_OR_MORE : Fld s s.heap w_ONE_OR_MORE "com/example/mint_path/mintpath/type/Occurrence" "min" "I" (.int (1 : Int32)) := own_fld ev_ONE_OR_MORE hg8
  obtain ⟨hg9, hr9⟩ := and_e hr8
  have O_min_EXACTLY_ONE : Fld s s.heap w_EXACTLY_ONE "com/example/mint_path/mintpath/type/Occurrence" "min" "I" (.int (1 : Int32)) := own_fld ev_EXACTLY_ONE hg9
  obtain ⟨hg10, hr10⟩ := and_e hr9
  have O_max_ONE_OR_MORE : Fld s s.heap w_ONE_OR_MORE "com/example/mint_path/mintpath/type/Occurrence" "max" "I" (.int (2147483647 : Int32)) := own_fld ev_ONE_OR_MORE hg10
  obtain ⟨hg11, hr11⟩ := and_e hr10
  have O_max_EXACTLY_ONE : Fld s s.heap w_EXACTLY_ONE "com/example/mint_path/mintpath/type/Occurrence" "max" "I" (.int (1 : Int32)) := own_fld ev_EXACTLY_ONE hg11
  obtain ⟨hg12, hr12⟩ := and_e hr11
  obtain ⟨w_ZERO_OR_ONE, ev_ZERO_OR_ONE⟩ := exa_v hg12
  have E_ZERO_OR_ONE : Exa s s.heap w_ZERO_OR_ONE "com/example/mint_path/mintpath/type/Occurrence" := Exa.start ev_ZERO_OR_ONE hg12
  have S_ZERO_OR_ONE : Sta s s.heap "com/example/mint_path/mintpath/type/Occurrence" "ZERO_OR_ONE" "Lcom/example/mint_path/mintpath/type/Occurrence;" (.ref w_ZERO_OR_ONE) := Sta.start ev_ZERO_OR_ONE (Or.inr ⟨(hw _ (List.mem_of_getElem? (i := 7) rfl)), (hw _ (List.mem_of_getElem? (i := 25) rfl))⟩)
  obtain ⟨hg13, hr13⟩ := and_e hr12
  have O_min_ZERO_OR_ONE : Fld s s.heap w_ZERO_OR_ONE "com/example/mint_path/mintpath/type/Occurrence" "min" "I" (.int (0 : Int32)) := own_fld ev_ZERO_OR_ONE hg13
  have O_max_ZERO_OR_ONE : Fld s s.heap w_ZERO_OR_ONE "com/example/mint_path/mintpath/type/Occurrence" "max" "I" (.int (1 : Int32)) := own_fld ev_ZERO_OR_ONE hr13
  obtain ⟨n, o, h1, h2, h3, _, L, rfl, ⟨rfl, N⟩, hq⟩ := rm0 l s _ hw tables_1 i0 i1 w_ZERO w_EXACTLY_ONE w_ZERO_OR_ONE w_ZERO_OR_MORE w_ONE_OR_MORE s.heap s.heap.size (Nat.le_refl _) S_ZERO S_EXACTLY_ONE S_ZERO_OR_ONE S_ZERO_OR_MORE S_ONE_OR_MORE E_ZERO E_EXACTLY_ONE E_ZERO_OR_ONE E_ZERO_OR_MORE E_ONE_OR_MORE O_min_ZERO O_min_EXACTLY_ONE O_min_ZERO_OR_ONE O_min_ZERO_OR_MORE O_min_ONE_OR_MORE O_max_ZERO O_max_EXACTLY_ONE O_max_ZERO_OR_ONE O_max_ZERO_OR_MORE O_max_ONE_OR_MORE p e ha hc hk s m _ below hf ((Spec.applies_iff_loose hf).mp happ).1 ⟨rfl, State.Warmed39.refl s, rfl⟩ trivial
  refine ⟨n, _, h1, h2, h3, hpost _ _ _ _ _ _ ⟨Cond.after_iff.mpr rfl, Cond.after_iff.mpr (eq_i res_at (Term.int_eval (1)) rfl), trivial⟩ ⟨hq.1, hq.2.1, (hq.2.2.sift fun y hy => Or.inr (N y hy)).mono (by decide) (by decide)⟩⟩
theorem main_1_1 : Claimed_1_1 := comes_1 fun _ _ _ _ _ _ h hF => ⟨h.1, hF⟩
theorem main_1_2 : Claimed_1_2 := comes_1 fun _ _ _ _ _ _ h hF => ⟨h.2.1, hF⟩
end Jvm.Pilot.@@N@@
namespace Jvm.Pilot.@@N@@
open Jvm Jvm.ClassFile Sem Op Lib Jvm.Free Jvm.Stand Jvm.Pilot.@@N@@.Jvm.D
/-! MADE BY PROGRAM (witnessworld.py) out of the Statement's table words and the real class files: 12 classes; the members and pool entries that the words name. The judged class is class 1, her method 2. -/
namespace start1
open Jvm.ClassFile
def u (s : String) : CpInfo := .utf8 (stringToUtf16 s)
/-- a pool by its gaps: so many unusable entries, then the entry; so many at the end -/
def gap : Nat → List CpInfo → List CpInfo
  | 0, r => r
  | n + 1, r => .unusable :: gap n r
def poolList (es : List (Nat × CpInfo)) (last : Nat) : List CpInfo := es.foldr (fun e r => gap e.1 (e.2 :: r)) (gap last [])
def pool (es : List (Nat × CpInfo)) (last : Nat) : Array CpInfo := ⟨poolList es last⟩
def fileOf (pool : Array CpInfo) (this : Nat) (attrs : Array Attribute := #[]) (ms : Array MethodInfo := #[]) (fl : Nat := 33) (sup : Nat := 0) (ifs : Array Nat := #[]) (fds : Array FieldInfo := #[]) : ClassFile where
  minorVersion := 0
  majorVersion := 65
  constantPool := pool
  accessFlags := fl
  thisClass := this
  superClass := sup
  interfaces := ifs
  fields := fds
  methods := ms
  attributes := attrs
def plain (name : String) (sup : Option ClassId) : Class where
  name := name
  kind := .ordinary
  loader := none
  accessFlags := 33
  super := sup
  interfaces := #[]
  cf := none
  fields := #[]
  methods := #[]
  instanceTypes := #[]
  staticTypes := #[]
  resolved := #[]
  callSites := []
  init := .initialized
  statics := none
  mirror := none

def pool0 : Array CpInfo := pool [(5, u "<init>"), (0, u "()V"), (1, .class_ 10), (1, u "java/lang/Object")] 113

def k0m0 : Method := { name := "<init>", desc := "()V", sig := { parameters := [], returnType := none }, accessFlags := 1, code := none }
/-- java/lang/Object -/
def k0 : Class := { plain "java/lang/Object" none with
  accessFlags := 33
  interfaces := #[]
  cf := some (fileOf pool0 8 #[] #[{ accessFlags := 1, nameIndex := 5, descriptorIndex := 6, attributes := #[] }] 33 0 #[] #[])
  fields := #[]
  methods := #[k0m0]
  instanceTypes := #[]
  staticTypes := #[]
  resolved := Array.replicate 124 none
  statics := none }

def pool1 : Array CpInfo := pool [(2, .class_ 4), (1, u "java/lang/Object"), (0, u "<init>"), (0, u "()V"), (0, .fieldref 8 9), (0, .class_ 10), (0, .nameAndType 11 12), (0, u "com/example/mint_path/mintpath/type/Occurrence"), (0, u "ZERO"), (0, u "Lcom/example/mint_path/mintpath/type/Occurrence;"), (0, .fieldref 8 14), (0, .nameAndType 15 12), (0, u "EXACTLY_ONE"), (0, .fieldref 8 17), (0, .nameAndType 18 12), (0, u "ZERO_OR_ONE"), (0, .fieldref 8 20), (0, .nameAndType 21 12), (0, u "ZERO_OR_MORE"), (0, .fieldref 8 23), (0, .nameAndType 24 12), (0, u "ONE_OR_MORE"), (0, .integer 2147483647), (0, .methodref 27 28), (0, .class_ 29), (0, .nameAndType 30 31), (0, u "com/example/mint_path/mintpath/type/OccurrenceIsWithinPinLaw"), (0, u "pick"), (0, u "(I)Lcom/example/mint_path/mintpath/type/Occurrence;"), (0, .methodref 8 33), (0, .nameAndType 34 35), (0, u "isWithin"), (0, u "(Lcom/example/mint_path/mintpath/type/Occurrence;)Z"), (3, u "law"), (0, u "(II)Z")] 4

def k1m0 : Method := { name := "<init>", desc := "()V", sig := { parameters := [], returnType := none }, accessFlags := 1, code := none }
def k1c1 : Code := { maxStack := 2, maxLocals := 1, code := method_2_code, exceptionTable := #[], attributes := #[] }
def k1m1 : Method := { name := "pick", desc := "(I)Lcom/example/mint_path/mintpath/type/Occurrence;", sig := { parameters := [.int], returnType := some (.object "com/example/mint_path/mintpath/type/Occurrence") }, accessFlags := 10, code := some k1c1 }
def k1c2 : Code := { maxStack := 4, maxLocals := 8, code := code, exceptionTable := #[], attributes := #[] }
def k1m2 : Method := { name := "law", desc := "(II)Z", sig := { parameters := [.int, .int], returnType := some .boolean }, accessFlags := 9, code := some k1c2 }
/-- com/example/mint_path/mintpath/type/OccurrenceIsWithinPinLaw -/
def k1 : Class := { plain "com/example/mint_path/mintpath/type/OccurrenceIsWithinPinLaw" (some 0) with
  accessFlags := 49
  interfaces := #[]
  cf := some (fileOf pool1 27 #[] #[{ accessFlags := 1, nameIndex := 5, descriptorIndex := 6, attributes := #[] }, { accessFlags := 10, nameIndex := 30, descriptorIndex := 31, attributes := #[] }, { accessFlags := 9, nameIndex := 39, descriptorIndex := 40, attributes := #[] }] 49 2 #[] #[])
  fields := #[]
  methods := #[k1m0, k1m1, k1m2]
  instanceTypes := #[]
  staticTypes := #[]
  resolved := Array.replicate 45 none
  statics := none }

def pool2 : Array CpInfo := pool [(1, .class_ 2), (0, u "java/lang/constant/Constable"), (0, .class_ 4), (0, u "java/lang/Object")] 6

/-- java/lang/constant/Constable -/
def k2 : Class := { plain "java/lang/constant/Constable" (some 0) with
  accessFlags := 1537
  interfaces := #[]
  cf := some (fileOf pool2 1 #[] #[] 1537 3 #[] #[])
  fields := #[]
  methods := #[]
  instanceTypes := #[]
  staticTypes := #[]
  resolved := Array.replicate 11 none
  statics := none }

def pool3 : Array CpInfo := pool [(1, .class_ 2), (0, u "java/lang/Comparable"), (0, .class_ 4), (0, u "java/lang/Object")] 7

/-- java/lang/Comparable -/
def k3 : Class := { plain "java/lang/Comparable" (some 0) with
  accessFlags := 1537
  interfaces := #[]
  cf := some (fileOf pool3 1 #[] #[] 1537 3 #[] #[])
  fields := #[]
  methods := #[]
  instanceTypes := #[]
  staticTypes := #[]
  resolved := Array.replicate 12 none
  statics := none }

def pool4 : Array CpInfo := pool [(1, .class_ 2), (0, u "java/io/Serializable"), (0, .class_ 4), (0, u "java/lang/Object")] 2

/-- java/io/Serializable -/
def k4 : Class := { plain "java/io/Serializable" (some 0) with
  accessFlags := 1537
  interfaces := #[]
  cf := some (fileOf pool4 1 #[] #[] 1537 3 #[] #[])
  fields := #[]
  methods := #[]
  instanceTypes := #[]
  staticTypes := #[]
  resolved := Array.replicate 7 none
  statics := none }

def pool5 : Array CpInfo := pool [(2, .class_ 4), (1, u "java/lang/Enum"), (0, u "name"), (0, u "Ljava/lang/String;"), (2, u "ordinal"), (0, u "I"), (1, .class_ 14), (1, u "java/lang/Object"), (4, u "hash"), (86, .class_ 108), (1, u "java/lang/Enum$EnumDesc"), (2, .class_ 112), (0, u "java/lang/constant/Constable"), (0, .class_ 114), (0, u "java/lang/Comparable"), (0, .class_ 116), (0, u "java/io/Serializable")] 87

/-- java/lang/Enum -/
def k5 : Class := { plain "java/lang/Enum" (some 0) with
  accessFlags := 1057
  interfaces := #[2, 3, 4]
  cf := some (fileOf pool5 2 #[.nestMembers #[106]] #[] 1057 12 #[111, 113, 115] #[{ accessFlags := 18, nameIndex := 5, descriptorIndex := 6, attributes := #[] }, { accessFlags := 18, nameIndex := 9, descriptorIndex := 10, attributes := #[] }, { accessFlags := 2, nameIndex := 19, descriptorIndex := 10, attributes := #[] }])
  fields := #[{ name := "name", type := (.object "java/lang/String"), accessFlags := 18, slot := 0, constantValue := 0 }, { name := "ordinal", type := .int, accessFlags := 18, slot := 1, constantValue := 0 }, { name := "hash", type := .int, accessFlags := 2, slot := 2, constantValue := 0 }]
  methods := #[]
  instanceTypes := #[(.object "java/lang/String"), .int, .int]
  staticTypes := #[]
  resolved := Array.replicate 204 none
  statics := none }

def pool6 : Array CpInfo := pool [(1, .class_ 2), (0, u "com/example/mint_path/mintpath/type/Occurrence"), (2, u "ZERO"), (0, u "Lcom/example/mint_path/mintpath/type/Occurrence;"), (2, u "EXACTLY_ONE"), (2, u "ZERO_OR_ONE"), (2, u "ZERO_OR_MORE"), (2, u "ONE_OR_MORE"), (2, u "$VALUES"), (0, u "[Lcom/example/mint_path/mintpath/type/Occurrence;"), (6, .class_ 31), (1, u "java/lang/Enum"), (6, .fieldref 1 39), (0, .nameAndType 40 41), (0, u "min"), (0, u "I"), (0, .fieldref 1 43), (0, .nameAndType 44 41), (0, u "max"), (25, u "isWithin"), (0, u "(Lcom/example/mint_path/mintpath/type/Occurrence;)Z")] 5

def k6c0 : Code := { maxStack := 2, maxLocals := 2, code := prog_57_method_5_code, exceptionTable := #[], attributes := #[] }
def k6m0 : Method := { name := "isWithin", desc := "(Lcom/example/mint_path/mintpath/type/Occurrence;)Z", sig := { parameters := [(.object "com/example/mint_path/mintpath/type/Occurrence")], returnType := some .boolean }, accessFlags := 0, code := some k6c0 }
/-- com/example/mint_path/mintpath/type/Occurrence -/
def k6 : Class := { plain "com/example/mint_path/mintpath/type/Occurrence" (some 5) with
  accessFlags := 16433
  interfaces := #[]
  cf := some (fileOf pool6 1 #[] #[{ accessFlags := 0, nameIndex := 70, descriptorIndex := 71, attributes := #[] }] 16433 29 #[] #[{ accessFlags := 16409, nameIndex := 5, descriptorIndex := 6, attributes := #[] }, { accessFlags := 16409, nameIndex := 9, descriptorIndex := 6, attributes := #[] }, { accessFlags := 16409, nameIndex := 12, descriptorIndex := 6, attributes := #[] }, { accessFlags := 16409, nameIndex := 15, descriptorIndex := 6, attributes := #[] }, { accessFlags := 16409, nameIndex := 18, descriptorIndex := 6, attributes := #[] }, { accessFlags := 18, nameIndex := 40, descriptorIndex := 41, attributes := #[] }, { accessFlags := 18, nameIndex := 44, descriptorIndex := 41, attributes := #[] }, { accessFlags := 4122, nameIndex := 21, descriptorIndex := 22, attributes := #[] }])
  fields := #[{ name := "ZERO", type := (.object "com/example/mint_path/mintpath/type/Occurrence"), accessFlags := 16409, slot := 0, constantValue := 0 }, { name := "EXACTLY_ONE", type := (.object "com/example/mint_path/mintpath/type/Occurrence"), accessFlags := 16409, slot := 1, constantValue := 0 }, { name := "ZERO_OR_ONE", type := (.object "com/example/mint_path/mintpath/type/Occurrence"), accessFlags := 16409, slot := 2, constantValue := 0 }, { name := "ZERO_OR_MORE", type := (.object "com/example/mint_path/mintpath/type/Occurrence"), accessFlags := 16409, slot := 3, constantValue := 0 }, { name := "ONE_OR_MORE", type := (.object "com/example/mint_path/mintpath/type/Occurrence"), accessFlags := 16409, slot := 4, constantValue := 0 }, { name := "min", type := .int, accessFlags := 18, slot := 3, constantValue := 0 }, { name := "max", type := .int, accessFlags := 18, slot := 4, constantValue := 0 }, { name := "$VALUES", type := (.array (.object "com/example/mint_path/mintpath/type/Occurrence")), accessFlags := 4122, slot := 5, constantValue := 0 }]
  methods := #[k6m0]
  instanceTypes := #[(.object "java/lang/String"), .int, .int, .int, .int]
  staticTypes := #[(.object "com/example/mint_path/mintpath/type/Occurrence"), (.object "com/example/mint_path/mintpath/type/Occurrence"), (.object "com/example/mint_path/mintpath/type/Occurrence"), (.object "com/example/mint_path/mintpath/type/Occurrence"), (.object "com/example/mint_path/mintpath/type/Occurrence"), (.array (.object "com/example/mint_path/mintpath/type/Occurrence"))]
  resolved := Array.replicate 77 none
  statics := some 0 }

def pool7 : Array CpInfo := pool [(1, u "java/lang/Cloneable"), (0, .class_ 1), (0, u "java/lang/Object"), (0, .class_ 3)] 3

/-- java/lang/Cloneable -/
def k7 : Class := { plain "java/lang/Cloneable" (some 0) with
  accessFlags := 1537
  interfaces := #[]
  cf := some (fileOf pool7 2 #[] #[] 1537 4 #[] #[])
  fields := #[]
  methods := #[]
  instanceTypes := #[]
  staticTypes := #[]
  resolved := Array.replicate 8 none
  statics := none }

/-- the primitive byte -/
def k8 : Class := { plain "byte" none with kind := .primitive 'B', accessFlags := 0x411 }
/-- [B -/
def k9 : Class := { plain "[B" (some 0) with kind := .array 8 .byte, interfaces := #[7, 4], accessFlags := 1041 }

/-- the primitive int -/
def k10 : Class := { plain "int" none with kind := .primitive 'I', accessFlags := 0x411 }
/-- [I -/
def k11 : Class := { plain "[I" (some 0) with kind := .array 10 .int, interfaces := #[7, 4], accessFlags := 1041 }

def heap : Heap := #[{ cls := 6, slots := #[.ref 1, .ref 4, .ref 5, .ref 2, .ref 3, .null], vm := .statics 6 },
  { cls := 6, slots := #[.null, .int 0, .int 0, .int 0, .int 0], vm := .none },
  { cls := 6, slots := #[.null, .int 1, .int 0, .int 0, .int 2147483647], vm := .none },
  { cls := 6, slots := #[.null, .int 2, .int 0, .int 1, .int 2147483647], vm := .none },
  { cls := 6, slots := #[.null, .int 3, .int 0, .int 1, .int 1], vm := .none },
  { cls := 6, slots := #[.null, .int 4, .int 0, .int 0, .int 1], vm := .none }]
def classes : Array Class := #[k0, k1, k2, k3, k4, k5, k6, k7, k8, k9, k10, k11]
def interned : List (Array UInt16 × Addr) := []
def slotsUsed : Nat := 31
def theMethod : MethodId := ⟨1, 2⟩
def args0 : Array Value := #[.int 7, .int 3]
def aboutOver (below : List Frame) : State where
  vm := { classes := classes, interned := interned.toArray }
  heap := heap
  slotsUsed := slotsUsed
  threads := #[{ frames := .invoking theMethod args0 :: below }]
def below0 : List Frame := [.native { method := ⟨0, 0⟩, args := #[] }]
def about1 : State := aboutOver below0
def p0 : Program := .bare "" "" ""
def e0 : Env := launch0.env 0 0 0
theorem w_frames : about1.frames = Frame.invoking theMethod args0 :: below0 := rfl
set_option maxRecDepth 65536 in
theorem w_args : argsFit about1.vm theMethod args0 = true := by decide +kernel
set_option maxRecDepth 65536 in
theorem w_heap : heapFits about1 = true := by decide +kernel
set_option maxRecDepth 65536 in
theorem w_runnable : about1.curStatus? = some .runnable := by decide +kernel
set_option maxRecDepth 65536 in
theorem w_alone : about1.alone = true := by decide +kernel
set_option maxRecDepth 65536 in
theorem w_named : about1.methodNamed? x = some theMethod := by decide +kernel
set_option maxRecDepth 65536 in
theorem w_hears : about1.hears theMethod below0 = true := by decide +kernel
set_option maxRecDepth 65536 in
theorem w_ripe : about1.ripe theMethod args0 below0 = true := by decide +kernel
theorem w_running : about1.status = .running := rfl
set_option maxRecDepth 65536 in
theorem w_room : about1.hasRoom e0.platform room_1 = true :=
  launch0.hasRoom_least _ room_1 (by decide +kernel) (by decide +kernel) (by decide +kernel) (by decide +kernel) (by decide +kernel) (by decide +kernel)
theorem allAtoms_all (ts : List Jvm.Cond) (a : Array Jvm.Value) (st : Jvm.State) : (allAtoms ts).before a st = ts.all (fun c => c.before a st) := by
  induction ts with
  | nil => rfl
  | cons c t ih =>
    show (Jvm.Cond.and c (allAtoms t)).before a st = _
    rw [Jvm.Cond.before_and, ih, List.all_cons]
def words1 : List Jvm.Cond := Jvm.Cond.code x code maxLocals ret :: tables_1
/-- a 'code' word, met by the world's own term for the bytes: nothing is compared byte by byte -/
theorem code_word {y : MethodName} {bytes : ByteArray} {mx : Nat} {rt : Option FieldType} {a : Array Value} {s : State} {m : MethodId} {meth : Method} {c : Code} (h1 : s.methodNamed? y = some m) (h2 : s.vm.method? m = some meth) (h3 : meth.code = some c) (h4 : c.code = bytes)
    (h5 : (c.maxLocals == mx && c.exceptionTable.isEmpty && decide (c.maxStack ≤ mostOperands) && decide (meth.sig.returnType = rt) && !meth.locks && decide (parseMethodDescriptor y.desc = some meth.sig)) = true) : (Jvm.Cond.code y bytes mx rt).before a s = true := by
  simp only [Bool.and_eq_true, beq_iff_eq, Bool.not_eq_true', decide_eq_true_eq] at h5
  obtain ⟨⟨⟨⟨⟨g1, g2⟩, g3⟩, g4⟩, g5⟩, g6⟩ := h5
  simp [Cond.before, Cond.holds, Cond.value, h1, h2, h3, h4, g1, g2, g3, g4, g5, g6]
def isCode : Jvm.Cond → Bool
  | .code _ _ _ _ => true
  | _ => false
theorem all_split {L : List Jvm.Cond} {P : Jvm.Cond → Bool} (h1 : L.all (fun c => isCode c || P c) = true) (h2 : ∀ c ∈ L.filter isCode, P c = true) : L.all P = true := by
  refine List.all_eq_true.mpr fun c hc => ?_
  have h := List.all_eq_true.mp h1 c hc
  rcases Bool.eq_false_or_eq_true (isCode c) with hi | hi
  · exact h2 c (List.mem_filter.mpr ⟨hc, hi⟩)
  · simpa [hi] using h
set_option maxRecDepth 65536 in
theorem w_c0 : (Jvm.Cond.code x code maxLocals ret).before args0 about1 = true := code_word (m := ⟨1, 2⟩) (meth := k1m2) (c := k1c2) (by decide +kernel) rfl rfl rfl (by decide +kernel)
set_option maxRecDepth 65536 in
theorem w_c1 : (Jvm.Cond.code ({ cls := "com/example/mint_path/mintpath/type/OccurrenceIsWithinPinLaw", name := "pick", desc := "(I)Lcom/example/mint_path/mintpath/type/Occurrence;" } : Jvm.MethodName) method_2_code (1 : Nat) (Option.some (Jvm.ClassFile.FieldType.object "com/example/mint_path/mintpath/type/Occurrence"))).before args0 about1 = true := code_word (m := ⟨1, 1⟩) (meth := k1m1) (c := k1c1) (by decide +kernel) rfl rfl rfl (by decide +kernel)
set_option maxRecDepth 65536 in
theorem w_c2 : (Jvm.Cond.code ({ cls := "com/example/mint_path/mintpath/type/Occurrence", name := "isWithin", desc := "(Lcom/example/mint_path/mintpath/type/Occurrence;)Z" } : Jvm.MethodName) prog_57_method_5_code (2 : Nat) (Option.some Jvm.ClassFile.FieldType.boolean)).before args0 about1 = true := code_word (m := ⟨6, 0⟩) (meth := k6m0) (c := k6c0) (by decide +kernel) rfl rfl rfl (by decide +kernel)
def codes1 : List Jvm.Cond := [Jvm.Cond.code x code maxLocals ret, Jvm.Cond.code ({ cls := "com/example/mint_path/mintpath/type/OccurrenceIsWithinPinLaw", name := "pick", desc := "(I)Lcom/example/mint_path/mintpath/type/Occurrence;" } : Jvm.MethodName) method_2_code (1 : Nat) (Option.some (Jvm.ClassFile.FieldType.object "com/example/mint_path/mintpath/type/Occurrence")), Jvm.Cond.code ({ cls := "com/example/mint_path/mintpath/type/Occurrence", name := "isWithin", desc := "(Lcom/example/mint_path/mintpath/type/Occurrence;)Z" } : Jvm.MethodName) prog_57_method_5_code (2 : Nat) (Option.some Jvm.ClassFile.FieldType.boolean)]
set_option maxRecDepth 65536 in
theorem codes_eq : words1.filter isCode = codes1 := rfl
theorem w_codes : ∀ c ∈ words1.filter isCode, c.before args0 about1 = true := by
  rw [codes_eq]
  intro c hc
  simp only [codes1, List.mem_cons, List.not_mem_nil, or_false] at hc
  rcases hc with rfl | rfl | rfl
  · exact w_c0
  · exact w_c1
  · exact w_c2
set_option maxRecDepth 65536 in
theorem w_t1 : (words1.take 24).all (fun c => isCode c || c.before args0 about1) = true := by decide +kernel
set_option maxRecDepth 65536 in
theorem w_t2 : (words1.drop 24).all (fun c => isCode c || c.before args0 about1) = true := by decide +kernel
theorem w_tables : (allAtoms (Jvm.Cond.code x code maxLocals ret :: tables_1)).before args0 about1 = true := by
  rw [allAtoms_all]
  show words1.all (fun c => c.before args0 about1) = true
  refine all_split ?_ w_codes
  rw [← List.take_append_drop 24 words1, List.all_append, w_t1, w_t2]
  rfl
set_option maxRecDepth 65536 in
theorem w_case : (Jvm.Cond.and given_1 narrow_1).before args0 about1 = true := by decide +kernel
theorem w_applies : (headSpec (Jvm.Cond.code x code maxLocals ret :: tables_1) room_1).applies x e0.platform about1 = true :=
  (Spec.applies_iff w_frames).mpr ⟨w_running, w_runnable, w_alone, w_named, w_hears, w_ripe, w_room, w_tables⟩
theorem atStart : AtStart classFile x code maxLocals ret World_1 tables_1 room_1 Calls_1 rest_1 Pre_1 launch0 p0 e0 about1 theMethod args0 below0 :=
  ⟨lists_1, trivial, launch0.admits_env _ _ _, launch0.least_env, fairChoices_fair.cas, fairChoices_fair.clock, w_frames, w_args, w_heap, w_applies, trivial, trivial, w_case⟩
end start1
theorem witness_1 : WitnessClaimed_1 := ⟨start1.p0, start1.e0, start1.about1, start1.theMethod, start1.args0, start1.below0, start1.atStart⟩
end Jvm.Pilot.@@N@@
