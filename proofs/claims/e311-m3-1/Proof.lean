import JvmDerived
import JvmDerived.Pilot.@@N@@Statement
import JvmDerived.Pilot.@@N@@Code
set_option linter.unusedVariables false
set_option linter.unusedSimpArgs false
namespace Jvm.Pilot.@@N@@
open Jvm Jvm.ClassFile Sem Op Lib Jvm.Free Jvm.Stand Jvm.LawKit Jvm.RoadKit Bundle Jvm.Pilot.@@N@@.Jvm.D
theorem own_fld {s : State} {args : Array Value} {t : Term} {w : Addr} {C n d : String} {k : Int32} (ev : t.eval args s none [] s = some (.ref w)) (h : (Cond.eq (Term.field t C n d) (Term.int k)).value args s none s [] = some true) : Fld s s.heap w C n d (.int k) := by
  refine Fld.start ?_
  have h1 : (Term.field t C n d).eval args s none [] s = s.fieldOf? w C n d := fld_at ev
  have h2 : (Term.int k).eval args s none [] s = some (.int k) := Term.int_eval k
  cases hf : s.fieldOf? w C n d with
  | none => rw [hf] at h1; simp [Cond.value, h1] at h
  | some x =>
    rw [hf] at h1
    cases x <;> simp [Cond.value, h1, h2] at h
    rw [h]
def own_pick (k : Int32) (i d : Addr) : Addr := if (k &&& 1) = 0 then i else d
def own_widest (a b i d : Addr) : Addr := if a = i then (if b = i then i else d) else d
def own_num (a b : Addr) : Int32 := if a = b then 0 else 1
theorem own_pick_or (k : Int32) (i d : Addr) : own_pick k i d = i ∨ own_pick k i d = d := by unfold own_pick; split <;> simp
theorem own_wide_or (a b i d : Addr) : own_widest a b i d = i ∨ own_widest a b i d = d := by unfold own_widest; split <;> (try split) <;> simp
theorem own_wD {a b i d : Addr} (n : ¬ d = i) (h : a = d ∨ b = d) : own_widest a b i d = d := by
  unfold own_widest
  rcases h with rfl | rfl
  · rw [if_neg n]
  · rw [if_neg n]; split <;> rfl
theorem own_wI {a b i d : Addr} (ha : a = i ∨ a = d) (hb : b = i ∨ b = d) (h1 : ¬ a = d) (h2 : ¬ b = d) : own_widest a b i d = i := by
  rcases ha with rfl | rfl
  · rcases hb with rfl | rfl
    · simp [own_widest]
    · exact absurd rfl h2
  · exact absurd rfl h1
theorem own_wC (a b i d : Addr) : own_widest b a i d = own_widest a b i d := by
  unfold own_widest
  by_cases h1 : a = i <;> by_cases h2 : b = i <;> simp [h1, h2]
theorem own_num1 {a b i d : Addr} (h : a = i ∨ a = d) (h1 : ¬ i = b) (h2 : ¬ d = b) : ¬ own_num a b = 0 := by
  rcases h with rfl | rfl <;> simp [own_num, h1, h2]
theorem dP_0 : decode method_2_code 0 = .ok (.iload_n 0, 1) := by decide +kernel
theorem dP_1 : decode method_2_code 1 = .ok (.iconst 1, 1) := by decide +kernel
theorem dP_2 : decode method_2_code 2 = .ok (.iand, 1) := by decide +kernel
theorem dP_3 : decode method_2_code 3 = .ok (.ifCond .eq 7, 3) := by decide +kernel
theorem dP_6 : decode method_2_code 6 = .ok (.getstatic 7, 3) := by decide +kernel
theorem dP_9 : decode method_2_code 9 = .ok (.areturn, 1) := by decide +kernel
theorem dP_10 : decode method_2_code 10 = .ok (.getstatic 13, 3) := by decide +kernel
theorem dP_13 : decode method_2_code 13 = .ok (.areturn, 1) := by decide +kernel
theorem pnP : plainName "com/example/vole/vole/model/TypeWidestPinLaw" = true := by first | (simp [plainName, overriddenIn]; done) | decide +kernel
theorem efP (m : MethodId) (k : Int32) : entryFrame m #[(.int k)] 1 = mkF m 0 #[.val (.int k)] [] := by first | (simp [entryFrame, mkF, argsToLocals, Value.category]; done) | rfl
def QP (k : Int32) (w_INT w_DOUBLE : Addr) (h0 : Heap) (n0 : Nat) (v : Option Value) (h : Heap) (L : List Loc) : Prop := v = some (.ref (own_pick k w_INT w_DOUBLE)) ∧ Fr n0 L ∧ h = h0
set_option maxRecDepth 65536 in
set_option maxHeartbeats 40000000 in
theorem rmP (l : Launch) (Z : State) (a0 : Array Value) (hw : ∀ d ∈ tables_1, d.before a0 Z = true) (ws : List Jvm.Cond) (k : Int32) (w_INT w_DOUBLE : Addr) (h0 : Heap) (n0 : Nat) (Z0 : n0 ≤ h0.size) (S_INT : Sta Z h0 "com/example/vole/vole/model/Type" "INT" "Lcom/example/vole/vole/model/Type;" (.ref w_INT)) (S_DOUBLE : Sta Z h0 "com/example/vole/vole/model/Type" "DOUBLE" "Lcom/example/vole/vole/model/Type;" (.ref w_DOUBLE)) :
    MetFree l (⟨"com/example/vole/vole/model/TypeWidestPinLaw", "pick", "(I)Lcom/example/vole/vole/model/Type;"⟩ : MethodName) (head1 (Jvm.Cond.code (⟨"com/example/vole/vole/model/TypeWidestPinLaw", "pick", "(I)Lcom/example/vole/vole/model/Type;"⟩ : MethodName) method_2_code 1 (some (.object "com/example/vole/vole/model/Type")) :: ws) ({ frames := 0, cells := 0, slots := 0, locals := 0 } : Room)) (fun as_ U => as_ = #[(.int k)] ∧ Z.Warmed39 U.vm ∧ U.heap = h0) (fun _ _ _ _ _ => True) (fun _ U o U' => ∃ v L, o = .returned v ∧ QP k w_INT w_DOUBLE h0 n0 v U'.heap L ∧ FrameEnd U o U' L ({ frames := 0, cells := 0, slots := 0, locals := 0 } : Room).cells ({ frames := 0, cells := 0, slots := 0, locals := 0 } : Room).slots) := by
  refine MetFree.of_bodySF (plainFor_of_name pnP) hisR ?_
  intro p e s m args below meth c s₁ Bd hml0 hP hK
  obtain ⟨rfl, hZ, hh⟩ := hP
  have hx := Bd.exec
  have hby := Bd.bytes
  have hml : c.maxLocals = 1 := hml0
  have hown : s.vm.findClass "com/example/vole/vole/model/TypeWidestPinLaw" = some m.cls := findClass_of_methodNamed Bd.named
  have X0 : Stand p l e ({ frames := 0, cells := 0, slots := 0, locals := 0 } : Room) s m #[(.int k)] below meth c s₁ [] 0 0 := Stand.of_body Bd
  have e0 : s₁.heap = h0 := by rw [← hh, Bd.state]; rfl
  have N0 := Fr.nil n0
  have pre0 : ∀ t, Steps p.tables e below (s₁.setTop (mkF m 0 #[.val (.int k)] [])) t → Steps p.tables e below (s₁.setTop (entryFrame m #[(.int k)] 1)) t := fun t kk_ => castTop (efP m k) kk_
  have pre1 : ∀ t, Steps p.tables e below (s₁.setTop (mkF m 3 #[.val (.int k)] [(.int (k &&& (1 : Int32)))])) t → Steps p.tables e below (s₁.setTop (entryFrame m #[(.int k)] 1)) t := fun t kt => by
    refine pre0 t ?_
    show Steps p.tables e below (s₁.setTop (mkF m 0 #[.val (.int k)] [])) _
    refine XS.iloadN X0.here hx rfl (hb hby dP_0) rfl ?_
    show Steps p.tables e below (s₁.setTop (mkF m 1 #[.val (.int k)] [(.int k)])) _
    refine XS.iconst X0.here hx rfl (hb hby dP_1) ?_
    show Steps p.tables e below (s₁.setTop (mkF m 2 #[.val (.int k)] [(.int (1 : Int32)), (.int k)])) _
    refine XS.iand X0.here hx rfl (hb hby dP_2) rfl ?_
    exact kt
  by_cases hc3_2 : (k &&& (1 : Int32)) = (0 : Int32)
  · obtain ⟨T3, X3, e3, st3⟩ := getS2 X0 hx hZ hown (host := "") (Or.inl (hw _ (List.mem_of_getElem? (i := 4) rfl))) Via.refl e0 S_INT (g := (mkF m 10 #[.val (.int k)] [])) rfl (hb hby dP_10)
    obtain ⟨fs, hr, hrun, hended, hW, hsame⟩ := X3.leave (v := some (.ref w_INT)) (fun h => by rw [Bd.returns] at h; cases h)
    refine ⟨_, _, pre1 _ ?_, hrun, hended, _, _, rfl, ?_, ⟨_, rfl⟩, hW, hsame.mono (by decide) (by decide)⟩
    · show Steps p.tables e below (s₁.setTop (mkF m 3 #[.val (.int k)] [(.int (k &&& (1 : Int32)))])) _
      refine XS.ifYes X0.here hx rfl (pc0 := 3) (pc' := 10) rfl (hb hby dP_3) rfl ((if0 _ _).trans (teq hc3_2).1) (by decide) (by decide) ?_
      show Steps p.tables e below (s₁.setTop (mkF m 10 #[.val (.int k)] [])) _
      refine st3 _ ?_
      show Steps p.tables e below (T3.setTop (mkF m 13 #[.val (.int k)] [(.ref w_INT)])) _
      exact retOut X3 hx Bd.returns rfl (Or.inr (Or.inr (Or.inr (Or.inr ⟨rfl, rfl, rfl⟩)))) (hb hby dP_13) hr
    · show QP k w_INT w_DOUBLE h0 n0 _ T3.heap _
      rw [e3]
      exact ⟨by simp [own_pick, hc3_2], N0, rfl⟩
  · obtain ⟨T4, X4, e4, st4⟩ := getS2 X0 hx hZ hown (host := "") (Or.inl (hw _ (List.mem_of_getElem? (i := 7) rfl))) Via.refl e0 S_DOUBLE (g := (mkF m 6 #[.val (.int k)] [])) rfl (hb hby dP_6)
    obtain ⟨fs, hr, hrun, hended, hW, hsame⟩ := X4.leave (v := some (.ref w_DOUBLE)) (fun h => by rw [Bd.returns] at h; cases h)
    refine ⟨_, _, pre1 _ ?_, hrun, hended, _, _, rfl, ?_, ⟨_, rfl⟩, hW, hsame.mono (by decide) (by decide)⟩
    · show Steps p.tables e below (s₁.setTop (mkF m 3 #[.val (.int k)] [(.int (k &&& (1 : Int32)))])) _
      refine XS.ifNo X0.here hx rfl (hb hby dP_3) rfl ((if0 _ _).trans (feq hc3_2).1) ?_
      show Steps p.tables e below (s₁.setTop (mkF m 6 #[.val (.int k)] [])) _
      refine st4 _ ?_
      show Steps p.tables e below (T4.setTop (mkF m 9 #[.val (.int k)] [(.ref w_DOUBLE)])) _
      exact retOut X4 hx Bd.returns rfl (Or.inr (Or.inr (Or.inr (Or.inr ⟨rfl, rfl, rfl⟩)))) (hb hby dP_9) hr
    · show QP k w_INT w_DOUBLE h0 n0 _ T4.heap _
      rw [e4]
      exact ⟨by simp [own_pick, hc3_2], N0, rfl⟩
theorem dW_0 : decode prog_85_method_5_code 0 = .ok (.aload_n 0, 1) := by decide +kernel
theorem dW_1 : decode prog_85_method_5_code 1 = .ok (.getstatic 3, 3) := by decide +kernel
theorem dW_4 : decode prog_85_method_5_code 4 = .ok (.if_acmp .ne 17, 3) := by decide +kernel
theorem dW_7 : decode prog_85_method_5_code 7 = .ok (.aload_n 1, 1) := by decide +kernel
theorem dW_8 : decode prog_85_method_5_code 8 = .ok (.getstatic 3, 3) := by decide +kernel
theorem dW_11 : decode prog_85_method_5_code 11 = .ok (.if_acmp .ne 10, 3) := by decide +kernel
theorem dW_14 : decode prog_85_method_5_code 14 = .ok (.getstatic 3, 3) := by decide +kernel
theorem dW_17 : decode prog_85_method_5_code 17 = .ok (.astore_n 2, 1) := by decide +kernel
theorem dW_18 : decode prog_85_method_5_code 18 = .ok (.goto 7, 3) := by decide +kernel
theorem dW_21 : decode prog_85_method_5_code 21 = .ok (.getstatic 7, 3) := by decide +kernel
theorem dW_24 : decode prog_85_method_5_code 24 = .ok (.astore_n 2, 1) := by decide +kernel
theorem dW_25 : decode prog_85_method_5_code 25 = .ok (.aload_n 2, 1) := by decide +kernel
theorem dW_26 : decode prog_85_method_5_code 26 = .ok (.areturn, 1) := by decide +kernel
theorem pnW : plainName "com/example/vole/vole/model/Type" = true := by first | (simp [plainName, overriddenIn]; done) | decide +kernel
theorem efW (m : MethodId) (a : Addr) (b : Addr) : entryFrame m #[(.ref a), (.ref b)] 3 = mkF m 0 #[.val (.ref a), .val (.ref b), .unset] [] := by first | (simp [entryFrame, mkF, argsToLocals, Value.category]; done) | rfl
def QW (a b w_INT w_DOUBLE : Addr) (h0 : Heap) (n0 : Nat) (v : Option Value) (h : Heap) (L : List Loc) : Prop := v = some (.ref (own_widest a b w_INT w_DOUBLE)) ∧ Fr n0 L ∧ h = h0
set_option maxRecDepth 65536 in
set_option maxHeartbeats 40000000 in
theorem rmW (l : Launch) (Z : State) (a0 : Array Value) (hw : ∀ d ∈ tables_1, d.before a0 Z = true) (ws : List Jvm.Cond) (a : Addr) (b : Addr) (w_INT w_DOUBLE : Addr) (h0 : Heap) (n0 : Nat) (Z0 : n0 ≤ h0.size) (S_INT : Sta Z h0 "com/example/vole/vole/model/Type" "INT" "Lcom/example/vole/vole/model/Type;" (.ref w_INT)) (S_DOUBLE : Sta Z h0 "com/example/vole/vole/model/Type" "DOUBLE" "Lcom/example/vole/vole/model/Type;" (.ref w_DOUBLE)) :
    MetFree l (⟨"com/example/vole/vole/model/Type", "widest", "(Lcom/example/vole/vole/model/Type;Lcom/example/vole/vole/model/Type;)Lcom/example/vole/vole/model/Type;"⟩ : MethodName) (head1 (Jvm.Cond.code (⟨"com/example/vole/vole/model/Type", "widest", "(Lcom/example/vole/vole/model/Type;Lcom/example/vole/vole/model/Type;)Lcom/example/vole/vole/model/Type;"⟩ : MethodName) prog_85_method_5_code 3 (some (.object "com/example/vole/vole/model/Type")) :: ws) ({ frames := 0, cells := 0, slots := 0, locals := 0 } : Room)) (fun as_ U => as_ = #[(.ref a), (.ref b)] ∧ Z.Warmed39 U.vm ∧ U.heap = h0) (fun _ _ _ _ _ => True) (fun _ U o U' => ∃ v L, o = .returned v ∧ QW a b w_INT w_DOUBLE h0 n0 v U'.heap L ∧ FrameEnd U o U' L ({ frames := 0, cells := 0, slots := 0, locals := 0 } : Room).cells ({ frames := 0, cells := 0, slots := 0, locals := 0 } : Room).slots) := by
  refine MetFree.of_bodySF (plainFor_of_name pnW) hisR ?_
  intro p e s m args below meth c s₁ Bd hml0 hP hK
  obtain ⟨rfl, hZ, hh⟩ := hP
  have hx := Bd.exec
  have hby := Bd.bytes
  have hml : c.maxLocals = 3 := hml0
  have hown : s.vm.findClass "com/example/vole/vole/model/Type" = some m.cls := findClass_of_methodNamed Bd.named
  have X0 : Stand p l e ({ frames := 0, cells := 0, slots := 0, locals := 0 } : Room) s m #[(.ref a), (.ref b)] below meth c s₁ [] 0 0 := Stand.of_body Bd
  have e0 : s₁.heap = h0 := by rw [← hh, Bd.state]; rfl
  have N0 := Fr.nil n0
  have pre0 : ∀ t, Steps p.tables e below (s₁.setTop (mkF m 0 #[.val (.ref a), .val (.ref b), .unset] [])) t → Steps p.tables e below (s₁.setTop (entryFrame m #[(.ref a), (.ref b)] 3)) t := fun t kk_ => castTop (efW m a b) kk_
  obtain ⟨T1, X1, e1, st1⟩ := getS2 X0 hx hZ hown (host := "") (Or.inl (hw _ (List.mem_of_getElem? (i := 12) rfl))) Via.refl e0 S_INT (g := (mkF m 1 #[.val (.ref a), .val (.ref b), .unset] [(.ref a)])) rfl (hb hby dW_1)
  have pre2 : ∀ t, Steps p.tables e below (T1.setTop (mkF m 4 #[.val (.ref a), .val (.ref b), .unset] [(.ref w_INT), (.ref a)])) t → Steps p.tables e below (s₁.setTop (entryFrame m #[(.ref a), (.ref b)] 3)) t := fun t kt => by
    refine pre0 t ?_
    show Steps p.tables e below (s₁.setTop (mkF m 0 #[.val (.ref a), .val (.ref b), .unset] [])) _
    refine XS.aloadN X0.here hx rfl (hb hby dW_0) rfl rfl ?_
    show Steps p.tables e below (s₁.setTop (mkF m 1 #[.val (.ref a), .val (.ref b), .unset] [(.ref a)])) _
    refine st1 _ ?_
    exact kt
  by_cases hc4_3 : a = w_INT
  · obtain ⟨T4, X4, e4, st4⟩ := getS2 X1 hx hZ hown (host := "") (Or.inl (hw _ (List.mem_of_getElem? (i := 12) rfl))) Via.refl e1 S_INT (g := (mkF m 8 #[.val (.ref a), .val (.ref b), .unset] [(.ref b)])) rfl (hb hby dW_8)
    have pre5 : ∀ t, Steps p.tables e below (T4.setTop (mkF m 11 #[.val (.ref a), .val (.ref b), .unset] [(.ref w_INT), (.ref b)])) t → Steps p.tables e below (s₁.setTop (entryFrame m #[(.ref a), (.ref b)] 3)) t := fun t kt => by
      refine pre2 t ?_
      show Steps p.tables e below (T1.setTop (mkF m 4 #[.val (.ref a), .val (.ref b), .unset] [(.ref w_INT), (.ref a)])) _
      refine Jvm.RoadKit.acmp (g := (mkF m 4 #[.val (.ref a), .val (.ref b), .unset] [(.ref w_INT), (.ref a)])) X1 hx rfl rfl rfl (pc0 := 4) (pc' := 7) (same := true) rfl (hb hby dW_4) rfl (decide_eq_true (congrArg Value.ref hc4_3)) (by decide) (by decide) ?_
      show Steps p.tables e below (T1.setTop (mkF m 7 #[.val (.ref a), .val (.ref b), .unset] [])) _
      refine XS.aloadN X1.here hx rfl (hb hby dW_7) rfl rfl ?_
      show Steps p.tables e below (T1.setTop (mkF m 8 #[.val (.ref a), .val (.ref b), .unset] [(.ref b)])) _
      refine st4 _ ?_
      exact kt
    by_cases hc11_6 : b = w_INT
    · obtain ⟨T7, X7, e7, st7⟩ := getS2 X4 hx hZ hown (host := "") (Or.inl (hw _ (List.mem_of_getElem? (i := 12) rfl))) Via.refl e4 S_INT (g := (mkF m 14 #[.val (.ref a), .val (.ref b), .unset] [])) rfl (hb hby dW_14)
      obtain ⟨fs, hr, hrun, hended, hW, hsame⟩ := X7.leave (v := some (.ref w_INT)) (fun h => by rw [Bd.returns] at h; cases h)
      refine ⟨_, _, pre5 _ ?_, hrun, hended, _, _, rfl, ?_, ⟨_, rfl⟩, hW, hsame.mono (by decide) (by decide)⟩
      · show Steps p.tables e below (T4.setTop (mkF m 11 #[.val (.ref a), .val (.ref b), .unset] [(.ref w_INT), (.ref b)])) _
        refine Jvm.RoadKit.acmp (g := (mkF m 11 #[.val (.ref a), .val (.ref b), .unset] [(.ref w_INT), (.ref b)])) X4 hx rfl rfl rfl (pc0 := 11) (pc' := 14) (same := true) rfl (hb hby dW_11) rfl (decide_eq_true (congrArg Value.ref hc11_6)) (by decide) (by decide) ?_
        show Steps p.tables e below (T4.setTop (mkF m 14 #[.val (.ref a), .val (.ref b), .unset] [])) _
        refine st7 _ ?_
        show Steps p.tables e below (T7.setTop (mkF m 17 #[.val (.ref a), .val (.ref b), .unset] [(.ref w_INT)])) _
        refine XS.astoreN X7.here hx rfl (hb hby dW_17) rfl rfl (l' := #[.val (.ref a), .val (.ref b), .val (.ref w_INT)]) rfl ?_
        show Steps p.tables e below (T7.setTop (mkF m 18 #[.val (.ref a), .val (.ref b), .val (.ref w_INT)] [])) _
        refine XS.goto X7.here hx rfl (pc0 := 18) (pc' := 25) rfl (hb hby dW_18) (by decide) (by decide) ?_
        show Steps p.tables e below (T7.setTop (mkF m 25 #[.val (.ref a), .val (.ref b), .val (.ref w_INT)] [])) _
        refine XS.aloadN X7.here hx rfl (hb hby dW_25) rfl rfl ?_
        show Steps p.tables e below (T7.setTop (mkF m 26 #[.val (.ref a), .val (.ref b), .val (.ref w_INT)] [(.ref w_INT)])) _
        exact retOut X7 hx Bd.returns rfl (Or.inr (Or.inr (Or.inr (Or.inr ⟨rfl, rfl, rfl⟩)))) (hb hby dW_26) hr
      · show QW a b w_INT w_DOUBLE h0 n0 _ T7.heap _
        rw [e7]
        exact ⟨by simp [own_widest, hc4_3, hc11_6], N0, rfl⟩
    · obtain ⟨T8, X8, e8, st8⟩ := getS2 X4 hx hZ hown (host := "") (Or.inl (hw _ (List.mem_of_getElem? (i := 13) rfl))) Via.refl e4 S_DOUBLE (g := (mkF m 21 #[.val (.ref a), .val (.ref b), .unset] [])) rfl (hb hby dW_21)
      obtain ⟨fs, hr, hrun, hended, hW, hsame⟩ := X8.leave (v := some (.ref w_DOUBLE)) (fun h => by rw [Bd.returns] at h; cases h)
      refine ⟨_, _, pre5 _ ?_, hrun, hended, _, _, rfl, ?_, ⟨_, rfl⟩, hW, hsame.mono (by decide) (by decide)⟩
      · show Steps p.tables e below (T4.setTop (mkF m 11 #[.val (.ref a), .val (.ref b), .unset] [(.ref w_INT), (.ref b)])) _
        refine Jvm.RoadKit.acmp (g := (mkF m 11 #[.val (.ref a), .val (.ref b), .unset] [(.ref w_INT), (.ref b)])) X4 hx rfl rfl rfl (pc0 := 11) (pc' := 21) (same := false) rfl (hb hby dW_11) rfl (decide_eq_false fun q => hc11_6 (Value.ref.inj q)) (by decide) (by decide) ?_
        show Steps p.tables e below (T4.setTop (mkF m 21 #[.val (.ref a), .val (.ref b), .unset] [])) _
        refine st8 _ ?_
        show Steps p.tables e below (T8.setTop (mkF m 24 #[.val (.ref a), .val (.ref b), .unset] [(.ref w_DOUBLE)])) _
        refine XS.astoreN X8.here hx rfl (hb hby dW_24) rfl rfl (l' := #[.val (.ref a), .val (.ref b), .val (.ref w_DOUBLE)]) rfl ?_
        show Steps p.tables e below (T8.setTop (mkF m 25 #[.val (.ref a), .val (.ref b), .val (.ref w_DOUBLE)] [])) _
        refine XS.aloadN X8.here hx rfl (hb hby dW_25) rfl rfl ?_
        show Steps p.tables e below (T8.setTop (mkF m 26 #[.val (.ref a), .val (.ref b), .val (.ref w_DOUBLE)] [(.ref w_DOUBLE)])) _
        exact retOut X8 hx Bd.returns rfl (Or.inr (Or.inr (Or.inr (Or.inr ⟨rfl, rfl, rfl⟩)))) (hb hby dW_26) hr
      · show QW a b w_INT w_DOUBLE h0 n0 _ T8.heap _
        rw [e8]
        exact ⟨by simp [own_widest, hc4_3, hc11_6], N0, rfl⟩
  · obtain ⟨T9, X9, e9, st9⟩ := getS2 X1 hx hZ hown (host := "") (Or.inl (hw _ (List.mem_of_getElem? (i := 13) rfl))) Via.refl e1 S_DOUBLE (g := (mkF m 21 #[.val (.ref a), .val (.ref b), .unset] [])) rfl (hb hby dW_21)
    obtain ⟨fs, hr, hrun, hended, hW, hsame⟩ := X9.leave (v := some (.ref w_DOUBLE)) (fun h => by rw [Bd.returns] at h; cases h)
    refine ⟨_, _, pre2 _ ?_, hrun, hended, _, _, rfl, ?_, ⟨_, rfl⟩, hW, hsame.mono (by decide) (by decide)⟩
    · show Steps p.tables e below (T1.setTop (mkF m 4 #[.val (.ref a), .val (.ref b), .unset] [(.ref w_INT), (.ref a)])) _
      refine Jvm.RoadKit.acmp (g := (mkF m 4 #[.val (.ref a), .val (.ref b), .unset] [(.ref w_INT), (.ref a)])) X1 hx rfl rfl rfl (pc0 := 4) (pc' := 21) (same := false) rfl (hb hby dW_4) rfl (decide_eq_false fun q => hc4_3 (Value.ref.inj q)) (by decide) (by decide) ?_
      show Steps p.tables e below (T1.setTop (mkF m 21 #[.val (.ref a), .val (.ref b), .unset] [])) _
      refine st9 _ ?_
      show Steps p.tables e below (T9.setTop (mkF m 24 #[.val (.ref a), .val (.ref b), .unset] [(.ref w_DOUBLE)])) _
      refine XS.astoreN X9.here hx rfl (hb hby dW_24) rfl rfl (l' := #[.val (.ref a), .val (.ref b), .val (.ref w_DOUBLE)]) rfl ?_
      show Steps p.tables e below (T9.setTop (mkF m 25 #[.val (.ref a), .val (.ref b), .val (.ref w_DOUBLE)] [])) _
      refine XS.aloadN X9.here hx rfl (hb hby dW_25) rfl rfl ?_
      show Steps p.tables e below (T9.setTop (mkF m 26 #[.val (.ref a), .val (.ref b), .val (.ref w_DOUBLE)] [(.ref w_DOUBLE)])) _
      exact retOut X9 hx Bd.returns rfl (Or.inr (Or.inr (Or.inr (Or.inr ⟨rfl, rfl, rfl⟩)))) (hb hby dW_26) hr
    · show QW a b w_INT w_DOUBLE h0 n0 _ T9.heap _
      rw [e9]
      exact ⟨by simp [own_widest, hc4_3], N0, rfl⟩
theorem dN_0 : decode prog_85_method_4_code 0 = .ok (.aload_n 0, 1) := by decide +kernel
theorem dN_1 : decode prog_85_method_4_code 1 = .ok (.getstatic 10, 3) := by decide +kernel
theorem dN_4 : decode prog_85_method_4_code 4 = .ok (.if_acmp .eq 7, 3) := by decide +kernel
theorem dN_7 : decode prog_85_method_4_code 7 = .ok (.iconst 1, 1) := by decide +kernel
theorem dN_8 : decode prog_85_method_4_code 8 = .ok (.goto 4, 3) := by decide +kernel
theorem dN_11 : decode prog_85_method_4_code 11 = .ok (.iconst 0, 1) := by decide +kernel
theorem dN_12 : decode prog_85_method_4_code 12 = .ok (.ireturn, 1) := by decide +kernel
theorem pnN : plainName "com/example/vole/vole/model/Type" = true := by first | (simp [plainName, overriddenIn]; done) | decide +kernel
theorem efN (m : MethodId) (a : Addr) : entryFrame m #[(.ref a)] 1 = mkF m 0 #[.val (.ref a)] [] := by first | (simp [entryFrame, mkF, argsToLocals, Value.category]; done) | rfl
def QN (a w_BOOL : Addr) (h0 : Heap) (n0 : Nat) (v : Option Value) (h : Heap) (L : List Loc) : Prop := v = some (.int (own_num a w_BOOL)) ∧ Fr n0 L ∧ h = h0
set_option maxRecDepth 65536 in
set_option maxHeartbeats 40000000 in
theorem rmN (l : Launch) (Z : State) (a0 : Array Value) (hw : ∀ d ∈ tables_1, d.before a0 Z = true) (ws : List Jvm.Cond) (a : Addr) (w_BOOL : Addr) (h0 : Heap) (n0 : Nat) (Z0 : n0 ≤ h0.size) (S_BOOL : Sta Z h0 "com/example/vole/vole/model/Type" "BOOL" "Lcom/example/vole/vole/model/Type;" (.ref w_BOOL)) :
    MetFree l (⟨"com/example/vole/vole/model/Type", "isNumeric", "()Z"⟩ : MethodName) (head1 (Jvm.Cond.code (⟨"com/example/vole/vole/model/Type", "isNumeric", "()Z"⟩ : MethodName) prog_85_method_4_code 1 (some .boolean) :: ws) ({ frames := 0, cells := 0, slots := 0, locals := 0 } : Room)) (fun as_ U => as_ = #[(.ref a)] ∧ Z.Warmed39 U.vm ∧ U.heap = h0) (fun _ _ _ _ _ => True) (fun _ U o U' => ∃ v L, o = .returned v ∧ QN a w_BOOL h0 n0 v U'.heap L ∧ FrameEnd U o U' L ({ frames := 0, cells := 0, slots := 0, locals := 0 } : Room).cells ({ frames := 0, cells := 0, slots := 0, locals := 0 } : Room).slots) := by
  refine MetFree.of_bodySF (plainFor_of_name pnN) hisR ?_
  intro p e s m args below meth c s₁ Bd hml0 hP hK
  obtain ⟨rfl, hZ, hh⟩ := hP
  have hx := Bd.exec
  have hby := Bd.bytes
  have hml : c.maxLocals = 1 := hml0
  have hown : s.vm.findClass "com/example/vole/vole/model/Type" = some m.cls := findClass_of_methodNamed Bd.named
  have X0 : Stand p l e ({ frames := 0, cells := 0, slots := 0, locals := 0 } : Room) s m #[(.ref a)] below meth c s₁ [] 0 0 := Stand.of_body Bd
  have e0 : s₁.heap = h0 := by rw [← hh, Bd.state]; rfl
  have N0 := Fr.nil n0
  have pre0 : ∀ t, Steps p.tables e below (s₁.setTop (mkF m 0 #[.val (.ref a)] [])) t → Steps p.tables e below (s₁.setTop (entryFrame m #[(.ref a)] 1)) t := fun t kk_ => castTop (efN m a) kk_
  obtain ⟨T1, X1, e1, st1⟩ := getS2 X0 hx hZ hown (host := "") (Or.inl (hw _ (List.mem_of_getElem? (i := 19) rfl))) Via.refl e0 S_BOOL (g := (mkF m 1 #[.val (.ref a)] [(.ref a)])) rfl (hb hby dN_1)
  have pre2 : ∀ t, Steps p.tables e below (T1.setTop (mkF m 4 #[.val (.ref a)] [(.ref w_BOOL), (.ref a)])) t → Steps p.tables e below (s₁.setTop (entryFrame m #[(.ref a)] 1)) t := fun t kt => by
    refine pre0 t ?_
    show Steps p.tables e below (s₁.setTop (mkF m 0 #[.val (.ref a)] [])) _
    refine XS.aloadN X0.here hx rfl (hb hby dN_0) rfl rfl ?_
    show Steps p.tables e below (s₁.setTop (mkF m 1 #[.val (.ref a)] [(.ref a)])) _
    refine st1 _ ?_
    exact kt
  by_cases hc4_3 : a = w_BOOL
  · obtain ⟨fs, hr, hrun, hended, hW, hsame⟩ := X1.leave (v := some (.int (0 : Int32))) (fun h => by rw [Bd.returns] at h; cases h)
    refine ⟨_, _, pre2 _ ?_, hrun, hended, _, _, rfl, ?_, ⟨_, rfl⟩, hW, hsame.mono (by decide) (by decide)⟩
    · show Steps p.tables e below (T1.setTop (mkF m 4 #[.val (.ref a)] [(.ref w_BOOL), (.ref a)])) _
      refine Jvm.RoadKit.acmp (g := (mkF m 4 #[.val (.ref a)] [(.ref w_BOOL), (.ref a)])) X1 hx rfl rfl rfl (pc0 := 4) (pc' := 11) (same := true) rfl (hb hby dN_4) rfl (decide_eq_true (congrArg Value.ref hc4_3)) (by decide) (by decide) ?_
      show Steps p.tables e below (T1.setTop (mkF m 11 #[.val (.ref a)] [])) _
      refine XS.iconst X1.here hx rfl (hb hby dN_11) ?_
      show Steps p.tables e below (T1.setTop (mkF m 12 #[.val (.ref a)] [(.int (0 : Int32))])) _
      exact retN X1 hx (t := .boolean) Bd.returns (by simp) (hb hby dN_12) hr
    · show QN a w_BOOL h0 n0 _ T1.heap _
      rw [e1]
      exact ⟨by simp [own_num, hc4_3], N0, rfl⟩
  · obtain ⟨fs, hr, hrun, hended, hW, hsame⟩ := X1.leave (v := some (.int (1 : Int32))) (fun h => by rw [Bd.returns] at h; cases h)
    refine ⟨_, _, pre2 _ ?_, hrun, hended, _, _, rfl, ?_, ⟨_, rfl⟩, hW, hsame.mono (by decide) (by decide)⟩
    · show Steps p.tables e below (T1.setTop (mkF m 4 #[.val (.ref a)] [(.ref w_BOOL), (.ref a)])) _
      refine Jvm.RoadKit.acmp (g := (mkF m 4 #[.val (.ref a)] [(.ref w_BOOL), (.ref a)])) X1 hx rfl rfl rfl (pc0 := 4) (pc' := 7) (same := false) rfl (hb hby dN_4) rfl (decide_eq_false fun q => hc4_3 (Value.ref.inj q)) (by decide) (by decide) ?_
      show Steps p.tables e below (T1.setTop (mkF m 7 #[.val (.ref a)] [])) _
      refine XS.iconst X1.here hx rfl (hb hby dN_7) ?_
      show Steps p.tables e below (T1.setTop (mkF m 8 #[.val (.ref a)] [(.int (1 : Int32))])) _
      refine XS.goto X1.here hx rfl (pc0 := 8) (pc' := 12) rfl (hb hby dN_8) (by decide) (by decide) ?_
      show Steps p.tables e below (T1.setTop (mkF m 12 #[.val (.ref a)] [(.int (1 : Int32))])) _
      exact retN X1 hx (t := .boolean) Bd.returns (by simp) (hb hby dN_12) hr
    · show QN a w_BOOL h0 n0 _ T1.heap _
      rw [e1]
      exact ⟨by simp [own_num, hc4_3], N0, rfl⟩
theorem pn0 : plainName "com/example/vole/vole/model/TypeWidestPinLaw" = true := by first | (simp [plainName, overriddenIn]; done) | decide +kernel
theorem pd0_0 : parseMethodDescriptor "(I)Lcom/example/vole/vole/model/Type;" = some ⟨[.int], some (.object "com/example/vole/vole/model/Type")⟩ := by decide +kernel
theorem pd0_1 : parseMethodDescriptor "(Lcom/example/vole/vole/model/Type;Lcom/example/vole/vole/model/Type;)Lcom/example/vole/vole/model/Type;" = some ⟨[(.object "com/example/vole/vole/model/Type"), (.object "com/example/vole/vole/model/Type")], some (.object "com/example/vole/vole/model/Type")⟩ := by decide +kernel
theorem pd0_2 : parseMethodDescriptor "()Z" = some ⟨[], some .boolean⟩ := by decide +kernel
theorem ef0 (m : MethodId) (p1 : Int32) (p2 : Int32) : entryFrame m #[(.int p1), (.int p2)] maxLocals = mkF m 0 #[.val (.int p1), .val (.int p2), .unset, .unset, .unset, .unset, .unset] [] := by first | (simp [entryFrame, mkF, argsToLocals, Value.category, maxLocals]; done) | rfl
def Q0  (h0 : Heap) (n0 : Nat) (v : Option Value) (h : Heap) (L : List Loc) : Prop := v = some (.int (1 : Int32)) ∧ Fr n0 L
set_option maxRecDepth 65536 in
set_option maxHeartbeats 40000000 in
theorem rm0 (l : Launch) (Z : State) (a0 : Array Value) (hw : ∀ d ∈ tables_1, d.before a0 Z = true) (ws : List Jvm.Cond) (p1 : Int32) (p2 : Int32) (w_INT w_DOUBLE w_BOOL : Addr) (h0 : Heap) (n0 : Nat) (Z0 : n0 ≤ h0.size) (S_INT : Sta Z h0 "com/example/vole/vole/model/Type" "INT" "Lcom/example/vole/vole/model/Type;" (.ref w_INT)) (S_DOUBLE : Sta Z h0 "com/example/vole/vole/model/Type" "DOUBLE" "Lcom/example/vole/vole/model/Type;" (.ref w_DOUBLE)) (S_BOOL : Sta Z h0 "com/example/vole/vole/model/Type" "BOOL" "Lcom/example/vole/vole/model/Type;" (.ref w_BOOL)) (E_INT : Exa Z h0 w_INT "com/example/vole/vole/model/Type") (E_DOUBLE : Exa Z h0 w_DOUBLE "com/example/vole/vole/model/Type") (E_BOOL : Exa Z h0 w_BOOL "com/example/vole/vole/model/Type") (O_INT : Fld Z h0 w_INT "java/lang/Enum" "ordinal" "I" (.int (0 : Int32))) (O_DOUBLE : Fld Z h0 w_DOUBLE "java/lang/Enum" "ordinal" "I" (.int (1 : Int32))) (O_BOOL : Fld Z h0 w_BOOL "java/lang/Enum" "ordinal" "I" (.int (2 : Int32))) :
    MetFree l x (head1 (Jvm.Cond.code x code maxLocals ret :: ws) room_1) (fun as_ U => as_ = #[(.int p1), (.int p2)] ∧ Z.Warmed39 U.vm ∧ U.heap = h0) (fun _ _ _ _ _ => True) (fun _ U o U' => ∃ v L, o = .returned v ∧ Q0 h0 n0 v U'.heap L ∧ FrameEnd U o U' L room_1.cells room_1.slots) := by
  refine MetFree.of_bodySF (plainFor_of_name pn0) hisR ?_
  intro p e s m args below meth c s₁ Bd hml0 hP hK
  obtain ⟨rfl, hZ, hh⟩ := hP
  have hx := Bd.exec
  have hby := Bd.bytes
  have hml : c.maxLocals = 7 := hml0
  have hown : s.vm.findClass "com/example/vole/vole/model/TypeWidestPinLaw" = some m.cls := findClass_of_methodNamed Bd.named
  have X0 : Stand p l e room_1 s m #[(.int p1), (.int p2)] below meth c s₁ [] 0 0 := Stand.of_body Bd
  have e0 : s₁.heap = h0 := by rw [← hh, Bd.state]; rfl
  have N0 := Fr.nil n0
  have pre0 : ∀ t, Steps p.tables e below (s₁.setTop (mkF m 0 #[.val (.int p1), .val (.int p2), .unset, .unset, .unset, .unset, .unset] [])) t → Steps p.tables e below (s₁.setTop (entryFrame m #[(.int p1), (.int p2)] maxLocals)) t := fun t kk_ => castTop (ef0 m p1 p2) kk_
  have n_DI : ¬ w_DOUBLE = w_INT := Fld.ne O_DOUBLE O_INT (by decide)
  have n_IB : ¬ w_INT = w_BOOL := Fld.ne O_INT O_BOOL (by decide)
  have n_DB : ¬ w_DOUBLE = w_BOOL := Fld.ne O_DOUBLE O_BOOL (by decide)
  obtain ⟨_, _, ⟨T1, L1, k1, n1⟩, -, X1, ⟨Lc1, hQ1, l1, y1, z1⟩, st1⟩ := Jvm.LawKit.callS X0 hx (y := (⟨"com/example/vole/vole/model/TypeWidestPinLaw", "pick", "(I)Lcom/example/vole/vole/model/Type;"⟩ : MethodName)) hown (mvT hZ (hw _ (List.mem_of_getElem? (i := 0) rfl))) (mvT hZ (hw _ (List.mem_of_getElem? (i := 1) rfl))) (mvT hZ (hw _ (List.mem_of_getElem? (i := 2) rfl))) (mvT hZ (hw _ (List.mem_of_getElem? (i := 3) rfl))) (by decide) (backOf (W := 0) (rmP l Z a0 hw [] p1 w_INT w_DOUBLE h0 n0 Z0 S_INT S_DOUBLE) hZ (hw _ (List.mem_of_getElem? (i := 3) rfl)) (hw _ (List.mem_of_getElem? (i := 2) rfl)) (by decide) (by decide)) (g := (mkF m 1 #[.val (.int p1), .val (.int p2), .unset, .unset, .unset, .unset, .unset] [(.int p1)])) rfl (by rw [hml]; rfl) (argsL := [(.int p1)]) (rest := []) (lenOf pd0_0 rfl) rfl (by show 2 * 0 + _ ≤ _; exact Nat.le_of_eq rfl) (hb hby at_1) (fun _ _ => ⟨rfl, e0, (by decide : 0 + 0 ≤ _), (by decide : 0 + 0 ≤ _)⟩)
  dsimp only [Pt.U, Pt.locs, Pt.cells, Pt.slots] at X1 l1 y1 z1 st1 hQ1
  subst l1 y1 z1
  obtain ⟨rfl, N1q, eh1⟩ := hQ1
  have N1 := Fr.app N0 N1q
  obtain ⟨_, _, ⟨T2, L2, k2, n2⟩, -, X2, ⟨Lc2, hQ2, l2, y2, z2⟩, st2⟩ := Jvm.LawKit.callS X1 hx (y := (⟨"com/example/vole/vole/model/TypeWidestPinLaw", "pick", "(I)Lcom/example/vole/vole/model/Type;"⟩ : MethodName)) hown (mvT hZ (hw _ (List.mem_of_getElem? (i := 0) rfl))) (mvT hZ (hw _ (List.mem_of_getElem? (i := 1) rfl))) (mvT hZ (hw _ (List.mem_of_getElem? (i := 2) rfl))) (mvT hZ (hw _ (List.mem_of_getElem? (i := 3) rfl))) (by decide) (backOf (W := 0) (rmP l Z a0 hw [] p2 w_INT w_DOUBLE h0 n0 Z0 S_INT S_DOUBLE) hZ (hw _ (List.mem_of_getElem? (i := 3) rfl)) (hw _ (List.mem_of_getElem? (i := 2) rfl)) (by decide) (by decide)) (g := (mkF m 6 #[.val (.int p1), .val (.int p2), .val (.ref (own_pick p1 w_INT w_DOUBLE)), .unset, .unset, .unset, .unset] [(.int p2)])) rfl (by rw [hml]; rfl) (argsL := [(.int p2)]) (rest := []) (lenOf pd0_0 rfl) rfl (by show 2 * 0 + _ ≤ _; exact Nat.le_of_eq rfl) (hb hby at_6) (fun _ _ => ⟨rfl, eh1, (by decide : 0 + 0 ≤ _), (by decide : 0 + 0 ≤ _)⟩)
  dsimp only [Pt.U, Pt.locs, Pt.cells, Pt.slots] at X2 l2 y2 z2 st2 hQ2
  subst l2 y2 z2
  obtain ⟨rfl, N2q, eh2⟩ := hQ2
  have N2 := Fr.app N1 N2q
  obtain ⟨_, _, ⟨T3, L3, k3, n3⟩, -, X3, ⟨Lc3, hQ3, l3, y3, z3⟩, st3⟩ := Jvm.LawKit.callS X2 hx (y := (⟨"com/example/vole/vole/model/Type", "widest", "(Lcom/example/vole/vole/model/Type;Lcom/example/vole/vole/model/Type;)Lcom/example/vole/vole/model/Type;"⟩ : MethodName)) hown (mvT hZ (hw _ (List.mem_of_getElem? (i := 9) rfl))) (mvT hZ (hw _ (List.mem_of_getElem? (i := 10) rfl))) (mvT hZ (hw _ (List.mem_of_getElem? (i := 5) rfl))) (mvT hZ (hw _ (List.mem_of_getElem? (i := 11) rfl))) (by decide) (backOf (W := 0) (rmW l Z a0 hw [] (own_pick p1 w_INT w_DOUBLE) (own_pick p2 w_INT w_DOUBLE) w_INT w_DOUBLE h0 n0 Z0 S_INT S_DOUBLE) hZ (hw _ (List.mem_of_getElem? (i := 11) rfl)) (hw _ (List.mem_of_getElem? (i := 5) rfl)) (by decide) (by decide)) (g := (mkF m 12 #[.val (.int p1), .val (.int p2), .val (.ref (own_pick p1 w_INT w_DOUBLE)), .val (.ref (own_pick p2 w_INT w_DOUBLE)), .unset, .unset, .unset] [(.ref (own_pick p2 w_INT w_DOUBLE)), (.ref (own_pick p1 w_INT w_DOUBLE))])) rfl (by rw [hml]; rfl) (argsL := [(.ref (own_pick p1 w_INT w_DOUBLE)), (.ref (own_pick p2 w_INT w_DOUBLE))]) (rest := []) (lenOf pd0_1 rfl) rfl (by show 2 * 0 + _ ≤ _; exact Nat.le_of_eq rfl) (hb hby at_12) (fun _ _ => ⟨rfl, eh2, (by decide : 0 + 0 ≤ _), (by decide : 0 + 0 ≤ _)⟩)
  dsimp only [Pt.U, Pt.locs, Pt.cells, Pt.slots] at X3 l3 y3 z3 st3 hQ3
  subst l3 y3 z3
  obtain ⟨rfl, N3q, eh3⟩ := hQ3
  have N3 := Fr.app N2 N3q
  obtain ⟨T4, X4, e4, st4⟩ := getS2 X3 hx hZ hown (host := "") (Or.inl (hw _ (List.mem_of_getElem? (i := 7) rfl))) Via.refl eh3 S_DOUBLE (g := (mkF m 18 #[.val (.int p1), .val (.int p2), .val (.ref (own_pick p1 w_INT w_DOUBLE)), .val (.ref (own_pick p2 w_INT w_DOUBLE)), .val (.ref (own_widest (own_pick p1 w_INT w_DOUBLE) (own_pick p2 w_INT w_DOUBLE) w_INT w_DOUBLE)), .unset, .unset] [(.ref (own_pick p1 w_INT w_DOUBLE))])) rfl (hb hby at_18)
  have pre5 : ∀ t, Steps p.tables e below (T4.setTop (mkF m 21 #[.val (.int p1), .val (.int p2), .val (.ref (own_pick p1 w_INT w_DOUBLE)), .val (.ref (own_pick p2 w_INT w_DOUBLE)), .val (.ref (own_widest (own_pick p1 w_INT w_DOUBLE) (own_pick p2 w_INT w_DOUBLE) w_INT w_DOUBLE)), .unset, .unset] [(.ref w_DOUBLE), (.ref (own_pick p1 w_INT w_DOUBLE))])) t → Steps p.tables e below (s₁.setTop (entryFrame m #[(.int p1), (.int p2)] maxLocals)) t := fun t kt => by
    refine pre0 t ?_
    show Steps p.tables e below (s₁.setTop (mkF m 0 #[.val (.int p1), .val (.int p2), .unset, .unset, .unset, .unset, .unset] [])) _
    refine XS.iloadN X0.here hx rfl (hb hby at_0) rfl ?_
    show Steps p.tables e below (s₁.setTop (mkF m 1 #[.val (.int p1), .val (.int p2), .unset, .unset, .unset, .unset, .unset] [(.int p1)])) _
    refine st1 _ ?_
    show Steps p.tables e below (T1.setTop (mkF m 4 #[.val (.int p1), .val (.int p2), .unset, .unset, .unset, .unset, .unset] [(.ref (own_pick p1 w_INT w_DOUBLE))])) _
    refine XS.astoreN X1.here hx rfl (hb hby at_4) rfl rfl (l' := #[.val (.int p1), .val (.int p2), .val (.ref (own_pick p1 w_INT w_DOUBLE)), .unset, .unset, .unset, .unset]) rfl ?_
    show Steps p.tables e below (T1.setTop (mkF m 5 #[.val (.int p1), .val (.int p2), .val (.ref (own_pick p1 w_INT w_DOUBLE)), .unset, .unset, .unset, .unset] [])) _
    refine XS.iloadN X1.here hx rfl (hb hby at_5) rfl ?_
    show Steps p.tables e below (T1.setTop (mkF m 6 #[.val (.int p1), .val (.int p2), .val (.ref (own_pick p1 w_INT w_DOUBLE)), .unset, .unset, .unset, .unset] [(.int p2)])) _
    refine st2 _ ?_
    show Steps p.tables e below (T2.setTop (mkF m 9 #[.val (.int p1), .val (.int p2), .val (.ref (own_pick p1 w_INT w_DOUBLE)), .unset, .unset, .unset, .unset] [(.ref (own_pick p2 w_INT w_DOUBLE))])) _
    refine XS.astoreN X2.here hx rfl (hb hby at_9) rfl rfl (l' := #[.val (.int p1), .val (.int p2), .val (.ref (own_pick p1 w_INT w_DOUBLE)), .val (.ref (own_pick p2 w_INT w_DOUBLE)), .unset, .unset, .unset]) rfl ?_
    show Steps p.tables e below (T2.setTop (mkF m 10 #[.val (.int p1), .val (.int p2), .val (.ref (own_pick p1 w_INT w_DOUBLE)), .val (.ref (own_pick p2 w_INT w_DOUBLE)), .unset, .unset, .unset] [])) _
    refine XS.aloadN X2.here hx rfl (hb hby at_10) rfl rfl ?_
    show Steps p.tables e below (T2.setTop (mkF m 11 #[.val (.int p1), .val (.int p2), .val (.ref (own_pick p1 w_INT w_DOUBLE)), .val (.ref (own_pick p2 w_INT w_DOUBLE)), .unset, .unset, .unset] [(.ref (own_pick p1 w_INT w_DOUBLE))])) _
    refine XS.aloadN X2.here hx rfl (hb hby at_11) rfl rfl ?_
    show Steps p.tables e below (T2.setTop (mkF m 12 #[.val (.int p1), .val (.int p2), .val (.ref (own_pick p1 w_INT w_DOUBLE)), .val (.ref (own_pick p2 w_INT w_DOUBLE)), .unset, .unset, .unset] [(.ref (own_pick p2 w_INT w_DOUBLE)), (.ref (own_pick p1 w_INT w_DOUBLE))])) _
    refine st3 _ ?_
    show Steps p.tables e below (T3.setTop (mkF m 15 #[.val (.int p1), .val (.int p2), .val (.ref (own_pick p1 w_INT w_DOUBLE)), .val (.ref (own_pick p2 w_INT w_DOUBLE)), .unset, .unset, .unset] [(.ref (own_widest (own_pick p1 w_INT w_DOUBLE) (own_pick p2 w_INT w_DOUBLE) w_INT w_DOUBLE))])) _
    refine XS.astore X3.here hx rfl (hb hby at_15) rfl rfl (l' := #[.val (.int p1), .val (.int p2), .val (.ref (own_pick p1 w_INT w_DOUBLE)), .val (.ref (own_pick p2 w_INT w_DOUBLE)), .val (.ref (own_widest (own_pick p1 w_INT w_DOUBLE) (own_pick p2 w_INT w_DOUBLE) w_INT w_DOUBLE)), .unset, .unset]) rfl ?_
    show Steps p.tables e below (T3.setTop (mkF m 17 #[.val (.int p1), .val (.int p2), .val (.ref (own_pick p1 w_INT w_DOUBLE)), .val (.ref (own_pick p2 w_INT w_DOUBLE)), .val (.ref (own_widest (own_pick p1 w_INT w_DOUBLE) (own_pick p2 w_INT w_DOUBLE) w_INT w_DOUBLE)), .unset, .unset] [])) _
    refine XS.aloadN X3.here hx rfl (hb hby at_17) rfl rfl ?_
    show Steps p.tables e below (T3.setTop (mkF m 18 #[.val (.int p1), .val (.int p2), .val (.ref (own_pick p1 w_INT w_DOUBLE)), .val (.ref (own_pick p2 w_INT w_DOUBLE)), .val (.ref (own_widest (own_pick p1 w_INT w_DOUBLE) (own_pick p2 w_INT w_DOUBLE) w_INT w_DOUBLE)), .unset, .unset] [(.ref (own_pick p1 w_INT w_DOUBLE))])) _
    refine st4 _ ?_
    exact kt
  by_cases hc21_6 : (own_pick p1 w_INT w_DOUBLE) = w_DOUBLE
  · obtain ⟨T7, X7, e7, st7⟩ := getS2 X4 hx hZ hown (host := "") (Or.inl (hw _ (List.mem_of_getElem? (i := 7) rfl))) Via.refl e4 S_DOUBLE (g := (mkF m 31 #[.val (.int p1), .val (.int p2), .val (.ref (own_pick p1 w_INT w_DOUBLE)), .val (.ref (own_pick p2 w_INT w_DOUBLE)), .val (.ref (own_widest (own_pick p1 w_INT w_DOUBLE) (own_pick p2 w_INT w_DOUBLE) w_INT w_DOUBLE)), .unset, .unset] [])) rfl (hb hby at_31)
    obtain ⟨_, _, ⟨T8, L8, k8, n8⟩, -, X8, ⟨Lc8, hQ8, l8, y8, z8⟩, st8⟩ := Jvm.LawKit.callS X7 hx (y := (⟨"com/example/vole/vole/model/Type", "widest", "(Lcom/example/vole/vole/model/Type;Lcom/example/vole/vole/model/Type;)Lcom/example/vole/vole/model/Type;"⟩ : MethodName)) hown (mvT hZ (hw _ (List.mem_of_getElem? (i := 9) rfl))) (mvT hZ (hw _ (List.mem_of_getElem? (i := 10) rfl))) (mvT hZ (hw _ (List.mem_of_getElem? (i := 5) rfl))) (mvT hZ (hw _ (List.mem_of_getElem? (i := 11) rfl))) (by decide) (backOf (W := 0) (rmW l Z a0 hw [] (own_pick p2 w_INT w_DOUBLE) (own_pick p1 w_INT w_DOUBLE) w_INT w_DOUBLE h0 n0 Z0 S_INT S_DOUBLE) hZ (hw _ (List.mem_of_getElem? (i := 11) rfl)) (hw _ (List.mem_of_getElem? (i := 5) rfl)) (by decide) (by decide)) (g := (mkF m 46 #[.val (.int p1), .val (.int p2), .val (.ref (own_pick p1 w_INT w_DOUBLE)), .val (.ref (own_pick p2 w_INT w_DOUBLE)), .val (.ref (own_widest (own_pick p1 w_INT w_DOUBLE) (own_pick p2 w_INT w_DOUBLE) w_INT w_DOUBLE)), .val (.ref w_DOUBLE), .unset] [(.ref (own_pick p1 w_INT w_DOUBLE)), (.ref (own_pick p2 w_INT w_DOUBLE))])) rfl (by rw [hml]; rfl) (argsL := [(.ref (own_pick p2 w_INT w_DOUBLE)), (.ref (own_pick p1 w_INT w_DOUBLE))]) (rest := []) (lenOf pd0_1 rfl) rfl (by show 2 * 0 + _ ≤ _; exact Nat.le_of_eq rfl) (hb hby at_46) (fun _ _ => ⟨rfl, e7, (by decide : 0 + 0 ≤ _), (by decide : 0 + 0 ≤ _)⟩)
    dsimp only [Pt.U, Pt.locs, Pt.cells, Pt.slots] at X8 l8 y8 z8 st8 hQ8
    subst l8 y8 z8
    obtain ⟨rfl, N8q, eh8⟩ := hQ8
    have N8 := Fr.app N3 N8q
    obtain ⟨cq9, kq9, q9a, q9b, q9c⟩ := isOf hZ eh8 ((own_wide_or (own_pick p1 w_INT w_DOUBLE) (own_pick p2 w_INT w_DOUBLE) w_INT w_DOUBLE).elim (fun q => by rw [q]; exact E_INT) (fun q => by rw [q]; exact E_DOUBLE) : Exa Z h0 (own_widest (own_pick p1 w_INT w_DOUBLE) (own_pick p2 w_INT w_DOUBLE) w_INT w_DOUBLE) "com/example/vole/vole/model/Type")
    obtain ⟨_, _, ⟨T9, L9, k9, n9⟩, -, X9, ⟨Lc9, hQ9, l9, y9, z9⟩, st9⟩ := X8.virtualBack hx (y := (⟨"com/example/vole/vole/model/Type", "isNumeric", "()Z"⟩ : MethodName)) (z := (⟨"com/example/vole/vole/model/Type", "isNumeric", "()Z"⟩ : MethodName)) hown (mvT hZ (hw _ (List.mem_of_getElem? (i := 14) rfl))) (mvT hZ (hw _ (List.mem_of_getElem? (i := 15) rfl))) (notFace_of_selects (args := #[]) (mvT hZ (hw _ (List.mem_of_getElem? (i := 17) rfl)))) (mvT hZ (hw _ (List.mem_of_getElem? (i := 17) rfl))) (mvT hZ (hw _ (List.mem_of_getElem? (i := 16) rfl))) (by decide) (backOf (W := 0) (rmN l Z a0 hw [] (own_widest (own_pick p1 w_INT w_DOUBLE) (own_pick p2 w_INT w_DOUBLE) w_INT w_DOUBLE) w_BOOL h0 n0 Z0 S_BOOL) hZ (hw _ (List.mem_of_getElem? (i := 18) rfl)) (hw _ (List.mem_of_getElem? (i := 5) rfl)) (by decide) (by decide)) q9a q9c (g := (mkF m 67 #[.val (.int p1), .val (.int p2), .val (.ref (own_pick p1 w_INT w_DOUBLE)), .val (.ref (own_pick p2 w_INT w_DOUBLE)), .val (.ref (own_widest (own_pick p1 w_INT w_DOUBLE) (own_pick p2 w_INT w_DOUBLE) w_INT w_DOUBLE)), .val (.ref w_DOUBLE), .val (.ref (own_widest (own_pick p2 w_INT w_DOUBLE) (own_pick p1 w_INT w_DOUBLE) w_INT w_DOUBLE))] [(.ref (own_widest (own_pick p1 w_INT w_DOUBLE) (own_pick p2 w_INT w_DOUBLE) w_INT w_DOUBLE))])) rfl (by rw [hml]; rfl) (Steps.refl _) (argsL := []) (rest := []) (lenOf pd0_2 rfl) rfl (by show 2 * 0 + _ ≤ _; exact Nat.le_of_eq rfl) (hb hby at_67) (fun _ _ => ⟨rfl, eh8, (by decide : 0 + 0 ≤ _), (by decide : 0 + 0 ≤ _)⟩)
    dsimp only [Pt.U, Pt.locs, Pt.cells, Pt.slots] at X9 l9 y9 z9 st9 hQ9
    subst l9 y9 z9
    obtain ⟨rfl, N9q, eh9⟩ := hQ9
    have N9 := Fr.app N8 N9q
    obtain ⟨fs, hr, hrun, hended, hW, hsame⟩ := X9.leave (v := some (.int (1 : Int32))) (fun h => by rw [Bd.returns] at h; cases h)
    refine ⟨_, _, pre5 _ ?_, hrun, hended, _, _, rfl, ?_, ⟨_, rfl⟩, hW, hsame.mono (by decide) (by decide)⟩
    · show Steps p.tables e below (T4.setTop (mkF m 21 #[.val (.int p1), .val (.int p2), .val (.ref (own_pick p1 w_INT w_DOUBLE)), .val (.ref (own_pick p2 w_INT w_DOUBLE)), .val (.ref (own_widest (own_pick p1 w_INT w_DOUBLE) (own_pick p2 w_INT w_DOUBLE) w_INT w_DOUBLE)), .unset, .unset] [(.ref w_DOUBLE), (.ref (own_pick p1 w_INT w_DOUBLE))])) _
      refine Jvm.RoadKit.acmp (g := (mkF m 21 #[.val (.int p1), .val (.int p2), .val (.ref (own_pick p1 w_INT w_DOUBLE)), .val (.ref (own_pick p2 w_INT w_DOUBLE)), .val (.ref (own_widest (own_pick p1 w_INT w_DOUBLE) (own_pick p2 w_INT w_DOUBLE) w_INT w_DOUBLE)), .unset, .unset] [(.ref w_DOUBLE), (.ref (own_pick p1 w_INT w_DOUBLE))])) X4 hx rfl rfl rfl (pc0 := 21) (pc' := 31) (same := true) rfl (hb hby at_21) rfl (decide_eq_true (congrArg Value.ref hc21_6)) (by decide) (by decide) ?_
      show Steps p.tables e below (T4.setTop (mkF m 31 #[.val (.int p1), .val (.int p2), .val (.ref (own_pick p1 w_INT w_DOUBLE)), .val (.ref (own_pick p2 w_INT w_DOUBLE)), .val (.ref (own_widest (own_pick p1 w_INT w_DOUBLE) (own_pick p2 w_INT w_DOUBLE) w_INT w_DOUBLE)), .unset, .unset] [])) _
      refine st7 _ ?_
      show Steps p.tables e below (T7.setTop (mkF m 34 #[.val (.int p1), .val (.int p2), .val (.ref (own_pick p1 w_INT w_DOUBLE)), .val (.ref (own_pick p2 w_INT w_DOUBLE)), .val (.ref (own_widest (own_pick p1 w_INT w_DOUBLE) (own_pick p2 w_INT w_DOUBLE) w_INT w_DOUBLE)), .unset, .unset] [(.ref w_DOUBLE)])) _
      refine XS.astore X7.here hx rfl (hb hby at_34) rfl rfl (l' := #[.val (.int p1), .val (.int p2), .val (.ref (own_pick p1 w_INT w_DOUBLE)), .val (.ref (own_pick p2 w_INT w_DOUBLE)), .val (.ref (own_widest (own_pick p1 w_INT w_DOUBLE) (own_pick p2 w_INT w_DOUBLE) w_INT w_DOUBLE)), .val (.ref w_DOUBLE), .unset]) rfl ?_
      show Steps p.tables e below (T7.setTop (mkF m 36 #[.val (.int p1), .val (.int p2), .val (.ref (own_pick p1 w_INT w_DOUBLE)), .val (.ref (own_pick p2 w_INT w_DOUBLE)), .val (.ref (own_widest (own_pick p1 w_INT w_DOUBLE) (own_pick p2 w_INT w_DOUBLE) w_INT w_DOUBLE)), .val (.ref w_DOUBLE), .unset] [])) _
      refine XS.goto X7.here hx rfl (pc0 := 36) (pc' := 44) rfl (hb hby at_36) (by decide) (by decide) ?_
      show Steps p.tables e below (T7.setTop (mkF m 44 #[.val (.int p1), .val (.int p2), .val (.ref (own_pick p1 w_INT w_DOUBLE)), .val (.ref (own_pick p2 w_INT w_DOUBLE)), .val (.ref (own_widest (own_pick p1 w_INT w_DOUBLE) (own_pick p2 w_INT w_DOUBLE) w_INT w_DOUBLE)), .val (.ref w_DOUBLE), .unset] [])) _
      refine XS.aloadN X7.here hx rfl (hb hby at_44) rfl rfl ?_
      show Steps p.tables e below (T7.setTop (mkF m 45 #[.val (.int p1), .val (.int p2), .val (.ref (own_pick p1 w_INT w_DOUBLE)), .val (.ref (own_pick p2 w_INT w_DOUBLE)), .val (.ref (own_widest (own_pick p1 w_INT w_DOUBLE) (own_pick p2 w_INT w_DOUBLE) w_INT w_DOUBLE)), .val (.ref w_DOUBLE), .unset] [(.ref (own_pick p2 w_INT w_DOUBLE))])) _
      refine XS.aloadN X7.here hx rfl (hb hby at_45) rfl rfl ?_
      show Steps p.tables e below (T7.setTop (mkF m 46 #[.val (.int p1), .val (.int p2), .val (.ref (own_pick p1 w_INT w_DOUBLE)), .val (.ref (own_pick p2 w_INT w_DOUBLE)), .val (.ref (own_widest (own_pick p1 w_INT w_DOUBLE) (own_pick p2 w_INT w_DOUBLE) w_INT w_DOUBLE)), .val (.ref w_DOUBLE), .unset] [(.ref (own_pick p1 w_INT w_DOUBLE)), (.ref (own_pick p2 w_INT w_DOUBLE))])) _
      refine st8 _ ?_
      show Steps p.tables e below (T8.setTop (mkF m 49 #[.val (.int p1), .val (.int p2), .val (.ref (own_pick p1 w_INT w_DOUBLE)), .val (.ref (own_pick p2 w_INT w_DOUBLE)), .val (.ref (own_widest (own_pick p1 w_INT w_DOUBLE) (own_pick p2 w_INT w_DOUBLE) w_INT w_DOUBLE)), .val (.ref w_DOUBLE), .unset] [(.ref (own_widest (own_pick p2 w_INT w_DOUBLE) (own_pick p1 w_INT w_DOUBLE) w_INT w_DOUBLE))])) _
      refine XS.astore X8.here hx rfl (hb hby at_49) rfl rfl (l' := #[.val (.int p1), .val (.int p2), .val (.ref (own_pick p1 w_INT w_DOUBLE)), .val (.ref (own_pick p2 w_INT w_DOUBLE)), .val (.ref (own_widest (own_pick p1 w_INT w_DOUBLE) (own_pick p2 w_INT w_DOUBLE) w_INT w_DOUBLE)), .val (.ref w_DOUBLE), .val (.ref (own_widest (own_pick p2 w_INT w_DOUBLE) (own_pick p1 w_INT w_DOUBLE) w_INT w_DOUBLE))]) rfl ?_
      show Steps p.tables e below (T8.setTop (mkF m 51 #[.val (.int p1), .val (.int p2), .val (.ref (own_pick p1 w_INT w_DOUBLE)), .val (.ref (own_pick p2 w_INT w_DOUBLE)), .val (.ref (own_widest (own_pick p1 w_INT w_DOUBLE) (own_pick p2 w_INT w_DOUBLE) w_INT w_DOUBLE)), .val (.ref w_DOUBLE), .val (.ref (own_widest (own_pick p2 w_INT w_DOUBLE) (own_pick p1 w_INT w_DOUBLE) w_INT w_DOUBLE))] [])) _
      refine XS.aload X8.here hx rfl (hb hby at_51) rfl rfl ?_
      show Steps p.tables e below (T8.setTop (mkF m 53 #[.val (.int p1), .val (.int p2), .val (.ref (own_pick p1 w_INT w_DOUBLE)), .val (.ref (own_pick p2 w_INT w_DOUBLE)), .val (.ref (own_widest (own_pick p1 w_INT w_DOUBLE) (own_pick p2 w_INT w_DOUBLE) w_INT w_DOUBLE)), .val (.ref w_DOUBLE), .val (.ref (own_widest (own_pick p2 w_INT w_DOUBLE) (own_pick p1 w_INT w_DOUBLE) w_INT w_DOUBLE))] [(.ref (own_widest (own_pick p1 w_INT w_DOUBLE) (own_pick p2 w_INT w_DOUBLE) w_INT w_DOUBLE))])) _
      refine XS.aload X8.here hx rfl (hb hby at_53) rfl rfl ?_
      show Steps p.tables e below (T8.setTop (mkF m 55 #[.val (.int p1), .val (.int p2), .val (.ref (own_pick p1 w_INT w_DOUBLE)), .val (.ref (own_pick p2 w_INT w_DOUBLE)), .val (.ref (own_widest (own_pick p1 w_INT w_DOUBLE) (own_pick p2 w_INT w_DOUBLE) w_INT w_DOUBLE)), .val (.ref w_DOUBLE), .val (.ref (own_widest (own_pick p2 w_INT w_DOUBLE) (own_pick p1 w_INT w_DOUBLE) w_INT w_DOUBLE))] [(.ref w_DOUBLE), (.ref (own_widest (own_pick p1 w_INT w_DOUBLE) (own_pick p2 w_INT w_DOUBLE) w_INT w_DOUBLE))])) _
      refine Jvm.RoadKit.acmp (g := (mkF m 55 #[.val (.int p1), .val (.int p2), .val (.ref (own_pick p1 w_INT w_DOUBLE)), .val (.ref (own_pick p2 w_INT w_DOUBLE)), .val (.ref (own_widest (own_pick p1 w_INT w_DOUBLE) (own_pick p2 w_INT w_DOUBLE) w_INT w_DOUBLE)), .val (.ref w_DOUBLE), .val (.ref (own_widest (own_pick p2 w_INT w_DOUBLE) (own_pick p1 w_INT w_DOUBLE) w_INT w_DOUBLE))] [(.ref w_DOUBLE), (.ref (own_widest (own_pick p1 w_INT w_DOUBLE) (own_pick p2 w_INT w_DOUBLE) w_INT w_DOUBLE))])) X8 hx rfl rfl rfl (pc0 := 55) (pc' := 58) (same := true) rfl (hb hby at_55) rfl (decide_eq_true (congrArg Value.ref (own_wD n_DI (Or.inl hc21_6)))) (by decide) (by decide) ?_
      show Steps p.tables e below (T8.setTop (mkF m 58 #[.val (.int p1), .val (.int p2), .val (.ref (own_pick p1 w_INT w_DOUBLE)), .val (.ref (own_pick p2 w_INT w_DOUBLE)), .val (.ref (own_widest (own_pick p1 w_INT w_DOUBLE) (own_pick p2 w_INT w_DOUBLE) w_INT w_DOUBLE)), .val (.ref w_DOUBLE), .val (.ref (own_widest (own_pick p2 w_INT w_DOUBLE) (own_pick p1 w_INT w_DOUBLE) w_INT w_DOUBLE))] [])) _
      refine XS.aload X8.here hx rfl (hb hby at_58) rfl rfl ?_
      show Steps p.tables e below (T8.setTop (mkF m 60 #[.val (.int p1), .val (.int p2), .val (.ref (own_pick p1 w_INT w_DOUBLE)), .val (.ref (own_pick p2 w_INT w_DOUBLE)), .val (.ref (own_widest (own_pick p1 w_INT w_DOUBLE) (own_pick p2 w_INT w_DOUBLE) w_INT w_DOUBLE)), .val (.ref w_DOUBLE), .val (.ref (own_widest (own_pick p2 w_INT w_DOUBLE) (own_pick p1 w_INT w_DOUBLE) w_INT w_DOUBLE))] [(.ref (own_widest (own_pick p2 w_INT w_DOUBLE) (own_pick p1 w_INT w_DOUBLE) w_INT w_DOUBLE))])) _
      refine XS.aload X8.here hx rfl (hb hby at_60) rfl rfl ?_
      show Steps p.tables e below (T8.setTop (mkF m 62 #[.val (.int p1), .val (.int p2), .val (.ref (own_pick p1 w_INT w_DOUBLE)), .val (.ref (own_pick p2 w_INT w_DOUBLE)), .val (.ref (own_widest (own_pick p1 w_INT w_DOUBLE) (own_pick p2 w_INT w_DOUBLE) w_INT w_DOUBLE)), .val (.ref w_DOUBLE), .val (.ref (own_widest (own_pick p2 w_INT w_DOUBLE) (own_pick p1 w_INT w_DOUBLE) w_INT w_DOUBLE))] [(.ref (own_widest (own_pick p1 w_INT w_DOUBLE) (own_pick p2 w_INT w_DOUBLE) w_INT w_DOUBLE)), (.ref (own_widest (own_pick p2 w_INT w_DOUBLE) (own_pick p1 w_INT w_DOUBLE) w_INT w_DOUBLE))])) _
      refine Jvm.RoadKit.acmp (g := (mkF m 62 #[.val (.int p1), .val (.int p2), .val (.ref (own_pick p1 w_INT w_DOUBLE)), .val (.ref (own_pick p2 w_INT w_DOUBLE)), .val (.ref (own_widest (own_pick p1 w_INT w_DOUBLE) (own_pick p2 w_INT w_DOUBLE) w_INT w_DOUBLE)), .val (.ref w_DOUBLE), .val (.ref (own_widest (own_pick p2 w_INT w_DOUBLE) (own_pick p1 w_INT w_DOUBLE) w_INT w_DOUBLE))] [(.ref (own_widest (own_pick p1 w_INT w_DOUBLE) (own_pick p2 w_INT w_DOUBLE) w_INT w_DOUBLE)), (.ref (own_widest (own_pick p2 w_INT w_DOUBLE) (own_pick p1 w_INT w_DOUBLE) w_INT w_DOUBLE))])) X8 hx rfl rfl rfl (pc0 := 62) (pc' := 65) (same := true) rfl (hb hby at_62) rfl (decide_eq_true (congrArg Value.ref (own_wC (own_pick p1 w_INT w_DOUBLE) (own_pick p2 w_INT w_DOUBLE) w_INT w_DOUBLE))) (by decide) (by decide) ?_
      show Steps p.tables e below (T8.setTop (mkF m 65 #[.val (.int p1), .val (.int p2), .val (.ref (own_pick p1 w_INT w_DOUBLE)), .val (.ref (own_pick p2 w_INT w_DOUBLE)), .val (.ref (own_widest (own_pick p1 w_INT w_DOUBLE) (own_pick p2 w_INT w_DOUBLE) w_INT w_DOUBLE)), .val (.ref w_DOUBLE), .val (.ref (own_widest (own_pick p2 w_INT w_DOUBLE) (own_pick p1 w_INT w_DOUBLE) w_INT w_DOUBLE))] [])) _
      refine XS.aload X8.here hx rfl (hb hby at_65) rfl rfl ?_
      show Steps p.tables e below (T8.setTop (mkF m 67 #[.val (.int p1), .val (.int p2), .val (.ref (own_pick p1 w_INT w_DOUBLE)), .val (.ref (own_pick p2 w_INT w_DOUBLE)), .val (.ref (own_widest (own_pick p1 w_INT w_DOUBLE) (own_pick p2 w_INT w_DOUBLE) w_INT w_DOUBLE)), .val (.ref w_DOUBLE), .val (.ref (own_widest (own_pick p2 w_INT w_DOUBLE) (own_pick p1 w_INT w_DOUBLE) w_INT w_DOUBLE))] [(.ref (own_widest (own_pick p1 w_INT w_DOUBLE) (own_pick p2 w_INT w_DOUBLE) w_INT w_DOUBLE))])) _
      refine st9.trans ?_
      show Steps p.tables e below (T9.setTop (mkF m 70 #[.val (.int p1), .val (.int p2), .val (.ref (own_pick p1 w_INT w_DOUBLE)), .val (.ref (own_pick p2 w_INT w_DOUBLE)), .val (.ref (own_widest (own_pick p1 w_INT w_DOUBLE) (own_pick p2 w_INT w_DOUBLE) w_INT w_DOUBLE)), .val (.ref w_DOUBLE), .val (.ref (own_widest (own_pick p2 w_INT w_DOUBLE) (own_pick p1 w_INT w_DOUBLE) w_INT w_DOUBLE))] [(.int (own_num (own_widest (own_pick p1 w_INT w_DOUBLE) (own_pick p2 w_INT w_DOUBLE) w_INT w_DOUBLE) w_BOOL))])) _
      refine XS.ifNo X9.here hx rfl (hb hby at_70) rfl ((if0 _ _).trans (feq (own_num1 (own_wide_or _ _ _ _) n_IB n_DB)).1) ?_
      show Steps p.tables e below (T9.setTop (mkF m 73 #[.val (.int p1), .val (.int p2), .val (.ref (own_pick p1 w_INT w_DOUBLE)), .val (.ref (own_pick p2 w_INT w_DOUBLE)), .val (.ref (own_widest (own_pick p1 w_INT w_DOUBLE) (own_pick p2 w_INT w_DOUBLE) w_INT w_DOUBLE)), .val (.ref w_DOUBLE), .val (.ref (own_widest (own_pick p2 w_INT w_DOUBLE) (own_pick p1 w_INT w_DOUBLE) w_INT w_DOUBLE))] [])) _
      refine XS.iconst X9.here hx rfl (hb hby at_73) ?_
      show Steps p.tables e below (T9.setTop (mkF m 74 #[.val (.int p1), .val (.int p2), .val (.ref (own_pick p1 w_INT w_DOUBLE)), .val (.ref (own_pick p2 w_INT w_DOUBLE)), .val (.ref (own_widest (own_pick p1 w_INT w_DOUBLE) (own_pick p2 w_INT w_DOUBLE) w_INT w_DOUBLE)), .val (.ref w_DOUBLE), .val (.ref (own_widest (own_pick p2 w_INT w_DOUBLE) (own_pick p1 w_INT w_DOUBLE) w_INT w_DOUBLE))] [(.int (1 : Int32))])) _
      refine XS.goto X9.here hx rfl (pc0 := 74) (pc' := 78) rfl (hb hby at_74) (by decide) (by decide) ?_
      show Steps p.tables e below (T9.setTop (mkF m 78 #[.val (.int p1), .val (.int p2), .val (.ref (own_pick p1 w_INT w_DOUBLE)), .val (.ref (own_pick p2 w_INT w_DOUBLE)), .val (.ref (own_widest (own_pick p1 w_INT w_DOUBLE) (own_pick p2 w_INT w_DOUBLE) w_INT w_DOUBLE)), .val (.ref w_DOUBLE), .val (.ref (own_widest (own_pick p2 w_INT w_DOUBLE) (own_pick p1 w_INT w_DOUBLE) w_INT w_DOUBLE))] [(.int (1 : Int32))])) _
      exact retN X9 hx (t := .boolean) Bd.returns (by simp) (hb hby at_78) hr
    · show Q0 h0 n0 _ T9.heap _
      rw [eh9]
      exact ⟨rfl, N9⟩
  · obtain ⟨T10, X10, e10, st10⟩ := getS2 X4 hx hZ hown (host := "") (Or.inl (hw _ (List.mem_of_getElem? (i := 7) rfl))) Via.refl e4 S_DOUBLE (g := (mkF m 25 #[.val (.int p1), .val (.int p2), .val (.ref (own_pick p1 w_INT w_DOUBLE)), .val (.ref (own_pick p2 w_INT w_DOUBLE)), .val (.ref (own_widest (own_pick p1 w_INT w_DOUBLE) (own_pick p2 w_INT w_DOUBLE) w_INT w_DOUBLE)), .unset, .unset] [(.ref (own_pick p2 w_INT w_DOUBLE))])) rfl (hb hby at_25)
    have pre11 : ∀ t, Steps p.tables e below (T10.setTop (mkF m 28 #[.val (.int p1), .val (.int p2), .val (.ref (own_pick p1 w_INT w_DOUBLE)), .val (.ref (own_pick p2 w_INT w_DOUBLE)), .val (.ref (own_widest (own_pick p1 w_INT w_DOUBLE) (own_pick p2 w_INT w_DOUBLE) w_INT w_DOUBLE)), .unset, .unset] [(.ref w_DOUBLE), (.ref (own_pick p2 w_INT w_DOUBLE))])) t → Steps p.tables e below (s₁.setTop (entryFrame m #[(.int p1), (.int p2)] maxLocals)) t := fun t kt => by
      refine pre5 t ?_
      show Steps p.tables e below (T4.setTop (mkF m 21 #[.val (.int p1), .val (.int p2), .val (.ref (own_pick p1 w_INT w_DOUBLE)), .val (.ref (own_pick p2 w_INT w_DOUBLE)), .val (.ref (own_widest (own_pick p1 w_INT w_DOUBLE) (own_pick p2 w_INT w_DOUBLE) w_INT w_DOUBLE)), .unset, .unset] [(.ref w_DOUBLE), (.ref (own_pick p1 w_INT w_DOUBLE))])) _
      refine Jvm.RoadKit.acmp (g := (mkF m 21 #[.val (.int p1), .val (.int p2), .val (.ref (own_pick p1 w_INT w_DOUBLE)), .val (.ref (own_pick p2 w_INT w_DOUBLE)), .val (.ref (own_widest (own_pick p1 w_INT w_DOUBLE) (own_pick p2 w_INT w_DOUBLE) w_INT w_DOUBLE)), .unset, .unset] [(.ref w_DOUBLE), (.ref (own_pick p1 w_INT w_DOUBLE))])) X4 hx rfl rfl rfl (pc0 := 21) (pc' := 24) (same := false) rfl (hb hby at_21) rfl (decide_eq_false fun q => hc21_6 (Value.ref.inj q)) (by decide) (by decide) ?_
      show Steps p.tables e below (T4.setTop (mkF m 24 #[.val (.int p1), .val (.int p2), .val (.ref (own_pick p1 w_INT w_DOUBLE)), .val (.ref (own_pick p2 w_INT w_DOUBLE)), .val (.ref (own_widest (own_pick p1 w_INT w_DOUBLE) (own_pick p2 w_INT w_DOUBLE) w_INT w_DOUBLE)), .unset, .unset] [])) _
      refine XS.aloadN X4.here hx rfl (hb hby at_24) rfl rfl ?_
      show Steps p.tables e below (T4.setTop (mkF m 25 #[.val (.int p1), .val (.int p2), .val (.ref (own_pick p1 w_INT w_DOUBLE)), .val (.ref (own_pick p2 w_INT w_DOUBLE)), .val (.ref (own_widest (own_pick p1 w_INT w_DOUBLE) (own_pick p2 w_INT w_DOUBLE) w_INT w_DOUBLE)), .unset, .unset] [(.ref (own_pick p2 w_INT w_DOUBLE))])) _
      refine st10 _ ?_
      exact kt
    by_cases hc28_12 : (own_pick p2 w_INT w_DOUBLE) = w_DOUBLE
    · obtain ⟨T13, X13, e13, st13⟩ := getS2 X10 hx hZ hown (host := "") (Or.inl (hw _ (List.mem_of_getElem? (i := 7) rfl))) Via.refl e10 S_DOUBLE (g := (mkF m 31 #[.val (.int p1), .val (.int p2), .val (.ref (own_pick p1 w_INT w_DOUBLE)), .val (.ref (own_pick p2 w_INT w_DOUBLE)), .val (.ref (own_widest (own_pick p1 w_INT w_DOUBLE) (own_pick p2 w_INT w_DOUBLE) w_INT w_DOUBLE)), .unset, .unset] [])) rfl (hb hby at_31)
      obtain ⟨_, _, ⟨T14, L14, k14, n14⟩, -, X14, ⟨Lc14, hQ14, l14, y14, z14⟩, st14⟩ := Jvm.LawKit.callS X13 hx (y := (⟨"com/example/vole/vole/model/Type", "widest", "(Lcom/example/vole/vole/model/Type;Lcom/example/vole/vole/model/Type;)Lcom/example/vole/vole/model/Type;"⟩ : MethodName)) hown (mvT hZ (hw _ (List.mem_of_getElem? (i := 9) rfl))) (mvT hZ (hw _ (List.mem_of_getElem? (i := 10) rfl))) (mvT hZ (hw _ (List.mem_of_getElem? (i := 5) rfl))) (mvT hZ (hw _ (List.mem_of_getElem? (i := 11) rfl))) (by decide) (backOf (W := 0) (rmW l Z a0 hw [] (own_pick p2 w_INT w_DOUBLE) (own_pick p1 w_INT w_DOUBLE) w_INT w_DOUBLE h0 n0 Z0 S_INT S_DOUBLE) hZ (hw _ (List.mem_of_getElem? (i := 11) rfl)) (hw _ (List.mem_of_getElem? (i := 5) rfl)) (by decide) (by decide)) (g := (mkF m 46 #[.val (.int p1), .val (.int p2), .val (.ref (own_pick p1 w_INT w_DOUBLE)), .val (.ref (own_pick p2 w_INT w_DOUBLE)), .val (.ref (own_widest (own_pick p1 w_INT w_DOUBLE) (own_pick p2 w_INT w_DOUBLE) w_INT w_DOUBLE)), .val (.ref w_DOUBLE), .unset] [(.ref (own_pick p1 w_INT w_DOUBLE)), (.ref (own_pick p2 w_INT w_DOUBLE))])) rfl (by rw [hml]; rfl) (argsL := [(.ref (own_pick p2 w_INT w_DOUBLE)), (.ref (own_pick p1 w_INT w_DOUBLE))]) (rest := []) (lenOf pd0_1 rfl) rfl (by show 2 * 0 + _ ≤ _; exact Nat.le_of_eq rfl) (hb hby at_46) (fun _ _ => ⟨rfl, e13, (by decide : 0 + 0 ≤ _), (by decide : 0 + 0 ≤ _)⟩)
      dsimp only [Pt.U, Pt.locs, Pt.cells, Pt.slots] at X14 l14 y14 z14 st14 hQ14
      subst l14 y14 z14
      obtain ⟨rfl, N14q, eh14⟩ := hQ14
      have N14 := Fr.app N3 N14q
      obtain ⟨cq15, kq15, q15a, q15b, q15c⟩ := isOf hZ eh14 ((own_wide_or (own_pick p1 w_INT w_DOUBLE) (own_pick p2 w_INT w_DOUBLE) w_INT w_DOUBLE).elim (fun q => by rw [q]; exact E_INT) (fun q => by rw [q]; exact E_DOUBLE) : Exa Z h0 (own_widest (own_pick p1 w_INT w_DOUBLE) (own_pick p2 w_INT w_DOUBLE) w_INT w_DOUBLE) "com/example/vole/vole/model/Type")
      obtain ⟨_, _, ⟨T15, L15, k15, n15⟩, -, X15, ⟨Lc15, hQ15, l15, y15, z15⟩, st15⟩ := X14.virtualBack hx (y := (⟨"com/example/vole/vole/model/Type", "isNumeric", "()Z"⟩ : MethodName)) (z := (⟨"com/example/vole/vole/model/Type", "isNumeric", "()Z"⟩ : MethodName)) hown (mvT hZ (hw _ (List.mem_of_getElem? (i := 14) rfl))) (mvT hZ (hw _ (List.mem_of_getElem? (i := 15) rfl))) (notFace_of_selects (args := #[]) (mvT hZ (hw _ (List.mem_of_getElem? (i := 17) rfl)))) (mvT hZ (hw _ (List.mem_of_getElem? (i := 17) rfl))) (mvT hZ (hw _ (List.mem_of_getElem? (i := 16) rfl))) (by decide) (backOf (W := 0) (rmN l Z a0 hw [] (own_widest (own_pick p1 w_INT w_DOUBLE) (own_pick p2 w_INT w_DOUBLE) w_INT w_DOUBLE) w_BOOL h0 n0 Z0 S_BOOL) hZ (hw _ (List.mem_of_getElem? (i := 18) rfl)) (hw _ (List.mem_of_getElem? (i := 5) rfl)) (by decide) (by decide)) q15a q15c (g := (mkF m 67 #[.val (.int p1), .val (.int p2), .val (.ref (own_pick p1 w_INT w_DOUBLE)), .val (.ref (own_pick p2 w_INT w_DOUBLE)), .val (.ref (own_widest (own_pick p1 w_INT w_DOUBLE) (own_pick p2 w_INT w_DOUBLE) w_INT w_DOUBLE)), .val (.ref w_DOUBLE), .val (.ref (own_widest (own_pick p2 w_INT w_DOUBLE) (own_pick p1 w_INT w_DOUBLE) w_INT w_DOUBLE))] [(.ref (own_widest (own_pick p1 w_INT w_DOUBLE) (own_pick p2 w_INT w_DOUBLE) w_INT w_DOUBLE))])) rfl (by rw [hml]; rfl) (Steps.refl _) (argsL := []) (rest := []) (lenOf pd0_2 rfl) rfl (by show 2 * 0 + _ ≤ _; exact Nat.le_of_eq rfl) (hb hby at_67) (fun _ _ => ⟨rfl, eh14, (by decide : 0 + 0 ≤ _), (by decide : 0 + 0 ≤ _)⟩)
      dsimp only [Pt.U, Pt.locs, Pt.cells, Pt.slots] at X15 l15 y15 z15 st15 hQ15
      subst l15 y15 z15
      obtain ⟨rfl, N15q, eh15⟩ := hQ15
      have N15 := Fr.app N14 N15q
      obtain ⟨fs, hr, hrun, hended, hW, hsame⟩ := X15.leave (v := some (.int (1 : Int32))) (fun h => by rw [Bd.returns] at h; cases h)
      refine ⟨_, _, pre11 _ ?_, hrun, hended, _, _, rfl, ?_, ⟨_, rfl⟩, hW, hsame.mono (by decide) (by decide)⟩
      · show Steps p.tables e below (T10.setTop (mkF m 28 #[.val (.int p1), .val (.int p2), .val (.ref (own_pick p1 w_INT w_DOUBLE)), .val (.ref (own_pick p2 w_INT w_DOUBLE)), .val (.ref (own_widest (own_pick p1 w_INT w_DOUBLE) (own_pick p2 w_INT w_DOUBLE) w_INT w_DOUBLE)), .unset, .unset] [(.ref w_DOUBLE), (.ref (own_pick p2 w_INT w_DOUBLE))])) _
        refine Jvm.RoadKit.acmp (g := (mkF m 28 #[.val (.int p1), .val (.int p2), .val (.ref (own_pick p1 w_INT w_DOUBLE)), .val (.ref (own_pick p2 w_INT w_DOUBLE)), .val (.ref (own_widest (own_pick p1 w_INT w_DOUBLE) (own_pick p2 w_INT w_DOUBLE) w_INT w_DOUBLE)), .unset, .unset] [(.ref w_DOUBLE), (.ref (own_pick p2 w_INT w_DOUBLE))])) X10 hx rfl rfl rfl (pc0 := 28) (pc' := 31) (same := true) rfl (hb hby at_28) rfl (decide_eq_true (congrArg Value.ref hc28_12)) (by decide) (by decide) ?_
        show Steps p.tables e below (T10.setTop (mkF m 31 #[.val (.int p1), .val (.int p2), .val (.ref (own_pick p1 w_INT w_DOUBLE)), .val (.ref (own_pick p2 w_INT w_DOUBLE)), .val (.ref (own_widest (own_pick p1 w_INT w_DOUBLE) (own_pick p2 w_INT w_DOUBLE) w_INT w_DOUBLE)), .unset, .unset] [])) _
        refine st13 _ ?_
        show Steps p.tables e below (T13.setTop (mkF m 34 #[.val (.int p1), .val (.int p2), .val (.ref (own_pick p1 w_INT w_DOUBLE)), .val (.ref (own_pick p2 w_INT w_DOUBLE)), .val (.ref (own_widest (own_pick p1 w_INT w_DOUBLE) (own_pick p2 w_INT w_DOUBLE) w_INT w_DOUBLE)), .unset, .unset] [(.ref w_DOUBLE)])) _
        refine XS.astore X13.here hx rfl (hb hby at_34) rfl rfl (l' := #[.val (.int p1), .val (.int p2), .val (.ref (own_pick p1 w_INT w_DOUBLE)), .val (.ref (own_pick p2 w_INT w_DOUBLE)), .val (.ref (own_widest (own_pick p1 w_INT w_DOUBLE) (own_pick p2 w_INT w_DOUBLE) w_INT w_DOUBLE)), .val (.ref w_DOUBLE), .unset]) rfl ?_
        show Steps p.tables e below (T13.setTop (mkF m 36 #[.val (.int p1), .val (.int p2), .val (.ref (own_pick p1 w_INT w_DOUBLE)), .val (.ref (own_pick p2 w_INT w_DOUBLE)), .val (.ref (own_widest (own_pick p1 w_INT w_DOUBLE) (own_pick p2 w_INT w_DOUBLE) w_INT w_DOUBLE)), .val (.ref w_DOUBLE), .unset] [])) _
        refine XS.goto X13.here hx rfl (pc0 := 36) (pc' := 44) rfl (hb hby at_36) (by decide) (by decide) ?_
        show Steps p.tables e below (T13.setTop (mkF m 44 #[.val (.int p1), .val (.int p2), .val (.ref (own_pick p1 w_INT w_DOUBLE)), .val (.ref (own_pick p2 w_INT w_DOUBLE)), .val (.ref (own_widest (own_pick p1 w_INT w_DOUBLE) (own_pick p2 w_INT w_DOUBLE) w_INT w_DOUBLE)), .val (.ref w_DOUBLE), .unset] [])) _
        refine XS.aloadN X13.here hx rfl (hb hby at_44) rfl rfl ?_
        show Steps p.tables e below (T13.setTop (mkF m 45 #[.val (.int p1), .val (.int p2), .val (.ref (own_pick p1 w_INT w_DOUBLE)), .val (.ref (own_pick p2 w_INT w_DOUBLE)), .val (.ref (own_widest (own_pick p1 w_INT w_DOUBLE) (own_pick p2 w_INT w_DOUBLE) w_INT w_DOUBLE)), .val (.ref w_DOUBLE), .unset] [(.ref (own_pick p2 w_INT w_DOUBLE))])) _
        refine XS.aloadN X13.here hx rfl (hb hby at_45) rfl rfl ?_
        show Steps p.tables e below (T13.setTop (mkF m 46 #[.val (.int p1), .val (.int p2), .val (.ref (own_pick p1 w_INT w_DOUBLE)), .val (.ref (own_pick p2 w_INT w_DOUBLE)), .val (.ref (own_widest (own_pick p1 w_INT w_DOUBLE) (own_pick p2 w_INT w_DOUBLE) w_INT w_DOUBLE)), .val (.ref w_DOUBLE), .unset] [(.ref (own_pick p1 w_INT w_DOUBLE)), (.ref (own_pick p2 w_INT w_DOUBLE))])) _
        refine st14 _ ?_
        show Steps p.tables e below (T14.setTop (mkF m 49 #[.val (.int p1), .val (.int p2), .val (.ref (own_pick p1 w_INT w_DOUBLE)), .val (.ref (own_pick p2 w_INT w_DOUBLE)), .val (.ref (own_widest (own_pick p1 w_INT w_DOUBLE) (own_pick p2 w_INT w_DOUBLE) w_INT w_DOUBLE)), .val (.ref w_DOUBLE), .unset] [(.ref (own_widest (own_pick p2 w_INT w_DOUBLE) (own_pick p1 w_INT w_DOUBLE) w_INT w_DOUBLE))])) _
        refine XS.astore X14.here hx rfl (hb hby at_49) rfl rfl (l' := #[.val (.int p1), .val (.int p2), .val (.ref (own_pick p1 w_INT w_DOUBLE)), .val (.ref (own_pick p2 w_INT w_DOUBLE)), .val (.ref (own_widest (own_pick p1 w_INT w_DOUBLE) (own_pick p2 w_INT w_DOUBLE) w_INT w_DOUBLE)), .val (.ref w_DOUBLE), .val (.ref (own_widest (own_pick p2 w_INT w_DOUBLE) (own_pick p1 w_INT w_DOUBLE) w_INT w_DOUBLE))]) rfl ?_
        show Steps p.tables e below (T14.setTop (mkF m 51 #[.val (.int p1), .val (.int p2), .val (.ref (own_pick p1 w_INT w_DOUBLE)), .val (.ref (own_pick p2 w_INT w_DOUBLE)), .val (.ref (own_widest (own_pick p1 w_INT w_DOUBLE) (own_pick p2 w_INT w_DOUBLE) w_INT w_DOUBLE)), .val (.ref w_DOUBLE), .val (.ref (own_widest (own_pick p2 w_INT w_DOUBLE) (own_pick p1 w_INT w_DOUBLE) w_INT w_DOUBLE))] [])) _
        refine XS.aload X14.here hx rfl (hb hby at_51) rfl rfl ?_
        show Steps p.tables e below (T14.setTop (mkF m 53 #[.val (.int p1), .val (.int p2), .val (.ref (own_pick p1 w_INT w_DOUBLE)), .val (.ref (own_pick p2 w_INT w_DOUBLE)), .val (.ref (own_widest (own_pick p1 w_INT w_DOUBLE) (own_pick p2 w_INT w_DOUBLE) w_INT w_DOUBLE)), .val (.ref w_DOUBLE), .val (.ref (own_widest (own_pick p2 w_INT w_DOUBLE) (own_pick p1 w_INT w_DOUBLE) w_INT w_DOUBLE))] [(.ref (own_widest (own_pick p1 w_INT w_DOUBLE) (own_pick p2 w_INT w_DOUBLE) w_INT w_DOUBLE))])) _
        refine XS.aload X14.here hx rfl (hb hby at_53) rfl rfl ?_
        show Steps p.tables e below (T14.setTop (mkF m 55 #[.val (.int p1), .val (.int p2), .val (.ref (own_pick p1 w_INT w_DOUBLE)), .val (.ref (own_pick p2 w_INT w_DOUBLE)), .val (.ref (own_widest (own_pick p1 w_INT w_DOUBLE) (own_pick p2 w_INT w_DOUBLE) w_INT w_DOUBLE)), .val (.ref w_DOUBLE), .val (.ref (own_widest (own_pick p2 w_INT w_DOUBLE) (own_pick p1 w_INT w_DOUBLE) w_INT w_DOUBLE))] [(.ref w_DOUBLE), (.ref (own_widest (own_pick p1 w_INT w_DOUBLE) (own_pick p2 w_INT w_DOUBLE) w_INT w_DOUBLE))])) _
        refine Jvm.RoadKit.acmp (g := (mkF m 55 #[.val (.int p1), .val (.int p2), .val (.ref (own_pick p1 w_INT w_DOUBLE)), .val (.ref (own_pick p2 w_INT w_DOUBLE)), .val (.ref (own_widest (own_pick p1 w_INT w_DOUBLE) (own_pick p2 w_INT w_DOUBLE) w_INT w_DOUBLE)), .val (.ref w_DOUBLE), .val (.ref (own_widest (own_pick p2 w_INT w_DOUBLE) (own_pick p1 w_INT w_DOUBLE) w_INT w_DOUBLE))] [(.ref w_DOUBLE), (.ref (own_widest (own_pick p1 w_INT w_DOUBLE) (own_pick p2 w_INT w_DOUBLE) w_INT w_DOUBLE))])) X14 hx rfl rfl rfl (pc0 := 55) (pc' := 58) (same := true) rfl (hb hby at_55) rfl (decide_eq_true (congrArg Value.ref (own_wD n_DI (Or.inr hc28_12)))) (by decide) (by decide) ?_
        show Steps p.tables e below (T14.setTop (mkF m 58 #[.val (.int p1), .val (.int p2), .val (.ref (own_pick p1 w_INT w_DOUBLE)), .val (.ref (own_pick p2 w_INT w_DOUBLE)), .val (.ref (own_widest (own_pick p1 w_INT w_DOUBLE) (own_pick p2 w_INT w_DOUBLE) w_INT w_DOUBLE)), .val (.ref w_DOUBLE), .val (.ref (own_widest (own_pick p2 w_INT w_DOUBLE) (own_pick p1 w_INT w_DOUBLE) w_INT w_DOUBLE))] [])) _
        refine XS.aload X14.here hx rfl (hb hby at_58) rfl rfl ?_
        show Steps p.tables e below (T14.setTop (mkF m 60 #[.val (.int p1), .val (.int p2), .val (.ref (own_pick p1 w_INT w_DOUBLE)), .val (.ref (own_pick p2 w_INT w_DOUBLE)), .val (.ref (own_widest (own_pick p1 w_INT w_DOUBLE) (own_pick p2 w_INT w_DOUBLE) w_INT w_DOUBLE)), .val (.ref w_DOUBLE), .val (.ref (own_widest (own_pick p2 w_INT w_DOUBLE) (own_pick p1 w_INT w_DOUBLE) w_INT w_DOUBLE))] [(.ref (own_widest (own_pick p2 w_INT w_DOUBLE) (own_pick p1 w_INT w_DOUBLE) w_INT w_DOUBLE))])) _
        refine XS.aload X14.here hx rfl (hb hby at_60) rfl rfl ?_
        show Steps p.tables e below (T14.setTop (mkF m 62 #[.val (.int p1), .val (.int p2), .val (.ref (own_pick p1 w_INT w_DOUBLE)), .val (.ref (own_pick p2 w_INT w_DOUBLE)), .val (.ref (own_widest (own_pick p1 w_INT w_DOUBLE) (own_pick p2 w_INT w_DOUBLE) w_INT w_DOUBLE)), .val (.ref w_DOUBLE), .val (.ref (own_widest (own_pick p2 w_INT w_DOUBLE) (own_pick p1 w_INT w_DOUBLE) w_INT w_DOUBLE))] [(.ref (own_widest (own_pick p1 w_INT w_DOUBLE) (own_pick p2 w_INT w_DOUBLE) w_INT w_DOUBLE)), (.ref (own_widest (own_pick p2 w_INT w_DOUBLE) (own_pick p1 w_INT w_DOUBLE) w_INT w_DOUBLE))])) _
        refine Jvm.RoadKit.acmp (g := (mkF m 62 #[.val (.int p1), .val (.int p2), .val (.ref (own_pick p1 w_INT w_DOUBLE)), .val (.ref (own_pick p2 w_INT w_DOUBLE)), .val (.ref (own_widest (own_pick p1 w_INT w_DOUBLE) (own_pick p2 w_INT w_DOUBLE) w_INT w_DOUBLE)), .val (.ref w_DOUBLE), .val (.ref (own_widest (own_pick p2 w_INT w_DOUBLE) (own_pick p1 w_INT w_DOUBLE) w_INT w_DOUBLE))] [(.ref (own_widest (own_pick p1 w_INT w_DOUBLE) (own_pick p2 w_INT w_DOUBLE) w_INT w_DOUBLE)), (.ref (own_widest (own_pick p2 w_INT w_DOUBLE) (own_pick p1 w_INT w_DOUBLE) w_INT w_DOUBLE))])) X14 hx rfl rfl rfl (pc0 := 62) (pc' := 65) (same := true) rfl (hb hby at_62) rfl (decide_eq_true (congrArg Value.ref (own_wC (own_pick p1 w_INT w_DOUBLE) (own_pick p2 w_INT w_DOUBLE) w_INT w_DOUBLE))) (by decide) (by decide) ?_
        show Steps p.tables e below (T14.setTop (mkF m 65 #[.val (.int p1), .val (.int p2), .val (.ref (own_pick p1 w_INT w_DOUBLE)), .val (.ref (own_pick p2 w_INT w_DOUBLE)), .val (.ref (own_widest (own_pick p1 w_INT w_DOUBLE) (own_pick p2 w_INT w_DOUBLE) w_INT w_DOUBLE)), .val (.ref w_DOUBLE), .val (.ref (own_widest (own_pick p2 w_INT w_DOUBLE) (own_pick p1 w_INT w_DOUBLE) w_INT w_DOUBLE))] [])) _
        refine XS.aload X14.here hx rfl (hb hby at_65) rfl rfl ?_
        show Steps p.tables e below (T14.setTop (mkF m 67 #[.val (.int p1), .val (.int p2), .val (.ref (own_pick p1 w_INT w_DOUBLE)), .val (.ref (own_pick p2 w_INT w_DOUBLE)), .val (.ref (own_widest (own_pick p1 w_INT w_DOUBLE) (own_pick p2 w_INT w_DOUBLE) w_INT w_DOUBLE)), .val (.ref w_DOUBLE), .val (.ref (own_widest (own_pick p2 w_INT w_DOUBLE) (own_pick p1 w_INT w_DOUBLE) w_INT w_DOUBLE))] [(.ref (own_widest (own_pick p1 w_INT w_DOUBLE) (own_pick p2 w_INT w_DOUBLE) w_INT w_DOUBLE))])) _
        refine st15.trans ?_
        show Steps p.tables e below (T15.setTop (mkF m 70 #[.val (.int p1), .val (.int p2), .val (.ref (own_pick p1 w_INT w_DOUBLE)), .val (.ref (own_pick p2 w_INT w_DOUBLE)), .val (.ref (own_widest (own_pick p1 w_INT w_DOUBLE) (own_pick p2 w_INT w_DOUBLE) w_INT w_DOUBLE)), .val (.ref w_DOUBLE), .val (.ref (own_widest (own_pick p2 w_INT w_DOUBLE) (own_pick p1 w_INT w_DOUBLE) w_INT w_DOUBLE))] [(.int (own_num (own_widest (own_pick p1 w_INT w_DOUBLE) (own_pick p2 w_INT w_DOUBLE) w_INT w_DOUBLE) w_BOOL))])) _
        refine XS.ifNo X15.here hx rfl (hb hby at_70) rfl ((if0 _ _).trans (feq (own_num1 (own_wide_or _ _ _ _) n_IB n_DB)).1) ?_
        show Steps p.tables e below (T15.setTop (mkF m 73 #[.val (.int p1), .val (.int p2), .val (.ref (own_pick p1 w_INT w_DOUBLE)), .val (.ref (own_pick p2 w_INT w_DOUBLE)), .val (.ref (own_widest (own_pick p1 w_INT w_DOUBLE) (own_pick p2 w_INT w_DOUBLE) w_INT w_DOUBLE)), .val (.ref w_DOUBLE), .val (.ref (own_widest (own_pick p2 w_INT w_DOUBLE) (own_pick p1 w_INT w_DOUBLE) w_INT w_DOUBLE))] [])) _
        refine XS.iconst X15.here hx rfl (hb hby at_73) ?_
        show Steps p.tables e below (T15.setTop (mkF m 74 #[.val (.int p1), .val (.int p2), .val (.ref (own_pick p1 w_INT w_DOUBLE)), .val (.ref (own_pick p2 w_INT w_DOUBLE)), .val (.ref (own_widest (own_pick p1 w_INT w_DOUBLE) (own_pick p2 w_INT w_DOUBLE) w_INT w_DOUBLE)), .val (.ref w_DOUBLE), .val (.ref (own_widest (own_pick p2 w_INT w_DOUBLE) (own_pick p1 w_INT w_DOUBLE) w_INT w_DOUBLE))] [(.int (1 : Int32))])) _
        refine XS.goto X15.here hx rfl (pc0 := 74) (pc' := 78) rfl (hb hby at_74) (by decide) (by decide) ?_
        show Steps p.tables e below (T15.setTop (mkF m 78 #[.val (.int p1), .val (.int p2), .val (.ref (own_pick p1 w_INT w_DOUBLE)), .val (.ref (own_pick p2 w_INT w_DOUBLE)), .val (.ref (own_widest (own_pick p1 w_INT w_DOUBLE) (own_pick p2 w_INT w_DOUBLE) w_INT w_DOUBLE)), .val (.ref w_DOUBLE), .val (.ref (own_widest (own_pick p2 w_INT w_DOUBLE) (own_pick p1 w_INT w_DOUBLE) w_INT w_DOUBLE))] [(.int (1 : Int32))])) _
        exact retN X15 hx (t := .boolean) Bd.returns (by simp) (hb hby at_78) hr
      · show Q0 h0 n0 _ T15.heap _
        rw [eh15]
        exact ⟨rfl, N15⟩
    · obtain ⟨T16, X16, e16, st16⟩ := getS2 X10 hx hZ hown (host := "") (Or.inl (hw _ (List.mem_of_getElem? (i := 4) rfl))) Via.refl e10 S_INT (g := (mkF m 39 #[.val (.int p1), .val (.int p2), .val (.ref (own_pick p1 w_INT w_DOUBLE)), .val (.ref (own_pick p2 w_INT w_DOUBLE)), .val (.ref (own_widest (own_pick p1 w_INT w_DOUBLE) (own_pick p2 w_INT w_DOUBLE) w_INT w_DOUBLE)), .unset, .unset] [])) rfl (hb hby at_39)
      obtain ⟨_, _, ⟨T17, L17, k17, n17⟩, -, X17, ⟨Lc17, hQ17, l17, y17, z17⟩, st17⟩ := Jvm.LawKit.callS X16 hx (y := (⟨"com/example/vole/vole/model/Type", "widest", "(Lcom/example/vole/vole/model/Type;Lcom/example/vole/vole/model/Type;)Lcom/example/vole/vole/model/Type;"⟩ : MethodName)) hown (mvT hZ (hw _ (List.mem_of_getElem? (i := 9) rfl))) (mvT hZ (hw _ (List.mem_of_getElem? (i := 10) rfl))) (mvT hZ (hw _ (List.mem_of_getElem? (i := 5) rfl))) (mvT hZ (hw _ (List.mem_of_getElem? (i := 11) rfl))) (by decide) (backOf (W := 0) (rmW l Z a0 hw [] (own_pick p2 w_INT w_DOUBLE) (own_pick p1 w_INT w_DOUBLE) w_INT w_DOUBLE h0 n0 Z0 S_INT S_DOUBLE) hZ (hw _ (List.mem_of_getElem? (i := 11) rfl)) (hw _ (List.mem_of_getElem? (i := 5) rfl)) (by decide) (by decide)) (g := (mkF m 46 #[.val (.int p1), .val (.int p2), .val (.ref (own_pick p1 w_INT w_DOUBLE)), .val (.ref (own_pick p2 w_INT w_DOUBLE)), .val (.ref (own_widest (own_pick p1 w_INT w_DOUBLE) (own_pick p2 w_INT w_DOUBLE) w_INT w_DOUBLE)), .val (.ref w_INT), .unset] [(.ref (own_pick p1 w_INT w_DOUBLE)), (.ref (own_pick p2 w_INT w_DOUBLE))])) rfl (by rw [hml]; rfl) (argsL := [(.ref (own_pick p2 w_INT w_DOUBLE)), (.ref (own_pick p1 w_INT w_DOUBLE))]) (rest := []) (lenOf pd0_1 rfl) rfl (by show 2 * 0 + _ ≤ _; exact Nat.le_of_eq rfl) (hb hby at_46) (fun _ _ => ⟨rfl, e16, (by decide : 0 + 0 ≤ _), (by decide : 0 + 0 ≤ _)⟩)
      dsimp only [Pt.U, Pt.locs, Pt.cells, Pt.slots] at X17 l17 y17 z17 st17 hQ17
      subst l17 y17 z17
      obtain ⟨rfl, N17q, eh17⟩ := hQ17
      have N17 := Fr.app N3 N17q
      obtain ⟨cq18, kq18, q18a, q18b, q18c⟩ := isOf hZ eh17 ((own_wide_or (own_pick p1 w_INT w_DOUBLE) (own_pick p2 w_INT w_DOUBLE) w_INT w_DOUBLE).elim (fun q => by rw [q]; exact E_INT) (fun q => by rw [q]; exact E_DOUBLE) : Exa Z h0 (own_widest (own_pick p1 w_INT w_DOUBLE) (own_pick p2 w_INT w_DOUBLE) w_INT w_DOUBLE) "com/example/vole/vole/model/Type")
      obtain ⟨_, _, ⟨T18, L18, k18, n18⟩, -, X18, ⟨Lc18, hQ18, l18, y18, z18⟩, st18⟩ := X17.virtualBack hx (y := (⟨"com/example/vole/vole/model/Type", "isNumeric", "()Z"⟩ : MethodName)) (z := (⟨"com/example/vole/vole/model/Type", "isNumeric", "()Z"⟩ : MethodName)) hown (mvT hZ (hw _ (List.mem_of_getElem? (i := 14) rfl))) (mvT hZ (hw _ (List.mem_of_getElem? (i := 15) rfl))) (notFace_of_selects (args := #[]) (mvT hZ (hw _ (List.mem_of_getElem? (i := 17) rfl)))) (mvT hZ (hw _ (List.mem_of_getElem? (i := 17) rfl))) (mvT hZ (hw _ (List.mem_of_getElem? (i := 16) rfl))) (by decide) (backOf (W := 0) (rmN l Z a0 hw [] (own_widest (own_pick p1 w_INT w_DOUBLE) (own_pick p2 w_INT w_DOUBLE) w_INT w_DOUBLE) w_BOOL h0 n0 Z0 S_BOOL) hZ (hw _ (List.mem_of_getElem? (i := 18) rfl)) (hw _ (List.mem_of_getElem? (i := 5) rfl)) (by decide) (by decide)) q18a q18c (g := (mkF m 67 #[.val (.int p1), .val (.int p2), .val (.ref (own_pick p1 w_INT w_DOUBLE)), .val (.ref (own_pick p2 w_INT w_DOUBLE)), .val (.ref (own_widest (own_pick p1 w_INT w_DOUBLE) (own_pick p2 w_INT w_DOUBLE) w_INT w_DOUBLE)), .val (.ref w_INT), .val (.ref (own_widest (own_pick p2 w_INT w_DOUBLE) (own_pick p1 w_INT w_DOUBLE) w_INT w_DOUBLE))] [(.ref (own_widest (own_pick p1 w_INT w_DOUBLE) (own_pick p2 w_INT w_DOUBLE) w_INT w_DOUBLE))])) rfl (by rw [hml]; rfl) (Steps.refl _) (argsL := []) (rest := []) (lenOf pd0_2 rfl) rfl (by show 2 * 0 + _ ≤ _; exact Nat.le_of_eq rfl) (hb hby at_67) (fun _ _ => ⟨rfl, eh17, (by decide : 0 + 0 ≤ _), (by decide : 0 + 0 ≤ _)⟩)
      dsimp only [Pt.U, Pt.locs, Pt.cells, Pt.slots] at X18 l18 y18 z18 st18 hQ18
      subst l18 y18 z18
      obtain ⟨rfl, N18q, eh18⟩ := hQ18
      have N18 := Fr.app N17 N18q
      obtain ⟨fs, hr, hrun, hended, hW, hsame⟩ := X18.leave (v := some (.int (1 : Int32))) (fun h => by rw [Bd.returns] at h; cases h)
      refine ⟨_, _, pre11 _ ?_, hrun, hended, _, _, rfl, ?_, ⟨_, rfl⟩, hW, hsame.mono (by decide) (by decide)⟩
      · show Steps p.tables e below (T10.setTop (mkF m 28 #[.val (.int p1), .val (.int p2), .val (.ref (own_pick p1 w_INT w_DOUBLE)), .val (.ref (own_pick p2 w_INT w_DOUBLE)), .val (.ref (own_widest (own_pick p1 w_INT w_DOUBLE) (own_pick p2 w_INT w_DOUBLE) w_INT w_DOUBLE)), .unset, .unset] [(.ref w_DOUBLE), (.ref (own_pick p2 w_INT w_DOUBLE))])) _
        refine Jvm.RoadKit.acmp (g := (mkF m 28 #[.val (.int p1), .val (.int p2), .val (.ref (own_pick p1 w_INT w_DOUBLE)), .val (.ref (own_pick p2 w_INT w_DOUBLE)), .val (.ref (own_widest (own_pick p1 w_INT w_DOUBLE) (own_pick p2 w_INT w_DOUBLE) w_INT w_DOUBLE)), .unset, .unset] [(.ref w_DOUBLE), (.ref (own_pick p2 w_INT w_DOUBLE))])) X10 hx rfl rfl rfl (pc0 := 28) (pc' := 39) (same := false) rfl (hb hby at_28) rfl (decide_eq_false fun q => hc28_12 (Value.ref.inj q)) (by decide) (by decide) ?_
        show Steps p.tables e below (T10.setTop (mkF m 39 #[.val (.int p1), .val (.int p2), .val (.ref (own_pick p1 w_INT w_DOUBLE)), .val (.ref (own_pick p2 w_INT w_DOUBLE)), .val (.ref (own_widest (own_pick p1 w_INT w_DOUBLE) (own_pick p2 w_INT w_DOUBLE) w_INT w_DOUBLE)), .unset, .unset] [])) _
        refine st16 _ ?_
        show Steps p.tables e below (T16.setTop (mkF m 42 #[.val (.int p1), .val (.int p2), .val (.ref (own_pick p1 w_INT w_DOUBLE)), .val (.ref (own_pick p2 w_INT w_DOUBLE)), .val (.ref (own_widest (own_pick p1 w_INT w_DOUBLE) (own_pick p2 w_INT w_DOUBLE) w_INT w_DOUBLE)), .unset, .unset] [(.ref w_INT)])) _
        refine XS.astore X16.here hx rfl (hb hby at_42) rfl rfl (l' := #[.val (.int p1), .val (.int p2), .val (.ref (own_pick p1 w_INT w_DOUBLE)), .val (.ref (own_pick p2 w_INT w_DOUBLE)), .val (.ref (own_widest (own_pick p1 w_INT w_DOUBLE) (own_pick p2 w_INT w_DOUBLE) w_INT w_DOUBLE)), .val (.ref w_INT), .unset]) rfl ?_
        show Steps p.tables e below (T16.setTop (mkF m 44 #[.val (.int p1), .val (.int p2), .val (.ref (own_pick p1 w_INT w_DOUBLE)), .val (.ref (own_pick p2 w_INT w_DOUBLE)), .val (.ref (own_widest (own_pick p1 w_INT w_DOUBLE) (own_pick p2 w_INT w_DOUBLE) w_INT w_DOUBLE)), .val (.ref w_INT), .unset] [])) _
        refine XS.aloadN X16.here hx rfl (hb hby at_44) rfl rfl ?_
        show Steps p.tables e below (T16.setTop (mkF m 45 #[.val (.int p1), .val (.int p2), .val (.ref (own_pick p1 w_INT w_DOUBLE)), .val (.ref (own_pick p2 w_INT w_DOUBLE)), .val (.ref (own_widest (own_pick p1 w_INT w_DOUBLE) (own_pick p2 w_INT w_DOUBLE) w_INT w_DOUBLE)), .val (.ref w_INT), .unset] [(.ref (own_pick p2 w_INT w_DOUBLE))])) _
        refine XS.aloadN X16.here hx rfl (hb hby at_45) rfl rfl ?_
        show Steps p.tables e below (T16.setTop (mkF m 46 #[.val (.int p1), .val (.int p2), .val (.ref (own_pick p1 w_INT w_DOUBLE)), .val (.ref (own_pick p2 w_INT w_DOUBLE)), .val (.ref (own_widest (own_pick p1 w_INT w_DOUBLE) (own_pick p2 w_INT w_DOUBLE) w_INT w_DOUBLE)), .val (.ref w_INT), .unset] [(.ref (own_pick p1 w_INT w_DOUBLE)), (.ref (own_pick p2 w_INT w_DOUBLE))])) _
        refine st17 _ ?_
        show Steps p.tables e below (T17.setTop (mkF m 49 #[.val (.int p1), .val (.int p2), .val (.ref (own_pick p1 w_INT w_DOUBLE)), .val (.ref (own_pick p2 w_INT w_DOUBLE)), .val (.ref (own_widest (own_pick p1 w_INT w_DOUBLE) (own_pick p2 w_INT w_DOUBLE) w_INT w_DOUBLE)), .val (.ref w_INT), .unset] [(.ref (own_widest (own_pick p2 w_INT w_DOUBLE) (own_pick p1 w_INT w_DOUBLE) w_INT w_DOUBLE))])) _
        refine XS.astore X17.here hx rfl (hb hby at_49) rfl rfl (l' := #[.val (.int p1), .val (.int p2), .val (.ref (own_pick p1 w_INT w_DOUBLE)), .val (.ref (own_pick p2 w_INT w_DOUBLE)), .val (.ref (own_widest (own_pick p1 w_INT w_DOUBLE) (own_pick p2 w_INT w_DOUBLE) w_INT w_DOUBLE)), .val (.ref w_INT), .val (.ref (own_widest (own_pick p2 w_INT w_DOUBLE) (own_pick p1 w_INT w_DOUBLE) w_INT w_DOUBLE))]) rfl ?_
        show Steps p.tables e below (T17.setTop (mkF m 51 #[.val (.int p1), .val (.int p2), .val (.ref (own_pick p1 w_INT w_DOUBLE)), .val (.ref (own_pick p2 w_INT w_DOUBLE)), .val (.ref (own_widest (own_pick p1 w_INT w_DOUBLE) (own_pick p2 w_INT w_DOUBLE) w_INT w_DOUBLE)), .val (.ref w_INT), .val (.ref (own_widest (own_pick p2 w_INT w_DOUBLE) (own_pick p1 w_INT w_DOUBLE) w_INT w_DOUBLE))] [])) _
        refine XS.aload X17.here hx rfl (hb hby at_51) rfl rfl ?_
        show Steps p.tables e below (T17.setTop (mkF m 53 #[.val (.int p1), .val (.int p2), .val (.ref (own_pick p1 w_INT w_DOUBLE)), .val (.ref (own_pick p2 w_INT w_DOUBLE)), .val (.ref (own_widest (own_pick p1 w_INT w_DOUBLE) (own_pick p2 w_INT w_DOUBLE) w_INT w_DOUBLE)), .val (.ref w_INT), .val (.ref (own_widest (own_pick p2 w_INT w_DOUBLE) (own_pick p1 w_INT w_DOUBLE) w_INT w_DOUBLE))] [(.ref (own_widest (own_pick p1 w_INT w_DOUBLE) (own_pick p2 w_INT w_DOUBLE) w_INT w_DOUBLE))])) _
        refine XS.aload X17.here hx rfl (hb hby at_53) rfl rfl ?_
        show Steps p.tables e below (T17.setTop (mkF m 55 #[.val (.int p1), .val (.int p2), .val (.ref (own_pick p1 w_INT w_DOUBLE)), .val (.ref (own_pick p2 w_INT w_DOUBLE)), .val (.ref (own_widest (own_pick p1 w_INT w_DOUBLE) (own_pick p2 w_INT w_DOUBLE) w_INT w_DOUBLE)), .val (.ref w_INT), .val (.ref (own_widest (own_pick p2 w_INT w_DOUBLE) (own_pick p1 w_INT w_DOUBLE) w_INT w_DOUBLE))] [(.ref w_INT), (.ref (own_widest (own_pick p1 w_INT w_DOUBLE) (own_pick p2 w_INT w_DOUBLE) w_INT w_DOUBLE))])) _
        refine Jvm.RoadKit.acmp (g := (mkF m 55 #[.val (.int p1), .val (.int p2), .val (.ref (own_pick p1 w_INT w_DOUBLE)), .val (.ref (own_pick p2 w_INT w_DOUBLE)), .val (.ref (own_widest (own_pick p1 w_INT w_DOUBLE) (own_pick p2 w_INT w_DOUBLE) w_INT w_DOUBLE)), .val (.ref w_INT), .val (.ref (own_widest (own_pick p2 w_INT w_DOUBLE) (own_pick p1 w_INT w_DOUBLE) w_INT w_DOUBLE))] [(.ref w_INT), (.ref (own_widest (own_pick p1 w_INT w_DOUBLE) (own_pick p2 w_INT w_DOUBLE) w_INT w_DOUBLE))])) X17 hx rfl rfl rfl (pc0 := 55) (pc' := 58) (same := true) rfl (hb hby at_55) rfl (decide_eq_true (congrArg Value.ref (own_wI (own_pick_or _ _ _) (own_pick_or _ _ _) hc21_6 hc28_12))) (by decide) (by decide) ?_
        show Steps p.tables e below (T17.setTop (mkF m 58 #[.val (.int p1), .val (.int p2), .val (.ref (own_pick p1 w_INT w_DOUBLE)), .val (.ref (own_pick p2 w_INT w_DOUBLE)), .val (.ref (own_widest (own_pick p1 w_INT w_DOUBLE) (own_pick p2 w_INT w_DOUBLE) w_INT w_DOUBLE)), .val (.ref w_INT), .val (.ref (own_widest (own_pick p2 w_INT w_DOUBLE) (own_pick p1 w_INT w_DOUBLE) w_INT w_DOUBLE))] [])) _
        refine XS.aload X17.here hx rfl (hb hby at_58) rfl rfl ?_
        show Steps p.tables e below (T17.setTop (mkF m 60 #[.val (.int p1), .val (.int p2), .val (.ref (own_pick p1 w_INT w_DOUBLE)), .val (.ref (own_pick p2 w_INT w_DOUBLE)), .val (.ref (own_widest (own_pick p1 w_INT w_DOUBLE) (own_pick p2 w_INT w_DOUBLE) w_INT w_DOUBLE)), .val (.ref w_INT), .val (.ref (own_widest (own_pick p2 w_INT w_DOUBLE) (own_pick p1 w_INT w_DOUBLE) w_INT w_DOUBLE))] [(.ref (own_widest (own_pick p2 w_INT w_DOUBLE) (own_pick p1 w_INT w_DOUBLE) w_INT w_DOUBLE))])) _
        refine XS.aload X17.here hx rfl (hb hby at_60) rfl rfl ?_
        show Steps p.tables e below (T17.setTop (mkF m 62 #[.val (.int p1), .val (.int p2), .val (.ref (own_pick p1 w_INT w_DOUBLE)), .val (.ref (own_pick p2 w_INT w_DOUBLE)), .val (.ref (own_widest (own_pick p1 w_INT w_DOUBLE) (own_pick p2 w_INT w_DOUBLE) w_INT w_DOUBLE)), .val (.ref w_INT), .val (.ref (own_widest (own_pick p2 w_INT w_DOUBLE) (own_pick p1 w_INT w_DOUBLE) w_INT w_DOUBLE))] [(.ref (own_widest (own_pick p1 w_INT w_DOUBLE) (own_pick p2 w_INT w_DOUBLE) w_INT w_DOUBLE)), (.ref (own_widest (own_pick p2 w_INT w_DOUBLE) (own_pick p1 w_INT w_DOUBLE) w_INT w_DOUBLE))])) _
        refine Jvm.RoadKit.acmp (g := (mkF m 62 #[.val (.int p1), .val (.int p2), .val (.ref (own_pick p1 w_INT w_DOUBLE)), .val (.ref (own_pick p2 w_INT w_DOUBLE)), .val (.ref (own_widest (own_pick p1 w_INT w_DOUBLE) (own_pick p2 w_INT w_DOUBLE) w_INT w_DOUBLE)), .val (.ref w_INT), .val (.ref (own_widest (own_pick p2 w_INT w_DOUBLE) (own_pick p1 w_INT w_DOUBLE) w_INT w_DOUBLE))] [(.ref (own_widest (own_pick p1 w_INT w_DOUBLE) (own_pick p2 w_INT w_DOUBLE) w_INT w_DOUBLE)), (.ref (own_widest (own_pick p2 w_INT w_DOUBLE) (own_pick p1 w_INT w_DOUBLE) w_INT w_DOUBLE))])) X17 hx rfl rfl rfl (pc0 := 62) (pc' := 65) (same := true) rfl (hb hby at_62) rfl (decide_eq_true (congrArg Value.ref (own_wC (own_pick p1 w_INT w_DOUBLE) (own_pick p2 w_INT w_DOUBLE) w_INT w_DOUBLE))) (by decide) (by decide) ?_
        show Steps p.tables e below (T17.setTop (mkF m 65 #[.val (.int p1), .val (.int p2), .val (.ref (own_pick p1 w_INT w_DOUBLE)), .val (.ref (own_pick p2 w_INT w_DOUBLE)), .val (.ref (own_widest (own_pick p1 w_INT w_DOUBLE) (own_pick p2 w_INT w_DOUBLE) w_INT w_DOUBLE)), .val (.ref w_INT), .val (.ref (own_widest (own_pick p2 w_INT w_DOUBLE) (own_pick p1 w_INT w_DOUBLE) w_INT w_DOUBLE))] [])) _
        refine XS.aload X17.here hx rfl (hb hby at_65) rfl rfl ?_
        show Steps p.tables e below (T17.setTop (mkF m 67 #[.val (.int p1), .val (.int p2), .val (.ref (own_pick p1 w_INT w_DOUBLE)), .val (.ref (own_pick p2 w_INT w_DOUBLE)), .val (.ref (own_widest (own_pick p1 w_INT w_DOUBLE) (own_pick p2 w_INT w_DOUBLE) w_INT w_DOUBLE)), .val (.ref w_INT), .val (.ref (own_widest (own_pick p2 w_INT w_DOUBLE) (own_pick p1 w_INT w_DOUBLE) w_INT w_DOUBLE))] [(.ref (own_widest (own_pick p1 w_INT w_DOUBLE) (own_pick p2 w_INT w_DOUBLE) w_INT w_DOUBLE))])) _
        refine st18.trans ?_
        show Steps p.tables e below (T18.setTop (mkF m 70 #[.val (.int p1), .val (.int p2), .val (.ref (own_pick p1 w_INT w_DOUBLE)), .val (.ref (own_pick p2 w_INT w_DOUBLE)), .val (.ref (own_widest (own_pick p1 w_INT w_DOUBLE) (own_pick p2 w_INT w_DOUBLE) w_INT w_DOUBLE)), .val (.ref w_INT), .val (.ref (own_widest (own_pick p2 w_INT w_DOUBLE) (own_pick p1 w_INT w_DOUBLE) w_INT w_DOUBLE))] [(.int (own_num (own_widest (own_pick p1 w_INT w_DOUBLE) (own_pick p2 w_INT w_DOUBLE) w_INT w_DOUBLE) w_BOOL))])) _
        refine XS.ifNo X18.here hx rfl (hb hby at_70) rfl ((if0 _ _).trans (feq (own_num1 (own_wide_or _ _ _ _) n_IB n_DB)).1) ?_
        show Steps p.tables e below (T18.setTop (mkF m 73 #[.val (.int p1), .val (.int p2), .val (.ref (own_pick p1 w_INT w_DOUBLE)), .val (.ref (own_pick p2 w_INT w_DOUBLE)), .val (.ref (own_widest (own_pick p1 w_INT w_DOUBLE) (own_pick p2 w_INT w_DOUBLE) w_INT w_DOUBLE)), .val (.ref w_INT), .val (.ref (own_widest (own_pick p2 w_INT w_DOUBLE) (own_pick p1 w_INT w_DOUBLE) w_INT w_DOUBLE))] [])) _
        refine XS.iconst X18.here hx rfl (hb hby at_73) ?_
        show Steps p.tables e below (T18.setTop (mkF m 74 #[.val (.int p1), .val (.int p2), .val (.ref (own_pick p1 w_INT w_DOUBLE)), .val (.ref (own_pick p2 w_INT w_DOUBLE)), .val (.ref (own_widest (own_pick p1 w_INT w_DOUBLE) (own_pick p2 w_INT w_DOUBLE) w_INT w_DOUBLE)), .val (.ref w_INT), .val (.ref (own_widest (own_pick p2 w_INT w_DOUBLE) (own_pick p1 w_INT w_DOUBLE) w_INT w_DOUBLE))] [(.int (1 : Int32))])) _
        refine XS.goto X18.here hx rfl (pc0 := 74) (pc' := 78) rfl (hb hby at_74) (by decide) (by decide) ?_
        show Steps p.tables e below (T18.setTop (mkF m 78 #[.val (.int p1), .val (.int p2), .val (.ref (own_pick p1 w_INT w_DOUBLE)), .val (.ref (own_pick p2 w_INT w_DOUBLE)), .val (.ref (own_widest (own_pick p1 w_INT w_DOUBLE) (own_pick p2 w_INT w_DOUBLE) w_INT w_DOUBLE)), .val (.ref w_INT), .val (.ref (own_widest (own_pick p2 w_INT w_DOUBLE) (own_pick p1 w_INT w_DOUBLE) w_INT w_DOUBLE))] [(.int (1 : Int32))])) _
        exact retN X18 hx (t := .boolean) Bd.returns (by simp) (hb hby at_78) hr
      · show Q0 h0 n0 _ T18.heap _
        rw [eh18]
        exact ⟨rfl, N18⟩
set_option maxRecDepth 65536 in
set_option maxHeartbeats 40000000 in
theorem comes_1 {Post : Tables → Env → Array Value → State → Outcome → State → Prop} (hpost : ∀ tb e args s v u, (limb_1_1.after args s (.returned v) u = true ∧ limb_1_2.after args s (.returned v) u = true ∧ True) → FrameEnd s (.returned v) u (Jvm.fieldLocs frame_1_writes args s ++ Jvm.arrayLocs frame_1_arrays args s ++ Jvm.staticLocs frame_1_statics s) 0 0 → Post tb e args s (.returned v) u) :
    ArmFor flags0 classFile x code maxLocals ret World_1 tables_1 room_1 Calls_1 rest_1 Pre_1 Post := by
  intro l hfl _ _ p e ha hc hk s m args below hf hA hF happ hP
  obtain ⟨hcalls, hrest, hpre⟩ := hP
  obtain ⟨-, -, -, hnamed, -, -, -, hat⟩ := (Spec.applies_iff hf).mp happ
  obtain ⟨hg, hn⟩ := and_e (Cond.before_iff.mp (show (Jvm.Cond.and given_1 narrow_1).before args s = true from hpre))
  obtain ⟨hcnt, ha0⟩ := and_e hg
  obtain ⟨hi0, ha1⟩ := and_e ha0
  obtain ⟨w0, w1, rfl⟩ : ∃ w0 w1 : Value, args = #[w0, w1] := by
    have hs : args.size = 2 := by simpa [Cond.value, given_1] using hcnt
    obtain ⟨L⟩ := args
    match L, hs with
    | [w0, w1], _ => exact ⟨w0, w1, rfl⟩
  have hw := fun d (hd : d ∈ tables_1) => atoms_spec (ws := Jvm.Cond.code x code maxLocals ret :: tables_1) hat d (List.mem_cons_of_mem _ hd)
  obtain ⟨i0, ei0⟩ := is_v hi0
  obtain rfl : w0 = (.int i0) := Option.some.inj ei0
  obtain ⟨i1, ei1⟩ := is_v ha1
  obtain rfl : w1 = (.int i1) := Option.some.inj ei1
  obtain ⟨hg0, hr0⟩ := and_e hn
  obtain ⟨w_INT, ev_INT⟩ := exa_v hg0
  have E_INT : Exa s s.heap w_INT "com/example/vole/vole/model/Type" := Exa.start ev_INT hg0
  have S_INT : Sta s s.heap "com/example/vole/vole/model/Type" "INT" "Lcom/example/vole/vole/model/Type;" (.ref w_INT) := Sta.start ev_INT (Or.inr ⟨(hw _ (List.mem_of_getElem? (i := 5) rfl)), (hw _ (List.mem_of_getElem? (i := 6) rfl))⟩)
  obtain ⟨hg1, hr1⟩ := and_e hr0
  obtain ⟨w_DOUBLE, ev_DOUBLE⟩ := exa_v hg1
  have E_DOUBLE : Exa s s.heap w_DOUBLE "com/example/vole/vole/model/Type" := Exa.start ev_DOUBLE hg1
  have S_DOUBLE : Sta s s.heap "com/example/vole/vole/model/Type" "DOUBLE" "Lcom/example/vole/vole/model/Type;" (.ref w_DOUBLE) := Sta.start ev_DOUBLE (Or.inr ⟨(hw _ (List.mem_of_getElem? (i := 5) rfl)), (hw _ (List.mem_of_getElem? (i := 8) rfl))⟩)
  obtain ⟨hg2, hr2⟩ := and_e hr1
  have O_ordinal_DOUBLE : Fld s s.heap w_DOUBLE "java/lang/Enum" "ordinal" "I" (.int (1 : Int32)) := own_fld ev_DOUBLE hg2
  obtain ⟨hg3, hr3⟩ := and_e hr2
  have O_ordinal_INT : Fld s s.heap w_INT "java/lang/Enum" "ordinal" "I" (.int (0 : Int32)) := own_fld ev_INT hg3
  obtain ⟨hg4, hr4⟩ := and_e hr3
  obtain ⟨w_BOOL, ev_BOOL⟩ := exa_v hg4
  have E_BOOL : Exa s s.heap w_BOOL "com/example/vole/vole/model/Type" := Exa.start ev_BOOL hg4
  have S_BOOL : Sta s s.heap "com/example/vole/vole/model/Type" "BOOL" "Lcom/example/vole/vole/model/Type;" (.ref w_BOOL) := Sta.start ev_BOOL (Or.inr ⟨(hw _ (List.mem_of_getElem? (i := 5) rfl)), (hw _ (List.mem_of_getElem? (i := 20) rfl))⟩)
  have O_ordinal_BOOL : Fld s s.heap w_BOOL "java/lang/Enum" "ordinal" "I" (.int (2 : Int32)) := own_fld ev_BOOL hr4
  obtain ⟨n, o, h1, h2, h3, _, L, rfl, ⟨rfl, N⟩, hq⟩ := rm0 l s _ hw tables_1 i0 i1 w_INT w_DOUBLE w_BOOL s.heap s.heap.size (Nat.le_refl _) S_INT S_DOUBLE S_BOOL E_INT E_DOUBLE E_BOOL O_ordinal_INT O_ordinal_DOUBLE O_ordinal_BOOL p e ha hc hk s m _ below hf ((Spec.applies_iff_loose hf).mp happ).1 ⟨rfl, State.Warmed39.refl s, rfl⟩ trivial
  refine ⟨n, _, h1, h2, h3, hpost _ _ _ _ _ _ ⟨Cond.after_iff.mpr rfl, Cond.after_iff.mpr (eq_i res_at (Term.int_eval (1)) rfl), trivial⟩ ⟨hq.1, hq.2.1, (hq.2.2.sift fun y hy => Or.inr (N y hy)).mono (by decide) (by decide)⟩⟩
theorem main_1_1 : Claimed_1_1 := comes_1 fun _ _ _ _ _ _ h hF => ⟨h.1, hF⟩
theorem main_1_2 : Claimed_1_2 := comes_1 fun _ _ _ _ _ _ h hF => ⟨h.2.1, hF⟩
end Jvm.Pilot.@@N@@
namespace Jvm.Pilot.@@N@@
open Jvm Jvm.ClassFile Sem Op Lib Jvm.Free Jvm.Stand Jvm.Pilot.@@N@@.Jvm.D
/-! MADE BY PROGRAM (witnessworld.py) out of the Statement's table words and the real class files: 12 classes; the members and pool entries that the words name. The judged class is class 1, her method 2. -/
namespace start1
open Jvm.ClassFile
def u (s : String) : CpInfo := .utf8 (stringToUtf16 s)
/-- a pool by its gaps: so many unusable entries, then the entry; so many at the end -/
def gap : Nat → List CpInfo → List CpInfo
  | 0, r => r
  | n + 1, r => .unusable :: gap n r
def poolList (es : List (Nat × CpInfo)) (last : Nat) : List CpInfo := es.foldr (fun e r => gap e.1 (e.2 :: r)) (gap last [])
def pool (es : List (Nat × CpInfo)) (last : Nat) : Array CpInfo := ⟨poolList es last⟩
def fileOf (pool : Array CpInfo) (this : Nat) (attrs : Array Attribute := #[]) (ms : Array MethodInfo := #[]) (fl : Nat := 33) (sup : Nat := 0) (ifs : Array Nat := #[]) (fds : Array FieldInfo := #[]) : ClassFile where
  minorVersion := 0
  majorVersion := 65
  constantPool := pool
  accessFlags := fl
  thisClass := this
  superClass := sup
  interfaces := ifs
  fields := fds
  methods := ms
  attributes := attrs
def plain (name : String) (sup : Option ClassId) : Class where
  name := name
  kind := .ordinary
  loader := none
  accessFlags := 33
  super := sup
  interfaces := #[]
  cf := none
  fields := #[]
  methods := #[]
  instanceTypes := #[]
  staticTypes := #[]
  resolved := #[]
  callSites := []
  init := .initialized
  statics := none
  mirror := none

def pool0 : Array CpInfo := pool [(5, u "<init>"), (0, u "()V"), (1, .class_ 10), (1, u "java/lang/Object")] 113

def k0m0 : Method := { name := "<init>", desc := "()V", sig := { parameters := [], returnType := none }, accessFlags := 1, code := none }
/-- java/lang/Object -/
def k0 : Class := { plain "java/lang/Object" none with
  accessFlags := 33
  interfaces := #[]
  cf := some (fileOf pool0 8 #[] #[{ accessFlags := 1, nameIndex := 5, descriptorIndex := 6, attributes := #[] }] 33 0 #[] #[])
  fields := #[]
  methods := #[k0m0]
  instanceTypes := #[]
  staticTypes := #[]
  resolved := Array.replicate 124 none
  statics := none }

def pool1 : Array CpInfo := pool [(2, .class_ 4), (1, u "java/lang/Object"), (0, u "<init>"), (0, u "()V"), (0, .fieldref 8 9), (0, .class_ 10), (0, .nameAndType 11 12), (0, u "com/example/vole/vole/model/Type"), (0, u "DOUBLE"), (0, u "Lcom/example/vole/vole/model/Type;"), (0, .fieldref 8 14), (0, .nameAndType 15 12), (0, u "INT"), (0, .methodref 17 18), (0, .class_ 19), (0, .nameAndType 20 21), (0, u "com/example/vole/vole/model/TypeWidestPinLaw"), (0, u "pick"), (0, u "(I)Lcom/example/vole/vole/model/Type;"), (0, .methodref 8 23), (0, .nameAndType 24 25), (0, u "widest"), (0, u "(Lcom/example/vole/vole/model/Type;Lcom/example/vole/vole/model/Type;)Lcom/example/vole/vole/model/Type;"), (0, .methodref 8 27), (0, .nameAndType 28 29), (0, u "isNumeric"), (0, u "()Z"), (3, u "law"), (0, u "(II)Z")] 2

def k1m0 : Method := { name := "<init>", desc := "()V", sig := { parameters := [], returnType := none }, accessFlags := 2, code := none }
def k1c1 : Code := { maxStack := 2, maxLocals := 1, code := method_2_code, exceptionTable := #[], attributes := #[] }
def k1m1 : Method := { name := "pick", desc := "(I)Lcom/example/vole/vole/model/Type;", sig := { parameters := [.int], returnType := some (.object "com/example/vole/vole/model/Type") }, accessFlags := 10, code := some k1c1 }
def k1c2 : Code := { maxStack := 2, maxLocals := 7, code := code, exceptionTable := #[], attributes := #[] }
def k1m2 : Method := { name := "law", desc := "(II)Z", sig := { parameters := [.int, .int], returnType := some .boolean }, accessFlags := 9, code := some k1c2 }
/-- com/example/vole/vole/model/TypeWidestPinLaw -/
def k1 : Class := { plain "com/example/vole/vole/model/TypeWidestPinLaw" (some 0) with
  accessFlags := 49
  interfaces := #[]
  cf := some (fileOf pool1 17 #[] #[{ accessFlags := 2, nameIndex := 5, descriptorIndex := 6, attributes := #[] }, { accessFlags := 10, nameIndex := 20, descriptorIndex := 21, attributes := #[] }, { accessFlags := 9, nameIndex := 33, descriptorIndex := 34, attributes := #[] }] 49 2 #[] #[])
  fields := #[]
  methods := #[k1m0, k1m1, k1m2]
  instanceTypes := #[]
  staticTypes := #[]
  resolved := Array.replicate 37 none
  statics := none }

def pool2 : Array CpInfo := pool [(1, .class_ 2), (0, u "java/lang/constant/Constable"), (0, .class_ 4), (0, u "java/lang/Object")] 6

/-- java/lang/constant/Constable -/
def k2 : Class := { plain "java/lang/constant/Constable" (some 0) with
  accessFlags := 1537
  interfaces := #[]
  cf := some (fileOf pool2 1 #[] #[] 1537 3 #[] #[])
  fields := #[]
  methods := #[]
  instanceTypes := #[]
  staticTypes := #[]
  resolved := Array.replicate 11 none
  statics := none }

def pool3 : Array CpInfo := pool [(1, .class_ 2), (0, u "java/lang/Comparable"), (0, .class_ 4), (0, u "java/lang/Object")] 7

/-- java/lang/Comparable -/
def k3 : Class := { plain "java/lang/Comparable" (some 0) with
  accessFlags := 1537
  interfaces := #[]
  cf := some (fileOf pool3 1 #[] #[] 1537 3 #[] #[])
  fields := #[]
  methods := #[]
  instanceTypes := #[]
  staticTypes := #[]
  resolved := Array.replicate 12 none
  statics := none }

def pool4 : Array CpInfo := pool [(1, .class_ 2), (0, u "java/io/Serializable"), (0, .class_ 4), (0, u "java/lang/Object")] 2

/-- java/io/Serializable -/
def k4 : Class := { plain "java/io/Serializable" (some 0) with
  accessFlags := 1537
  interfaces := #[]
  cf := some (fileOf pool4 1 #[] #[] 1537 3 #[] #[])
  fields := #[]
  methods := #[]
  instanceTypes := #[]
  staticTypes := #[]
  resolved := Array.replicate 7 none
  statics := none }

def pool5 : Array CpInfo := pool [(2, .class_ 4), (1, u "java/lang/Enum"), (0, u "name"), (0, u "Ljava/lang/String;"), (2, u "ordinal"), (0, u "I"), (1, .class_ 14), (1, u "java/lang/Object"), (4, u "hash"), (86, .class_ 108), (1, u "java/lang/Enum$EnumDesc"), (2, .class_ 112), (0, u "java/lang/constant/Constable"), (0, .class_ 114), (0, u "java/lang/Comparable"), (0, .class_ 116), (0, u "java/io/Serializable")] 87

/-- java/lang/Enum -/
def k5 : Class := { plain "java/lang/Enum" (some 0) with
  accessFlags := 1057
  interfaces := #[2, 3, 4]
  cf := some (fileOf pool5 2 #[.nestMembers #[106]] #[] 1057 12 #[111, 113, 115] #[{ accessFlags := 18, nameIndex := 5, descriptorIndex := 6, attributes := #[] }, { accessFlags := 18, nameIndex := 9, descriptorIndex := 10, attributes := #[] }, { accessFlags := 2, nameIndex := 19, descriptorIndex := 10, attributes := #[] }])
  fields := #[{ name := "name", type := (.object "java/lang/String"), accessFlags := 18, slot := 0, constantValue := 0 }, { name := "ordinal", type := .int, accessFlags := 18, slot := 1, constantValue := 0 }, { name := "hash", type := .int, accessFlags := 2, slot := 2, constantValue := 0 }]
  methods := #[]
  instanceTypes := #[(.object "java/lang/String"), .int, .int]
  staticTypes := #[]
  resolved := Array.replicate 204 none
  statics := none }

def pool6 : Array CpInfo := pool [(1, .class_ 2), (0, u "com/example/vole/vole/model/Type"), (0, .fieldref 1 4), (0, .nameAndType 5 6), (0, u "INT"), (0, u "Lcom/example/vole/vole/model/Type;"), (0, .fieldref 1 8), (0, .nameAndType 9 6), (0, u "DOUBLE"), (0, .fieldref 1 11), (0, .nameAndType 12 6), (0, u "BOOL"), (2, u "$VALUES"), (0, u "[Lcom/example/vole/vole/model/Type;"), (6, .class_ 25), (1, u "java/lang/Enum"), (8, u "keyword"), (0, u "Ljava/lang/String;"), (23, u "isNumeric"), (0, u "()Z"), (1, u "widest"), (0, u "(Lcom/example/vole/vole/model/Type;Lcom/example/vole/vole/model/Type;)Lcom/example/vole/vole/model/Type;")] 7

def k6c0 : Code := { maxStack := 2, maxLocals := 1, code := prog_85_method_4_code, exceptionTable := #[], attributes := #[] }
def k6m0 : Method := { name := "isNumeric", desc := "()Z", sig := { parameters := [], returnType := some .boolean }, accessFlags := 1, code := some k6c0 }
def k6c1 : Code := { maxStack := 2, maxLocals := 3, code := prog_85_method_5_code, exceptionTable := #[], attributes := #[] }
def k6m1 : Method := { name := "widest", desc := "(Lcom/example/vole/vole/model/Type;Lcom/example/vole/vole/model/Type;)Lcom/example/vole/vole/model/Type;", sig := { parameters := [(.object "com/example/vole/vole/model/Type"), (.object "com/example/vole/vole/model/Type")], returnType := some (.object "com/example/vole/vole/model/Type") }, accessFlags := 9, code := some k6c1 }
/-- com/example/vole/vole/model/Type -/
def k6 : Class := { plain "com/example/vole/vole/model/Type" (some 5) with
  accessFlags := 16433
  interfaces := #[]
  cf := some (fileOf pool6 1 #[] #[{ accessFlags := 1, nameIndex := 59, descriptorIndex := 60, attributes := #[] }, { accessFlags := 9, nameIndex := 62, descriptorIndex := 63, attributes := #[] }] 16433 23 #[] #[{ accessFlags := 16409, nameIndex := 5, descriptorIndex := 6, attributes := #[] }, { accessFlags := 16409, nameIndex := 9, descriptorIndex := 6, attributes := #[] }, { accessFlags := 16409, nameIndex := 12, descriptorIndex := 6, attributes := #[] }, { accessFlags := 18, nameIndex := 34, descriptorIndex := 35, attributes := #[] }, { accessFlags := 4122, nameIndex := 15, descriptorIndex := 16, attributes := #[] }])
  fields := #[{ name := "INT", type := (.object "com/example/vole/vole/model/Type"), accessFlags := 16409, slot := 0, constantValue := 0 }, { name := "DOUBLE", type := (.object "com/example/vole/vole/model/Type"), accessFlags := 16409, slot := 1, constantValue := 0 }, { name := "BOOL", type := (.object "com/example/vole/vole/model/Type"), accessFlags := 16409, slot := 2, constantValue := 0 }, { name := "keyword", type := (.object "java/lang/String"), accessFlags := 18, slot := 3, constantValue := 0 }, { name := "$VALUES", type := (.array (.object "com/example/vole/vole/model/Type")), accessFlags := 4122, slot := 3, constantValue := 0 }]
  methods := #[k6m0, k6m1]
  instanceTypes := #[(.object "java/lang/String"), .int, .int, (.object "java/lang/String")]
  staticTypes := #[(.object "com/example/vole/vole/model/Type"), (.object "com/example/vole/vole/model/Type"), (.object "com/example/vole/vole/model/Type"), (.array (.object "com/example/vole/vole/model/Type"))]
  resolved := Array.replicate 71 none
  statics := some 0 }

def pool7 : Array CpInfo := pool [(1, u "java/lang/Cloneable"), (0, .class_ 1), (0, u "java/lang/Object"), (0, .class_ 3)] 3

/-- java/lang/Cloneable -/
def k7 : Class := { plain "java/lang/Cloneable" (some 0) with
  accessFlags := 1537
  interfaces := #[]
  cf := some (fileOf pool7 2 #[] #[] 1537 4 #[] #[])
  fields := #[]
  methods := #[]
  instanceTypes := #[]
  staticTypes := #[]
  resolved := Array.replicate 8 none
  statics := none }

/-- the primitive byte -/
def k8 : Class := { plain "byte" none with kind := .primitive 'B', accessFlags := 0x411 }
/-- [B -/
def k9 : Class := { plain "[B" (some 0) with kind := .array 8 .byte, interfaces := #[7, 4], accessFlags := 1041 }

/-- the primitive int -/
def k10 : Class := { plain "int" none with kind := .primitive 'I', accessFlags := 0x411 }
/-- [I -/
def k11 : Class := { plain "[I" (some 0) with kind := .array 10 .int, interfaces := #[7, 4], accessFlags := 1041 }

def heap : Heap := #[{ cls := 6, slots := #[.ref 1, .ref 2, .ref 3, .null], vm := .statics 6 },
  { cls := 6, slots := #[.null, .int 0, .int 0, .null], vm := .none },
  { cls := 6, slots := #[.null, .int 1, .int 0, .null], vm := .none },
  { cls := 6, slots := #[.null, .int 2, .int 0, .null], vm := .none }]
def classes : Array Class := #[k0, k1, k2, k3, k4, k5, k6, k7, k8, k9, k10, k11]
def interned : List (Array UInt16 × Addr) := []
def slotsUsed : Nat := 16
def theMethod : MethodId := ⟨1, 2⟩
def args0 : Array Value := #[.int 3, .int 4]
def aboutOver (below : List Frame) : State where
  vm := { classes := classes, interned := interned.toArray }
  heap := heap
  slotsUsed := slotsUsed
  threads := #[{ frames := .invoking theMethod args0 :: below }]
def below0 : List Frame := [.native { method := ⟨0, 0⟩, args := #[] }]
def about1 : State := aboutOver below0
def p0 : Program := .bare "" "" ""
def e0 : Env := launch0.env 0 0 0
theorem w_frames : about1.frames = Frame.invoking theMethod args0 :: below0 := rfl
set_option maxRecDepth 65536 in
theorem w_args : argsFit about1.vm theMethod args0 = true := by decide +kernel
set_option maxRecDepth 65536 in
theorem w_heap : heapFits about1 = true := by decide +kernel
set_option maxRecDepth 65536 in
theorem w_runnable : about1.curStatus? = some .runnable := by decide +kernel
set_option maxRecDepth 65536 in
theorem w_alone : about1.alone = true := by decide +kernel
set_option maxRecDepth 65536 in
theorem w_named : about1.methodNamed? x = some theMethod := by decide +kernel
set_option maxRecDepth 65536 in
theorem w_hears : about1.hears theMethod below0 = true := by decide +kernel
set_option maxRecDepth 65536 in
theorem w_ripe : about1.ripe theMethod args0 below0 = true := by decide +kernel
theorem w_running : about1.status = .running := rfl
set_option maxRecDepth 65536 in
theorem w_room : about1.hasRoom e0.platform room_1 = true :=
  launch0.hasRoom_least _ room_1 (by decide +kernel) (by decide +kernel) (by decide +kernel) (by decide +kernel) (by decide +kernel) (by decide +kernel)
theorem allAtoms_all (ts : List Jvm.Cond) (a : Array Jvm.Value) (st : Jvm.State) : (allAtoms ts).before a st = ts.all (fun c => c.before a st) := by
  induction ts with
  | nil => rfl
  | cons c t ih =>
    show (Jvm.Cond.and c (allAtoms t)).before a st = _
    rw [Jvm.Cond.before_and, ih, List.all_cons]
def words1 : List Jvm.Cond := Jvm.Cond.code x code maxLocals ret :: tables_1
/-- a 'code' word, met by the world's own term for the bytes: nothing is compared byte by byte -/
theorem code_word {y : MethodName} {bytes : ByteArray} {mx : Nat} {rt : Option FieldType} {a : Array Value} {s : State} {m : MethodId} {meth : Method} {c : Code} (h1 : s.methodNamed? y = some m) (h2 : s.vm.method? m = some meth) (h3 : meth.code = some c) (h4 : c.code = bytes)
    (h5 : (c.maxLocals == mx && c.exceptionTable.isEmpty && decide (c.maxStack ≤ mostOperands) && decide (meth.sig.returnType = rt) && !meth.locks && decide (parseMethodDescriptor y.desc = some meth.sig)) = true) : (Jvm.Cond.code y bytes mx rt).before a s = true := by
  simp only [Bool.and_eq_true, beq_iff_eq, Bool.not_eq_true', decide_eq_true_eq] at h5
  obtain ⟨⟨⟨⟨⟨g1, g2⟩, g3⟩, g4⟩, g5⟩, g6⟩ := h5
  simp [Cond.before, Cond.holds, Cond.value, h1, h2, h3, h4, g1, g2, g3, g4, g5, g6]
def isCode : Jvm.Cond → Bool
  | .code _ _ _ _ => true
  | _ => false
theorem all_split {L : List Jvm.Cond} {P : Jvm.Cond → Bool} (h1 : L.all (fun c => isCode c || P c) = true) (h2 : ∀ c ∈ L.filter isCode, P c = true) : L.all P = true := by
  refine List.all_eq_true.mpr fun c hc => ?_
  have h := List.all_eq_true.mp h1 c hc
  rcases Bool.eq_false_or_eq_true (isCode c) with hi | hi
  · exact h2 c (List.mem_filter.mpr ⟨hc, hi⟩)
  · simpa [hi] using h
set_option maxRecDepth 65536 in
theorem w_c0 : (Jvm.Cond.code x code maxLocals ret).before args0 about1 = true := code_word (m := ⟨1, 2⟩) (meth := k1m2) (c := k1c2) (by decide +kernel) rfl rfl rfl (by decide +kernel)
set_option maxRecDepth 65536 in
theorem w_c1 : (Jvm.Cond.code ({ cls := "com/example/vole/vole/model/TypeWidestPinLaw", name := "pick", desc := "(I)Lcom/example/vole/vole/model/Type;" } : Jvm.MethodName) method_2_code (1 : Nat) (Option.some (Jvm.ClassFile.FieldType.object "com/example/vole/vole/model/Type"))).before args0 about1 = true := code_word (m := ⟨1, 1⟩) (meth := k1m1) (c := k1c1) (by decide +kernel) rfl rfl rfl (by decide +kernel)
set_option maxRecDepth 65536 in
theorem w_c2 : (Jvm.Cond.code ({ cls := "com/example/vole/vole/model/Type", name := "widest", desc := "(Lcom/example/vole/vole/model/Type;Lcom/example/vole/vole/model/Type;)Lcom/example/vole/vole/model/Type;" } : Jvm.MethodName) prog_85_method_5_code (3 : Nat) (Option.some (Jvm.ClassFile.FieldType.object "com/example/vole/vole/model/Type"))).before args0 about1 = true := code_word (m := ⟨6, 1⟩) (meth := k6m1) (c := k6c1) (by decide +kernel) rfl rfl rfl (by decide +kernel)
set_option maxRecDepth 65536 in
theorem w_c3 : (Jvm.Cond.code ({ cls := "com/example/vole/vole/model/Type", name := "isNumeric", desc := "()Z" } : Jvm.MethodName) prog_85_method_4_code (1 : Nat) (Option.some Jvm.ClassFile.FieldType.boolean)).before args0 about1 = true := code_word (m := ⟨6, 0⟩) (meth := k6m0) (c := k6c0) (by decide +kernel) rfl rfl rfl (by decide +kernel)
def codes1 : List Jvm.Cond := [Jvm.Cond.code x code maxLocals ret, Jvm.Cond.code ({ cls := "com/example/vole/vole/model/TypeWidestPinLaw", name := "pick", desc := "(I)Lcom/example/vole/vole/model/Type;" } : Jvm.MethodName) method_2_code (1 : Nat) (Option.some (Jvm.ClassFile.FieldType.object "com/example/vole/vole/model/Type")), Jvm.Cond.code ({ cls := "com/example/vole/vole/model/Type", name := "widest", desc := "(Lcom/example/vole/vole/model/Type;Lcom/example/vole/vole/model/Type;)Lcom/example/vole/vole/model/Type;" } : Jvm.MethodName) prog_85_method_5_code (3 : Nat) (Option.some (Jvm.ClassFile.FieldType.object "com/example/vole/vole/model/Type")), Jvm.Cond.code ({ cls := "com/example/vole/vole/model/Type", name := "isNumeric", desc := "()Z" } : Jvm.MethodName) prog_85_method_4_code (1 : Nat) (Option.some Jvm.ClassFile.FieldType.boolean)]
set_option maxRecDepth 65536 in
theorem codes_eq : words1.filter isCode = codes1 := rfl
theorem w_codes : ∀ c ∈ words1.filter isCode, c.before args0 about1 = true := by
  rw [codes_eq]
  intro c hc
  simp only [codes1, List.mem_cons, List.not_mem_nil, or_false] at hc
  rcases hc with rfl | rfl | rfl | rfl
  · exact w_c0
  · exact w_c1
  · exact w_c2
  · exact w_c3
set_option maxRecDepth 65536 in
theorem w_t1 : words1.all (fun c => isCode c || c.before args0 about1) = true := by decide +kernel
theorem w_tables : (allAtoms (Jvm.Cond.code x code maxLocals ret :: tables_1)).before args0 about1 = true := by
  rw [allAtoms_all]
  show words1.all (fun c => c.before args0 about1) = true
  refine all_split ?_ w_codes
  rw [w_t1]
set_option maxRecDepth 65536 in
theorem w_case : (Jvm.Cond.and given_1 narrow_1).before args0 about1 = true := by decide +kernel
theorem w_applies : (headSpec (Jvm.Cond.code x code maxLocals ret :: tables_1) room_1).applies x e0.platform about1 = true :=
  (Spec.applies_iff w_frames).mpr ⟨w_running, w_runnable, w_alone, w_named, w_hears, w_ripe, w_room, w_tables⟩
theorem atStart : AtStart classFile x code maxLocals ret World_1 tables_1 room_1 Calls_1 rest_1 Pre_1 launch0 p0 e0 about1 theMethod args0 below0 :=
  ⟨lists_1, trivial, launch0.admits_env _ _ _, launch0.least_env, fairChoices_fair.cas, fairChoices_fair.clock, w_frames, w_args, w_heap, w_applies, trivial, trivial, w_case⟩
end start1
theorem witness_1 : WitnessClaimed_1 := ⟨start1.p0, start1.e0, start1.about1, start1.theMethod, start1.args0, start1.below0, start1.atStart⟩
end Jvm.Pilot.@@N@@
