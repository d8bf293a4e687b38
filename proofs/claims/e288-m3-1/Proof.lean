import JvmDerived
import JvmDerived.Pilot.@@N@@Statement
import JvmDerived.Pilot.@@N@@Code
set_option linter.unusedVariables false
set_option linter.unusedSimpArgs false
namespace Jvm.Pilot.@@N@@
open Jvm Jvm.ClassFile Sem Op Lib Jvm.Free Jvm.Stand Jvm.LawKit Jvm.RoadKit Bundle Jvm.Pilot.@@N@@.Jvm.D
theorem own_fld {s : State} {args : Array Value} {t : Term} {w : Addr} {C n d : String} {k : Int32} (ev : t.eval args s none [] s = some (.ref w)) (h : (Cond.eq (Term.field t C n d) (Term.int k)).value args s none s [] = some true) : Fld s s.heap w C n d (.int k) := by
  refine Fld.start ?_
  have h1 : (Term.field t C n d).eval args s none [] s = s.fieldOf? w C n d := fld_at ev
  have h2 : (Term.int k).eval args s none [] s = some (.int k) := Term.int_eval k
  cases hf : s.fieldOf? w C n d with
  | none => rw [hf] at h1; simp [Cond.value, h1] at h
  | some x =>
    rw [hf] at h1
    cases x <;> simp [Cond.value, h1, h2] at h
    rw [h]
def own_allows (k mn mx : Int32) : Int32 := if k < mn then 0 else if mx < k then 0 else 1
theorem own_yes {k mn mx : Int32} (h1 : mn.toInt ≤ k.toInt) (h2 : k.toInt ≤ mx.toInt) : own_allows k mn mx = 1 := by
  have a : ¬ k < mn := by rw [Int32.lt_iff_toInt_lt]; omega
  have b : ¬ mx < k := by rw [Int32.lt_iff_toInt_lt]; omega
  simp [own_allows, a, b]
theorem own_no {k mn mx : Int32} (h : k.toInt < mn.toInt ∨ mx.toInt < k.toInt) : own_allows k mn mx = 0 := by
  unfold own_allows
  by_cases a : k < mn
  · rw [if_pos a]
  · rw [if_neg a]
    by_cases b : mx < k
    · rw [if_pos b]
    · rw [Int32.lt_iff_toInt_lt] at a b; omega
theorem dA_0 : decode prog_57_method_4_code 0 = .ok (.iload_n 1, 1) := by decide +kernel
theorem dA_1 : decode prog_57_method_4_code 1 = .ok (.aload_n 0, 1) := by decide +kernel
theorem dA_2 : decode prog_57_method_4_code 2 = .ok (.getfield 38, 3) := by decide +kernel
theorem dA_5 : decode prog_57_method_4_code 5 = .ok (.if_icmp .lt 15, 3) := by decide +kernel
theorem dA_8 : decode prog_57_method_4_code 8 = .ok (.iload_n 1, 1) := by decide +kernel
theorem dA_9 : decode prog_57_method_4_code 9 = .ok (.aload_n 0, 1) := by decide +kernel
theorem dA_10 : decode prog_57_method_4_code 10 = .ok (.getfield 42, 3) := by decide +kernel
theorem dA_13 : decode prog_57_method_4_code 13 = .ok (.if_icmp .gt 7, 3) := by decide +kernel
theorem dA_16 : decode prog_57_method_4_code 16 = .ok (.iconst 1, 1) := by decide +kernel
theorem dA_17 : decode prog_57_method_4_code 17 = .ok (.goto 4, 3) := by decide +kernel
theorem dA_20 : decode prog_57_method_4_code 20 = .ok (.iconst 0, 1) := by decide +kernel
theorem dA_21 : decode prog_57_method_4_code 21 = .ok (.ireturn, 1) := by decide +kernel
theorem pnA : plainName "com/example/mint_path/mintpath/type/Occurrence" = true := by first | (simp [plainName, overriddenIn]; done) | decide +kernel
theorem efA (m : MethodId) (a : Addr) (k : Int32) : entryFrame m #[(.ref a), (.int k)] 2 = mkF m 0 #[.val (.ref a), .val (.int k)] [] := by first | (simp [entryFrame, mkF, argsToLocals, Value.category]; done) | rfl
def QA (k mn mx : Int32) (h0 : Heap) (n0 : Nat) (v : Option Value) (h : Heap) (L : List Loc) : Prop := v = some (.int (own_allows k mn mx)) ∧ Fr n0 L ∧ h = h0
set_option maxRecDepth 65536 in
set_option maxHeartbeats 40000000 in
theorem rmA (l : Launch) (Z : State) (a0 : Array Value) (hw : ∀ d ∈ tables_1, d.before a0 Z = true) (ws : List Jvm.Cond) (a : Addr) (k : Int32) (mn mx : Int32) (h0 : Heap) (n0 : Nat) (Z0 : n0 ≤ h0.size) (F1 : Fld Z h0 a "com/example/mint_path/mintpath/type/Occurrence" "min" "I" (.int mn)) (F2 : Fld Z h0 a "com/example/mint_path/mintpath/type/Occurrence" "max" "I" (.int mx)) :
    MetFree l (⟨"com/example/mint_path/mintpath/type/Occurrence", "allows", "(I)Z"⟩ : MethodName) (head1 (Jvm.Cond.code (⟨"com/example/mint_path/mintpath/type/Occurrence", "allows", "(I)Z"⟩ : MethodName) prog_57_method_4_code 2 (some .boolean) :: ws) ({ frames := 0, cells := 0, slots := 0, locals := 0 } : Room)) (fun as_ U => as_ = #[(.ref a), (.int k)] ∧ Z.Warmed39 U.vm ∧ U.heap = h0) (fun _ _ _ _ _ => True) (fun _ U o U' => ∃ v L, o = .returned v ∧ QA k mn mx h0 n0 v U'.heap L ∧ FrameEnd U o U' L ({ frames := 0, cells := 0, slots := 0, locals := 0 } : Room).cells ({ frames := 0, cells := 0, slots := 0, locals := 0 } : Room).slots) := by
  refine MetFree.of_bodySF (plainFor_of_name pnA) hisR ?_
  intro p e s m args below meth c s₁ Bd hml0 hP hK
  obtain ⟨rfl, hZ, hh⟩ := hP
  have hx := Bd.exec
  have hby := Bd.bytes
  have hml : c.maxLocals = 2 := hml0
  have hown : s.vm.findClass "com/example/mint_path/mintpath/type/Occurrence" = some m.cls := findClass_of_methodNamed Bd.named
  have X0 : Stand p l e ({ frames := 0, cells := 0, slots := 0, locals := 0 } : Room) s m #[(.ref a), (.int k)] below meth c s₁ [] 0 0 := Stand.of_body Bd
  have e0 : s₁.heap = h0 := by rw [← hh, Bd.state]; rfl
  have N0 := Fr.nil n0
  have pre0 : ∀ t, Steps p.tables e below (s₁.setTop (mkF m 0 #[.val (.ref a), .val (.int k)] [])) t → Steps p.tables e below (s₁.setTop (entryFrame m #[(.ref a), (.int k)] 2)) t := fun t kk_ => castTop (efA m a k) kk_
  obtain ⟨T1, X1, e1, st1⟩ := getF X0 hx hZ hown (host := "") (Or.inl (hw _ (List.mem_of_getElem? (i := 9) rfl))) Via.refl e0 F1 (g := (mkF m 2 #[.val (.ref a), .val (.int k)] [(.ref a), (.int k)])) rfl rfl (hb hby dA_2)
  have pre2 : ∀ t, Steps p.tables e below (T1.setTop (mkF m 5 #[.val (.ref a), .val (.int k)] [(.int mn), (.int k)])) t → Steps p.tables e below (s₁.setTop (entryFrame m #[(.ref a), (.int k)] 2)) t := fun t kt => by
    refine pre0 t ?_
    show Steps p.tables e below (s₁.setTop (mkF m 0 #[.val (.ref a), .val (.int k)] [])) _
    refine XS.iloadN X0.here hx rfl (hb hby dA_0) rfl ?_
    show Steps p.tables e below (s₁.setTop (mkF m 1 #[.val (.ref a), .val (.int k)] [(.int k)])) _
    refine XS.aloadN X0.here hx rfl (hb hby dA_1) rfl rfl ?_
    show Steps p.tables e below (s₁.setTop (mkF m 2 #[.val (.ref a), .val (.int k)] [(.ref a), (.int k)])) _
    refine st1 _ ?_
    exact kt
  by_cases hc5_3 : k < mn
  · obtain ⟨fs, hr, hrun, hended, hW, hsame⟩ := X1.leave (v := some (.int (0 : Int32))) (fun h => by rw [Bd.returns] at h; cases h)
    refine ⟨_, _, pre2 _ ?_, hrun, hended, _, _, rfl, ?_, ⟨_, rfl⟩, hW, hsame.mono (by decide) (by decide)⟩
    · show Steps p.tables e below (T1.setTop (mkF m 5 #[.val (.ref a), .val (.int k)] [(.int mn), (.int k)])) _
      refine XS.icmpYes X1.here hx rfl (pc0 := 5) (pc' := 20) rfl (hb hby dA_5) rfl (tlt hc5_3).1 (by decide) (by decide) ?_
      show Steps p.tables e below (T1.setTop (mkF m 20 #[.val (.ref a), .val (.int k)] [])) _
      refine XS.iconst X1.here hx rfl (hb hby dA_20) ?_
      show Steps p.tables e below (T1.setTop (mkF m 21 #[.val (.ref a), .val (.int k)] [(.int (0 : Int32))])) _
      exact retN X1 hx (t := .boolean) Bd.returns (by simp) (hb hby dA_21) hr
    · show QA k mn mx h0 n0 _ T1.heap _
      rw [e1]
      exact ⟨by simp [own_allows, hc5_3], N0, rfl⟩
  · obtain ⟨T4, X4, e4, st4⟩ := getF X1 hx hZ hown (host := "") (Or.inl (hw _ (List.mem_of_getElem? (i := 11) rfl))) Via.refl e1 F2 (g := (mkF m 10 #[.val (.ref a), .val (.int k)] [(.ref a), (.int k)])) rfl rfl (hb hby dA_10)
    have pre5 : ∀ t, Steps p.tables e below (T4.setTop (mkF m 13 #[.val (.ref a), .val (.int k)] [(.int mx), (.int k)])) t → Steps p.tables e below (s₁.setTop (entryFrame m #[(.ref a), (.int k)] 2)) t := fun t kt => by
      refine pre2 t ?_
      show Steps p.tables e below (T1.setTop (mkF m 5 #[.val (.ref a), .val (.int k)] [(.int mn), (.int k)])) _
      refine XS.icmpNo X1.here hx rfl (hb hby dA_5) rfl (flt hc5_3).1 ?_
      show Steps p.tables e below (T1.setTop (mkF m 8 #[.val (.ref a), .val (.int k)] [])) _
      refine XS.iloadN X1.here hx rfl (hb hby dA_8) rfl ?_
      show Steps p.tables e below (T1.setTop (mkF m 9 #[.val (.ref a), .val (.int k)] [(.int k)])) _
      refine XS.aloadN X1.here hx rfl (hb hby dA_9) rfl rfl ?_
      show Steps p.tables e below (T1.setTop (mkF m 10 #[.val (.ref a), .val (.int k)] [(.ref a), (.int k)])) _
      refine st4 _ ?_
      exact kt
    by_cases hc13_6 : mx < k
    · obtain ⟨fs, hr, hrun, hended, hW, hsame⟩ := X4.leave (v := some (.int (0 : Int32))) (fun h => by rw [Bd.returns] at h; cases h)
      refine ⟨_, _, pre5 _ ?_, hrun, hended, _, _, rfl, ?_, ⟨_, rfl⟩, hW, hsame.mono (by decide) (by decide)⟩
      · show Steps p.tables e below (T4.setTop (mkF m 13 #[.val (.ref a), .val (.int k)] [(.int mx), (.int k)])) _
        refine XS.icmpYes X4.here hx rfl (pc0 := 13) (pc' := 20) rfl (hb hby dA_13) rfl (tlt hc13_6).2.2.1 (by decide) (by decide) ?_
        show Steps p.tables e below (T4.setTop (mkF m 20 #[.val (.ref a), .val (.int k)] [])) _
        refine XS.iconst X4.here hx rfl (hb hby dA_20) ?_
        show Steps p.tables e below (T4.setTop (mkF m 21 #[.val (.ref a), .val (.int k)] [(.int (0 : Int32))])) _
        exact retN X4 hx (t := .boolean) Bd.returns (by simp) (hb hby dA_21) hr
      · show QA k mn mx h0 n0 _ T4.heap _
        rw [e4]
        exact ⟨by simp [own_allows, hc5_3, hc13_6], N0, rfl⟩
    · obtain ⟨fs, hr, hrun, hended, hW, hsame⟩ := X4.leave (v := some (.int (1 : Int32))) (fun h => by rw [Bd.returns] at h; cases h)
      refine ⟨_, _, pre5 _ ?_, hrun, hended, _, _, rfl, ?_, ⟨_, rfl⟩, hW, hsame.mono (by decide) (by decide)⟩
      · show Steps p.tables e below (T4.setTop (mkF m 13 #[.val (.ref a), .val (.int k)] [(.int mx), (.int k)])) _
        refine XS.icmpNo X4.here hx rfl (hb hby dA_13) rfl (flt hc13_6).2.2.1 ?_
        show Steps p.tables e below (T4.setTop (mkF m 16 #[.val (.ref a), .val (.int k)] [])) _
        refine XS.iconst X4.here hx rfl (hb hby dA_16) ?_
        show Steps p.tables e below (T4.setTop (mkF m 17 #[.val (.ref a), .val (.int k)] [(.int (1 : Int32))])) _
        refine XS.goto X4.here hx rfl (pc0 := 17) (pc' := 21) rfl (hb hby dA_17) (by decide) (by decide) ?_
        show Steps p.tables e below (T4.setTop (mkF m 21 #[.val (.ref a), .val (.int k)] [(.int (1 : Int32))])) _
        exact retN X4 hx (t := .boolean) Bd.returns (by simp) (hb hby dA_21) hr
      · show QA k mn mx h0 n0 _ T4.heap _
        rw [e4]
        exact ⟨by simp [own_allows, hc5_3, hc13_6], N0, rfl⟩
theorem pn0 : plainName "com/example/mint_path/mintpath/type/OccurrenceAllowsPinLaw" = true := by first | (simp [plainName, overriddenIn]; done) | decide +kernel
theorem pd0_0 : parseMethodDescriptor "(I)Z" = some ⟨[.int], some .boolean⟩ := by decide +kernel
theorem ef0 (m : MethodId) (p1 : Int32) (p2 : Int32) : entryFrame m #[(.int p1), (.int p2)] maxLocals = mkF m 0 #[.val (.int p1), .val (.int p2), .unset, .unset, .unset] [] := by first | (simp [entryFrame, mkF, argsToLocals, Value.category, maxLocals]; done) | rfl
def Q0  (h0 : Heap) (n0 : Nat) (v : Option Value) (h : Heap) (L : List Loc) : Prop := v = some (.int (1 : Int32)) ∧ Fr n0 L
set_option maxRecDepth 65536 in
set_option maxHeartbeats 40000000 in
theorem rm0 (l : Launch) (Z : State) (a0 : Array Value) (hw : ∀ d ∈ tables_1, d.before a0 Z = true) (ws : List Jvm.Cond) (p1 : Int32) (p2 : Int32) (w_ZERO w_EXACTLY_ONE w_ZERO_OR_ONE w_ZERO_OR_MORE w_ONE_OR_MORE : Addr) (h0 : Heap) (n0 : Nat) (Z0 : n0 ≤ h0.size) (S_ZERO : Sta Z h0 "com/example/mint_path/mintpath/type/Occurrence" "ZERO" "Lcom/example/mint_path/mintpath/type/Occurrence;" (.ref w_ZERO)) (S_EXACTLY_ONE : Sta Z h0 "com/example/mint_path/mintpath/type/Occurrence" "EXACTLY_ONE" "Lcom/example/mint_path/mintpath/type/Occurrence;" (.ref w_EXACTLY_ONE)) (S_ZERO_OR_ONE : Sta Z h0 "com/example/mint_path/mintpath/type/Occurrence" "ZERO_OR_ONE" "Lcom/example/mint_path/mintpath/type/Occurrence;" (.ref w_ZERO_OR_ONE)) (S_ZERO_OR_MORE : Sta Z h0 "com/example/mint_path/mintpath/type/Occurrence" "ZERO_OR_MORE" "Lcom/example/mint_path/mintpath/type/Occurrence;" (.ref w_ZERO_OR_MORE)) (S_ONE_OR_MORE : Sta Z h0 "com/example/mint_path/mintpath/type/Occurrence" "ONE_OR_MORE" "Lcom/example/mint_path/mintpath/type/Occurrence;" (.ref w_ONE_OR_MORE)) (E_ZERO : Exa Z h0 w_ZERO "com/example/mint_path/mintpath/type/Occurrence") (E_EXACTLY_ONE : Exa Z h0 w_EXACTLY_ONE "com/example/mint_path/mintpath/type/Occurrence") (E_ZERO_OR_ONE : Exa Z h0 w_ZERO_OR_ONE "com/example/mint_path/mintpath/type/Occurrence") (E_ZERO_OR_MORE : Exa Z h0 w_ZERO_OR_MORE "com/example/mint_path/mintpath/type/Occurrence") (E_ONE_OR_MORE : Exa Z h0 w_ONE_OR_MORE "com/example/mint_path/mintpath/type/Occurrence") (A_ZERO : Fld Z h0 w_ZERO "com/example/mint_path/mintpath/type/Occurrence" "min" "I" (.int (0 : Int32))) (B_ZERO : Fld Z h0 w_ZERO "com/example/mint_path/mintpath/type/Occurrence" "max" "I" (.int (0 : Int32))) (A_EXACTLY_ONE : Fld Z h0 w_EXACTLY_ONE "com/example/mint_path/mintpath/type/Occurrence" "min" "I" (.int (1 : Int32))) (B_EXACTLY_ONE : Fld Z h0 w_EXACTLY_ONE "com/example/mint_path/mintpath/type/Occurrence" "max" "I" (.int (1 : Int32))) (A_ZERO_OR_ONE : Fld Z h0 w_ZERO_OR_ONE "com/example/mint_path/mintpath/type/Occurrence" "min" "I" (.int (0 : Int32))) (B_ZERO_OR_ONE : Fld Z h0 w_ZERO_OR_ONE "com/example/mint_path/mintpath/type/Occurrence" "max" "I" (.int (1 : Int32))) (A_ZERO_OR_MORE : Fld Z h0 w_ZERO_OR_MORE "com/example/mint_path/mintpath/type/Occurrence" "min" "I" (.int (0 : Int32))) (B_ZERO_OR_MORE : Fld Z h0 w_ZERO_OR_MORE "com/example/mint_path/mintpath/type/Occurrence" "max" "I" (.int (2147483647 : Int32))) (A_ONE_OR_MORE : Fld Z h0 w_ONE_OR_MORE "com/example/mint_path/mintpath/type/Occurrence" "min" "I" (.int (1 : Int32))) (B_ONE_OR_MORE : Fld Z h0 w_ONE_OR_MORE "com/example/mint_path/mintpath/type/Occurrence" "max" "I" (.int (2147483647 : Int32))) :
    MetFree l x (head1 (Jvm.Cond.code x code maxLocals ret :: ws) room_1) (fun as_ U => as_ = #[(.int p1), (.int p2)] ∧ Z.Warmed39 U.vm ∧ U.heap = h0) (fun _ _ _ _ _ => True) (fun _ U o U' => ∃ v L, o = .returned v ∧ Q0 h0 n0 v U'.heap L ∧ FrameEnd U o U' L room_1.cells room_1.slots) := by
  refine MetFree.of_bodySF (plainFor_of_name pn0) hisR ?_
  intro p e s m args below meth c s₁ Bd hml0 hP hK
  obtain ⟨rfl, hZ, hh⟩ := hP
  have hx := Bd.exec
  have hby := Bd.bytes
  have hml : c.maxLocals = 5 := hml0
  have hown : s.vm.findClass "com/example/mint_path/mintpath/type/OccurrenceAllowsPinLaw" = some m.cls := findClass_of_methodNamed Bd.named
  have X0 : Stand p l e room_1 s m #[(.int p1), (.int p2)] below meth c s₁ [] 0 0 := Stand.of_body Bd
  have e0 : s₁.heap = h0 := by rw [← hh, Bd.state]; rfl
  have N0 := Fr.nil n0
  have pre0 : ∀ t, Steps p.tables e below (s₁.setTop (mkF m 0 #[.val (.int p1), .val (.int p2), .unset, .unset, .unset] [])) t → Steps p.tables e below (s₁.setTop (entryFrame m #[(.int p1), (.int p2)] maxLocals)) t := fun t kk_ => castTop (ef0 m p1 p2) kk_
  have pre1 : ∀ t, Steps p.tables e below (s₁.setTop (mkF m 8 #[.val (.int p1), .val (.int p2), .val (.int ((p1 &&& (2147483647 : Int32)) % (5 : Int32))), .unset, .unset] [(.int ((p1 &&& (2147483647 : Int32)) % (5 : Int32)))])) t → Steps p.tables e below (s₁.setTop (entryFrame m #[(.int p1), (.int p2)] maxLocals)) t := fun t kt => by
    refine pre0 t ?_
    show Steps p.tables e below (s₁.setTop (mkF m 0 #[.val (.int p1), .val (.int p2), .unset, .unset, .unset] [])) _
    refine XS.iloadN X0.here hx rfl (hb hby at_0) rfl ?_
    show Steps p.tables e below (s₁.setTop (mkF m 1 #[.val (.int p1), .val (.int p2), .unset, .unset, .unset] [(.int p1)])) _
    refine X0.ldcI hx hown (mvT hZ (hw _ (List.mem_of_getElem? (i := 0) rfl))) (g := (mkF m 1 #[.val (.int p1), .val (.int p2), .unset, .unset, .unset] [(.int p1)])) rfl (hb hby at_1) ?_
    show Steps p.tables e below (s₁.setTop (mkF m 3 #[.val (.int p1), .val (.int p2), .unset, .unset, .unset] [(.int (2147483647 : Int32)), (.int p1)])) _
    refine XS.iand X0.here hx rfl (hb hby at_3) rfl ?_
    show Steps p.tables e below (s₁.setTop (mkF m 4 #[.val (.int p1), .val (.int p2), .unset, .unset, .unset] [(.int (p1 &&& (2147483647 : Int32)))])) _
    refine XS.iconst X0.here hx rfl (hb hby at_4) ?_
    show Steps p.tables e below (s₁.setTop (mkF m 5 #[.val (.int p1), .val (.int p2), .unset, .unset, .unset] [(.int (5 : Int32)), (.int (p1 &&& (2147483647 : Int32)))])) _
    refine iremM (g := (mkF m 5 #[.val (.int p1), .val (.int p2), .unset, .unset, .unset] [(.int (5 : Int32)), (.int (p1 &&& (2147483647 : Int32)))])) X0 hx rfl (hb hby at_5) rfl (by decide) ?_
    show Steps p.tables e below (s₁.setTop (mkF m 6 #[.val (.int p1), .val (.int p2), .unset, .unset, .unset] [(.int ((p1 &&& (2147483647 : Int32)) % (5 : Int32)))])) _
    refine XS.istoreN X0.here hx rfl (hb hby at_6) rfl (l' := #[.val (.int p1), .val (.int p2), .val (.int ((p1 &&& (2147483647 : Int32)) % (5 : Int32))), .unset, .unset]) rfl ?_
    show Steps p.tables e below (s₁.setTop (mkF m 7 #[.val (.int p1), .val (.int p2), .val (.int ((p1 &&& (2147483647 : Int32)) % (5 : Int32))), .unset, .unset] [])) _
    refine XS.iloadN X0.here hx rfl (hb hby at_7) rfl ?_
    exact kt
  by_cases hc8_2 : ((p1 &&& (2147483647 : Int32)) % (5 : Int32)) = (0 : Int32)
  · obtain ⟨T3, X3, e3, st3⟩ := getS2 X0 hx hZ hown (host := "") (Or.inl (hw _ (List.mem_of_getElem? (i := 1) rfl))) Via.refl e0 S_ZERO (g := (mkF m 11 #[.val (.int p1), .val (.int p2), .val (.int ((p1 &&& (2147483647 : Int32)) % (5 : Int32))), .unset, .unset] [])) rfl (hb hby at_11)
    have pre4 : ∀ t, Steps p.tables e below (T3.setTop (mkF m 16 #[.val (.int p1), .val (.int p2), .val (.int ((p1 &&& (2147483647 : Int32)) % (5 : Int32))), .val (.ref w_ZERO), .unset] [(.int p2)])) t → Steps p.tables e below (s₁.setTop (entryFrame m #[(.int p1), (.int p2)] maxLocals)) t := fun t kt => by
      refine pre1 t ?_
      show Steps p.tables e below (s₁.setTop (mkF m 8 #[.val (.int p1), .val (.int p2), .val (.int ((p1 &&& (2147483647 : Int32)) % (5 : Int32))), .unset, .unset] [(.int ((p1 &&& (2147483647 : Int32)) % (5 : Int32)))])) _
      refine XS.ifNo X0.here hx rfl (hb hby at_8) rfl ((if0 _ _).trans (teq hc8_2).2) ?_
      show Steps p.tables e below (s₁.setTop (mkF m 11 #[.val (.int p1), .val (.int p2), .val (.int ((p1 &&& (2147483647 : Int32)) % (5 : Int32))), .unset, .unset] [])) _
      refine st3 _ ?_
      show Steps p.tables e below (T3.setTop (mkF m 14 #[.val (.int p1), .val (.int p2), .val (.int ((p1 &&& (2147483647 : Int32)) % (5 : Int32))), .unset, .unset] [(.ref w_ZERO)])) _
      refine XS.astoreN X3.here hx rfl (hb hby at_14) rfl rfl (l' := #[.val (.int p1), .val (.int p2), .val (.int ((p1 &&& (2147483647 : Int32)) % (5 : Int32))), .val (.ref w_ZERO), .unset]) rfl ?_
      show Steps p.tables e below (T3.setTop (mkF m 15 #[.val (.int p1), .val (.int p2), .val (.int ((p1 &&& (2147483647 : Int32)) % (5 : Int32))), .val (.ref w_ZERO), .unset] [])) _
      refine XS.iloadN X3.here hx rfl (hb hby at_15) rfl ?_
      exact kt
    by_cases hc16_5 : p2 = (0 : Int32)
    · obtain ⟨cq6, kq6, q6a, q6b, q6c⟩ := isOf hZ e3 E_ZERO
      obtain ⟨_, _, ⟨T6, L6, k6, n6⟩, -, X6, ⟨Lc6, hQ6, l6, y6, z6⟩, st6⟩ := X3.virtualBack hx (y := (⟨"com/example/mint_path/mintpath/type/Occurrence", "allows", "(I)Z"⟩ : MethodName)) (z := (⟨"com/example/mint_path/mintpath/type/Occurrence", "allows", "(I)Z"⟩ : MethodName)) hown (mvT hZ (hw _ (List.mem_of_getElem? (i := 4) rfl))) (mvT hZ (hw _ (List.mem_of_getElem? (i := 5) rfl))) (notFace_of_selects (args := #[]) (mvT hZ (hw _ (List.mem_of_getElem? (i := 7) rfl)))) (mvT hZ (hw _ (List.mem_of_getElem? (i := 7) rfl))) (mvT hZ (hw _ (List.mem_of_getElem? (i := 6) rfl))) (by decide) (backOf (W := 0) (rmA l Z a0 hw [] w_ZERO p2 (0 : Int32) (0 : Int32) h0 n0 Z0 A_ZERO B_ZERO) hZ (hw _ (List.mem_of_getElem? (i := 8) rfl)) (hw _ (List.mem_of_getElem? (i := 2) rfl)) (by decide) (by decide)) q6a q6c (g := (mkF m 122 #[.val (.int p1), .val (.int p2), .val (.int ((p1 &&& (2147483647 : Int32)) % (5 : Int32))), .val (.ref w_ZERO), .val (.int (1 : Int32))] [(.int p2), (.ref w_ZERO)])) rfl (by rw [hml]; rfl) (Steps.refl _) (argsL := [(.int p2)]) (rest := []) (lenOf pd0_0 rfl) rfl (by show 2 * 0 + _ ≤ _; exact Nat.le_of_eq rfl) (hb hby at_122) (fun _ _ => ⟨rfl, e3, (by decide : 0 + 0 ≤ _), (by decide : 0 + 0 ≤ _)⟩)
      dsimp only [Pt.U, Pt.locs, Pt.cells, Pt.slots] at X6 l6 y6 z6 st6 hQ6
      subst l6 y6 z6
      obtain ⟨rfl, N6q, eh6⟩ := hQ6
      have N6 := Fr.app N0 N6q
      obtain ⟨fs, hr, hrun, hended, hW, hsame⟩ := X6.leave (v := some (.int (1 : Int32))) (fun h => by rw [Bd.returns] at h; cases h)
      refine ⟨_, _, pre4 _ ?_, hrun, hended, _, _, rfl, ?_, ⟨_, rfl⟩, hW, hsame.mono (by decide) (by decide)⟩
      · show Steps p.tables e below (T3.setTop (mkF m 16 #[.val (.int p1), .val (.int p2), .val (.int ((p1 &&& (2147483647 : Int32)) % (5 : Int32))), .val (.ref w_ZERO), .unset] [(.int p2)])) _
        refine XS.ifNo X3.here hx rfl (hb hby at_16) rfl ((if0 _ _).trans (teq hc16_5).2) ?_
        show Steps p.tables e below (T3.setTop (mkF m 19 #[.val (.int p1), .val (.int p2), .val (.int ((p1 &&& (2147483647 : Int32)) % (5 : Int32))), .val (.ref w_ZERO), .unset] [])) _
        refine XS.iconst X3.here hx rfl (hb hby at_19) ?_
        show Steps p.tables e below (T3.setTop (mkF m 20 #[.val (.int p1), .val (.int p2), .val (.int ((p1 &&& (2147483647 : Int32)) % (5 : Int32))), .val (.ref w_ZERO), .unset] [(.int (1 : Int32))])) _
        refine XS.goto X3.here hx rfl (pc0 := 20) (pc' := 24) rfl (hb hby at_20) (by decide) (by decide) ?_
        show Steps p.tables e below (T3.setTop (mkF m 24 #[.val (.int p1), .val (.int p2), .val (.int ((p1 &&& (2147483647 : Int32)) % (5 : Int32))), .val (.ref w_ZERO), .unset] [(.int (1 : Int32))])) _
        refine XS.istore X3.here hx rfl (hb hby at_24) rfl (l' := #[.val (.int p1), .val (.int p2), .val (.int ((p1 &&& (2147483647 : Int32)) % (5 : Int32))), .val (.ref w_ZERO), .val (.int (1 : Int32))]) rfl ?_
        show Steps p.tables e below (T3.setTop (mkF m 26 #[.val (.int p1), .val (.int p2), .val (.int ((p1 &&& (2147483647 : Int32)) % (5 : Int32))), .val (.ref w_ZERO), .val (.int (1 : Int32))] [])) _
        refine XS.goto X3.here hx rfl (pc0 := 26) (pc' := 120) rfl (hb hby at_26) (by decide) (by decide) ?_
        show Steps p.tables e below (T3.setTop (mkF m 120 #[.val (.int p1), .val (.int p2), .val (.int ((p1 &&& (2147483647 : Int32)) % (5 : Int32))), .val (.ref w_ZERO), .val (.int (1 : Int32))] [])) _
        refine XS.aloadN X3.here hx rfl (hb hby at_120) rfl rfl ?_
        show Steps p.tables e below (T3.setTop (mkF m 121 #[.val (.int p1), .val (.int p2), .val (.int ((p1 &&& (2147483647 : Int32)) % (5 : Int32))), .val (.ref w_ZERO), .val (.int (1 : Int32))] [(.ref w_ZERO)])) _
        refine XS.iloadN X3.here hx rfl (hb hby at_121) rfl ?_
        show Steps p.tables e below (T3.setTop (mkF m 122 #[.val (.int p1), .val (.int p2), .val (.int ((p1 &&& (2147483647 : Int32)) % (5 : Int32))), .val (.ref w_ZERO), .val (.int (1 : Int32))] [(.int p2), (.ref w_ZERO)])) _
        refine st6.trans ?_
        show Steps p.tables e below (T6.setTop (mkF m 125 #[.val (.int p1), .val (.int p2), .val (.int ((p1 &&& (2147483647 : Int32)) % (5 : Int32))), .val (.ref w_ZERO), .val (.int (1 : Int32))] [(.int (own_allows p2 (0 : Int32) (0 : Int32)))])) _
        refine XS.iload X6.here hx rfl (hb hby at_125) rfl ?_
        show Steps p.tables e below (T6.setTop (mkF m 127 #[.val (.int p1), .val (.int p2), .val (.int ((p1 &&& (2147483647 : Int32)) % (5 : Int32))), .val (.ref w_ZERO), .val (.int (1 : Int32))] [(.int (1 : Int32)), (.int (own_allows p2 (0 : Int32) (0 : Int32)))])) _
        refine XS.icmpNo X6.here hx rfl (hb hby at_127) rfl (teq (by have r := rng32 p2; have c0 : (0 : Int32).toInt = 0 := rfl; have c1 : (1 : Int32).toInt = 1 := rfl; have c2 : (2147483647 : Int32).toInt = 2147483647 := rfl; simp only [Int32.lt_iff_toInt_lt, ← Int32.toInt_inj] at hc16_5; exact own_yes (by omega) (by omega) : (own_allows p2 (0 : Int32) (0 : Int32)) = (1 : Int32))).2 ?_
        show Steps p.tables e below (T6.setTop (mkF m 130 #[.val (.int p1), .val (.int p2), .val (.int ((p1 &&& (2147483647 : Int32)) % (5 : Int32))), .val (.ref w_ZERO), .val (.int (1 : Int32))] [])) _
        refine XS.iconst X6.here hx rfl (hb hby at_130) ?_
        show Steps p.tables e below (T6.setTop (mkF m 131 #[.val (.int p1), .val (.int p2), .val (.int ((p1 &&& (2147483647 : Int32)) % (5 : Int32))), .val (.ref w_ZERO), .val (.int (1 : Int32))] [(.int (1 : Int32))])) _
        refine XS.goto X6.here hx rfl (pc0 := 131) (pc' := 135) rfl (hb hby at_131) (by decide) (by decide) ?_
        show Steps p.tables e below (T6.setTop (mkF m 135 #[.val (.int p1), .val (.int p2), .val (.int ((p1 &&& (2147483647 : Int32)) % (5 : Int32))), .val (.ref w_ZERO), .val (.int (1 : Int32))] [(.int (1 : Int32))])) _
        exact retN X6 hx (t := .boolean) Bd.returns (by simp) (hb hby at_135) hr
      · show Q0 h0 n0 _ T6.heap _
        rw [eh6]
        exact ⟨rfl, N6⟩
    · obtain ⟨cq7, kq7, q7a, q7b, q7c⟩ := isOf hZ e3 E_ZERO
      obtain ⟨_, _, ⟨T7, L7, k7, n7⟩, -, X7, ⟨Lc7, hQ7, l7, y7, z7⟩, st7⟩ := X3.virtualBack hx (y := (⟨"com/example/mint_path/mintpath/type/Occurrence", "allows", "(I)Z"⟩ : MethodName)) (z := (⟨"com/example/mint_path/mintpath/type/Occurrence", "allows", "(I)Z"⟩ : MethodName)) hown (mvT hZ (hw _ (List.mem_of_getElem? (i := 4) rfl))) (mvT hZ (hw _ (List.mem_of_getElem? (i := 5) rfl))) (notFace_of_selects (args := #[]) (mvT hZ (hw _ (List.mem_of_getElem? (i := 7) rfl)))) (mvT hZ (hw _ (List.mem_of_getElem? (i := 7) rfl))) (mvT hZ (hw _ (List.mem_of_getElem? (i := 6) rfl))) (by decide) (backOf (W := 0) (rmA l Z a0 hw [] w_ZERO p2 (0 : Int32) (0 : Int32) h0 n0 Z0 A_ZERO B_ZERO) hZ (hw _ (List.mem_of_getElem? (i := 8) rfl)) (hw _ (List.mem_of_getElem? (i := 2) rfl)) (by decide) (by decide)) q7a q7c (g := (mkF m 122 #[.val (.int p1), .val (.int p2), .val (.int ((p1 &&& (2147483647 : Int32)) % (5 : Int32))), .val (.ref w_ZERO), .val (.int (0 : Int32))] [(.int p2), (.ref w_ZERO)])) rfl (by rw [hml]; rfl) (Steps.refl _) (argsL := [(.int p2)]) (rest := []) (lenOf pd0_0 rfl) rfl (by show 2 * 0 + _ ≤ _; exact Nat.le_of_eq rfl) (hb hby at_122) (fun _ _ => ⟨rfl, e3, (by decide : 0 + 0 ≤ _), (by decide : 0 + 0 ≤ _)⟩)
      dsimp only [Pt.U, Pt.locs, Pt.cells, Pt.slots] at X7 l7 y7 z7 st7 hQ7
      subst l7 y7 z7
      obtain ⟨rfl, N7q, eh7⟩ := hQ7
      have N7 := Fr.app N0 N7q
      obtain ⟨fs, hr, hrun, hended, hW, hsame⟩ := X7.leave (v := some (.int (1 : Int32))) (fun h => by rw [Bd.returns] at h; cases h)
      refine ⟨_, _, pre4 _ ?_, hrun, hended, _, _, rfl, ?_, ⟨_, rfl⟩, hW, hsame.mono (by decide) (by decide)⟩
      · show Steps p.tables e below (T3.setTop (mkF m 16 #[.val (.int p1), .val (.int p2), .val (.int ((p1 &&& (2147483647 : Int32)) % (5 : Int32))), .val (.ref w_ZERO), .unset] [(.int p2)])) _
        refine XS.ifYes X3.here hx rfl (pc0 := 16) (pc' := 23) rfl (hb hby at_16) rfl ((if0 _ _).trans (feq hc16_5).2) (by decide) (by decide) ?_
        show Steps p.tables e below (T3.setTop (mkF m 23 #[.val (.int p1), .val (.int p2), .val (.int ((p1 &&& (2147483647 : Int32)) % (5 : Int32))), .val (.ref w_ZERO), .unset] [])) _
        refine XS.iconst X3.here hx rfl (hb hby at_23) ?_
        show Steps p.tables e below (T3.setTop (mkF m 24 #[.val (.int p1), .val (.int p2), .val (.int ((p1 &&& (2147483647 : Int32)) % (5 : Int32))), .val (.ref w_ZERO), .unset] [(.int (0 : Int32))])) _
        refine XS.istore X3.here hx rfl (hb hby at_24) rfl (l' := #[.val (.int p1), .val (.int p2), .val (.int ((p1 &&& (2147483647 : Int32)) % (5 : Int32))), .val (.ref w_ZERO), .val (.int (0 : Int32))]) rfl ?_
        show Steps p.tables e below (T3.setTop (mkF m 26 #[.val (.int p1), .val (.int p2), .val (.int ((p1 &&& (2147483647 : Int32)) % (5 : Int32))), .val (.ref w_ZERO), .val (.int (0 : Int32))] [])) _
        refine XS.goto X3.here hx rfl (pc0 := 26) (pc' := 120) rfl (hb hby at_26) (by decide) (by decide) ?_
        show Steps p.tables e below (T3.setTop (mkF m 120 #[.val (.int p1), .val (.int p2), .val (.int ((p1 &&& (2147483647 : Int32)) % (5 : Int32))), .val (.ref w_ZERO), .val (.int (0 : Int32))] [])) _
        refine XS.aloadN X3.here hx rfl (hb hby at_120) rfl rfl ?_
        show Steps p.tables e below (T3.setTop (mkF m 121 #[.val (.int p1), .val (.int p2), .val (.int ((p1 &&& (2147483647 : Int32)) % (5 : Int32))), .val (.ref w_ZERO), .val (.int (0 : Int32))] [(.ref w_ZERO)])) _
        refine XS.iloadN X3.here hx rfl (hb hby at_121) rfl ?_
        show Steps p.tables e below (T3.setTop (mkF m 122 #[.val (.int p1), .val (.int p2), .val (.int ((p1 &&& (2147483647 : Int32)) % (5 : Int32))), .val (.ref w_ZERO), .val (.int (0 : Int32))] [(.int p2), (.ref w_ZERO)])) _
        refine st7.trans ?_
        show Steps p.tables e below (T7.setTop (mkF m 125 #[.val (.int p1), .val (.int p2), .val (.int ((p1 &&& (2147483647 : Int32)) % (5 : Int32))), .val (.ref w_ZERO), .val (.int (0 : Int32))] [(.int (own_allows p2 (0 : Int32) (0 : Int32)))])) _
        refine XS.iload X7.here hx rfl (hb hby at_125) rfl ?_
        show Steps p.tables e below (T7.setTop (mkF m 127 #[.val (.int p1), .val (.int p2), .val (.int ((p1 &&& (2147483647 : Int32)) % (5 : Int32))), .val (.ref w_ZERO), .val (.int (0 : Int32))] [(.int (0 : Int32)), (.int (own_allows p2 (0 : Int32) (0 : Int32)))])) _
        refine XS.icmpNo X7.here hx rfl (hb hby at_127) rfl (teq (by have r := rng32 p2; have c0 : (0 : Int32).toInt = 0 := rfl; have c1 : (1 : Int32).toInt = 1 := rfl; have c2 : (2147483647 : Int32).toInt = 2147483647 := rfl; simp only [Int32.lt_iff_toInt_lt, ← Int32.toInt_inj] at hc16_5; exact own_no (by omega) : (own_allows p2 (0 : Int32) (0 : Int32)) = (0 : Int32))).2 ?_
        show Steps p.tables e below (T7.setTop (mkF m 130 #[.val (.int p1), .val (.int p2), .val (.int ((p1 &&& (2147483647 : Int32)) % (5 : Int32))), .val (.ref w_ZERO), .val (.int (0 : Int32))] [])) _
        refine XS.iconst X7.here hx rfl (hb hby at_130) ?_
        show Steps p.tables e below (T7.setTop (mkF m 131 #[.val (.int p1), .val (.int p2), .val (.int ((p1 &&& (2147483647 : Int32)) % (5 : Int32))), .val (.ref w_ZERO), .val (.int (0 : Int32))] [(.int (1 : Int32))])) _
        refine XS.goto X7.here hx rfl (pc0 := 131) (pc' := 135) rfl (hb hby at_131) (by decide) (by decide) ?_
        show Steps p.tables e below (T7.setTop (mkF m 135 #[.val (.int p1), .val (.int p2), .val (.int ((p1 &&& (2147483647 : Int32)) % (5 : Int32))), .val (.ref w_ZERO), .val (.int (0 : Int32))] [(.int (1 : Int32))])) _
        exact retN X7 hx (t := .boolean) Bd.returns (by simp) (hb hby at_135) hr
      · show Q0 h0 n0 _ T7.heap _
        rw [eh7]
        exact ⟨rfl, N7⟩
  · have pre8 : ∀ t, Steps p.tables e below (s₁.setTop (mkF m 31 #[.val (.int p1), .val (.int p2), .val (.int ((p1 &&& (2147483647 : Int32)) % (5 : Int32))), .unset, .unset] [(.int (1 : Int32)), (.int ((p1 &&& (2147483647 : Int32)) % (5 : Int32)))])) t → Steps p.tables e below (s₁.setTop (entryFrame m #[(.int p1), (.int p2)] maxLocals)) t := fun t kt => by
      refine pre1 t ?_
      show Steps p.tables e below (s₁.setTop (mkF m 8 #[.val (.int p1), .val (.int p2), .val (.int ((p1 &&& (2147483647 : Int32)) % (5 : Int32))), .unset, .unset] [(.int ((p1 &&& (2147483647 : Int32)) % (5 : Int32)))])) _
      refine XS.ifYes X0.here hx rfl (pc0 := 8) (pc' := 29) rfl (hb hby at_8) rfl ((if0 _ _).trans (feq hc8_2).2) (by decide) (by decide) ?_
      show Steps p.tables e below (s₁.setTop (mkF m 29 #[.val (.int p1), .val (.int p2), .val (.int ((p1 &&& (2147483647 : Int32)) % (5 : Int32))), .unset, .unset] [])) _
      refine XS.iloadN X0.here hx rfl (hb hby at_29) rfl ?_
      show Steps p.tables e below (s₁.setTop (mkF m 30 #[.val (.int p1), .val (.int p2), .val (.int ((p1 &&& (2147483647 : Int32)) % (5 : Int32))), .unset, .unset] [(.int ((p1 &&& (2147483647 : Int32)) % (5 : Int32)))])) _
      refine XS.iconst X0.here hx rfl (hb hby at_30) ?_
      exact kt
    by_cases hc31_9 : ((p1 &&& (2147483647 : Int32)) % (5 : Int32)) = (1 : Int32)
    · obtain ⟨T10, X10, e10, st10⟩ := getS2 X0 hx hZ hown (host := "") (Or.inl (hw _ (List.mem_of_getElem? (i := 17) rfl))) Via.refl e0 S_EXACTLY_ONE (g := (mkF m 34 #[.val (.int p1), .val (.int p2), .val (.int ((p1 &&& (2147483647 : Int32)) % (5 : Int32))), .unset, .unset] [])) rfl (hb hby at_34)
      have pre11 : ∀ t, Steps p.tables e below (T10.setTop (mkF m 40 #[.val (.int p1), .val (.int p2), .val (.int ((p1 &&& (2147483647 : Int32)) % (5 : Int32))), .val (.ref w_EXACTLY_ONE), .unset] [(.int (1 : Int32)), (.int p2)])) t → Steps p.tables e below (s₁.setTop (entryFrame m #[(.int p1), (.int p2)] maxLocals)) t := fun t kt => by
        refine pre8 t ?_
        show Steps p.tables e below (s₁.setTop (mkF m 31 #[.val (.int p1), .val (.int p2), .val (.int ((p1 &&& (2147483647 : Int32)) % (5 : Int32))), .unset, .unset] [(.int (1 : Int32)), (.int ((p1 &&& (2147483647 : Int32)) % (5 : Int32)))])) _
        refine XS.icmpNo X0.here hx rfl (hb hby at_31) rfl (teq hc31_9).2 ?_
        show Steps p.tables e below (s₁.setTop (mkF m 34 #[.val (.int p1), .val (.int p2), .val (.int ((p1 &&& (2147483647 : Int32)) % (5 : Int32))), .unset, .unset] [])) _
        refine st10 _ ?_
        show Steps p.tables e below (T10.setTop (mkF m 37 #[.val (.int p1), .val (.int p2), .val (.int ((p1 &&& (2147483647 : Int32)) % (5 : Int32))), .unset, .unset] [(.ref w_EXACTLY_ONE)])) _
        refine XS.astoreN X10.here hx rfl (hb hby at_37) rfl rfl (l' := #[.val (.int p1), .val (.int p2), .val (.int ((p1 &&& (2147483647 : Int32)) % (5 : Int32))), .val (.ref w_EXACTLY_ONE), .unset]) rfl ?_
        show Steps p.tables e below (T10.setTop (mkF m 38 #[.val (.int p1), .val (.int p2), .val (.int ((p1 &&& (2147483647 : Int32)) % (5 : Int32))), .val (.ref w_EXACTLY_ONE), .unset] [])) _
        refine XS.iloadN X10.here hx rfl (hb hby at_38) rfl ?_
        show Steps p.tables e below (T10.setTop (mkF m 39 #[.val (.int p1), .val (.int p2), .val (.int ((p1 &&& (2147483647 : Int32)) % (5 : Int32))), .val (.ref w_EXACTLY_ONE), .unset] [(.int p2)])) _
        refine XS.iconst X10.here hx rfl (hb hby at_39) ?_
        exact kt
      by_cases hc40_12 : p2 = (1 : Int32)
      · obtain ⟨cq13, kq13, q13a, q13b, q13c⟩ := isOf hZ e10 E_EXACTLY_ONE
        obtain ⟨_, _, ⟨T13, L13, k13, n13⟩, -, X13, ⟨Lc13, hQ13, l13, y13, z13⟩, st13⟩ := X10.virtualBack hx (y := (⟨"com/example/mint_path/mintpath/type/Occurrence", "allows", "(I)Z"⟩ : MethodName)) (z := (⟨"com/example/mint_path/mintpath/type/Occurrence", "allows", "(I)Z"⟩ : MethodName)) hown (mvT hZ (hw _ (List.mem_of_getElem? (i := 4) rfl))) (mvT hZ (hw _ (List.mem_of_getElem? (i := 5) rfl))) (notFace_of_selects (args := #[]) (mvT hZ (hw _ (List.mem_of_getElem? (i := 7) rfl)))) (mvT hZ (hw _ (List.mem_of_getElem? (i := 7) rfl))) (mvT hZ (hw _ (List.mem_of_getElem? (i := 6) rfl))) (by decide) (backOf (W := 0) (rmA l Z a0 hw [] w_EXACTLY_ONE p2 (1 : Int32) (1 : Int32) h0 n0 Z0 A_EXACTLY_ONE B_EXACTLY_ONE) hZ (hw _ (List.mem_of_getElem? (i := 8) rfl)) (hw _ (List.mem_of_getElem? (i := 2) rfl)) (by decide) (by decide)) q13a q13c (g := (mkF m 122 #[.val (.int p1), .val (.int p2), .val (.int ((p1 &&& (2147483647 : Int32)) % (5 : Int32))), .val (.ref w_EXACTLY_ONE), .val (.int (1 : Int32))] [(.int p2), (.ref w_EXACTLY_ONE)])) rfl (by rw [hml]; rfl) (Steps.refl _) (argsL := [(.int p2)]) (rest := []) (lenOf pd0_0 rfl) rfl (by show 2 * 0 + _ ≤ _; exact Nat.le_of_eq rfl) (hb hby at_122) (fun _ _ => ⟨rfl, e10, (by decide : 0 + 0 ≤ _), (by decide : 0 + 0 ≤ _)⟩)
        dsimp only [Pt.U, Pt.locs, Pt.cells, Pt.slots] at X13 l13 y13 z13 st13 hQ13
        subst l13 y13 z13
        obtain ⟨rfl, N13q, eh13⟩ := hQ13
        have N13 := Fr.app N0 N13q
        obtain ⟨fs, hr, hrun, hended, hW, hsame⟩ := X13.leave (v := some (.int (1 : Int32))) (fun h => by rw [Bd.returns] at h; cases h)
        refine ⟨_, _, pre11 _ ?_, hrun, hended, _, _, rfl, ?_, ⟨_, rfl⟩, hW, hsame.mono (by decide) (by decide)⟩
        · show Steps p.tables e below (T10.setTop (mkF m 40 #[.val (.int p1), .val (.int p2), .val (.int ((p1 &&& (2147483647 : Int32)) % (5 : Int32))), .val (.ref w_EXACTLY_ONE), .unset] [(.int (1 : Int32)), (.int p2)])) _
          refine XS.icmpNo X10.here hx rfl (hb hby at_40) rfl (teq hc40_12).2 ?_
          show Steps p.tables e below (T10.setTop (mkF m 43 #[.val (.int p1), .val (.int p2), .val (.int ((p1 &&& (2147483647 : Int32)) % (5 : Int32))), .val (.ref w_EXACTLY_ONE), .unset] [])) _
          refine XS.iconst X10.here hx rfl (hb hby at_43) ?_
          show Steps p.tables e below (T10.setTop (mkF m 44 #[.val (.int p1), .val (.int p2), .val (.int ((p1 &&& (2147483647 : Int32)) % (5 : Int32))), .val (.ref w_EXACTLY_ONE), .unset] [(.int (1 : Int32))])) _
          refine XS.goto X10.here hx rfl (pc0 := 44) (pc' := 48) rfl (hb hby at_44) (by decide) (by decide) ?_
          show Steps p.tables e below (T10.setTop (mkF m 48 #[.val (.int p1), .val (.int p2), .val (.int ((p1 &&& (2147483647 : Int32)) % (5 : Int32))), .val (.ref w_EXACTLY_ONE), .unset] [(.int (1 : Int32))])) _
          refine XS.istore X10.here hx rfl (hb hby at_48) rfl (l' := #[.val (.int p1), .val (.int p2), .val (.int ((p1 &&& (2147483647 : Int32)) % (5 : Int32))), .val (.ref w_EXACTLY_ONE), .val (.int (1 : Int32))]) rfl ?_
          show Steps p.tables e below (T10.setTop (mkF m 50 #[.val (.int p1), .val (.int p2), .val (.int ((p1 &&& (2147483647 : Int32)) % (5 : Int32))), .val (.ref w_EXACTLY_ONE), .val (.int (1 : Int32))] [])) _
          refine XS.goto X10.here hx rfl (pc0 := 50) (pc' := 120) rfl (hb hby at_50) (by decide) (by decide) ?_
          show Steps p.tables e below (T10.setTop (mkF m 120 #[.val (.int p1), .val (.int p2), .val (.int ((p1 &&& (2147483647 : Int32)) % (5 : Int32))), .val (.ref w_EXACTLY_ONE), .val (.int (1 : Int32))] [])) _
          refine XS.aloadN X10.here hx rfl (hb hby at_120) rfl rfl ?_
          show Steps p.tables e below (T10.setTop (mkF m 121 #[.val (.int p1), .val (.int p2), .val (.int ((p1 &&& (2147483647 : Int32)) % (5 : Int32))), .val (.ref w_EXACTLY_ONE), .val (.int (1 : Int32))] [(.ref w_EXACTLY_ONE)])) _
          refine XS.iloadN X10.here hx rfl (hb hby at_121) rfl ?_
          show Steps p.tables e below (T10.setTop (mkF m 122 #[.val (.int p1), .val (.int p2), .val (.int ((p1 &&& (2147483647 : Int32)) % (5 : Int32))), .val (.ref w_EXACTLY_ONE), .val (.int (1 : Int32))] [(.int p2), (.ref w_EXACTLY_ONE)])) _
          refine st13.trans ?_
          show Steps p.tables e below (T13.setTop (mkF m 125 #[.val (.int p1), .val (.int p2), .val (.int ((p1 &&& (2147483647 : Int32)) % (5 : Int32))), .val (.ref w_EXACTLY_ONE), .val (.int (1 : Int32))] [(.int (own_allows p2 (1 : Int32) (1 : Int32)))])) _
          refine XS.iload X13.here hx rfl (hb hby at_125) rfl ?_
          show Steps p.tables e below (T13.setTop (mkF m 127 #[.val (.int p1), .val (.int p2), .val (.int ((p1 &&& (2147483647 : Int32)) % (5 : Int32))), .val (.ref w_EXACTLY_ONE), .val (.int (1 : Int32))] [(.int (1 : Int32)), (.int (own_allows p2 (1 : Int32) (1 : Int32)))])) _
          refine XS.icmpNo X13.here hx rfl (hb hby at_127) rfl (teq (by have r := rng32 p2; have c0 : (0 : Int32).toInt = 0 := rfl; have c1 : (1 : Int32).toInt = 1 := rfl; have c2 : (2147483647 : Int32).toInt = 2147483647 := rfl; simp only [Int32.lt_iff_toInt_lt, ← Int32.toInt_inj] at hc40_12; exact own_yes (by omega) (by omega) : (own_allows p2 (1 : Int32) (1 : Int32)) = (1 : Int32))).2 ?_
          show Steps p.tables e below (T13.setTop (mkF m 130 #[.val (.int p1), .val (.int p2), .val (.int ((p1 &&& (2147483647 : Int32)) % (5 : Int32))), .val (.ref w_EXACTLY_ONE), .val (.int (1 : Int32))] [])) _
          refine XS.iconst X13.here hx rfl (hb hby at_130) ?_
          show Steps p.tables e below (T13.setTop (mkF m 131 #[.val (.int p1), .val (.int p2), .val (.int ((p1 &&& (2147483647 : Int32)) % (5 : Int32))), .val (.ref w_EXACTLY_ONE), .val (.int (1 : Int32))] [(.int (1 : Int32))])) _
          refine XS.goto X13.here hx rfl (pc0 := 131) (pc' := 135) rfl (hb hby at_131) (by decide) (by decide) ?_
          show Steps p.tables e below (T13.setTop (mkF m 135 #[.val (.int p1), .val (.int p2), .val (.int ((p1 &&& (2147483647 : Int32)) % (5 : Int32))), .val (.ref w_EXACTLY_ONE), .val (.int (1 : Int32))] [(.int (1 : Int32))])) _
          exact retN X13 hx (t := .boolean) Bd.returns (by simp) (hb hby at_135) hr
        · show Q0 h0 n0 _ T13.heap _
          rw [eh13]
          exact ⟨rfl, N13⟩
      · obtain ⟨cq14, kq14, q14a, q14b, q14c⟩ := isOf hZ e10 E_EXACTLY_ONE
        obtain ⟨_, _, ⟨T14, L14, k14, n14⟩, -, X14, ⟨Lc14, hQ14, l14, y14, z14⟩, st14⟩ := X10.virtualBack hx (y := (⟨"com/example/mint_path/mintpath/type/Occurrence", "allows", "(I)Z"⟩ : MethodName)) (z := (⟨"com/example/mint_path/mintpath/type/Occurrence", "allows", "(I)Z"⟩ : MethodName)) hown (mvT hZ (hw _ (List.mem_of_getElem? (i := 4) rfl))) (mvT hZ (hw _ (List.mem_of_getElem? (i := 5) rfl))) (notFace_of_selects (args := #[]) (mvT hZ (hw _ (List.mem_of_getElem? (i := 7) rfl)))) (mvT hZ (hw _ (List.mem_of_getElem? (i := 7) rfl))) (mvT hZ (hw _ (List.mem_of_getElem? (i := 6) rfl))) (by decide) (backOf (W := 0) (rmA l Z a0 hw [] w_EXACTLY_ONE p2 (1 : Int32) (1 : Int32) h0 n0 Z0 A_EXACTLY_ONE B_EXACTLY_ONE) hZ (hw _ (List.mem_of_getElem? (i := 8) rfl)) (hw _ (List.mem_of_getElem? (i := 2) rfl)) (by decide) (by decide)) q14a q14c (g := (mkF m 122 #[.val (.int p1), .val (.int p2), .val (.int ((p1 &&& (2147483647 : Int32)) % (5 : Int32))), .val (.ref w_EXACTLY_ONE), .val (.int (0 : Int32))] [(.int p2), (.ref w_EXACTLY_ONE)])) rfl (by rw [hml]; rfl) (Steps.refl _) (argsL := [(.int p2)]) (rest := []) (lenOf pd0_0 rfl) rfl (by show 2 * 0 + _ ≤ _; exact Nat.le_of_eq rfl) (hb hby at_122) (fun _ _ => ⟨rfl, e10, (by decide : 0 + 0 ≤ _), (by decide : 0 + 0 ≤ _)⟩)
        dsimp only [Pt.U, Pt.locs, Pt.cells, Pt.slots] at X14 l14 y14 z14 st14 hQ14
        subst l14 y14 z14
        obtain ⟨rfl, N14q, eh14⟩ := hQ14
        have N14 := Fr.app N0 N14q
        obtain ⟨fs, hr, hrun, hended, hW, hsame⟩ := X14.leave (v := some (.int (1 : Int32))) (fun h => by rw [Bd.returns] at h; cases h)
        refine ⟨_, _, pre11 _ ?_, hrun, hended, _, _, rfl, ?_, ⟨_, rfl⟩, hW, hsame.mono (by decide) (by decide)⟩
        · show Steps p.tables e below (T10.setTop (mkF m 40 #[.val (.int p1), .val (.int p2), .val (.int ((p1 &&& (2147483647 : Int32)) % (5 : Int32))), .val (.ref w_EXACTLY_ONE), .unset] [(.int (1 : Int32)), (.int p2)])) _
          refine XS.icmpYes X10.here hx rfl (pc0 := 40) (pc' := 47) rfl (hb hby at_40) rfl (feq hc40_12).2 (by decide) (by decide) ?_
          show Steps p.tables e below (T10.setTop (mkF m 47 #[.val (.int p1), .val (.int p2), .val (.int ((p1 &&& (2147483647 : Int32)) % (5 : Int32))), .val (.ref w_EXACTLY_ONE), .unset] [])) _
          refine XS.iconst X10.here hx rfl (hb hby at_47) ?_
          show Steps p.tables e below (T10.setTop (mkF m 48 #[.val (.int p1), .val (.int p2), .val (.int ((p1 &&& (2147483647 : Int32)) % (5 : Int32))), .val (.ref w_EXACTLY_ONE), .unset] [(.int (0 : Int32))])) _
          refine XS.istore X10.here hx rfl (hb hby at_48) rfl (l' := #[.val (.int p1), .val (.int p2), .val (.int ((p1 &&& (2147483647 : Int32)) % (5 : Int32))), .val (.ref w_EXACTLY_ONE), .val (.int (0 : Int32))]) rfl ?_
          show Steps p.tables e below (T10.setTop (mkF m 50 #[.val (.int p1), .val (.int p2), .val (.int ((p1 &&& (2147483647 : Int32)) % (5 : Int32))), .val (.ref w_EXACTLY_ONE), .val (.int (0 : Int32))] [])) _
          refine XS.goto X10.here hx rfl (pc0 := 50) (pc' := 120) rfl (hb hby at_50) (by decide) (by decide) ?_
          show Steps p.tables e below (T10.setTop (mkF m 120 #[.val (.int p1), .val (.int p2), .val (.int ((p1 &&& (2147483647 : Int32)) % (5 : Int32))), .val (.ref w_EXACTLY_ONE), .val (.int (0 : Int32))] [])) _
          refine XS.aloadN X10.here hx rfl (hb hby at_120) rfl rfl ?_
          show Steps p.tables e below (T10.setTop (mkF m 121 #[.val (.int p1), .val (.int p2), .val (.int ((p1 &&& (2147483647 : Int32)) % (5 : Int32))), .val (.ref w_EXACTLY_ONE), .val (.int (0 : Int32))] [(.ref w_EXACTLY_ONE)])) _
          refine XS.iloadN X10.here hx rfl (hb hby at_121) rfl ?_
          show Steps p.tables e below (T10.setTop (mkF m 122 #[.val (.int p1), .val (.int p2), .val (.int ((p1 &&& (2147483647 : Int32)) % (5 : Int32))), .val (.ref w_EXACTLY_ONE), .val (.int (0 : Int32))] [(.int p2), (.ref w_EXACTLY_ONE)])) _
          refine st14.trans ?_
          show Steps p.tables e below (T14.setTop (mkF m 125 #[.val (.int p1), .val (.int p2), .val (.int ((p1 &&& (2147483647 : Int32)) % (5 : Int32))), .val (.ref w_EXACTLY_ONE), .val (.int (0 : Int32))] [(.int (own_allows p2 (1 : Int32) (1 : Int32)))])) _
          refine XS.iload X14.here hx rfl (hb hby at_125) rfl ?_
          show Steps p.tables e below (T14.setTop (mkF m 127 #[.val (.int p1), .val (.int p2), .val (.int ((p1 &&& (2147483647 : Int32)) % (5 : Int32))), .val (.ref w_EXACTLY_ONE), .val (.int (0 : Int32))] [(.int (0 : Int32)), (.int (own_allows p2 (1 : Int32) (1 : Int32)))])) _
          refine XS.icmpNo X14.here hx rfl (hb hby at_127) rfl (teq (by have r := rng32 p2; have c0 : (0 : Int32).toInt = 0 := rfl; have c1 : (1 : Int32).toInt = 1 := rfl; have c2 : (2147483647 : Int32).toInt = 2147483647 := rfl; simp only [Int32.lt_iff_toInt_lt, ← Int32.toInt_inj] at hc40_12; exact own_no (by omega) : (own_allows p2 (1 : Int32) (1 : Int32)) = (0 : Int32))).2 ?_
          show Steps p.tables e below (T14.setTop (mkF m 130 #[.val (.int p1), .val (.int p2), .val (.int ((p1 &&& (2147483647 : Int32)) % (5 : Int32))), .val (.ref w_EXACTLY_ONE), .val (.int (0 : Int32))] [])) _
          refine XS.iconst X14.here hx rfl (hb hby at_130) ?_
          show Steps p.tables e below (T14.setTop (mkF m 131 #[.val (.int p1), .val (.int p2), .val (.int ((p1 &&& (2147483647 : Int32)) % (5 : Int32))), .val (.ref w_EXACTLY_ONE), .val (.int (0 : Int32))] [(.int (1 : Int32))])) _
          refine XS.goto X14.here hx rfl (pc0 := 131) (pc' := 135) rfl (hb hby at_131) (by decide) (by decide) ?_
          show Steps p.tables e below (T14.setTop (mkF m 135 #[.val (.int p1), .val (.int p2), .val (.int ((p1 &&& (2147483647 : Int32)) % (5 : Int32))), .val (.ref w_EXACTLY_ONE), .val (.int (0 : Int32))] [(.int (1 : Int32))])) _
          exact retN X14 hx (t := .boolean) Bd.returns (by simp) (hb hby at_135) hr
        · show Q0 h0 n0 _ T14.heap _
          rw [eh14]
          exact ⟨rfl, N14⟩
    · have pre15 : ∀ t, Steps p.tables e below (s₁.setTop (mkF m 55 #[.val (.int p1), .val (.int p2), .val (.int ((p1 &&& (2147483647 : Int32)) % (5 : Int32))), .unset, .unset] [(.int (2 : Int32)), (.int ((p1 &&& (2147483647 : Int32)) % (5 : Int32)))])) t → Steps p.tables e below (s₁.setTop (entryFrame m #[(.int p1), (.int p2)] maxLocals)) t := fun t kt => by
        refine pre8 t ?_
        show Steps p.tables e below (s₁.setTop (mkF m 31 #[.val (.int p1), .val (.int p2), .val (.int ((p1 &&& (2147483647 : Int32)) % (5 : Int32))), .unset, .unset] [(.int (1 : Int32)), (.int ((p1 &&& (2147483647 : Int32)) % (5 : Int32)))])) _
        refine XS.icmpYes X0.here hx rfl (pc0 := 31) (pc' := 53) rfl (hb hby at_31) rfl (feq hc31_9).2 (by decide) (by decide) ?_
        show Steps p.tables e below (s₁.setTop (mkF m 53 #[.val (.int p1), .val (.int p2), .val (.int ((p1 &&& (2147483647 : Int32)) % (5 : Int32))), .unset, .unset] [])) _
        refine XS.iloadN X0.here hx rfl (hb hby at_53) rfl ?_
        show Steps p.tables e below (s₁.setTop (mkF m 54 #[.val (.int p1), .val (.int p2), .val (.int ((p1 &&& (2147483647 : Int32)) % (5 : Int32))), .unset, .unset] [(.int ((p1 &&& (2147483647 : Int32)) % (5 : Int32)))])) _
        refine XS.iconst X0.here hx rfl (hb hby at_54) ?_
        exact kt
      by_cases hc55_16 : ((p1 &&& (2147483647 : Int32)) % (5 : Int32)) = (2 : Int32)
      · obtain ⟨T17, X17, e17, st17⟩ := getS2 X0 hx hZ hown (host := "") (Or.inl (hw _ (List.mem_of_getElem? (i := 19) rfl))) Via.refl e0 S_ZERO_OR_ONE (g := (mkF m 58 #[.val (.int p1), .val (.int p2), .val (.int ((p1 &&& (2147483647 : Int32)) % (5 : Int32))), .unset, .unset] [])) rfl (hb hby at_58)
        have pre18 : ∀ t, Steps p.tables e below (T17.setTop (mkF m 63 #[.val (.int p1), .val (.int p2), .val (.int ((p1 &&& (2147483647 : Int32)) % (5 : Int32))), .val (.ref w_ZERO_OR_ONE), .unset] [(.int p2)])) t → Steps p.tables e below (s₁.setTop (entryFrame m #[(.int p1), (.int p2)] maxLocals)) t := fun t kt => by
          refine pre15 t ?_
          show Steps p.tables e below (s₁.setTop (mkF m 55 #[.val (.int p1), .val (.int p2), .val (.int ((p1 &&& (2147483647 : Int32)) % (5 : Int32))), .unset, .unset] [(.int (2 : Int32)), (.int ((p1 &&& (2147483647 : Int32)) % (5 : Int32)))])) _
          refine XS.icmpNo X0.here hx rfl (hb hby at_55) rfl (teq hc55_16).2 ?_
          show Steps p.tables e below (s₁.setTop (mkF m 58 #[.val (.int p1), .val (.int p2), .val (.int ((p1 &&& (2147483647 : Int32)) % (5 : Int32))), .unset, .unset] [])) _
          refine st17 _ ?_
          show Steps p.tables e below (T17.setTop (mkF m 61 #[.val (.int p1), .val (.int p2), .val (.int ((p1 &&& (2147483647 : Int32)) % (5 : Int32))), .unset, .unset] [(.ref w_ZERO_OR_ONE)])) _
          refine XS.astoreN X17.here hx rfl (hb hby at_61) rfl rfl (l' := #[.val (.int p1), .val (.int p2), .val (.int ((p1 &&& (2147483647 : Int32)) % (5 : Int32))), .val (.ref w_ZERO_OR_ONE), .unset]) rfl ?_
          show Steps p.tables e below (T17.setTop (mkF m 62 #[.val (.int p1), .val (.int p2), .val (.int ((p1 &&& (2147483647 : Int32)) % (5 : Int32))), .val (.ref w_ZERO_OR_ONE), .unset] [])) _
          refine XS.iloadN X17.here hx rfl (hb hby at_62) rfl ?_
          exact kt
        by_cases hc63_19 : p2 = (0 : Int32)
        · obtain ⟨cq20, kq20, q20a, q20b, q20c⟩ := isOf hZ e17 E_ZERO_OR_ONE
          obtain ⟨_, _, ⟨T20, L20, k20, n20⟩, -, X20, ⟨Lc20, hQ20, l20, y20, z20⟩, st20⟩ := X17.virtualBack hx (y := (⟨"com/example/mint_path/mintpath/type/Occurrence", "allows", "(I)Z"⟩ : MethodName)) (z := (⟨"com/example/mint_path/mintpath/type/Occurrence", "allows", "(I)Z"⟩ : MethodName)) hown (mvT hZ (hw _ (List.mem_of_getElem? (i := 4) rfl))) (mvT hZ (hw _ (List.mem_of_getElem? (i := 5) rfl))) (notFace_of_selects (args := #[]) (mvT hZ (hw _ (List.mem_of_getElem? (i := 7) rfl)))) (mvT hZ (hw _ (List.mem_of_getElem? (i := 7) rfl))) (mvT hZ (hw _ (List.mem_of_getElem? (i := 6) rfl))) (by decide) (backOf (W := 0) (rmA l Z a0 hw [] w_ZERO_OR_ONE p2 (0 : Int32) (1 : Int32) h0 n0 Z0 A_ZERO_OR_ONE B_ZERO_OR_ONE) hZ (hw _ (List.mem_of_getElem? (i := 8) rfl)) (hw _ (List.mem_of_getElem? (i := 2) rfl)) (by decide) (by decide)) q20a q20c (g := (mkF m 122 #[.val (.int p1), .val (.int p2), .val (.int ((p1 &&& (2147483647 : Int32)) % (5 : Int32))), .val (.ref w_ZERO_OR_ONE), .val (.int (1 : Int32))] [(.int p2), (.ref w_ZERO_OR_ONE)])) rfl (by rw [hml]; rfl) (Steps.refl _) (argsL := [(.int p2)]) (rest := []) (lenOf pd0_0 rfl) rfl (by show 2 * 0 + _ ≤ _; exact Nat.le_of_eq rfl) (hb hby at_122) (fun _ _ => ⟨rfl, e17, (by decide : 0 + 0 ≤ _), (by decide : 0 + 0 ≤ _)⟩)
          dsimp only [Pt.U, Pt.locs, Pt.cells, Pt.slots] at X20 l20 y20 z20 st20 hQ20
          subst l20 y20 z20
          obtain ⟨rfl, N20q, eh20⟩ := hQ20
          have N20 := Fr.app N0 N20q
          obtain ⟨fs, hr, hrun, hended, hW, hsame⟩ := X20.leave (v := some (.int (1 : Int32))) (fun h => by rw [Bd.returns] at h; cases h)
          refine ⟨_, _, pre18 _ ?_, hrun, hended, _, _, rfl, ?_, ⟨_, rfl⟩, hW, hsame.mono (by decide) (by decide)⟩
          · show Steps p.tables e below (T17.setTop (mkF m 63 #[.val (.int p1), .val (.int p2), .val (.int ((p1 &&& (2147483647 : Int32)) % (5 : Int32))), .val (.ref w_ZERO_OR_ONE), .unset] [(.int p2)])) _
            refine XS.ifYes X17.here hx rfl (pc0 := 63) (pc' := 71) rfl (hb hby at_63) rfl ((if0 _ _).trans (teq hc63_19).1) (by decide) (by decide) ?_
            show Steps p.tables e below (T17.setTop (mkF m 71 #[.val (.int p1), .val (.int p2), .val (.int ((p1 &&& (2147483647 : Int32)) % (5 : Int32))), .val (.ref w_ZERO_OR_ONE), .unset] [])) _
            refine XS.iconst X17.here hx rfl (hb hby at_71) ?_
            show Steps p.tables e below (T17.setTop (mkF m 72 #[.val (.int p1), .val (.int p2), .val (.int ((p1 &&& (2147483647 : Int32)) % (5 : Int32))), .val (.ref w_ZERO_OR_ONE), .unset] [(.int (1 : Int32))])) _
            refine XS.goto X17.here hx rfl (pc0 := 72) (pc' := 76) rfl (hb hby at_72) (by decide) (by decide) ?_
            show Steps p.tables e below (T17.setTop (mkF m 76 #[.val (.int p1), .val (.int p2), .val (.int ((p1 &&& (2147483647 : Int32)) % (5 : Int32))), .val (.ref w_ZERO_OR_ONE), .unset] [(.int (1 : Int32))])) _
            refine XS.istore X17.here hx rfl (hb hby at_76) rfl (l' := #[.val (.int p1), .val (.int p2), .val (.int ((p1 &&& (2147483647 : Int32)) % (5 : Int32))), .val (.ref w_ZERO_OR_ONE), .val (.int (1 : Int32))]) rfl ?_
            show Steps p.tables e below (T17.setTop (mkF m 78 #[.val (.int p1), .val (.int p2), .val (.int ((p1 &&& (2147483647 : Int32)) % (5 : Int32))), .val (.ref w_ZERO_OR_ONE), .val (.int (1 : Int32))] [])) _
            refine XS.goto X17.here hx rfl (pc0 := 78) (pc' := 120) rfl (hb hby at_78) (by decide) (by decide) ?_
            show Steps p.tables e below (T17.setTop (mkF m 120 #[.val (.int p1), .val (.int p2), .val (.int ((p1 &&& (2147483647 : Int32)) % (5 : Int32))), .val (.ref w_ZERO_OR_ONE), .val (.int (1 : Int32))] [])) _
            refine XS.aloadN X17.here hx rfl (hb hby at_120) rfl rfl ?_
            show Steps p.tables e below (T17.setTop (mkF m 121 #[.val (.int p1), .val (.int p2), .val (.int ((p1 &&& (2147483647 : Int32)) % (5 : Int32))), .val (.ref w_ZERO_OR_ONE), .val (.int (1 : Int32))] [(.ref w_ZERO_OR_ONE)])) _
            refine XS.iloadN X17.here hx rfl (hb hby at_121) rfl ?_
            show Steps p.tables e below (T17.setTop (mkF m 122 #[.val (.int p1), .val (.int p2), .val (.int ((p1 &&& (2147483647 : Int32)) % (5 : Int32))), .val (.ref w_ZERO_OR_ONE), .val (.int (1 : Int32))] [(.int p2), (.ref w_ZERO_OR_ONE)])) _
            refine st20.trans ?_
            show Steps p.tables e below (T20.setTop (mkF m 125 #[.val (.int p1), .val (.int p2), .val (.int ((p1 &&& (2147483647 : Int32)) % (5 : Int32))), .val (.ref w_ZERO_OR_ONE), .val (.int (1 : Int32))] [(.int (own_allows p2 (0 : Int32) (1 : Int32)))])) _
            refine XS.iload X20.here hx rfl (hb hby at_125) rfl ?_
            show Steps p.tables e below (T20.setTop (mkF m 127 #[.val (.int p1), .val (.int p2), .val (.int ((p1 &&& (2147483647 : Int32)) % (5 : Int32))), .val (.ref w_ZERO_OR_ONE), .val (.int (1 : Int32))] [(.int (1 : Int32)), (.int (own_allows p2 (0 : Int32) (1 : Int32)))])) _
            refine XS.icmpNo X20.here hx rfl (hb hby at_127) rfl (teq (by have r := rng32 p2; have c0 : (0 : Int32).toInt = 0 := rfl; have c1 : (1 : Int32).toInt = 1 := rfl; have c2 : (2147483647 : Int32).toInt = 2147483647 := rfl; simp only [Int32.lt_iff_toInt_lt, ← Int32.toInt_inj] at hc63_19; exact own_yes (by omega) (by omega) : (own_allows p2 (0 : Int32) (1 : Int32)) = (1 : Int32))).2 ?_
            show Steps p.tables e below (T20.setTop (mkF m 130 #[.val (.int p1), .val (.int p2), .val (.int ((p1 &&& (2147483647 : Int32)) % (5 : Int32))), .val (.ref w_ZERO_OR_ONE), .val (.int (1 : Int32))] [])) _
            refine XS.iconst X20.here hx rfl (hb hby at_130) ?_
            show Steps p.tables e below (T20.setTop (mkF m 131 #[.val (.int p1), .val (.int p2), .val (.int ((p1 &&& (2147483647 : Int32)) % (5 : Int32))), .val (.ref w_ZERO_OR_ONE), .val (.int (1 : Int32))] [(.int (1 : Int32))])) _
            refine XS.goto X20.here hx rfl (pc0 := 131) (pc' := 135) rfl (hb hby at_131) (by decide) (by decide) ?_
            show Steps p.tables e below (T20.setTop (mkF m 135 #[.val (.int p1), .val (.int p2), .val (.int ((p1 &&& (2147483647 : Int32)) % (5 : Int32))), .val (.ref w_ZERO_OR_ONE), .val (.int (1 : Int32))] [(.int (1 : Int32))])) _
            exact retN X20 hx (t := .boolean) Bd.returns (by simp) (hb hby at_135) hr
          · show Q0 h0 n0 _ T20.heap _
            rw [eh20]
            exact ⟨rfl, N20⟩
        · have pre21 : ∀ t, Steps p.tables e below (T17.setTop (mkF m 68 #[.val (.int p1), .val (.int p2), .val (.int ((p1 &&& (2147483647 : Int32)) % (5 : Int32))), .val (.ref w_ZERO_OR_ONE), .unset] [(.int (1 : Int32)), (.int p2)])) t → Steps p.tables e below (s₁.setTop (entryFrame m #[(.int p1), (.int p2)] maxLocals)) t := fun t kt => by
            refine pre18 t ?_
            show Steps p.tables e below (T17.setTop (mkF m 63 #[.val (.int p1), .val (.int p2), .val (.int ((p1 &&& (2147483647 : Int32)) % (5 : Int32))), .val (.ref w_ZERO_OR_ONE), .unset] [(.int p2)])) _
            refine XS.ifNo X17.here hx rfl (hb hby at_63) rfl ((if0 _ _).trans (feq hc63_19).1) ?_
            show Steps p.tables e below (T17.setTop (mkF m 66 #[.val (.int p1), .val (.int p2), .val (.int ((p1 &&& (2147483647 : Int32)) % (5 : Int32))), .val (.ref w_ZERO_OR_ONE), .unset] [])) _
            refine XS.iloadN X17.here hx rfl (hb hby at_66) rfl ?_
            show Steps p.tables e below (T17.setTop (mkF m 67 #[.val (.int p1), .val (.int p2), .val (.int ((p1 &&& (2147483647 : Int32)) % (5 : Int32))), .val (.ref w_ZERO_OR_ONE), .unset] [(.int p2)])) _
            refine XS.iconst X17.here hx rfl (hb hby at_67) ?_
            exact kt
          by_cases hc68_22 : p2 = (1 : Int32)
          · obtain ⟨cq23, kq23, q23a, q23b, q23c⟩ := isOf hZ e17 E_ZERO_OR_ONE
            obtain ⟨_, _, ⟨T23, L23, k23, n23⟩, -, X23, ⟨Lc23, hQ23, l23, y23, z23⟩, st23⟩ := X17.virtualBack hx (y := (⟨"com/example/mint_path/mintpath/type/Occurrence", "allows", "(I)Z"⟩ : MethodName)) (z := (⟨"com/example/mint_path/mintpath/type/Occurrence", "allows", "(I)Z"⟩ : MethodName)) hown (mvT hZ (hw _ (List.mem_of_getElem? (i := 4) rfl))) (mvT hZ (hw _ (List.mem_of_getElem? (i := 5) rfl))) (notFace_of_selects (args := #[]) (mvT hZ (hw _ (List.mem_of_getElem? (i := 7) rfl)))) (mvT hZ (hw _ (List.mem_of_getElem? (i := 7) rfl))) (mvT hZ (hw _ (List.mem_of_getElem? (i := 6) rfl))) (by decide) (backOf (W := 0) (rmA l Z a0 hw [] w_ZERO_OR_ONE p2 (0 : Int32) (1 : Int32) h0 n0 Z0 A_ZERO_OR_ONE B_ZERO_OR_ONE) hZ (hw _ (List.mem_of_getElem? (i := 8) rfl)) (hw _ (List.mem_of_getElem? (i := 2) rfl)) (by decide) (by decide)) q23a q23c (g := (mkF m 122 #[.val (.int p1), .val (.int p2), .val (.int ((p1 &&& (2147483647 : Int32)) % (5 : Int32))), .val (.ref w_ZERO_OR_ONE), .val (.int (1 : Int32))] [(.int p2), (.ref w_ZERO_OR_ONE)])) rfl (by rw [hml]; rfl) (Steps.refl _) (argsL := [(.int p2)]) (rest := []) (lenOf pd0_0 rfl) rfl (by show 2 * 0 + _ ≤ _; exact Nat.le_of_eq rfl) (hb hby at_122) (fun _ _ => ⟨rfl, e17, (by decide : 0 + 0 ≤ _), (by decide : 0 + 0 ≤ _)⟩)
            dsimp only [Pt.U, Pt.locs, Pt.cells, Pt.slots] at X23 l23 y23 z23 st23 hQ23
            subst l23 y23 z23
            obtain ⟨rfl, N23q, eh23⟩ := hQ23
            have N23 := Fr.app N0 N23q
            obtain ⟨fs, hr, hrun, hended, hW, hsame⟩ := X23.leave (v := some (.int (1 : Int32))) (fun h => by rw [Bd.returns] at h; cases h)
            refine ⟨_, _, pre21 _ ?_, hrun, hended, _, _, rfl, ?_, ⟨_, rfl⟩, hW, hsame.mono (by decide) (by decide)⟩
            · show Steps p.tables e below (T17.setTop (mkF m 68 #[.val (.int p1), .val (.int p2), .val (.int ((p1 &&& (2147483647 : Int32)) % (5 : Int32))), .val (.ref w_ZERO_OR_ONE), .unset] [(.int (1 : Int32)), (.int p2)])) _
              refine XS.icmpNo X17.here hx rfl (hb hby at_68) rfl (teq hc68_22).2 ?_
              show Steps p.tables e below (T17.setTop (mkF m 71 #[.val (.int p1), .val (.int p2), .val (.int ((p1 &&& (2147483647 : Int32)) % (5 : Int32))), .val (.ref w_ZERO_OR_ONE), .unset] [])) _
              refine XS.iconst X17.here hx rfl (hb hby at_71) ?_
              show Steps p.tables e below (T17.setTop (mkF m 72 #[.val (.int p1), .val (.int p2), .val (.int ((p1 &&& (2147483647 : Int32)) % (5 : Int32))), .val (.ref w_ZERO_OR_ONE), .unset] [(.int (1 : Int32))])) _
              refine XS.goto X17.here hx rfl (pc0 := 72) (pc' := 76) rfl (hb hby at_72) (by decide) (by decide) ?_
              show Steps p.tables e below (T17.setTop (mkF m 76 #[.val (.int p1), .val (.int p2), .val (.int ((p1 &&& (2147483647 : Int32)) % (5 : Int32))), .val (.ref w_ZERO_OR_ONE), .unset] [(.int (1 : Int32))])) _
              refine XS.istore X17.here hx rfl (hb hby at_76) rfl (l' := #[.val (.int p1), .val (.int p2), .val (.int ((p1 &&& (2147483647 : Int32)) % (5 : Int32))), .val (.ref w_ZERO_OR_ONE), .val (.int (1 : Int32))]) rfl ?_
              show Steps p.tables e below (T17.setTop (mkF m 78 #[.val (.int p1), .val (.int p2), .val (.int ((p1 &&& (2147483647 : Int32)) % (5 : Int32))), .val (.ref w_ZERO_OR_ONE), .val (.int (1 : Int32))] [])) _
              refine XS.goto X17.here hx rfl (pc0 := 78) (pc' := 120) rfl (hb hby at_78) (by decide) (by decide) ?_
              show Steps p.tables e below (T17.setTop (mkF m 120 #[.val (.int p1), .val (.int p2), .val (.int ((p1 &&& (2147483647 : Int32)) % (5 : Int32))), .val (.ref w_ZERO_OR_ONE), .val (.int (1 : Int32))] [])) _
              refine XS.aloadN X17.here hx rfl (hb hby at_120) rfl rfl ?_
              show Steps p.tables e below (T17.setTop (mkF m 121 #[.val (.int p1), .val (.int p2), .val (.int ((p1 &&& (2147483647 : Int32)) % (5 : Int32))), .val (.ref w_ZERO_OR_ONE), .val (.int (1 : Int32))] [(.ref w_ZERO_OR_ONE)])) _
              refine XS.iloadN X17.here hx rfl (hb hby at_121) rfl ?_
              show Steps p.tables e below (T17.setTop (mkF m 122 #[.val (.int p1), .val (.int p2), .val (.int ((p1 &&& (2147483647 : Int32)) % (5 : Int32))), .val (.ref w_ZERO_OR_ONE), .val (.int (1 : Int32))] [(.int p2), (.ref w_ZERO_OR_ONE)])) _
              refine st23.trans ?_
              show Steps p.tables e below (T23.setTop (mkF m 125 #[.val (.int p1), .val (.int p2), .val (.int ((p1 &&& (2147483647 : Int32)) % (5 : Int32))), .val (.ref w_ZERO_OR_ONE), .val (.int (1 : Int32))] [(.int (own_allows p2 (0 : Int32) (1 : Int32)))])) _
              refine XS.iload X23.here hx rfl (hb hby at_125) rfl ?_
              show Steps p.tables e below (T23.setTop (mkF m 127 #[.val (.int p1), .val (.int p2), .val (.int ((p1 &&& (2147483647 : Int32)) % (5 : Int32))), .val (.ref w_ZERO_OR_ONE), .val (.int (1 : Int32))] [(.int (1 : Int32)), (.int (own_allows p2 (0 : Int32) (1 : Int32)))])) _
              refine XS.icmpNo X23.here hx rfl (hb hby at_127) rfl (teq (by have r := rng32 p2; have c0 : (0 : Int32).toInt = 0 := rfl; have c1 : (1 : Int32).toInt = 1 := rfl; have c2 : (2147483647 : Int32).toInt = 2147483647 := rfl; simp only [Int32.lt_iff_toInt_lt, ← Int32.toInt_inj] at hc63_19 hc68_22; exact own_yes (by omega) (by omega) : (own_allows p2 (0 : Int32) (1 : Int32)) = (1 : Int32))).2 ?_
              show Steps p.tables e below (T23.setTop (mkF m 130 #[.val (.int p1), .val (.int p2), .val (.int ((p1 &&& (2147483647 : Int32)) % (5 : Int32))), .val (.ref w_ZERO_OR_ONE), .val (.int (1 : Int32))] [])) _
              refine XS.iconst X23.here hx rfl (hb hby at_130) ?_
              show Steps p.tables e below (T23.setTop (mkF m 131 #[.val (.int p1), .val (.int p2), .val (.int ((p1 &&& (2147483647 : Int32)) % (5 : Int32))), .val (.ref w_ZERO_OR_ONE), .val (.int (1 : Int32))] [(.int (1 : Int32))])) _
              refine XS.goto X23.here hx rfl (pc0 := 131) (pc' := 135) rfl (hb hby at_131) (by decide) (by decide) ?_
              show Steps p.tables e below (T23.setTop (mkF m 135 #[.val (.int p1), .val (.int p2), .val (.int ((p1 &&& (2147483647 : Int32)) % (5 : Int32))), .val (.ref w_ZERO_OR_ONE), .val (.int (1 : Int32))] [(.int (1 : Int32))])) _
              exact retN X23 hx (t := .boolean) Bd.returns (by simp) (hb hby at_135) hr
            · show Q0 h0 n0 _ T23.heap _
              rw [eh23]
              exact ⟨rfl, N23⟩
          · obtain ⟨cq24, kq24, q24a, q24b, q24c⟩ := isOf hZ e17 E_ZERO_OR_ONE
            obtain ⟨_, _, ⟨T24, L24, k24, n24⟩, -, X24, ⟨Lc24, hQ24, l24, y24, z24⟩, st24⟩ := X17.virtualBack hx (y := (⟨"com/example/mint_path/mintpath/type/Occurrence", "allows", "(I)Z"⟩ : MethodName)) (z := (⟨"com/example/mint_path/mintpath/type/Occurrence", "allows", "(I)Z"⟩ : MethodName)) hown (mvT hZ (hw _ (List.mem_of_getElem? (i := 4) rfl))) (mvT hZ (hw _ (List.mem_of_getElem? (i := 5) rfl))) (notFace_of_selects (args := #[]) (mvT hZ (hw _ (List.mem_of_getElem? (i := 7) rfl)))) (mvT hZ (hw _ (List.mem_of_getElem? (i := 7) rfl))) (mvT hZ (hw _ (List.mem_of_getElem? (i := 6) rfl))) (by decide) (backOf (W := 0) (rmA l Z a0 hw [] w_ZERO_OR_ONE p2 (0 : Int32) (1 : Int32) h0 n0 Z0 A_ZERO_OR_ONE B_ZERO_OR_ONE) hZ (hw _ (List.mem_of_getElem? (i := 8) rfl)) (hw _ (List.mem_of_getElem? (i := 2) rfl)) (by decide) (by decide)) q24a q24c (g := (mkF m 122 #[.val (.int p1), .val (.int p2), .val (.int ((p1 &&& (2147483647 : Int32)) % (5 : Int32))), .val (.ref w_ZERO_OR_ONE), .val (.int (0 : Int32))] [(.int p2), (.ref w_ZERO_OR_ONE)])) rfl (by rw [hml]; rfl) (Steps.refl _) (argsL := [(.int p2)]) (rest := []) (lenOf pd0_0 rfl) rfl (by show 2 * 0 + _ ≤ _; exact Nat.le_of_eq rfl) (hb hby at_122) (fun _ _ => ⟨rfl, e17, (by decide : 0 + 0 ≤ _), (by decide : 0 + 0 ≤ _)⟩)
            dsimp only [Pt.U, Pt.locs, Pt.cells, Pt.slots] at X24 l24 y24 z24 st24 hQ24
            subst l24 y24 z24
            obtain ⟨rfl, N24q, eh24⟩ := hQ24
            have N24 := Fr.app N0 N24q
            obtain ⟨fs, hr, hrun, hended, hW, hsame⟩ := X24.leave (v := some (.int (1 : Int32))) (fun h => by rw [Bd.returns] at h; cases h)
            refine ⟨_, _, pre21 _ ?_, hrun, hended, _, _, rfl, ?_, ⟨_, rfl⟩, hW, hsame.mono (by decide) (by decide)⟩
            · show Steps p.tables e below (T17.setTop (mkF m 68 #[.val (.int p1), .val (.int p2), .val (.int ((p1 &&& (2147483647 : Int32)) % (5 : Int32))), .val (.ref w_ZERO_OR_ONE), .unset] [(.int (1 : Int32)), (.int p2)])) _
              refine XS.icmpYes X17.here hx rfl (pc0 := 68) (pc' := 75) rfl (hb hby at_68) rfl (feq hc68_22).2 (by decide) (by decide) ?_
              show Steps p.tables e below (T17.setTop (mkF m 75 #[.val (.int p1), .val (.int p2), .val (.int ((p1 &&& (2147483647 : Int32)) % (5 : Int32))), .val (.ref w_ZERO_OR_ONE), .unset] [])) _
              refine XS.iconst X17.here hx rfl (hb hby at_75) ?_
              show Steps p.tables e below (T17.setTop (mkF m 76 #[.val (.int p1), .val (.int p2), .val (.int ((p1 &&& (2147483647 : Int32)) % (5 : Int32))), .val (.ref w_ZERO_OR_ONE), .unset] [(.int (0 : Int32))])) _
              refine XS.istore X17.here hx rfl (hb hby at_76) rfl (l' := #[.val (.int p1), .val (.int p2), .val (.int ((p1 &&& (2147483647 : Int32)) % (5 : Int32))), .val (.ref w_ZERO_OR_ONE), .val (.int (0 : Int32))]) rfl ?_
              show Steps p.tables e below (T17.setTop (mkF m 78 #[.val (.int p1), .val (.int p2), .val (.int ((p1 &&& (2147483647 : Int32)) % (5 : Int32))), .val (.ref w_ZERO_OR_ONE), .val (.int (0 : Int32))] [])) _
              refine XS.goto X17.here hx rfl (pc0 := 78) (pc' := 120) rfl (hb hby at_78) (by decide) (by decide) ?_
              show Steps p.tables e below (T17.setTop (mkF m 120 #[.val (.int p1), .val (.int p2), .val (.int ((p1 &&& (2147483647 : Int32)) % (5 : Int32))), .val (.ref w_ZERO_OR_ONE), .val (.int (0 : Int32))] [])) _
              refine XS.aloadN X17.here hx rfl (hb hby at_120) rfl rfl ?_
              show Steps p.tables e below (T17.setTop (mkF m 121 #[.val (.int p1), .val (.int p2), .val (.int ((p1 &&& (2147483647 : Int32)) % (5 : Int32))), .val (.ref w_ZERO_OR_ONE), .val (.int (0 : Int32))] [(.ref w_ZERO_OR_ONE)])) _
              refine XS.iloadN X17.here hx rfl (hb hby at_121) rfl ?_
              show Steps p.tables e below (T17.setTop (mkF m 122 #[.val (.int p1), .val (.int p2), .val (.int ((p1 &&& (2147483647 : Int32)) % (5 : Int32))), .val (.ref w_ZERO_OR_ONE), .val (.int (0 : Int32))] [(.int p2), (.ref w_ZERO_OR_ONE)])) _
              refine st24.trans ?_
              show Steps p.tables e below (T24.setTop (mkF m 125 #[.val (.int p1), .val (.int p2), .val (.int ((p1 &&& (2147483647 : Int32)) % (5 : Int32))), .val (.ref w_ZERO_OR_ONE), .val (.int (0 : Int32))] [(.int (own_allows p2 (0 : Int32) (1 : Int32)))])) _
              refine XS.iload X24.here hx rfl (hb hby at_125) rfl ?_
              show Steps p.tables e below (T24.setTop (mkF m 127 #[.val (.int p1), .val (.int p2), .val (.int ((p1 &&& (2147483647 : Int32)) % (5 : Int32))), .val (.ref w_ZERO_OR_ONE), .val (.int (0 : Int32))] [(.int (0 : Int32)), (.int (own_allows p2 (0 : Int32) (1 : Int32)))])) _
              refine XS.icmpNo X24.here hx rfl (hb hby at_127) rfl (teq (by have r := rng32 p2; have c0 : (0 : Int32).toInt = 0 := rfl; have c1 : (1 : Int32).toInt = 1 := rfl; have c2 : (2147483647 : Int32).toInt = 2147483647 := rfl; simp only [Int32.lt_iff_toInt_lt, ← Int32.toInt_inj] at hc63_19 hc68_22; exact own_no (by omega) : (own_allows p2 (0 : Int32) (1 : Int32)) = (0 : Int32))).2 ?_
              show Steps p.tables e below (T24.setTop (mkF m 130 #[.val (.int p1), .val (.int p2), .val (.int ((p1 &&& (2147483647 : Int32)) % (5 : Int32))), .val (.ref w_ZERO_OR_ONE), .val (.int (0 : Int32))] [])) _
              refine XS.iconst X24.here hx rfl (hb hby at_130) ?_
              show Steps p.tables e below (T24.setTop (mkF m 131 #[.val (.int p1), .val (.int p2), .val (.int ((p1 &&& (2147483647 : Int32)) % (5 : Int32))), .val (.ref w_ZERO_OR_ONE), .val (.int (0 : Int32))] [(.int (1 : Int32))])) _
              refine XS.goto X24.here hx rfl (pc0 := 131) (pc' := 135) rfl (hb hby at_131) (by decide) (by decide) ?_
              show Steps p.tables e below (T24.setTop (mkF m 135 #[.val (.int p1), .val (.int p2), .val (.int ((p1 &&& (2147483647 : Int32)) % (5 : Int32))), .val (.ref w_ZERO_OR_ONE), .val (.int (0 : Int32))] [(.int (1 : Int32))])) _
              exact retN X24 hx (t := .boolean) Bd.returns (by simp) (hb hby at_135) hr
            · show Q0 h0 n0 _ T24.heap _
              rw [eh24]
              exact ⟨rfl, N24⟩
      · have pre25 : ∀ t, Steps p.tables e below (s₁.setTop (mkF m 83 #[.val (.int p1), .val (.int p2), .val (.int ((p1 &&& (2147483647 : Int32)) % (5 : Int32))), .unset, .unset] [(.int (3 : Int32)), (.int ((p1 &&& (2147483647 : Int32)) % (5 : Int32)))])) t → Steps p.tables e below (s₁.setTop (entryFrame m #[(.int p1), (.int p2)] maxLocals)) t := fun t kt => by
          refine pre15 t ?_
          show Steps p.tables e below (s₁.setTop (mkF m 55 #[.val (.int p1), .val (.int p2), .val (.int ((p1 &&& (2147483647 : Int32)) % (5 : Int32))), .unset, .unset] [(.int (2 : Int32)), (.int ((p1 &&& (2147483647 : Int32)) % (5 : Int32)))])) _
          refine XS.icmpYes X0.here hx rfl (pc0 := 55) (pc' := 81) rfl (hb hby at_55) rfl (feq hc55_16).2 (by decide) (by decide) ?_
          show Steps p.tables e below (s₁.setTop (mkF m 81 #[.val (.int p1), .val (.int p2), .val (.int ((p1 &&& (2147483647 : Int32)) % (5 : Int32))), .unset, .unset] [])) _
          refine XS.iloadN X0.here hx rfl (hb hby at_81) rfl ?_
          show Steps p.tables e below (s₁.setTop (mkF m 82 #[.val (.int p1), .val (.int p2), .val (.int ((p1 &&& (2147483647 : Int32)) % (5 : Int32))), .unset, .unset] [(.int ((p1 &&& (2147483647 : Int32)) % (5 : Int32)))])) _
          refine XS.iconst X0.here hx rfl (hb hby at_82) ?_
          exact kt
        by_cases hc83_26 : ((p1 &&& (2147483647 : Int32)) % (5 : Int32)) = (3 : Int32)
        · obtain ⟨T27, X27, e27, st27⟩ := getS2 X0 hx hZ hown (host := "") (Or.inl (hw _ (List.mem_of_getElem? (i := 15) rfl))) Via.refl e0 S_ZERO_OR_MORE (g := (mkF m 86 #[.val (.int p1), .val (.int p2), .val (.int ((p1 &&& (2147483647 : Int32)) % (5 : Int32))), .unset, .unset] [])) rfl (hb hby at_86)
          have pre28 : ∀ t, Steps p.tables e below (T27.setTop (mkF m 91 #[.val (.int p1), .val (.int p2), .val (.int ((p1 &&& (2147483647 : Int32)) % (5 : Int32))), .val (.ref w_ZERO_OR_MORE), .unset] [(.int p2)])) t → Steps p.tables e below (s₁.setTop (entryFrame m #[(.int p1), (.int p2)] maxLocals)) t := fun t kt => by
            refine pre25 t ?_
            show Steps p.tables e below (s₁.setTop (mkF m 83 #[.val (.int p1), .val (.int p2), .val (.int ((p1 &&& (2147483647 : Int32)) % (5 : Int32))), .unset, .unset] [(.int (3 : Int32)), (.int ((p1 &&& (2147483647 : Int32)) % (5 : Int32)))])) _
            refine XS.icmpNo X0.here hx rfl (hb hby at_83) rfl (teq hc83_26).2 ?_
            show Steps p.tables e below (s₁.setTop (mkF m 86 #[.val (.int p1), .val (.int p2), .val (.int ((p1 &&& (2147483647 : Int32)) % (5 : Int32))), .unset, .unset] [])) _
            refine st27 _ ?_
            show Steps p.tables e below (T27.setTop (mkF m 89 #[.val (.int p1), .val (.int p2), .val (.int ((p1 &&& (2147483647 : Int32)) % (5 : Int32))), .unset, .unset] [(.ref w_ZERO_OR_MORE)])) _
            refine XS.astoreN X27.here hx rfl (hb hby at_89) rfl rfl (l' := #[.val (.int p1), .val (.int p2), .val (.int ((p1 &&& (2147483647 : Int32)) % (5 : Int32))), .val (.ref w_ZERO_OR_MORE), .unset]) rfl ?_
            show Steps p.tables e below (T27.setTop (mkF m 90 #[.val (.int p1), .val (.int p2), .val (.int ((p1 &&& (2147483647 : Int32)) % (5 : Int32))), .val (.ref w_ZERO_OR_MORE), .unset] [])) _
            refine XS.iloadN X27.here hx rfl (hb hby at_90) rfl ?_
            exact kt
          by_cases hc91_29 : p2 < (0 : Int32)
          · obtain ⟨cq30, kq30, q30a, q30b, q30c⟩ := isOf hZ e27 E_ZERO_OR_MORE
            obtain ⟨_, _, ⟨T30, L30, k30, n30⟩, -, X30, ⟨Lc30, hQ30, l30, y30, z30⟩, st30⟩ := X27.virtualBack hx (y := (⟨"com/example/mint_path/mintpath/type/Occurrence", "allows", "(I)Z"⟩ : MethodName)) (z := (⟨"com/example/mint_path/mintpath/type/Occurrence", "allows", "(I)Z"⟩ : MethodName)) hown (mvT hZ (hw _ (List.mem_of_getElem? (i := 4) rfl))) (mvT hZ (hw _ (List.mem_of_getElem? (i := 5) rfl))) (notFace_of_selects (args := #[]) (mvT hZ (hw _ (List.mem_of_getElem? (i := 7) rfl)))) (mvT hZ (hw _ (List.mem_of_getElem? (i := 7) rfl))) (mvT hZ (hw _ (List.mem_of_getElem? (i := 6) rfl))) (by decide) (backOf (W := 0) (rmA l Z a0 hw [] w_ZERO_OR_MORE p2 (0 : Int32) (2147483647 : Int32) h0 n0 Z0 A_ZERO_OR_MORE B_ZERO_OR_MORE) hZ (hw _ (List.mem_of_getElem? (i := 8) rfl)) (hw _ (List.mem_of_getElem? (i := 2) rfl)) (by decide) (by decide)) q30a q30c (g := (mkF m 122 #[.val (.int p1), .val (.int p2), .val (.int ((p1 &&& (2147483647 : Int32)) % (5 : Int32))), .val (.ref w_ZERO_OR_MORE), .val (.int (0 : Int32))] [(.int p2), (.ref w_ZERO_OR_MORE)])) rfl (by rw [hml]; rfl) (Steps.refl _) (argsL := [(.int p2)]) (rest := []) (lenOf pd0_0 rfl) rfl (by show 2 * 0 + _ ≤ _; exact Nat.le_of_eq rfl) (hb hby at_122) (fun _ _ => ⟨rfl, e27, (by decide : 0 + 0 ≤ _), (by decide : 0 + 0 ≤ _)⟩)
            dsimp only [Pt.U, Pt.locs, Pt.cells, Pt.slots] at X30 l30 y30 z30 st30 hQ30
            subst l30 y30 z30
            obtain ⟨rfl, N30q, eh30⟩ := hQ30
            have N30 := Fr.app N0 N30q
            obtain ⟨fs, hr, hrun, hended, hW, hsame⟩ := X30.leave (v := some (.int (1 : Int32))) (fun h => by rw [Bd.returns] at h; cases h)
            refine ⟨_, _, pre28 _ ?_, hrun, hended, _, _, rfl, ?_, ⟨_, rfl⟩, hW, hsame.mono (by decide) (by decide)⟩
            · show Steps p.tables e below (T27.setTop (mkF m 91 #[.val (.int p1), .val (.int p2), .val (.int ((p1 &&& (2147483647 : Int32)) % (5 : Int32))), .val (.ref w_ZERO_OR_MORE), .unset] [(.int p2)])) _
              refine XS.ifYes X27.here hx rfl (pc0 := 91) (pc' := 98) rfl (hb hby at_91) rfl ((if0 _ _).trans (tlt hc91_29).1) (by decide) (by decide) ?_
              show Steps p.tables e below (T27.setTop (mkF m 98 #[.val (.int p1), .val (.int p2), .val (.int ((p1 &&& (2147483647 : Int32)) % (5 : Int32))), .val (.ref w_ZERO_OR_MORE), .unset] [])) _
              refine XS.iconst X27.here hx rfl (hb hby at_98) ?_
              show Steps p.tables e below (T27.setTop (mkF m 99 #[.val (.int p1), .val (.int p2), .val (.int ((p1 &&& (2147483647 : Int32)) % (5 : Int32))), .val (.ref w_ZERO_OR_MORE), .unset] [(.int (0 : Int32))])) _
              refine XS.istore X27.here hx rfl (hb hby at_99) rfl (l' := #[.val (.int p1), .val (.int p2), .val (.int ((p1 &&& (2147483647 : Int32)) % (5 : Int32))), .val (.ref w_ZERO_OR_MORE), .val (.int (0 : Int32))]) rfl ?_
              show Steps p.tables e below (T27.setTop (mkF m 101 #[.val (.int p1), .val (.int p2), .val (.int ((p1 &&& (2147483647 : Int32)) % (5 : Int32))), .val (.ref w_ZERO_OR_MORE), .val (.int (0 : Int32))] [])) _
              refine XS.goto X27.here hx rfl (pc0 := 101) (pc' := 120) rfl (hb hby at_101) (by decide) (by decide) ?_
              show Steps p.tables e below (T27.setTop (mkF m 120 #[.val (.int p1), .val (.int p2), .val (.int ((p1 &&& (2147483647 : Int32)) % (5 : Int32))), .val (.ref w_ZERO_OR_MORE), .val (.int (0 : Int32))] [])) _
              refine XS.aloadN X27.here hx rfl (hb hby at_120) rfl rfl ?_
              show Steps p.tables e below (T27.setTop (mkF m 121 #[.val (.int p1), .val (.int p2), .val (.int ((p1 &&& (2147483647 : Int32)) % (5 : Int32))), .val (.ref w_ZERO_OR_MORE), .val (.int (0 : Int32))] [(.ref w_ZERO_OR_MORE)])) _
              refine XS.iloadN X27.here hx rfl (hb hby at_121) rfl ?_
              show Steps p.tables e below (T27.setTop (mkF m 122 #[.val (.int p1), .val (.int p2), .val (.int ((p1 &&& (2147483647 : Int32)) % (5 : Int32))), .val (.ref w_ZERO_OR_MORE), .val (.int (0 : Int32))] [(.int p2), (.ref w_ZERO_OR_MORE)])) _
              refine st30.trans ?_
              show Steps p.tables e below (T30.setTop (mkF m 125 #[.val (.int p1), .val (.int p2), .val (.int ((p1 &&& (2147483647 : Int32)) % (5 : Int32))), .val (.ref w_ZERO_OR_MORE), .val (.int (0 : Int32))] [(.int (own_allows p2 (0 : Int32) (2147483647 : Int32)))])) _
              refine XS.iload X30.here hx rfl (hb hby at_125) rfl ?_
              show Steps p.tables e below (T30.setTop (mkF m 127 #[.val (.int p1), .val (.int p2), .val (.int ((p1 &&& (2147483647 : Int32)) % (5 : Int32))), .val (.ref w_ZERO_OR_MORE), .val (.int (0 : Int32))] [(.int (0 : Int32)), (.int (own_allows p2 (0 : Int32) (2147483647 : Int32)))])) _
              refine XS.icmpNo X30.here hx rfl (hb hby at_127) rfl (teq (by have r := rng32 p2; have c0 : (0 : Int32).toInt = 0 := rfl; have c1 : (1 : Int32).toInt = 1 := rfl; have c2 : (2147483647 : Int32).toInt = 2147483647 := rfl; simp only [Int32.lt_iff_toInt_lt, ← Int32.toInt_inj] at hc91_29; exact own_no (by omega) : (own_allows p2 (0 : Int32) (2147483647 : Int32)) = (0 : Int32))).2 ?_
              show Steps p.tables e below (T30.setTop (mkF m 130 #[.val (.int p1), .val (.int p2), .val (.int ((p1 &&& (2147483647 : Int32)) % (5 : Int32))), .val (.ref w_ZERO_OR_MORE), .val (.int (0 : Int32))] [])) _
              refine XS.iconst X30.here hx rfl (hb hby at_130) ?_
              show Steps p.tables e below (T30.setTop (mkF m 131 #[.val (.int p1), .val (.int p2), .val (.int ((p1 &&& (2147483647 : Int32)) % (5 : Int32))), .val (.ref w_ZERO_OR_MORE), .val (.int (0 : Int32))] [(.int (1 : Int32))])) _
              refine XS.goto X30.here hx rfl (pc0 := 131) (pc' := 135) rfl (hb hby at_131) (by decide) (by decide) ?_
              show Steps p.tables e below (T30.setTop (mkF m 135 #[.val (.int p1), .val (.int p2), .val (.int ((p1 &&& (2147483647 : Int32)) % (5 : Int32))), .val (.ref w_ZERO_OR_MORE), .val (.int (0 : Int32))] [(.int (1 : Int32))])) _
              exact retN X30 hx (t := .boolean) Bd.returns (by simp) (hb hby at_135) hr
            · show Q0 h0 n0 _ T30.heap _
              rw [eh30]
              exact ⟨rfl, N30⟩
          · obtain ⟨cq31, kq31, q31a, q31b, q31c⟩ := isOf hZ e27 E_ZERO_OR_MORE
            obtain ⟨_, _, ⟨T31, L31, k31, n31⟩, -, X31, ⟨Lc31, hQ31, l31, y31, z31⟩, st31⟩ := X27.virtualBack hx (y := (⟨"com/example/mint_path/mintpath/type/Occurrence", "allows", "(I)Z"⟩ : MethodName)) (z := (⟨"com/example/mint_path/mintpath/type/Occurrence", "allows", "(I)Z"⟩ : MethodName)) hown (mvT hZ (hw _ (List.mem_of_getElem? (i := 4) rfl))) (mvT hZ (hw _ (List.mem_of_getElem? (i := 5) rfl))) (notFace_of_selects (args := #[]) (mvT hZ (hw _ (List.mem_of_getElem? (i := 7) rfl)))) (mvT hZ (hw _ (List.mem_of_getElem? (i := 7) rfl))) (mvT hZ (hw _ (List.mem_of_getElem? (i := 6) rfl))) (by decide) (backOf (W := 0) (rmA l Z a0 hw [] w_ZERO_OR_MORE p2 (0 : Int32) (2147483647 : Int32) h0 n0 Z0 A_ZERO_OR_MORE B_ZERO_OR_MORE) hZ (hw _ (List.mem_of_getElem? (i := 8) rfl)) (hw _ (List.mem_of_getElem? (i := 2) rfl)) (by decide) (by decide)) q31a q31c (g := (mkF m 122 #[.val (.int p1), .val (.int p2), .val (.int ((p1 &&& (2147483647 : Int32)) % (5 : Int32))), .val (.ref w_ZERO_OR_MORE), .val (.int (1 : Int32))] [(.int p2), (.ref w_ZERO_OR_MORE)])) rfl (by rw [hml]; rfl) (Steps.refl _) (argsL := [(.int p2)]) (rest := []) (lenOf pd0_0 rfl) rfl (by show 2 * 0 + _ ≤ _; exact Nat.le_of_eq rfl) (hb hby at_122) (fun _ _ => ⟨rfl, e27, (by decide : 0 + 0 ≤ _), (by decide : 0 + 0 ≤ _)⟩)
            dsimp only [Pt.U, Pt.locs, Pt.cells, Pt.slots] at X31 l31 y31 z31 st31 hQ31
            subst l31 y31 z31
            obtain ⟨rfl, N31q, eh31⟩ := hQ31
            have N31 := Fr.app N0 N31q
            obtain ⟨fs, hr, hrun, hended, hW, hsame⟩ := X31.leave (v := some (.int (1 : Int32))) (fun h => by rw [Bd.returns] at h; cases h)
            refine ⟨_, _, pre28 _ ?_, hrun, hended, _, _, rfl, ?_, ⟨_, rfl⟩, hW, hsame.mono (by decide) (by decide)⟩
            · show Steps p.tables e below (T27.setTop (mkF m 91 #[.val (.int p1), .val (.int p2), .val (.int ((p1 &&& (2147483647 : Int32)) % (5 : Int32))), .val (.ref w_ZERO_OR_MORE), .unset] [(.int p2)])) _
              refine XS.ifNo X27.here hx rfl (hb hby at_91) rfl ((if0 _ _).trans (flt hc91_29).1) ?_
              show Steps p.tables e below (T27.setTop (mkF m 94 #[.val (.int p1), .val (.int p2), .val (.int ((p1 &&& (2147483647 : Int32)) % (5 : Int32))), .val (.ref w_ZERO_OR_MORE), .unset] [])) _
              refine XS.iconst X27.here hx rfl (hb hby at_94) ?_
              show Steps p.tables e below (T27.setTop (mkF m 95 #[.val (.int p1), .val (.int p2), .val (.int ((p1 &&& (2147483647 : Int32)) % (5 : Int32))), .val (.ref w_ZERO_OR_MORE), .unset] [(.int (1 : Int32))])) _
              refine XS.goto X27.here hx rfl (pc0 := 95) (pc' := 99) rfl (hb hby at_95) (by decide) (by decide) ?_
              show Steps p.tables e below (T27.setTop (mkF m 99 #[.val (.int p1), .val (.int p2), .val (.int ((p1 &&& (2147483647 : Int32)) % (5 : Int32))), .val (.ref w_ZERO_OR_MORE), .unset] [(.int (1 : Int32))])) _
              refine XS.istore X27.here hx rfl (hb hby at_99) rfl (l' := #[.val (.int p1), .val (.int p2), .val (.int ((p1 &&& (2147483647 : Int32)) % (5 : Int32))), .val (.ref w_ZERO_OR_MORE), .val (.int (1 : Int32))]) rfl ?_
              show Steps p.tables e below (T27.setTop (mkF m 101 #[.val (.int p1), .val (.int p2), .val (.int ((p1 &&& (2147483647 : Int32)) % (5 : Int32))), .val (.ref w_ZERO_OR_MORE), .val (.int (1 : Int32))] [])) _
              refine XS.goto X27.here hx rfl (pc0 := 101) (pc' := 120) rfl (hb hby at_101) (by decide) (by decide) ?_
              show Steps p.tables e below (T27.setTop (mkF m 120 #[.val (.int p1), .val (.int p2), .val (.int ((p1 &&& (2147483647 : Int32)) % (5 : Int32))), .val (.ref w_ZERO_OR_MORE), .val (.int (1 : Int32))] [])) _
              refine XS.aloadN X27.here hx rfl (hb hby at_120) rfl rfl ?_
              show Steps p.tables e below (T27.setTop (mkF m 121 #[.val (.int p1), .val (.int p2), .val (.int ((p1 &&& (2147483647 : Int32)) % (5 : Int32))), .val (.ref w_ZERO_OR_MORE), .val (.int (1 : Int32))] [(.ref w_ZERO_OR_MORE)])) _
              refine XS.iloadN X27.here hx rfl (hb hby at_121) rfl ?_
              show Steps p.tables e below (T27.setTop (mkF m 122 #[.val (.int p1), .val (.int p2), .val (.int ((p1 &&& (2147483647 : Int32)) % (5 : Int32))), .val (.ref w_ZERO_OR_MORE), .val (.int (1 : Int32))] [(.int p2), (.ref w_ZERO_OR_MORE)])) _
              refine st31.trans ?_
              show Steps p.tables e below (T31.setTop (mkF m 125 #[.val (.int p1), .val (.int p2), .val (.int ((p1 &&& (2147483647 : Int32)) % (5 : Int32))), .val (.ref w_ZERO_OR_MORE), .val (.int (1 : Int32))] [(.int (own_allows p2 (0 : Int32) (2147483647 : Int32)))])) _
              refine XS.iload X31.here hx rfl (hb hby at_125) rfl ?_
              show Steps p.tables e below (T31.setTop (mkF m 127 #[.val (.int p1), .val (.int p2), .val (.int ((p1 &&& (2147483647 : Int32)) % (5 : Int32))), .val (.ref w_ZERO_OR_MORE), .val (.int (1 : Int32))] [(.int (1 : Int32)), (.int (own_allows p2 (0 : Int32) (2147483647 : Int32)))])) _
              refine XS.icmpNo X31.here hx rfl (hb hby at_127) rfl (teq (by have r := rng32 p2; have c0 : (0 : Int32).toInt = 0 := rfl; have c1 : (1 : Int32).toInt = 1 := rfl; have c2 : (2147483647 : Int32).toInt = 2147483647 := rfl; simp only [Int32.lt_iff_toInt_lt, ← Int32.toInt_inj] at hc91_29; exact own_yes (by omega) (by omega) : (own_allows p2 (0 : Int32) (2147483647 : Int32)) = (1 : Int32))).2 ?_
              show Steps p.tables e below (T31.setTop (mkF m 130 #[.val (.int p1), .val (.int p2), .val (.int ((p1 &&& (2147483647 : Int32)) % (5 : Int32))), .val (.ref w_ZERO_OR_MORE), .val (.int (1 : Int32))] [])) _
              refine XS.iconst X31.here hx rfl (hb hby at_130) ?_
              show Steps p.tables e below (T31.setTop (mkF m 131 #[.val (.int p1), .val (.int p2), .val (.int ((p1 &&& (2147483647 : Int32)) % (5 : Int32))), .val (.ref w_ZERO_OR_MORE), .val (.int (1 : Int32))] [(.int (1 : Int32))])) _
              refine XS.goto X31.here hx rfl (pc0 := 131) (pc' := 135) rfl (hb hby at_131) (by decide) (by decide) ?_
              show Steps p.tables e below (T31.setTop (mkF m 135 #[.val (.int p1), .val (.int p2), .val (.int ((p1 &&& (2147483647 : Int32)) % (5 : Int32))), .val (.ref w_ZERO_OR_MORE), .val (.int (1 : Int32))] [(.int (1 : Int32))])) _
              exact retN X31 hx (t := .boolean) Bd.returns (by simp) (hb hby at_135) hr
            · show Q0 h0 n0 _ T31.heap _
              rw [eh31]
              exact ⟨rfl, N31⟩
        · obtain ⟨T32, X32, e32, st32⟩ := getS2 X0 hx hZ hown (host := "") (Or.inl (hw _ (List.mem_of_getElem? (i := 13) rfl))) Via.refl e0 S_ONE_OR_MORE (g := (mkF m 104 #[.val (.int p1), .val (.int p2), .val (.int ((p1 &&& (2147483647 : Int32)) % (5 : Int32))), .unset, .unset] [])) rfl (hb hby at_104)
          have pre33 : ∀ t, Steps p.tables e below (T32.setTop (mkF m 110 #[.val (.int p1), .val (.int p2), .val (.int ((p1 &&& (2147483647 : Int32)) % (5 : Int32))), .val (.ref w_ONE_OR_MORE), .unset] [(.int (1 : Int32)), (.int p2)])) t → Steps p.tables e below (s₁.setTop (entryFrame m #[(.int p1), (.int p2)] maxLocals)) t := fun t kt => by
            refine pre25 t ?_
            show Steps p.tables e below (s₁.setTop (mkF m 83 #[.val (.int p1), .val (.int p2), .val (.int ((p1 &&& (2147483647 : Int32)) % (5 : Int32))), .unset, .unset] [(.int (3 : Int32)), (.int ((p1 &&& (2147483647 : Int32)) % (5 : Int32)))])) _
            refine XS.icmpYes X0.here hx rfl (pc0 := 83) (pc' := 104) rfl (hb hby at_83) rfl (feq hc83_26).2 (by decide) (by decide) ?_
            show Steps p.tables e below (s₁.setTop (mkF m 104 #[.val (.int p1), .val (.int p2), .val (.int ((p1 &&& (2147483647 : Int32)) % (5 : Int32))), .unset, .unset] [])) _
            refine st32 _ ?_
            show Steps p.tables e below (T32.setTop (mkF m 107 #[.val (.int p1), .val (.int p2), .val (.int ((p1 &&& (2147483647 : Int32)) % (5 : Int32))), .unset, .unset] [(.ref w_ONE_OR_MORE)])) _
            refine XS.astoreN X32.here hx rfl (hb hby at_107) rfl rfl (l' := #[.val (.int p1), .val (.int p2), .val (.int ((p1 &&& (2147483647 : Int32)) % (5 : Int32))), .val (.ref w_ONE_OR_MORE), .unset]) rfl ?_
            show Steps p.tables e below (T32.setTop (mkF m 108 #[.val (.int p1), .val (.int p2), .val (.int ((p1 &&& (2147483647 : Int32)) % (5 : Int32))), .val (.ref w_ONE_OR_MORE), .unset] [])) _
            refine XS.iloadN X32.here hx rfl (hb hby at_108) rfl ?_
            show Steps p.tables e below (T32.setTop (mkF m 109 #[.val (.int p1), .val (.int p2), .val (.int ((p1 &&& (2147483647 : Int32)) % (5 : Int32))), .val (.ref w_ONE_OR_MORE), .unset] [(.int p2)])) _
            refine XS.iconst X32.here hx rfl (hb hby at_109) ?_
            exact kt
          by_cases hc110_34 : p2 < (1 : Int32)
          · obtain ⟨cq35, kq35, q35a, q35b, q35c⟩ := isOf hZ e32 E_ONE_OR_MORE
            obtain ⟨_, _, ⟨T35, L35, k35, n35⟩, -, X35, ⟨Lc35, hQ35, l35, y35, z35⟩, st35⟩ := X32.virtualBack hx (y := (⟨"com/example/mint_path/mintpath/type/Occurrence", "allows", "(I)Z"⟩ : MethodName)) (z := (⟨"com/example/mint_path/mintpath/type/Occurrence", "allows", "(I)Z"⟩ : MethodName)) hown (mvT hZ (hw _ (List.mem_of_getElem? (i := 4) rfl))) (mvT hZ (hw _ (List.mem_of_getElem? (i := 5) rfl))) (notFace_of_selects (args := #[]) (mvT hZ (hw _ (List.mem_of_getElem? (i := 7) rfl)))) (mvT hZ (hw _ (List.mem_of_getElem? (i := 7) rfl))) (mvT hZ (hw _ (List.mem_of_getElem? (i := 6) rfl))) (by decide) (backOf (W := 0) (rmA l Z a0 hw [] w_ONE_OR_MORE p2 (1 : Int32) (2147483647 : Int32) h0 n0 Z0 A_ONE_OR_MORE B_ONE_OR_MORE) hZ (hw _ (List.mem_of_getElem? (i := 8) rfl)) (hw _ (List.mem_of_getElem? (i := 2) rfl)) (by decide) (by decide)) q35a q35c (g := (mkF m 122 #[.val (.int p1), .val (.int p2), .val (.int ((p1 &&& (2147483647 : Int32)) % (5 : Int32))), .val (.ref w_ONE_OR_MORE), .val (.int (0 : Int32))] [(.int p2), (.ref w_ONE_OR_MORE)])) rfl (by rw [hml]; rfl) (Steps.refl _) (argsL := [(.int p2)]) (rest := []) (lenOf pd0_0 rfl) rfl (by show 2 * 0 + _ ≤ _; exact Nat.le_of_eq rfl) (hb hby at_122) (fun _ _ => ⟨rfl, e32, (by decide : 0 + 0 ≤ _), (by decide : 0 + 0 ≤ _)⟩)
            dsimp only [Pt.U, Pt.locs, Pt.cells, Pt.slots] at X35 l35 y35 z35 st35 hQ35
            subst l35 y35 z35
            obtain ⟨rfl, N35q, eh35⟩ := hQ35
            have N35 := Fr.app N0 N35q
            obtain ⟨fs, hr, hrun, hended, hW, hsame⟩ := X35.leave (v := some (.int (1 : Int32))) (fun h => by rw [Bd.returns] at h; cases h)
            refine ⟨_, _, pre33 _ ?_, hrun, hended, _, _, rfl, ?_, ⟨_, rfl⟩, hW, hsame.mono (by decide) (by decide)⟩
            · show Steps p.tables e below (T32.setTop (mkF m 110 #[.val (.int p1), .val (.int p2), .val (.int ((p1 &&& (2147483647 : Int32)) % (5 : Int32))), .val (.ref w_ONE_OR_MORE), .unset] [(.int (1 : Int32)), (.int p2)])) _
              refine XS.icmpYes X32.here hx rfl (pc0 := 110) (pc' := 117) rfl (hb hby at_110) rfl (tlt hc110_34).1 (by decide) (by decide) ?_
              show Steps p.tables e below (T32.setTop (mkF m 117 #[.val (.int p1), .val (.int p2), .val (.int ((p1 &&& (2147483647 : Int32)) % (5 : Int32))), .val (.ref w_ONE_OR_MORE), .unset] [])) _
              refine XS.iconst X32.here hx rfl (hb hby at_117) ?_
              show Steps p.tables e below (T32.setTop (mkF m 118 #[.val (.int p1), .val (.int p2), .val (.int ((p1 &&& (2147483647 : Int32)) % (5 : Int32))), .val (.ref w_ONE_OR_MORE), .unset] [(.int (0 : Int32))])) _
              refine XS.istore X32.here hx rfl (hb hby at_118) rfl (l' := #[.val (.int p1), .val (.int p2), .val (.int ((p1 &&& (2147483647 : Int32)) % (5 : Int32))), .val (.ref w_ONE_OR_MORE), .val (.int (0 : Int32))]) rfl ?_
              show Steps p.tables e below (T32.setTop (mkF m 120 #[.val (.int p1), .val (.int p2), .val (.int ((p1 &&& (2147483647 : Int32)) % (5 : Int32))), .val (.ref w_ONE_OR_MORE), .val (.int (0 : Int32))] [])) _
              refine XS.aloadN X32.here hx rfl (hb hby at_120) rfl rfl ?_
              show Steps p.tables e below (T32.setTop (mkF m 121 #[.val (.int p1), .val (.int p2), .val (.int ((p1 &&& (2147483647 : Int32)) % (5 : Int32))), .val (.ref w_ONE_OR_MORE), .val (.int (0 : Int32))] [(.ref w_ONE_OR_MORE)])) _
              refine XS.iloadN X32.here hx rfl (hb hby at_121) rfl ?_
              show Steps p.tables e below (T32.setTop (mkF m 122 #[.val (.int p1), .val (.int p2), .val (.int ((p1 &&& (2147483647 : Int32)) % (5 : Int32))), .val (.ref w_ONE_OR_MORE), .val (.int (0 : Int32))] [(.int p2), (.ref w_ONE_OR_MORE)])) _
              refine st35.trans ?_
              show Steps p.tables e below (T35.setTop (mkF m 125 #[.val (.int p1), .val (.int p2), .val (.int ((p1 &&& (2147483647 : Int32)) % (5 : Int32))), .val (.ref w_ONE_OR_MORE), .val (.int (0 : Int32))] [(.int (own_allows p2 (1 : Int32) (2147483647 : Int32)))])) _
              refine XS.iload X35.here hx rfl (hb hby at_125) rfl ?_
              show Steps p.tables e below (T35.setTop (mkF m 127 #[.val (.int p1), .val (.int p2), .val (.int ((p1 &&& (2147483647 : Int32)) % (5 : Int32))), .val (.ref w_ONE_OR_MORE), .val (.int (0 : Int32))] [(.int (0 : Int32)), (.int (own_allows p2 (1 : Int32) (2147483647 : Int32)))])) _
              refine XS.icmpNo X35.here hx rfl (hb hby at_127) rfl (teq (by have r := rng32 p2; have c0 : (0 : Int32).toInt = 0 := rfl; have c1 : (1 : Int32).toInt = 1 := rfl; have c2 : (2147483647 : Int32).toInt = 2147483647 := rfl; simp only [Int32.lt_iff_toInt_lt, ← Int32.toInt_inj] at hc110_34; exact own_no (by omega) : (own_allows p2 (1 : Int32) (2147483647 : Int32)) = (0 : Int32))).2 ?_
              show Steps p.tables e below (T35.setTop (mkF m 130 #[.val (.int p1), .val (.int p2), .val (.int ((p1 &&& (2147483647 : Int32)) % (5 : Int32))), .val (.ref w_ONE_OR_MORE), .val (.int (0 : Int32))] [])) _
              refine XS.iconst X35.here hx rfl (hb hby at_130) ?_
              show Steps p.tables e below (T35.setTop (mkF m 131 #[.val (.int p1), .val (.int p2), .val (.int ((p1 &&& (2147483647 : Int32)) % (5 : Int32))), .val (.ref w_ONE_OR_MORE), .val (.int (0 : Int32))] [(.int (1 : Int32))])) _
              refine XS.goto X35.here hx rfl (pc0 := 131) (pc' := 135) rfl (hb hby at_131) (by decide) (by decide) ?_
              show Steps p.tables e below (T35.setTop (mkF m 135 #[.val (.int p1), .val (.int p2), .val (.int ((p1 &&& (2147483647 : Int32)) % (5 : Int32))), .val (.ref w_ONE_OR_MORE), .val (.int (0 : Int32))] [(.int (1 : Int32))])) _
              exact retN X35 hx (t := .boolean) Bd.returns (by simp) (hb hby at_135) hr
            · show Q0 h0 n0 _ T35.heap _
              rw [eh35]
              exact ⟨rfl, N35⟩
          · obtain ⟨cq36, kq36, q36a, q36b, q36c⟩ := isOf hZ e32 E_ONE_OR_MORE
            obtain ⟨_, _, ⟨T36, L36, k36, n36⟩, -, X36, ⟨Lc36, hQ36, l36, y36, z36⟩, st36⟩ := X32.virtualBack hx (y := (⟨"com/example/mint_path/mintpath/type/Occurrence", "allows", "(I)Z"⟩ : MethodName)) (z := (⟨"com/example/mint_path/mintpath/type/Occurrence", "allows", "(I)Z"⟩ : MethodName)) hown (mvT hZ (hw _ (List.mem_of_getElem? (i := 4) rfl))) (mvT hZ (hw _ (List.mem_of_getElem? (i := 5) rfl))) (notFace_of_selects (args := #[]) (mvT hZ (hw _ (List.mem_of_getElem? (i := 7) rfl)))) (mvT hZ (hw _ (List.mem_of_getElem? (i := 7) rfl))) (mvT hZ (hw _ (List.mem_of_getElem? (i := 6) rfl))) (by decide) (backOf (W := 0) (rmA l Z a0 hw [] w_ONE_OR_MORE p2 (1 : Int32) (2147483647 : Int32) h0 n0 Z0 A_ONE_OR_MORE B_ONE_OR_MORE) hZ (hw _ (List.mem_of_getElem? (i := 8) rfl)) (hw _ (List.mem_of_getElem? (i := 2) rfl)) (by decide) (by decide)) q36a q36c (g := (mkF m 122 #[.val (.int p1), .val (.int p2), .val (.int ((p1 &&& (2147483647 : Int32)) % (5 : Int32))), .val (.ref w_ONE_OR_MORE), .val (.int (1 : Int32))] [(.int p2), (.ref w_ONE_OR_MORE)])) rfl (by rw [hml]; rfl) (Steps.refl _) (argsL := [(.int p2)]) (rest := []) (lenOf pd0_0 rfl) rfl (by show 2 * 0 + _ ≤ _; exact Nat.le_of_eq rfl) (hb hby at_122) (fun _ _ => ⟨rfl, e32, (by decide : 0 + 0 ≤ _), (by decide : 0 + 0 ≤ _)⟩)
            dsimp only [Pt.U, Pt.locs, Pt.cells, Pt.slots] at X36 l36 y36 z36 st36 hQ36
            subst l36 y36 z36
            obtain ⟨rfl, N36q, eh36⟩ := hQ36
            have N36 := Fr.app N0 N36q
            obtain ⟨fs, hr, hrun, hended, hW, hsame⟩ := X36.leave (v := some (.int (1 : Int32))) (fun h => by rw [Bd.returns] at h; cases h)
            refine ⟨_, _, pre33 _ ?_, hrun, hended, _, _, rfl, ?_, ⟨_, rfl⟩, hW, hsame.mono (by decide) (by decide)⟩
            · show Steps p.tables e below (T32.setTop (mkF m 110 #[.val (.int p1), .val (.int p2), .val (.int ((p1 &&& (2147483647 : Int32)) % (5 : Int32))), .val (.ref w_ONE_OR_MORE), .unset] [(.int (1 : Int32)), (.int p2)])) _
              refine XS.icmpNo X32.here hx rfl (hb hby at_110) rfl (flt hc110_34).1 ?_
              show Steps p.tables e below (T32.setTop (mkF m 113 #[.val (.int p1), .val (.int p2), .val (.int ((p1 &&& (2147483647 : Int32)) % (5 : Int32))), .val (.ref w_ONE_OR_MORE), .unset] [])) _
              refine XS.iconst X32.here hx rfl (hb hby at_113) ?_
              show Steps p.tables e below (T32.setTop (mkF m 114 #[.val (.int p1), .val (.int p2), .val (.int ((p1 &&& (2147483647 : Int32)) % (5 : Int32))), .val (.ref w_ONE_OR_MORE), .unset] [(.int (1 : Int32))])) _
              refine XS.goto X32.here hx rfl (pc0 := 114) (pc' := 118) rfl (hb hby at_114) (by decide) (by decide) ?_
              show Steps p.tables e below (T32.setTop (mkF m 118 #[.val (.int p1), .val (.int p2), .val (.int ((p1 &&& (2147483647 : Int32)) % (5 : Int32))), .val (.ref w_ONE_OR_MORE), .unset] [(.int (1 : Int32))])) _
              refine XS.istore X32.here hx rfl (hb hby at_118) rfl (l' := #[.val (.int p1), .val (.int p2), .val (.int ((p1 &&& (2147483647 : Int32)) % (5 : Int32))), .val (.ref w_ONE_OR_MORE), .val (.int (1 : Int32))]) rfl ?_
              show Steps p.tables e below (T32.setTop (mkF m 120 #[.val (.int p1), .val (.int p2), .val (.int ((p1 &&& (2147483647 : Int32)) % (5 : Int32))), .val (.ref w_ONE_OR_MORE), .val (.int (1 : Int32))] [])) _
              refine XS.aloadN X32.here hx rfl (hb hby at_120) rfl rfl ?_
              show Steps p.tables e below (T32.setTop (mkF m 121 #[.val (.int p1), .val (.int p2), .val (.int ((p1 &&& (2147483647 : Int32)) % (5 : Int32))), .val (.ref w_ONE_OR_MORE), .val (.int (1 : Int32))] [(.ref w_ONE_OR_MORE)])) _
              refine XS.iloadN X32.here hx rfl (hb hby at_121) rfl ?_
              show Steps p.tables e below (T32.setTop (mkF m 122 #[.val (.int p1), .val (.int p2), .val (.int ((p1 &&& (2147483647 : Int32)) % (5 : Int32))), .val (.ref w_ONE_OR_MORE), .val (.int (1 : Int32))] [(.int p2), (.ref w_ONE_OR_MORE)])) _
              refine st36.trans ?_
              show Steps p.tables e below (T36.setTop (mkF m 125 #[.val (.int p1), .val (.int p2), .val (.int ((p1 &&& (2147483647 : Int32)) % (5 : Int32))), .val (.ref w_ONE_OR_MORE), .val (.int (1 : Int32))] [(.int (own_allows p2 (1 : Int32) (2147483647 : Int32)))])) _
              refine XS.iload X36.here hx rfl (hb hby at_125) rfl ?_
              show Steps p.tables e below (T36.setTop (mkF m 127 #[.val (.int p1), .val (.int p2), .val (.int ((p1 &&& (2147483647 : Int32)) % (5 : Int32))), .val (.ref w_ONE_OR_MORE), .val (.int (1 : Int32))] [(.int (1 : Int32)), (.int (own_allows p2 (1 : Int32) (2147483647 : Int32)))])) _
              refine XS.icmpNo X36.here hx rfl (hb hby at_127) rfl (teq (by have r := rng32 p2; have c0 : (0 : Int32).toInt = 0 := rfl; have c1 : (1 : Int32).toInt = 1 := rfl; have c2 : (2147483647 : Int32).toInt = 2147483647 := rfl; simp only [Int32.lt_iff_toInt_lt, ← Int32.toInt_inj] at hc110_34; exact own_yes (by omega) (by omega) : (own_allows p2 (1 : Int32) (2147483647 : Int32)) = (1 : Int32))).2 ?_
              show Steps p.tables e below (T36.setTop (mkF m 130 #[.val (.int p1), .val (.int p2), .val (.int ((p1 &&& (2147483647 : Int32)) % (5 : Int32))), .val (.ref w_ONE_OR_MORE), .val (.int (1 : Int32))] [])) _
              refine XS.iconst X36.here hx rfl (hb hby at_130) ?_
              show Steps p.tables e below (T36.setTop (mkF m 131 #[.val (.int p1), .val (.int p2), .val (.int ((p1 &&& (2147483647 : Int32)) % (5 : Int32))), .val (.ref w_ONE_OR_MORE), .val (.int (1 : Int32))] [(.int (1 : Int32))])) _
              refine XS.goto X36.here hx rfl (pc0 := 131) (pc' := 135) rfl (hb hby at_131) (by decide) (by decide) ?_
              show Steps p.tables e below (T36.setTop (mkF m 135 #[.val (.int p1), .val (.int p2), .val (.int ((p1 &&& (2147483647 : Int32)) % (5 : Int32))), .val (.ref w_ONE_OR_MORE), .val (.int (1 : Int32))] [(.int (1 : Int32))])) _
              exact retN X36 hx (t := .boolean) Bd.returns (by simp) (hb hby at_135) hr
            · show Q0 h0 n0 _ T36.heap _
              rw [eh36]
              exact ⟨rfl, N36⟩
set_option maxRecDepth 65536 in
set_option maxHeartbeats 40000000 in
theorem comes_1 {Post : Tables → Env → Array Value → State → Outcome → State → Prop} (hpost : ∀ tb e args s v u, (limb_1_1.after args s (.returned v) u = true ∧ limb_1_2.after args s (.returned v) u = true ∧ True) → FrameEnd s (.returned v) u (Jvm.fieldLocs frame_1_writes args s ++ Jvm.arrayLocs frame_1_arrays args s ++ Jvm.staticLocs frame_1_statics s) 0 0 → Post tb e args s (.returned v) u) :
    ArmFor flags0 classFile x code maxLocals ret World_1 tables_1 room_1 Calls_1 rest_1 Pre_1 Post := by
  intro l hfl _ _ p e ha hc hk s m args below hf hA hF happ hP
  obtain ⟨hcalls, hrest, hpre⟩ := hP
  obtain ⟨-, -, -, hnamed, -, -, -, hat⟩ := (Spec.applies_iff hf).mp happ
  obtain ⟨hg, hn⟩ := and_e (Cond.before_iff.mp (show (Jvm.Cond.and given_1 narrow_1).before args s = true from hpre))
  obtain ⟨hcnt, ha0⟩ := and_e hg
  obtain ⟨hi0, ha1⟩ := and_e ha0
  obtain ⟨w0, w1, rfl⟩ : ∃ w0 w1 : Value, args = #[w0, w1] := by
    have hs : args.size = 2 := by simpa [Cond.value, given_1] using hcnt
    obtain ⟨L⟩ := args
    match L, hs with
    | [w0, w1], _ => exact ⟨w0, w1, rfl⟩
  have hw := fun d (hd : d ∈ tables_1) => atoms_spec (ws := Jvm.Cond.code x code maxLocals ret :: tables_1) hat d (List.mem_cons_of_mem _ hd)
  obtain ⟨i0, ei0⟩ := is_v hi0
  obtain rfl : w0 = (.int i0) := Option.some.inj ei0
  obtain ⟨i1, ei1⟩ := is_v ha1
  obtain rfl : w1 = (.int i1) := Option.some.inj ei1
  obtain ⟨hg0, hr0⟩ := and_e hn
  obtain ⟨w_ZERO, ev_ZERO⟩ := exa_v hg0
  have E_ZERO : Exa s s.heap w_ZERO "com/example/mint_path/mintpath/type/Occurrence" := Exa.start ev_ZERO hg0
  have S_ZERO : Sta s s.heap "com/example/mint_path/mintpath/type/Occurrence" "ZERO" "Lcom/example/mint_path/mintpath/type/Occurrence;" (.ref w_ZERO) := Sta.start ev_ZERO (Or.inr ⟨(hw _ (List.mem_of_getElem? (i := 2) rfl)), (hw _ (List.mem_of_getElem? (i := 3) rfl))⟩)
  obtain ⟨hg1, hr1⟩ := and_e hr0
  have O_min_ZERO : Fld s s.heap w_ZERO "com/example/mint_path/mintpath/type/Occurrence" "min" "I" (.int (0 : Int32)) := own_fld ev_ZERO hg1
  obtain ⟨hg2, hr2⟩ := and_e hr1
  have O_max_ZERO : Fld s s.heap w_ZERO "com/example/mint_path/mintpath/type/Occurrence" "max" "I" (.int (0 : Int32)) := own_fld ev_ZERO hg2
  obtain ⟨hg3, hr3⟩ := and_e hr2
  obtain ⟨w_ONE_OR_MORE, ev_ONE_OR_MORE⟩ := exa_v hg3
  have E_ONE_OR_MORE : Exa s s.heap w_ONE_OR_MORE "com/example/mint_path/mintpath/type/Occurrence" := Exa.start ev_ONE_OR_MORE hg3
  have S_ONE_OR_MORE : Sta s s.heap "com/example/mint_path/mintpath/type/Occurrence" "ONE_OR_MORE" "Lcom/example/mint_path/mintpath/type/Occurrence;" (.ref w_ONE_OR_MORE) := Sta.start ev_ONE_OR_MORE (Or.inr ⟨(hw _ (List.mem_of_getElem? (i := 2) rfl)), (hw _ (List.mem_of_getElem? (i := 14) rfl))⟩)
  obtain ⟨hg4, hr4⟩ := and_e hr3
  have O_min_ONE_OR_MORE : Fld s s.heap w_ONE_OR_MORE "com/example/mint_path/mintpath/type/Occurrence" "min" "I" (.int (1 : Int32)) := own_fld ev_ONE_OR_MORE hg4
  obtain ⟨hg5, hr5⟩ := and_e hr4
  have O_max_ONE_OR_MORE : Fld s s.heap w_ONE_OR_MORE "com/example/mint_path/mintpath/type/Occurrence" "max" "I" (.int (2147483647 : Int32)) := own_fld ev_ONE_OR_MORE hg5
  obtain ⟨hg6, hr6⟩ := and_e hr5
  obtain ⟨w_ZERO_OR_MORE, ev_ZERO_OR_MORE⟩ := exa_v hg6
  have E_ZERO_OR_MORE : Exa s s.heap w_ZERO_OR_MORE "com/example/mint_path/mintpath/type/Occurrence" := Exa.start ev_ZERO_OR_MORE hg6
  have S_ZERO_OR_MORE : Sta s s.heap "com/example/mint_path/mintpath/type/Occurrence" "ZERO_OR_MORE" "Lcom/example/mint_path/mintpath/type/Occurrence;" (.ref w_ZERO_OR_MORE) := Sta.start ev_ZERO_OR_MORE (Or.inr ⟨(hw _ (List.mem_of_getElem? (i := 2) rfl)), (hw _ (List.mem_of_getElem? (i := 16) rfl))⟩)
  obtain ⟨hg7, hr7⟩ := and_e hr6
  have O_min_ZERO_OR_MORE : Fld s s.heap w_ZERO_OR_MORE "com/example/mint_path/mintpath/type/Occurrence" "min" "I" (.int (0 : Int32)) := own_fld ev_ZERO_OR_MORE hg7
  obtain ⟨hg8, hr8⟩ := and_e hr7
  have O_max_ZERO_OR_MORE : Fld s s.heap w_ZERO_OR_MORE "com/example/mint_path/mintpath/type/Occurrence" "max" "I" (.int (2147483647 : Int32)) := own_fld ev_ZERO_OR_MORE hg8
  obtain ⟨hg9, hr9⟩ := and_e hr8
  obtain ⟨w_EXACTLY_ONE, ev_EXACTLY_ONE⟩ := exa_v hg9
  have E_EXACTLY_ONE : Exa s s.heap w_EXACTLY_ONE "com/example/mint_path/mintpath/type/Occurrence" := Exa.start ev_EXACTLY_ONE hg9
  have S_EXACTLY_ONE : Sta s s.heap "com/example/mint_path/mintpath/type/Occurrence" "EXACTLY_ONE" "Lcom/example/mint_path/mintpath/type/Occurrence;" (.ref w_EXACTLY_ONE) := Sta.start ev_EXACTLY_ONE (Or.inr ⟨(hw _ (List.mem_of_getElem? (i := 2) rfl)), (hw _ (List.mem_of_getElem? (i := 18) rfl))⟩)
  obtain ⟨hg10, hr10⟩ := and_e hr9
  have O_min_EXACTLY_ONE : Fld s s.heap w_EXACTLY_ONE "com/example/mint_path/mintpath/type/Occurrence" "min" "I" (.int (1 : Int32)) := own_fld ev_EXACTLY_ONE hg10
  obtain ⟨hg11, hr11⟩ := and_e hr10
  obtain ⟨w_ZERO_OR_ONE, ev_ZERO_OR_ONE⟩ := exa_v hg11
  have E_ZERO_OR_ONE : Exa s s.heap w_ZERO_OR_ONE "com/example/mint_path/mintpath/type/Occurrence" := Exa.start ev_ZERO_OR_ONE hg11
  have S_ZERO_OR_ONE : Sta s s.heap "com/example/mint_path/mintpath/type/Occurrence" "ZERO_OR_ONE" "Lcom/example/mint_path/mintpath/type/Occurrence;" (.ref w_ZERO_OR_ONE) := Sta.start ev_ZERO_OR_ONE (Or.inr ⟨(hw _ (List.mem_of_getElem? (i := 2) rfl)), (hw _ (List.mem_of_getElem? (i := 20) rfl))⟩)
  obtain ⟨hg12, hr12⟩ := and_e hr11
  have O_min_ZERO_OR_ONE : Fld s s.heap w_ZERO_OR_ONE "com/example/mint_path/mintpath/type/Occurrence" "min" "I" (.int (0 : Int32)) := own_fld ev_ZERO_OR_ONE hg12
  obtain ⟨hg13, hr13⟩ := and_e hr12
  have O_max_ZERO_OR_ONE : Fld s s.heap w_ZERO_OR_ONE "com/example/mint_path/mintpath/type/Occurrence" "max" "I" (.int (1 : Int32)) := own_fld ev_ZERO_OR_ONE hg13
  have O_max_EXACTLY_ONE : Fld s s.heap w_EXACTLY_ONE "com/example/mint_path/mintpath/type/Occurrence" "max" "I" (.int (1 : Int32)) := own_fld ev_EXACTLY_ONE hr13
  obtain ⟨n, o, h1, h2, h3, _, L, rfl, ⟨rfl, N⟩, hq⟩ := rm0 l s _ hw tables_1 i0 i1 w_ZERO w_EXACTLY_ONE w_ZERO_OR_ONE w_ZERO_OR_MORE w_ONE_OR_MORE s.heap s.heap.size (Nat.le_refl _) S_ZERO S_EXACTLY_ONE S_ZERO_OR_ONE S_ZERO_OR_MORE S_ONE_OR_MORE E_ZERO E_EXACTLY_ONE E_ZERO_OR_ONE E_ZERO_OR_MORE E_ONE_OR_MORE O_min_ZERO O_max_ZERO O_min_EXACTLY_ONE O_max_EXACTLY_ONE O_min_ZERO_OR_ONE O_max_ZERO_OR_ONE O_min_ZERO_OR_MORE O_max_ZERO_OR_MORE O_min_ONE_OR_MORE O_max_ONE_OR_MORE p e ha hc hk s m _ below hf ((Spec.applies_iff_loose hf).mp happ).1 ⟨rfl, State.Warmed39.refl s, rfl⟩ trivial
  refine ⟨n, _, h1, h2, h3, hpost _ _ _ _ _ _ ⟨Cond.after_iff.mpr rfl, Cond.after_iff.mpr (eq_i res_at (Term.int_eval (1)) rfl), trivial⟩ ⟨hq.1, hq.2.1, (hq.2.2.sift fun y hy => Or.inr (N y hy)).mono (by decide) (by decide)⟩⟩
theorem main_1_1 : Claimed_1_1 := comes_1 fun _ _ _ _ _ _ h hF => ⟨h.1, hF⟩
theorem main_1_2 : Claimed_1_2 := comes_1 fun _ _ _ _ _ _ h hF => ⟨h.2.1, hF⟩
end Jvm.Pilot.@@N@@
namespace Jvm.Pilot.@@N@@
open Jvm Jvm.ClassFile Sem Op Lib Jvm.Free Jvm.Stand Jvm.Pilot.@@N@@.Jvm.D
/-! MADE BY PROGRAM (witnessworld.py) out of the Statement's table words and the real class files: 12 classes; the members and pool entries that the words name. The judged class is class 1, her method 1. -/
namespace start1
open Jvm.ClassFile
def u (s : String) : CpInfo := .utf8 (stringToUtf16 s)
/-- a pool by its gaps: so many unusable entries, then the entry; so many at the end -/
def gap : Nat → List CpInfo → List CpInfo
  | 0, r => r
  | n + 1, r => .unusable :: gap n r
def poolList (es : List (Nat × CpInfo)) (last : Nat) : List CpInfo := es.foldr (fun e r => gap e.1 (e.2 :: r)) (gap last [])
def pool (es : List (Nat × CpInfo)) (last : Nat) : Array CpInfo := ⟨poolList es last⟩
def fileOf (pool : Array CpInfo) (this : Nat) (attrs : Array Attribute := #[]) (ms : Array MethodInfo := #[]) (fl : Nat := 33) (sup : Nat := 0) (ifs : Array Nat := #[]) (fds : Array FieldInfo := #[]) : ClassFile where
  minorVersion := 0
  majorVersion := 65
  constantPool := pool
  accessFlags := fl
  thisClass := this
  superClass := sup
  interfaces := ifs
  fields := fds
  methods := ms
  attributes := attrs
def plain (name : String) (sup : Option ClassId) : Class where
  name := name
  kind := .ordinary
  loader := none
  accessFlags := 33
  super := sup
  interfaces := #[]
  cf := none
  fields := #[]
  methods := #[]
  instanceTypes := #[]
  staticTypes := #[]
  resolved := #[]
  callSites := []
  init := .initialized
  statics := none
  mirror := none

def pool0 : Array CpInfo := pool [(5, u "<init>"), (0, u "()V"), (1, .class_ 10), (1, u "java/lang/Object")] 113

def k0m0 : Method := { name := "<init>", desc := "()V", sig := { parameters := [], returnType := none }, accessFlags := 1, code := none }
/-- java/lang/Object -/
def k0 : Class := { plain "java/lang/Object" none with
  accessFlags := 33
  interfaces := #[]
  cf := some (fileOf pool0 8 #[] #[{ accessFlags := 1, nameIndex := 5, descriptorIndex := 6, attributes := #[] }] 33 0 #[] #[])
  fields := #[]
  methods := #[k0m0]
  instanceTypes := #[]
  staticTypes := #[]
  resolved := Array.replicate 124 none
  statics := none }

def pool1 : Array CpInfo := pool [(2, .class_ 4), (1, u "java/lang/Object"), (0, u "<init>"), (0, u "()V"), (0, .integer 2147483647), (0, .fieldref 9 10), (0, .class_ 11), (0, .nameAndType 12 13), (0, u "com/example/mint_path/mintpath/type/Occurrence"), (0, u "ZERO"), (0, u "Lcom/example/mint_path/mintpath/type/Occurrence;"), (0, .fieldref 9 15), (0, .nameAndType 16 13), (0, u "EXACTLY_ONE"), (0, .fieldref 9 18), (0, .nameAndType 19 13), (0, u "ZERO_OR_ONE"), (0, .fieldref 9 21), (0, .nameAndType 22 13), (0, u "ZERO_OR_MORE"), (0, .fieldref 9 24), (0, .nameAndType 25 13), (0, u "ONE_OR_MORE"), (0, .methodref 9 27), (0, .nameAndType 28 29), (0, u "allows"), (0, u "(I)Z"), (0, .class_ 31), (0, u "com/example/mint_path/mintpath/type/OccurrenceAllowsPinLaw"), (2, u "law"), (0, u "(II)Z")] 3

def k1m0 : Method := { name := "<init>", desc := "()V", sig := { parameters := [], returnType := none }, accessFlags := 1, code := none }
def k1c1 : Code := { maxStack := 2, maxLocals := 5, code := code, exceptionTable := #[], attributes := #[] }
def k1m1 : Method := { name := "law", desc := "(II)Z", sig := { parameters := [.int, .int], returnType := some .boolean }, accessFlags := 9, code := some k1c1 }
/-- com/example/mint_path/mintpath/type/OccurrenceAllowsPinLaw -/
def k1 : Class := { plain "com/example/mint_path/mintpath/type/OccurrenceAllowsPinLaw" (some 0) with
  accessFlags := 49
  interfaces := #[]
  cf := some (fileOf pool1 30 #[] #[{ accessFlags := 1, nameIndex := 5, descriptorIndex := 6, attributes := #[] }, { accessFlags := 9, nameIndex := 34, descriptorIndex := 35, attributes := #[] }] 49 2 #[] #[])
  fields := #[]
  methods := #[k1m0, k1m1]
  instanceTypes := #[]
  staticTypes := #[]
  resolved := Array.replicate 39 none
  statics := none }

def pool2 : Array CpInfo := pool [(1, .class_ 2), (0, u "java/lang/constant/Constable"), (0, .class_ 4), (0, u "java/lang/Object")] 6

/-- java/lang/constant/Constable -/
def k2 : Class := { plain "java/lang/constant/Constable" (some 0) with
  accessFlags := 1537
  interfaces := #[]
  cf := some (fileOf pool2 1 #[] #[] 1537 3 #[] #[])
  fields := #[]
  methods := #[]
  instanceTypes := #[]
  staticTypes := #[]
  resolved := Array.replicate 11 none
  statics := none }

def pool3 : Array CpInfo := pool [(1, .class_ 2), (0, u "java/lang/Comparable"), (0, .class_ 4), (0, u "java/lang/Object")] 7

/-- java/lang/Comparable -/
def k3 : Class := { plain "java/lang/Comparable" (some 0) with
  accessFlags := 1537
  interfaces := #[]
  cf := some (fileOf pool3 1 #[] #[] 1537 3 #[] #[])
  fields := #[]
  methods := #[]
  instanceTypes := #[]
  staticTypes := #[]
  resolved := Array.replicate 12 none
  statics := none }

def pool4 : Array CpInfo := pool [(1, .class_ 2), (0, u "java/io/Serializable"), (0, .class_ 4), (0, u "java/lang/Object")] 2

/-- java/io/Serializable -/
def k4 : Class := { plain "java/io/Serializable" (some 0) with
  accessFlags := 1537
  interfaces := #[]
  cf := some (fileOf pool4 1 #[] #[] 1537 3 #[] #[])
  fields := #[]
  methods := #[]
  instanceTypes := #[]
  staticTypes := #[]
  resolved := Array.replicate 7 none
  statics := none }

def pool5 : Array CpInfo := pool [(2, .class_ 4), (1, u "java/lang/Enum"), (0, u "name"), (0, u "Ljava/lang/String;"), (2, u "ordinal"), (0, u "I"), (1, .class_ 14), (1, u "java/lang/Object"), (4, u "hash"), (86, .class_ 108), (1, u "java/lang/Enum$EnumDesc"), (2, .class_ 112), (0, u "java/lang/constant/Constable"), (0, .class_ 114), (0, u "java/lang/Comparable"), (0, .class_ 116), (0, u "java/io/Serializable")] 87

/-- java/lang/Enum -/
def k5 : Class := { plain "java/lang/Enum" (some 0) with
  accessFlags := 1057
  interfaces := #[2, 3, 4]
  cf := some (fileOf pool5 2 #[.nestMembers #[106]] #[] 1057 12 #[111, 113, 115] #[{ accessFlags := 18, nameIndex := 5, descriptorIndex := 6, attributes := #[] }, { accessFlags := 18, nameIndex := 9, descriptorIndex := 10, attributes := #[] }, { accessFlags := 2, nameIndex := 19, descriptorIndex := 10, attributes := #[] }])
  fields := #[{ name := "name", type := (.object "java/lang/String"), accessFlags := 18, slot := 0, constantValue := 0 }, { name := "ordinal", type := .int, accessFlags := 18, slot := 1, constantValue := 0 }, { name := "hash", type := .int, accessFlags := 2, slot := 2, constantValue := 0 }]
  methods := #[]
  instanceTypes := #[(.object "java/lang/String"), .int, .int]
  staticTypes := #[]
  resolved := Array.replicate 204 none
  statics := none }

def pool6 : Array CpInfo := pool [(1, .class_ 2), (0, u "com/example/mint_path/mintpath/type/Occurrence"), (2, u "ZERO"), (0, u "Lcom/example/mint_path/mintpath/type/Occurrence;"), (2, u "EXACTLY_ONE"), (2, u "ZERO_OR_ONE"), (2, u "ZERO_OR_MORE"), (2, u "ONE_OR_MORE"), (2, u "$VALUES"), (0, u "[Lcom/example/mint_path/mintpath/type/Occurrence;"), (6, .class_ 31), (1, u "java/lang/Enum"), (6, .fieldref 1 39), (0, .nameAndType 40 41), (0, u "min"), (0, u "I"), (0, .fieldref 1 43), (0, .nameAndType 44 41), (0, u "max"), (22, u "allows"), (0, u "(I)Z")] 8

def k6c0 : Code := { maxStack := 2, maxLocals := 2, code := prog_57_method_4_code, exceptionTable := #[], attributes := #[] }
def k6m0 : Method := { name := "allows", desc := "(I)Z", sig := { parameters := [.int], returnType := some .boolean }, accessFlags := 1, code := some k6c0 }
/-- com/example/mint_path/mintpath/type/Occurrence -/
def k6 : Class := { plain "com/example/mint_path/mintpath/type/Occurrence" (some 5) with
  accessFlags := 16433
  interfaces := #[]
  cf := some (fileOf pool6 1 #[] #[{ accessFlags := 1, nameIndex := 67, descriptorIndex := 68, attributes := #[] }] 16433 29 #[] #[{ accessFlags := 16409, nameIndex := 5, descriptorIndex := 6, attributes := #[] }, { accessFlags := 16409, nameIndex := 9, descriptorIndex := 6, attributes := #[] }, { accessFlags := 16409, nameIndex := 12, descriptorIndex := 6, attributes := #[] }, { accessFlags := 16409, nameIndex := 15, descriptorIndex := 6, attributes := #[] }, { accessFlags := 16409, nameIndex := 18, descriptorIndex := 6, attributes := #[] }, { accessFlags := 18, nameIndex := 40, descriptorIndex := 41, attributes := #[] }, { accessFlags := 18, nameIndex := 44, descriptorIndex := 41, attributes := #[] }, { accessFlags := 4122, nameIndex := 21, descriptorIndex := 22, attributes := #[] }])
  fields := #[{ name := "ZERO", type := (.object "com/example/mint_path/mintpath/type/Occurrence"), accessFlags := 16409, slot := 0, constantValue := 0 }, { name := "EXACTLY_ONE", type := (.object "com/example/mint_path/mintpath/type/Occurrence"), accessFlags := 16409, slot := 1, constantValue := 0 }, { name := "ZERO_OR_ONE", type := (.object "com/example/mint_path/mintpath/type/Occurrence"), accessFlags := 16409, slot := 2, constantValue := 0 }, { name := "ZERO_OR_MORE", type := (.object "com/example/mint_path/mintpath/type/Occurrence"), accessFlags := 16409, slot := 3, constantValue := 0 }, { name := "ONE_OR_MORE", type := (.object "com/example/mint_path/mintpath/type/Occurrence"), accessFlags := 16409, slot := 4, constantValue := 0 }, { name := "min", type := .int, accessFlags := 18, slot := 3, constantValue := 0 }, { name := "max", type := .int, accessFlags := 18, slot := 4, constantValue := 0 }, { name := "$VALUES", type := (.array (.object "com/example/mint_path/mintpath/type/Occurrence")), accessFlags := 4122, slot := 5, constantValue := 0 }]
  methods := #[k6m0]
  instanceTypes := #[(.object "java/lang/String"), .int, .int, .int, .int]
  staticTypes := #[(.object "com/example/mint_path/mintpath/type/Occurrence"), (.object "com/example/mint_path/mintpath/type/Occurrence"), (.object "com/example/mint_path/mintpath/type/Occurrence"), (.object "com/example/mint_path/mintpath/type/Occurrence"), (.object "com/example/mint_path/mintpath/type/Occurrence"), (.array (.object "com/example/mint_path/mintpath/type/Occurrence"))]
  resolved := Array.replicate 77 none
  statics := some 0 }

def pool7 : Array CpInfo := pool [(1, u "java/lang/Cloneable"), (0, .class_ 1), (0, u "java/lang/Object"), (0, .class_ 3)] 3

/-- java/lang/Cloneable -/
def k7 : Class := { plain "java/lang/Cloneable" (some 0) with
  accessFlags := 1537
  interfaces := #[]
  cf := some (fileOf pool7 2 #[] #[] 1537 4 #[] #[])
  fields := #[]
  methods := #[]
  instanceTypes := #[]
  staticTypes := #[]
  resolved := Array.replicate 8 none
  statics := none }

/-- the primitive byte -/
def k8 : Class := { plain "byte" none with kind := .primitive 'B', accessFlags := 0x411 }
/-- [B -/
def k9 : Class := { plain "[B" (some 0) with kind := .array 8 .byte, interfaces := #[7, 4], accessFlags := 1041 }

/-- the primitive int -/
def k10 : Class := { plain "int" none with kind := .primitive 'I', accessFlags := 0x411 }
/-- [I -/
def k11 : Class := { plain "[I" (some 0) with kind := .array 10 .int, interfaces := #[7, 4], accessFlags := 1041 }

def heap : Heap := #[{ cls := 6, slots := #[.ref 1, .ref 4, .ref 5, .ref 3, .ref 2, .null], vm := .statics 6 },
  { cls := 6, slots := #[.null, .int 0, .int 0, .int 0, .int 0], vm := .none },
  { cls := 6, slots := #[.null, .int 1, .int 0, .int 1, .int 2147483647], vm := .none },
  { cls := 6, slots := #[.null, .int 2, .int 0, .int 0, .int 2147483647], vm := .none },
  { cls := 6, slots := #[.null, .int 3, .int 0, .int 1, .int 1], vm := .none },
  { cls := 6, slots := #[.null, .int 4, .int 0, .int 0, .int 1], vm := .none }]
def classes : Array Class := #[k0, k1, k2, k3, k4, k5, k6, k7, k8, k9, k10, k11]
def interned : List (Array UInt16 × Addr) := []
def slotsUsed : Nat := 31
def theMethod : MethodId := ⟨1, 1⟩
def args0 : Array Value := #[.int 7, .int 3]
def aboutOver (below : List Frame) : State where
  vm := { classes := classes, interned := interned.toArray }
  heap := heap
  slotsUsed := slotsUsed
  threads := #[{ frames := .invoking theMethod args0 :: below }]
def below0 : List Frame := [.native { method := ⟨0, 0⟩, args := #[] }]
def about1 : State := aboutOver below0
def p0 : Program := .bare "" "" ""
def e0 : Env := launch0.env 0 0 0
theorem w_frames : about1.frames = Frame.invoking theMethod args0 :: below0 := rfl
set_option maxRecDepth 65536 in
theorem w_args : argsFit about1.vm theMethod args0 = true := by decide +kernel
set_option maxRecDepth 65536 in
theorem w_heap : heapFits about1 = true := by decide +kernel
set_option maxRecDepth 65536 in
theorem w_runnable : about1.curStatus? = some .runnable := by decide +kernel
set_option maxRecDepth 65536 in
theorem w_alone : about1.alone = true := by decide +kernel
set_option maxRecDepth 65536 in
theorem w_named : about1.methodNamed? x = some theMethod := by decide +kernel
set_option maxRecDepth 65536 in
theorem w_hears : about1.hears theMethod below0 = true := by decide +kernel
set_option maxRecDepth 65536 in
theorem w_ripe : about1.ripe theMethod args0 below0 = true := by decide +kernel
theorem w_running : about1.status = .running := rfl
set_option maxRecDepth 65536 in
theorem w_room : about1.hasRoom e0.platform room_1 = true :=
  launch0.hasRoom_least _ room_1 (by decide +kernel) (by decide +kernel) (by decide +kernel) (by decide +kernel) (by decide +kernel) (by decide +kernel)
theorem allAtoms_all (ts : List Jvm.Cond) (a : Array Jvm.Value) (st : Jvm.State) : (allAtoms ts).before a st = ts.all (fun c => c.before a st) := by
  induction ts with
  | nil => rfl
  | cons c t ih =>
    show (Jvm.Cond.and c (allAtoms t)).before a st = _
    rw [Jvm.Cond.before_and, ih, List.all_cons]
def words1 : List Jvm.Cond := Jvm.Cond.code x code maxLocals ret :: tables_1
/-- a 'code' word, met by the world's own term for the bytes: nothing is compared byte by byte -/
theorem code_word {y : MethodName} {bytes : ByteArray} {mx : Nat} {rt : Option FieldType} {a : Array Value} {s : State} {m : MethodId} {meth : Method} {c : Code} (h1 : s.methodNamed? y = some m) (h2 : s.vm.method? m = some meth) (h3 : meth.code = some c) (h4 : c.code = bytes)
    (h5 : (c.maxLocals == mx && c.exceptionTable.isEmpty && decide (c.maxStack ≤ mostOperands) && decide (meth.sig.returnType = rt) && !meth.locks && decide (parseMethodDescriptor y.desc = some meth.sig)) = true) : (Jvm.Cond.code y bytes mx rt).before a s = true := by
  simp only [Bool.and_eq_true, beq_iff_eq, Bool.not_eq_true', decide_eq_true_eq] at h5
  obtain ⟨⟨⟨⟨⟨g1, g2⟩, g3⟩, g4⟩, g5⟩, g6⟩ := h5
  simp [Cond.before, Cond.holds, Cond.value, h1, h2, h3, h4, g1, g2, g3, g4, g5, g6]
def isCode : Jvm.Cond → Bool
  | .code _ _ _ _ => true
  | _ => false
theorem all_split {L : List Jvm.Cond} {P : Jvm.Cond → Bool} (h1 : L.all (fun c => isCode c || P c) = true) (h2 : ∀ c ∈ L.filter isCode, P c = true) : L.all P = true := by
  refine List.all_eq_true.mpr fun c hc => ?_
  have h := List.all_eq_true.mp h1 c hc
  rcases Bool.eq_false_or_eq_true (isCode c) with hi | hi
  · exact h2 c (List.mem_filter.mpr ⟨hc, hi⟩)
  · simpa [hi] using h
set_option maxRecDepth 65536 in
theorem w_c0 : (Jvm.Cond.code x code maxLocals ret).before args0 about1 = true := code_word (m := ⟨1, 1⟩) (meth := k1m1) (c := k1c1) (by decide +kernel) rfl rfl rfl (by decide +kernel)
set_option maxRecDepth 65536 in
theorem w_c1 : (Jvm.Cond.code ({ cls := "com/example/mint_path/mintpath/type/Occurrence", name := "allows", desc := "(I)Z" } : Jvm.MethodName) prog_57_method_4_code (2 : Nat) (Option.some Jvm.ClassFile.FieldType.boolean)).before args0 about1 = true := code_word (m := ⟨6, 0⟩) (meth := k6m0) (c := k6c0) (by decide +kernel) rfl rfl rfl (by decide +kernel)
def codes1 : List Jvm.Cond := [Jvm.Cond.code x code maxLocals ret, Jvm.Cond.code ({ cls := "com/example/mint_path/mintpath/type/Occurrence", name := "allows", desc := "(I)Z" } : Jvm.MethodName) prog_57_method_4_code (2 : Nat) (Option.some Jvm.ClassFile.FieldType.boolean)]
set_option maxRecDepth 65536 in
theorem codes_eq : words1.filter isCode = codes1 := rfl
theorem w_codes : ∀ c ∈ words1.filter isCode, c.before args0 about1 = true := by
  rw [codes_eq]
  intro c hc
  simp only [codes1, List.mem_cons, List.not_mem_nil, or_false] at hc
  rcases hc with rfl | rfl
  · exact w_c0
  · exact w_c1
set_option maxRecDepth 65536 in
theorem w_t1 : words1.all (fun c => isCode c || c.before args0 about1) = true := by decide +kernel
theorem w_tables : (allAtoms (Jvm.Cond.code x code maxLocals ret :: tables_1)).before args0 about1 = true := by
  rw [allAtoms_all]
  show words1.all (fun c => c.before args0 about1) = true
  refine all_split ?_ w_codes
  rw [w_t1]
set_option maxRecDepth 65536 in
theorem w_case : (Jvm.Cond.and given_1 narrow_1).before args0 about1 = true := by decide +kernel
theorem w_applies : (headSpec (Jvm.Cond.code x code maxLocals ret :: tables_1) room_1).applies x e0.platform about1 = true :=
  (Spec.applies_iff w_frames).mpr ⟨w_running, w_runnable, w_alone, w_named, w_hears, w_ripe, w_room, w_tables⟩
theorem atStart : AtStart classFile x code maxLocals ret World_1 tables_1 room_1 Calls_1 rest_1 Pre_1 launch0 p0 e0 about1 theMethod args0 below0 :=
  ⟨lists_1, trivial, launch0.admits_env _ _ _, launch0.least_env, fairChoices_fair.cas, fairChoices_fair.clock, w_frames, w_args, w_heap, w_applies, trivial, trivial, w_case⟩
end start1
theorem witness_1 : WitnessClaimed_1 := ⟨start1.p0, start1.e0, start1.about1, start1.theMethod, start1.args0, start1.below0, start1.atStart⟩
end Jvm.Pilot.@@N@@
