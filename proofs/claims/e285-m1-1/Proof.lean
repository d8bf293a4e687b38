import JvmDerived
import JvmDerived.Pilot.@@N@@Statement
import JvmDerived.Pilot.@@N@@Code
set_option linter.unusedVariables false
set_option linter.unusedSimpArgs false
namespace Jvm.RoadKit
open Sem ClassFile Op Lib Jvm.Stand Jvm.Free Jvm.LawKit
section New
variable {p : Program} {l : Launch} {e : Env} {R : Room} {s : State} {m : MethodId} {args : Array Value} {below : List Frame} {meth : Method} {c : Code} {T : State} {locs : List Loc} {cells slots : Nat}
theorem retI (X : Stand p l e R s m args below meth c T locs cells slots) (hx : p.tables.exec = Jvm.exec) {pc : Nat} {Ls : Array Slot} {z : Int32} {rest : List Value} (hret : meth.sig.returnType = some .int) (hd : decode c.code pc = .ok (.ireturn, 1)) {fs : List Frame}
    (hl : ∀ (f : JFrame) (acts : List Action), f.method = m → f.locked = none → f.entered = [] → (doReturn e (T.setTop f) acts (some (.int z))).1 = T.setFrames fs) : Steps p.tables e below (T.setTop (mkF m pc Ls (.int z :: rest))) (T.setFrames fs) := by
  have hm' : T.vm.method? m = some meth := X.method'
  have hn : narrow .int (.int z) = .int z := rfl
  show Steps p.tables e below (T.setTop { method := m, pc := pc, locals := Ls, stack := _ :: rest, locked := none }) _
  jvm_step X.here [X.here.top, hx, hd, hm', hret, hn]
  first | (intro acts; rw [hl _ acts rfl rfl rfl]) | rw [hl _ _ rfl rfl rfl]
  exact Steps.refl _
end New
end Jvm.RoadKit
namespace Jvm.Pilot.@@N@@
open Jvm Jvm.ClassFile Sem Op Lib Jvm.Free Jvm.Stand Jvm.LawKit Jvm.RoadKit Bundle Jvm.Pilot.@@N@@.Jvm.D
theorem own_fld {s : State} {args : Array Value} {t : Term} {w : Addr} {C n d : String} {k : Int32} (ev : t.eval args s none [] s = some (.ref w)) (h : (Cond.eq (Term.field t C n d) (Term.int k)).value args s none s [] = some true) : Fld s s.heap w C n d (.int k) := by
  refine Fld.start ?_
  have h1 : (Term.field t C n d).eval args s none [] s = s.fieldOf? w C n d := fld_at ev
  have h2 : (Term.int k).eval args s none [] s = some (.int k) := Term.int_eval k
  cases hf : s.fieldOf? w C n d with
  | none => rw [hf] at h1; simp [Cond.value, h1] at h
  | some x =>
    rw [hf] at h1
    cases x <;> simp [Cond.value, h1, h2] at h
    rw [h]
def own_bit (k z : Int32) : Int32 := if (k &&& z) = 0 then 0 else 1
def own_of (d f u b r : Int32) (w_NONE w_BRIEF w_HIGH w_DESTRUCTIVE : Addr) : Addr := if d = 0 then (if f = 0 then (if u = 0 then (if b = 0 then w_NONE else if r = 0 then w_BRIEF else w_HIGH) else w_HIGH) else w_HIGH) else w_DESTRUCTIVE
def own_rank (a w_NONE w_BRIEF w_HIGH w_DESTRUCTIVE : Addr) : Int32 := if a = w_NONE then 0 else if a = w_BRIEF then 1 else if a = w_HIGH then 2 else if a = w_DESTRUCTIVE then 3 else -1
def own_max (a b : Int32) : Int32 := if a < b then b else a
def own_up (b e k : Int32) : Int32 := if b = 0 then e else own_max e k
def own_up2 (b r e k : Int32) : Int32 := if b = 0 then e else if r = 0 then e else own_max e k
theorem own_bit_or (k z : Int32) : own_bit k z = 0 ∨ own_bit k z = 1 := by unfold own_bit; split <;> simp
theorem own_final {b1 b2 b3 b4 b5 : Int32} {w_NONE w_BRIEF w_HIGH w_DESTRUCTIVE : Addr} (o1 : b1 = 0 ∨ b1 = 1) (o2 : b2 = 0 ∨ b2 = 1) (o3 : b3 = 0 ∨ b3 = 1) (o4 : b4 = 0 ∨ b4 = 1) (o5 : b5 = 0 ∨ b5 = 1)
    (n1 : ¬ w_BRIEF = w_NONE) (n2 : ¬ w_HIGH = w_NONE) (n3 : ¬ w_DESTRUCTIVE = w_NONE) (n4 : ¬ w_HIGH = w_BRIEF) (n5 : ¬ w_DESTRUCTIVE = w_BRIEF) (n6 : ¬ w_DESTRUCTIVE = w_HIGH) :
    own_rank (own_of b1 b2 b3 b4 b5 w_NONE w_BRIEF w_HIGH w_DESTRUCTIVE) w_NONE w_BRIEF w_HIGH w_DESTRUCTIVE = own_up b1 (own_up b3 (own_up b2 (own_up2 b4 b5 (own_up b4 0 1) 2) 2) 2) 3 := by
  rcases o1 with rfl | rfl <;> rcases o2 with rfl | rfl <;> rcases o3 with rfl | rfl <;> rcases o4 with rfl | rfl <;> rcases o5 with rfl | rfl <;>
    simp [own_of, own_rank, own_up, own_up2, own_max, n1, n2, n3, n4, n5, n6] <;> decide
theorem dO_0 : decode prog_98_method_4_code 0 = .ok (.getstatic 3, 3) := by decide +kernel
theorem dO_3 : decode prog_98_method_4_code 3 = .ok (.astore 5, 2) := by decide +kernel
theorem dO_5 : decode prog_98_method_4_code 5 = .ok (.iload_n 0, 1) := by decide +kernel
theorem dO_6 : decode prog_98_method_4_code 6 = .ok (.ifCond .eq 11, 3) := by decide +kernel
theorem dO_9 : decode prog_98_method_4_code 9 = .ok (.getstatic 13, 3) := by decide +kernel
theorem dO_12 : decode prog_98_method_4_code 12 = .ok (.astore 5, 2) := by decide +kernel
theorem dO_14 : decode prog_98_method_4_code 14 = .ok (.goto 37, 3) := by decide +kernel
theorem dO_17 : decode prog_98_method_4_code 17 = .ok (.iload_n 1, 1) := by decide +kernel
theorem dO_18 : decode prog_98_method_4_code 18 = .ok (.ifCond .ne 16, 3) := by decide +kernel
theorem dO_21 : decode prog_98_method_4_code 21 = .ok (.iload_n 2, 1) := by decide +kernel
theorem dO_22 : decode prog_98_method_4_code 22 = .ok (.ifCond .ne 12, 3) := by decide +kernel
theorem dO_25 : decode prog_98_method_4_code 25 = .ok (.iload_n 3, 1) := by decide +kernel
theorem dO_26 : decode prog_98_method_4_code 26 = .ok (.ifCond .eq 16, 3) := by decide +kernel
theorem dO_29 : decode prog_98_method_4_code 29 = .ok (.iload 4, 2) := by decide +kernel
theorem dO_31 : decode prog_98_method_4_code 31 = .ok (.ifCond .eq 11, 3) := by decide +kernel
theorem dO_34 : decode prog_98_method_4_code 34 = .ok (.getstatic 10, 3) := by decide +kernel
theorem dO_37 : decode prog_98_method_4_code 37 = .ok (.astore 5, 2) := by decide +kernel
theorem dO_39 : decode prog_98_method_4_code 39 = .ok (.goto 12, 3) := by decide +kernel
theorem dO_42 : decode prog_98_method_4_code 42 = .ok (.iload_n 3, 1) := by decide +kernel
theorem dO_43 : decode prog_98_method_4_code 43 = .ok (.ifCond .eq 8, 3) := by decide +kernel
theorem dO_46 : decode prog_98_method_4_code 46 = .ok (.getstatic 7, 3) := by decide +kernel
theorem dO_49 : decode prog_98_method_4_code 49 = .ok (.astore 5, 2) := by decide +kernel
theorem dO_51 : decode prog_98_method_4_code 51 = .ok (.aload 5, 2) := by decide +kernel
theorem dO_53 : decode prog_98_method_4_code 53 = .ok (.areturn, 1) := by decide +kernel
theorem pnO : plainName "com/example/largo/largo/Risk" = true := by first | (simp [plainName, overriddenIn]; done) | decide +kernel
theorem efO (m : MethodId) (b1 : Int32) (b2 : Int32) (b3 : Int32) (b4 : Int32) (b5 : Int32) : entryFrame m #[(.int b1), (.int b2), (.int b3), (.int b4), (.int b5)] 6 = mkF m 0 #[.val (.int b1), .val (.int b2), .val (.int b3), .val (.int b4), .val (.int b5), .unset] [] := by first | (simp [entryFrame, mkF, argsToLocals, Value.category]; done) | rfl
def QO (b1 b2 b3 b4 b5 : Int32) (w_NONE w_BRIEF w_HIGH w_DESTRUCTIVE : Addr) (h0 : Heap) (n0 : Nat) (v : Option Value) (h : Heap) (L : List Loc) : Prop := v = some (.ref (own_of b1 b2 b3 b4 b5 w_NONE w_BRIEF w_HIGH w_DESTRUCTIVE)) ∧ Fr n0 L ∧ h = h0
set_option maxRecDepth 65536 in
set_option maxHeartbeats 40000000 in
theorem rmO (l : Launch) (Z : State) (a0 : Array Value) (hw : ∀ d ∈ tables_1, d.before a0 Z = true) (ws : List Jvm.Cond) (b1 : Int32) (b2 : Int32) (b3 : Int32) (b4 : Int32) (b5 : Int32) (w_NONE w_BRIEF w_HIGH w_DESTRUCTIVE : Addr) (h0 : Heap) (n0 : Nat) (Z0 : n0 ≤ h0.size) (S_NONE : Sta Z h0 "com/example/largo/largo/Risk" "NONE" "Lcom/example/largo/largo/Risk;" (.ref w_NONE)) (S_BRIEF : Sta Z h0 "com/example/largo/largo/Risk" "BRIEF" "Lcom/example/largo/largo/Risk;" (.ref w_BRIEF)) (S_HIGH : Sta Z h0 "com/example/largo/largo/Risk" "HIGH" "Lcom/example/largo/largo/Risk;" (.ref w_HIGH)) (S_DESTRUCTIVE : Sta Z h0 "com/example/largo/largo/Risk" "DESTRUCTIVE" "Lcom/example/largo/largo/Risk;" (.ref w_DESTRUCTIVE)) :
    MetFree l (⟨"com/example/largo/largo/Risk", "of", "(ZZZZZ)Lcom/example/largo/largo/Risk;"⟩ : MethodName) (head1 (Jvm.Cond.code (⟨"com/example/largo/largo/Risk", "of", "(ZZZZZ)Lcom/example/largo/largo/Risk;"⟩ : MethodName) prog_98_method_4_code 6 (some (.object "com/example/largo/largo/Risk")) :: ws) ({ frames := 0, cells := 0, slots := 0, locals := 0 } : Room)) (fun as_ U => as_ = #[(.int b1), (.int b2), (.int b3), (.int b4), (.int b5)] ∧ Z.Warmed39 U.vm ∧ U.heap = h0) (fun _ _ _ _ _ => True) (fun _ U o U' => ∃ v L, o = .returned v ∧ QO b1 b2 b3 b4 b5 w_NONE w_BRIEF w_HIGH w_DESTRUCTIVE h0 n0 v U'.heap L ∧ FrameEnd U o U' L ({ frames := 0, cells := 0, slots := 0, locals := 0 } : Room).cells ({ frames := 0, cells := 0, slots := 0, locals := 0 } : Room).slots) := by
  refine MetFree.of_bodySF (plainFor_of_name pnO) hisR ?_
  intro p e s m args below meth c s₁ Bd hml0 hP hK
  obtain ⟨rfl, hZ, hh⟩ := hP
  have hx := Bd.exec
  have hby := Bd.bytes
  have hml : c.maxLocals = 6 := hml0
  have hown : s.vm.findClass "com/example/largo/largo/Risk" = some m.cls := findClass_of_methodNamed Bd.named
  have X0 : Stand p l e ({ frames := 0, cells := 0, slots := 0, locals := 0 } : Room) s m #[(.int b1), (.int b2), (.int b3), (.int b4), (.int b5)] below meth c s₁ [] 0 0 := Stand.of_body Bd
  have e0 : s₁.heap = h0 := by rw [← hh, Bd.state]; rfl
  have N0 := Fr.nil n0
  have pre0 : ∀ t, Steps p.tables e below (s₁.setTop (mkF m 0 #[.val (.int b1), .val (.int b2), .val (.int b3), .val (.int b4), .val (.int b5), .unset] [])) t → Steps p.tables e below (s₁.setTop (entryFrame m #[(.int b1), (.int b2), (.int b3), (.int b4), (.int b5)] 6)) t := fun t kk_ => castTop (efO m b1 b2 b3 b4 b5) kk_
  obtain ⟨T1, X1, e1, st1⟩ := getS2 X0 hx hZ hown (host := "") (Or.inl (hw _ (List.mem_of_getElem? (i := 4) rfl))) Via.refl e0 S_NONE (g := (mkF m 0 #[.val (.int b1), .val (.int b2), .val (.int b3), .val (.int b4), .val (.int b5), .unset] [])) rfl (hb hby dO_0)
  have pre2 : ∀ t, Steps p.tables e below (T1.setTop (mkF m 6 #[.val (.int b1), .val (.int b2), .val (.int b3), .val (.int b4), .val (.int b5), .val (.ref w_NONE)] [(.int b1)])) t → Steps p.tables e below (s₁.setTop (entryFrame m #[(.int b1), (.int b2), (.int b3), (.int b4), (.int b5)] 6)) t := fun t kt => by
    refine pre0 t ?_
    show Steps p.tables e below (s₁.setTop (mkF m 0 #[.val (.int b1), .val (.int b2), .val (.int b3), .val (.int b4), .val (.int b5), .unset] [])) _
    refine st1 _ ?_
    show Steps p.tables e below (T1.setTop (mkF m 3 #[.val (.int b1), .val (.int b2), .val (.int b3), .val (.int b4), .val (.int b5), .unset] [(.ref w_NONE)])) _
    refine XS.astore X1.here hx rfl (hb hby dO_3) rfl rfl (l' := #[.val (.int b1), .val (.int b2), .val (.int b3), .val (.int b4), .val (.int b5), .val (.ref w_NONE)]) rfl ?_
    show Steps p.tables e below (T1.setTop (mkF m 5 #[.val (.int b1), .val (.int b2), .val (.int b3), .val (.int b4), .val (.int b5), .val (.ref w_NONE)] [])) _
    refine XS.iloadN X1.here hx rfl (hb hby dO_5) rfl ?_
    exact kt
  by_cases hc6_3 : b1 = (0 : Int32)
  · have pre4 : ∀ t, Steps p.tables e below (T1.setTop (mkF m 18 #[.val (.int b1), .val (.int b2), .val (.int b3), .val (.int b4), .val (.int b5), .val (.ref w_NONE)] [(.int b2)])) t → Steps p.tables e below (s₁.setTop (entryFrame m #[(.int b1), (.int b2), (.int b3), (.int b4), (.int b5)] 6)) t := fun t kt => by
      refine pre2 t ?_
      show Steps p.tables e below (T1.setTop (mkF m 6 #[.val (.int b1), .val (.int b2), .val (.int b3), .val (.int b4), .val (.int b5), .val (.ref w_NONE)] [(.int b1)])) _
      refine XS.ifYes X1.here hx rfl (pc0 := 6) (pc' := 17) rfl (hb hby dO_6) rfl ((if0 _ _).trans (teq hc6_3).1) (by decide) (by decide) ?_
      show Steps p.tables e below (T1.setTop (mkF m 17 #[.val (.int b1), .val (.int b2), .val (.int b3), .val (.int b4), .val (.int b5), .val (.ref w_NONE)] [])) _
      refine XS.iloadN X1.here hx rfl (hb hby dO_17) rfl ?_
      exact kt
    by_cases hc18_5 : b2 = (0 : Int32)
    · have pre6 : ∀ t, Steps p.tables e below (T1.setTop (mkF m 22 #[.val (.int b1), .val (.int b2), .val (.int b3), .val (.int b4), .val (.int b5), .val (.ref w_NONE)] [(.int b3)])) t → Steps p.tables e below (s₁.setTop (entryFrame m #[(.int b1), (.int b2), (.int b3), (.int b4), (.int b5)] 6)) t := fun t kt => by
        refine pre4 t ?_
        show Steps p.tables e below (T1.setTop (mkF m 18 #[.val (.int b1), .val (.int b2), .val (.int b3), .val (.int b4), .val (.int b5), .val (.ref w_NONE)] [(.int b2)])) _
        refine XS.ifNo X1.here hx rfl (hb hby dO_18) rfl ((if0 _ _).trans (teq hc18_5).2) ?_
        show Steps p.tables e below (T1.setTop (mkF m 21 #[.val (.int b1), .val (.int b2), .val (.int b3), .val (.int b4), .val (.int b5), .val (.ref w_NONE)] [])) _
        refine XS.iloadN X1.here hx rfl (hb hby dO_21) rfl ?_
        exact kt
      by_cases hc22_7 : b3 = (0 : Int32)
      · have pre8 : ∀ t, Steps p.tables e below (T1.setTop (mkF m 26 #[.val (.int b1), .val (.int b2), .val (.int b3), .val (.int b4), .val (.int b5), .val (.ref w_NONE)] [(.int b4)])) t → Steps p.tables e below (s₁.setTop (entryFrame m #[(.int b1), (.int b2), (.int b3), (.int b4), (.int b5)] 6)) t := fun t kt => by
          refine pre6 t ?_
          show Steps p.tables e below (T1.setTop (mkF m 22 #[.val (.int b1), .val (.int b2), .val (.int b3), .val (.int b4), .val (.int b5), .val (.ref w_NONE)] [(.int b3)])) _
          refine XS.ifNo X1.here hx rfl (hb hby dO_22) rfl ((if0 _ _).trans (teq hc22_7).2) ?_
          show Steps p.tables e below (T1.setTop (mkF m 25 #[.val (.int b1), .val (.int b2), .val (.int b3), .val (.int b4), .val (.int b5), .val (.ref w_NONE)] [])) _
          refine XS.iloadN X1.here hx rfl (hb hby dO_25) rfl ?_
          exact kt
        by_cases hc26_9 : b4 = (0 : Int32)
        · obtain ⟨fs, hr, hrun, hended, hW, hsame⟩ := X1.leave (v := some (.ref w_NONE)) (fun h => by rw [Bd.returns] at h; cases h)
          refine ⟨_, _, pre8 _ ?_, hrun, hended, _, _, rfl, ?_, ⟨_, rfl⟩, hW, hsame.mono (by decide) (by decide)⟩
          · show Steps p.tables e below (T1.setTop (mkF m 26 #[.val (.int b1), .val (.int b2), .val (.int b3), .val (.int b4), .val (.int b5), .val (.ref w_NONE)] [(.int b4)])) _
            refine XS.ifYes X1.here hx rfl (pc0 := 26) (pc' := 42) rfl (hb hby dO_26) rfl ((if0 _ _).trans (teq hc26_9).1) (by decide) (by decide) ?_
            show Steps p.tables e below (T1.setTop (mkF m 42 #[.val (.int b1), .val (.int b2), .val (.int b3), .val (.int b4), .val (.int b5), .val (.ref w_NONE)] [])) _
            refine XS.iloadN X1.here hx rfl (hb hby dO_42) rfl ?_
            show Steps p.tables e below (T1.setTop (mkF m 43 #[.val (.int b1), .val (.int b2), .val (.int b3), .val (.int b4), .val (.int b5), .val (.ref w_NONE)] [(.int b4)])) _
            refine XS.ifYes X1.here hx rfl (pc0 := 43) (pc' := 51) rfl (hb hby dO_43) rfl ((if0 _ _).trans (teq hc26_9).1) (by decide) (by decide) ?_
            show Steps p.tables e below (T1.setTop (mkF m 51 #[.val (.int b1), .val (.int b2), .val (.int b3), .val (.int b4), .val (.int b5), .val (.ref w_NONE)] [])) _
            refine XS.aload X1.here hx rfl (hb hby dO_51) rfl rfl ?_
            show Steps p.tables e below (T1.setTop (mkF m 53 #[.val (.int b1), .val (.int b2), .val (.int b3), .val (.int b4), .val (.int b5), .val (.ref w_NONE)] [(.ref w_NONE)])) _
            exact retOut X1 hx Bd.returns rfl (Or.inr (Or.inr (Or.inr (Or.inr ⟨rfl, rfl, rfl⟩)))) (hb hby dO_53) hr
          · show QO b1 b2 b3 b4 b5 w_NONE w_BRIEF w_HIGH w_DESTRUCTIVE h0 n0 _ T1.heap _
            rw [e1]
            exact ⟨by simp [own_of, hc6_3, hc18_5, hc22_7, hc26_9], N0, rfl⟩
        · have pre10 : ∀ t, Steps p.tables e below (T1.setTop (mkF m 31 #[.val (.int b1), .val (.int b2), .val (.int b3), .val (.int b4), .val (.int b5), .val (.ref w_NONE)] [(.int b5)])) t → Steps p.tables e below (s₁.setTop (entryFrame m #[(.int b1), (.int b2), (.int b3), (.int b4), (.int b5)] 6)) t := fun t kt => by
            refine pre8 t ?_
            show Steps p.tables e below (T1.setTop (mkF m 26 #[.val (.int b1), .val (.int b2), .val (.int b3), .val (.int b4), .val (.int b5), .val (.ref w_NONE)] [(.int b4)])) _
            refine XS.ifNo X1.here hx rfl (hb hby dO_26) rfl ((if0 _ _).trans (feq hc26_9).1) ?_
            show Steps p.tables e below (T1.setTop (mkF m 29 #[.val (.int b1), .val (.int b2), .val (.int b3), .val (.int b4), .val (.int b5), .val (.ref w_NONE)] [])) _
            refine XS.iload X1.here hx rfl (hb hby dO_29) rfl ?_
            exact kt
          by_cases hc31_11 : b5 = (0 : Int32)
          · obtain ⟨T12, X12, e12, st12⟩ := getS2 X1 hx hZ hown (host := "") (Or.inl (hw _ (List.mem_of_getElem? (i := 23) rfl))) Via.refl e1 S_BRIEF (g := (mkF m 46 #[.val (.int b1), .val (.int b2), .val (.int b3), .val (.int b4), .val (.int b5), .val (.ref w_NONE)] [])) rfl (hb hby dO_46)
            obtain ⟨fs, hr, hrun, hended, hW, hsame⟩ := X12.leave (v := some (.ref w_BRIEF)) (fun h => by rw [Bd.returns] at h; cases h)
            refine ⟨_, _, pre10 _ ?_, hrun, hended, _, _, rfl, ?_, ⟨_, rfl⟩, hW, hsame.mono (by decide) (by decide)⟩
            · show Steps p.tables e below (T1.setTop (mkF m 31 #[.val (.int b1), .val (.int b2), .val (.int b3), .val (.int b4), .val (.int b5), .val (.ref w_NONE)] [(.int b5)])) _
              refine XS.ifYes X1.here hx rfl (pc0 := 31) (pc' := 42) rfl (hb hby dO_31) rfl ((if0 _ _).trans (teq hc31_11).1) (by decide) (by decide) ?_
              show Steps p.tables e below (T1.setTop (mkF m 42 #[.val (.int b1), .val (.int b2), .val (.int b3), .val (.int b4), .val (.int b5), .val (.ref w_NONE)] [])) _
              refine XS.iloadN X1.here hx rfl (hb hby dO_42) rfl ?_
              show Steps p.tables e below (T1.setTop (mkF m 43 #[.val (.int b1), .val (.int b2), .val (.int b3), .val (.int b4), .val (.int b5), .val (.ref w_NONE)] [(.int b4)])) _
              refine XS.ifNo X1.here hx rfl (hb hby dO_43) rfl ((if0 _ _).trans (feq hc26_9).1) ?_
              show Steps p.tables e below (T1.setTop (mkF m 46 #[.val (.int b1), .val (.int b2), .val (.int b3), .val (.int b4), .val (.int b5), .val (.ref w_NONE)] [])) _
              refine st12 _ ?_
              show Steps p.tables e below (T12.setTop (mkF m 49 #[.val (.int b1), .val (.int b2), .val (.int b3), .val (.int b4), .val (.int b5), .val (.ref w_NONE)] [(.ref w_BRIEF)])) _
              refine XS.astore X12.here hx rfl (hb hby dO_49) rfl rfl (l' := #[.val (.int b1), .val (.int b2), .val (.int b3), .val (.int b4), .val (.int b5), .val (.ref w_BRIEF)]) rfl ?_
              show Steps p.tables e below (T12.setTop (mkF m 51 #[.val (.int b1), .val (.int b2), .val (.int b3), .val (.int b4), .val (.int b5), .val (.ref w_BRIEF)] [])) _
              refine XS.aload X12.here hx rfl (hb hby dO_51) rfl rfl ?_
              show Steps p.tables e below (T12.setTop (mkF m 53 #[.val (.int b1), .val (.int b2), .val (.int b3), .val (.int b4), .val (.int b5), .val (.ref w_BRIEF)] [(.ref w_BRIEF)])) _
              exact retOut X12 hx Bd.returns rfl (Or.inr (Or.inr (Or.inr (Or.inr ⟨rfl, rfl, rfl⟩)))) (hb hby dO_53) hr
            · show QO b1 b2 b3 b4 b5 w_NONE w_BRIEF w_HIGH w_DESTRUCTIVE h0 n0 _ T12.heap _
              rw [e12]
              exact ⟨by simp [own_of, hc6_3, hc18_5, hc22_7, hc26_9, hc31_11], N0, rfl⟩
          · obtain ⟨T13, X13, e13, st13⟩ := getS2 X1 hx hZ hown (host := "") (Or.inl (hw _ (List.mem_of_getElem? (i := 22) rfl))) Via.refl e1 S_HIGH (g := (mkF m 34 #[.val (.int b1), .val (.int b2), .val (.int b3), .val (.int b4), .val (.int b5), .val (.ref w_NONE)] [])) rfl (hb hby dO_34)
            obtain ⟨fs, hr, hrun, hended, hW, hsame⟩ := X13.leave (v := some (.ref w_HIGH)) (fun h => by rw [Bd.returns] at h; cases h)
            refine ⟨_, _, pre10 _ ?_, hrun, hended, _, _, rfl, ?_, ⟨_, rfl⟩, hW, hsame.mono (by decide) (by decide)⟩
            · show Steps p.tables e below (T1.setTop (mkF m 31 #[.val (.int b1), .val (.int b2), .val (.int b3), .val (.int b4), .val (.int b5), .val (.ref w_NONE)] [(.int b5)])) _
              refine XS.ifNo X1.here hx rfl (hb hby dO_31) rfl ((if0 _ _).trans (feq hc31_11).1) ?_
              show Steps p.tables e below (T1.setTop (mkF m 34 #[.val (.int b1), .val (.int b2), .val (.int b3), .val (.int b4), .val (.int b5), .val (.ref w_NONE)] [])) _
              refine st13 _ ?_
              show Steps p.tables e below (T13.setTop (mkF m 37 #[.val (.int b1), .val (.int b2), .val (.int b3), .val (.int b4), .val (.int b5), .val (.ref w_NONE)] [(.ref w_HIGH)])) _
              refine XS.astore X13.here hx rfl (hb hby dO_37) rfl rfl (l' := #[.val (.int b1), .val (.int b2), .val (.int b3), .val (.int b4), .val (.int b5), .val (.ref w_HIGH)]) rfl ?_
              show Steps p.tables e below (T13.setTop (mkF m 39 #[.val (.int b1), .val (.int b2), .val (.int b3), .val (.int b4), .val (.int b5), .val (.ref w_HIGH)] [])) _
              refine XS.goto X13.here hx rfl (pc0 := 39) (pc' := 51) rfl (hb hby dO_39) (by decide) (by decide) ?_
              show Steps p.tables e below (T13.setTop (mkF m 51 #[.val (.int b1), .val (.int b2), .val (.int b3), .val (.int b4), .val (.int b5), .val (.ref w_HIGH)] [])) _
              refine XS.aload X13.here hx rfl (hb hby dO_51) rfl rfl ?_
              show Steps p.tables e below (T13.setTop (mkF m 53 #[.val (.int b1), .val (.int b2), .val (.int b3), .val (.int b4), .val (.int b5), .val (.ref w_HIGH)] [(.ref w_HIGH)])) _
              exact retOut X13 hx Bd.returns rfl (Or.inr (Or.inr (Or.inr (Or.inr ⟨rfl, rfl, rfl⟩)))) (hb hby dO_53) hr
            · show QO b1 b2 b3 b4 b5 w_NONE w_BRIEF w_HIGH w_DESTRUCTIVE h0 n0 _ T13.heap _
              rw [e13]
              exact ⟨by simp [own_of, hc6_3, hc18_5, hc22_7, hc26_9, hc31_11], N0, rfl⟩
      · obtain ⟨T14, X14, e14, st14⟩ := getS2 X1 hx hZ hown (host := "") (Or.inl (hw _ (List.mem_of_getElem? (i := 22) rfl))) Via.refl e1 S_HIGH (g := (mkF m 34 #[.val (.int b1), .val (.int b2), .val (.int b3), .val (.int b4), .val (.int b5), .val (.ref w_NONE)] [])) rfl (hb hby dO_34)
        obtain ⟨fs, hr, hrun, hended, hW, hsame⟩ := X14.leave (v := some (.ref w_HIGH)) (fun h => by rw [Bd.returns] at h; cases h)
        refine ⟨_, _, pre6 _ ?_, hrun, hended, _, _, rfl, ?_, ⟨_, rfl⟩, hW, hsame.mono (by decide) (by decide)⟩
        · show Steps p.tables e below (T1.setTop (mkF m 22 #[.val (.int b1), .val (.int b2), .val (.int b3), .val (.int b4), .val (.int b5), .val (.ref w_NONE)] [(.int b3)])) _
          refine XS.ifYes X1.here hx rfl (pc0 := 22) (pc' := 34) rfl (hb hby dO_22) rfl ((if0 _ _).trans (feq hc22_7).2) (by decide) (by decide) ?_
          show Steps p.tables e below (T1.setTop (mkF m 34 #[.val (.int b1), .val (.int b2), .val (.int b3), .val (.int b4), .val (.int b5), .val (.ref w_NONE)] [])) _
          refine st14 _ ?_
          show Steps p.tables e below (T14.setTop (mkF m 37 #[.val (.int b1), .val (.int b2), .val (.int b3), .val (.int b4), .val (.int b5), .val (.ref w_NONE)] [(.ref w_HIGH)])) _
          refine XS.astore X14.here hx rfl (hb hby dO_37) rfl rfl (l' := #[.val (.int b1), .val (.int b2), .val (.int b3), .val (.int b4), .val (.int b5), .val (.ref w_HIGH)]) rfl ?_
          show Steps p.tables e below (T14.setTop (mkF m 39 #[.val (.int b1), .val (.int b2), .val (.int b3), .val (.int b4), .val (.int b5), .val (.ref w_HIGH)] [])) _
          refine XS.goto X14.here hx rfl (pc0 := 39) (pc' := 51) rfl (hb hby dO_39) (by decide) (by decide) ?_
          show Steps p.tables e below (T14.setTop (mkF m 51 #[.val (.int b1), .val (.int b2), .val (.int b3), .val (.int b4), .val (.int b5), .val (.ref w_HIGH)] [])) _
          refine XS.aload X14.here hx rfl (hb hby dO_51) rfl rfl ?_
          show Steps p.tables e below (T14.setTop (mkF m 53 #[.val (.int b1), .val (.int b2), .val (.int b3), .val (.int b4), .val (.int b5), .val (.ref w_HIGH)] [(.ref w_HIGH)])) _
          exact retOut X14 hx Bd.returns rfl (Or.inr (Or.inr (Or.inr (Or.inr ⟨rfl, rfl, rfl⟩)))) (hb hby dO_53) hr
        · show QO b1 b2 b3 b4 b5 w_NONE w_BRIEF w_HIGH w_DESTRUCTIVE h0 n0 _ T14.heap _
          rw [e14]
          exact ⟨by simp [own_of, hc6_3, hc18_5, hc22_7], N0, rfl⟩
    · obtain ⟨T15, X15, e15, st15⟩ := getS2 X1 hx hZ hown (host := "") (Or.inl (hw _ (List.mem_of_getElem? (i := 22) rfl))) Via.refl e1 S_HIGH (g := (mkF m 34 #[.val (.int b1), .val (.int b2), .val (.int b3), .val (.int b4), .val (.int b5), .val (.ref w_NONE)] [])) rfl (hb hby dO_34)
      obtain ⟨fs, hr, hrun, hended, hW, hsame⟩ := X15.leave (v := some (.ref w_HIGH)) (fun h => by rw [Bd.returns] at h; cases h)
      refine ⟨_, _, pre4 _ ?_, hrun, hended, _, _, rfl, ?_, ⟨_, rfl⟩, hW, hsame.mono (by decide) (by decide)⟩
      · show Steps p.tables e below (T1.setTop (mkF m 18 #[.val (.int b1), .val (.int b2), .val (.int b3), .val (.int b4), .val (.int b5), .val (.ref w_NONE)] [(.int b2)])) _
        refine XS.ifYes X1.here hx rfl (pc0 := 18) (pc' := 34) rfl (hb hby dO_18) rfl ((if0 _ _).trans (feq hc18_5).2) (by decide) (by decide) ?_
        show Steps p.tables e below (T1.setTop (mkF m 34 #[.val (.int b1), .val (.int b2), .val (.int b3), .val (.int b4), .val (.int b5), .val (.ref w_NONE)] [])) _
        refine st15 _ ?_
        show Steps p.tables e below (T15.setTop (mkF m 37 #[.val (.int b1), .val (.int b2), .val (.int b3), .val (.int b4), .val (.int b5), .val (.ref w_NONE)] [(.ref w_HIGH)])) _
        refine XS.astore X15.here hx rfl (hb hby dO_37) rfl rfl (l' := #[.val (.int b1), .val (.int b2), .val (.int b3), .val (.int b4), .val (.int b5), .val (.ref w_HIGH)]) rfl ?_
        show Steps p.tables e below (T15.setTop (mkF m 39 #[.val (.int b1), .val (.int b2), .val (.int b3), .val (.int b4), .val (.int b5), .val (.ref w_HIGH)] [])) _
        refine XS.goto X15.here hx rfl (pc0 := 39) (pc' := 51) rfl (hb hby dO_39) (by decide) (by decide) ?_
        show Steps p.tables e below (T15.setTop (mkF m 51 #[.val (.int b1), .val (.int b2), .val (.int b3), .val (.int b4), .val (.int b5), .val (.ref w_HIGH)] [])) _
        refine XS.aload X15.here hx rfl (hb hby dO_51) rfl rfl ?_
        show Steps p.tables e below (T15.setTop (mkF m 53 #[.val (.int b1), .val (.int b2), .val (.int b3), .val (.int b4), .val (.int b5), .val (.ref w_HIGH)] [(.ref w_HIGH)])) _
        exact retOut X15 hx Bd.returns rfl (Or.inr (Or.inr (Or.inr (Or.inr ⟨rfl, rfl, rfl⟩)))) (hb hby dO_53) hr
      · show QO b1 b2 b3 b4 b5 w_NONE w_BRIEF w_HIGH w_DESTRUCTIVE h0 n0 _ T15.heap _
        rw [e15]
        exact ⟨by simp [own_of, hc6_3, hc18_5], N0, rfl⟩
  · obtain ⟨T16, X16, e16, st16⟩ := getS2 X1 hx hZ hown (host := "") (Or.inl (hw _ (List.mem_of_getElem? (i := 11) rfl))) Via.refl e1 S_DESTRUCTIVE (g := (mkF m 9 #[.val (.int b1), .val (.int b2), .val (.int b3), .val (.int b4), .val (.int b5), .val (.ref w_NONE)] [])) rfl (hb hby dO_9)
    obtain ⟨fs, hr, hrun, hended, hW, hsame⟩ := X16.leave (v := some (.ref w_DESTRUCTIVE)) (fun h => by rw [Bd.returns] at h; cases h)
    refine ⟨_, _, pre2 _ ?_, hrun, hended, _, _, rfl, ?_, ⟨_, rfl⟩, hW, hsame.mono (by decide) (by decide)⟩
    · show Steps p.tables e below (T1.setTop (mkF m 6 #[.val (.int b1), .val (.int b2), .val (.int b3), .val (.int b4), .val (.int b5), .val (.ref w_NONE)] [(.int b1)])) _
      refine XS.ifNo X1.here hx rfl (hb hby dO_6) rfl ((if0 _ _).trans (feq hc6_3).1) ?_
      show Steps p.tables e below (T1.setTop (mkF m 9 #[.val (.int b1), .val (.int b2), .val (.int b3), .val (.int b4), .val (.int b5), .val (.ref w_NONE)] [])) _
      refine st16 _ ?_
      show Steps p.tables e below (T16.setTop (mkF m 12 #[.val (.int b1), .val (.int b2), .val (.int b3), .val (.int b4), .val (.int b5), .val (.ref w_NONE)] [(.ref w_DESTRUCTIVE)])) _
      refine XS.astore X16.here hx rfl (hb hby dO_12) rfl rfl (l' := #[.val (.int b1), .val (.int b2), .val (.int b3), .val (.int b4), .val (.int b5), .val (.ref w_DESTRUCTIVE)]) rfl ?_
      show Steps p.tables e below (T16.setTop (mkF m 14 #[.val (.int b1), .val (.int b2), .val (.int b3), .val (.int b4), .val (.int b5), .val (.ref w_DESTRUCTIVE)] [])) _
      refine XS.goto X16.here hx rfl (pc0 := 14) (pc' := 51) rfl (hb hby dO_14) (by decide) (by decide) ?_
      show Steps p.tables e below (T16.setTop (mkF m 51 #[.val (.int b1), .val (.int b2), .val (.int b3), .val (.int b4), .val (.int b5), .val (.ref w_DESTRUCTIVE)] [])) _
      refine XS.aload X16.here hx rfl (hb hby dO_51) rfl rfl ?_
      show Steps p.tables e below (T16.setTop (mkF m 53 #[.val (.int b1), .val (.int b2), .val (.int b3), .val (.int b4), .val (.int b5), .val (.ref w_DESTRUCTIVE)] [(.ref w_DESTRUCTIVE)])) _
      exact retOut X16 hx Bd.returns rfl (Or.inr (Or.inr (Or.inr (Or.inr ⟨rfl, rfl, rfl⟩)))) (hb hby dO_53) hr
    · show QO b1 b2 b3 b4 b5 w_NONE w_BRIEF w_HIGH w_DESTRUCTIVE h0 n0 _ T16.heap _
      rw [e16]
      exact ⟨by simp [own_of, hc6_3], N0, rfl⟩
theorem dR_0 : decode method_3_code 0 = .ok (.aload_n 0, 1) := by decide +kernel
theorem dR_1 : decode method_3_code 1 = .ok (.getstatic 25, 3) := by decide +kernel
theorem dR_4 : decode method_3_code 4 = .ok (.if_acmp .ne 5, 3) := by decide +kernel
theorem dR_7 : decode method_3_code 7 = .ok (.iconst 0, 1) := by decide +kernel
theorem dR_8 : decode method_3_code 8 = .ok (.ireturn, 1) := by decide +kernel
theorem dR_9 : decode method_3_code 9 = .ok (.aload_n 0, 1) := by decide +kernel
theorem dR_10 : decode method_3_code 10 = .ok (.getstatic 29, 3) := by decide +kernel
theorem dR_13 : decode method_3_code 13 = .ok (.if_acmp .ne 5, 3) := by decide +kernel
theorem dR_16 : decode method_3_code 16 = .ok (.iconst 1, 1) := by decide +kernel
theorem dR_17 : decode method_3_code 17 = .ok (.ireturn, 1) := by decide +kernel
theorem dR_18 : decode method_3_code 18 = .ok (.aload_n 0, 1) := by decide +kernel
theorem dR_19 : decode method_3_code 19 = .ok (.getstatic 32, 3) := by decide +kernel
theorem dR_22 : decode method_3_code 22 = .ok (.if_acmp .ne 5, 3) := by decide +kernel
theorem dR_25 : decode method_3_code 25 = .ok (.iconst 2, 1) := by decide +kernel
theorem dR_26 : decode method_3_code 26 = .ok (.ireturn, 1) := by decide +kernel
theorem dR_27 : decode method_3_code 27 = .ok (.aload_n 0, 1) := by decide +kernel
theorem dR_28 : decode method_3_code 28 = .ok (.getstatic 35, 3) := by decide +kernel
theorem dR_31 : decode method_3_code 31 = .ok (.if_acmp .ne 5, 3) := by decide +kernel
theorem dR_34 : decode method_3_code 34 = .ok (.iconst 3, 1) := by decide +kernel
theorem dR_35 : decode method_3_code 35 = .ok (.ireturn, 1) := by decide +kernel
theorem dR_36 : decode method_3_code 36 = .ok (.iconst (-1), 1) := by decide +kernel
theorem dR_37 : decode method_3_code 37 = .ok (.ireturn, 1) := by decide +kernel
theorem pnR : plainName "com/example/largo/largo/RiskOfPinLaw" = true := by first | (simp [plainName, overriddenIn]; done) | decide +kernel
theorem efR (m : MethodId) (a : Addr) : entryFrame m #[(.ref a)] 1 = mkF m 0 #[.val (.ref a)] [] := by first | (simp [entryFrame, mkF, argsToLocals, Value.category]; done) | rfl
def QR (a w_NONE w_BRIEF w_HIGH w_DESTRUCTIVE : Addr) (h0 : Heap) (n0 : Nat) (v : Option Value) (h : Heap) (L : List Loc) : Prop := v = some (.int (own_rank a w_NONE w_BRIEF w_HIGH w_DESTRUCTIVE)) ∧ Fr n0 L ∧ h = h0
set_option maxRecDepth 65536 in
set_option maxHeartbeats 40000000 in
theorem rmR (l : Launch) (Z : State) (a0 : Array Value) (hw : ∀ d ∈ tables_1, d.before a0 Z = true) (ws : List Jvm.Cond) (a : Addr) (w_NONE w_BRIEF w_HIGH w_DESTRUCTIVE : Addr) (h0 : Heap) (n0 : Nat) (Z0 : n0 ≤ h0.size) (S_NONE : Sta Z h0 "com/example/largo/largo/Risk" "NONE" "Lcom/example/largo/largo/Risk;" (.ref w_NONE)) (S_BRIEF : Sta Z h0 "com/example/largo/largo/Risk" "BRIEF" "Lcom/example/largo/largo/Risk;" (.ref w_BRIEF)) (S_HIGH : Sta Z h0 "com/example/largo/largo/Risk" "HIGH" "Lcom/example/largo/largo/Risk;" (.ref w_HIGH)) (S_DESTRUCTIVE : Sta Z h0 "com/example/largo/largo/Risk" "DESTRUCTIVE" "Lcom/example/largo/largo/Risk;" (.ref w_DESTRUCTIVE)) :
    MetFree l (⟨"com/example/largo/largo/RiskOfPinLaw", "rank", "(Lcom/example/largo/largo/Risk;)I"⟩ : MethodName) (head1 (Jvm.Cond.code (⟨"com/example/largo/largo/RiskOfPinLaw", "rank", "(Lcom/example/largo/largo/Risk;)I"⟩ : MethodName) method_3_code 1 (some .int) :: ws) ({ frames := 0, cells := 0, slots := 0, locals := 0 } : Room)) (fun as_ U => as_ = #[(.ref a)] ∧ Z.Warmed39 U.vm ∧ U.heap = h0) (fun _ _ _ _ _ => True) (fun _ U o U' => ∃ v L, o = .returned v ∧ QR a w_NONE w_BRIEF w_HIGH w_DESTRUCTIVE h0 n0 v U'.heap L ∧ FrameEnd U o U' L ({ frames := 0, cells := 0, slots := 0, locals := 0 } : Room).cells ({ frames := 0, cells := 0, slots := 0, locals := 0 } : Room).slots) := by
  refine MetFree.of_bodySF (plainFor_of_name pnR) hisR ?_
  intro p e s m args below meth c s₁ Bd hml0 hP hK
  obtain ⟨rfl, hZ, hh⟩ := hP
  have hx := Bd.exec
  have hby := Bd.bytes
  have hml : c.maxLocals = 1 := hml0
  have hown : s.vm.findClass "com/example/largo/largo/RiskOfPinLaw" = some m.cls := findClass_of_methodNamed Bd.named
  have X0 : Stand p l e ({ frames := 0, cells := 0, slots := 0, locals := 0 } : Room) s m #[(.ref a)] below meth c s₁ [] 0 0 := Stand.of_body Bd
  have e0 : s₁.heap = h0 := by rw [← hh, Bd.state]; rfl
  have N0 := Fr.nil n0
  have pre0 : ∀ t, Steps p.tables e below (s₁.setTop (mkF m 0 #[.val (.ref a)] [])) t → Steps p.tables e below (s₁.setTop (entryFrame m #[(.ref a)] 1)) t := fun t kk_ => castTop (efR m a) kk_
  obtain ⟨T1, X1, e1, st1⟩ := getS2 X0 hx hZ hown (host := "") (Or.inl (hw _ (List.mem_of_getElem? (i := 10) rfl))) Via.refl e0 S_NONE (g := (mkF m 1 #[.val (.ref a)] [(.ref a)])) rfl (hb hby dR_1)
  have pre2 : ∀ t, Steps p.tables e below (T1.setTop (mkF m 4 #[.val (.ref a)] [(.ref w_NONE), (.ref a)])) t → Steps p.tables e below (s₁.setTop (entryFrame m #[(.ref a)] 1)) t := fun t kt => by
    refine pre0 t ?_
    show Steps p.tables e below (s₁.setTop (mkF m 0 #[.val (.ref a)] [])) _
    refine XS.aloadN X0.here hx rfl (hb hby dR_0) rfl rfl ?_
    show Steps p.tables e below (s₁.setTop (mkF m 1 #[.val (.ref a)] [(.ref a)])) _
    refine st1 _ ?_
    exact kt
  by_cases hc4_3 : a = w_NONE
  · obtain ⟨fs, hr, hrun, hended, hW, hsame⟩ := X1.leave (v := some (.int (0 : Int32))) (fun h => by rw [Bd.returns] at h; cases h)
    refine ⟨_, _, pre2 _ ?_, hrun, hended, _, _, rfl, ?_, ⟨_, rfl⟩, hW, hsame.mono (by decide) (by decide)⟩
    · show Steps p.tables e below (T1.setTop (mkF m 4 #[.val (.ref a)] [(.ref w_NONE), (.ref a)])) _
      refine Jvm.RoadKit.acmp (g := (mkF m 4 #[.val (.ref a)] [(.ref w_NONE), (.ref a)])) X1 hx rfl rfl rfl (pc0 := 4) (pc' := 7) (same := true) rfl (hb hby dR_4) rfl (decide_eq_true (congrArg Value.ref hc4_3)) (by decide) (by decide) ?_
      show Steps p.tables e below (T1.setTop (mkF m 7 #[.val (.ref a)] [])) _
      refine XS.iconst X1.here hx rfl (hb hby dR_7) ?_
      show Steps p.tables e below (T1.setTop (mkF m 8 #[.val (.ref a)] [(.int (0 : Int32))])) _
      exact retI X1 hx Bd.returns (hb hby dR_8) hr
    · show QR a w_NONE w_BRIEF w_HIGH w_DESTRUCTIVE h0 n0 _ T1.heap _
      rw [e1]
      exact ⟨by simp only [own_rank, if_pos hc4_3], N0, rfl⟩
  · obtain ⟨T4, X4, e4, st4⟩ := getS2 X1 hx hZ hown (host := "") (Or.inl (hw _ (List.mem_of_getElem? (i := 17) rfl))) Via.refl e1 S_BRIEF (g := (mkF m 10 #[.val (.ref a)] [(.ref a)])) rfl (hb hby dR_10)
    have pre5 : ∀ t, Steps p.tables e below (T4.setTop (mkF m 13 #[.val (.ref a)] [(.ref w_BRIEF), (.ref a)])) t → Steps p.tables e below (s₁.setTop (entryFrame m #[(.ref a)] 1)) t := fun t kt => by
      refine pre2 t ?_
      show Steps p.tables e below (T1.setTop (mkF m 4 #[.val (.ref a)] [(.ref w_NONE), (.ref a)])) _
      refine Jvm.RoadKit.acmp (g := (mkF m 4 #[.val (.ref a)] [(.ref w_NONE), (.ref a)])) X1 hx rfl rfl rfl (pc0 := 4) (pc' := 9) (same := false) rfl (hb hby dR_4) rfl (decide_eq_false fun q => hc4_3 (Value.ref.inj q)) (by decide) (by decide) ?_
      show Steps p.tables e below (T1.setTop (mkF m 9 #[.val (.ref a)] [])) _
      refine XS.aloadN X1.here hx rfl (hb hby dR_9) rfl rfl ?_
      show Steps p.tables e below (T1.setTop (mkF m 10 #[.val (.ref a)] [(.ref a)])) _
      refine st4 _ ?_
      exact kt
    by_cases hc13_6 : a = w_BRIEF
    · obtain ⟨fs, hr, hrun, hended, hW, hsame⟩ := X4.leave (v := some (.int (1 : Int32))) (fun h => by rw [Bd.returns] at h; cases h)
      refine ⟨_, _, pre5 _ ?_, hrun, hended, _, _, rfl, ?_, ⟨_, rfl⟩, hW, hsame.mono (by decide) (by decide)⟩
      · show Steps p.tables e below (T4.setTop (mkF m 13 #[.val (.ref a)] [(.ref w_BRIEF), (.ref a)])) _
        refine Jvm.RoadKit.acmp (g := (mkF m 13 #[.val (.ref a)] [(.ref w_BRIEF), (.ref a)])) X4 hx rfl rfl rfl (pc0 := 13) (pc' := 16) (same := true) rfl (hb hby dR_13) rfl (decide_eq_true (congrArg Value.ref hc13_6)) (by decide) (by decide) ?_
        show Steps p.tables e below (T4.setTop (mkF m 16 #[.val (.ref a)] [])) _
        refine XS.iconst X4.here hx rfl (hb hby dR_16) ?_
        show Steps p.tables e below (T4.setTop (mkF m 17 #[.val (.ref a)] [(.int (1 : Int32))])) _
        exact retI X4 hx Bd.returns (hb hby dR_17) hr
      · show QR a w_NONE w_BRIEF w_HIGH w_DESTRUCTIVE h0 n0 _ T4.heap _
        rw [e4]
        exact ⟨by simp only [own_rank, if_neg hc4_3, if_pos hc13_6], N0, rfl⟩
    · obtain ⟨T7, X7, e7, st7⟩ := getS2 X4 hx hZ hown (host := "") (Or.inl (hw _ (List.mem_of_getElem? (i := 19) rfl))) Via.refl e4 S_HIGH (g := (mkF m 19 #[.val (.ref a)] [(.ref a)])) rfl (hb hby dR_19)
      have pre8 : ∀ t, Steps p.tables e below (T7.setTop (mkF m 22 #[.val (.ref a)] [(.ref w_HIGH), (.ref a)])) t → Steps p.tables e below (s₁.setTop (entryFrame m #[(.ref a)] 1)) t := fun t kt => by
        refine pre5 t ?_
        show Steps p.tables e below (T4.setTop (mkF m 13 #[.val (.ref a)] [(.ref w_BRIEF), (.ref a)])) _
        refine Jvm.RoadKit.acmp (g := (mkF m 13 #[.val (.ref a)] [(.ref w_BRIEF), (.ref a)])) X4 hx rfl rfl rfl (pc0 := 13) (pc' := 18) (same := false) rfl (hb hby dR_13) rfl (decide_eq_false fun q => hc13_6 (Value.ref.inj q)) (by decide) (by decide) ?_
        show Steps p.tables e below (T4.setTop (mkF m 18 #[.val (.ref a)] [])) _
        refine XS.aloadN X4.here hx rfl (hb hby dR_18) rfl rfl ?_
        show Steps p.tables e below (T4.setTop (mkF m 19 #[.val (.ref a)] [(.ref a)])) _
        refine st7 _ ?_
        exact kt
      by_cases hc22_9 : a = w_HIGH
      · obtain ⟨fs, hr, hrun, hended, hW, hsame⟩ := X7.leave (v := some (.int (2 : Int32))) (fun h => by rw [Bd.returns] at h; cases h)
        refine ⟨_, _, pre8 _ ?_, hrun, hended, _, _, rfl, ?_, ⟨_, rfl⟩, hW, hsame.mono (by decide) (by decide)⟩
        · show Steps p.tables e below (T7.setTop (mkF m 22 #[.val (.ref a)] [(.ref w_HIGH), (.ref a)])) _
          refine Jvm.RoadKit.acmp (g := (mkF m 22 #[.val (.ref a)] [(.ref w_HIGH), (.ref a)])) X7 hx rfl rfl rfl (pc0 := 22) (pc' := 25) (same := true) rfl (hb hby dR_22) rfl (decide_eq_true (congrArg Value.ref hc22_9)) (by decide) (by decide) ?_
          show Steps p.tables e below (T7.setTop (mkF m 25 #[.val (.ref a)] [])) _
          refine XS.iconst X7.here hx rfl (hb hby dR_25) ?_
          show Steps p.tables e below (T7.setTop (mkF m 26 #[.val (.ref a)] [(.int (2 : Int32))])) _
          exact retI X7 hx Bd.returns (hb hby dR_26) hr
        · show QR a w_NONE w_BRIEF w_HIGH w_DESTRUCTIVE h0 n0 _ T7.heap _
          rw [e7]
          exact ⟨by simp only [own_rank, if_neg hc4_3, if_neg hc13_6, if_pos hc22_9], N0, rfl⟩
      · obtain ⟨T10, X10, e10, st10⟩ := getS2 X7 hx hZ hown (host := "") (Or.inl (hw _ (List.mem_of_getElem? (i := 21) rfl))) Via.refl e7 S_DESTRUCTIVE (g := (mkF m 28 #[.val (.ref a)] [(.ref a)])) rfl (hb hby dR_28)
        have pre11 : ∀ t, Steps p.tables e below (T10.setTop (mkF m 31 #[.val (.ref a)] [(.ref w_DESTRUCTIVE), (.ref a)])) t → Steps p.tables e below (s₁.setTop (entryFrame m #[(.ref a)] 1)) t := fun t kt => by
          refine pre8 t ?_
          show Steps p.tables e below (T7.setTop (mkF m 22 #[.val (.ref a)] [(.ref w_HIGH), (.ref a)])) _
          refine Jvm.RoadKit.acmp (g := (mkF m 22 #[.val (.ref a)] [(.ref w_HIGH), (.ref a)])) X7 hx rfl rfl rfl (pc0 := 22) (pc' := 27) (same := false) rfl (hb hby dR_22) rfl (decide_eq_false fun q => hc22_9 (Value.ref.inj q)) (by decide) (by decide) ?_
          show Steps p.tables e below (T7.setTop (mkF m 27 #[.val (.ref a)] [])) _
          refine XS.aloadN X7.here hx rfl (hb hby dR_27) rfl rfl ?_
          show Steps p.tables e below (T7.setTop (mkF m 28 #[.val (.ref a)] [(.ref a)])) _
          refine st10 _ ?_
          exact kt
        by_cases hc31_12 : a = w_DESTRUCTIVE
        · obtain ⟨fs, hr, hrun, hended, hW, hsame⟩ := X10.leave (v := some (.int (3 : Int32))) (fun h => by rw [Bd.returns] at h; cases h)
          refine ⟨_, _, pre11 _ ?_, hrun, hended, _, _, rfl, ?_, ⟨_, rfl⟩, hW, hsame.mono (by decide) (by decide)⟩
          · show Steps p.tables e below (T10.setTop (mkF m 31 #[.val (.ref a)] [(.ref w_DESTRUCTIVE), (.ref a)])) _
            refine Jvm.RoadKit.acmp (g := (mkF m 31 #[.val (.ref a)] [(.ref w_DESTRUCTIVE), (.ref a)])) X10 hx rfl rfl rfl (pc0 := 31) (pc' := 34) (same := true) rfl (hb hby dR_31) rfl (decide_eq_true (congrArg Value.ref hc31_12)) (by decide) (by decide) ?_
            show Steps p.tables e below (T10.setTop (mkF m 34 #[.val (.ref a)] [])) _
            refine XS.iconst X10.here hx rfl (hb hby dR_34) ?_
            show Steps p.tables e below (T10.setTop (mkF m 35 #[.val (.ref a)] [(.int (3 : Int32))])) _
            exact retI X10 hx Bd.returns (hb hby dR_35) hr
          · show QR a w_NONE w_BRIEF w_HIGH w_DESTRUCTIVE h0 n0 _ T10.heap _
            rw [e10]
            exact ⟨by simp only [own_rank, if_neg hc4_3, if_neg hc13_6, if_neg hc22_9, if_pos hc31_12], N0, rfl⟩
        · obtain ⟨fs, hr, hrun, hended, hW, hsame⟩ := X10.leave (v := some (.int (-1 : Int32))) (fun h => by rw [Bd.returns] at h; cases h)
          refine ⟨_, _, pre11 _ ?_, hrun, hended, _, _, rfl, ?_, ⟨_, rfl⟩, hW, hsame.mono (by decide) (by decide)⟩
          · show Steps p.tables e below (T10.setTop (mkF m 31 #[.val (.ref a)] [(.ref w_DESTRUCTIVE), (.ref a)])) _
            refine Jvm.RoadKit.acmp (g := (mkF m 31 #[.val (.ref a)] [(.ref w_DESTRUCTIVE), (.ref a)])) X10 hx rfl rfl rfl (pc0 := 31) (pc' := 36) (same := false) rfl (hb hby dR_31) rfl (decide_eq_false fun q => hc31_12 (Value.ref.inj q)) (by decide) (by decide) ?_
            show Steps p.tables e below (T10.setTop (mkF m 36 #[.val (.ref a)] [])) _
            refine XS.iconst X10.here hx rfl (hb hby dR_36) ?_
            show Steps p.tables e below (T10.setTop (mkF m 37 #[.val (.ref a)] [(.int (-1 : Int32))])) _
            exact retI X10 hx Bd.returns (hb hby dR_37) hr
          · show QR a w_NONE w_BRIEF w_HIGH w_DESTRUCTIVE h0 n0 _ T10.heap _
            rw [e10]
            exact ⟨by simp only [own_rank, if_neg hc4_3, if_neg hc13_6, if_neg hc22_9, if_neg hc31_12], N0, rfl⟩
theorem dM_0 : decode jdk_29_method_65_code 0 = .ok (.iload_n 0, 1) := by decide +kernel
theorem dM_1 : decode jdk_29_method_65_code 1 = .ok (.iload_n 1, 1) := by decide +kernel
theorem dM_2 : decode jdk_29_method_65_code 2 = .ok (.if_icmp .lt 7, 3) := by decide +kernel
theorem dM_5 : decode jdk_29_method_65_code 5 = .ok (.iload_n 0, 1) := by decide +kernel
theorem dM_6 : decode jdk_29_method_65_code 6 = .ok (.goto 4, 3) := by decide +kernel
theorem dM_9 : decode jdk_29_method_65_code 9 = .ok (.iload_n 1, 1) := by decide +kernel
theorem dM_10 : decode jdk_29_method_65_code 10 = .ok (.ireturn, 1) := by decide +kernel
theorem efM (m : MethodId) (a : Int32) (b : Int32) : entryFrame m #[(.int a), (.int b)] 2 = mkF m 0 #[.val (.int a), .val (.int b)] [] := by first | (simp [entryFrame, mkF, argsToLocals, Value.category]; done) | rfl
def QM (a b : Int32) (h0 : Heap) (n0 : Nat) (v : Option Value) (h : Heap) (L : List Loc) : Prop := v = some (.int (own_max a b)) ∧ Fr n0 L ∧ h = h0
set_option maxRecDepth 65536 in
set_option maxHeartbeats 40000000 in
theorem rmM (l : Launch) (Z : State) (a0 : Array Value) (hw : ∀ d ∈ tables_1, d.before a0 Z = true) (ws : List Jvm.Cond) (a : Int32) (b : Int32)  (h0 : Heap) (n0 : Nat) (Z0 : n0 ≤ h0.size)  :
    MetFree l (⟨"java/lang/Math", "max", "(II)I"⟩ : MethodName) (head1 (Jvm.Cond.code (⟨"java/lang/Math", "max", "(II)I"⟩ : MethodName) jdk_29_method_65_code 2 (some .int) :: ws) ({ frames := 0, cells := 0, slots := 0, locals := 0 } : Room)) (fun as_ U => as_ = #[(.int a), (.int b)] ∧ Z.Warmed39 U.vm ∧ U.heap = h0) (fun _ _ _ _ _ => True) (fun _ U o U' => ∃ v L, o = .returned v ∧ QM a b h0 n0 v U'.heap L ∧ FrameEnd U o U' L ({ frames := 0, cells := 0, slots := 0, locals := 0 } : Room).cells ({ frames := 0, cells := 0, slots := 0, locals := 0 } : Room).slots) := by
  refine MetFree.of_bodySF (Jvm.Free.JP.mathPlain rfl (by decide +kernel)) hisR ?_
  intro p e s m args below meth c s₁ Bd hml0 hP hK
  obtain ⟨rfl, hZ, hh⟩ := hP
  have hx := Bd.exec
  have hby := Bd.bytes
  have hml : c.maxLocals = 2 := hml0
  have hown : s.vm.findClass "java/lang/Math" = some m.cls := findClass_of_methodNamed Bd.named
  have X0 : Stand p l e ({ frames := 0, cells := 0, slots := 0, locals := 0 } : Room) s m #[(.int a), (.int b)] below meth c s₁ [] 0 0 := Stand.of_body Bd
  have e0 : s₁.heap = h0 := by rw [← hh, Bd.state]; rfl
  have N0 := Fr.nil n0
  have pre0 : ∀ t, Steps p.tables e below (s₁.setTop (mkF m 0 #[.val (.int a), .val (.int b)] [])) t → Steps p.tables e below (s₁.setTop (entryFrame m #[(.int a), (.int b)] 2)) t := fun t kk_ => castTop (efM m a b) kk_
  have pre1 : ∀ t, Steps p.tables e below (s₁.setTop (mkF m 2 #[.val (.int a), .val (.int b)] [(.int b), (.int a)])) t → Steps p.tables e below (s₁.setTop (entryFrame m #[(.int a), (.int b)] 2)) t := fun t kt => by
    refine pre0 t ?_
    show Steps p.tables e below (s₁.setTop (mkF m 0 #[.val (.int a), .val (.int b)] [])) _
    refine XS.iloadN X0.here hx rfl (hb hby dM_0) rfl ?_
    show Steps p.tables e below (s₁.setTop (mkF m 1 #[.val (.int a), .val (.int b)] [(.int a)])) _
    refine XS.iloadN X0.here hx rfl (hb hby dM_1) rfl ?_
    exact kt
  by_cases hc2_2 : a < b
  · obtain ⟨fs, hr, hrun, hended, hW, hsame⟩ := X0.leave (v := some (.int b)) (fun h => by rw [Bd.returns] at h; cases h)
    refine ⟨_, _, pre1 _ ?_, hrun, hended, _, _, rfl, ?_, ⟨_, rfl⟩, hW, hsame.mono (by decide) (by decide)⟩
    · show Steps p.tables e below (s₁.setTop (mkF m 2 #[.val (.int a), .val (.int b)] [(.int b), (.int a)])) _
      refine XS.icmpYes X0.here hx rfl (pc0 := 2) (pc' := 9) rfl (hb hby dM_2) rfl (tlt hc2_2).1 (by decide) (by decide) ?_
      show Steps p.tables e below (s₁.setTop (mkF m 9 #[.val (.int a), .val (.int b)] [])) _
      refine XS.iloadN X0.here hx rfl (hb hby dM_9) rfl ?_
      show Steps p.tables e below (s₁.setTop (mkF m 10 #[.val (.int a), .val (.int b)] [(.int b)])) _
      exact retI X0 hx Bd.returns (hb hby dM_10) hr
    · show QM a b h0 n0 _ s₁.heap _
      rw [e0]
      exact ⟨by simp [own_max, hc2_2], N0, rfl⟩
  · obtain ⟨fs, hr, hrun, hended, hW, hsame⟩ := X0.leave (v := some (.int a)) (fun h => by rw [Bd.returns] at h; cases h)
    refine ⟨_, _, pre1 _ ?_, hrun, hended, _, _, rfl, ?_, ⟨_, rfl⟩, hW, hsame.mono (by decide) (by decide)⟩
    · show Steps p.tables e below (s₁.setTop (mkF m 2 #[.val (.int a), .val (.int b)] [(.int b), (.int a)])) _
      refine XS.icmpNo X0.here hx rfl (hb hby dM_2) rfl (flt hc2_2).1 ?_
      show Steps p.tables e below (s₁.setTop (mkF m 5 #[.val (.int a), .val (.int b)] [])) _
      refine XS.iloadN X0.here hx rfl (hb hby dM_5) rfl ?_
      show Steps p.tables e below (s₁.setTop (mkF m 6 #[.val (.int a), .val (.int b)] [(.int a)])) _
      refine XS.goto X0.here hx rfl (pc0 := 6) (pc' := 10) rfl (hb hby dM_6) (by decide) (by decide) ?_
      show Steps p.tables e below (s₁.setTop (mkF m 10 #[.val (.int a), .val (.int b)] [(.int a)])) _
      exact retI X0 hx Bd.returns (hb hby dM_10) hr
    · show QM a b h0 n0 _ s₁.heap _
      rw [e0]
      exact ⟨by simp [own_max, hc2_2], N0, rfl⟩
theorem pn0 : plainName "com/example/largo/largo/RiskOfPinLaw" = true := by first | (simp [plainName, overriddenIn]; done) | decide +kernel
theorem pd0_0 : parseMethodDescriptor "(ZZZZZ)Lcom/example/largo/largo/Risk;" = some ⟨[.boolean, .boolean, .boolean, .boolean, .boolean], some (.object "com/example/largo/largo/Risk")⟩ := by decide +kernel
theorem pd0_1 : parseMethodDescriptor "(II)I" = some ⟨[.int, .int], some .int⟩ := by decide +kernel
theorem pd0_2 : parseMethodDescriptor "(Lcom/example/largo/largo/Risk;)I" = some ⟨[(.object "com/example/largo/largo/Risk")], some .int⟩ := by decide +kernel
theorem ef0 (m : MethodId) (p1 : Int32) : entryFrame m #[(.int p1)] maxLocals = mkF m 0 #[.val (.int p1), .unset, .unset, .unset, .unset, .unset, .unset, .unset] [] := by first | (simp [entryFrame, mkF, argsToLocals, Value.category, maxLocals]; done) | rfl
def Q0  (h0 : Heap) (n0 : Nat) (v : Option Value) (h : Heap) (L : List Loc) : Prop := v = some (.int (1 : Int32)) ∧ Fr n0 L
set_option maxRecDepth 65536 in
set_option maxHeartbeats 40000000 in
theorem rm0 (l : Launch) (Z : State) (a0 : Array Value) (hw : ∀ d ∈ tables_1, d.before a0 Z = true) (ws : List Jvm.Cond) (p1 : Int32) (w_NONE w_BRIEF w_HIGH w_DESTRUCTIVE : Addr) (h0 : Heap) (n0 : Nat) (Z0 : n0 ≤ h0.size) (S_NONE : Sta Z h0 "com/example/largo/largo/Risk" "NONE" "Lcom/example/largo/largo/Risk;" (.ref w_NONE)) (S_BRIEF : Sta Z h0 "com/example/largo/largo/Risk" "BRIEF" "Lcom/example/largo/largo/Risk;" (.ref w_BRIEF)) (S_HIGH : Sta Z h0 "com/example/largo/largo/Risk" "HIGH" "Lcom/example/largo/largo/Risk;" (.ref w_HIGH)) (S_DESTRUCTIVE : Sta Z h0 "com/example/largo/largo/Risk" "DESTRUCTIVE" "Lcom/example/largo/largo/Risk;" (.ref w_DESTRUCTIVE)) (O_NONE : Fld Z h0 w_NONE "java/lang/Enum" "ordinal" "I" (.int (0 : Int32))) (O_BRIEF : Fld Z h0 w_BRIEF "java/lang/Enum" "ordinal" "I" (.int (1 : Int32))) (O_HIGH : Fld Z h0 w_HIGH "java/lang/Enum" "ordinal" "I" (.int (2 : Int32))) (O_DESTRUCTIVE : Fld Z h0 w_DESTRUCTIVE "java/lang/Enum" "ordinal" "I" (.int (3 : Int32))) :
    MetFree l x (head1 (Jvm.Cond.code x code maxLocals ret :: ws) room_1) (fun as_ U => as_ = #[(.int p1)] ∧ Z.Warmed39 U.vm ∧ U.heap = h0) (fun _ _ _ _ _ => True) (fun _ U o U' => ∃ v L, o = .returned v ∧ Q0 h0 n0 v U'.heap L ∧ FrameEnd U o U' L room_1.cells room_1.slots) := by
  refine MetFree.of_bodySF (plainFor_of_name pn0) hisR ?_
  intro p e s m args below meth c s₁ Bd hml0 hP hK
  obtain ⟨rfl, hZ, hh⟩ := hP
  have hx := Bd.exec
  have hby := Bd.bytes
  have hml : c.maxLocals = 8 := hml0
  have hown : s.vm.findClass "com/example/largo/largo/RiskOfPinLaw" = some m.cls := findClass_of_methodNamed Bd.named
  have X0 : Stand p l e room_1 s m #[(.int p1)] below meth c s₁ [] 0 0 := Stand.of_body Bd
  have e0 : s₁.heap = h0 := by rw [← hh, Bd.state]; rfl
  have N0 := Fr.nil n0
  have pre0 : ∀ t, Steps p.tables e below (s₁.setTop (mkF m 0 #[.val (.int p1), .unset, .unset, .unset, .unset, .unset, .unset, .unset] [])) t → Steps p.tables e below (s₁.setTop (entryFrame m #[(.int p1)] maxLocals)) t := fun t kk_ => castTop (ef0 m p1) kk_
  obtain ⟨b1, hb1⟩ : ∃ z : Int32, z = own_bit p1 (1 : Int32) := ⟨_, rfl⟩
  obtain ⟨b2, hb2⟩ : ∃ z : Int32, z = own_bit p1 (2 : Int32) := ⟨_, rfl⟩
  obtain ⟨b3, hb3⟩ : ∃ z : Int32, z = own_bit p1 (4 : Int32) := ⟨_, rfl⟩
  obtain ⟨b4, hb4⟩ : ∃ z : Int32, z = own_bit p1 (8 : Int32) := ⟨_, rfl⟩
  obtain ⟨b5, hb5⟩ : ∃ z : Int32, z = own_bit p1 (16 : Int32) := ⟨_, rfl⟩
  have o1 : b1 = 0 ∨ b1 = 1 := by rw [hb1]; exact own_bit_or _ _
  have o2 : b2 = 0 ∨ b2 = 1 := by rw [hb2]; exact own_bit_or _ _
  have o3 : b3 = 0 ∨ b3 = 1 := by rw [hb3]; exact own_bit_or _ _
  have o4 : b4 = 0 ∨ b4 = 1 := by rw [hb4]; exact own_bit_or _ _
  have o5 : b5 = 0 ∨ b5 = 1 := by rw [hb5]; exact own_bit_or _ _
  obtain ⟨u1, hu1⟩ : ∃ z : Int32, z = own_up b4 (0 : Int32) (1 : Int32) := ⟨_, rfl⟩
  obtain ⟨u2, hu2⟩ : ∃ z : Int32, z = own_up2 b4 b5 u1 (2 : Int32) := ⟨_, rfl⟩
  obtain ⟨u3, hu3⟩ : ∃ z : Int32, z = own_up b2 u2 (2 : Int32) := ⟨_, rfl⟩
  obtain ⟨u4, hu4⟩ : ∃ z : Int32, z = own_up b3 u3 (2 : Int32) := ⟨_, rfl⟩
  obtain ⟨u5, hu5⟩ : ∃ z : Int32, z = own_up b1 u4 (3 : Int32) := ⟨_, rfl⟩
  have nn1 : ¬ w_BRIEF = w_NONE := Fld.ne O_BRIEF O_NONE (by decide)
  have nn2 : ¬ w_HIGH = w_NONE := Fld.ne O_HIGH O_NONE (by decide)
  have nn3 : ¬ w_DESTRUCTIVE = w_NONE := Fld.ne O_DESTRUCTIVE O_NONE (by decide)
  have nn4 : ¬ w_HIGH = w_BRIEF := Fld.ne O_HIGH O_BRIEF (by decide)
  have nn5 : ¬ w_DESTRUCTIVE = w_BRIEF := Fld.ne O_DESTRUCTIVE O_BRIEF (by decide)
  have nn6 : ¬ w_DESTRUCTIVE = w_HIGH := Fld.ne O_DESTRUCTIVE O_HIGH (by decide)
  have fin : (own_rank (own_of b1 b2 b3 b4 b5 w_NONE w_BRIEF w_HIGH w_DESTRUCTIVE) w_NONE w_BRIEF w_HIGH w_DESTRUCTIVE) = u5 := by rw [hu5, hu4, hu3, hu2, hu1]; exact own_final o1 o2 o3 o4 o5 nn1 nn2 nn3 nn4 nn5 nn6
  obtain ⟨T1, Lx1, X1, N1, e1, st1⟩ : ∃ (T' : State) (Lx : List Loc), Stand p l e room_1 s m #[(.int p1)] below meth c T' Lx 0 0 ∧ Fr n0 Lx ∧ T'.heap = h0 ∧ ∀ t, Steps p.tables e below (T'.setTop (mkF m 11 #[.val (.int p1), .unset, .unset, .unset, .unset, .unset, .unset, .unset] [(.int b1)])) t → Steps p.tables e below (s₁.setTop (mkF m 0 #[.val (.int p1), .unset, .unset, .unset, .unset, .unset, .unset, .unset] [])) t := by
    have pre2 : ∀ t, Steps p.tables e below (s₁.setTop (mkF m 3 #[.val (.int p1), .unset, .unset, .unset, .unset, .unset, .unset, .unset] [(.int (p1 &&& (1 : Int32)))])) t → Steps p.tables e below (s₁.setTop (mkF m 0 #[.val (.int p1), .unset, .unset, .unset, .unset, .unset, .unset, .unset] [])) t := fun t kt => by
      show Steps p.tables e below (s₁.setTop (mkF m 0 #[.val (.int p1), .unset, .unset, .unset, .unset, .unset, .unset, .unset] [])) _
      refine XS.iloadN X0.here hx rfl (hb hby at_0) rfl ?_
      show Steps p.tables e below (s₁.setTop (mkF m 1 #[.val (.int p1), .unset, .unset, .unset, .unset, .unset, .unset, .unset] [(.int p1)])) _
      refine XS.iconst X0.here hx rfl (hb hby at_1) ?_
      show Steps p.tables e below (s₁.setTop (mkF m 2 #[.val (.int p1), .unset, .unset, .unset, .unset, .unset, .unset, .unset] [(.int (1 : Int32)), (.int p1)])) _
      refine XS.iand X0.here hx rfl (hb hby at_2) rfl ?_
      exact kt
    by_cases hc3_3 : (p1 &&& (1 : Int32)) = (0 : Int32)
    · rw [show b1 = (0 : Int32) from (by rw [hb1]; simp [own_bit, own_up, own_up2, hc3_3])]
      exact ⟨s₁, _, X0, N0, e0, fun t kt => by
        refine pre2 t ?_
        show Steps p.tables e below (s₁.setTop (mkF m 3 #[.val (.int p1), .unset, .unset, .unset, .unset, .unset, .unset, .unset] [(.int (p1 &&& (1 : Int32)))])) _
        refine XS.ifYes X0.here hx rfl (pc0 := 3) (pc' := 10) rfl (hb hby at_3) rfl ((if0 _ _).trans (teq hc3_3).1) (by decide) (by decide) ?_
        show Steps p.tables e below (s₁.setTop (mkF m 10 #[.val (.int p1), .unset, .unset, .unset, .unset, .unset, .unset, .unset] [])) _
        refine XS.iconst X0.here hx rfl (hb hby at_10) ?_
        exact kt⟩
    · rw [show b1 = (1 : Int32) from (by rw [hb1]; simp [own_bit, own_up, own_up2, hc3_3])]
      exact ⟨s₁, _, X0, N0, e0, fun t kt => by
        refine pre2 t ?_
        show Steps p.tables e below (s₁.setTop (mkF m 3 #[.val (.int p1), .unset, .unset, .unset, .unset, .unset, .unset, .unset] [(.int (p1 &&& (1 : Int32)))])) _
        refine XS.ifNo X0.here hx rfl (hb hby at_3) rfl ((if0 _ _).trans (feq hc3_3).1) ?_
        show Steps p.tables e below (s₁.setTop (mkF m 6 #[.val (.int p1), .unset, .unset, .unset, .unset, .unset, .unset, .unset] [])) _
        refine XS.iconst X0.here hx rfl (hb hby at_6) ?_
        show Steps p.tables e below (s₁.setTop (mkF m 7 #[.val (.int p1), .unset, .unset, .unset, .unset, .unset, .unset, .unset] [(.int (1 : Int32))])) _
        refine XS.goto X0.here hx rfl (pc0 := 7) (pc' := 11) rfl (hb hby at_7) (by decide) (by decide) ?_
        exact kt⟩
  have pre4 : ∀ t, Steps p.tables e below (T1.setTop (mkF m 12 #[.val (.int p1), .val (.int b1), .unset, .unset, .unset, .unset, .unset, .unset] [])) t → Steps p.tables e below (s₁.setTop (entryFrame m #[(.int p1)] maxLocals)) t := fun t kt => by
    refine pre0 t ?_
    refine st1 _ ?_
    show Steps p.tables e below (T1.setTop (mkF m 11 #[.val (.int p1), .unset, .unset, .unset, .unset, .unset, .unset, .unset] [(.int b1)])) _
    refine XS.istoreN X1.here hx rfl (hb hby at_11) rfl (l' := #[.val (.int p1), .val (.int b1), .unset, .unset, .unset, .unset, .unset, .unset]) rfl ?_
    exact kt
  obtain ⟨T5, Lx5, X5, N5, e5, st5⟩ : ∃ (T' : State) (Lx : List Loc), Stand p l e room_1 s m #[(.int p1)] below meth c T' Lx 0 0 ∧ Fr n0 Lx ∧ T'.heap = h0 ∧ ∀ t, Steps p.tables e below (T'.setTop (mkF m 23 #[.val (.int p1), .val (.int b1), .unset, .unset, .unset, .unset, .unset, .unset] [(.int b2)])) t → Steps p.tables e below (T1.setTop (mkF m 12 #[.val (.int p1), .val (.int b1), .unset, .unset, .unset, .unset, .unset, .unset] [])) t := by
    have pre6 : ∀ t, Steps p.tables e below (T1.setTop (mkF m 15 #[.val (.int p1), .val (.int b1), .unset, .unset, .unset, .unset, .unset, .unset] [(.int (p1 &&& (2 : Int32)))])) t → Steps p.tables e below (T1.setTop (mkF m 12 #[.val (.int p1), .val (.int b1), .unset, .unset, .unset, .unset, .unset, .unset] [])) t := fun t kt => by
      show Steps p.tables e below (T1.setTop (mkF m 12 #[.val (.int p1), .val (.int b1), .unset, .unset, .unset, .unset, .unset, .unset] [])) _
      refine XS.iloadN X1.here hx rfl (hb hby at_12) rfl ?_
      show Steps p.tables e below (T1.setTop (mkF m 13 #[.val (.int p1), .val (.int b1), .unset, .unset, .unset, .unset, .unset, .unset] [(.int p1)])) _
      refine XS.iconst X1.here hx rfl (hb hby at_13) ?_
      show Steps p.tables e below (T1.setTop (mkF m 14 #[.val (.int p1), .val (.int b1), .unset, .unset, .unset, .unset, .unset, .unset] [(.int (2 : Int32)), (.int p1)])) _
      refine XS.iand X1.here hx rfl (hb hby at_14) rfl ?_
      exact kt
    by_cases hc15_7 : (p1 &&& (2 : Int32)) = (0 : Int32)
    · rw [show b2 = (0 : Int32) from (by rw [hb2]; simp [own_bit, own_up, own_up2, hc15_7])]
      exact ⟨T1, _, X1, N1, e1, fun t kt => by
        refine pre6 t ?_
        show Steps p.tables e below (T1.setTop (mkF m 15 #[.val (.int p1), .val (.int b1), .unset, .unset, .unset, .unset, .unset, .unset] [(.int (p1 &&& (2 : Int32)))])) _
        refine XS.ifYes X1.here hx rfl (pc0 := 15) (pc' := 22) rfl (hb hby at_15) rfl ((if0 _ _).trans (teq hc15_7).1) (by decide) (by decide) ?_
        show Steps p.tables e below (T1.setTop (mkF m 22 #[.val (.int p1), .val (.int b1), .unset, .unset, .unset, .unset, .unset, .unset] [])) _
        refine XS.iconst X1.here hx rfl (hb hby at_22) ?_
        exact kt⟩
    · rw [show b2 = (1 : Int32) from (by rw [hb2]; simp [own_bit, own_up, own_up2, hc15_7])]
      exact ⟨T1, _, X1, N1, e1, fun t kt => by
        refine pre6 t ?_
        show Steps p.tables e below (T1.setTop (mkF m 15 #[.val (.int p1), .val (.int b1), .unset, .unset, .unset, .unset, .unset, .unset] [(.int (p1 &&& (2 : Int32)))])) _
        refine XS.ifNo X1.here hx rfl (hb hby at_15) rfl ((if0 _ _).trans (feq hc15_7).1) ?_
        show Steps p.tables e below (T1.setTop (mkF m 18 #[.val (.int p1), .val (.int b1), .unset, .unset, .unset, .unset, .unset, .unset] [])) _
        refine XS.iconst X1.here hx rfl (hb hby at_18) ?_
        show Steps p.tables e below (T1.setTop (mkF m 19 #[.val (.int p1), .val (.int b1), .unset, .unset, .unset, .unset, .unset, .unset] [(.int (1 : Int32))])) _
        refine XS.goto X1.here hx rfl (pc0 := 19) (pc' := 23) rfl (hb hby at_19) (by decide) (by decide) ?_
        exact kt⟩
  have pre8 : ∀ t, Steps p.tables e below (T5.setTop (mkF m 24 #[.val (.int p1), .val (.int b1), .val (.int b2), .unset, .unset, .unset, .unset, .unset] [])) t → Steps p.tables e below (s₁.setTop (entryFrame m #[(.int p1)] maxLocals)) t := fun t kt => by
    refine pre4 t ?_
    refine st5 _ ?_
    show Steps p.tables e below (T5.setTop (mkF m 23 #[.val (.int p1), .val (.int b1), .unset, .unset, .unset, .unset, .unset, .unset] [(.int b2)])) _
    refine XS.istoreN X5.here hx rfl (hb hby at_23) rfl (l' := #[.val (.int p1), .val (.int b1), .val (.int b2), .unset, .unset, .unset, .unset, .unset]) rfl ?_
    exact kt
  obtain ⟨T9, Lx9, X9, N9, e9, st9⟩ : ∃ (T' : State) (Lx : List Loc), Stand p l e room_1 s m #[(.int p1)] below meth c T' Lx 0 0 ∧ Fr n0 Lx ∧ T'.heap = h0 ∧ ∀ t, Steps p.tables e below (T'.setTop (mkF m 35 #[.val (.int p1), .val (.int b1), .val (.int b2), .unset, .unset, .unset, .unset, .unset] [(.int b3)])) t → Steps p.tables e below (T5.setTop (mkF m 24 #[.val (.int p1), .val (.int b1), .val (.int b2), .unset, .unset, .unset, .unset, .unset] [])) t := by
    have pre10 : ∀ t, Steps p.tables e below (T5.setTop (mkF m 27 #[.val (.int p1), .val (.int b1), .val (.int b2), .unset, .unset, .unset, .unset, .unset] [(.int (p1 &&& (4 : Int32)))])) t → Steps p.tables e below (T5.setTop (mkF m 24 #[.val (.int p1), .val (.int b1), .val (.int b2), .unset, .unset, .unset, .unset, .unset] [])) t := fun t kt => by
      show Steps p.tables e below (T5.setTop (mkF m 24 #[.val (.int p1), .val (.int b1), .val (.int b2), .unset, .unset, .unset, .unset, .unset] [])) _
      refine XS.iloadN X5.here hx rfl (hb hby at_24) rfl ?_
      show Steps p.tables e below (T5.setTop (mkF m 25 #[.val (.int p1), .val (.int b1), .val (.int b2), .unset, .unset, .unset, .unset, .unset] [(.int p1)])) _
      refine XS.iconst X5.here hx rfl (hb hby at_25) ?_
      show Steps p.tables e below (T5.setTop (mkF m 26 #[.val (.int p1), .val (.int b1), .val (.int b2), .unset, .unset, .unset, .unset, .unset] [(.int (4 : Int32)), (.int p1)])) _
      refine XS.iand X5.here hx rfl (hb hby at_26) rfl ?_
      exact kt
    by_cases hc27_11 : (p1 &&& (4 : Int32)) = (0 : Int32)
    · rw [show b3 = (0 : Int32) from (by rw [hb3]; simp [own_bit, own_up, own_up2, hc27_11])]
      exact ⟨T5, _, X5, N5, e5, fun t kt => by
        refine pre10 t ?_
        show Steps p.tables e below (T5.setTop (mkF m 27 #[.val (.int p1), .val (.int b1), .val (.int b2), .unset, .unset, .unset, .unset, .unset] [(.int (p1 &&& (4 : Int32)))])) _
        refine XS.ifYes X5.here hx rfl (pc0 := 27) (pc' := 34) rfl (hb hby at_27) rfl ((if0 _ _).trans (teq hc27_11).1) (by decide) (by decide) ?_
        show Steps p.tables e below (T5.setTop (mkF m 34 #[.val (.int p1), .val (.int b1), .val (.int b2), .unset, .unset, .unset, .unset, .unset] [])) _
        refine XS.iconst X5.here hx rfl (hb hby at_34) ?_
        exact kt⟩
    · rw [show b3 = (1 : Int32) from (by rw [hb3]; simp [own_bit, own_up, own_up2, hc27_11])]
      exact ⟨T5, _, X5, N5, e5, fun t kt => by
        refine pre10 t ?_
        show Steps p.tables e below (T5.setTop (mkF m 27 #[.val (.int p1), .val (.int b1), .val (.int b2), .unset, .unset, .unset, .unset, .unset] [(.int (p1 &&& (4 : Int32)))])) _
        refine XS.ifNo X5.here hx rfl (hb hby at_27) rfl ((if0 _ _).trans (feq hc27_11).1) ?_
        show Steps p.tables e below (T5.setTop (mkF m 30 #[.val (.int p1), .val (.int b1), .val (.int b2), .unset, .unset, .unset, .unset, .unset] [])) _
        refine XS.iconst X5.here hx rfl (hb hby at_30) ?_
        show Steps p.tables e below (T5.setTop (mkF m 31 #[.val (.int p1), .val (.int b1), .val (.int b2), .unset, .unset, .unset, .unset, .unset] [(.int (1 : Int32))])) _
        refine XS.goto X5.here hx rfl (pc0 := 31) (pc' := 35) rfl (hb hby at_31) (by decide) (by decide) ?_
        exact kt⟩
  have pre12 : ∀ t, Steps p.tables e below (T9.setTop (mkF m 36 #[.val (.int p1), .val (.int b1), .val (.int b2), .val (.int b3), .unset, .unset, .unset, .unset] [])) t → Steps p.tables e below (s₁.setTop (entryFrame m #[(.int p1)] maxLocals)) t := fun t kt => by
    refine pre8 t ?_
    refine st9 _ ?_
    show Steps p.tables e below (T9.setTop (mkF m 35 #[.val (.int p1), .val (.int b1), .val (.int b2), .unset, .unset, .unset, .unset, .unset] [(.int b3)])) _
    refine XS.istoreN X9.here hx rfl (hb hby at_35) rfl (l' := #[.val (.int p1), .val (.int b1), .val (.int b2), .val (.int b3), .unset, .unset, .unset, .unset]) rfl ?_
    exact kt
  obtain ⟨T13, Lx13, X13, N13, e13, st13⟩ : ∃ (T' : State) (Lx : List Loc), Stand p l e room_1 s m #[(.int p1)] below meth c T' Lx 0 0 ∧ Fr n0 Lx ∧ T'.heap = h0 ∧ ∀ t, Steps p.tables e below (T'.setTop (mkF m 48 #[.val (.int p1), .val (.int b1), .val (.int b2), .val (.int b3), .unset, .unset, .unset, .unset] [(.int b4)])) t → Steps p.tables e below (T9.setTop (mkF m 36 #[.val (.int p1), .val (.int b1), .val (.int b2), .val (.int b3), .unset, .unset, .unset, .unset] [])) t := by
    have pre14 : ∀ t, Steps p.tables e below (T9.setTop (mkF m 40 #[.val (.int p1), .val (.int b1), .val (.int b2), .val (.int b3), .unset, .unset, .unset, .unset] [(.int (p1 &&& (8 : Int32)))])) t → Steps p.tables e below (T9.setTop (mkF m 36 #[.val (.int p1), .val (.int b1), .val (.int b2), .val (.int b3), .unset, .unset, .unset, .unset] [])) t := fun t kt => by
      show Steps p.tables e below (T9.setTop (mkF m 36 #[.val (.int p1), .val (.int b1), .val (.int b2), .val (.int b3), .unset, .unset, .unset, .unset] [])) _
      refine XS.iloadN X9.here hx rfl (hb hby at_36) rfl ?_
      show Steps p.tables e below (T9.setTop (mkF m 37 #[.val (.int p1), .val (.int b1), .val (.int b2), .val (.int b3), .unset, .unset, .unset, .unset] [(.int p1)])) _
      refine XS.bipush X9.here hx rfl (hb hby at_37) ?_
      show Steps p.tables e below (T9.setTop (mkF m 39 #[.val (.int p1), .val (.int b1), .val (.int b2), .val (.int b3), .unset, .unset, .unset, .unset] [(.int (8 : Int32)), (.int p1)])) _
      refine XS.iand X9.here hx rfl (hb hby at_39) rfl ?_
      exact kt
    by_cases hc40_15 : (p1 &&& (8 : Int32)) = (0 : Int32)
    · rw [show b4 = (0 : Int32) from (by rw [hb4]; simp [own_bit, own_up, own_up2, hc40_15])]
      exact ⟨T9, _, X9, N9, e9, fun t kt => by
        refine pre14 t ?_
        show Steps p.tables e below (T9.setTop (mkF m 40 #[.val (.int p1), .val (.int b1), .val (.int b2), .val (.int b3), .unset, .unset, .unset, .unset] [(.int (p1 &&& (8 : Int32)))])) _
        refine XS.ifYes X9.here hx rfl (pc0 := 40) (pc' := 47) rfl (hb hby at_40) rfl ((if0 _ _).trans (teq hc40_15).1) (by decide) (by decide) ?_
        show Steps p.tables e below (T9.setTop (mkF m 47 #[.val (.int p1), .val (.int b1), .val (.int b2), .val (.int b3), .unset, .unset, .unset, .unset] [])) _
        refine XS.iconst X9.here hx rfl (hb hby at_47) ?_
        exact kt⟩
    · rw [show b4 = (1 : Int32) from (by rw [hb4]; simp [own_bit, own_up, own_up2, hc40_15])]
      exact ⟨T9, _, X9, N9, e9, fun t kt => by
        refine pre14 t ?_
        show Steps p.tables e below (T9.setTop (mkF m 40 #[.val (.int p1), .val (.int b1), .val (.int b2), .val (.int b3), .unset, .unset, .unset, .unset] [(.int (p1 &&& (8 : Int32)))])) _
        refine XS.ifNo X9.here hx rfl (hb hby at_40) rfl ((if0 _ _).trans (feq hc40_15).1) ?_
        show Steps p.tables e below (T9.setTop (mkF m 43 #[.val (.int p1), .val (.int b1), .val (.int b2), .val (.int b3), .unset, .unset, .unset, .unset] [])) _
        refine XS.iconst X9.here hx rfl (hb hby at_43) ?_
        show Steps p.tables e below (T9.setTop (mkF m 44 #[.val (.int p1), .val (.int b1), .val (.int b2), .val (.int b3), .unset, .unset, .unset, .unset] [(.int (1 : Int32))])) _
        refine XS.goto X9.here hx rfl (pc0 := 44) (pc' := 48) rfl (hb hby at_44) (by decide) (by decide) ?_
        exact kt⟩
  have pre16 : ∀ t, Steps p.tables e below (T13.setTop (mkF m 50 #[.val (.int p1), .val (.int b1), .val (.int b2), .val (.int b3), .val (.int b4), .unset, .unset, .unset] [])) t → Steps p.tables e below (s₁.setTop (entryFrame m #[(.int p1)] maxLocals)) t := fun t kt => by
    refine pre12 t ?_
    refine st13 _ ?_
    show Steps p.tables e below (T13.setTop (mkF m 48 #[.val (.int p1), .val (.int b1), .val (.int b2), .val (.int b3), .unset, .unset, .unset, .unset] [(.int b4)])) _
    refine XS.istore X13.here hx rfl (hb hby at_48) rfl (l' := #[.val (.int p1), .val (.int b1), .val (.int b2), .val (.int b3), .val (.int b4), .unset, .unset, .unset]) rfl ?_
    exact kt
  obtain ⟨T17, Lx17, X17, N17, e17, st17⟩ : ∃ (T' : State) (Lx : List Loc), Stand p l e room_1 s m #[(.int p1)] below meth c T' Lx 0 0 ∧ Fr n0 Lx ∧ T'.heap = h0 ∧ ∀ t, Steps p.tables e below (T'.setTop (mkF m 62 #[.val (.int p1), .val (.int b1), .val (.int b2), .val (.int b3), .val (.int b4), .unset, .unset, .unset] [(.int b5)])) t → Steps p.tables e below (T13.setTop (mkF m 50 #[.val (.int p1), .val (.int b1), .val (.int b2), .val (.int b3), .val (.int b4), .unset, .unset, .unset] [])) t := by
    have pre18 : ∀ t, Steps p.tables e below (T13.setTop (mkF m 54 #[.val (.int p1), .val (.int b1), .val (.int b2), .val (.int b3), .val (.int b4), .unset, .unset, .unset] [(.int (p1 &&& (16 : Int32)))])) t → Steps p.tables e below (T13.setTop (mkF m 50 #[.val (.int p1), .val (.int b1), .val (.int b2), .val (.int b3), .val (.int b4), .unset, .unset, .unset] [])) t := fun t kt => by
      show Steps p.tables e below (T13.setTop (mkF m 50 #[.val (.int p1), .val (.int b1), .val (.int b2), .val (.int b3), .val (.int b4), .unset, .unset, .unset] [])) _
      refine XS.iloadN X13.here hx rfl (hb hby at_50) rfl ?_
      show Steps p.tables e below (T13.setTop (mkF m 51 #[.val (.int p1), .val (.int b1), .val (.int b2), .val (.int b3), .val (.int b4), .unset, .unset, .unset] [(.int p1)])) _
      refine XS.bipush X13.here hx rfl (hb hby at_51) ?_
      show Steps p.tables e below (T13.setTop (mkF m 53 #[.val (.int p1), .val (.int b1), .val (.int b2), .val (.int b3), .val (.int b4), .unset, .unset, .unset] [(.int (16 : Int32)), (.int p1)])) _
      refine XS.iand X13.here hx rfl (hb hby at_53) rfl ?_
      exact kt
    by_cases hc54_19 : (p1 &&& (16 : Int32)) = (0 : Int32)
    · rw [show b5 = (0 : Int32) from (by rw [hb5]; simp [own_bit, own_up, own_up2, hc54_19])]
      exact ⟨T13, _, X13, N13, e13, fun t kt => by
        refine pre18 t ?_
        show Steps p.tables e below (T13.setTop (mkF m 54 #[.val (.int p1), .val (.int b1), .val (.int b2), .val (.int b3), .val (.int b4), .unset, .unset, .unset] [(.int (p1 &&& (16 : Int32)))])) _
        refine XS.ifYes X13.here hx rfl (pc0 := 54) (pc' := 61) rfl (hb hby at_54) rfl ((if0 _ _).trans (teq hc54_19).1) (by decide) (by decide) ?_
        show Steps p.tables e below (T13.setTop (mkF m 61 #[.val (.int p1), .val (.int b1), .val (.int b2), .val (.int b3), .val (.int b4), .unset, .unset, .unset] [])) _
        refine XS.iconst X13.here hx rfl (hb hby at_61) ?_
        exact kt⟩
    · rw [show b5 = (1 : Int32) from (by rw [hb5]; simp [own_bit, own_up, own_up2, hc54_19])]
      exact ⟨T13, _, X13, N13, e13, fun t kt => by
        refine pre18 t ?_
        show Steps p.tables e below (T13.setTop (mkF m 54 #[.val (.int p1), .val (.int b1), .val (.int b2), .val (.int b3), .val (.int b4), .unset, .unset, .unset] [(.int (p1 &&& (16 : Int32)))])) _
        refine XS.ifNo X13.here hx rfl (hb hby at_54) rfl ((if0 _ _).trans (feq hc54_19).1) ?_
        show Steps p.tables e below (T13.setTop (mkF m 57 #[.val (.int p1), .val (.int b1), .val (.int b2), .val (.int b3), .val (.int b4), .unset, .unset, .unset] [])) _
        refine XS.iconst X13.here hx rfl (hb hby at_57) ?_
        show Steps p.tables e below (T13.setTop (mkF m 58 #[.val (.int p1), .val (.int b1), .val (.int b2), .val (.int b3), .val (.int b4), .unset, .unset, .unset] [(.int (1 : Int32))])) _
        refine XS.goto X13.here hx rfl (pc0 := 58) (pc' := 62) rfl (hb hby at_58) (by decide) (by decide) ?_
        exact kt⟩
  obtain ⟨_, _, ⟨T20, L20, k20, n20⟩, -, X20, ⟨Lc20, hQ20, l20, y20, z20⟩, st20⟩ := Jvm.LawKit.callS X17 hx (y := (⟨"com/example/largo/largo/Risk", "of", "(ZZZZZ)Lcom/example/largo/largo/Risk;"⟩ : MethodName)) hown (mvT hZ (hw _ (List.mem_of_getElem? (i := 0) rfl))) (mvT hZ (hw _ (List.mem_of_getElem? (i := 1) rfl))) (mvT hZ (hw _ (List.mem_of_getElem? (i := 2) rfl))) (mvT hZ (hw _ (List.mem_of_getElem? (i := 3) rfl))) (by decide) (backOf (W := 0) (rmO l Z a0 hw [] b1 b2 b3 b4 b5 w_NONE w_BRIEF w_HIGH w_DESTRUCTIVE h0 n0 Z0 S_NONE S_BRIEF S_HIGH S_DESTRUCTIVE) hZ (hw _ (List.mem_of_getElem? (i := 3) rfl)) (hw _ (List.mem_of_getElem? (i := 2) rfl)) (by decide) (by decide)) (g := (mkF m 71 #[.val (.int p1), .val (.int b1), .val (.int b2), .val (.int b3), .val (.int b4), .val (.int b5), .unset, .unset] [(.int b5), (.int b4), (.int b3), (.int b2), (.int b1)])) rfl (by rw [hml]; rfl) (argsL := [(.int b1), (.int b2), (.int b3), (.int b4), (.int b5)]) (rest := []) (lenOf pd0_0 rfl) rfl (by show 2 * 0 + _ ≤ _; exact Nat.le_of_eq rfl) (hb hby at_71) (fun _ _ => ⟨rfl, e17, (by decide : 0 + 0 ≤ _), (by decide : 0 + 0 ≤ _)⟩)
  dsimp only [Pt.U, Pt.locs, Pt.cells, Pt.slots] at X20 l20 y20 z20 st20 hQ20
  subst l20 y20 z20
  obtain ⟨rfl, N20q, eh20⟩ := hQ20
  have N20 := Fr.app N17 N20q
  have pre21 : ∀ t, Steps p.tables e below (T20.setTop (mkF m 79 #[.val (.int p1), .val (.int b1), .val (.int b2), .val (.int b3), .val (.int b4), .val (.int b5), .val (.ref (own_of b1 b2 b3 b4 b5 w_NONE w_BRIEF w_HIGH w_DESTRUCTIVE)), .val (.int (0 : Int32))] [])) t → Steps p.tables e below (s₁.setTop (entryFrame m #[(.int p1)] maxLocals)) t := fun t kt => by
    refine pre16 t ?_
    refine st17 _ ?_
    show Steps p.tables e below (T17.setTop (mkF m 62 #[.val (.int p1), .val (.int b1), .val (.int b2), .val (.int b3), .val (.int b4), .unset, .unset, .unset] [(.int b5)])) _
    refine XS.istore X17.here hx rfl (hb hby at_62) rfl (l' := #[.val (.int p1), .val (.int b1), .val (.int b2), .val (.int b3), .val (.int b4), .val (.int b5), .unset, .unset]) rfl ?_
    show Steps p.tables e below (T17.setTop (mkF m 64 #[.val (.int p1), .val (.int b1), .val (.int b2), .val (.int b3), .val (.int b4), .val (.int b5), .unset, .unset] [])) _
    refine XS.iloadN X17.here hx rfl (hb hby at_64) rfl ?_
    show Steps p.tables e below (T17.setTop (mkF m 65 #[.val (.int p1), .val (.int b1), .val (.int b2), .val (.int b3), .val (.int b4), .val (.int b5), .unset, .unset] [(.int b1)])) _
    refine XS.iloadN X17.here hx rfl (hb hby at_65) rfl ?_
    show Steps p.tables e below (T17.setTop (mkF m 66 #[.val (.int p1), .val (.int b1), .val (.int b2), .val (.int b3), .val (.int b4), .val (.int b5), .unset, .unset] [(.int b2), (.int b1)])) _
    refine XS.iloadN X17.here hx rfl (hb hby at_66) rfl ?_
    show Steps p.tables e below (T17.setTop (mkF m 67 #[.val (.int p1), .val (.int b1), .val (.int b2), .val (.int b3), .val (.int b4), .val (.int b5), .unset, .unset] [(.int b3), (.int b2), (.int b1)])) _
    refine XS.iload X17.here hx rfl (hb hby at_67) rfl ?_
    show Steps p.tables e below (T17.setTop (mkF m 69 #[.val (.int p1), .val (.int b1), .val (.int b2), .val (.int b3), .val (.int b4), .val (.int b5), .unset, .unset] [(.int b4), (.int b3), (.int b2), (.int b1)])) _
    refine XS.iload X17.here hx rfl (hb hby at_69) rfl ?_
    show Steps p.tables e below (T17.setTop (mkF m 71 #[.val (.int p1), .val (.int b1), .val (.int b2), .val (.int b3), .val (.int b4), .val (.int b5), .unset, .unset] [(.int b5), (.int b4), (.int b3), (.int b2), (.int b1)])) _
    refine st20 _ ?_
    show Steps p.tables e below (T20.setTop (mkF m 74 #[.val (.int p1), .val (.int b1), .val (.int b2), .val (.int b3), .val (.int b4), .val (.int b5), .unset, .unset] [(.ref (own_of b1 b2 b3 b4 b5 w_NONE w_BRIEF w_HIGH w_DESTRUCTIVE))])) _
    refine XS.astore X20.here hx rfl (hb hby at_74) rfl rfl (l' := #[.val (.int p1), .val (.int b1), .val (.int b2), .val (.int b3), .val (.int b4), .val (.int b5), .val (.ref (own_of b1 b2 b3 b4 b5 w_NONE w_BRIEF w_HIGH w_DESTRUCTIVE)), .unset]) rfl ?_
    show Steps p.tables e below (T20.setTop (mkF m 76 #[.val (.int p1), .val (.int b1), .val (.int b2), .val (.int b3), .val (.int b4), .val (.int b5), .val (.ref (own_of b1 b2 b3 b4 b5 w_NONE w_BRIEF w_HIGH w_DESTRUCTIVE)), .unset] [])) _
    refine XS.iconst X20.here hx rfl (hb hby at_76) ?_
    show Steps p.tables e below (T20.setTop (mkF m 77 #[.val (.int p1), .val (.int b1), .val (.int b2), .val (.int b3), .val (.int b4), .val (.int b5), .val (.ref (own_of b1 b2 b3 b4 b5 w_NONE w_BRIEF w_HIGH w_DESTRUCTIVE)), .unset] [(.int (0 : Int32))])) _
    refine XS.istore X20.here hx rfl (hb hby at_77) rfl (l' := #[.val (.int p1), .val (.int b1), .val (.int b2), .val (.int b3), .val (.int b4), .val (.int b5), .val (.ref (own_of b1 b2 b3 b4 b5 w_NONE w_BRIEF w_HIGH w_DESTRUCTIVE)), .val (.int (0 : Int32))]) rfl ?_
    exact kt
  obtain ⟨T22, Lx22, X22, N22, e22, st22⟩ : ∃ (T' : State) (Lx : List Loc), Stand p l e room_1 s m #[(.int p1)] below meth c T' Lx 0 0 ∧ Fr n0 Lx ∧ T'.heap = h0 ∧ ∀ t, Steps p.tables e below (T'.setTop (mkF m 92 #[.val (.int p1), .val (.int b1), .val (.int b2), .val (.int b3), .val (.int b4), .val (.int b5), .val (.ref (own_of b1 b2 b3 b4 b5 w_NONE w_BRIEF w_HIGH w_DESTRUCTIVE)), .val (.int u1)] [])) t → Steps p.tables e below (T20.setTop (mkF m 79 #[.val (.int p1), .val (.int b1), .val (.int b2), .val (.int b3), .val (.int b4), .val (.int b5), .val (.ref (own_of b1 b2 b3 b4 b5 w_NONE w_BRIEF w_HIGH w_DESTRUCTIVE)), .val (.int (0 : Int32))] [])) t := by
    have pre23 : ∀ t, Steps p.tables e below (T20.setTop (mkF m 81 #[.val (.int p1), .val (.int b1), .val (.int b2), .val (.int b3), .val (.int b4), .val (.int b5), .val (.ref (own_of b1 b2 b3 b4 b5 w_NONE w_BRIEF w_HIGH w_DESTRUCTIVE)), .val (.int (0 : Int32))] [(.int b4)])) t → Steps p.tables e below (T20.setTop (mkF m 79 #[.val (.int p1), .val (.int b1), .val (.int b2), .val (.int b3), .val (.int b4), .val (.int b5), .val (.ref (own_of b1 b2 b3 b4 b5 w_NONE w_BRIEF w_HIGH w_DESTRUCTIVE)), .val (.int (0 : Int32))] [])) t := fun t kt => by
      show Steps p.tables e below (T20.setTop (mkF m 79 #[.val (.int p1), .val (.int b1), .val (.int b2), .val (.int b3), .val (.int b4), .val (.int b5), .val (.ref (own_of b1 b2 b3 b4 b5 w_NONE w_BRIEF w_HIGH w_DESTRUCTIVE)), .val (.int (0 : Int32))] [])) _
      refine XS.iload X20.here hx rfl (hb hby at_79) rfl ?_
      exact kt
    by_cases hc81_24 : b4 = (0 : Int32)
    · rw [show u1 = (0 : Int32) from (by rw [hu1]; simp [own_bit, own_up, own_up2, hc81_24])]
      exact ⟨T20, _, X20, N20, eh20, fun t kt => by
        refine pre23 t ?_
        show Steps p.tables e below (T20.setTop (mkF m 81 #[.val (.int p1), .val (.int b1), .val (.int b2), .val (.int b3), .val (.int b4), .val (.int b5), .val (.ref (own_of b1 b2 b3 b4 b5 w_NONE w_BRIEF w_HIGH w_DESTRUCTIVE)), .val (.int (0 : Int32))] [(.int b4)])) _
        refine XS.ifYes X20.here hx rfl (pc0 := 81) (pc' := 92) rfl (hb hby at_81) rfl ((if0 _ _).trans (teq hc81_24).1) (by decide) (by decide) ?_
        exact kt⟩
    · obtain ⟨_, _, ⟨T25, L25, k25, n25⟩, -, X25, ⟨Lc25, hQ25, l25, y25, z25⟩, st25⟩ := Jvm.LawKit.callS X20 hx (y := (⟨"java/lang/Math", "max", "(II)I"⟩ : MethodName)) hown (mvT hZ (hw _ (List.mem_of_getElem? (i := 13) rfl))) (mvT hZ (hw _ (List.mem_of_getElem? (i := 14) rfl))) (mvT hZ (hw _ (List.mem_of_getElem? (i := 15) rfl))) (mvT hZ (hw _ (List.mem_of_getElem? (i := 16) rfl))) (by decide) (backOf (W := 0) (rmM l Z a0 hw [] (0 : Int32) (1 : Int32) h0 n0 Z0) hZ (hw _ (List.mem_of_getElem? (i := 16) rfl)) (hw _ (List.mem_of_getElem? (i := 15) rfl)) (by decide) (by decide)) (g := (mkF m 87 #[.val (.int p1), .val (.int b1), .val (.int b2), .val (.int b3), .val (.int b4), .val (.int b5), .val (.ref (own_of b1 b2 b3 b4 b5 w_NONE w_BRIEF w_HIGH w_DESTRUCTIVE)), .val (.int (0 : Int32))] [(.int (1 : Int32)), (.int (0 : Int32))])) rfl (by rw [hml]; rfl) (argsL := [(.int (0 : Int32)), (.int (1 : Int32))]) (rest := []) (lenOf pd0_1 rfl) rfl (by show 2 * 0 + _ ≤ _; exact Nat.le_of_eq rfl) (hb hby at_87) (fun _ _ => ⟨rfl, eh20, (by decide : 0 + 0 ≤ _), (by decide : 0 + 0 ≤ _)⟩)
      dsimp only [Pt.U, Pt.locs, Pt.cells, Pt.slots] at X25 l25 y25 z25 st25 hQ25
      subst l25 y25 z25
      obtain ⟨rfl, N25q, eh25⟩ := hQ25
      have N25 := Fr.app N20 N25q
      rw [show u1 = (own_max (0 : Int32) (1 : Int32)) from (by rw [hu1]; simp [own_bit, own_up, own_up2, hc81_24])]
      exact ⟨T25, _, X25, N25, eh25, fun t kt => by
        refine pre23 t ?_
        show Steps p.tables e below (T20.setTop (mkF m 81 #[.val (.int p1), .val (.int b1), .val (.int b2), .val (.int b3), .val (.int b4), .val (.int b5), .val (.ref (own_of b1 b2 b3 b4 b5 w_NONE w_BRIEF w_HIGH w_DESTRUCTIVE)), .val (.int (0 : Int32))] [(.int b4)])) _
        refine XS.ifNo X20.here hx rfl (hb hby at_81) rfl ((if0 _ _).trans (feq hc81_24).1) ?_
        show Steps p.tables e below (T20.setTop (mkF m 84 #[.val (.int p1), .val (.int b1), .val (.int b2), .val (.int b3), .val (.int b4), .val (.int b5), .val (.ref (own_of b1 b2 b3 b4 b5 w_NONE w_BRIEF w_HIGH w_DESTRUCTIVE)), .val (.int (0 : Int32))] [])) _
        refine XS.iload X20.here hx rfl (hb hby at_84) rfl ?_
        show Steps p.tables e below (T20.setTop (mkF m 86 #[.val (.int p1), .val (.int b1), .val (.int b2), .val (.int b3), .val (.int b4), .val (.int b5), .val (.ref (own_of b1 b2 b3 b4 b5 w_NONE w_BRIEF w_HIGH w_DESTRUCTIVE)), .val (.int (0 : Int32))] [(.int (0 : Int32))])) _
        refine XS.iconst X20.here hx rfl (hb hby at_86) ?_
        show Steps p.tables e below (T20.setTop (mkF m 87 #[.val (.int p1), .val (.int b1), .val (.int b2), .val (.int b3), .val (.int b4), .val (.int b5), .val (.ref (own_of b1 b2 b3 b4 b5 w_NONE w_BRIEF w_HIGH w_DESTRUCTIVE)), .val (.int (0 : Int32))] [(.int (1 : Int32)), (.int (0 : Int32))])) _
        refine st25 _ ?_
        show Steps p.tables e below (T25.setTop (mkF m 90 #[.val (.int p1), .val (.int b1), .val (.int b2), .val (.int b3), .val (.int b4), .val (.int b5), .val (.ref (own_of b1 b2 b3 b4 b5 w_NONE w_BRIEF w_HIGH w_DESTRUCTIVE)), .val (.int (0 : Int32))] [(.int (own_max (0 : Int32) (1 : Int32)))])) _
        refine XS.istore X25.here hx rfl (hb hby at_90) rfl (l' := #[.val (.int p1), .val (.int b1), .val (.int b2), .val (.int b3), .val (.int b4), .val (.int b5), .val (.ref (own_of b1 b2 b3 b4 b5 w_NONE w_BRIEF w_HIGH w_DESTRUCTIVE)), .val (.int (own_max (0 : Int32) (1 : Int32)))]) rfl ?_
        exact kt⟩
  have pre26 : ∀ t, Steps p.tables e below (T22.setTop (mkF m 92 #[.val (.int p1), .val (.int b1), .val (.int b2), .val (.int b3), .val (.int b4), .val (.int b5), .val (.ref (own_of b1 b2 b3 b4 b5 w_NONE w_BRIEF w_HIGH w_DESTRUCTIVE)), .val (.int u1)] [])) t → Steps p.tables e below (s₁.setTop (entryFrame m #[(.int p1)] maxLocals)) t := fun t kt => by
    refine pre21 t ?_
    refine st22 _ ?_
    exact kt
  obtain ⟨T27, Lx27, X27, N27, e27, st27⟩ : ∃ (T' : State) (Lx : List Loc), Stand p l e room_1 s m #[(.int p1)] below meth c T' Lx 0 0 ∧ Fr n0 Lx ∧ T'.heap = h0 ∧ ∀ t, Steps p.tables e below (T'.setTop (mkF m 110 #[.val (.int p1), .val (.int b1), .val (.int b2), .val (.int b3), .val (.int b4), .val (.int b5), .val (.ref (own_of b1 b2 b3 b4 b5 w_NONE w_BRIEF w_HIGH w_DESTRUCTIVE)), .val (.int u2)] [])) t → Steps p.tables e below (T22.setTop (mkF m 92 #[.val (.int p1), .val (.int b1), .val (.int b2), .val (.int b3), .val (.int b4), .val (.int b5), .val (.ref (own_of b1 b2 b3 b4 b5 w_NONE w_BRIEF w_HIGH w_DESTRUCTIVE)), .val (.int u1)] [])) t := by
    have pre28 : ∀ t, Steps p.tables e below (T22.setTop (mkF m 94 #[.val (.int p1), .val (.int b1), .val (.int b2), .val (.int b3), .val (.int b4), .val (.int b5), .val (.ref (own_of b1 b2 b3 b4 b5 w_NONE w_BRIEF w_HIGH w_DESTRUCTIVE)), .val (.int u1)] [(.int b4)])) t → Steps p.tables e below (T22.setTop (mkF m 92 #[.val (.int p1), .val (.int b1), .val (.int b2), .val (.int b3), .val (.int b4), .val (.int b5), .val (.ref (own_of b1 b2 b3 b4 b5 w_NONE w_BRIEF w_HIGH w_DESTRUCTIVE)), .val (.int u1)] [])) t := fun t kt => by
      show Steps p.tables e below (T22.setTop (mkF m 92 #[.val (.int p1), .val (.int b1), .val (.int b2), .val (.int b3), .val (.int b4), .val (.int b5), .val (.ref (own_of b1 b2 b3 b4 b5 w_NONE w_BRIEF w_HIGH w_DESTRUCTIVE)), .val (.int u1)] [])) _
      refine XS.iload X22.here hx rfl (hb hby at_92) rfl ?_
      exact kt
    by_cases hc94_29 : b4 = (0 : Int32)
    · rw [show u2 = u1 from (by rw [hu2]; simp [own_bit, own_up, own_up2, hc94_29])]
      exact ⟨T22, _, X22, N22, e22, fun t kt => by
        refine pre28 t ?_
        show Steps p.tables e below (T22.setTop (mkF m 94 #[.val (.int p1), .val (.int b1), .val (.int b2), .val (.int b3), .val (.int b4), .val (.int b5), .val (.ref (own_of b1 b2 b3 b4 b5 w_NONE w_BRIEF w_HIGH w_DESTRUCTIVE)), .val (.int u1)] [(.int b4)])) _
        refine XS.ifYes X22.here hx rfl (pc0 := 94) (pc' := 110) rfl (hb hby at_94) rfl ((if0 _ _).trans (teq hc94_29).1) (by decide) (by decide) ?_
        exact kt⟩
    · have pre30 : ∀ t, Steps p.tables e below (T22.setTop (mkF m 99 #[.val (.int p1), .val (.int b1), .val (.int b2), .val (.int b3), .val (.int b4), .val (.int b5), .val (.ref (own_of b1 b2 b3 b4 b5 w_NONE w_BRIEF w_HIGH w_DESTRUCTIVE)), .val (.int u1)] [(.int b5)])) t → Steps p.tables e below (T22.setTop (mkF m 92 #[.val (.int p1), .val (.int b1), .val (.int b2), .val (.int b3), .val (.int b4), .val (.int b5), .val (.ref (own_of b1 b2 b3 b4 b5 w_NONE w_BRIEF w_HIGH w_DESTRUCTIVE)), .val (.int u1)] [])) t := fun t kt => by
        refine pre28 t ?_
        show Steps p.tables e below (T22.setTop (mkF m 94 #[.val (.int p1), .val (.int b1), .val (.int b2), .val (.int b3), .val (.int b4), .val (.int b5), .val (.ref (own_of b1 b2 b3 b4 b5 w_NONE w_BRIEF w_HIGH w_DESTRUCTIVE)), .val (.int u1)] [(.int b4)])) _
        refine XS.ifNo X22.here hx rfl (hb hby at_94) rfl ((if0 _ _).trans (feq hc94_29).1) ?_
        show Steps p.tables e below (T22.setTop (mkF m 97 #[.val (.int p1), .val (.int b1), .val (.int b2), .val (.int b3), .val (.int b4), .val (.int b5), .val (.ref (own_of b1 b2 b3 b4 b5 w_NONE w_BRIEF w_HIGH w_DESTRUCTIVE)), .val (.int u1)] [])) _
        refine XS.iload X22.here hx rfl (hb hby at_97) rfl ?_
        exact kt
      by_cases hc99_31 : b5 = (0 : Int32)
      · rw [show u2 = u1 from (by rw [hu2]; simp [own_bit, own_up, own_up2, hc94_29, hc99_31])]
        exact ⟨T22, _, X22, N22, e22, fun t kt => by
          refine pre30 t ?_
          show Steps p.tables e below (T22.setTop (mkF m 99 #[.val (.int p1), .val (.int b1), .val (.int b2), .val (.int b3), .val (.int b4), .val (.int b5), .val (.ref (own_of b1 b2 b3 b4 b5 w_NONE w_BRIEF w_HIGH w_DESTRUCTIVE)), .val (.int u1)] [(.int b5)])) _
          refine XS.ifYes X22.here hx rfl (pc0 := 99) (pc' := 110) rfl (hb hby at_99) rfl ((if0 _ _).trans (teq hc99_31).1) (by decide) (by decide) ?_
          exact kt⟩
      · obtain ⟨_, _, ⟨T32, L32, k32, n32⟩, -, X32, ⟨Lc32, hQ32, l32, y32, z32⟩, st32⟩ := Jvm.LawKit.callS X22 hx (y := (⟨"java/lang/Math", "max", "(II)I"⟩ : MethodName)) hown (mvT hZ (hw _ (List.mem_of_getElem? (i := 13) rfl))) (mvT hZ (hw _ (List.mem_of_getElem? (i := 14) rfl))) (mvT hZ (hw _ (List.mem_of_getElem? (i := 15) rfl))) (mvT hZ (hw _ (List.mem_of_getElem? (i := 16) rfl))) (by decide) (backOf (W := 0) (rmM l Z a0 hw [] u1 (2 : Int32) h0 n0 Z0) hZ (hw _ (List.mem_of_getElem? (i := 16) rfl)) (hw _ (List.mem_of_getElem? (i := 15) rfl)) (by decide) (by decide)) (g := (mkF m 105 #[.val (.int p1), .val (.int b1), .val (.int b2), .val (.int b3), .val (.int b4), .val (.int b5), .val (.ref (own_of b1 b2 b3 b4 b5 w_NONE w_BRIEF w_HIGH w_DESTRUCTIVE)), .val (.int u1)] [(.int (2 : Int32)), (.int u1)])) rfl (by rw [hml]; rfl) (argsL := [(.int u1), (.int (2 : Int32))]) (rest := []) (lenOf pd0_1 rfl) rfl (by show 2 * 0 + _ ≤ _; exact Nat.le_of_eq rfl) (hb hby at_105) (fun _ _ => ⟨rfl, e22, (by decide : 0 + 0 ≤ _), (by decide : 0 + 0 ≤ _)⟩)
        dsimp only [Pt.U, Pt.locs, Pt.cells, Pt.slots] at X32 l32 y32 z32 st32 hQ32
        subst l32 y32 z32
        obtain ⟨rfl, N32q, eh32⟩ := hQ32
        have N32 := Fr.app N22 N32q
        rw [show u2 = (own_max u1 (2 : Int32)) from (by rw [hu2]; simp [own_bit, own_up, own_up2, hc94_29, hc99_31])]
        exact ⟨T32, _, X32, N32, eh32, fun t kt => by
          refine pre30 t ?_
          show Steps p.tables e below (T22.setTop (mkF m 99 #[.val (.int p1), .val (.int b1), .val (.int b2), .val (.int b3), .val (.int b4), .val (.int b5), .val (.ref (own_of b1 b2 b3 b4 b5 w_NONE w_BRIEF w_HIGH w_DESTRUCTIVE)), .val (.int u1)] [(.int b5)])) _
          refine XS.ifNo X22.here hx rfl (hb hby at_99) rfl ((if0 _ _).trans (feq hc99_31).1) ?_
          show Steps p.tables e below (T22.setTop (mkF m 102 #[.val (.int p1), .val (.int b1), .val (.int b2), .val (.int b3), .val (.int b4), .val (.int b5), .val (.ref (own_of b1 b2 b3 b4 b5 w_NONE w_BRIEF w_HIGH w_DESTRUCTIVE)), .val (.int u1)] [])) _
          refine XS.iload X22.here hx rfl (hb hby at_102) rfl ?_
          show Steps p.tables e below (T22.setTop (mkF m 104 #[.val (.int p1), .val (.int b1), .val (.int b2), .val (.int b3), .val (.int b4), .val (.int b5), .val (.ref (own_of b1 b2 b3 b4 b5 w_NONE w_BRIEF w_HIGH w_DESTRUCTIVE)), .val (.int u1)] [(.int u1)])) _
          refine XS.iconst X22.here hx rfl (hb hby at_104) ?_
          show Steps p.tables e below (T22.setTop (mkF m 105 #[.val (.int p1), .val (.int b1), .val (.int b2), .val (.int b3), .val (.int b4), .val (.int b5), .val (.ref (own_of b1 b2 b3 b4 b5 w_NONE w_BRIEF w_HIGH w_DESTRUCTIVE)), .val (.int u1)] [(.int (2 : Int32)), (.int u1)])) _
          refine st32 _ ?_
          show Steps p.tables e below (T32.setTop (mkF m 108 #[.val (.int p1), .val (.int b1), .val (.int b2), .val (.int b3), .val (.int b4), .val (.int b5), .val (.ref (own_of b1 b2 b3 b4 b5 w_NONE w_BRIEF w_HIGH w_DESTRUCTIVE)), .val (.int u1)] [(.int (own_max u1 (2 : Int32)))])) _
          refine XS.istore X32.here hx rfl (hb hby at_108) rfl (l' := #[.val (.int p1), .val (.int b1), .val (.int b2), .val (.int b3), .val (.int b4), .val (.int b5), .val (.ref (own_of b1 b2 b3 b4 b5 w_NONE w_BRIEF w_HIGH w_DESTRUCTIVE)), .val (.int (own_max u1 (2 : Int32)))]) rfl ?_
          exact kt⟩
  have pre33 : ∀ t, Steps p.tables e below (T27.setTop (mkF m 110 #[.val (.int p1), .val (.int b1), .val (.int b2), .val (.int b3), .val (.int b4), .val (.int b5), .val (.ref (own_of b1 b2 b3 b4 b5 w_NONE w_BRIEF w_HIGH w_DESTRUCTIVE)), .val (.int u2)] [])) t → Steps p.tables e below (s₁.setTop (entryFrame m #[(.int p1)] maxLocals)) t := fun t kt => by
    refine pre26 t ?_
    refine st27 _ ?_
    exact kt
  obtain ⟨T34, Lx34, X34, N34, e34, st34⟩ : ∃ (T' : State) (Lx : List Loc), Stand p l e room_1 s m #[(.int p1)] below meth c T' Lx 0 0 ∧ Fr n0 Lx ∧ T'.heap = h0 ∧ ∀ t, Steps p.tables e below (T'.setTop (mkF m 122 #[.val (.int p1), .val (.int b1), .val (.int b2), .val (.int b3), .val (.int b4), .val (.int b5), .val (.ref (own_of b1 b2 b3 b4 b5 w_NONE w_BRIEF w_HIGH w_DESTRUCTIVE)), .val (.int u3)] [])) t → Steps p.tables e below (T27.setTop (mkF m 110 #[.val (.int p1), .val (.int b1), .val (.int b2), .val (.int b3), .val (.int b4), .val (.int b5), .val (.ref (own_of b1 b2 b3 b4 b5 w_NONE w_BRIEF w_HIGH w_DESTRUCTIVE)), .val (.int u2)] [])) t := by
    have pre35 : ∀ t, Steps p.tables e below (T27.setTop (mkF m 111 #[.val (.int p1), .val (.int b1), .val (.int b2), .val (.int b3), .val (.int b4), .val (.int b5), .val (.ref (own_of b1 b2 b3 b4 b5 w_NONE w_BRIEF w_HIGH w_DESTRUCTIVE)), .val (.int u2)] [(.int b2)])) t → Steps p.tables e below (T27.setTop (mkF m 110 #[.val (.int p1), .val (.int b1), .val (.int b2), .val (.int b3), .val (.int b4), .val (.int b5), .val (.ref (own_of b1 b2 b3 b4 b5 w_NONE w_BRIEF w_HIGH w_DESTRUCTIVE)), .val (.int u2)] [])) t := fun t kt => by
      show Steps p.tables e below (T27.setTop (mkF m 110 #[.val (.int p1), .val (.int b1), .val (.int b2), .val (.int b3), .val (.int b4), .val (.int b5), .val (.ref (own_of b1 b2 b3 b4 b5 w_NONE w_BRIEF w_HIGH w_DESTRUCTIVE)), .val (.int u2)] [])) _
      refine XS.iloadN X27.here hx rfl (hb hby at_110) rfl ?_
      exact kt
    by_cases hc111_36 : b2 = (0 : Int32)
    · rw [show u3 = u2 from (by rw [hu3]; simp [own_bit, own_up, own_up2, hc111_36])]
      exact ⟨T27, _, X27, N27, e27, fun t kt => by
        refine pre35 t ?_
        show Steps p.tables e below (T27.setTop (mkF m 111 #[.val (.int p1), .val (.int b1), .val (.int b2), .val (.int b3), .val (.int b4), .val (.int b5), .val (.ref (own_of b1 b2 b3 b4 b5 w_NONE w_BRIEF w_HIGH w_DESTRUCTIVE)), .val (.int u2)] [(.int b2)])) _
        refine XS.ifYes X27.here hx rfl (pc0 := 111) (pc' := 122) rfl (hb hby at_111) rfl ((if0 _ _).trans (teq hc111_36).1) (by decide) (by decide) ?_
        exact kt⟩
    · obtain ⟨_, _, ⟨T37, L37, k37, n37⟩, -, X37, ⟨Lc37, hQ37, l37, y37, z37⟩, st37⟩ := Jvm.LawKit.callS X27 hx (y := (⟨"java/lang/Math", "max", "(II)I"⟩ : MethodName)) hown (mvT hZ (hw _ (List.mem_of_getElem? (i := 13) rfl))) (mvT hZ (hw _ (List.mem_of_getElem? (i := 14) rfl))) (mvT hZ (hw _ (List.mem_of_getElem? (i := 15) rfl))) (mvT hZ (hw _ (List.mem_of_getElem? (i := 16) rfl))) (by decide) (backOf (W := 0) (rmM l Z a0 hw [] u2 (2 : Int32) h0 n0 Z0) hZ (hw _ (List.mem_of_getElem? (i := 16) rfl)) (hw _ (List.mem_of_getElem? (i := 15) rfl)) (by decide) (by decide)) (g := (mkF m 117 #[.val (.int p1), .val (.int b1), .val (.int b2), .val (.int b3), .val (.int b4), .val (.int b5), .val (.ref (own_of b1 b2 b3 b4 b5 w_NONE w_BRIEF w_HIGH w_DESTRUCTIVE)), .val (.int u2)] [(.int (2 : Int32)), (.int u2)])) rfl (by rw [hml]; rfl) (argsL := [(.int u2), (.int (2 : Int32))]) (rest := []) (lenOf pd0_1 rfl) rfl (by show 2 * 0 + _ ≤ _; exact Nat.le_of_eq rfl) (hb hby at_117) (fun _ _ => ⟨rfl, e27, (by decide : 0 + 0 ≤ _), (by decide : 0 + 0 ≤ _)⟩)
      dsimp only [Pt.U, Pt.locs, Pt.cells, Pt.slots] at X37 l37 y37 z37 st37 hQ37
      subst l37 y37 z37
      obtain ⟨rfl, N37q, eh37⟩ := hQ37
      have N37 := Fr.app N27 N37q
      rw [show u3 = (own_max u2 (2 : Int32)) from (by rw [hu3]; simp [own_bit, own_up, own_up2, hc111_36])]
      exact ⟨T37, _, X37, N37, eh37, fun t kt => by
        refine pre35 t ?_
        show Steps p.tables e below (T27.setTop (mkF m 111 #[.val (.int p1), .val (.int b1), .val (.int b2), .val (.int b3), .val (.int b4), .val (.int b5), .val (.ref (own_of b1 b2 b3 b4 b5 w_NONE w_BRIEF w_HIGH w_DESTRUCTIVE)), .val (.int u2)] [(.int b2)])) _
        refine XS.ifNo X27.here hx rfl (hb hby at_111) rfl ((if0 _ _).trans (feq hc111_36).1) ?_
        show Steps p.tables e below (T27.setTop (mkF m 114 #[.val (.int p1), .val (.int b1), .val (.int b2), .val (.int b3), .val (.int b4), .val (.int b5), .val (.ref (own_of b1 b2 b3 b4 b5 w_NONE w_BRIEF w_HIGH w_DESTRUCTIVE)), .val (.int u2)] [])) _
        refine XS.iload X27.here hx rfl (hb hby at_114) rfl ?_
        show Steps p.tables e below (T27.setTop (mkF m 116 #[.val (.int p1), .val (.int b1), .val (.int b2), .val (.int b3), .val (.int b4), .val (.int b5), .val (.ref (own_of b1 b2 b3 b4 b5 w_NONE w_BRIEF w_HIGH w_DESTRUCTIVE)), .val (.int u2)] [(.int u2)])) _
        refine XS.iconst X27.here hx rfl (hb hby at_116) ?_
        show Steps p.tables e below (T27.setTop (mkF m 117 #[.val (.int p1), .val (.int b1), .val (.int b2), .val (.int b3), .val (.int b4), .val (.int b5), .val (.ref (own_of b1 b2 b3 b4 b5 w_NONE w_BRIEF w_HIGH w_DESTRUCTIVE)), .val (.int u2)] [(.int (2 : Int32)), (.int u2)])) _
        refine st37 _ ?_
        show Steps p.tables e below (T37.setTop (mkF m 120 #[.val (.int p1), .val (.int b1), .val (.int b2), .val (.int b3), .val (.int b4), .val (.int b5), .val (.ref (own_of b1 b2 b3 b4 b5 w_NONE w_BRIEF w_HIGH w_DESTRUCTIVE)), .val (.int u2)] [(.int (own_max u2 (2 : Int32)))])) _
        refine XS.istore X37.here hx rfl (hb hby at_120) rfl (l' := #[.val (.int p1), .val (.int b1), .val (.int b2), .val (.int b3), .val (.int b4), .val (.int b5), .val (.ref (own_of b1 b2 b3 b4 b5 w_NONE w_BRIEF w_HIGH w_DESTRUCTIVE)), .val (.int (own_max u2 (2 : Int32)))]) rfl ?_
        exact kt⟩
  have pre38 : ∀ t, Steps p.tables e below (T34.setTop (mkF m 122 #[.val (.int p1), .val (.int b1), .val (.int b2), .val (.int b3), .val (.int b4), .val (.int b5), .val (.ref (own_of b1 b2 b3 b4 b5 w_NONE w_BRIEF w_HIGH w_DESTRUCTIVE)), .val (.int u3)] [])) t → Steps p.tables e below (s₁.setTop (entryFrame m #[(.int p1)] maxLocals)) t := fun t kt => by
    refine pre33 t ?_
    refine st34 _ ?_
    exact kt
  obtain ⟨T39, Lx39, X39, N39, e39, st39⟩ : ∃ (T' : State) (Lx : List Loc), Stand p l e room_1 s m #[(.int p1)] below meth c T' Lx 0 0 ∧ Fr n0 Lx ∧ T'.heap = h0 ∧ ∀ t, Steps p.tables e below (T'.setTop (mkF m 134 #[.val (.int p1), .val (.int b1), .val (.int b2), .val (.int b3), .val (.int b4), .val (.int b5), .val (.ref (own_of b1 b2 b3 b4 b5 w_NONE w_BRIEF w_HIGH w_DESTRUCTIVE)), .val (.int u4)] [])) t → Steps p.tables e below (T34.setTop (mkF m 122 #[.val (.int p1), .val (.int b1), .val (.int b2), .val (.int b3), .val (.int b4), .val (.int b5), .val (.ref (own_of b1 b2 b3 b4 b5 w_NONE w_BRIEF w_HIGH w_DESTRUCTIVE)), .val (.int u3)] [])) t := by
    have pre40 : ∀ t, Steps p.tables e below (T34.setTop (mkF m 123 #[.val (.int p1), .val (.int b1), .val (.int b2), .val (.int b3), .val (.int b4), .val (.int b5), .val (.ref (own_of b1 b2 b3 b4 b5 w_NONE w_BRIEF w_HIGH w_DESTRUCTIVE)), .val (.int u3)] [(.int b3)])) t → Steps p.tables e below (T34.setTop (mkF m 122 #[.val (.int p1), .val (.int b1), .val (.int b2), .val (.int b3), .val (.int b4), .val (.int b5), .val (.ref (own_of b1 b2 b3 b4 b5 w_NONE w_BRIEF w_HIGH w_DESTRUCTIVE)), .val (.int u3)] [])) t := fun t kt => by
      show Steps p.tables e below (T34.setTop (mkF m 122 #[.val (.int p1), .val (.int b1), .val (.int b2), .val (.int b3), .val (.int b4), .val (.int b5), .val (.ref (own_of b1 b2 b3 b4 b5 w_NONE w_BRIEF w_HIGH w_DESTRUCTIVE)), .val (.int u3)] [])) _
      refine XS.iloadN X34.here hx rfl (hb hby at_122) rfl ?_
      exact kt
    by_cases hc123_41 : b3 = (0 : Int32)
    · rw [show u4 = u3 from (by rw [hu4]; simp [own_bit, own_up, own_up2, hc123_41])]
      exact ⟨T34, _, X34, N34, e34, fun t kt => by
        refine pre40 t ?_
        show Steps p.tables e below (T34.setTop (mkF m 123 #[.val (.int p1), .val (.int b1), .val (.int b2), .val (.int b3), .val (.int b4), .val (.int b5), .val (.ref (own_of b1 b2 b3 b4 b5 w_NONE w_BRIEF w_HIGH w_DESTRUCTIVE)), .val (.int u3)] [(.int b3)])) _
        refine XS.ifYes X34.here hx rfl (pc0 := 123) (pc' := 134) rfl (hb hby at_123) rfl ((if0 _ _).trans (teq hc123_41).1) (by decide) (by decide) ?_
        exact kt⟩
    · obtain ⟨_, _, ⟨T42, L42, k42, n42⟩, -, X42, ⟨Lc42, hQ42, l42, y42, z42⟩, st42⟩ := Jvm.LawKit.callS X34 hx (y := (⟨"java/lang/Math", "max", "(II)I"⟩ : MethodName)) hown (mvT hZ (hw _ (List.mem_of_getElem? (i := 13) rfl))) (mvT hZ (hw _ (List.mem_of_getElem? (i := 14) rfl))) (mvT hZ (hw _ (List.mem_of_getElem? (i := 15) rfl))) (mvT hZ (hw _ (List.mem_of_getElem? (i := 16) rfl))) (by decide) (backOf (W := 0) (rmM l Z a0 hw [] u3 (2 : Int32) h0 n0 Z0) hZ (hw _ (List.mem_of_getElem? (i := 16) rfl)) (hw _ (List.mem_of_getElem? (i := 15) rfl)) (by decide) (by decide)) (g := (mkF m 129 #[.val (.int p1), .val (.int b1), .val (.int b2), .val (.int b3), .val (.int b4), .val (.int b5), .val (.ref (own_of b1 b2 b3 b4 b5 w_NONE w_BRIEF w_HIGH w_DESTRUCTIVE)), .val (.int u3)] [(.int (2 : Int32)), (.int u3)])) rfl (by rw [hml]; rfl) (argsL := [(.int u3), (.int (2 : Int32))]) (rest := []) (lenOf pd0_1 rfl) rfl (by show 2 * 0 + _ ≤ _; exact Nat.le_of_eq rfl) (hb hby at_129) (fun _ _ => ⟨rfl, e34, (by decide : 0 + 0 ≤ _), (by decide : 0 + 0 ≤ _)⟩)
      dsimp only [Pt.U, Pt.locs, Pt.cells, Pt.slots] at X42 l42 y42 z42 st42 hQ42
      subst l42 y42 z42
      obtain ⟨rfl, N42q, eh42⟩ := hQ42
      have N42 := Fr.app N34 N42q
      rw [show u4 = (own_max u3 (2 : Int32)) from (by rw [hu4]; simp [own_bit, own_up, own_up2, hc123_41])]
      exact ⟨T42, _, X42, N42, eh42, fun t kt => by
        refine pre40 t ?_
        show Steps p.tables e below (T34.setTop (mkF m 123 #[.val (.int p1), .val (.int b1), .val (.int b2), .val (.int b3), .val (.int b4), .val (.int b5), .val (.ref (own_of b1 b2 b3 b4 b5 w_NONE w_BRIEF w_HIGH w_DESTRUCTIVE)), .val (.int u3)] [(.int b3)])) _
        refine XS.ifNo X34.here hx rfl (hb hby at_123) rfl ((if0 _ _).trans (feq hc123_41).1) ?_
        show Steps p.tables e below (T34.setTop (mkF m 126 #[.val (.int p1), .val (.int b1), .val (.int b2), .val (.int b3), .val (.int b4), .val (.int b5), .val (.ref (own_of b1 b2 b3 b4 b5 w_NONE w_BRIEF w_HIGH w_DESTRUCTIVE)), .val (.int u3)] [])) _
        refine XS.iload X34.here hx rfl (hb hby at_126) rfl ?_
        show Steps p.tables e below (T34.setTop (mkF m 128 #[.val (.int p1), .val (.int b1), .val (.int b2), .val (.int b3), .val (.int b4), .val (.int b5), .val (.ref (own_of b1 b2 b3 b4 b5 w_NONE w_BRIEF w_HIGH w_DESTRUCTIVE)), .val (.int u3)] [(.int u3)])) _
        refine XS.iconst X34.here hx rfl (hb hby at_128) ?_
        show Steps p.tables e below (T34.setTop (mkF m 129 #[.val (.int p1), .val (.int b1), .val (.int b2), .val (.int b3), .val (.int b4), .val (.int b5), .val (.ref (own_of b1 b2 b3 b4 b5 w_NONE w_BRIEF w_HIGH w_DESTRUCTIVE)), .val (.int u3)] [(.int (2 : Int32)), (.int u3)])) _
        refine st42 _ ?_
        show Steps p.tables e below (T42.setTop (mkF m 132 #[.val (.int p1), .val (.int b1), .val (.int b2), .val (.int b3), .val (.int b4), .val (.int b5), .val (.ref (own_of b1 b2 b3 b4 b5 w_NONE w_BRIEF w_HIGH w_DESTRUCTIVE)), .val (.int u3)] [(.int (own_max u3 (2 : Int32)))])) _
        refine XS.istore X42.here hx rfl (hb hby at_132) rfl (l' := #[.val (.int p1), .val (.int b1), .val (.int b2), .val (.int b3), .val (.int b4), .val (.int b5), .val (.ref (own_of b1 b2 b3 b4 b5 w_NONE w_BRIEF w_HIGH w_DESTRUCTIVE)), .val (.int (own_max u3 (2 : Int32)))]) rfl ?_
        exact kt⟩
  have pre43 : ∀ t, Steps p.tables e below (T39.setTop (mkF m 134 #[.val (.int p1), .val (.int b1), .val (.int b2), .val (.int b3), .val (.int b4), .val (.int b5), .val (.ref (own_of b1 b2 b3 b4 b5 w_NONE w_BRIEF w_HIGH w_DESTRUCTIVE)), .val (.int u4)] [])) t → Steps p.tables e below (s₁.setTop (entryFrame m #[(.int p1)] maxLocals)) t := fun t kt => by
    refine pre38 t ?_
    refine st39 _ ?_
    exact kt
  obtain ⟨T44, Lx44, X44, N44, e44, st44⟩ : ∃ (T' : State) (Lx : List Loc), Stand p l e room_1 s m #[(.int p1)] below meth c T' Lx 0 0 ∧ Fr n0 Lx ∧ T'.heap = h0 ∧ ∀ t, Steps p.tables e below (T'.setTop (mkF m 146 #[.val (.int p1), .val (.int b1), .val (.int b2), .val (.int b3), .val (.int b4), .val (.int b5), .val (.ref (own_of b1 b2 b3 b4 b5 w_NONE w_BRIEF w_HIGH w_DESTRUCTIVE)), .val (.int u5)] [])) t → Steps p.tables e below (T39.setTop (mkF m 134 #[.val (.int p1), .val (.int b1), .val (.int b2), .val (.int b3), .val (.int b4), .val (.int b5), .val (.ref (own_of b1 b2 b3 b4 b5 w_NONE w_BRIEF w_HIGH w_DESTRUCTIVE)), .val (.int u4)] [])) t := by
    have pre45 : ∀ t, Steps p.tables e below (T39.setTop (mkF m 135 #[.val (.int p1), .val (.int b1), .val (.int b2), .val (.int b3), .val (.int b4), .val (.int b5), .val (.ref (own_of b1 b2 b3 b4 b5 w_NONE w_BRIEF w_HIGH w_DESTRUCTIVE)), .val (.int u4)] [(.int b1)])) t → Steps p.tables e below (T39.setTop (mkF m 134 #[.val (.int p1), .val (.int b1), .val (.int b2), .val (.int b3), .val (.int b4), .val (.int b5), .val (.ref (own_of b1 b2 b3 b4 b5 w_NONE w_BRIEF w_HIGH w_DESTRUCTIVE)), .val (.int u4)] [])) t := fun t kt => by
      show Steps p.tables e below (T39.setTop (mkF m 134 #[.val (.int p1), .val (.int b1), .val (.int b2), .val (.int b3), .val (.int b4), .val (.int b5), .val (.ref (own_of b1 b2 b3 b4 b5 w_NONE w_BRIEF w_HIGH w_DESTRUCTIVE)), .val (.int u4)] [])) _
      refine XS.iloadN X39.here hx rfl (hb hby at_134) rfl ?_
      exact kt
    by_cases hc135_46 : b1 = (0 : Int32)
    · rw [show u5 = u4 from (by rw [hu5]; simp [own_bit, own_up, own_up2, hc135_46])]
      exact ⟨T39, _, X39, N39, e39, fun t kt => by
        refine pre45 t ?_
        show Steps p.tables e below (T39.setTop (mkF m 135 #[.val (.int p1), .val (.int b1), .val (.int b2), .val (.int b3), .val (.int b4), .val (.int b5), .val (.ref (own_of b1 b2 b3 b4 b5 w_NONE w_BRIEF w_HIGH w_DESTRUCTIVE)), .val (.int u4)] [(.int b1)])) _
        refine XS.ifYes X39.here hx rfl (pc0 := 135) (pc' := 146) rfl (hb hby at_135) rfl ((if0 _ _).trans (teq hc135_46).1) (by decide) (by decide) ?_
        exact kt⟩
    · obtain ⟨_, _, ⟨T47, L47, k47, n47⟩, -, X47, ⟨Lc47, hQ47, l47, y47, z47⟩, st47⟩ := Jvm.LawKit.callS X39 hx (y := (⟨"java/lang/Math", "max", "(II)I"⟩ : MethodName)) hown (mvT hZ (hw _ (List.mem_of_getElem? (i := 13) rfl))) (mvT hZ (hw _ (List.mem_of_getElem? (i := 14) rfl))) (mvT hZ (hw _ (List.mem_of_getElem? (i := 15) rfl))) (mvT hZ (hw _ (List.mem_of_getElem? (i := 16) rfl))) (by decide) (backOf (W := 0) (rmM l Z a0 hw [] u4 (3 : Int32) h0 n0 Z0) hZ (hw _ (List.mem_of_getElem? (i := 16) rfl)) (hw _ (List.mem_of_getElem? (i := 15) rfl)) (by decide) (by decide)) (g := (mkF m 141 #[.val (.int p1), .val (.int b1), .val (.int b2), .val (.int b3), .val (.int b4), .val (.int b5), .val (.ref (own_of b1 b2 b3 b4 b5 w_NONE w_BRIEF w_HIGH w_DESTRUCTIVE)), .val (.int u4)] [(.int (3 : Int32)), (.int u4)])) rfl (by rw [hml]; rfl) (argsL := [(.int u4), (.int (3 : Int32))]) (rest := []) (lenOf pd0_1 rfl) rfl (by show 2 * 0 + _ ≤ _; exact Nat.le_of_eq rfl) (hb hby at_141) (fun _ _ => ⟨rfl, e39, (by decide : 0 + 0 ≤ _), (by decide : 0 + 0 ≤ _)⟩)
      dsimp only [Pt.U, Pt.locs, Pt.cells, Pt.slots] at X47 l47 y47 z47 st47 hQ47
      subst l47 y47 z47
      obtain ⟨rfl, N47q, eh47⟩ := hQ47
      have N47 := Fr.app N39 N47q
      rw [show u5 = (own_max u4 (3 : Int32)) from (by rw [hu5]; simp [own_bit, own_up, own_up2, hc135_46])]
      exact ⟨T47, _, X47, N47, eh47, fun t kt => by
        refine pre45 t ?_
        show Steps p.tables e below (T39.setTop (mkF m 135 #[.val (.int p1), .val (.int b1), .val (.int b2), .val (.int b3), .val (.int b4), .val (.int b5), .val (.ref (own_of b1 b2 b3 b4 b5 w_NONE w_BRIEF w_HIGH w_DESTRUCTIVE)), .val (.int u4)] [(.int b1)])) _
        refine XS.ifNo X39.here hx rfl (hb hby at_135) rfl ((if0 _ _).trans (feq hc135_46).1) ?_
        show Steps p.tables e below (T39.setTop (mkF m 138 #[.val (.int p1), .val (.int b1), .val (.int b2), .val (.int b3), .val (.int b4), .val (.int b5), .val (.ref (own_of b1 b2 b3 b4 b5 w_NONE w_BRIEF w_HIGH w_DESTRUCTIVE)), .val (.int u4)] [])) _
        refine XS.iload X39.here hx rfl (hb hby at_138) rfl ?_
        show Steps p.tables e below (T39.setTop (mkF m 140 #[.val (.int p1), .val (.int b1), .val (.int b2), .val (.int b3), .val (.int b4), .val (.int b5), .val (.ref (own_of b1 b2 b3 b4 b5 w_NONE w_BRIEF w_HIGH w_DESTRUCTIVE)), .val (.int u4)] [(.int u4)])) _
        refine XS.iconst X39.here hx rfl (hb hby at_140) ?_
        show Steps p.tables e below (T39.setTop (mkF m 141 #[.val (.int p1), .val (.int b1), .val (.int b2), .val (.int b3), .val (.int b4), .val (.int b5), .val (.ref (own_of b1 b2 b3 b4 b5 w_NONE w_BRIEF w_HIGH w_DESTRUCTIVE)), .val (.int u4)] [(.int (3 : Int32)), (.int u4)])) _
        refine st47 _ ?_
        show Steps p.tables e below (T47.setTop (mkF m 144 #[.val (.int p1), .val (.int b1), .val (.int b2), .val (.int b3), .val (.int b4), .val (.int b5), .val (.ref (own_of b1 b2 b3 b4 b5 w_NONE w_BRIEF w_HIGH w_DESTRUCTIVE)), .val (.int u4)] [(.int (own_max u4 (3 : Int32)))])) _
        refine XS.istore X47.here hx rfl (hb hby at_144) rfl (l' := #[.val (.int p1), .val (.int b1), .val (.int b2), .val (.int b3), .val (.int b4), .val (.int b5), .val (.ref (own_of b1 b2 b3 b4 b5 w_NONE w_BRIEF w_HIGH w_DESTRUCTIVE)), .val (.int (own_max u4 (3 : Int32)))]) rfl ?_
        exact kt⟩
  obtain ⟨_, _, ⟨T48, L48, k48, n48⟩, -, X48, ⟨Lc48, hQ48, l48, y48, z48⟩, st48⟩ := Jvm.LawKit.callS X44 hx (y := (⟨"com/example/largo/largo/RiskOfPinLaw", "rank", "(Lcom/example/largo/largo/Risk;)I"⟩ : MethodName)) hown (mvT hZ (hw _ (List.mem_of_getElem? (i := 6) rfl))) (mvT hZ (hw _ (List.mem_of_getElem? (i := 7) rfl))) (mvT hZ (hw _ (List.mem_of_getElem? (i := 8) rfl))) (mvT hZ (hw _ (List.mem_of_getElem? (i := 9) rfl))) (by decide) (backOf (W := 0) (rmR l Z a0 hw [] (own_of b1 b2 b3 b4 b5 w_NONE w_BRIEF w_HIGH w_DESTRUCTIVE) w_NONE w_BRIEF w_HIGH w_DESTRUCTIVE h0 n0 Z0 S_NONE S_BRIEF S_HIGH S_DESTRUCTIVE) hZ (hw _ (List.mem_of_getElem? (i := 9) rfl)) (hw _ (List.mem_of_getElem? (i := 8) rfl)) (by decide) (by decide)) (g := (mkF m 148 #[.val (.int p1), .val (.int b1), .val (.int b2), .val (.int b3), .val (.int b4), .val (.int b5), .val (.ref (own_of b1 b2 b3 b4 b5 w_NONE w_BRIEF w_HIGH w_DESTRUCTIVE)), .val (.int u5)] [(.ref (own_of b1 b2 b3 b4 b5 w_NONE w_BRIEF w_HIGH w_DESTRUCTIVE))])) rfl (by rw [hml]; rfl) (argsL := [(.ref (own_of b1 b2 b3 b4 b5 w_NONE w_BRIEF w_HIGH w_DESTRUCTIVE))]) (rest := []) (lenOf pd0_2 rfl) rfl (by show 2 * 0 + _ ≤ _; exact Nat.le_of_eq rfl) (hb hby at_148) (fun _ _ => ⟨rfl, e44, (by decide : 0 + 0 ≤ _), (by decide : 0 + 0 ≤ _)⟩)
  dsimp only [Pt.U, Pt.locs, Pt.cells, Pt.slots] at X48 l48 y48 z48 st48 hQ48
  subst l48 y48 z48
  obtain ⟨rfl, N48q, eh48⟩ := hQ48
  have N48 := Fr.app N44 N48q
  obtain ⟨fs, hr, hrun, hended, hW, hsame⟩ := X48.leave (v := some (.int (1 : Int32))) (fun h => by rw [Bd.returns] at h; cases h)
  refine ⟨_, _, pre43 _ ?_, hrun, hended, _, _, rfl, ?_, ⟨_, rfl⟩, hW, hsame.mono (by decide) (by decide)⟩
  · refine st44 _ ?_
    show Steps p.tables e below (T44.setTop (mkF m 146 #[.val (.int p1), .val (.int b1), .val (.int b2), .val (.int b3), .val (.int b4), .val (.int b5), .val (.ref (own_of b1 b2 b3 b4 b5 w_NONE w_BRIEF w_HIGH w_DESTRUCTIVE)), .val (.int u5)] [])) _
    refine XS.aload X44.here hx rfl (hb hby at_146) rfl rfl ?_
    show Steps p.tables e below (T44.setTop (mkF m 148 #[.val (.int p1), .val (.int b1), .val (.int b2), .val (.int b3), .val (.int b4), .val (.int b5), .val (.ref (own_of b1 b2 b3 b4 b5 w_NONE w_BRIEF w_HIGH w_DESTRUCTIVE)), .val (.int u5)] [(.ref (own_of b1 b2 b3 b4 b5 w_NONE w_BRIEF w_HIGH w_DESTRUCTIVE))])) _
    refine st48 _ ?_
    show Steps p.tables e below (T48.setTop (mkF m 151 #[.val (.int p1), .val (.int b1), .val (.int b2), .val (.int b3), .val (.int b4), .val (.int b5), .val (.ref (own_of b1 b2 b3 b4 b5 w_NONE w_BRIEF w_HIGH w_DESTRUCTIVE)), .val (.int u5)] [(.int (own_rank (own_of b1 b2 b3 b4 b5 w_NONE w_BRIEF w_HIGH w_DESTRUCTIVE) w_NONE w_BRIEF w_HIGH w_DESTRUCTIVE))])) _
    refine XS.iload X48.here hx rfl (hb hby at_151) rfl ?_
    show Steps p.tables e below (T48.setTop (mkF m 153 #[.val (.int p1), .val (.int b1), .val (.int b2), .val (.int b3), .val (.int b4), .val (.int b5), .val (.ref (own_of b1 b2 b3 b4 b5 w_NONE w_BRIEF w_HIGH w_DESTRUCTIVE)), .val (.int u5)] [(.int u5), (.int (own_rank (own_of b1 b2 b3 b4 b5 w_NONE w_BRIEF w_HIGH w_DESTRUCTIVE) w_NONE w_BRIEF w_HIGH w_DESTRUCTIVE))])) _
    refine XS.icmpNo X48.here hx rfl (hb hby at_153) rfl (teq fin).2 ?_
    show Steps p.tables e below (T48.setTop (mkF m 156 #[.val (.int p1), .val (.int b1), .val (.int b2), .val (.int b3), .val (.int b4), .val (.int b5), .val (.ref (own_of b1 b2 b3 b4 b5 w_NONE w_BRIEF w_HIGH w_DESTRUCTIVE)), .val (.int u5)] [])) _
    refine XS.iconst X48.here hx rfl (hb hby at_156) ?_
    show Steps p.tables e below (T48.setTop (mkF m 157 #[.val (.int p1), .val (.int b1), .val (.int b2), .val (.int b3), .val (.int b4), .val (.int b5), .val (.ref (own_of b1 b2 b3 b4 b5 w_NONE w_BRIEF w_HIGH w_DESTRUCTIVE)), .val (.int u5)] [(.int (1 : Int32))])) _
    refine XS.goto X48.here hx rfl (pc0 := 157) (pc' := 161) rfl (hb hby at_157) (by decide) (by decide) ?_
    show Steps p.tables e below (T48.setTop (mkF m 161 #[.val (.int p1), .val (.int b1), .val (.int b2), .val (.int b3), .val (.int b4), .val (.int b5), .val (.ref (own_of b1 b2 b3 b4 b5 w_NONE w_BRIEF w_HIGH w_DESTRUCTIVE)), .val (.int u5)] [(.int (1 : Int32))])) _
    exact retN X48 hx (t := .boolean) Bd.returns (by simp) (hb hby at_161) hr
  · show Q0 h0 n0 _ T48.heap _
    rw [eh48]
    exact ⟨rfl, N48⟩
set_option maxRecDepth 65536 in
set_option maxHeartbeats 40000000 in
theorem comes_1 {Post : Tables → Env → Array Value → State → Outcome → State → Prop} (hpost : ∀ tb e args s v u, (limb_1_1.after args s (.returned v) u = true ∧ limb_1_2.after args s (.returned v) u = true ∧ True) → FrameEnd s (.returned v) u (Jvm.fieldLocs frame_1_writes args s ++ Jvm.arrayLocs frame_1_arrays args s ++ Jvm.staticLocs frame_1_statics s) 0 0 → Post tb e args s (.returned v) u) :
    ArmFor flags0 classFile x code maxLocals ret World_1 tables_1 room_1 Calls_1 rest_1 Pre_1 Post := by
  intro l hfl _ _ p e ha hc hk s m args below hf hA hF happ hP
  obtain ⟨hcalls, hrest, hpre⟩ := hP
  obtain ⟨-, -, -, hnamed, -, -, -, hat⟩ := (Spec.applies_iff hf).mp happ
  obtain ⟨hg, hn⟩ := and_e (Cond.before_iff.mp (show (Jvm.Cond.and given_1 narrow_1).before args s = true from hpre))
  obtain ⟨hcnt, ha0⟩ := and_e hg
  obtain ⟨w0, rfl⟩ : ∃ w0 : Value, args = #[w0] := by
    have hs : args.size = 1 := by simpa [Cond.value, given_1] using hcnt
    obtain ⟨L⟩ := args
    match L, hs with
    | [w0], _ => exact ⟨w0, rfl⟩
  have hw := fun d (hd : d ∈ tables_1) => atoms_spec (ws := Jvm.Cond.code x code maxLocals ret :: tables_1) hat d (List.mem_cons_of_mem _ hd)
  obtain ⟨i0, ei0⟩ := is_v ha0
  obtain rfl : w0 = (.int i0) := Option.some.inj ei0
  obtain ⟨hg0, hr0⟩ := and_e hn
  obtain ⟨w_NONE, ev_NONE⟩ := exa_v hg0
  have E_NONE : Exa s s.heap w_NONE "com/example/largo/largo/Risk" := Exa.start ev_NONE hg0
  have S_NONE : Sta s s.heap "com/example/largo/largo/Risk" "NONE" "Lcom/example/largo/largo/Risk;" (.ref w_NONE) := Sta.start ev_NONE (Or.inr ⟨(hw _ (List.mem_of_getElem? (i := 2) rfl)), (hw _ (List.mem_of_getElem? (i := 5) rfl))⟩)
  obtain ⟨hg1, hr1⟩ := and_e hr0
  obtain ⟨w_DESTRUCTIVE, ev_DESTRUCTIVE⟩ := exa_v hg1
  have E_DESTRUCTIVE : Exa s s.heap w_DESTRUCTIVE "com/example/largo/largo/Risk" := Exa.start ev_DESTRUCTIVE hg1
  have S_DESTRUCTIVE : Sta s s.heap "com/example/largo/largo/Risk" "DESTRUCTIVE" "Lcom/example/largo/largo/Risk;" (.ref w_DESTRUCTIVE) := Sta.start ev_DESTRUCTIVE (Or.inr ⟨(hw _ (List.mem_of_getElem? (i := 2) rfl)), (hw _ (List.mem_of_getElem? (i := 12) rfl))⟩)
  obtain ⟨hg2, hr2⟩ := and_e hr1
  have O_ordinal_DESTRUCTIVE : Fld s s.heap w_DESTRUCTIVE "java/lang/Enum" "ordinal" "I" (.int (3 : Int32)) := own_fld ev_DESTRUCTIVE hg2
  obtain ⟨hg3, hr3⟩ := and_e hr2
  have O_ordinal_NONE : Fld s s.heap w_NONE "java/lang/Enum" "ordinal" "I" (.int (0 : Int32)) := own_fld ev_NONE hg3
  obtain ⟨hg4, hr4⟩ := and_e hr3
  obtain ⟨w_BRIEF, ev_BRIEF⟩ := exa_v hg4
  have E_BRIEF : Exa s s.heap w_BRIEF "com/example/largo/largo/Risk" := Exa.start ev_BRIEF hg4
  have S_BRIEF : Sta s s.heap "com/example/largo/largo/Risk" "BRIEF" "Lcom/example/largo/largo/Risk;" (.ref w_BRIEF) := Sta.start ev_BRIEF (Or.inr ⟨(hw _ (List.mem_of_getElem? (i := 2) rfl)), (hw _ (List.mem_of_getElem? (i := 18) rfl))⟩)
  obtain ⟨hg5, hr5⟩ := and_e hr4
  have O_ordinal_BRIEF : Fld s s.heap w_BRIEF "java/lang/Enum" "ordinal" "I" (.int (1 : Int32)) := own_fld ev_BRIEF hg5
  obtain ⟨hg6, hr6⟩ := and_e hr5
  obtain ⟨w_HIGH, ev_HIGH⟩ := exa_v hg6
  have E_HIGH : Exa s s.heap w_HIGH "com/example/largo/largo/Risk" := Exa.start ev_HIGH hg6
  have S_HIGH : Sta s s.heap "com/example/largo/largo/Risk" "HIGH" "Lcom/example/largo/largo/Risk;" (.ref w_HIGH) := Sta.start ev_HIGH (Or.inr ⟨(hw _ (List.mem_of_getElem? (i := 2) rfl)), (hw _ (List.mem_of_getElem? (i := 20) rfl))⟩)
  have O_ordinal_HIGH : Fld s s.heap w_HIGH "java/lang/Enum" "ordinal" "I" (.int (2 : Int32)) := own_fld ev_HIGH hr6
  obtain ⟨n, o, h1, h2, h3, _, L, rfl, ⟨rfl, N⟩, hq⟩ := rm0 l s _ hw tables_1 i0 w_NONE w_BRIEF w_HIGH w_DESTRUCTIVE s.heap s.heap.size (Nat.le_refl _) S_NONE S_BRIEF S_HIGH S_DESTRUCTIVE O_ordinal_NONE O_ordinal_BRIEF O_ordinal_HIGH O_ordinal_DESTRUCTIVE p e ha hc hk s m _ below hf ((Spec.applies_iff_loose hf).mp happ).1 ⟨rfl, State.Warmed39.refl s, rfl⟩ trivial
  refine ⟨n, _, h1, h2, h3, hpost _ _ _ _ _ _ ⟨Cond.after_iff.mpr rfl, Cond.after_iff.mpr (eq_i res_at (Term.int_eval (1)) rfl), trivial⟩ ⟨hq.1, hq.2.1, (hq.2.2.sift fun y hy => Or.inr (N y hy)).mono (by decide) (by decide)⟩⟩
theorem main_1_1 : Claimed_1_1 := comes_1 fun _ _ _ _ _ _ h hF => ⟨h.1, hF⟩
theorem main_1_2 : Claimed_1_2 := comes_1 fun _ _ _ _ _ _ h hF => ⟨h.2.1, hF⟩
end Jvm.Pilot.@@N@@
namespace Jvm.Pilot.@@N@@
open Jvm Jvm.ClassFile Sem Op Lib Jvm.Free Jvm.Stand Jvm.Pilot.@@N@@.Jvm.D
/-! MADE BY PROGRAM (witnessworld.py) out of the Statement's table words and the real class files: 13 classes; the members and pool entries that the words name. The judged class is class 1, her method 1. -/
namespace start1
open Jvm.ClassFile
def u (s : String) : CpInfo := .utf8 (stringToUtf16 s)
/-- a pool by its gaps: so many unusable entries, then the entry; so many at the end -/
def gap : Nat → List CpInfo → List CpInfo
  | 0, r => r
  | n + 1, r => .unusable :: gap n r
def poolList (es : List (Nat × CpInfo)) (last : Nat) : List CpInfo := es.foldr (fun e r => gap e.1 (e.2 :: r)) (gap last [])
def pool (es : List (Nat × CpInfo)) (last : Nat) : Array CpInfo := ⟨poolList es last⟩
def fileOf (pool : Array CpInfo) (this : Nat) (attrs : Array Attribute := #[]) (ms : Array MethodInfo := #[]) (fl : Nat := 33) (sup : Nat := 0) (ifs : Array Nat := #[]) (fds : Array FieldInfo := #[]) : ClassFile where
  minorVersion := 0
  majorVersion := 65
  constantPool := pool
  accessFlags := fl
  thisClass := this
  superClass := sup
  interfaces := ifs
  fields := fds
  methods := ms
  attributes := attrs
def plain (name : String) (sup : Option ClassId) : Class where
  name := name
  kind := .ordinary
  loader := none
  accessFlags := 33
  super := sup
  interfaces := #[]
  cf := none
  fields := #[]
  methods := #[]
  instanceTypes := #[]
  staticTypes := #[]
  resolved := #[]
  callSites := []
  init := .initialized
  statics := none
  mirror := none

def pool0 : Array CpInfo := pool [(5, u "<init>"), (0, u "()V"), (1, .class_ 10), (1, u "java/lang/Object")] 113

def k0m0 : Method := { name := "<init>", desc := "()V", sig := { parameters := [], returnType := none }, accessFlags := 1, code := none }
/-- java/lang/Object -/
def k0 : Class := { plain "java/lang/Object" none with
  accessFlags := 33
  interfaces := #[]
  cf := some (fileOf pool0 8 #[] #[{ accessFlags := 1, nameIndex := 5, descriptorIndex := 6, attributes := #[] }] 33 0 #[] #[])
  fields := #[]
  methods := #[k0m0]
  instanceTypes := #[]
  staticTypes := #[]
  resolved := Array.replicate 124 none
  statics := none }

def pool1 : Array CpInfo := pool [(2, .class_ 4), (1, u "java/lang/Object"), (0, u "<init>"), (0, u "()V"), (0, .methodref 8 9), (0, .class_ 10), (0, .nameAndType 11 12), (0, u "com/example/largo/largo/Risk"), (0, u "of"), (0, u "(ZZZZZ)Lcom/example/largo/largo/Risk;"), (0, .methodref 14 15), (0, .class_ 16), (0, .nameAndType 17 18), (0, u "java/lang/Math"), (0, u "max"), (0, u "(II)I"), (0, .methodref 20 21), (0, .class_ 22), (0, .nameAndType 23 24), (0, u "com/example/largo/largo/RiskOfPinLaw"), (0, u "rank"), (0, u "(Lcom/example/largo/largo/Risk;)I"), (0, .fieldref 8 26), (0, .nameAndType 27 28), (0, u "NONE"), (0, u "Lcom/example/largo/largo/Risk;"), (0, .fieldref 8 30), (0, .nameAndType 31 28), (0, u "BRIEF"), (0, .fieldref 8 33), (0, .nameAndType 34 28), (0, u "HIGH"), (0, .fieldref 8 36), (0, .nameAndType 37 28), (0, u "DESTRUCTIVE"), (2, u "law"), (0, u "(I)Z")] 3

def k1m0 : Method := { name := "<init>", desc := "()V", sig := { parameters := [], returnType := none }, accessFlags := 1, code := none }
def k1c1 : Code := { maxStack := 5, maxLocals := 8, code := code, exceptionTable := #[], attributes := #[] }
def k1m1 : Method := { name := "law", desc := "(I)Z", sig := { parameters := [.int], returnType := some .boolean }, accessFlags := 9, code := some k1c1 }
def k1c2 : Code := { maxStack := 2, maxLocals := 1, code := method_3_code, exceptionTable := #[], attributes := #[] }
def k1m2 : Method := { name := "rank", desc := "(Lcom/example/largo/largo/Risk;)I", sig := { parameters := [(.object "com/example/largo/largo/Risk")], returnType := some .int }, accessFlags := 10, code := some k1c2 }
/-- com/example/largo/largo/RiskOfPinLaw -/
def k1 : Class := { plain "com/example/largo/largo/RiskOfPinLaw" (some 0) with
  accessFlags := 49
  interfaces := #[]
  cf := some (fileOf pool1 20 #[] #[{ accessFlags := 1, nameIndex := 5, descriptorIndex := 6, attributes := #[] }, { accessFlags := 9, nameIndex := 40, descriptorIndex := 41, attributes := #[] }, { accessFlags := 10, nameIndex := 23, descriptorIndex := 24, attributes := #[] }] 49 2 #[] #[])
  fields := #[]
  methods := #[k1m0, k1m1, k1m2]
  instanceTypes := #[]
  staticTypes := #[]
  resolved := Array.replicate 45 none
  statics := none }

def pool2 : Array CpInfo := pool [(1, .class_ 2), (0, u "java/lang/constant/Constable"), (0, .class_ 4), (0, u "java/lang/Object")] 6

/-- java/lang/constant/Constable -/
def k2 : Class := { plain "java/lang/constant/Constable" (some 0) with
  accessFlags := 1537
  interfaces := #[]
  cf := some (fileOf pool2 1 #[] #[] 1537 3 #[] #[])
  fields := #[]
  methods := #[]
  instanceTypes := #[]
  staticTypes := #[]
  resolved := Array.replicate 11 none
  statics := none }

def pool3 : Array CpInfo := pool [(1, .class_ 2), (0, u "java/lang/Comparable"), (0, .class_ 4), (0, u "java/lang/Object")] 7

/-- java/lang/Comparable -/
def k3 : Class := { plain "java/lang/Comparable" (some 0) with
  accessFlags := 1537
  interfaces := #[]
  cf := some (fileOf pool3 1 #[] #[] 1537 3 #[] #[])
  fields := #[]
  methods := #[]
  instanceTypes := #[]
  staticTypes := #[]
  resolved := Array.replicate 12 none
  statics := none }

def pool4 : Array CpInfo := pool [(1, .class_ 2), (0, u "java/io/Serializable"), (0, .class_ 4), (0, u "java/lang/Object")] 2

/-- java/io/Serializable -/
def k4 : Class := { plain "java/io/Serializable" (some 0) with
  accessFlags := 1537
  interfaces := #[]
  cf := some (fileOf pool4 1 #[] #[] 1537 3 #[] #[])
  fields := #[]
  methods := #[]
  instanceTypes := #[]
  staticTypes := #[]
  resolved := Array.replicate 7 none
  statics := none }

def pool5 : Array CpInfo := pool [(2, .class_ 4), (1, u "java/lang/Enum"), (0, u "name"), (0, u "Ljava/lang/String;"), (2, u "ordinal"), (0, u "I"), (1, .class_ 14), (1, u "java/lang/Object"), (4, u "hash"), (86, .class_ 108), (1, u "java/lang/Enum$EnumDesc"), (2, .class_ 112), (0, u "java/lang/constant/Constable"), (0, .class_ 114), (0, u "java/lang/Comparable"), (0, .class_ 116), (0, u "java/io/Serializable")] 87

/-- java/lang/Enum -/
def k5 : Class := { plain "java/lang/Enum" (some 0) with
  accessFlags := 1057
  interfaces := #[2, 3, 4]
  cf := some (fileOf pool5 2 #[.nestMembers #[106]] #[] 1057 12 #[111, 113, 115] #[{ accessFlags := 18, nameIndex := 5, descriptorIndex := 6, attributes := #[] }, { accessFlags := 18, nameIndex := 9, descriptorIndex := 10, attributes := #[] }, { accessFlags := 2, nameIndex := 19, descriptorIndex := 10, attributes := #[] }])
  fields := #[{ name := "name", type := (.object "java/lang/String"), accessFlags := 18, slot := 0, constantValue := 0 }, { name := "ordinal", type := .int, accessFlags := 18, slot := 1, constantValue := 0 }, { name := "hash", type := .int, accessFlags := 2, slot := 2, constantValue := 0 }]
  methods := #[]
  instanceTypes := #[(.object "java/lang/String"), .int, .int]
  staticTypes := #[]
  resolved := Array.replicate 204 none
  statics := none }

def pool6 : Array CpInfo := pool [(1, .class_ 2), (0, u "com/example/largo/largo/Risk"), (0, .fieldref 1 4), (0, .nameAndType 5 6), (0, u "NONE"), (0, u "Lcom/example/largo/largo/Risk;"), (0, .fieldref 1 8), (0, .nameAndType 9 6), (0, u "BRIEF"), (0, .fieldref 1 11), (0, .nameAndType 12 6), (0, u "HIGH"), (0, .fieldref 1 14), (0, .nameAndType 15 6), (0, u "DESTRUCTIVE"), (2, u "$VALUES"), (0, u "[Lcom/example/largo/largo/Risk;"), (6, .class_ 28), (1, u "java/lang/Enum"), (60, u "of"), (0, u "(ZZZZZ)Lcom/example/largo/largo/Risk;")] 24

def k6c0 : Code := { maxStack := 1, maxLocals := 6, code := prog_98_method_4_code, exceptionTable := #[], attributes := #[] }
def k6m0 : Method := { name := "of", desc := "(ZZZZZ)Lcom/example/largo/largo/Risk;", sig := { parameters := [.boolean, .boolean, .boolean, .boolean, .boolean], returnType := some (.object "com/example/largo/largo/Risk") }, accessFlags := 8, code := some k6c0 }
/-- com/example/largo/largo/Risk -/
def k6 : Class := { plain "com/example/largo/largo/Risk" (some 5) with
  accessFlags := 16432
  interfaces := #[]
  cf := some (fileOf pool6 1 #[] #[{ accessFlags := 8, nameIndex := 89, descriptorIndex := 90, attributes := #[] }] 16432 26 #[] #[{ accessFlags := 16409, nameIndex := 5, descriptorIndex := 6, attributes := #[] }, { accessFlags := 16409, nameIndex := 9, descriptorIndex := 6, attributes := #[] }, { accessFlags := 16409, nameIndex := 12, descriptorIndex := 6, attributes := #[] }, { accessFlags := 16409, nameIndex := 15, descriptorIndex := 6, attributes := #[] }, { accessFlags := 4122, nameIndex := 18, descriptorIndex := 19, attributes := #[] }])
  fields := #[{ name := "NONE", type := (.object "com/example/largo/largo/Risk"), accessFlags := 16409, slot := 0, constantValue := 0 }, { name := "BRIEF", type := (.object "com/example/largo/largo/Risk"), accessFlags := 16409, slot := 1, constantValue := 0 }, { name := "HIGH", type := (.object "com/example/largo/largo/Risk"), accessFlags := 16409, slot := 2, constantValue := 0 }, { name := "DESTRUCTIVE", type := (.object "com/example/largo/largo/Risk"), accessFlags := 16409, slot := 3, constantValue := 0 }, { name := "$VALUES", type := (.array (.object "com/example/largo/largo/Risk")), accessFlags := 4122, slot := 4, constantValue := 0 }]
  methods := #[k6m0]
  instanceTypes := #[(.object "java/lang/String"), .int, .int]
  staticTypes := #[(.object "com/example/largo/largo/Risk"), (.object "com/example/largo/largo/Risk"), (.object "com/example/largo/largo/Risk"), (.object "com/example/largo/largo/Risk"), (.array (.object "com/example/largo/largo/Risk"))]
  resolved := Array.replicate 115 none
  statics := some 0 }

def pool7 : Array CpInfo := pool [(1, .class_ 2), (0, u "java/lang/Math"), (1, .class_ 6), (1, u "java/lang/Object"), (0, u "<init>"), (0, u "()V"), (89, .class_ 100), (1, u "java/lang/Math$RandomNumberGeneratorHolder"), (71, u "negativeZeroFloatBits"), (0, u "J"), (2, u "negativeZeroDoubleBits"), (21, u "max"), (46, u "$assertionsDisabled"), (0, u "Z"), (88, u "(II)I"), (2, u "twoToTheDoubleScaleDown"), (0, u "D"), (4, u "twoToTheDoubleScaleUp"), (9, u "E"), (3, u "PI"), (2, u "TAU"), (2, u "DEGREES_TO_RADIANS"), (0, u "RADIANS_TO_DEGREES")] 94

def k7m0 : Method := { name := "<init>", desc := "()V", sig := { parameters := [], returnType := none }, accessFlags := 2, code := none }
def k7c1 : Code := { maxStack := 2, maxLocals := 2, code := jdk_29_method_65_code, exceptionTable := #[], attributes := #[] }
def k7m1 : Method := { name := "max", desc := "(II)I", sig := { parameters := [.int, .int], returnType := some .int }, accessFlags := 9, code := some k7c1 }
/-- java/lang/Math -/
def k7 : Class := { plain "java/lang/Math" (some 0) with
  accessFlags := 49
  interfaces := #[]
  cf := some (fileOf pool7 1 #[.nestMembers #[98]] #[{ accessFlags := 2, nameIndex := 7, descriptorIndex := 8, attributes := #[] }, { accessFlags := 9, nameIndex := 198, descriptorIndex := 335, attributes := #[] }] 49 4 #[] #[{ accessFlags := 25, nameIndex := 354, descriptorIndex := 339, attributes := #[] }, { accessFlags := 25, nameIndex := 358, descriptorIndex := 339, attributes := #[] }, { accessFlags := 25, nameIndex := 361, descriptorIndex := 339, attributes := #[] }, { accessFlags := 26, nameIndex := 364, descriptorIndex := 339, attributes := #[] }, { accessFlags := 26, nameIndex := 365, descriptorIndex := 339, attributes := #[] }, { accessFlags := 26, nameIndex := 172, descriptorIndex := 173, attributes := #[] }, { accessFlags := 26, nameIndex := 176, descriptorIndex := 173, attributes := #[] }, { accessFlags := 8, nameIndex := 344, descriptorIndex := 339, attributes := #[] }, { accessFlags := 8, nameIndex := 338, descriptorIndex := 339, attributes := #[] }, { accessFlags := 4120, nameIndex := 245, descriptorIndex := 246, attributes := #[] }])
  fields := #[{ name := "E", type := .double, accessFlags := 25, slot := 0, constantValue := 0 }, { name := "PI", type := .double, accessFlags := 25, slot := 1, constantValue := 0 }, { name := "TAU", type := .double, accessFlags := 25, slot := 2, constantValue := 0 }, { name := "DEGREES_TO_RADIANS", type := .double, accessFlags := 26, slot := 3, constantValue := 0 }, { name := "RADIANS_TO_DEGREES", type := .double, accessFlags := 26, slot := 4, constantValue := 0 }, { name := "negativeZeroFloatBits", type := .long, accessFlags := 26, slot := 5, constantValue := 0 }, { name := "negativeZeroDoubleBits", type := .long, accessFlags := 26, slot := 6, constantValue := 0 }, { name := "twoToTheDoubleScaleUp", type := .double, accessFlags := 8, slot := 7, constantValue := 0 }, { name := "twoToTheDoubleScaleDown", type := .double, accessFlags := 8, slot := 8, constantValue := 0 }, { name := "$assertionsDisabled", type := .boolean, accessFlags := 4120, slot := 9, constantValue := 0 }]
  methods := #[k7m0, k7m1]
  instanceTypes := #[]
  staticTypes := #[.double, .double, .double, .double, .double, .long, .long, .double, .double, .boolean]
  resolved := Array.replicate 460 none
  statics := none }

def pool8 : Array CpInfo := pool [(1, u "java/lang/Cloneable"), (0, .class_ 1), (0, u "java/lang/Object"), (0, .class_ 3)] 3

/-- java/lang/Cloneable -/
def k8 : Class := { plain "java/lang/Cloneable" (some 0) with
  accessFlags := 1537
  interfaces := #[]
  cf := some (fileOf pool8 2 #[] #[] 1537 4 #[] #[])
  fields := #[]
  methods := #[]
  instanceTypes := #[]
  staticTypes := #[]
  resolved := Array.replicate 8 none
  statics := none }

/-- the primitive byte -/
def k9 : Class := { plain "byte" none with kind := .primitive 'B', accessFlags := 0x411 }
/-- [B -/
def k10 : Class := { plain "[B" (some 0) with kind := .array 9 .byte, interfaces := #[8, 4], accessFlags := 1041 }

/-- the primitive int -/
def k11 : Class := { plain "int" none with kind := .primitive 'I', accessFlags := 0x411 }
/-- [I -/
def k12 : Class := { plain "[I" (some 0) with kind := .array 11 .int, interfaces := #[8, 4], accessFlags := 1041 }

def heap : Heap := #[{ cls := 6, slots := #[.ref 1, .ref 3, .ref 4, .ref 2, .null], vm := .statics 6 },
  { cls := 6, slots := #[.null, .int 0, .int 0], vm := .none },
  { cls := 6, slots := #[.null, .int 3, .int 0], vm := .none },
  { cls := 6, slots := #[.null, .int 1, .int 0], vm := .none },
  { cls := 6, slots := #[.null, .int 2, .int 0], vm := .none }]
def classes : Array Class := #[k0, k1, k2, k3, k4, k5, k6, k7, k8, k9, k10, k11, k12]
def interned : List (Array UInt16 × Addr) := []
def slotsUsed : Nat := 17
def theMethod : MethodId := ⟨1, 1⟩
def args0 : Array Value := #[.int 7]
def aboutOver (below : List Frame) : State where
  vm := { classes := classes, interned := interned.toArray }
  heap := heap
  slotsUsed := slotsUsed
  threads := #[{ frames := .invoking theMethod args0 :: below }]
def below0 : List Frame := [.native { method := ⟨0, 0⟩, args := #[] }]
def about1 : State := aboutOver below0
def p0 : Program := .bare "" "" ""
def e0 : Env := launch0.env 0 0 0
theorem w_frames : about1.frames = Frame.invoking theMethod args0 :: below0 := rfl
set_option maxRecDepth 65536 in
theorem w_args : argsFit about1.vm theMethod args0 = true := by decide +kernel
set_option maxRecDepth 65536 in
theorem w_heap : heapFits about1 = true := by decide +kernel
set_option maxRecDepth 65536 in
theorem w_runnable : about1.curStatus? = some .runnable := by decide +kernel
set_option maxRecDepth 65536 in
theorem w_alone : about1.alone = true := by decide +kernel
set_option maxRecDepth 65536 in
theorem w_named : about1.methodNamed? x = some theMethod := by decide +kernel
set_option maxRecDepth 65536 in
theorem w_hears : about1.hears theMethod below0 = true := by decide +kernel
set_option maxRecDepth 65536 in
theorem w_ripe : about1.ripe theMethod args0 below0 = true := by decide +kernel
theorem w_running : about1.status = .running := rfl
set_option maxRecDepth 65536 in
theorem w_room : about1.hasRoom e0.platform room_1 = true :=
  launch0.hasRoom_least _ room_1 (by decide +kernel) (by decide +kernel) (by decide +kernel) (by decide +kernel) (by decide +kernel) (by decide +kernel)
theorem allAtoms_all (ts : List Jvm.Cond) (a : Array Jvm.Value) (st : Jvm.State) : (allAtoms ts).before a st = ts.all (fun c => c.before a st) := by
  induction ts with
  | nil => rfl
  | cons c t ih =>
    show (Jvm.Cond.and c (allAtoms t)).before a st = _
    rw [Jvm.Cond.before_and, ih, List.all_cons]
def words1 : List Jvm.Cond := Jvm.Cond.code x code maxLocals ret :: tables_1
/-- a 'code' word, met by the world's own term for the bytes: nothing is compared byte by byte -/
theorem code_word {y : MethodName} {bytes : ByteArray} {mx : Nat} {rt : Option FieldType} {a : Array Value} {s : State} {m : MethodId} {meth : Method} {c : Code} (h1 : s.methodNamed? y = some m) (h2 : s.vm.method? m = some meth) (h3 : meth.code = some c) (h4 : c.code = bytes)
    (h5 : (c.maxLocals == mx && c.exceptionTable.isEmpty && decide (c.maxStack ≤ mostOperands) && decide (meth.sig.returnType = rt) && !meth.locks && decide (parseMethodDescriptor y.desc = some meth.sig)) = true) : (Jvm.Cond.code y bytes mx rt).before a s = true := by
  simp only [Bool.and_eq_true, beq_iff_eq, Bool.not_eq_true', decide_eq_true_eq] at h5
  obtain ⟨⟨⟨⟨⟨g1, g2⟩, g3⟩, g4⟩, g5⟩, g6⟩ := h5
  simp [Cond.before, Cond.holds, Cond.value, h1, h2, h3, h4, g1, g2, g3, g4, g5, g6]
def isCode : Jvm.Cond → Bool
  | .code _ _ _ _ => true
  | _ => false
theorem all_split {L : List Jvm.Cond} {P : Jvm.Cond → Bool} (h1 : L.all (fun c => isCode c || P c) = true) (h2 : ∀ c ∈ L.filter isCode, P c = true) : L.all P = true := by
  refine List.all_eq_true.mpr fun c hc => ?_
  have h := List.all_eq_true.mp h1 c hc
  rcases Bool.eq_false_or_eq_true (isCode c) with hi | hi
  · exact h2 c (List.mem_filter.mpr ⟨hc, hi⟩)
  · simpa [hi] using h
set_option maxRecDepth 65536 in
theorem w_c0 : (Jvm.Cond.code x code maxLocals ret).before args0 about1 = true := code_word (m := ⟨1, 1⟩) (meth := k1m1) (c := k1c1) (by decide +kernel) rfl rfl rfl (by decide +kernel)
set_option maxRecDepth 65536 in
theorem w_c1 : (Jvm.Cond.code ({ cls := "com/example/largo/largo/Risk", name := "of", desc := "(ZZZZZ)Lcom/example/largo/largo/Risk;" } : Jvm.MethodName) prog_98_method_4_code (6 : Nat) (Option.some (Jvm.ClassFile.FieldType.object "com/example/largo/largo/Risk"))).before args0 about1 = true := code_word (m := ⟨6, 0⟩) (meth := k6m0) (c := k6c0) (by decide +kernel) rfl rfl rfl (by decide +kernel)
set_option maxRecDepth 65536 in
theorem w_c2 : (Jvm.Cond.code ({ cls := "com/example/largo/largo/RiskOfPinLaw", name := "rank", desc := "(Lcom/example/largo/largo/Risk;)I" } : Jvm.MethodName) method_3_code (1 : Nat) (Option.some Jvm.ClassFile.FieldType.int)).before args0 about1 = true := code_word (m := ⟨1, 2⟩) (meth := k1m2) (c := k1c2) (by decide +kernel) rfl rfl rfl (by decide +kernel)
set_option maxRecDepth 65536 in
theorem w_c3 : (Jvm.Cond.code ({ cls := "java/lang/Math", name := "max", desc := "(II)I" } : Jvm.MethodName) jdk_29_method_65_code (2 : Nat) (Option.some Jvm.ClassFile.FieldType.int)).before args0 about1 = true := code_word (m := ⟨7, 1⟩) (meth := k7m1) (c := k7c1) (by decide +kernel) rfl rfl rfl (by decide +kernel)
def codes1 : List Jvm.Cond := [Jvm.Cond.code x code maxLocals ret, Jvm.Cond.code ({ cls := "com/example/largo/largo/Risk", name := "of", desc := "(ZZZZZ)Lcom/example/largo/largo/Risk;" } : Jvm.MethodName) prog_98_method_4_code (6 : Nat) (Option.some (Jvm.ClassFile.FieldType.object "com/example/largo/largo/Risk")), Jvm.Cond.code ({ cls := "com/example/largo/largo/RiskOfPinLaw", name := "rank", desc := "(Lcom/example/largo/largo/Risk;)I" } : Jvm.MethodName) method_3_code (1 : Nat) (Option.some Jvm.ClassFile.FieldType.int), Jvm.Cond.code ({ cls := "java/lang/Math", name := "max", desc := "(II)I" } : Jvm.MethodName) jdk_29_method_65_code (2 : Nat) (Option.some Jvm.ClassFile.FieldType.int)]
set_option maxRecDepth 65536 in
theorem codes_eq : words1.filter isCode = codes1 := rfl
theorem w_codes : ∀ c ∈ words1.filter isCode, c.before args0 about1 = true := by
  rw [codes_eq]
  intro c hc
  simp only [codes1, List.mem_cons, List.not_mem_nil, or_false] at hc
  rcases hc with rfl | rfl | rfl | rfl
  · exact w_c0
  · exact w_c1
  · exact w_c2
  · exact w_c3
set_option maxRecDepth 65536 in
theorem w_t1 : (words1.take 24).all (fun c => isCode c || c.before args0 about1) = true := by decide +kernel
set_option maxRecDepth 65536 in
theorem w_t2 : (words1.drop 24).all (fun c => isCode c || c.before args0 about1) = true := by decide +kernel
theorem w_tables : (allAtoms (Jvm.Cond.code x code maxLocals ret :: tables_1)).before args0 about1 = true := by
  rw [allAtoms_all]
  show words1.all (fun c => c.before args0 about1) = true
  refine all_split ?_ w_codes
  rw [← List.take_append_drop 24 words1, List.all_append, w_t1, w_t2]
  rfl
set_option maxRecDepth 65536 in
theorem w_case : (Jvm.Cond.and given_1 narrow_1).before args0 about1 = true := by decide +kernel
theorem w_applies : (headSpec (Jvm.Cond.code x code maxLocals ret :: tables_1) room_1).applies x e0.platform about1 = true :=
  (Spec.applies_iff w_frames).mpr ⟨w_running, w_runnable, w_alone, w_named, w_hears, w_ripe, w_room, w_tables⟩
theorem atStart : AtStart classFile x code maxLocals ret World_1 tables_1 room_1 Calls_1 rest_1 Pre_1 launch0 p0 e0 about1 theMethod args0 below0 :=
  ⟨lists_1, trivial, launch0.admits_env _ _ _, launch0.least_env, fairChoices_fair.cas, fairChoices_fair.clock, w_frames, w_args, w_heap, w_applies, trivial, trivial, w_case⟩
end start1
theorem witness_1 : WitnessClaimed_1 := ⟨start1.p0, start1.e0, start1.about1, start1.theMethod, start1.args0, start1.below0, start1.atStart⟩
end Jvm.Pilot.@@N@@
