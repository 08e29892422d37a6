import JvmDerived
import JvmDerived.Pilot.@@N@@Statement
import JvmDerived.Pilot.@@N@@Code
set_option linter.unusedVariables false
set_option linter.unusedSimpArgs false
@@BLOCK:NumsL.lean.txt@@
namespace Jvm.Pilot.@@N@@
open Jvm Jvm.ClassFile Sem Op Lib Jvm.Free Jvm.Stand Jvm.LawKit Jvm.RoadKit Bundle Jvm.Pilot.@@N@@.Jvm.D
/-! the walk in continuation form: what is left to be shown of a state on the road -/
def own_Gl (p : Program) (e : Env) (below : List Frame) (P : Outcome → State → Prop) (S : State) : Prop := ∃ s₂ o, Steps p.tables e below S s₂ ∧ s₂.status = .running ∧ Ended s₂ below o ∧ P o s₂
theorem own_go {p : Program} {e : Env} {below : List Frame} {P : Outcome → State → Prop} {S S' : State} (k : ∀ t, Steps p.tables e below S' t → Steps p.tables e below S t) (h : own_Gl p e below P S') : own_Gl p e below P S := by
  obtain ⟨u, o, h1, h2⟩ := h
  exact ⟨u, o, k u h1, h2⟩
theorem own_ext {h0 h : Heap} (K : Keep h0 h []) : Ext h0 h := ⟨K.1, fun a c q => K.2.1 a c q nin0⟩
theorem own_jn {p : Program} {e : Env} {below : List Frame} {P : Outcome → State → Prop} {S S' : State} (h : own_Gl p e below P S) (k : own_Gl p e below P S → own_Gl p e below P S') : own_Gl p e below P S' := k h
theorem own_ind {p : Program} {e : Env} {below : List Frame} {P : Outcome → State → Prop} (I : Nat → State → Prop) (step : ∀ n S, (∀ n', n' < n → ∀ S', I n' S' → own_Gl p e below P S') → I n S → own_Gl p e below P S) {n : Nat} {S : State} (h : I n S) : own_Gl p e below P S := by
  induction n using Nat.strongRecOn generalizing S with
  | ind n ih => exact step n S (fun n' hn S' hI => ih n' hn hI) h
theorem own_fin {p : Program} {e : Env} {below : List Frame} {P : Outcome → State → Prop} {S u : State} {o : Outcome} (h1 : Steps p.tables e below S u) (h2 : u.status = .running) (h3 : Ended u below o) (h4 : P o u) : own_Gl p e below P S := ⟨u, o, h1, h2, h3, h4⟩
theorem d1_0 : decode prog_143_method_4_code 0 = .ok (.aload_n 0, 1) := by decide +kernel
theorem d1_1 : decode prog_143_method_4_code 1 = .ok (.getfield 35, 3) := by decide +kernel
theorem d1_4 : decode prog_143_method_4_code 4 = .ok (.ifCond .eq 12, 3) := by decide +kernel
theorem d1_7 : decode prog_143_method_4_code 7 = .ok (.iload_n 1, 1) := by decide +kernel
theorem d1_8 : decode prog_143_method_4_code 8 = .ok (.bipush 41, 2) := by decide +kernel
theorem d1_10 : decode prog_143_method_4_code 10 = .ok (.if_icmp .ne 18, 3) := by decide +kernel
theorem d1_13 : decode prog_143_method_4_code 13 = .ok (.goto 28, 3) := by decide +kernel
theorem d1_16 : decode prog_143_method_4_code 16 = .ok (.iload_n 1, 1) := by decide +kernel
theorem d1_17 : decode prog_143_method_4_code 17 = .ok (.bipush 59, 2) := by decide +kernel
theorem d1_19 : decode prog_143_method_4_code 19 = .ok (.if_icmp .eq 22, 3) := by decide +kernel
theorem d1_22 : decode prog_143_method_4_code 22 = .ok (.iload_n 1, 1) := by decide +kernel
theorem d1_23 : decode prog_143_method_4_code 23 = .ok (.bipush 125, 2) := by decide +kernel
theorem d1_25 : decode prog_143_method_4_code 25 = .ok (.if_icmp .eq 16, 3) := by decide +kernel
theorem d1_28 : decode prog_143_method_4_code 28 = .ok (.aload_n 0, 1) := by decide +kernel
theorem d1_29 : decode prog_143_method_4_code 29 = .ok (.getfield 39, 3) := by decide +kernel
theorem d1_32 : decode prog_143_method_4_code 32 = .ok (.ifCond .eq 13, 3) := by decide +kernel
theorem d1_35 : decode prog_143_method_4_code 35 = .ok (.iload_n 1, 1) := by decide +kernel
theorem d1_36 : decode prog_143_method_4_code 36 = .ok (.bipush 58, 2) := by decide +kernel
theorem d1_38 : decode prog_143_method_4_code 38 = .ok (.if_icmp .ne 7, 3) := by decide +kernel
theorem d1_41 : decode prog_143_method_4_code 41 = .ok (.iconst 1, 1) := by decide +kernel
theorem d1_42 : decode prog_143_method_4_code 42 = .ok (.goto 4, 3) := by decide +kernel
theorem d1_45 : decode prog_143_method_4_code 45 = .ok (.iconst 0, 1) := by decide +kernel
theorem d1_46 : decode prog_143_method_4_code 46 = .ok (.ireturn, 1) := by decide +kernel
theorem pn_org_loomstyle_parse_ExpressionParser_RawText : plainName "org/loomstyle/parse/ExpressionParser$RawText" = true := by first | (simp [plainName, overriddenIn]; done) | decide +kernel
theorem ef_1 (m : MethodId) (r0 : Addr) (p0 : Int32) : entryFrame m #[(.ref r0), (.int p0)] 2 = mkF m 0 #[.val (.ref r0), .val (.int p0)] [] := by first | (simp [entryFrame, mkF, argsToLocals, Value.category]; done) | rfl
def f1 (p0 : Int32) (u0 : Int32) (u1 : Int32) : Int32 := (if u0 = (0 : Int32) then (if p0 = (59 : Int32) then (1 : Int32) else (if p0 = (125 : Int32) then (1 : Int32) else (if u1 = (0 : Int32) then (0 : Int32) else (if p0 = (58 : Int32) then (1 : Int32) else (0 : Int32))))) else (if p0 = (41 : Int32) then (1 : Int32) else (if u1 = (0 : Int32) then (0 : Int32) else (if p0 = (58 : Int32) then (1 : Int32) else (0 : Int32)))))
def Q1 (Z : State) (r0 : Addr) (p0 : Int32) (u0 : Int32) (u1 : Int32) (h0 : Heap) (n0 : Nat) (v : Option Value) (h : Heap) (L : List Loc) : Prop := Fr n0 L ∧ v = some (.int (f1 p0 u0 u1)) ∧ h = h0
set_option maxRecDepth 65536 in
set_option maxHeartbeats 40000000 in
theorem rm1 (l : Launch) (Z : State) (a0 : Array Value) (hw : ∀ d ∈ tables_1, d.before a0 Z = true) (ws : List Jvm.Cond) (r0 : Addr) (p0 : Int32) (u0 : Int32) (u1 : Int32) (h0 : Heap) (n0 : Nat) (Z0 : n0 ≤ h0.size) (P0 : Fld Z h0 r0 "org/loomstyle/parse/ExpressionParser$RawText" "endsAtParenthesis" "Z" (.int u0)) (P1 : Fld Z h0 r0 "org/loomstyle/parse/ExpressionParser$RawText" "endsAtColon" "Z" (.int u1)) :
    MetFree l (⟨"org/loomstyle/parse/ExpressionParser$RawText", "endsAt", "(I)Z"⟩ : MethodName) (head1 (Jvm.Cond.code (⟨"org/loomstyle/parse/ExpressionParser$RawText", "endsAt", "(I)Z"⟩ : MethodName) prog_143_method_4_code 2 (some .boolean) :: ws) ({ frames := 0, cells := 0, slots := 0, locals := 0 } : Room)) (fun a U => a = #[(.ref r0), (.int p0)] ∧ Z.Warmed39 U.vm ∧ U.heap = h0) (fun _ _ _ _ _ => True) (fun _ U o U' => ∃ v L, o = .returned v ∧ Q1 Z r0 p0 u0 u1 h0 n0 v U'.heap L ∧ FrameEnd U o U' L ({ frames := 0, cells := 0, slots := 0, locals := 0 } : Room).cells ({ frames := 0, cells := 0, slots := 0, locals := 0 } : Room).slots) := by
  refine MetFree.of_bodySF (plainFor_of_name pn_org_loomstyle_parse_ExpressionParser_RawText) hisR ?_
  intro p e s m args below meth c s₁ Bd hml0 hP hK
  obtain ⟨rfl, hZ, hh⟩ := hP
  have hx := Bd.exec
  have hby := Bd.bytes
  have hml : c.maxLocals = 2 := hml0
  have hown : s.vm.findClass "org/loomstyle/parse/ExpressionParser$RawText" = some m.cls := findClass_of_methodNamed Bd.named
  have hnm := (name_of_methodNamed Bd.named Bd.method).1
  have X0 : Stand p l e ({ frames := 0, cells := 0, slots := 0, locals := 0 } : Room) s m #[(.ref r0), (.int p0)] below meth c s₁ [] 0 0 := Stand.of_body Bd
  have e0 : s₁.heap = h0 := by rw [← hh, Bd.state]; rfl
  have N0 := Fr.nil n0
  show own_Gl p e below (fun o U' => ∃ v L, o = .returned v ∧ Q1 Z r0 p0 u0 u1 h0 n0 v U'.heap L ∧ FrameEnd s o U' L ({ frames := 0, cells := 0, slots := 0, locals := 0 } : Room).cells ({ frames := 0, cells := 0, slots := 0, locals := 0 } : Room).slots) (s₁.setTop (entryFrame m #[(.ref r0), (.int p0)] 2))
  refine own_go (fun t k => castTop (ef_1 m r0 p0) k) ?_
  show own_Gl _ _ _ _ (s₁.setTop (mkF m 0 #[.val (.ref r0), .val (.int p0)] []))
  refine own_go (fun t k => XS.aloadN X0.here hx rfl (hb hby d1_0) rfl rfl k) ?_
  show own_Gl _ _ _ _ (s₁.setTop (mkF m 1 #[.val (.ref r0), .val (.int p0)] [(.ref r0)]))
  obtain ⟨T1, X1, e1, st1⟩ := getF X0 hx hZ hown (host := "") (Or.inl (hw _ (List.mem_of_getElem? (i := 9) rfl))) Via.refl e0 P0 (g := (mkF m 1 #[.val (.ref r0), .val (.int p0)] [(.ref r0)])) rfl rfl (hb hby d1_1)
  refine own_go (fun t k => st1 _ k) ?_
  show own_Gl _ _ _ _ (T1.setTop (mkF m 4 #[.val (.ref r0), .val (.int p0)] [(.int u0)]))
  by_cases hc4_2 : u0 = (0 : Int32)
  · refine own_go (fun t k => XS.ifYes X1.here hx rfl (pc0 := 4) (pc' := 16) rfl (hb hby d1_4) rfl ((if0 _ _).trans (teq hc4_2).1) (by decide) (by decide) k) ?_
    show own_Gl _ _ _ _ (T1.setTop (mkF m 16 #[.val (.ref r0), .val (.int p0)] []))
    refine own_go (fun t k => XS.iloadN X1.here hx rfl (hb hby d1_16) rfl k) ?_
    show own_Gl _ _ _ _ (T1.setTop (mkF m 17 #[.val (.ref r0), .val (.int p0)] [(.int p0)]))
    refine own_go (fun t k => XS.bipush X1.here hx rfl (hb hby d1_17) k) ?_
    show own_Gl _ _ _ _ (T1.setTop (mkF m 19 #[.val (.ref r0), .val (.int p0)] [(.int (59 : Int32)), (.int p0)]))
    by_cases hc19_3 : p0 = (59 : Int32)
    · refine own_go (fun t k => XS.icmpYes X1.here hx rfl (pc0 := 19) (pc' := 41) rfl (hb hby d1_19) rfl (teq hc19_3).1 (by decide) (by decide) k) ?_
      show own_Gl _ _ _ _ (T1.setTop (mkF m 41 #[.val (.ref r0), .val (.int p0)] []))
      refine own_go (fun t k => XS.iconst X1.here hx rfl (hb hby d1_41) k) ?_
      show own_Gl _ _ _ _ (T1.setTop (mkF m 42 #[.val (.ref r0), .val (.int p0)] [(.int (1 : Int32))]))
      refine own_go (fun t k => XS.goto X1.here hx rfl (pc0 := 42) (pc' := 46) rfl (hb hby d1_42) (by decide) (by decide) k) ?_
      show own_Gl _ _ _ _ (T1.setTop (mkF m 46 #[.val (.ref r0), .val (.int p0)] [(.int (1 : Int32))]))
      obtain ⟨fs, hr, hrun, hended, hW, hsame⟩ := X1.leave (v := some (.int (1 : Int32))) (fun h => by rw [Bd.returns] at h; cases h)
      refine own_fin (retN X1 hx (t := .boolean) Bd.returns (by simp) (hb hby d1_46) hr) hrun hended ⟨_, _, rfl, ?_, ⟨_, rfl⟩, hW, hsame.mono (by decide) (by decide)⟩
      show Q1 Z r0 p0 u0 u1 h0 n0 _ T1.heap _
      rw [e1]
      exact ⟨N0, by rw [f1, if_pos hc4_2, if_pos hc19_3], rfl⟩
    · refine own_go (fun t k => XS.icmpNo X1.here hx rfl (hb hby d1_19) rfl (feq hc19_3).1 k) ?_
      show own_Gl _ _ _ _ (T1.setTop (mkF m 22 #[.val (.ref r0), .val (.int p0)] []))
      refine own_go (fun t k => XS.iloadN X1.here hx rfl (hb hby d1_22) rfl k) ?_
      show own_Gl _ _ _ _ (T1.setTop (mkF m 23 #[.val (.ref r0), .val (.int p0)] [(.int p0)]))
      refine own_go (fun t k => XS.bipush X1.here hx rfl (hb hby d1_23) k) ?_
      show own_Gl _ _ _ _ (T1.setTop (mkF m 25 #[.val (.ref r0), .val (.int p0)] [(.int (125 : Int32)), (.int p0)]))
      by_cases hc25_4 : p0 = (125 : Int32)
      · refine own_go (fun t k => XS.icmpYes X1.here hx rfl (pc0 := 25) (pc' := 41) rfl (hb hby d1_25) rfl (teq hc25_4).1 (by decide) (by decide) k) ?_
        show own_Gl _ _ _ _ (T1.setTop (mkF m 41 #[.val (.ref r0), .val (.int p0)] []))
        refine own_go (fun t k => XS.iconst X1.here hx rfl (hb hby d1_41) k) ?_
        show own_Gl _ _ _ _ (T1.setTop (mkF m 42 #[.val (.ref r0), .val (.int p0)] [(.int (1 : Int32))]))
        refine own_go (fun t k => XS.goto X1.here hx rfl (pc0 := 42) (pc' := 46) rfl (hb hby d1_42) (by decide) (by decide) k) ?_
        show own_Gl _ _ _ _ (T1.setTop (mkF m 46 #[.val (.ref r0), .val (.int p0)] [(.int (1 : Int32))]))
        obtain ⟨fs, hr, hrun, hended, hW, hsame⟩ := X1.leave (v := some (.int (1 : Int32))) (fun h => by rw [Bd.returns] at h; cases h)
        refine own_fin (retN X1 hx (t := .boolean) Bd.returns (by simp) (hb hby d1_46) hr) hrun hended ⟨_, _, rfl, ?_, ⟨_, rfl⟩, hW, hsame.mono (by decide) (by decide)⟩
        show Q1 Z r0 p0 u0 u1 h0 n0 _ T1.heap _
        rw [e1]
        exact ⟨N0, by rw [f1, if_pos hc4_2, if_neg hc19_3, if_pos hc25_4], rfl⟩
      · refine own_go (fun t k => XS.icmpNo X1.here hx rfl (hb hby d1_25) rfl (feq hc25_4).1 k) ?_
        show own_Gl _ _ _ _ (T1.setTop (mkF m 28 #[.val (.ref r0), .val (.int p0)] []))
        refine own_go (fun t k => XS.aloadN X1.here hx rfl (hb hby d1_28) rfl rfl k) ?_
        show own_Gl _ _ _ _ (T1.setTop (mkF m 29 #[.val (.ref r0), .val (.int p0)] [(.ref r0)]))
        obtain ⟨T5, X5, e5, st5⟩ := getF X1 hx hZ hown (host := "") (Or.inl (hw _ (List.mem_of_getElem? (i := 13) rfl))) Via.refl e1 P1 (g := (mkF m 29 #[.val (.ref r0), .val (.int p0)] [(.ref r0)])) rfl rfl (hb hby d1_29)
        refine own_go (fun t k => st5 _ k) ?_
        show own_Gl _ _ _ _ (T5.setTop (mkF m 32 #[.val (.ref r0), .val (.int p0)] [(.int u1)]))
        by_cases hc32_6 : u1 = (0 : Int32)
        · refine own_go (fun t k => XS.ifYes X5.here hx rfl (pc0 := 32) (pc' := 45) rfl (hb hby d1_32) rfl ((if0 _ _).trans (teq hc32_6).1) (by decide) (by decide) k) ?_
          show own_Gl _ _ _ _ (T5.setTop (mkF m 45 #[.val (.ref r0), .val (.int p0)] []))
          refine own_go (fun t k => XS.iconst X5.here hx rfl (hb hby d1_45) k) ?_
          show own_Gl _ _ _ _ (T5.setTop (mkF m 46 #[.val (.ref r0), .val (.int p0)] [(.int (0 : Int32))]))
          obtain ⟨fs, hr, hrun, hended, hW, hsame⟩ := X5.leave (v := some (.int (0 : Int32))) (fun h => by rw [Bd.returns] at h; cases h)
          refine own_fin (retN X5 hx (t := .boolean) Bd.returns (by simp) (hb hby d1_46) hr) hrun hended ⟨_, _, rfl, ?_, ⟨_, rfl⟩, hW, hsame.mono (by decide) (by decide)⟩
          show Q1 Z r0 p0 u0 u1 h0 n0 _ T5.heap _
          rw [e5]
          exact ⟨N0, by rw [f1, if_pos hc4_2, if_neg hc19_3, if_neg hc25_4, if_pos hc32_6], rfl⟩
        · refine own_go (fun t k => XS.ifNo X5.here hx rfl (hb hby d1_32) rfl ((if0 _ _).trans (feq hc32_6).1) k) ?_
          show own_Gl _ _ _ _ (T5.setTop (mkF m 35 #[.val (.ref r0), .val (.int p0)] []))
          refine own_go (fun t k => XS.iloadN X5.here hx rfl (hb hby d1_35) rfl k) ?_
          show own_Gl _ _ _ _ (T5.setTop (mkF m 36 #[.val (.ref r0), .val (.int p0)] [(.int p0)]))
          refine own_go (fun t k => XS.bipush X5.here hx rfl (hb hby d1_36) k) ?_
          show own_Gl _ _ _ _ (T5.setTop (mkF m 38 #[.val (.ref r0), .val (.int p0)] [(.int (58 : Int32)), (.int p0)]))
          by_cases hc38_7 : p0 = (58 : Int32)
          · refine own_go (fun t k => XS.icmpNo X5.here hx rfl (hb hby d1_38) rfl (teq hc38_7).2 k) ?_
            show own_Gl _ _ _ _ (T5.setTop (mkF m 41 #[.val (.ref r0), .val (.int p0)] []))
            refine own_go (fun t k => XS.iconst X5.here hx rfl (hb hby d1_41) k) ?_
            show own_Gl _ _ _ _ (T5.setTop (mkF m 42 #[.val (.ref r0), .val (.int p0)] [(.int (1 : Int32))]))
            refine own_go (fun t k => XS.goto X5.here hx rfl (pc0 := 42) (pc' := 46) rfl (hb hby d1_42) (by decide) (by decide) k) ?_
            show own_Gl _ _ _ _ (T5.setTop (mkF m 46 #[.val (.ref r0), .val (.int p0)] [(.int (1 : Int32))]))
            obtain ⟨fs, hr, hrun, hended, hW, hsame⟩ := X5.leave (v := some (.int (1 : Int32))) (fun h => by rw [Bd.returns] at h; cases h)
            refine own_fin (retN X5 hx (t := .boolean) Bd.returns (by simp) (hb hby d1_46) hr) hrun hended ⟨_, _, rfl, ?_, ⟨_, rfl⟩, hW, hsame.mono (by decide) (by decide)⟩
            show Q1 Z r0 p0 u0 u1 h0 n0 _ T5.heap _
            rw [e5]
            exact ⟨N0, by rw [f1, if_pos hc4_2, if_neg hc19_3, if_neg hc25_4, if_neg hc32_6, if_pos hc38_7], rfl⟩
          · refine own_go (fun t k => XS.icmpYes X5.here hx rfl (pc0 := 38) (pc' := 45) rfl (hb hby d1_38) rfl (feq hc38_7).2 (by decide) (by decide) k) ?_
            show own_Gl _ _ _ _ (T5.setTop (mkF m 45 #[.val (.ref r0), .val (.int p0)] []))
            refine own_go (fun t k => XS.iconst X5.here hx rfl (hb hby d1_45) k) ?_
            show own_Gl _ _ _ _ (T5.setTop (mkF m 46 #[.val (.ref r0), .val (.int p0)] [(.int (0 : Int32))]))
            obtain ⟨fs, hr, hrun, hended, hW, hsame⟩ := X5.leave (v := some (.int (0 : Int32))) (fun h => by rw [Bd.returns] at h; cases h)
            refine own_fin (retN X5 hx (t := .boolean) Bd.returns (by simp) (hb hby d1_46) hr) hrun hended ⟨_, _, rfl, ?_, ⟨_, rfl⟩, hW, hsame.mono (by decide) (by decide)⟩
            show Q1 Z r0 p0 u0 u1 h0 n0 _ T5.heap _
            rw [e5]
            exact ⟨N0, by rw [f1, if_pos hc4_2, if_neg hc19_3, if_neg hc25_4, if_neg hc32_6, if_neg hc38_7], rfl⟩
  · refine own_go (fun t k => XS.ifNo X1.here hx rfl (hb hby d1_4) rfl ((if0 _ _).trans (feq hc4_2).1) k) ?_
    show own_Gl _ _ _ _ (T1.setTop (mkF m 7 #[.val (.ref r0), .val (.int p0)] []))
    refine own_go (fun t k => XS.iloadN X1.here hx rfl (hb hby d1_7) rfl k) ?_
    show own_Gl _ _ _ _ (T1.setTop (mkF m 8 #[.val (.ref r0), .val (.int p0)] [(.int p0)]))
    refine own_go (fun t k => XS.bipush X1.here hx rfl (hb hby d1_8) k) ?_
    show own_Gl _ _ _ _ (T1.setTop (mkF m 10 #[.val (.ref r0), .val (.int p0)] [(.int (41 : Int32)), (.int p0)]))
    by_cases hc10_8 : p0 = (41 : Int32)
    · refine own_go (fun t k => XS.icmpNo X1.here hx rfl (hb hby d1_10) rfl (teq hc10_8).2 k) ?_
      show own_Gl _ _ _ _ (T1.setTop (mkF m 13 #[.val (.ref r0), .val (.int p0)] []))
      refine own_go (fun t k => XS.goto X1.here hx rfl (pc0 := 13) (pc' := 41) rfl (hb hby d1_13) (by decide) (by decide) k) ?_
      show own_Gl _ _ _ _ (T1.setTop (mkF m 41 #[.val (.ref r0), .val (.int p0)] []))
      refine own_go (fun t k => XS.iconst X1.here hx rfl (hb hby d1_41) k) ?_
      show own_Gl _ _ _ _ (T1.setTop (mkF m 42 #[.val (.ref r0), .val (.int p0)] [(.int (1 : Int32))]))
      refine own_go (fun t k => XS.goto X1.here hx rfl (pc0 := 42) (pc' := 46) rfl (hb hby d1_42) (by decide) (by decide) k) ?_
      show own_Gl _ _ _ _ (T1.setTop (mkF m 46 #[.val (.ref r0), .val (.int p0)] [(.int (1 : Int32))]))
      obtain ⟨fs, hr, hrun, hended, hW, hsame⟩ := X1.leave (v := some (.int (1 : Int32))) (fun h => by rw [Bd.returns] at h; cases h)
      refine own_fin (retN X1 hx (t := .boolean) Bd.returns (by simp) (hb hby d1_46) hr) hrun hended ⟨_, _, rfl, ?_, ⟨_, rfl⟩, hW, hsame.mono (by decide) (by decide)⟩
      show Q1 Z r0 p0 u0 u1 h0 n0 _ T1.heap _
      rw [e1]
      exact ⟨N0, by rw [f1, if_neg hc4_2, if_pos hc10_8], rfl⟩
    · refine own_go (fun t k => XS.icmpYes X1.here hx rfl (pc0 := 10) (pc' := 28) rfl (hb hby d1_10) rfl (feq hc10_8).2 (by decide) (by decide) k) ?_
      show own_Gl _ _ _ _ (T1.setTop (mkF m 28 #[.val (.ref r0), .val (.int p0)] []))
      refine own_go (fun t k => XS.aloadN X1.here hx rfl (hb hby d1_28) rfl rfl k) ?_
      show own_Gl _ _ _ _ (T1.setTop (mkF m 29 #[.val (.ref r0), .val (.int p0)] [(.ref r0)]))
      obtain ⟨T9, X9, e9, st9⟩ := getF X1 hx hZ hown (host := "") (Or.inl (hw _ (List.mem_of_getElem? (i := 13) rfl))) Via.refl e1 P1 (g := (mkF m 29 #[.val (.ref r0), .val (.int p0)] [(.ref r0)])) rfl rfl (hb hby d1_29)
      refine own_go (fun t k => st9 _ k) ?_
      show own_Gl _ _ _ _ (T9.setTop (mkF m 32 #[.val (.ref r0), .val (.int p0)] [(.int u1)]))
      by_cases hc32_10 : u1 = (0 : Int32)
      · refine own_go (fun t k => XS.ifYes X9.here hx rfl (pc0 := 32) (pc' := 45) rfl (hb hby d1_32) rfl ((if0 _ _).trans (teq hc32_10).1) (by decide) (by decide) k) ?_
        show own_Gl _ _ _ _ (T9.setTop (mkF m 45 #[.val (.ref r0), .val (.int p0)] []))
        refine own_go (fun t k => XS.iconst X9.here hx rfl (hb hby d1_45) k) ?_
        show own_Gl _ _ _ _ (T9.setTop (mkF m 46 #[.val (.ref r0), .val (.int p0)] [(.int (0 : Int32))]))
        obtain ⟨fs, hr, hrun, hended, hW, hsame⟩ := X9.leave (v := some (.int (0 : Int32))) (fun h => by rw [Bd.returns] at h; cases h)
        refine own_fin (retN X9 hx (t := .boolean) Bd.returns (by simp) (hb hby d1_46) hr) hrun hended ⟨_, _, rfl, ?_, ⟨_, rfl⟩, hW, hsame.mono (by decide) (by decide)⟩
        show Q1 Z r0 p0 u0 u1 h0 n0 _ T9.heap _
        rw [e9]
        exact ⟨N0, by rw [f1, if_neg hc4_2, if_neg hc10_8, if_pos hc32_10], rfl⟩
      · refine own_go (fun t k => XS.ifNo X9.here hx rfl (hb hby d1_32) rfl ((if0 _ _).trans (feq hc32_10).1) k) ?_
        show own_Gl _ _ _ _ (T9.setTop (mkF m 35 #[.val (.ref r0), .val (.int p0)] []))
        refine own_go (fun t k => XS.iloadN X9.here hx rfl (hb hby d1_35) rfl k) ?_
        show own_Gl _ _ _ _ (T9.setTop (mkF m 36 #[.val (.ref r0), .val (.int p0)] [(.int p0)]))
        refine own_go (fun t k => XS.bipush X9.here hx rfl (hb hby d1_36) k) ?_
        show own_Gl _ _ _ _ (T9.setTop (mkF m 38 #[.val (.ref r0), .val (.int p0)] [(.int (58 : Int32)), (.int p0)]))
        by_cases hc38_11 : p0 = (58 : Int32)
        · refine own_go (fun t k => XS.icmpNo X9.here hx rfl (hb hby d1_38) rfl (teq hc38_11).2 k) ?_
          show own_Gl _ _ _ _ (T9.setTop (mkF m 41 #[.val (.ref r0), .val (.int p0)] []))
          refine own_go (fun t k => XS.iconst X9.here hx rfl (hb hby d1_41) k) ?_
          show own_Gl _ _ _ _ (T9.setTop (mkF m 42 #[.val (.ref r0), .val (.int p0)] [(.int (1 : Int32))]))
          refine own_go (fun t k => XS.goto X9.here hx rfl (pc0 := 42) (pc' := 46) rfl (hb hby d1_42) (by decide) (by decide) k) ?_
          show own_Gl _ _ _ _ (T9.setTop (mkF m 46 #[.val (.ref r0), .val (.int p0)] [(.int (1 : Int32))]))
          obtain ⟨fs, hr, hrun, hended, hW, hsame⟩ := X9.leave (v := some (.int (1 : Int32))) (fun h => by rw [Bd.returns] at h; cases h)
          refine own_fin (retN X9 hx (t := .boolean) Bd.returns (by simp) (hb hby d1_46) hr) hrun hended ⟨_, _, rfl, ?_, ⟨_, rfl⟩, hW, hsame.mono (by decide) (by decide)⟩
          show Q1 Z r0 p0 u0 u1 h0 n0 _ T9.heap _
          rw [e9]
          exact ⟨N0, by rw [f1, if_neg hc4_2, if_neg hc10_8, if_neg hc32_10, if_pos hc38_11], rfl⟩
        · refine own_go (fun t k => XS.icmpYes X9.here hx rfl (pc0 := 38) (pc' := 45) rfl (hb hby d1_38) rfl (feq hc38_11).2 (by decide) (by decide) k) ?_
          show own_Gl _ _ _ _ (T9.setTop (mkF m 45 #[.val (.ref r0), .val (.int p0)] []))
          refine own_go (fun t k => XS.iconst X9.here hx rfl (hb hby d1_45) k) ?_
          show own_Gl _ _ _ _ (T9.setTop (mkF m 46 #[.val (.ref r0), .val (.int p0)] [(.int (0 : Int32))]))
          obtain ⟨fs, hr, hrun, hended, hW, hsame⟩ := X9.leave (v := some (.int (0 : Int32))) (fun h => by rw [Bd.returns] at h; cases h)
          refine own_fin (retN X9 hx (t := .boolean) Bd.returns (by simp) (hb hby d1_46) hr) hrun hended ⟨_, _, rfl, ?_, ⟨_, rfl⟩, hW, hsame.mono (by decide) (by decide)⟩
          show Q1 Z r0 p0 u0 u1 h0 n0 _ T9.heap _
          rw [e9]
          exact ⟨N0, by rw [f1, if_neg hc4_2, if_neg hc10_8, if_neg hc32_10, if_neg hc38_11], rfl⟩
theorem own_i32 (c : Int32) : c = Int32.ofInt c.toInt := (Int32.ofInt_toInt c).symm
/-- an int from 0 up to n, as a natural below n -/
theorem own_range (n : Nat) (c : Int32) (h0 : 0 ≤ c.toInt) (h1 : c.toInt < n) : ∃ k : Fin n, c = Int32.ofInt (k.val : Int) := by
  refine ⟨⟨c.toInt.toNat, by omega⟩, ?_⟩
  have e : ((c.toInt.toNat : Nat) : Int) = c.toInt := by omega
  show c = Int32.ofInt ((c.toInt.toNat : Nat) : Int)
  rw [e]; exact own_i32 c
def own_sp (j : Int32) : Int32 := if j = 0 then (41 : Int32) else if j = 1 then (59 : Int32) else if j = 2 then (125 : Int32) else if j = 3 then (58 : Int32) else if j = 4 then (-1 : Int32) else if j = 5 then (40 : Int32) else if j = 6 then (123 : Int32) else (93 : Int32)
theorem own_and7 (x : Int32) : 0 ≤ (x &&& 7).toInt ∧ (x &&& 7).toInt < 8 := by
  have h := Jvm.Kit.i32_mask x 7 (k := 3) (by decide) (by decide)
  omega
theorem own_at (j : Int32) (h0 : 0 ≤ j.toInt) (h1 : j.toInt < 8) : ([(.int (41 : Int32)), (.int (59 : Int32)), (.int (125 : Int32)), (.int (58 : Int32)), (.int (-1 : Int32)), (.int (40 : Int32)), (.int (123 : Int32)), (.int (93 : Int32))] : List Value).getD j.toNatClampNeg (.int (0 : Int32)) = .int (own_sp j) := by
  obtain ⟨k, rfl⟩ := own_range 8 j h0 h1
  revert k; decide +kernel
theorem own_eqf {args : Array Value} {s : State} {t : Term} {C n d : String} {x : Addr} {k : Int32} (ev : t.eval args s none [] s = some (.ref x)) (h : (Jvm.Cond.eq (Term.field t C n d) (Term.int k)).value args s none s [] = some true) : Fld s s.heap x C n d (.int k) := by
  exact Fld.start ((fld_at ev).symm.trans (eqv_i (Term.int_eval k) h))
theorem pn_org_loomstyle_parse_RawTextEndsAtPinLaw : plainName "org/loomstyle/parse/RawTextEndsAtPinLaw" = true := by first | (simp [plainName, overriddenIn]; done) | decide +kernel
theorem ef_0 (m : MethodId) (p0 : Int32) (p1 : Int32) (p2 : Int32) : entryFrame m #[(.int p0), (.int p1), (.int p2)] maxLocals = mkF m 0 #[.val (.int p0), .val (.int p1), .val (.int p2), .unset, .unset, .unset, .unset, .unset] [] := by first | (simp [entryFrame, mkF, argsToLocals, Value.category, maxLocals]; done) | rfl
theorem pd_0 : parseMethodDescriptor "(I)Z" = some ⟨[.int], some .boolean⟩ := by decide +kernel
def f0 (p0 : Int32) (p1 : Int32) (p2 : Int32) : Int32 := (if (p2 &&& (8 : Int32)) = (0 : Int32) then (if (p0 &&& (3 : Int32)) = (0 : Int32) then (if (own_sp (p2 &&& (7 : Int32))) = (59 : Int32) then (if (f1 (own_sp (p2 &&& (7 : Int32))) (0 : Int32) (0 : Int32)) = (1 : Int32) then (1 : Int32) else (0 : Int32)) else (if (own_sp (p2 &&& (7 : Int32))) = (125 : Int32) then (if (f1 (own_sp (p2 &&& (7 : Int32))) (0 : Int32) (0 : Int32)) = (1 : Int32) then (1 : Int32) else (0 : Int32)) else (if (f1 (own_sp (p2 &&& (7 : Int32))) (0 : Int32) (0 : Int32)) = (0 : Int32) then (1 : Int32) else (0 : Int32)))) else (if (p0 &&& (3 : Int32)) = (1 : Int32) then (if (own_sp (p2 &&& (7 : Int32))) = (41 : Int32) then (if (f1 (own_sp (p2 &&& (7 : Int32))) (1 : Int32) (0 : Int32)) = (1 : Int32) then (1 : Int32) else (0 : Int32)) else (if (f1 (own_sp (p2 &&& (7 : Int32))) (1 : Int32) (0 : Int32)) = (0 : Int32) then (1 : Int32) else (0 : Int32))) else (if (p0 &&& (3 : Int32)) = (2 : Int32) then (if (own_sp (p2 &&& (7 : Int32))) = (41 : Int32) then (if (f1 (own_sp (p2 &&& (7 : Int32))) (1 : Int32) (0 : Int32)) = (1 : Int32) then (1 : Int32) else (0 : Int32)) else (if (f1 (own_sp (p2 &&& (7 : Int32))) (1 : Int32) (0 : Int32)) = (0 : Int32) then (1 : Int32) else (0 : Int32))) else (if (p0 &&& (3 : Int32)) = (3 : Int32) then (if (own_sp (p2 &&& (7 : Int32))) = (41 : Int32) then (if (f1 (own_sp (p2 &&& (7 : Int32))) (1 : Int32) (1 : Int32)) = (1 : Int32) then (1 : Int32) else (0 : Int32)) else (if (own_sp (p2 &&& (7 : Int32))) = (58 : Int32) then (if (f1 (own_sp (p2 &&& (7 : Int32))) (1 : Int32) (1 : Int32)) = (1 : Int32) then (1 : Int32) else (0 : Int32)) else (if (f1 (own_sp (p2 &&& (7 : Int32))) (1 : Int32) (1 : Int32)) = (0 : Int32) then (1 : Int32) else (0 : Int32)))) else (if (own_sp (p2 &&& (7 : Int32))) = (41 : Int32) then (if (f1 (own_sp (p2 &&& (7 : Int32))) (1 : Int32) (1 : Int32)) = (1 : Int32) then (1 : Int32) else (0 : Int32)) else (if (f1 (own_sp (p2 &&& (7 : Int32))) (1 : Int32) (1 : Int32)) = (0 : Int32) then (1 : Int32) else (0 : Int32))))))) else (if (p0 &&& (3 : Int32)) = (0 : Int32) then (if p1 = (59 : Int32) then (if (f1 p1 (0 : Int32) (0 : Int32)) = (1 : Int32) then (1 : Int32) else (0 : Int32)) else (if p1 = (125 : Int32) then (if (f1 p1 (0 : Int32) (0 : Int32)) = (1 : Int32) then (1 : Int32) else (0 : Int32)) else (if (f1 p1 (0 : Int32) (0 : Int32)) = (0 : Int32) then (1 : Int32) else (0 : Int32)))) else (if (p0 &&& (3 : Int32)) = (1 : Int32) then (if p1 = (41 : Int32) then (if (f1 p1 (1 : Int32) (0 : Int32)) = (1 : Int32) then (1 : Int32) else (0 : Int32)) else (if (f1 p1 (1 : Int32) (0 : Int32)) = (0 : Int32) then (1 : Int32) else (0 : Int32))) else (if (p0 &&& (3 : Int32)) = (2 : Int32) then (if p1 = (41 : Int32) then (if (f1 p1 (1 : Int32) (0 : Int32)) = (1 : Int32) then (1 : Int32) else (0 : Int32)) else (if (f1 p1 (1 : Int32) (0 : Int32)) = (0 : Int32) then (1 : Int32) else (0 : Int32))) else (if (p0 &&& (3 : Int32)) = (3 : Int32) then (if p1 = (41 : Int32) then (if (f1 p1 (1 : Int32) (1 : Int32)) = (1 : Int32) then (1 : Int32) else (0 : Int32)) else (if p1 = (58 : Int32) then (if (f1 p1 (1 : Int32) (1 : Int32)) = (1 : Int32) then (1 : Int32) else (0 : Int32)) else (if (f1 p1 (1 : Int32) (1 : Int32)) = (0 : Int32) then (1 : Int32) else (0 : Int32)))) else (if p1 = (41 : Int32) then (if (f1 p1 (1 : Int32) (1 : Int32)) = (1 : Int32) then (1 : Int32) else (0 : Int32)) else (if (f1 p1 (1 : Int32) (1 : Int32)) = (0 : Int32) then (1 : Int32) else (0 : Int32))))))))
def Q0 (Z : State) (p0 : Int32) (p1 : Int32) (p2 : Int32) (cp : Addr) (fa : Addr) (su : Addr) (sa : Addr) (h0 : Heap) (n0 : Nat) (v : Option Value) (h : Heap) (L : List Loc) : Prop := Fr n0 L ∧ v = some (.int (f0 p0 p1 p2))
set_option maxRecDepth 65536 in
set_option maxHeartbeats 40000000 in
theorem rm0 (l : Launch) (Z : State) (a0 : Array Value) (hw : ∀ d ∈ tables_1, d.before a0 Z = true) (ws : List Jvm.Cond) (p0 : Int32) (p1 : Int32) (p2 : Int32) (cp : Addr) (fa : Addr) (su : Addr) (sa : Addr) (h0 : Heap) (n0 : Nat) (Z0 : n0 ≤ h0.size) (P0 : Sta Z h0 "org/loomstyle/parse/ExpressionParser$RawText" "CUSTOM_PROPERTY" "Lorg/loomstyle/parse/ExpressionParser$RawText;" (.ref cp)) (P1 : Exa Z h0 cp "org/loomstyle/parse/ExpressionParser$RawText") (P2 : Fld Z h0 cp "org/loomstyle/parse/ExpressionParser$RawText" "endsAtParenthesis" "Z" (.int (0 : Int32))) (P3 : Fld Z h0 cp "org/loomstyle/parse/ExpressionParser$RawText" "endsAtColon" "Z" (.int (0 : Int32))) (P4 : Sta Z h0 "org/loomstyle/parse/ExpressionParser$RawText" "FUNCTION_ARGUMENTS" "Lorg/loomstyle/parse/ExpressionParser$RawText;" (.ref fa)) (P5 : Exa Z h0 fa "org/loomstyle/parse/ExpressionParser$RawText") (P6 : Fld Z h0 fa "org/loomstyle/parse/ExpressionParser$RawText" "endsAtParenthesis" "Z" (.int (1 : Int32))) (P7 : Fld Z h0 fa "org/loomstyle/parse/ExpressionParser$RawText" "endsAtColon" "Z" (.int (0 : Int32))) (P8 : Sta Z h0 "org/loomstyle/parse/ExpressionParser$RawText" "SUPPORTS" "Lorg/loomstyle/parse/ExpressionParser$RawText;" (.ref su)) (P9 : Exa Z h0 su "org/loomstyle/parse/ExpressionParser$RawText") (P10 : Fld Z h0 su "org/loomstyle/parse/ExpressionParser$RawText" "endsAtParenthesis" "Z" (.int (1 : Int32))) (P11 : Fld Z h0 su "org/loomstyle/parse/ExpressionParser$RawText" "endsAtColon" "Z" (.int (0 : Int32))) (P12 : Sta Z h0 "org/loomstyle/parse/ExpressionParser$RawText" "SUPPORTS_AFTER_NAME" "Lorg/loomstyle/parse/ExpressionParser$RawText;" (.ref sa)) (P13 : Exa Z h0 sa "org/loomstyle/parse/ExpressionParser$RawText") (P14 : Fld Z h0 sa "org/loomstyle/parse/ExpressionParser$RawText" "endsAtParenthesis" "Z" (.int (1 : Int32))) (P15 : Fld Z h0 sa "org/loomstyle/parse/ExpressionParser$RawText" "endsAtColon" "Z" (.int (1 : Int32))) :
    MetFree l x (head1 (Jvm.Cond.code x code maxLocals ret :: ws) room_1) (fun a U => a = #[(.int p0), (.int p1), (.int p2)] ∧ Z.Warmed39 U.vm ∧ U.heap = h0) (fun _ _ _ _ _ => True) (fun _ U o U' => ∃ v L, o = .returned v ∧ Q0 Z p0 p1 p2 cp fa su sa h0 n0 v U'.heap L ∧ FrameEnd U o U' L room_1.cells room_1.slots) := by
  refine MetFree.of_bodySF (plainFor_of_name pn_org_loomstyle_parse_RawTextEndsAtPinLaw) hisR ?_
  intro p e s m args below meth c s₁ Bd hml0 hP hK
  obtain ⟨rfl, hZ, hh⟩ := hP
  have hx := Bd.exec
  have hby := Bd.bytes
  have hml : c.maxLocals = 8 := hml0
  have hown : s.vm.findClass "org/loomstyle/parse/RawTextEndsAtPinLaw" = some m.cls := findClass_of_methodNamed Bd.named
  have hnm := (name_of_methodNamed Bd.named Bd.method).1
  have X0 : Stand p l e room_1 s m #[(.int p0), (.int p1), (.int p2)] below meth c s₁ [] 0 0 := Stand.of_body Bd
  have e0 : s₁.heap = h0 := by rw [← hh, Bd.state]; rfl
  have N0 := Fr.nil n0
  show own_Gl p e below (fun o U' => ∃ v L, o = .returned v ∧ Q0 Z p0 p1 p2 cp fa su sa h0 n0 v U'.heap L ∧ FrameEnd s o U' L room_1.cells room_1.slots) (s₁.setTop (entryFrame m #[(.int p0), (.int p1), (.int p2)] maxLocals))
  refine own_go (fun t k => castTop (ef_0 m p0 p1 p2) k) ?_
  show own_Gl _ _ _ _ (s₁.setTop (mkF m 0 #[.val (.int p0), .val (.int p1), .val (.int p2), .unset, .unset, .unset, .unset, .unset] []))
  refine own_go (fun t k => XS.iloadN X0.here hx rfl (hb hby at_0) rfl k) ?_
  show own_Gl _ _ _ _ (s₁.setTop (mkF m 1 #[.val (.int p0), .val (.int p1), .val (.int p2), .unset, .unset, .unset, .unset, .unset] [(.int p0)]))
  refine own_go (fun t k => XS.iconst X0.here hx rfl (hb hby at_1) k) ?_
  show own_Gl _ _ _ _ (s₁.setTop (mkF m 2 #[.val (.int p0), .val (.int p1), .val (.int p2), .unset, .unset, .unset, .unset, .unset] [(.int (3 : Int32)), (.int p0)]))
  refine own_go (fun t k => XS.iand X0.here hx rfl (hb hby at_2) rfl k) ?_
  show own_Gl _ _ _ _ (s₁.setTop (mkF m 3 #[.val (.int p0), .val (.int p1), .val (.int p2), .unset, .unset, .unset, .unset, .unset] [(.int (p0 &&& (3 : Int32)))]))
  refine own_go (fun t k => XS.istoreN X0.here hx rfl (hb hby at_3) rfl (l' := #[.val (.int p0), .val (.int p1), .val (.int p2), .val (.int (p0 &&& (3 : Int32))), .unset, .unset, .unset, .unset]) rfl k) ?_
  show own_Gl _ _ _ _ (s₁.setTop (mkF m 4 #[.val (.int p0), .val (.int p1), .val (.int p2), .val (.int (p0 &&& (3 : Int32))), .unset, .unset, .unset, .unset] []))
  refine own_go (fun t k => XS.bipush X0.here hx rfl (hb hby at_4) k) ?_
  show own_Gl _ _ _ _ (s₁.setTop (mkF m 6 #[.val (.int p0), .val (.int p1), .val (.int p2), .val (.int (p0 &&& (3 : Int32))), .unset, .unset, .unset, .unset] [(.int (8 : Int32))]))
  obtain ⟨T12, h12, k12, X12, e12, E12, A12, st12⟩ := newP X0 hx hZ (hw _ (List.mem_of_getElem? (i := 0) rfl)) e0 (g := (mkF m 6 #[.val (.int p0), .val (.int p1), .val (.int p2), .val (.int (p0 &&& (3 : Int32))), .unset, .unset, .unset, .unset] [(.int (8 : Int32))])) rfl (hb hby at_6) rfl (by decide) (cap := 8) (by decide) (by decide) (by decide) (by decide)
  obtain ⟨b12, g12⟩ : ∃ z, z = h0.size := ⟨_, rfl⟩
  rw [← g12] at A12 st12
  have ne_cp_b12 : cp ≠ b12 := Nat.ne_of_lt (Nat.lt_of_lt_of_le P1.lt (Nat.le_of_eq g12.symm))
  have ne_fa_b12 : fa ≠ b12 := Nat.ne_of_lt (Nat.lt_of_lt_of_le P5.lt (Nat.le_of_eq g12.symm))
  have ne_su_b12 : su ≠ b12 := Nat.ne_of_lt (Nat.lt_of_lt_of_le P9.lt (Nat.le_of_eq g12.symm))
  have ne_sa_b12 : sa ≠ b12 := Nat.ne_of_lt (Nat.lt_of_lt_of_le P13.lt (Nat.le_of_eq g12.symm))
  have ge_b12 : n0 ≤ b12 := Nat.le_trans Z0 (Nat.le_of_eq g12.symm)
  have sz_b12 : h0.size ≤ b12 := Nat.le_trans (Keep.refl h0 []).1 (Nat.le_of_eq g12.symm)
  refine own_go (fun t k => st12 _ k) ?_
  have K12 : Keep h0 h12 [] := (Keep.refl h0 []).ext E12
  have Z12 : n0 ≤ h12.size := Nat.le_trans Z0 E12.1
  have V12 : Arv Z h12 b12 k12 .int (8 : Int32) [(.int (0 : Int32)), (.int (0 : Int32)), (.int (0 : Int32)), (.int (0 : Int32)), (.int (0 : Int32)), (.int (0 : Int32)), (.int (0 : Int32)), (.int (0 : Int32))] (.int (0 : Int32)) := (Arv.new A12 (by decide)).pad (pad_rep [] (.int (0 : Int32)) 8)
  show own_Gl _ _ _ _ (T12.setTop (mkF m 8 #[.val (.int p0), .val (.int p1), .val (.int p2), .val (.int (p0 &&& (3 : Int32))), .unset, .unset, .unset, .unset] [(.ref b12)]))
  refine own_go (fun t k => XS.dup X12.here hx rfl (hb hby at_8) rfl rfl k) ?_
  show own_Gl _ _ _ _ (T12.setTop (mkF m 9 #[.val (.int p0), .val (.int p1), .val (.int p2), .val (.int (p0 &&& (3 : Int32))), .unset, .unset, .unset, .unset] [(.ref b12), (.ref b12)]))
  refine own_go (fun t k => XS.iconst X12.here hx rfl (hb hby at_9) k) ?_
  show own_Gl _ _ _ _ (T12.setTop (mkF m 10 #[.val (.int p0), .val (.int p1), .val (.int p2), .val (.int (p0 &&& (3 : Int32))), .unset, .unset, .unset, .unset] [(.int (0 : Int32)), (.ref b12), (.ref b12)]))
  refine own_go (fun t k => XS.bipush X12.here hx rfl (hb hby at_10) k) ?_
  show own_Gl _ _ _ _ (T12.setTop (mkF m 12 #[.val (.int p0), .val (.int p1), .val (.int p2), .val (.int (p0 &&& (3 : Int32))), .unset, .unset, .unset, .unset] [(.int (41 : Int32)), (.int (0 : Int32)), (.ref b12), (.ref b12)]))
  obtain ⟨cl13, Ar13, qk13, S13, M13, H13, G13⟩ := id V12
  have hin13 : ¬ ((0 : Int32) < 0 ∨ cl13.slots.size ≤ ((0 : Int32)).toNatClampNeg) := inb_of S13 ⟨by decide, by decide⟩
  obtain ⟨T13, h13, X13, e13, W13, st13⟩ := stI X12 hx hZ e12 Ar13 (j := (0 : Int32)) hin13 (g := (mkF m 12 #[.val (.int p0), .val (.int p1), .val (.int p2), .val (.int (p0 &&& (3 : Int32))), .unset, .unset, .unset, .unset] [(.int (41 : Int32)), (.int (0 : Int32)), (.ref b12), (.ref b12)])) rfl rfl (hb hby at_12)
  refine own_go (fun t k => st13 _ k) ?_
  have V13 : Arv Z h13 b12 k12 .int (8 : Int32) [(.int (41 : Int32)), (.int (0 : Int32)), (.int (0 : Int32)), (.int (0 : Int32)), (.int (0 : Int32)), (.int (0 : Int32)), (.int (0 : Int32)), (.int (0 : Int32))] (.int (0 : Int32)) := Arv.set Ar13 qk13 S13 M13 H13 G13 rfl W13 0 rfl (Nat.le_of_ble_eq_true rfl)
  have K13 : Keep h0 h13 [] := K12.wr W13 (Or.inr sz_b12)
  have N13 := Fr.snoc X13 N0 ge_b12
  have Z13 : n0 ≤ h13.size := Nat.le_trans Z12 (Keep.of_wr W13).1
  show own_Gl _ _ _ _ (T13.setTop (mkF m 13 #[.val (.int p0), .val (.int p1), .val (.int p2), .val (.int (p0 &&& (3 : Int32))), .unset, .unset, .unset, .unset] [(.ref b12)]))
  refine own_go (fun t k => XS.dup X13.here hx rfl (hb hby at_13) rfl rfl k) ?_
  show own_Gl _ _ _ _ (T13.setTop (mkF m 14 #[.val (.int p0), .val (.int p1), .val (.int p2), .val (.int (p0 &&& (3 : Int32))), .unset, .unset, .unset, .unset] [(.ref b12), (.ref b12)]))
  refine own_go (fun t k => XS.iconst X13.here hx rfl (hb hby at_14) k) ?_
  show own_Gl _ _ _ _ (T13.setTop (mkF m 15 #[.val (.int p0), .val (.int p1), .val (.int p2), .val (.int (p0 &&& (3 : Int32))), .unset, .unset, .unset, .unset] [(.int (1 : Int32)), (.ref b12), (.ref b12)]))
  refine own_go (fun t k => XS.bipush X13.here hx rfl (hb hby at_15) k) ?_
  show own_Gl _ _ _ _ (T13.setTop (mkF m 17 #[.val (.int p0), .val (.int p1), .val (.int p2), .val (.int (p0 &&& (3 : Int32))), .unset, .unset, .unset, .unset] [(.int (59 : Int32)), (.int (1 : Int32)), (.ref b12), (.ref b12)]))
  obtain ⟨cl14, Ar14, qk14, S14, M14, H14, G14⟩ := id V13
  have hin14 : ¬ ((1 : Int32) < 0 ∨ cl14.slots.size ≤ ((1 : Int32)).toNatClampNeg) := inb_of S14 ⟨by decide, by decide⟩
  obtain ⟨T14, h14, X14, e14, W14, st14⟩ := stI X13 hx hZ e13 Ar14 (j := (1 : Int32)) hin14 (g := (mkF m 17 #[.val (.int p0), .val (.int p1), .val (.int p2), .val (.int (p0 &&& (3 : Int32))), .unset, .unset, .unset, .unset] [(.int (59 : Int32)), (.int (1 : Int32)), (.ref b12), (.ref b12)])) rfl rfl (hb hby at_17)
  refine own_go (fun t k => st14 _ k) ?_
  have V14 : Arv Z h14 b12 k12 .int (8 : Int32) [(.int (41 : Int32)), (.int (59 : Int32)), (.int (0 : Int32)), (.int (0 : Int32)), (.int (0 : Int32)), (.int (0 : Int32)), (.int (0 : Int32)), (.int (0 : Int32))] (.int (0 : Int32)) := Arv.set Ar14 qk14 S14 M14 H14 G14 rfl W14 1 rfl (Nat.le_of_ble_eq_true rfl)
  have K14 : Keep h0 h14 [] := K13.wr W14 (Or.inr sz_b12)
  have N14 := Fr.snoc X14 N13 ge_b12
  have Z14 : n0 ≤ h14.size := Nat.le_trans Z13 (Keep.of_wr W14).1
  show own_Gl _ _ _ _ (T14.setTop (mkF m 18 #[.val (.int p0), .val (.int p1), .val (.int p2), .val (.int (p0 &&& (3 : Int32))), .unset, .unset, .unset, .unset] [(.ref b12)]))
  refine own_go (fun t k => XS.dup X14.here hx rfl (hb hby at_18) rfl rfl k) ?_
  show own_Gl _ _ _ _ (T14.setTop (mkF m 19 #[.val (.int p0), .val (.int p1), .val (.int p2), .val (.int (p0 &&& (3 : Int32))), .unset, .unset, .unset, .unset] [(.ref b12), (.ref b12)]))
  refine own_go (fun t k => XS.iconst X14.here hx rfl (hb hby at_19) k) ?_
  show own_Gl _ _ _ _ (T14.setTop (mkF m 20 #[.val (.int p0), .val (.int p1), .val (.int p2), .val (.int (p0 &&& (3 : Int32))), .unset, .unset, .unset, .unset] [(.int (2 : Int32)), (.ref b12), (.ref b12)]))
  refine own_go (fun t k => XS.bipush X14.here hx rfl (hb hby at_20) k) ?_
  show own_Gl _ _ _ _ (T14.setTop (mkF m 22 #[.val (.int p0), .val (.int p1), .val (.int p2), .val (.int (p0 &&& (3 : Int32))), .unset, .unset, .unset, .unset] [(.int (125 : Int32)), (.int (2 : Int32)), (.ref b12), (.ref b12)]))
  obtain ⟨cl15, Ar15, qk15, S15, M15, H15, G15⟩ := id V14
  have hin15 : ¬ ((2 : Int32) < 0 ∨ cl15.slots.size ≤ ((2 : Int32)).toNatClampNeg) := inb_of S15 ⟨by decide, by decide⟩
  obtain ⟨T15, h15, X15, e15, W15, st15⟩ := stI X14 hx hZ e14 Ar15 (j := (2 : Int32)) hin15 (g := (mkF m 22 #[.val (.int p0), .val (.int p1), .val (.int p2), .val (.int (p0 &&& (3 : Int32))), .unset, .unset, .unset, .unset] [(.int (125 : Int32)), (.int (2 : Int32)), (.ref b12), (.ref b12)])) rfl rfl (hb hby at_22)
  refine own_go (fun t k => st15 _ k) ?_
  have V15 : Arv Z h15 b12 k12 .int (8 : Int32) [(.int (41 : Int32)), (.int (59 : Int32)), (.int (125 : Int32)), (.int (0 : Int32)), (.int (0 : Int32)), (.int (0 : Int32)), (.int (0 : Int32)), (.int (0 : Int32))] (.int (0 : Int32)) := Arv.set Ar15 qk15 S15 M15 H15 G15 rfl W15 2 rfl (Nat.le_of_ble_eq_true rfl)
  have K15 : Keep h0 h15 [] := K14.wr W15 (Or.inr sz_b12)
  have N15 := Fr.snoc X15 N14 ge_b12
  have Z15 : n0 ≤ h15.size := Nat.le_trans Z14 (Keep.of_wr W15).1
  show own_Gl _ _ _ _ (T15.setTop (mkF m 23 #[.val (.int p0), .val (.int p1), .val (.int p2), .val (.int (p0 &&& (3 : Int32))), .unset, .unset, .unset, .unset] [(.ref b12)]))
  refine own_go (fun t k => XS.dup X15.here hx rfl (hb hby at_23) rfl rfl k) ?_
  show own_Gl _ _ _ _ (T15.setTop (mkF m 24 #[.val (.int p0), .val (.int p1), .val (.int p2), .val (.int (p0 &&& (3 : Int32))), .unset, .unset, .unset, .unset] [(.ref b12), (.ref b12)]))
  refine own_go (fun t k => XS.iconst X15.here hx rfl (hb hby at_24) k) ?_
  show own_Gl _ _ _ _ (T15.setTop (mkF m 25 #[.val (.int p0), .val (.int p1), .val (.int p2), .val (.int (p0 &&& (3 : Int32))), .unset, .unset, .unset, .unset] [(.int (3 : Int32)), (.ref b12), (.ref b12)]))
  refine own_go (fun t k => XS.bipush X15.here hx rfl (hb hby at_25) k) ?_
  show own_Gl _ _ _ _ (T15.setTop (mkF m 27 #[.val (.int p0), .val (.int p1), .val (.int p2), .val (.int (p0 &&& (3 : Int32))), .unset, .unset, .unset, .unset] [(.int (58 : Int32)), (.int (3 : Int32)), (.ref b12), (.ref b12)]))
  obtain ⟨cl16, Ar16, qk16, S16, M16, H16, G16⟩ := id V15
  have hin16 : ¬ ((3 : Int32) < 0 ∨ cl16.slots.size ≤ ((3 : Int32)).toNatClampNeg) := inb_of S16 ⟨by decide, by decide⟩
  obtain ⟨T16, h16, X16, e16, W16, st16⟩ := stI X15 hx hZ e15 Ar16 (j := (3 : Int32)) hin16 (g := (mkF m 27 #[.val (.int p0), .val (.int p1), .val (.int p2), .val (.int (p0 &&& (3 : Int32))), .unset, .unset, .unset, .unset] [(.int (58 : Int32)), (.int (3 : Int32)), (.ref b12), (.ref b12)])) rfl rfl (hb hby at_27)
  refine own_go (fun t k => st16 _ k) ?_
  have V16 : Arv Z h16 b12 k12 .int (8 : Int32) [(.int (41 : Int32)), (.int (59 : Int32)), (.int (125 : Int32)), (.int (58 : Int32)), (.int (0 : Int32)), (.int (0 : Int32)), (.int (0 : Int32)), (.int (0 : Int32))] (.int (0 : Int32)) := Arv.set Ar16 qk16 S16 M16 H16 G16 rfl W16 3 rfl (Nat.le_of_ble_eq_true rfl)
  have K16 : Keep h0 h16 [] := K15.wr W16 (Or.inr sz_b12)
  have N16 := Fr.snoc X16 N15 ge_b12
  have Z16 : n0 ≤ h16.size := Nat.le_trans Z15 (Keep.of_wr W16).1
  show own_Gl _ _ _ _ (T16.setTop (mkF m 28 #[.val (.int p0), .val (.int p1), .val (.int p2), .val (.int (p0 &&& (3 : Int32))), .unset, .unset, .unset, .unset] [(.ref b12)]))
  refine own_go (fun t k => XS.dup X16.here hx rfl (hb hby at_28) rfl rfl k) ?_
  show own_Gl _ _ _ _ (T16.setTop (mkF m 29 #[.val (.int p0), .val (.int p1), .val (.int p2), .val (.int (p0 &&& (3 : Int32))), .unset, .unset, .unset, .unset] [(.ref b12), (.ref b12)]))
  refine own_go (fun t k => XS.iconst X16.here hx rfl (hb hby at_29) k) ?_
  show own_Gl _ _ _ _ (T16.setTop (mkF m 30 #[.val (.int p0), .val (.int p1), .val (.int p2), .val (.int (p0 &&& (3 : Int32))), .unset, .unset, .unset, .unset] [(.int (4 : Int32)), (.ref b12), (.ref b12)]))
  refine own_go (fun t k => XS.iconst X16.here hx rfl (hb hby at_30) k) ?_
  show own_Gl _ _ _ _ (T16.setTop (mkF m 31 #[.val (.int p0), .val (.int p1), .val (.int p2), .val (.int (p0 &&& (3 : Int32))), .unset, .unset, .unset, .unset] [(.int (-1 : Int32)), (.int (4 : Int32)), (.ref b12), (.ref b12)]))
  obtain ⟨cl17, Ar17, qk17, S17, M17, H17, G17⟩ := id V16
  have hin17 : ¬ ((4 : Int32) < 0 ∨ cl17.slots.size ≤ ((4 : Int32)).toNatClampNeg) := inb_of S17 ⟨by decide, by decide⟩
  obtain ⟨T17, h17, X17, e17, W17, st17⟩ := stI X16 hx hZ e16 Ar17 (j := (4 : Int32)) hin17 (g := (mkF m 31 #[.val (.int p0), .val (.int p1), .val (.int p2), .val (.int (p0 &&& (3 : Int32))), .unset, .unset, .unset, .unset] [(.int (-1 : Int32)), (.int (4 : Int32)), (.ref b12), (.ref b12)])) rfl rfl (hb hby at_31)
  refine own_go (fun t k => st17 _ k) ?_
  have V17 : Arv Z h17 b12 k12 .int (8 : Int32) [(.int (41 : Int32)), (.int (59 : Int32)), (.int (125 : Int32)), (.int (58 : Int32)), (.int (-1 : Int32)), (.int (0 : Int32)), (.int (0 : Int32)), (.int (0 : Int32))] (.int (0 : Int32)) := Arv.set Ar17 qk17 S17 M17 H17 G17 rfl W17 4 rfl (Nat.le_of_ble_eq_true rfl)
  have K17 : Keep h0 h17 [] := K16.wr W17 (Or.inr sz_b12)
  have N17 := Fr.snoc X17 N16 ge_b12
  have Z17 : n0 ≤ h17.size := Nat.le_trans Z16 (Keep.of_wr W17).1
  show own_Gl _ _ _ _ (T17.setTop (mkF m 32 #[.val (.int p0), .val (.int p1), .val (.int p2), .val (.int (p0 &&& (3 : Int32))), .unset, .unset, .unset, .unset] [(.ref b12)]))
  refine own_go (fun t k => XS.dup X17.here hx rfl (hb hby at_32) rfl rfl k) ?_
  show own_Gl _ _ _ _ (T17.setTop (mkF m 33 #[.val (.int p0), .val (.int p1), .val (.int p2), .val (.int (p0 &&& (3 : Int32))), .unset, .unset, .unset, .unset] [(.ref b12), (.ref b12)]))
  refine own_go (fun t k => XS.iconst X17.here hx rfl (hb hby at_33) k) ?_
  show own_Gl _ _ _ _ (T17.setTop (mkF m 34 #[.val (.int p0), .val (.int p1), .val (.int p2), .val (.int (p0 &&& (3 : Int32))), .unset, .unset, .unset, .unset] [(.int (5 : Int32)), (.ref b12), (.ref b12)]))
  refine own_go (fun t k => XS.bipush X17.here hx rfl (hb hby at_34) k) ?_
  show own_Gl _ _ _ _ (T17.setTop (mkF m 36 #[.val (.int p0), .val (.int p1), .val (.int p2), .val (.int (p0 &&& (3 : Int32))), .unset, .unset, .unset, .unset] [(.int (40 : Int32)), (.int (5 : Int32)), (.ref b12), (.ref b12)]))
  obtain ⟨cl18, Ar18, qk18, S18, M18, H18, G18⟩ := id V17
  have hin18 : ¬ ((5 : Int32) < 0 ∨ cl18.slots.size ≤ ((5 : Int32)).toNatClampNeg) := inb_of S18 ⟨by decide, by decide⟩
  obtain ⟨T18, h18, X18, e18, W18, st18⟩ := stI X17 hx hZ e17 Ar18 (j := (5 : Int32)) hin18 (g := (mkF m 36 #[.val (.int p0), .val (.int p1), .val (.int p2), .val (.int (p0 &&& (3 : Int32))), .unset, .unset, .unset, .unset] [(.int (40 : Int32)), (.int (5 : Int32)), (.ref b12), (.ref b12)])) rfl rfl (hb hby at_36)
  refine own_go (fun t k => st18 _ k) ?_
  have V18 : Arv Z h18 b12 k12 .int (8 : Int32) [(.int (41 : Int32)), (.int (59 : Int32)), (.int (125 : Int32)), (.int (58 : Int32)), (.int (-1 : Int32)), (.int (40 : Int32)), (.int (0 : Int32)), (.int (0 : Int32))] (.int (0 : Int32)) := Arv.set Ar18 qk18 S18 M18 H18 G18 rfl W18 5 rfl (Nat.le_of_ble_eq_true rfl)
  have K18 : Keep h0 h18 [] := K17.wr W18 (Or.inr sz_b12)
  have N18 := Fr.snoc X18 N17 ge_b12
  have Z18 : n0 ≤ h18.size := Nat.le_trans Z17 (Keep.of_wr W18).1
  show own_Gl _ _ _ _ (T18.setTop (mkF m 37 #[.val (.int p0), .val (.int p1), .val (.int p2), .val (.int (p0 &&& (3 : Int32))), .unset, .unset, .unset, .unset] [(.ref b12)]))
  refine own_go (fun t k => XS.dup X18.here hx rfl (hb hby at_37) rfl rfl k) ?_
  show own_Gl _ _ _ _ (T18.setTop (mkF m 38 #[.val (.int p0), .val (.int p1), .val (.int p2), .val (.int (p0 &&& (3 : Int32))), .unset, .unset, .unset, .unset] [(.ref b12), (.ref b12)]))
  refine own_go (fun t k => XS.bipush X18.here hx rfl (hb hby at_38) k) ?_
  show own_Gl _ _ _ _ (T18.setTop (mkF m 40 #[.val (.int p0), .val (.int p1), .val (.int p2), .val (.int (p0 &&& (3 : Int32))), .unset, .unset, .unset, .unset] [(.int (6 : Int32)), (.ref b12), (.ref b12)]))
  refine own_go (fun t k => XS.bipush X18.here hx rfl (hb hby at_40) k) ?_
  show own_Gl _ _ _ _ (T18.setTop (mkF m 42 #[.val (.int p0), .val (.int p1), .val (.int p2), .val (.int (p0 &&& (3 : Int32))), .unset, .unset, .unset, .unset] [(.int (123 : Int32)), (.int (6 : Int32)), (.ref b12), (.ref b12)]))
  obtain ⟨cl19, Ar19, qk19, S19, M19, H19, G19⟩ := id V18
  have hin19 : ¬ ((6 : Int32) < 0 ∨ cl19.slots.size ≤ ((6 : Int32)).toNatClampNeg) := inb_of S19 ⟨by decide, by decide⟩
  obtain ⟨T19, h19, X19, e19, W19, st19⟩ := stI X18 hx hZ e18 Ar19 (j := (6 : Int32)) hin19 (g := (mkF m 42 #[.val (.int p0), .val (.int p1), .val (.int p2), .val (.int (p0 &&& (3 : Int32))), .unset, .unset, .unset, .unset] [(.int (123 : Int32)), (.int (6 : Int32)), (.ref b12), (.ref b12)])) rfl rfl (hb hby at_42)
  refine own_go (fun t k => st19 _ k) ?_
  have V19 : Arv Z h19 b12 k12 .int (8 : Int32) [(.int (41 : Int32)), (.int (59 : Int32)), (.int (125 : Int32)), (.int (58 : Int32)), (.int (-1 : Int32)), (.int (40 : Int32)), (.int (123 : Int32)), (.int (0 : Int32))] (.int (0 : Int32)) := Arv.set Ar19 qk19 S19 M19 H19 G19 rfl W19 6 rfl (Nat.le_of_ble_eq_true rfl)
  have K19 : Keep h0 h19 [] := K18.wr W19 (Or.inr sz_b12)
  have N19 := Fr.snoc X19 N18 ge_b12
  have Z19 : n0 ≤ h19.size := Nat.le_trans Z18 (Keep.of_wr W19).1
  show own_Gl _ _ _ _ (T19.setTop (mkF m 43 #[.val (.int p0), .val (.int p1), .val (.int p2), .val (.int (p0 &&& (3 : Int32))), .unset, .unset, .unset, .unset] [(.ref b12)]))
  refine own_go (fun t k => XS.dup X19.here hx rfl (hb hby at_43) rfl rfl k) ?_
  show own_Gl _ _ _ _ (T19.setTop (mkF m 44 #[.val (.int p0), .val (.int p1), .val (.int p2), .val (.int (p0 &&& (3 : Int32))), .unset, .unset, .unset, .unset] [(.ref b12), (.ref b12)]))
  refine own_go (fun t k => XS.bipush X19.here hx rfl (hb hby at_44) k) ?_
  show own_Gl _ _ _ _ (T19.setTop (mkF m 46 #[.val (.int p0), .val (.int p1), .val (.int p2), .val (.int (p0 &&& (3 : Int32))), .unset, .unset, .unset, .unset] [(.int (7 : Int32)), (.ref b12), (.ref b12)]))
  refine own_go (fun t k => XS.bipush X19.here hx rfl (hb hby at_46) k) ?_
  show own_Gl _ _ _ _ (T19.setTop (mkF m 48 #[.val (.int p0), .val (.int p1), .val (.int p2), .val (.int (p0 &&& (3 : Int32))), .unset, .unset, .unset, .unset] [(.int (93 : Int32)), (.int (7 : Int32)), (.ref b12), (.ref b12)]))
  obtain ⟨cl20, Ar20, qk20, S20, M20, H20, G20⟩ := id V19
  have hin20 : ¬ ((7 : Int32) < 0 ∨ cl20.slots.size ≤ ((7 : Int32)).toNatClampNeg) := inb_of S20 ⟨by decide, by decide⟩
  obtain ⟨T20, h20, X20, e20, W20, st20⟩ := stI X19 hx hZ e19 Ar20 (j := (7 : Int32)) hin20 (g := (mkF m 48 #[.val (.int p0), .val (.int p1), .val (.int p2), .val (.int (p0 &&& (3 : Int32))), .unset, .unset, .unset, .unset] [(.int (93 : Int32)), (.int (7 : Int32)), (.ref b12), (.ref b12)])) rfl rfl (hb hby at_48)
  refine own_go (fun t k => st20 _ k) ?_
  have V20 : Arv Z h20 b12 k12 .int (8 : Int32) [(.int (41 : Int32)), (.int (59 : Int32)), (.int (125 : Int32)), (.int (58 : Int32)), (.int (-1 : Int32)), (.int (40 : Int32)), (.int (123 : Int32)), (.int (93 : Int32))] (.int (0 : Int32)) := Arv.set Ar20 qk20 S20 M20 H20 G20 rfl W20 7 rfl (Nat.le_of_ble_eq_true rfl)
  have K20 : Keep h0 h20 [] := K19.wr W20 (Or.inr sz_b12)
  have N20 := Fr.snoc X20 N19 ge_b12
  have Z20 : n0 ≤ h20.size := Nat.le_trans Z19 (Keep.of_wr W20).1
  show own_Gl _ _ _ _ (T20.setTop (mkF m 49 #[.val (.int p0), .val (.int p1), .val (.int p2), .val (.int (p0 &&& (3 : Int32))), .unset, .unset, .unset, .unset] [(.ref b12)]))
  refine own_go (fun t k => XS.astore X20.here hx rfl (hb hby at_49) rfl rfl (l' := #[.val (.int p0), .val (.int p1), .val (.int p2), .val (.int (p0 &&& (3 : Int32))), .val (.ref b12), .unset, .unset, .unset]) rfl k) ?_
  show own_Gl _ _ _ _ (T20.setTop (mkF m 51 #[.val (.int p0), .val (.int p1), .val (.int p2), .val (.int (p0 &&& (3 : Int32))), .val (.ref b12), .unset, .unset, .unset] []))
  refine own_go (fun t k => XS.iloadN X20.here hx rfl (hb hby at_51) rfl k) ?_
  show own_Gl _ _ _ _ (T20.setTop (mkF m 52 #[.val (.int p0), .val (.int p1), .val (.int p2), .val (.int (p0 &&& (3 : Int32))), .val (.ref b12), .unset, .unset, .unset] [(.int p2)]))
  refine own_go (fun t k => XS.bipush X20.here hx rfl (hb hby at_52) k) ?_
  show own_Gl _ _ _ _ (T20.setTop (mkF m 54 #[.val (.int p0), .val (.int p1), .val (.int p2), .val (.int (p0 &&& (3 : Int32))), .val (.ref b12), .unset, .unset, .unset] [(.int (8 : Int32)), (.int p2)]))
  refine own_go (fun t k => XS.iand X20.here hx rfl (hb hby at_54) rfl k) ?_
  show own_Gl _ _ _ _ (T20.setTop (mkF m 55 #[.val (.int p0), .val (.int p1), .val (.int p2), .val (.int (p0 &&& (3 : Int32))), .val (.ref b12), .unset, .unset, .unset] [(.int (p2 &&& (8 : Int32)))]))
  by_cases hc55_21 : (p2 &&& (8 : Int32)) = (0 : Int32)
  · refine own_go (fun t k => XS.ifYes X20.here hx rfl (pc0 := 55) (pc' := 62) rfl (hb hby at_55) rfl ((if0 _ _).trans (teq hc55_21).1) (by decide) (by decide) k) ?_
    show own_Gl _ _ _ _ (T20.setTop (mkF m 62 #[.val (.int p0), .val (.int p1), .val (.int p2), .val (.int (p0 &&& (3 : Int32))), .val (.ref b12), .unset, .unset, .unset] []))
    refine own_go (fun t k => XS.aload X20.here hx rfl (hb hby at_62) rfl rfl k) ?_
    show own_Gl _ _ _ _ (T20.setTop (mkF m 64 #[.val (.int p0), .val (.int p1), .val (.int p2), .val (.int (p0 &&& (3 : Int32))), .val (.ref b12), .unset, .unset, .unset] [(.ref b12)]))
    refine own_go (fun t k => XS.iloadN X20.here hx rfl (hb hby at_64) rfl k) ?_
    show own_Gl _ _ _ _ (T20.setTop (mkF m 65 #[.val (.int p0), .val (.int p1), .val (.int p2), .val (.int (p0 &&& (3 : Int32))), .val (.ref b12), .unset, .unset, .unset] [(.int p2), (.ref b12)]))
    refine own_go (fun t k => XS.bipush X20.here hx rfl (hb hby at_65) k) ?_
    show own_Gl _ _ _ _ (T20.setTop (mkF m 67 #[.val (.int p0), .val (.int p1), .val (.int p2), .val (.int (p0 &&& (3 : Int32))), .val (.ref b12), .unset, .unset, .unset] [(.int (7 : Int32)), (.int p2), (.ref b12)]))
    refine own_go (fun t k => XS.iand X20.here hx rfl (hb hby at_67) rfl k) ?_
    show own_Gl _ _ _ _ (T20.setTop (mkF m 68 #[.val (.int p0), .val (.int p1), .val (.int p2), .val (.int (p0 &&& (3 : Int32))), .val (.ref b12), .unset, .unset, .unset] [(.int (p2 &&& (7 : Int32))), (.ref b12)]))
    obtain ⟨cl22, Ar22, qk22, S22, M22, H22, G22⟩ := id V20
    have hin22 : ¬ ((p2 &&& (7 : Int32)) < 0 ∨ cl22.slots.size ≤ ((p2 &&& (7 : Int32))).toNatClampNeg) := inb_of S22 ⟨by have := own_and7 p2; rw [Int32.lt_iff_toInt_lt]; have z : (0 : Int32).toInt = 0 := rfl; omega, by have := own_and7 p2; rw [Int32.lt_iff_toInt_lt]; have z : (8 : Int32).toInt = 8 := rfl; omega⟩
    have hat22 : cl22.slots[((p2 &&& (7 : Int32))).toNatClampNeg]? = some (.int (own_sp (p2 &&& (7 : Int32)))) := H22.at hin22 (own_at _ (own_and7 p2).1 (own_and7 p2).2)
    refine own_go (fun t k => X20.iaload hx (j := (p2 &&& (7 : Int32))) (v := (.int (own_sp (p2 &&& (7 : Int32))))) (by rw [e20]; exact Ar22.1) (State.isArrayOf_alike hZ.alike Ar22.2.1) Ar22.2.2 hin22 hat22 (g := (mkF m 68 #[.val (.int p0), .val (.int p1), .val (.int p2), .val (.int (p0 &&& (3 : Int32))), .val (.ref b12), .unset, .unset, .unset] [(.int (p2 &&& (7 : Int32))), (.ref b12)])) rfl rfl (hb hby at_68) _ k) ?_
    show own_Gl _ _ _ _ (T20.setTop (mkF m 69 #[.val (.int p0), .val (.int p1), .val (.int p2), .val (.int (p0 &&& (3 : Int32))), .val (.ref b12), .unset, .unset, .unset] [(.int (own_sp (p2 &&& (7 : Int32))))]))
    refine own_go (fun t k => XS.istore X20.here hx rfl (hb hby at_69) rfl (l' := #[.val (.int p0), .val (.int p1), .val (.int p2), .val (.int (p0 &&& (3 : Int32))), .val (.ref b12), .val (.int (own_sp (p2 &&& (7 : Int32)))), .unset, .unset]) rfl k) ?_
    show own_Gl _ _ _ _ (T20.setTop (mkF m 71 #[.val (.int p0), .val (.int p1), .val (.int p2), .val (.int (p0 &&& (3 : Int32))), .val (.ref b12), .val (.int (own_sp (p2 &&& (7 : Int32)))), .unset, .unset] []))
    refine own_go (fun t k => XS.iloadN X20.here hx rfl (hb hby at_71) rfl k) ?_
    show own_Gl _ _ _ _ (T20.setTop (mkF m 72 #[.val (.int p0), .val (.int p1), .val (.int p2), .val (.int (p0 &&& (3 : Int32))), .val (.ref b12), .val (.int (own_sp (p2 &&& (7 : Int32)))), .unset, .unset] [(.int (p0 &&& (3 : Int32)))]))
    by_cases hc72_23 : (p0 &&& (3 : Int32)) = (0 : Int32)
    · refine own_go (fun t k => XS.ifNo X20.here hx rfl (hb hby at_72) rfl ((if0 _ _).trans (teq hc72_23).2) k) ?_
      show own_Gl _ _ _ _ (T20.setTop (mkF m 75 #[.val (.int p0), .val (.int p1), .val (.int p2), .val (.int (p0 &&& (3 : Int32))), .val (.ref b12), .val (.int (own_sp (p2 &&& (7 : Int32)))), .unset, .unset] []))
      have f_25 : Sta Z h20 "org/loomstyle/parse/ExpressionParser$RawText" "CUSTOM_PROPERTY" "Lorg/loomstyle/parse/ExpressionParser$RawText;" (.ref cp) := (P0.ext (own_ext K20))
      obtain ⟨T24, X24, e24, st24⟩ := getS2 X20 hx hZ hown (host := "") (Or.inl (hw _ (List.mem_of_getElem? (i := 1) rfl))) Via.refl e20 f_25 (g := (mkF m 75 #[.val (.int p0), .val (.int p1), .val (.int p2), .val (.int (p0 &&& (3 : Int32))), .val (.ref b12), .val (.int (own_sp (p2 &&& (7 : Int32)))), .unset, .unset] [])) rfl (hb hby at_75)
      refine own_go (fun t k => st24 _ k) ?_
      show own_Gl _ _ _ _ (T24.setTop (mkF m 78 #[.val (.int p0), .val (.int p1), .val (.int p2), .val (.int (p0 &&& (3 : Int32))), .val (.ref b12), .val (.int (own_sp (p2 &&& (7 : Int32)))), .unset, .unset] [(.ref cp)]))
      refine own_go (fun t k => XS.astore X24.here hx rfl (hb hby at_78) rfl rfl (l' := #[.val (.int p0), .val (.int p1), .val (.int p2), .val (.int (p0 &&& (3 : Int32))), .val (.ref b12), .val (.int (own_sp (p2 &&& (7 : Int32)))), .val (.ref cp), .unset]) rfl k) ?_
      show own_Gl _ _ _ _ (T24.setTop (mkF m 80 #[.val (.int p0), .val (.int p1), .val (.int p2), .val (.int (p0 &&& (3 : Int32))), .val (.ref b12), .val (.int (own_sp (p2 &&& (7 : Int32)))), .val (.ref cp), .unset] []))
      refine own_go (fun t k => XS.goto X24.here hx rfl (pc0 := 80) (pc' := 114) rfl (hb hby at_80) (by decide) (by decide) k) ?_
      show own_Gl _ _ _ _ (T24.setTop (mkF m 114 #[.val (.int p0), .val (.int p1), .val (.int p2), .val (.int (p0 &&& (3 : Int32))), .val (.ref b12), .val (.int (own_sp (p2 &&& (7 : Int32)))), .val (.ref cp), .unset] []))
      refine own_go (fun t k => XS.iloadN X24.here hx rfl (hb hby at_114) rfl k) ?_
      show own_Gl _ _ _ _ (T24.setTop (mkF m 115 #[.val (.int p0), .val (.int p1), .val (.int p2), .val (.int (p0 &&& (3 : Int32))), .val (.ref b12), .val (.int (own_sp (p2 &&& (7 : Int32)))), .val (.ref cp), .unset] [(.int (p0 &&& (3 : Int32)))]))
      refine own_go (fun t k => XS.ifNo X24.here hx rfl (hb hby at_115) rfl ((if0 _ _).trans (teq hc72_23).2) k) ?_
      show own_Gl _ _ _ _ (T24.setTop (mkF m 118 #[.val (.int p0), .val (.int p1), .val (.int p2), .val (.int (p0 &&& (3 : Int32))), .val (.ref b12), .val (.int (own_sp (p2 &&& (7 : Int32)))), .val (.ref cp), .unset] []))
      refine own_go (fun t k => XS.iload X24.here hx rfl (hb hby at_118) rfl k) ?_
      show own_Gl _ _ _ _ (T24.setTop (mkF m 120 #[.val (.int p0), .val (.int p1), .val (.int p2), .val (.int (p0 &&& (3 : Int32))), .val (.ref b12), .val (.int (own_sp (p2 &&& (7 : Int32)))), .val (.ref cp), .unset] [(.int (own_sp (p2 &&& (7 : Int32))))]))
      refine own_go (fun t k => XS.bipush X24.here hx rfl (hb hby at_120) k) ?_
      show own_Gl _ _ _ _ (T24.setTop (mkF m 122 #[.val (.int p0), .val (.int p1), .val (.int p2), .val (.int (p0 &&& (3 : Int32))), .val (.ref b12), .val (.int (own_sp (p2 &&& (7 : Int32)))), .val (.ref cp), .unset] [(.int (59 : Int32)), (.int (own_sp (p2 &&& (7 : Int32))))]))
      by_cases hc122_26 : (own_sp (p2 &&& (7 : Int32))) = (59 : Int32)
      · refine own_go (fun t k => XS.icmpYes X24.here hx rfl (pc0 := 122) (pc' := 132) rfl (hb hby at_122) rfl (teq hc122_26).1 (by decide) (by decide) k) ?_
        show own_Gl _ _ _ _ (T24.setTop (mkF m 132 #[.val (.int p0), .val (.int p1), .val (.int p2), .val (.int (p0 &&& (3 : Int32))), .val (.ref b12), .val (.int (own_sp (p2 &&& (7 : Int32)))), .val (.ref cp), .unset] []))
        refine own_go (fun t k => XS.iconst X24.here hx rfl (hb hby at_132) k) ?_
        show own_Gl _ _ _ _ (T24.setTop (mkF m 133 #[.val (.int p0), .val (.int p1), .val (.int p2), .val (.int (p0 &&& (3 : Int32))), .val (.ref b12), .val (.int (own_sp (p2 &&& (7 : Int32)))), .val (.ref cp), .unset] [(.int (1 : Int32))]))
        refine own_go (fun t k => XS.goto X24.here hx rfl (pc0 := 133) (pc' := 137) rfl (hb hby at_133) (by decide) (by decide) k) ?_
        show own_Gl _ _ _ _ (T24.setTop (mkF m 137 #[.val (.int p0), .val (.int p1), .val (.int p2), .val (.int (p0 &&& (3 : Int32))), .val (.ref b12), .val (.int (own_sp (p2 &&& (7 : Int32)))), .val (.ref cp), .unset] [(.int (1 : Int32))]))
        refine own_go (fun t k => XS.istore X24.here hx rfl (hb hby at_137) rfl (l' := #[.val (.int p0), .val (.int p1), .val (.int p2), .val (.int (p0 &&& (3 : Int32))), .val (.ref b12), .val (.int (own_sp (p2 &&& (7 : Int32)))), .val (.ref cp), .val (.int (1 : Int32))]) rfl k) ?_
        show own_Gl _ _ _ _ (T24.setTop (mkF m 139 #[.val (.int p0), .val (.int p1), .val (.int p2), .val (.int (p0 &&& (3 : Int32))), .val (.ref b12), .val (.int (own_sp (p2 &&& (7 : Int32)))), .val (.ref cp), .val (.int (1 : Int32))] []))
        refine own_go (fun t k => XS.goto X24.here hx rfl (pc0 := 139) (pc' := 185) rfl (hb hby at_139) (by decide) (by decide) k) ?_
        show own_Gl _ _ _ _ (T24.setTop (mkF m 185 #[.val (.int p0), .val (.int p1), .val (.int p2), .val (.int (p0 &&& (3 : Int32))), .val (.ref b12), .val (.int (own_sp (p2 &&& (7 : Int32)))), .val (.ref cp), .val (.int (1 : Int32))] []))
        refine own_go (fun t k => XS.aload X24.here hx rfl (hb hby at_185) rfl rfl k) ?_
        show own_Gl _ _ _ _ (T24.setTop (mkF m 187 #[.val (.int p0), .val (.int p1), .val (.int p2), .val (.int (p0 &&& (3 : Int32))), .val (.ref b12), .val (.int (own_sp (p2 &&& (7 : Int32)))), .val (.ref cp), .val (.int (1 : Int32))] [(.ref cp)]))
        refine own_go (fun t k => XS.iload X24.here hx rfl (hb hby at_187) rfl k) ?_
        show own_Gl _ _ _ _ (T24.setTop (mkF m 189 #[.val (.int p0), .val (.int p1), .val (.int p2), .val (.int (p0 &&& (3 : Int32))), .val (.ref b12), .val (.int (own_sp (p2 &&& (7 : Int32)))), .val (.ref cp), .val (.int (1 : Int32))] [(.int (own_sp (p2 &&& (7 : Int32)))), (.ref cp)]))
        have f_27 : Fld Z h20 cp "org/loomstyle/parse/ExpressionParser$RawText" "endsAtParenthesis" "Z" (.int (0 : Int32)) := (P2.ext (own_ext K20))
        have f_28 : Fld Z h20 cp "org/loomstyle/parse/ExpressionParser$RawText" "endsAtColon" "Z" (.int (0 : Int32)) := (P3.ext (own_ext K20))
        have f_30 : Exa Z h20 cp "org/loomstyle/parse/ExpressionParser$RawText" := (P1.ext (own_ext K20))
        obtain ⟨cq29, kq29, q29a, q29b, q29c⟩ := isOf hZ e24 f_30
        obtain ⟨_, _, ⟨T29, L29, kk29, nn29⟩, -, X29, ⟨Lc29, hQ29, l29, y29, z29⟩, st29⟩ := X24.virtualBack hx (y := (⟨"org/loomstyle/parse/ExpressionParser$RawText", "endsAt", "(I)Z"⟩ : MethodName)) (z := (⟨"org/loomstyle/parse/ExpressionParser$RawText", "endsAt", "(I)Z"⟩ : MethodName)) hown (mvT hZ (hw _ (List.mem_of_getElem? (i := 4) rfl))) (mvT hZ (hw _ (List.mem_of_getElem? (i := 5) rfl))) (notFace_of_selects (args := #[]) (mvT hZ (hw _ (List.mem_of_getElem? (i := 7) rfl)))) (mvT hZ (hw _ (List.mem_of_getElem? (i := 7) rfl))) (mvT hZ (hw _ (List.mem_of_getElem? (i := 6) rfl))) (by decide) (backOf (W := 0) (rm1 l Z a0 hw [] cp (own_sp (p2 &&& (7 : Int32))) (0 : Int32) (0 : Int32) h20 n0 Z20 f_27 f_28) hZ (hw _ (List.mem_of_getElem? (i := 8) rfl)) (hw _ (List.mem_of_getElem? (i := 2) rfl)) (by decide) (by decide)) q29a q29c (g := (mkF m 189 #[.val (.int p0), .val (.int p1), .val (.int p2), .val (.int (p0 &&& (3 : Int32))), .val (.ref b12), .val (.int (own_sp (p2 &&& (7 : Int32)))), .val (.ref cp), .val (.int (1 : Int32))] [(.int (own_sp (p2 &&& (7 : Int32)))), (.ref cp)])) rfl (by rw [hml]; rfl) (Steps.refl _) (argsL := [(.int (own_sp (p2 &&& (7 : Int32))))]) (rest := []) (lenOf pd_0 rfl) rfl (by show 2 * 0 + _ ≤ _; exact Nat.le_of_eq rfl) (hb hby at_189) (fun _ _ => ⟨rfl, e24, (by decide : 1 + 0 ≤ _), (by decide : 8 + 0 ≤ _)⟩)
        dsimp only [Pt.U, Pt.locs, Pt.cells, Pt.slots] at X29 l29 y29 z29 st29 hQ29
        subst l29 y29 z29
        obtain ⟨N29q, rfl, hq29⟩ := hQ29
        have N29 := Fr.app N20 N29q
        refine own_go (fun t k => st29.trans k) ?_
        show own_Gl _ _ _ _ (T29.setTop (mkF m 192 #[.val (.int p0), .val (.int p1), .val (.int p2), .val (.int (p0 &&& (3 : Int32))), .val (.ref b12), .val (.int (own_sp (p2 &&& (7 : Int32)))), .val (.ref cp), .val (.int (1 : Int32))] [(.int (f1 (own_sp (p2 &&& (7 : Int32))) (0 : Int32) (0 : Int32)))]))
        refine own_go (fun t k => XS.iload X29.here hx rfl (hb hby at_192) rfl k) ?_
        show own_Gl _ _ _ _ (T29.setTop (mkF m 194 #[.val (.int p0), .val (.int p1), .val (.int p2), .val (.int (p0 &&& (3 : Int32))), .val (.ref b12), .val (.int (own_sp (p2 &&& (7 : Int32)))), .val (.ref cp), .val (.int (1 : Int32))] [(.int (1 : Int32)), (.int (f1 (own_sp (p2 &&& (7 : Int32))) (0 : Int32) (0 : Int32)))]))
        by_cases hc194_31 : (f1 (own_sp (p2 &&& (7 : Int32))) (0 : Int32) (0 : Int32)) = (1 : Int32)
        · refine own_go (fun t k => XS.icmpNo X29.here hx rfl (hb hby at_194) rfl (teq hc194_31).2 k) ?_
          show own_Gl _ _ _ _ (T29.setTop (mkF m 197 #[.val (.int p0), .val (.int p1), .val (.int p2), .val (.int (p0 &&& (3 : Int32))), .val (.ref b12), .val (.int (own_sp (p2 &&& (7 : Int32)))), .val (.ref cp), .val (.int (1 : Int32))] []))
          refine own_go (fun t k => XS.iconst X29.here hx rfl (hb hby at_197) k) ?_
          show own_Gl _ _ _ _ (T29.setTop (mkF m 198 #[.val (.int p0), .val (.int p1), .val (.int p2), .val (.int (p0 &&& (3 : Int32))), .val (.ref b12), .val (.int (own_sp (p2 &&& (7 : Int32)))), .val (.ref cp), .val (.int (1 : Int32))] [(.int (1 : Int32))]))
          refine own_go (fun t k => XS.goto X29.here hx rfl (pc0 := 198) (pc' := 202) rfl (hb hby at_198) (by decide) (by decide) k) ?_
          show own_Gl _ _ _ _ (T29.setTop (mkF m 202 #[.val (.int p0), .val (.int p1), .val (.int p2), .val (.int (p0 &&& (3 : Int32))), .val (.ref b12), .val (.int (own_sp (p2 &&& (7 : Int32)))), .val (.ref cp), .val (.int (1 : Int32))] [(.int (1 : Int32))]))
          obtain ⟨fs, hr, hrun, hended, hW, hsame⟩ := X29.leave (v := some (.int (1 : Int32))) (fun h => by rw [Bd.returns] at h; cases h)
          refine own_fin (retN X29 hx (t := .boolean) Bd.returns (by simp) (hb hby at_202) hr) hrun hended ⟨_, _, rfl, ?_, ⟨_, rfl⟩, hW, hsame.mono (by decide) (by decide)⟩
          show Q0 Z p0 p1 p2 cp fa su sa h0 n0 _ T29.heap _
          rw [hq29]
          exact ⟨N29, by rw [f0, if_pos hc55_21, if_pos hc72_23, if_pos hc122_26, if_pos hc194_31]⟩
        · refine own_go (fun t k => XS.icmpYes X29.here hx rfl (pc0 := 194) (pc' := 201) rfl (hb hby at_194) rfl (feq hc194_31).2 (by decide) (by decide) k) ?_
          show own_Gl _ _ _ _ (T29.setTop (mkF m 201 #[.val (.int p0), .val (.int p1), .val (.int p2), .val (.int (p0 &&& (3 : Int32))), .val (.ref b12), .val (.int (own_sp (p2 &&& (7 : Int32)))), .val (.ref cp), .val (.int (1 : Int32))] []))
          refine own_go (fun t k => XS.iconst X29.here hx rfl (hb hby at_201) k) ?_
          show own_Gl _ _ _ _ (T29.setTop (mkF m 202 #[.val (.int p0), .val (.int p1), .val (.int p2), .val (.int (p0 &&& (3 : Int32))), .val (.ref b12), .val (.int (own_sp (p2 &&& (7 : Int32)))), .val (.ref cp), .val (.int (1 : Int32))] [(.int (0 : Int32))]))
          obtain ⟨fs, hr, hrun, hended, hW, hsame⟩ := X29.leave (v := some (.int (0 : Int32))) (fun h => by rw [Bd.returns] at h; cases h)
          refine own_fin (retN X29 hx (t := .boolean) Bd.returns (by simp) (hb hby at_202) hr) hrun hended ⟨_, _, rfl, ?_, ⟨_, rfl⟩, hW, hsame.mono (by decide) (by decide)⟩
          show Q0 Z p0 p1 p2 cp fa su sa h0 n0 _ T29.heap _
          rw [hq29]
          exact ⟨N29, by rw [f0, if_pos hc55_21, if_pos hc72_23, if_pos hc122_26, if_neg hc194_31]⟩
      · refine own_go (fun t k => XS.icmpNo X24.here hx rfl (hb hby at_122) rfl (feq hc122_26).1 k) ?_
        show own_Gl _ _ _ _ (T24.setTop (mkF m 125 #[.val (.int p0), .val (.int p1), .val (.int p2), .val (.int (p0 &&& (3 : Int32))), .val (.ref b12), .val (.int (own_sp (p2 &&& (7 : Int32)))), .val (.ref cp), .unset] []))
        refine own_go (fun t k => XS.iload X24.here hx rfl (hb hby at_125) rfl k) ?_
        show own_Gl _ _ _ _ (T24.setTop (mkF m 127 #[.val (.int p0), .val (.int p1), .val (.int p2), .val (.int (p0 &&& (3 : Int32))), .val (.ref b12), .val (.int (own_sp (p2 &&& (7 : Int32)))), .val (.ref cp), .unset] [(.int (own_sp (p2 &&& (7 : Int32))))]))
        refine own_go (fun t k => XS.bipush X24.here hx rfl (hb hby at_127) k) ?_
        show own_Gl _ _ _ _ (T24.setTop (mkF m 129 #[.val (.int p0), .val (.int p1), .val (.int p2), .val (.int (p0 &&& (3 : Int32))), .val (.ref b12), .val (.int (own_sp (p2 &&& (7 : Int32)))), .val (.ref cp), .unset] [(.int (125 : Int32)), (.int (own_sp (p2 &&& (7 : Int32))))]))
        by_cases hc129_32 : (own_sp (p2 &&& (7 : Int32))) = (125 : Int32)
        · refine own_go (fun t k => XS.icmpNo X24.here hx rfl (hb hby at_129) rfl (teq hc129_32).2 k) ?_
          show own_Gl _ _ _ _ (T24.setTop (mkF m 132 #[.val (.int p0), .val (.int p1), .val (.int p2), .val (.int (p0 &&& (3 : Int32))), .val (.ref b12), .val (.int (own_sp (p2 &&& (7 : Int32)))), .val (.ref cp), .unset] []))
          refine own_go (fun t k => XS.iconst X24.here hx rfl (hb hby at_132) k) ?_
          show own_Gl _ _ _ _ (T24.setTop (mkF m 133 #[.val (.int p0), .val (.int p1), .val (.int p2), .val (.int (p0 &&& (3 : Int32))), .val (.ref b12), .val (.int (own_sp (p2 &&& (7 : Int32)))), .val (.ref cp), .unset] [(.int (1 : Int32))]))
          refine own_go (fun t k => XS.goto X24.here hx rfl (pc0 := 133) (pc' := 137) rfl (hb hby at_133) (by decide) (by decide) k) ?_
          show own_Gl _ _ _ _ (T24.setTop (mkF m 137 #[.val (.int p0), .val (.int p1), .val (.int p2), .val (.int (p0 &&& (3 : Int32))), .val (.ref b12), .val (.int (own_sp (p2 &&& (7 : Int32)))), .val (.ref cp), .unset] [(.int (1 : Int32))]))
          refine own_go (fun t k => XS.istore X24.here hx rfl (hb hby at_137) rfl (l' := #[.val (.int p0), .val (.int p1), .val (.int p2), .val (.int (p0 &&& (3 : Int32))), .val (.ref b12), .val (.int (own_sp (p2 &&& (7 : Int32)))), .val (.ref cp), .val (.int (1 : Int32))]) rfl k) ?_
          show own_Gl _ _ _ _ (T24.setTop (mkF m 139 #[.val (.int p0), .val (.int p1), .val (.int p2), .val (.int (p0 &&& (3 : Int32))), .val (.ref b12), .val (.int (own_sp (p2 &&& (7 : Int32)))), .val (.ref cp), .val (.int (1 : Int32))] []))
          refine own_go (fun t k => XS.goto X24.here hx rfl (pc0 := 139) (pc' := 185) rfl (hb hby at_139) (by decide) (by decide) k) ?_
          show own_Gl _ _ _ _ (T24.setTop (mkF m 185 #[.val (.int p0), .val (.int p1), .val (.int p2), .val (.int (p0 &&& (3 : Int32))), .val (.ref b12), .val (.int (own_sp (p2 &&& (7 : Int32)))), .val (.ref cp), .val (.int (1 : Int32))] []))
          refine own_go (fun t k => XS.aload X24.here hx rfl (hb hby at_185) rfl rfl k) ?_
          show own_Gl _ _ _ _ (T24.setTop (mkF m 187 #[.val (.int p0), .val (.int p1), .val (.int p2), .val (.int (p0 &&& (3 : Int32))), .val (.ref b12), .val (.int (own_sp (p2 &&& (7 : Int32)))), .val (.ref cp), .val (.int (1 : Int32))] [(.ref cp)]))
          refine own_go (fun t k => XS.iload X24.here hx rfl (hb hby at_187) rfl k) ?_
          show own_Gl _ _ _ _ (T24.setTop (mkF m 189 #[.val (.int p0), .val (.int p1), .val (.int p2), .val (.int (p0 &&& (3 : Int32))), .val (.ref b12), .val (.int (own_sp (p2 &&& (7 : Int32)))), .val (.ref cp), .val (.int (1 : Int32))] [(.int (own_sp (p2 &&& (7 : Int32)))), (.ref cp)]))
          have f_33 : Fld Z h20 cp "org/loomstyle/parse/ExpressionParser$RawText" "endsAtParenthesis" "Z" (.int (0 : Int32)) := (P2.ext (own_ext K20))
          have f_34 : Fld Z h20 cp "org/loomstyle/parse/ExpressionParser$RawText" "endsAtColon" "Z" (.int (0 : Int32)) := (P3.ext (own_ext K20))
          have f_36 : Exa Z h20 cp "org/loomstyle/parse/ExpressionParser$RawText" := (P1.ext (own_ext K20))
          obtain ⟨cq35, kq35, q35a, q35b, q35c⟩ := isOf hZ e24 f_36
          obtain ⟨_, _, ⟨T35, L35, kk35, nn35⟩, -, X35, ⟨Lc35, hQ35, l35, y35, z35⟩, st35⟩ := X24.virtualBack hx (y := (⟨"org/loomstyle/parse/ExpressionParser$RawText", "endsAt", "(I)Z"⟩ : MethodName)) (z := (⟨"org/loomstyle/parse/ExpressionParser$RawText", "endsAt", "(I)Z"⟩ : MethodName)) hown (mvT hZ (hw _ (List.mem_of_getElem? (i := 4) rfl))) (mvT hZ (hw _ (List.mem_of_getElem? (i := 5) rfl))) (notFace_of_selects (args := #[]) (mvT hZ (hw _ (List.mem_of_getElem? (i := 7) rfl)))) (mvT hZ (hw _ (List.mem_of_getElem? (i := 7) rfl))) (mvT hZ (hw _ (List.mem_of_getElem? (i := 6) rfl))) (by decide) (backOf (W := 0) (rm1 l Z a0 hw [] cp (own_sp (p2 &&& (7 : Int32))) (0 : Int32) (0 : Int32) h20 n0 Z20 f_33 f_34) hZ (hw _ (List.mem_of_getElem? (i := 8) rfl)) (hw _ (List.mem_of_getElem? (i := 2) rfl)) (by decide) (by decide)) q35a q35c (g := (mkF m 189 #[.val (.int p0), .val (.int p1), .val (.int p2), .val (.int (p0 &&& (3 : Int32))), .val (.ref b12), .val (.int (own_sp (p2 &&& (7 : Int32)))), .val (.ref cp), .val (.int (1 : Int32))] [(.int (own_sp (p2 &&& (7 : Int32)))), (.ref cp)])) rfl (by rw [hml]; rfl) (Steps.refl _) (argsL := [(.int (own_sp (p2 &&& (7 : Int32))))]) (rest := []) (lenOf pd_0 rfl) rfl (by show 2 * 0 + _ ≤ _; exact Nat.le_of_eq rfl) (hb hby at_189) (fun _ _ => ⟨rfl, e24, (by decide : 1 + 0 ≤ _), (by decide : 8 + 0 ≤ _)⟩)
          dsimp only [Pt.U, Pt.locs, Pt.cells, Pt.slots] at X35 l35 y35 z35 st35 hQ35
          subst l35 y35 z35
          obtain ⟨N35q, rfl, hq35⟩ := hQ35
          have N35 := Fr.app N20 N35q
          refine own_go (fun t k => st35.trans k) ?_
          show own_Gl _ _ _ _ (T35.setTop (mkF m 192 #[.val (.int p0), .val (.int p1), .val (.int p2), .val (.int (p0 &&& (3 : Int32))), .val (.ref b12), .val (.int (own_sp (p2 &&& (7 : Int32)))), .val (.ref cp), .val (.int (1 : Int32))] [(.int (f1 (own_sp (p2 &&& (7 : Int32))) (0 : Int32) (0 : Int32)))]))
          refine own_go (fun t k => XS.iload X35.here hx rfl (hb hby at_192) rfl k) ?_
          show own_Gl _ _ _ _ (T35.setTop (mkF m 194 #[.val (.int p0), .val (.int p1), .val (.int p2), .val (.int (p0 &&& (3 : Int32))), .val (.ref b12), .val (.int (own_sp (p2 &&& (7 : Int32)))), .val (.ref cp), .val (.int (1 : Int32))] [(.int (1 : Int32)), (.int (f1 (own_sp (p2 &&& (7 : Int32))) (0 : Int32) (0 : Int32)))]))
          by_cases hc194_37 : (f1 (own_sp (p2 &&& (7 : Int32))) (0 : Int32) (0 : Int32)) = (1 : Int32)
          · refine own_go (fun t k => XS.icmpNo X35.here hx rfl (hb hby at_194) rfl (teq hc194_37).2 k) ?_
            show own_Gl _ _ _ _ (T35.setTop (mkF m 197 #[.val (.int p0), .val (.int p1), .val (.int p2), .val (.int (p0 &&& (3 : Int32))), .val (.ref b12), .val (.int (own_sp (p2 &&& (7 : Int32)))), .val (.ref cp), .val (.int (1 : Int32))] []))
            refine own_go (fun t k => XS.iconst X35.here hx rfl (hb hby at_197) k) ?_
            show own_Gl _ _ _ _ (T35.setTop (mkF m 198 #[.val (.int p0), .val (.int p1), .val (.int p2), .val (.int (p0 &&& (3 : Int32))), .val (.ref b12), .val (.int (own_sp (p2 &&& (7 : Int32)))), .val (.ref cp), .val (.int (1 : Int32))] [(.int (1 : Int32))]))
            refine own_go (fun t k => XS.goto X35.here hx rfl (pc0 := 198) (pc' := 202) rfl (hb hby at_198) (by decide) (by decide) k) ?_
            show own_Gl _ _ _ _ (T35.setTop (mkF m 202 #[.val (.int p0), .val (.int p1), .val (.int p2), .val (.int (p0 &&& (3 : Int32))), .val (.ref b12), .val (.int (own_sp (p2 &&& (7 : Int32)))), .val (.ref cp), .val (.int (1 : Int32))] [(.int (1 : Int32))]))
            obtain ⟨fs, hr, hrun, hended, hW, hsame⟩ := X35.leave (v := some (.int (1 : Int32))) (fun h => by rw [Bd.returns] at h; cases h)
            refine own_fin (retN X35 hx (t := .boolean) Bd.returns (by simp) (hb hby at_202) hr) hrun hended ⟨_, _, rfl, ?_, ⟨_, rfl⟩, hW, hsame.mono (by decide) (by decide)⟩
            show Q0 Z p0 p1 p2 cp fa su sa h0 n0 _ T35.heap _
            rw [hq35]
            exact ⟨N35, by rw [f0, if_pos hc55_21, if_pos hc72_23, if_neg hc122_26, if_pos hc129_32, if_pos hc194_37]⟩
          · refine own_go (fun t k => XS.icmpYes X35.here hx rfl (pc0 := 194) (pc' := 201) rfl (hb hby at_194) rfl (feq hc194_37).2 (by decide) (by decide) k) ?_
            show own_Gl _ _ _ _ (T35.setTop (mkF m 201 #[.val (.int p0), .val (.int p1), .val (.int p2), .val (.int (p0 &&& (3 : Int32))), .val (.ref b12), .val (.int (own_sp (p2 &&& (7 : Int32)))), .val (.ref cp), .val (.int (1 : Int32))] []))
            refine own_go (fun t k => XS.iconst X35.here hx rfl (hb hby at_201) k) ?_
            show own_Gl _ _ _ _ (T35.setTop (mkF m 202 #[.val (.int p0), .val (.int p1), .val (.int p2), .val (.int (p0 &&& (3 : Int32))), .val (.ref b12), .val (.int (own_sp (p2 &&& (7 : Int32)))), .val (.ref cp), .val (.int (1 : Int32))] [(.int (0 : Int32))]))
            obtain ⟨fs, hr, hrun, hended, hW, hsame⟩ := X35.leave (v := some (.int (0 : Int32))) (fun h => by rw [Bd.returns] at h; cases h)
            refine own_fin (retN X35 hx (t := .boolean) Bd.returns (by simp) (hb hby at_202) hr) hrun hended ⟨_, _, rfl, ?_, ⟨_, rfl⟩, hW, hsame.mono (by decide) (by decide)⟩
            show Q0 Z p0 p1 p2 cp fa su sa h0 n0 _ T35.heap _
            rw [hq35]
            exact ⟨N35, by rw [f0, if_pos hc55_21, if_pos hc72_23, if_neg hc122_26, if_pos hc129_32, if_neg hc194_37]⟩
        · refine own_go (fun t k => XS.icmpYes X24.here hx rfl (pc0 := 129) (pc' := 136) rfl (hb hby at_129) rfl (feq hc129_32).2 (by decide) (by decide) k) ?_
          show own_Gl _ _ _ _ (T24.setTop (mkF m 136 #[.val (.int p0), .val (.int p1), .val (.int p2), .val (.int (p0 &&& (3 : Int32))), .val (.ref b12), .val (.int (own_sp (p2 &&& (7 : Int32)))), .val (.ref cp), .unset] []))
          refine own_go (fun t k => XS.iconst X24.here hx rfl (hb hby at_136) k) ?_
          show own_Gl _ _ _ _ (T24.setTop (mkF m 137 #[.val (.int p0), .val (.int p1), .val (.int p2), .val (.int (p0 &&& (3 : Int32))), .val (.ref b12), .val (.int (own_sp (p2 &&& (7 : Int32)))), .val (.ref cp), .unset] [(.int (0 : Int32))]))
          refine own_go (fun t k => XS.istore X24.here hx rfl (hb hby at_137) rfl (l' := #[.val (.int p0), .val (.int p1), .val (.int p2), .val (.int (p0 &&& (3 : Int32))), .val (.ref b12), .val (.int (own_sp (p2 &&& (7 : Int32)))), .val (.ref cp), .val (.int (0 : Int32))]) rfl k) ?_
          show own_Gl _ _ _ _ (T24.setTop (mkF m 139 #[.val (.int p0), .val (.int p1), .val (.int p2), .val (.int (p0 &&& (3 : Int32))), .val (.ref b12), .val (.int (own_sp (p2 &&& (7 : Int32)))), .val (.ref cp), .val (.int (0 : Int32))] []))
          refine own_go (fun t k => XS.goto X24.here hx rfl (pc0 := 139) (pc' := 185) rfl (hb hby at_139) (by decide) (by decide) k) ?_
          show own_Gl _ _ _ _ (T24.setTop (mkF m 185 #[.val (.int p0), .val (.int p1), .val (.int p2), .val (.int (p0 &&& (3 : Int32))), .val (.ref b12), .val (.int (own_sp (p2 &&& (7 : Int32)))), .val (.ref cp), .val (.int (0 : Int32))] []))
          refine own_go (fun t k => XS.aload X24.here hx rfl (hb hby at_185) rfl rfl k) ?_
          show own_Gl _ _ _ _ (T24.setTop (mkF m 187 #[.val (.int p0), .val (.int p1), .val (.int p2), .val (.int (p0 &&& (3 : Int32))), .val (.ref b12), .val (.int (own_sp (p2 &&& (7 : Int32)))), .val (.ref cp), .val (.int (0 : Int32))] [(.ref cp)]))
          refine own_go (fun t k => XS.iload X24.here hx rfl (hb hby at_187) rfl k) ?_
          show own_Gl _ _ _ _ (T24.setTop (mkF m 189 #[.val (.int p0), .val (.int p1), .val (.int p2), .val (.int (p0 &&& (3 : Int32))), .val (.ref b12), .val (.int (own_sp (p2 &&& (7 : Int32)))), .val (.ref cp), .val (.int (0 : Int32))] [(.int (own_sp (p2 &&& (7 : Int32)))), (.ref cp)]))
          have f_38 : Fld Z h20 cp "org/loomstyle/parse/ExpressionParser$RawText" "endsAtParenthesis" "Z" (.int (0 : Int32)) := (P2.ext (own_ext K20))
          have f_39 : Fld Z h20 cp "org/loomstyle/parse/ExpressionParser$RawText" "endsAtColon" "Z" (.int (0 : Int32)) := (P3.ext (own_ext K20))
          have f_41 : Exa Z h20 cp "org/loomstyle/parse/ExpressionParser$RawText" := (P1.ext (own_ext K20))
          obtain ⟨cq40, kq40, q40a, q40b, q40c⟩ := isOf hZ e24 f_41
          obtain ⟨_, _, ⟨T40, L40, kk40, nn40⟩, -, X40, ⟨Lc40, hQ40, l40, y40, z40⟩, st40⟩ := X24.virtualBack hx (y := (⟨"org/loomstyle/parse/ExpressionParser$RawText", "endsAt", "(I)Z"⟩ : MethodName)) (z := (⟨"org/loomstyle/parse/ExpressionParser$RawText", "endsAt", "(I)Z"⟩ : MethodName)) hown (mvT hZ (hw _ (List.mem_of_getElem? (i := 4) rfl))) (mvT hZ (hw _ (List.mem_of_getElem? (i := 5) rfl))) (notFace_of_selects (args := #[]) (mvT hZ (hw _ (List.mem_of_getElem? (i := 7) rfl)))) (mvT hZ (hw _ (List.mem_of_getElem? (i := 7) rfl))) (mvT hZ (hw _ (List.mem_of_getElem? (i := 6) rfl))) (by decide) (backOf (W := 0) (rm1 l Z a0 hw [] cp (own_sp (p2 &&& (7 : Int32))) (0 : Int32) (0 : Int32) h20 n0 Z20 f_38 f_39) hZ (hw _ (List.mem_of_getElem? (i := 8) rfl)) (hw _ (List.mem_of_getElem? (i := 2) rfl)) (by decide) (by decide)) q40a q40c (g := (mkF m 189 #[.val (.int p0), .val (.int p1), .val (.int p2), .val (.int (p0 &&& (3 : Int32))), .val (.ref b12), .val (.int (own_sp (p2 &&& (7 : Int32)))), .val (.ref cp), .val (.int (0 : Int32))] [(.int (own_sp (p2 &&& (7 : Int32)))), (.ref cp)])) rfl (by rw [hml]; rfl) (Steps.refl _) (argsL := [(.int (own_sp (p2 &&& (7 : Int32))))]) (rest := []) (lenOf pd_0 rfl) rfl (by show 2 * 0 + _ ≤ _; exact Nat.le_of_eq rfl) (hb hby at_189) (fun _ _ => ⟨rfl, e24, (by decide : 1 + 0 ≤ _), (by decide : 8 + 0 ≤ _)⟩)
          dsimp only [Pt.U, Pt.locs, Pt.cells, Pt.slots] at X40 l40 y40 z40 st40 hQ40
          subst l40 y40 z40
          obtain ⟨N40q, rfl, hq40⟩ := hQ40
          have N40 := Fr.app N20 N40q
          refine own_go (fun t k => st40.trans k) ?_
          show own_Gl _ _ _ _ (T40.setTop (mkF m 192 #[.val (.int p0), .val (.int p1), .val (.int p2), .val (.int (p0 &&& (3 : Int32))), .val (.ref b12), .val (.int (own_sp (p2 &&& (7 : Int32)))), .val (.ref cp), .val (.int (0 : Int32))] [(.int (f1 (own_sp (p2 &&& (7 : Int32))) (0 : Int32) (0 : Int32)))]))
          refine own_go (fun t k => XS.iload X40.here hx rfl (hb hby at_192) rfl k) ?_
          show own_Gl _ _ _ _ (T40.setTop (mkF m 194 #[.val (.int p0), .val (.int p1), .val (.int p2), .val (.int (p0 &&& (3 : Int32))), .val (.ref b12), .val (.int (own_sp (p2 &&& (7 : Int32)))), .val (.ref cp), .val (.int (0 : Int32))] [(.int (0 : Int32)), (.int (f1 (own_sp (p2 &&& (7 : Int32))) (0 : Int32) (0 : Int32)))]))
          by_cases hc194_42 : (f1 (own_sp (p2 &&& (7 : Int32))) (0 : Int32) (0 : Int32)) = (0 : Int32)
          · refine own_go (fun t k => XS.icmpNo X40.here hx rfl (hb hby at_194) rfl (teq hc194_42).2 k) ?_
            show own_Gl _ _ _ _ (T40.setTop (mkF m 197 #[.val (.int p0), .val (.int p1), .val (.int p2), .val (.int (p0 &&& (3 : Int32))), .val (.ref b12), .val (.int (own_sp (p2 &&& (7 : Int32)))), .val (.ref cp), .val (.int (0 : Int32))] []))
            refine own_go (fun t k => XS.iconst X40.here hx rfl (hb hby at_197) k) ?_
            show own_Gl _ _ _ _ (T40.setTop (mkF m 198 #[.val (.int p0), .val (.int p1), .val (.int p2), .val (.int (p0 &&& (3 : Int32))), .val (.ref b12), .val (.int (own_sp (p2 &&& (7 : Int32)))), .val (.ref cp), .val (.int (0 : Int32))] [(.int (1 : Int32))]))
            refine own_go (fun t k => XS.goto X40.here hx rfl (pc0 := 198) (pc' := 202) rfl (hb hby at_198) (by decide) (by decide) k) ?_
            show own_Gl _ _ _ _ (T40.setTop (mkF m 202 #[.val (.int p0), .val (.int p1), .val (.int p2), .val (.int (p0 &&& (3 : Int32))), .val (.ref b12), .val (.int (own_sp (p2 &&& (7 : Int32)))), .val (.ref cp), .val (.int (0 : Int32))] [(.int (1 : Int32))]))
            obtain ⟨fs, hr, hrun, hended, hW, hsame⟩ := X40.leave (v := some (.int (1 : Int32))) (fun h => by rw [Bd.returns] at h; cases h)
            refine own_fin (retN X40 hx (t := .boolean) Bd.returns (by simp) (hb hby at_202) hr) hrun hended ⟨_, _, rfl, ?_, ⟨_, rfl⟩, hW, hsame.mono (by decide) (by decide)⟩
            show Q0 Z p0 p1 p2 cp fa su sa h0 n0 _ T40.heap _
            rw [hq40]
            exact ⟨N40, by rw [f0, if_pos hc55_21, if_pos hc72_23, if_neg hc122_26, if_neg hc129_32, if_pos hc194_42]⟩
          · refine own_go (fun t k => XS.icmpYes X40.here hx rfl (pc0 := 194) (pc' := 201) rfl (hb hby at_194) rfl (feq hc194_42).2 (by decide) (by decide) k) ?_
            show own_Gl _ _ _ _ (T40.setTop (mkF m 201 #[.val (.int p0), .val (.int p1), .val (.int p2), .val (.int (p0 &&& (3 : Int32))), .val (.ref b12), .val (.int (own_sp (p2 &&& (7 : Int32)))), .val (.ref cp), .val (.int (0 : Int32))] []))
            refine own_go (fun t k => XS.iconst X40.here hx rfl (hb hby at_201) k) ?_
            show own_Gl _ _ _ _ (T40.setTop (mkF m 202 #[.val (.int p0), .val (.int p1), .val (.int p2), .val (.int (p0 &&& (3 : Int32))), .val (.ref b12), .val (.int (own_sp (p2 &&& (7 : Int32)))), .val (.ref cp), .val (.int (0 : Int32))] [(.int (0 : Int32))]))
            obtain ⟨fs, hr, hrun, hended, hW, hsame⟩ := X40.leave (v := some (.int (0 : Int32))) (fun h => by rw [Bd.returns] at h; cases h)
            refine own_fin (retN X40 hx (t := .boolean) Bd.returns (by simp) (hb hby at_202) hr) hrun hended ⟨_, _, rfl, ?_, ⟨_, rfl⟩, hW, hsame.mono (by decide) (by decide)⟩
            show Q0 Z p0 p1 p2 cp fa su sa h0 n0 _ T40.heap _
            rw [hq40]
            exact ⟨N40, by rw [f0, if_pos hc55_21, if_pos hc72_23, if_neg hc122_26, if_neg hc129_32, if_neg hc194_42]⟩
    · refine own_go (fun t k => XS.ifYes X20.here hx rfl (pc0 := 72) (pc' := 83) rfl (hb hby at_72) rfl ((if0 _ _).trans (feq hc72_23).2) (by decide) (by decide) k) ?_
      show own_Gl _ _ _ _ (T20.setTop (mkF m 83 #[.val (.int p0), .val (.int p1), .val (.int p2), .val (.int (p0 &&& (3 : Int32))), .val (.ref b12), .val (.int (own_sp (p2 &&& (7 : Int32)))), .unset, .unset] []))
      refine own_go (fun t k => XS.iloadN X20.here hx rfl (hb hby at_83) rfl k) ?_
      show own_Gl _ _ _ _ (T20.setTop (mkF m 84 #[.val (.int p0), .val (.int p1), .val (.int p2), .val (.int (p0 &&& (3 : Int32))), .val (.ref b12), .val (.int (own_sp (p2 &&& (7 : Int32)))), .unset, .unset] [(.int (p0 &&& (3 : Int32)))]))
      refine own_go (fun t k => XS.iconst X20.here hx rfl (hb hby at_84) k) ?_
      show own_Gl _ _ _ _ (T20.setTop (mkF m 85 #[.val (.int p0), .val (.int p1), .val (.int p2), .val (.int (p0 &&& (3 : Int32))), .val (.ref b12), .val (.int (own_sp (p2 &&& (7 : Int32)))), .unset, .unset] [(.int (1 : Int32)), (.int (p0 &&& (3 : Int32)))]))
      by_cases hc85_43 : (p0 &&& (3 : Int32)) = (1 : Int32)
      · refine own_go (fun t k => XS.icmpNo X20.here hx rfl (hb hby at_85) rfl (teq hc85_43).2 k) ?_
        show own_Gl _ _ _ _ (T20.setTop (mkF m 88 #[.val (.int p0), .val (.int p1), .val (.int p2), .val (.int (p0 &&& (3 : Int32))), .val (.ref b12), .val (.int (own_sp (p2 &&& (7 : Int32)))), .unset, .unset] []))
        have f_45 : Sta Z h20 "org/loomstyle/parse/ExpressionParser$RawText" "FUNCTION_ARGUMENTS" "Lorg/loomstyle/parse/ExpressionParser$RawText;" (.ref fa) := (P4.ext (own_ext K20))
        obtain ⟨T44, X44, e44, st44⟩ := getS2 X20 hx hZ hown (host := "") (Or.inl (hw _ (List.mem_of_getElem? (i := 11) rfl))) Via.refl e20 f_45 (g := (mkF m 88 #[.val (.int p0), .val (.int p1), .val (.int p2), .val (.int (p0 &&& (3 : Int32))), .val (.ref b12), .val (.int (own_sp (p2 &&& (7 : Int32)))), .unset, .unset] [])) rfl (hb hby at_88)
        refine own_go (fun t k => st44 _ k) ?_
        show own_Gl _ _ _ _ (T44.setTop (mkF m 91 #[.val (.int p0), .val (.int p1), .val (.int p2), .val (.int (p0 &&& (3 : Int32))), .val (.ref b12), .val (.int (own_sp (p2 &&& (7 : Int32)))), .unset, .unset] [(.ref fa)]))
        refine own_go (fun t k => XS.astore X44.here hx rfl (hb hby at_91) rfl rfl (l' := #[.val (.int p0), .val (.int p1), .val (.int p2), .val (.int (p0 &&& (3 : Int32))), .val (.ref b12), .val (.int (own_sp (p2 &&& (7 : Int32)))), .val (.ref fa), .unset]) rfl k) ?_
        show own_Gl _ _ _ _ (T44.setTop (mkF m 93 #[.val (.int p0), .val (.int p1), .val (.int p2), .val (.int (p0 &&& (3 : Int32))), .val (.ref b12), .val (.int (own_sp (p2 &&& (7 : Int32)))), .val (.ref fa), .unset] []))
        refine own_go (fun t k => XS.goto X44.here hx rfl (pc0 := 93) (pc' := 114) rfl (hb hby at_93) (by decide) (by decide) k) ?_
        show own_Gl _ _ _ _ (T44.setTop (mkF m 114 #[.val (.int p0), .val (.int p1), .val (.int p2), .val (.int (p0 &&& (3 : Int32))), .val (.ref b12), .val (.int (own_sp (p2 &&& (7 : Int32)))), .val (.ref fa), .unset] []))
        refine own_go (fun t k => XS.iloadN X44.here hx rfl (hb hby at_114) rfl k) ?_
        show own_Gl _ _ _ _ (T44.setTop (mkF m 115 #[.val (.int p0), .val (.int p1), .val (.int p2), .val (.int (p0 &&& (3 : Int32))), .val (.ref b12), .val (.int (own_sp (p2 &&& (7 : Int32)))), .val (.ref fa), .unset] [(.int (p0 &&& (3 : Int32)))]))
        refine own_go (fun t k => XS.ifYes X44.here hx rfl (pc0 := 115) (pc' := 142) rfl (hb hby at_115) rfl ((if0 _ _).trans (feq hc72_23).2) (by decide) (by decide) k) ?_
        show own_Gl _ _ _ _ (T44.setTop (mkF m 142 #[.val (.int p0), .val (.int p1), .val (.int p2), .val (.int (p0 &&& (3 : Int32))), .val (.ref b12), .val (.int (own_sp (p2 &&& (7 : Int32)))), .val (.ref fa), .unset] []))
        refine own_go (fun t k => XS.iloadN X44.here hx rfl (hb hby at_142) rfl k) ?_
        show own_Gl _ _ _ _ (T44.setTop (mkF m 143 #[.val (.int p0), .val (.int p1), .val (.int p2), .val (.int (p0 &&& (3 : Int32))), .val (.ref b12), .val (.int (own_sp (p2 &&& (7 : Int32)))), .val (.ref fa), .unset] [(.int (p0 &&& (3 : Int32)))]))
        refine own_go (fun t k => XS.iconst X44.here hx rfl (hb hby at_143) k) ?_
        show own_Gl _ _ _ _ (T44.setTop (mkF m 144 #[.val (.int p0), .val (.int p1), .val (.int p2), .val (.int (p0 &&& (3 : Int32))), .val (.ref b12), .val (.int (own_sp (p2 &&& (7 : Int32)))), .val (.ref fa), .unset] [(.int (3 : Int32)), (.int (p0 &&& (3 : Int32)))]))
        have hd46 : ¬ ((p0 &&& (3 : Int32)) = (3 : Int32)) := by rw [hc85_43]; decide
        refine own_go (fun t k => XS.icmpYes X44.here hx rfl (pc0 := 144) (pc' := 171) rfl (hb hby at_144) rfl (feq hd46).2 (by decide) (by decide) k) ?_
        show own_Gl _ _ _ _ (T44.setTop (mkF m 171 #[.val (.int p0), .val (.int p1), .val (.int p2), .val (.int (p0 &&& (3 : Int32))), .val (.ref b12), .val (.int (own_sp (p2 &&& (7 : Int32)))), .val (.ref fa), .unset] []))
        refine own_go (fun t k => XS.iload X44.here hx rfl (hb hby at_171) rfl k) ?_
        show own_Gl _ _ _ _ (T44.setTop (mkF m 173 #[.val (.int p0), .val (.int p1), .val (.int p2), .val (.int (p0 &&& (3 : Int32))), .val (.ref b12), .val (.int (own_sp (p2 &&& (7 : Int32)))), .val (.ref fa), .unset] [(.int (own_sp (p2 &&& (7 : Int32))))]))
        refine own_go (fun t k => XS.bipush X44.here hx rfl (hb hby at_173) k) ?_
        show own_Gl _ _ _ _ (T44.setTop (mkF m 175 #[.val (.int p0), .val (.int p1), .val (.int p2), .val (.int (p0 &&& (3 : Int32))), .val (.ref b12), .val (.int (own_sp (p2 &&& (7 : Int32)))), .val (.ref fa), .unset] [(.int (41 : Int32)), (.int (own_sp (p2 &&& (7 : Int32))))]))
        by_cases hc175_47 : (own_sp (p2 &&& (7 : Int32))) = (41 : Int32)
        · refine own_go (fun t k => XS.icmpNo X44.here hx rfl (hb hby at_175) rfl (teq hc175_47).2 k) ?_
          show own_Gl _ _ _ _ (T44.setTop (mkF m 178 #[.val (.int p0), .val (.int p1), .val (.int p2), .val (.int (p0 &&& (3 : Int32))), .val (.ref b12), .val (.int (own_sp (p2 &&& (7 : Int32)))), .val (.ref fa), .unset] []))
          refine own_go (fun t k => XS.iconst X44.here hx rfl (hb hby at_178) k) ?_
          show own_Gl _ _ _ _ (T44.setTop (mkF m 179 #[.val (.int p0), .val (.int p1), .val (.int p2), .val (.int (p0 &&& (3 : Int32))), .val (.ref b12), .val (.int (own_sp (p2 &&& (7 : Int32)))), .val (.ref fa), .unset] [(.int (1 : Int32))]))
          refine own_go (fun t k => XS.goto X44.here hx rfl (pc0 := 179) (pc' := 183) rfl (hb hby at_179) (by decide) (by decide) k) ?_
          show own_Gl _ _ _ _ (T44.setTop (mkF m 183 #[.val (.int p0), .val (.int p1), .val (.int p2), .val (.int (p0 &&& (3 : Int32))), .val (.ref b12), .val (.int (own_sp (p2 &&& (7 : Int32)))), .val (.ref fa), .unset] [(.int (1 : Int32))]))
          refine own_go (fun t k => XS.istore X44.here hx rfl (hb hby at_183) rfl (l' := #[.val (.int p0), .val (.int p1), .val (.int p2), .val (.int (p0 &&& (3 : Int32))), .val (.ref b12), .val (.int (own_sp (p2 &&& (7 : Int32)))), .val (.ref fa), .val (.int (1 : Int32))]) rfl k) ?_
          show own_Gl _ _ _ _ (T44.setTop (mkF m 185 #[.val (.int p0), .val (.int p1), .val (.int p2), .val (.int (p0 &&& (3 : Int32))), .val (.ref b12), .val (.int (own_sp (p2 &&& (7 : Int32)))), .val (.ref fa), .val (.int (1 : Int32))] []))
          refine own_go (fun t k => XS.aload X44.here hx rfl (hb hby at_185) rfl rfl k) ?_
          show own_Gl _ _ _ _ (T44.setTop (mkF m 187 #[.val (.int p0), .val (.int p1), .val (.int p2), .val (.int (p0 &&& (3 : Int32))), .val (.ref b12), .val (.int (own_sp (p2 &&& (7 : Int32)))), .val (.ref fa), .val (.int (1 : Int32))] [(.ref fa)]))
          refine own_go (fun t k => XS.iload X44.here hx rfl (hb hby at_187) rfl k) ?_
          show own_Gl _ _ _ _ (T44.setTop (mkF m 189 #[.val (.int p0), .val (.int p1), .val (.int p2), .val (.int (p0 &&& (3 : Int32))), .val (.ref b12), .val (.int (own_sp (p2 &&& (7 : Int32)))), .val (.ref fa), .val (.int (1 : Int32))] [(.int (own_sp (p2 &&& (7 : Int32)))), (.ref fa)]))
          have f_48 : Fld Z h20 fa "org/loomstyle/parse/ExpressionParser$RawText" "endsAtParenthesis" "Z" (.int (1 : Int32)) := (P6.ext (own_ext K20))
          have f_49 : Fld Z h20 fa "org/loomstyle/parse/ExpressionParser$RawText" "endsAtColon" "Z" (.int (0 : Int32)) := (P7.ext (own_ext K20))
          have f_51 : Exa Z h20 fa "org/loomstyle/parse/ExpressionParser$RawText" := (P5.ext (own_ext K20))
          obtain ⟨cq50, kq50, q50a, q50b, q50c⟩ := isOf hZ e44 f_51
          obtain ⟨_, _, ⟨T50, L50, kk50, nn50⟩, -, X50, ⟨Lc50, hQ50, l50, y50, z50⟩, st50⟩ := X44.virtualBack hx (y := (⟨"org/loomstyle/parse/ExpressionParser$RawText", "endsAt", "(I)Z"⟩ : MethodName)) (z := (⟨"org/loomstyle/parse/ExpressionParser$RawText", "endsAt", "(I)Z"⟩ : MethodName)) hown (mvT hZ (hw _ (List.mem_of_getElem? (i := 4) rfl))) (mvT hZ (hw _ (List.mem_of_getElem? (i := 5) rfl))) (notFace_of_selects (args := #[]) (mvT hZ (hw _ (List.mem_of_getElem? (i := 7) rfl)))) (mvT hZ (hw _ (List.mem_of_getElem? (i := 7) rfl))) (mvT hZ (hw _ (List.mem_of_getElem? (i := 6) rfl))) (by decide) (backOf (W := 0) (rm1 l Z a0 hw [] fa (own_sp (p2 &&& (7 : Int32))) (1 : Int32) (0 : Int32) h20 n0 Z20 f_48 f_49) hZ (hw _ (List.mem_of_getElem? (i := 8) rfl)) (hw _ (List.mem_of_getElem? (i := 2) rfl)) (by decide) (by decide)) q50a q50c (g := (mkF m 189 #[.val (.int p0), .val (.int p1), .val (.int p2), .val (.int (p0 &&& (3 : Int32))), .val (.ref b12), .val (.int (own_sp (p2 &&& (7 : Int32)))), .val (.ref fa), .val (.int (1 : Int32))] [(.int (own_sp (p2 &&& (7 : Int32)))), (.ref fa)])) rfl (by rw [hml]; rfl) (Steps.refl _) (argsL := [(.int (own_sp (p2 &&& (7 : Int32))))]) (rest := []) (lenOf pd_0 rfl) rfl (by show 2 * 0 + _ ≤ _; exact Nat.le_of_eq rfl) (hb hby at_189) (fun _ _ => ⟨rfl, e44, (by decide : 1 + 0 ≤ _), (by decide : 8 + 0 ≤ _)⟩)
          dsimp only [Pt.U, Pt.locs, Pt.cells, Pt.slots] at X50 l50 y50 z50 st50 hQ50
          subst l50 y50 z50
          obtain ⟨N50q, rfl, hq50⟩ := hQ50
          have N50 := Fr.app N20 N50q
          refine own_go (fun t k => st50.trans k) ?_
          show own_Gl _ _ _ _ (T50.setTop (mkF m 192 #[.val (.int p0), .val (.int p1), .val (.int p2), .val (.int (p0 &&& (3 : Int32))), .val (.ref b12), .val (.int (own_sp (p2 &&& (7 : Int32)))), .val (.ref fa), .val (.int (1 : Int32))] [(.int (f1 (own_sp (p2 &&& (7 : Int32))) (1 : Int32) (0 : Int32)))]))
          refine own_go (fun t k => XS.iload X50.here hx rfl (hb hby at_192) rfl k) ?_
          show own_Gl _ _ _ _ (T50.setTop (mkF m 194 #[.val (.int p0), .val (.int p1), .val (.int p2), .val (.int (p0 &&& (3 : Int32))), .val (.ref b12), .val (.int (own_sp (p2 &&& (7 : Int32)))), .val (.ref fa), .val (.int (1 : Int32))] [(.int (1 : Int32)), (.int (f1 (own_sp (p2 &&& (7 : Int32))) (1 : Int32) (0 : Int32)))]))
          by_cases hc194_52 : (f1 (own_sp (p2 &&& (7 : Int32))) (1 : Int32) (0 : Int32)) = (1 : Int32)
          · refine own_go (fun t k => XS.icmpNo X50.here hx rfl (hb hby at_194) rfl (teq hc194_52).2 k) ?_
            show own_Gl _ _ _ _ (T50.setTop (mkF m 197 #[.val (.int p0), .val (.int p1), .val (.int p2), .val (.int (p0 &&& (3 : Int32))), .val (.ref b12), .val (.int (own_sp (p2 &&& (7 : Int32)))), .val (.ref fa), .val (.int (1 : Int32))] []))
            refine own_go (fun t k => XS.iconst X50.here hx rfl (hb hby at_197) k) ?_
            show own_Gl _ _ _ _ (T50.setTop (mkF m 198 #[.val (.int p0), .val (.int p1), .val (.int p2), .val (.int (p0 &&& (3 : Int32))), .val (.ref b12), .val (.int (own_sp (p2 &&& (7 : Int32)))), .val (.ref fa), .val (.int (1 : Int32))] [(.int (1 : Int32))]))
            refine own_go (fun t k => XS.goto X50.here hx rfl (pc0 := 198) (pc' := 202) rfl (hb hby at_198) (by decide) (by decide) k) ?_
            show own_Gl _ _ _ _ (T50.setTop (mkF m 202 #[.val (.int p0), .val (.int p1), .val (.int p2), .val (.int (p0 &&& (3 : Int32))), .val (.ref b12), .val (.int (own_sp (p2 &&& (7 : Int32)))), .val (.ref fa), .val (.int (1 : Int32))] [(.int (1 : Int32))]))
            obtain ⟨fs, hr, hrun, hended, hW, hsame⟩ := X50.leave (v := some (.int (1 : Int32))) (fun h => by rw [Bd.returns] at h; cases h)
            refine own_fin (retN X50 hx (t := .boolean) Bd.returns (by simp) (hb hby at_202) hr) hrun hended ⟨_, _, rfl, ?_, ⟨_, rfl⟩, hW, hsame.mono (by decide) (by decide)⟩
            show Q0 Z p0 p1 p2 cp fa su sa h0 n0 _ T50.heap _
            rw [hq50]
            exact ⟨N50, by rw [f0, if_pos hc55_21, if_neg hc72_23, if_pos hc85_43, if_pos hc175_47, if_pos hc194_52]⟩
          · refine own_go (fun t k => XS.icmpYes X50.here hx rfl (pc0 := 194) (pc' := 201) rfl (hb hby at_194) rfl (feq hc194_52).2 (by decide) (by decide) k) ?_
            show own_Gl _ _ _ _ (T50.setTop (mkF m 201 #[.val (.int p0), .val (.int p1), .val (.int p2), .val (.int (p0 &&& (3 : Int32))), .val (.ref b12), .val (.int (own_sp (p2 &&& (7 : Int32)))), .val (.ref fa), .val (.int (1 : Int32))] []))
            refine own_go (fun t k => XS.iconst X50.here hx rfl (hb hby at_201) k) ?_
            show own_Gl _ _ _ _ (T50.setTop (mkF m 202 #[.val (.int p0), .val (.int p1), .val (.int p2), .val (.int (p0 &&& (3 : Int32))), .val (.ref b12), .val (.int (own_sp (p2 &&& (7 : Int32)))), .val (.ref fa), .val (.int (1 : Int32))] [(.int (0 : Int32))]))
            obtain ⟨fs, hr, hrun, hended, hW, hsame⟩ := X50.leave (v := some (.int (0 : Int32))) (fun h => by rw [Bd.returns] at h; cases h)
            refine own_fin (retN X50 hx (t := .boolean) Bd.returns (by simp) (hb hby at_202) hr) hrun hended ⟨_, _, rfl, ?_, ⟨_, rfl⟩, hW, hsame.mono (by decide) (by decide)⟩
            show Q0 Z p0 p1 p2 cp fa su sa h0 n0 _ T50.heap _
            rw [hq50]
            exact ⟨N50, by rw [f0, if_pos hc55_21, if_neg hc72_23, if_pos hc85_43, if_pos hc175_47, if_neg hc194_52]⟩
        · refine own_go (fun t k => XS.icmpYes X44.here hx rfl (pc0 := 175) (pc' := 182) rfl (hb hby at_175) rfl (feq hc175_47).2 (by decide) (by decide) k) ?_
          show own_Gl _ _ _ _ (T44.setTop (mkF m 182 #[.val (.int p0), .val (.int p1), .val (.int p2), .val (.int (p0 &&& (3 : Int32))), .val (.ref b12), .val (.int (own_sp (p2 &&& (7 : Int32)))), .val (.ref fa), .unset] []))
          refine own_go (fun t k => XS.iconst X44.here hx rfl (hb hby at_182) k) ?_
          show own_Gl _ _ _ _ (T44.setTop (mkF m 183 #[.val (.int p0), .val (.int p1), .val (.int p2), .val (.int (p0 &&& (3 : Int32))), .val (.ref b12), .val (.int (own_sp (p2 &&& (7 : Int32)))), .val (.ref fa), .unset] [(.int (0 : Int32))]))
          refine own_go (fun t k => XS.istore X44.here hx rfl (hb hby at_183) rfl (l' := #[.val (.int p0), .val (.int p1), .val (.int p2), .val (.int (p0 &&& (3 : Int32))), .val (.ref b12), .val (.int (own_sp (p2 &&& (7 : Int32)))), .val (.ref fa), .val (.int (0 : Int32))]) rfl k) ?_
          show own_Gl _ _ _ _ (T44.setTop (mkF m 185 #[.val (.int p0), .val (.int p1), .val (.int p2), .val (.int (p0 &&& (3 : Int32))), .val (.ref b12), .val (.int (own_sp (p2 &&& (7 : Int32)))), .val (.ref fa), .val (.int (0 : Int32))] []))
          refine own_go (fun t k => XS.aload X44.here hx rfl (hb hby at_185) rfl rfl k) ?_
          show own_Gl _ _ _ _ (T44.setTop (mkF m 187 #[.val (.int p0), .val (.int p1), .val (.int p2), .val (.int (p0 &&& (3 : Int32))), .val (.ref b12), .val (.int (own_sp (p2 &&& (7 : Int32)))), .val (.ref fa), .val (.int (0 : Int32))] [(.ref fa)]))
          refine own_go (fun t k => XS.iload X44.here hx rfl (hb hby at_187) rfl k) ?_
          show own_Gl _ _ _ _ (T44.setTop (mkF m 189 #[.val (.int p0), .val (.int p1), .val (.int p2), .val (.int (p0 &&& (3 : Int32))), .val (.ref b12), .val (.int (own_sp (p2 &&& (7 : Int32)))), .val (.ref fa), .val (.int (0 : Int32))] [(.int (own_sp (p2 &&& (7 : Int32)))), (.ref fa)]))
          have f_53 : Fld Z h20 fa "org/loomstyle/parse/ExpressionParser$RawText" "endsAtParenthesis" "Z" (.int (1 : Int32)) := (P6.ext (own_ext K20))
          have f_54 : Fld Z h20 fa "org/loomstyle/parse/ExpressionParser$RawText" "endsAtColon" "Z" (.int (0 : Int32)) := (P7.ext (own_ext K20))
          have f_56 : Exa Z h20 fa "org/loomstyle/parse/ExpressionParser$RawText" := (P5.ext (own_ext K20))
          obtain ⟨cq55, kq55, q55a, q55b, q55c⟩ := isOf hZ e44 f_56
          obtain ⟨_, _, ⟨T55, L55, kk55, nn55⟩, -, X55, ⟨Lc55, hQ55, l55, y55, z55⟩, st55⟩ := X44.virtualBack hx (y := (⟨"org/loomstyle/parse/ExpressionParser$RawText", "endsAt", "(I)Z"⟩ : MethodName)) (z := (⟨"org/loomstyle/parse/ExpressionParser$RawText", "endsAt", "(I)Z"⟩ : MethodName)) hown (mvT hZ (hw _ (List.mem_of_getElem? (i := 4) rfl))) (mvT hZ (hw _ (List.mem_of_getElem? (i := 5) rfl))) (notFace_of_selects (args := #[]) (mvT hZ (hw _ (List.mem_of_getElem? (i := 7) rfl)))) (mvT hZ (hw _ (List.mem_of_getElem? (i := 7) rfl))) (mvT hZ (hw _ (List.mem_of_getElem? (i := 6) rfl))) (by decide) (backOf (W := 0) (rm1 l Z a0 hw [] fa (own_sp (p2 &&& (7 : Int32))) (1 : Int32) (0 : Int32) h20 n0 Z20 f_53 f_54) hZ (hw _ (List.mem_of_getElem? (i := 8) rfl)) (hw _ (List.mem_of_getElem? (i := 2) rfl)) (by decide) (by decide)) q55a q55c (g := (mkF m 189 #[.val (.int p0), .val (.int p1), .val (.int p2), .val (.int (p0 &&& (3 : Int32))), .val (.ref b12), .val (.int (own_sp (p2 &&& (7 : Int32)))), .val (.ref fa), .val (.int (0 : Int32))] [(.int (own_sp (p2 &&& (7 : Int32)))), (.ref fa)])) rfl (by rw [hml]; rfl) (Steps.refl _) (argsL := [(.int (own_sp (p2 &&& (7 : Int32))))]) (rest := []) (lenOf pd_0 rfl) rfl (by show 2 * 0 + _ ≤ _; exact Nat.le_of_eq rfl) (hb hby at_189) (fun _ _ => ⟨rfl, e44, (by decide : 1 + 0 ≤ _), (by decide : 8 + 0 ≤ _)⟩)
          dsimp only [Pt.U, Pt.locs, Pt.cells, Pt.slots] at X55 l55 y55 z55 st55 hQ55
          subst l55 y55 z55
          obtain ⟨N55q, rfl, hq55⟩ := hQ55
          have N55 := Fr.app N20 N55q
          refine own_go (fun t k => st55.trans k) ?_
          show own_Gl _ _ _ _ (T55.setTop (mkF m 192 #[.val (.int p0), .val (.int p1), .val (.int p2), .val (.int (p0 &&& (3 : Int32))), .val (.ref b12), .val (.int (own_sp (p2 &&& (7 : Int32)))), .val (.ref fa), .val (.int (0 : Int32))] [(.int (f1 (own_sp (p2 &&& (7 : Int32))) (1 : Int32) (0 : Int32)))]))
          refine own_go (fun t k => XS.iload X55.here hx rfl (hb hby at_192) rfl k) ?_
          show own_Gl _ _ _ _ (T55.setTop (mkF m 194 #[.val (.int p0), .val (.int p1), .val (.int p2), .val (.int (p0 &&& (3 : Int32))), .val (.ref b12), .val (.int (own_sp (p2 &&& (7 : Int32)))), .val (.ref fa), .val (.int (0 : Int32))] [(.int (0 : Int32)), (.int (f1 (own_sp (p2 &&& (7 : Int32))) (1 : Int32) (0 : Int32)))]))
          by_cases hc194_57 : (f1 (own_sp (p2 &&& (7 : Int32))) (1 : Int32) (0 : Int32)) = (0 : Int32)
          · refine own_go (fun t k => XS.icmpNo X55.here hx rfl (hb hby at_194) rfl (teq hc194_57).2 k) ?_
            show own_Gl _ _ _ _ (T55.setTop (mkF m 197 #[.val (.int p0), .val (.int p1), .val (.int p2), .val (.int (p0 &&& (3 : Int32))), .val (.ref b12), .val (.int (own_sp (p2 &&& (7 : Int32)))), .val (.ref fa), .val (.int (0 : Int32))] []))
            refine own_go (fun t k => XS.iconst X55.here hx rfl (hb hby at_197) k) ?_
            show own_Gl _ _ _ _ (T55.setTop (mkF m 198 #[.val (.int p0), .val (.int p1), .val (.int p2), .val (.int (p0 &&& (3 : Int32))), .val (.ref b12), .val (.int (own_sp (p2 &&& (7 : Int32)))), .val (.ref fa), .val (.int (0 : Int32))] [(.int (1 : Int32))]))
            refine own_go (fun t k => XS.goto X55.here hx rfl (pc0 := 198) (pc' := 202) rfl (hb hby at_198) (by decide) (by decide) k) ?_
            show own_Gl _ _ _ _ (T55.setTop (mkF m 202 #[.val (.int p0), .val (.int p1), .val (.int p2), .val (.int (p0 &&& (3 : Int32))), .val (.ref b12), .val (.int (own_sp (p2 &&& (7 : Int32)))), .val (.ref fa), .val (.int (0 : Int32))] [(.int (1 : Int32))]))
            obtain ⟨fs, hr, hrun, hended, hW, hsame⟩ := X55.leave (v := some (.int (1 : Int32))) (fun h => by rw [Bd.returns] at h; cases h)
            refine own_fin (retN X55 hx (t := .boolean) Bd.returns (by simp) (hb hby at_202) hr) hrun hended ⟨_, _, rfl, ?_, ⟨_, rfl⟩, hW, hsame.mono (by decide) (by decide)⟩
            show Q0 Z p0 p1 p2 cp fa su sa h0 n0 _ T55.heap _
            rw [hq55]
            exact ⟨N55, by rw [f0, if_pos hc55_21, if_neg hc72_23, if_pos hc85_43, if_neg hc175_47, if_pos hc194_57]⟩
          · refine own_go (fun t k => XS.icmpYes X55.here hx rfl (pc0 := 194) (pc' := 201) rfl (hb hby at_194) rfl (feq hc194_57).2 (by decide) (by decide) k) ?_
            show own_Gl _ _ _ _ (T55.setTop (mkF m 201 #[.val (.int p0), .val (.int p1), .val (.int p2), .val (.int (p0 &&& (3 : Int32))), .val (.ref b12), .val (.int (own_sp (p2 &&& (7 : Int32)))), .val (.ref fa), .val (.int (0 : Int32))] []))
            refine own_go (fun t k => XS.iconst X55.here hx rfl (hb hby at_201) k) ?_
            show own_Gl _ _ _ _ (T55.setTop (mkF m 202 #[.val (.int p0), .val (.int p1), .val (.int p2), .val (.int (p0 &&& (3 : Int32))), .val (.ref b12), .val (.int (own_sp (p2 &&& (7 : Int32)))), .val (.ref fa), .val (.int (0 : Int32))] [(.int (0 : Int32))]))
            obtain ⟨fs, hr, hrun, hended, hW, hsame⟩ := X55.leave (v := some (.int (0 : Int32))) (fun h => by rw [Bd.returns] at h; cases h)
            refine own_fin (retN X55 hx (t := .boolean) Bd.returns (by simp) (hb hby at_202) hr) hrun hended ⟨_, _, rfl, ?_, ⟨_, rfl⟩, hW, hsame.mono (by decide) (by decide)⟩
            show Q0 Z p0 p1 p2 cp fa su sa h0 n0 _ T55.heap _
            rw [hq55]
            exact ⟨N55, by rw [f0, if_pos hc55_21, if_neg hc72_23, if_pos hc85_43, if_neg hc175_47, if_neg hc194_57]⟩
      · refine own_go (fun t k => XS.icmpYes X20.here hx rfl (pc0 := 85) (pc' := 96) rfl (hb hby at_85) rfl (feq hc85_43).2 (by decide) (by decide) k) ?_
        show own_Gl _ _ _ _ (T20.setTop (mkF m 96 #[.val (.int p0), .val (.int p1), .val (.int p2), .val (.int (p0 &&& (3 : Int32))), .val (.ref b12), .val (.int (own_sp (p2 &&& (7 : Int32)))), .unset, .unset] []))
        refine own_go (fun t k => XS.iloadN X20.here hx rfl (hb hby at_96) rfl k) ?_
        show own_Gl _ _ _ _ (T20.setTop (mkF m 97 #[.val (.int p0), .val (.int p1), .val (.int p2), .val (.int (p0 &&& (3 : Int32))), .val (.ref b12), .val (.int (own_sp (p2 &&& (7 : Int32)))), .unset, .unset] [(.int (p0 &&& (3 : Int32)))]))
        refine own_go (fun t k => XS.iconst X20.here hx rfl (hb hby at_97) k) ?_
        show own_Gl _ _ _ _ (T20.setTop (mkF m 98 #[.val (.int p0), .val (.int p1), .val (.int p2), .val (.int (p0 &&& (3 : Int32))), .val (.ref b12), .val (.int (own_sp (p2 &&& (7 : Int32)))), .unset, .unset] [(.int (2 : Int32)), (.int (p0 &&& (3 : Int32)))]))
        by_cases hc98_58 : (p0 &&& (3 : Int32)) = (2 : Int32)
        · refine own_go (fun t k => XS.icmpNo X20.here hx rfl (hb hby at_98) rfl (teq hc98_58).2 k) ?_
          show own_Gl _ _ _ _ (T20.setTop (mkF m 101 #[.val (.int p0), .val (.int p1), .val (.int p2), .val (.int (p0 &&& (3 : Int32))), .val (.ref b12), .val (.int (own_sp (p2 &&& (7 : Int32)))), .unset, .unset] []))
          have f_60 : Sta Z h20 "org/loomstyle/parse/ExpressionParser$RawText" "SUPPORTS" "Lorg/loomstyle/parse/ExpressionParser$RawText;" (.ref su) := (P8.ext (own_ext K20))
          obtain ⟨T59, X59, e59, st59⟩ := getS2 X20 hx hZ hown (host := "") (Or.inl (hw _ (List.mem_of_getElem? (i := 17) rfl))) Via.refl e20 f_60 (g := (mkF m 101 #[.val (.int p0), .val (.int p1), .val (.int p2), .val (.int (p0 &&& (3 : Int32))), .val (.ref b12), .val (.int (own_sp (p2 &&& (7 : Int32)))), .unset, .unset] [])) rfl (hb hby at_101)
          refine own_go (fun t k => st59 _ k) ?_
          show own_Gl _ _ _ _ (T59.setTop (mkF m 104 #[.val (.int p0), .val (.int p1), .val (.int p2), .val (.int (p0 &&& (3 : Int32))), .val (.ref b12), .val (.int (own_sp (p2 &&& (7 : Int32)))), .unset, .unset] [(.ref su)]))
          refine own_go (fun t k => XS.astore X59.here hx rfl (hb hby at_104) rfl rfl (l' := #[.val (.int p0), .val (.int p1), .val (.int p2), .val (.int (p0 &&& (3 : Int32))), .val (.ref b12), .val (.int (own_sp (p2 &&& (7 : Int32)))), .val (.ref su), .unset]) rfl k) ?_
          show own_Gl _ _ _ _ (T59.setTop (mkF m 106 #[.val (.int p0), .val (.int p1), .val (.int p2), .val (.int (p0 &&& (3 : Int32))), .val (.ref b12), .val (.int (own_sp (p2 &&& (7 : Int32)))), .val (.ref su), .unset] []))
          refine own_go (fun t k => XS.goto X59.here hx rfl (pc0 := 106) (pc' := 114) rfl (hb hby at_106) (by decide) (by decide) k) ?_
          show own_Gl _ _ _ _ (T59.setTop (mkF m 114 #[.val (.int p0), .val (.int p1), .val (.int p2), .val (.int (p0 &&& (3 : Int32))), .val (.ref b12), .val (.int (own_sp (p2 &&& (7 : Int32)))), .val (.ref su), .unset] []))
          refine own_go (fun t k => XS.iloadN X59.here hx rfl (hb hby at_114) rfl k) ?_
          show own_Gl _ _ _ _ (T59.setTop (mkF m 115 #[.val (.int p0), .val (.int p1), .val (.int p2), .val (.int (p0 &&& (3 : Int32))), .val (.ref b12), .val (.int (own_sp (p2 &&& (7 : Int32)))), .val (.ref su), .unset] [(.int (p0 &&& (3 : Int32)))]))
          refine own_go (fun t k => XS.ifYes X59.here hx rfl (pc0 := 115) (pc' := 142) rfl (hb hby at_115) rfl ((if0 _ _).trans (feq hc72_23).2) (by decide) (by decide) k) ?_
          show own_Gl _ _ _ _ (T59.setTop (mkF m 142 #[.val (.int p0), .val (.int p1), .val (.int p2), .val (.int (p0 &&& (3 : Int32))), .val (.ref b12), .val (.int (own_sp (p2 &&& (7 : Int32)))), .val (.ref su), .unset] []))
          refine own_go (fun t k => XS.iloadN X59.here hx rfl (hb hby at_142) rfl k) ?_
          show own_Gl _ _ _ _ (T59.setTop (mkF m 143 #[.val (.int p0), .val (.int p1), .val (.int p2), .val (.int (p0 &&& (3 : Int32))), .val (.ref b12), .val (.int (own_sp (p2 &&& (7 : Int32)))), .val (.ref su), .unset] [(.int (p0 &&& (3 : Int32)))]))
          refine own_go (fun t k => XS.iconst X59.here hx rfl (hb hby at_143) k) ?_
          show own_Gl _ _ _ _ (T59.setTop (mkF m 144 #[.val (.int p0), .val (.int p1), .val (.int p2), .val (.int (p0 &&& (3 : Int32))), .val (.ref b12), .val (.int (own_sp (p2 &&& (7 : Int32)))), .val (.ref su), .unset] [(.int (3 : Int32)), (.int (p0 &&& (3 : Int32)))]))
          have hd61 : ¬ ((p0 &&& (3 : Int32)) = (3 : Int32)) := by rw [hc98_58]; decide
          refine own_go (fun t k => XS.icmpYes X59.here hx rfl (pc0 := 144) (pc' := 171) rfl (hb hby at_144) rfl (feq hd61).2 (by decide) (by decide) k) ?_
          show own_Gl _ _ _ _ (T59.setTop (mkF m 171 #[.val (.int p0), .val (.int p1), .val (.int p2), .val (.int (p0 &&& (3 : Int32))), .val (.ref b12), .val (.int (own_sp (p2 &&& (7 : Int32)))), .val (.ref su), .unset] []))
          refine own_go (fun t k => XS.iload X59.here hx rfl (hb hby at_171) rfl k) ?_
          show own_Gl _ _ _ _ (T59.setTop (mkF m 173 #[.val (.int p0), .val (.int p1), .val (.int p2), .val (.int (p0 &&& (3 : Int32))), .val (.ref b12), .val (.int (own_sp (p2 &&& (7 : Int32)))), .val (.ref su), .unset] [(.int (own_sp (p2 &&& (7 : Int32))))]))
          refine own_go (fun t k => XS.bipush X59.here hx rfl (hb hby at_173) k) ?_
          show own_Gl _ _ _ _ (T59.setTop (mkF m 175 #[.val (.int p0), .val (.int p1), .val (.int p2), .val (.int (p0 &&& (3 : Int32))), .val (.ref b12), .val (.int (own_sp (p2 &&& (7 : Int32)))), .val (.ref su), .unset] [(.int (41 : Int32)), (.int (own_sp (p2 &&& (7 : Int32))))]))
          by_cases hc175_62 : (own_sp (p2 &&& (7 : Int32))) = (41 : Int32)
          · refine own_go (fun t k => XS.icmpNo X59.here hx rfl (hb hby at_175) rfl (teq hc175_62).2 k) ?_
            show own_Gl _ _ _ _ (T59.setTop (mkF m 178 #[.val (.int p0), .val (.int p1), .val (.int p2), .val (.int (p0 &&& (3 : Int32))), .val (.ref b12), .val (.int (own_sp (p2 &&& (7 : Int32)))), .val (.ref su), .unset] []))
            refine own_go (fun t k => XS.iconst X59.here hx rfl (hb hby at_178) k) ?_
            show own_Gl _ _ _ _ (T59.setTop (mkF m 179 #[.val (.int p0), .val (.int p1), .val (.int p2), .val (.int (p0 &&& (3 : Int32))), .val (.ref b12), .val (.int (own_sp (p2 &&& (7 : Int32)))), .val (.ref su), .unset] [(.int (1 : Int32))]))
            refine own_go (fun t k => XS.goto X59.here hx rfl (pc0 := 179) (pc' := 183) rfl (hb hby at_179) (by decide) (by decide) k) ?_
            show own_Gl _ _ _ _ (T59.setTop (mkF m 183 #[.val (.int p0), .val (.int p1), .val (.int p2), .val (.int (p0 &&& (3 : Int32))), .val (.ref b12), .val (.int (own_sp (p2 &&& (7 : Int32)))), .val (.ref su), .unset] [(.int (1 : Int32))]))
            refine own_go (fun t k => XS.istore X59.here hx rfl (hb hby at_183) rfl (l' := #[.val (.int p0), .val (.int p1), .val (.int p2), .val (.int (p0 &&& (3 : Int32))), .val (.ref b12), .val (.int (own_sp (p2 &&& (7 : Int32)))), .val (.ref su), .val (.int (1 : Int32))]) rfl k) ?_
            show own_Gl _ _ _ _ (T59.setTop (mkF m 185 #[.val (.int p0), .val (.int p1), .val (.int p2), .val (.int (p0 &&& (3 : Int32))), .val (.ref b12), .val (.int (own_sp (p2 &&& (7 : Int32)))), .val (.ref su), .val (.int (1 : Int32))] []))
            refine own_go (fun t k => XS.aload X59.here hx rfl (hb hby at_185) rfl rfl k) ?_
            show own_Gl _ _ _ _ (T59.setTop (mkF m 187 #[.val (.int p0), .val (.int p1), .val (.int p2), .val (.int (p0 &&& (3 : Int32))), .val (.ref b12), .val (.int (own_sp (p2 &&& (7 : Int32)))), .val (.ref su), .val (.int (1 : Int32))] [(.ref su)]))
            refine own_go (fun t k => XS.iload X59.here hx rfl (hb hby at_187) rfl k) ?_
            show own_Gl _ _ _ _ (T59.setTop (mkF m 189 #[.val (.int p0), .val (.int p1), .val (.int p2), .val (.int (p0 &&& (3 : Int32))), .val (.ref b12), .val (.int (own_sp (p2 &&& (7 : Int32)))), .val (.ref su), .val (.int (1 : Int32))] [(.int (own_sp (p2 &&& (7 : Int32)))), (.ref su)]))
            have f_63 : Fld Z h20 su "org/loomstyle/parse/ExpressionParser$RawText" "endsAtParenthesis" "Z" (.int (1 : Int32)) := (P10.ext (own_ext K20))
            have f_64 : Fld Z h20 su "org/loomstyle/parse/ExpressionParser$RawText" "endsAtColon" "Z" (.int (0 : Int32)) := (P11.ext (own_ext K20))
            have f_66 : Exa Z h20 su "org/loomstyle/parse/ExpressionParser$RawText" := (P9.ext (own_ext K20))
            obtain ⟨cq65, kq65, q65a, q65b, q65c⟩ := isOf hZ e59 f_66
            obtain ⟨_, _, ⟨T65, L65, kk65, nn65⟩, -, X65, ⟨Lc65, hQ65, l65, y65, z65⟩, st65⟩ := X59.virtualBack hx (y := (⟨"org/loomstyle/parse/ExpressionParser$RawText", "endsAt", "(I)Z"⟩ : MethodName)) (z := (⟨"org/loomstyle/parse/ExpressionParser$RawText", "endsAt", "(I)Z"⟩ : MethodName)) hown (mvT hZ (hw _ (List.mem_of_getElem? (i := 4) rfl))) (mvT hZ (hw _ (List.mem_of_getElem? (i := 5) rfl))) (notFace_of_selects (args := #[]) (mvT hZ (hw _ (List.mem_of_getElem? (i := 7) rfl)))) (mvT hZ (hw _ (List.mem_of_getElem? (i := 7) rfl))) (mvT hZ (hw _ (List.mem_of_getElem? (i := 6) rfl))) (by decide) (backOf (W := 0) (rm1 l Z a0 hw [] su (own_sp (p2 &&& (7 : Int32))) (1 : Int32) (0 : Int32) h20 n0 Z20 f_63 f_64) hZ (hw _ (List.mem_of_getElem? (i := 8) rfl)) (hw _ (List.mem_of_getElem? (i := 2) rfl)) (by decide) (by decide)) q65a q65c (g := (mkF m 189 #[.val (.int p0), .val (.int p1), .val (.int p2), .val (.int (p0 &&& (3 : Int32))), .val (.ref b12), .val (.int (own_sp (p2 &&& (7 : Int32)))), .val (.ref su), .val (.int (1 : Int32))] [(.int (own_sp (p2 &&& (7 : Int32)))), (.ref su)])) rfl (by rw [hml]; rfl) (Steps.refl _) (argsL := [(.int (own_sp (p2 &&& (7 : Int32))))]) (rest := []) (lenOf pd_0 rfl) rfl (by show 2 * 0 + _ ≤ _; exact Nat.le_of_eq rfl) (hb hby at_189) (fun _ _ => ⟨rfl, e59, (by decide : 1 + 0 ≤ _), (by decide : 8 + 0 ≤ _)⟩)
            dsimp only [Pt.U, Pt.locs, Pt.cells, Pt.slots] at X65 l65 y65 z65 st65 hQ65
            subst l65 y65 z65
            obtain ⟨N65q, rfl, hq65⟩ := hQ65
            have N65 := Fr.app N20 N65q
            refine own_go (fun t k => st65.trans k) ?_
            show own_Gl _ _ _ _ (T65.setTop (mkF m 192 #[.val (.int p0), .val (.int p1), .val (.int p2), .val (.int (p0 &&& (3 : Int32))), .val (.ref b12), .val (.int (own_sp (p2 &&& (7 : Int32)))), .val (.ref su), .val (.int (1 : Int32))] [(.int (f1 (own_sp (p2 &&& (7 : Int32))) (1 : Int32) (0 : Int32)))]))
            refine own_go (fun t k => XS.iload X65.here hx rfl (hb hby at_192) rfl k) ?_
            show own_Gl _ _ _ _ (T65.setTop (mkF m 194 #[.val (.int p0), .val (.int p1), .val (.int p2), .val (.int (p0 &&& (3 : Int32))), .val (.ref b12), .val (.int (own_sp (p2 &&& (7 : Int32)))), .val (.ref su), .val (.int (1 : Int32))] [(.int (1 : Int32)), (.int (f1 (own_sp (p2 &&& (7 : Int32))) (1 : Int32) (0 : Int32)))]))
            by_cases hc194_67 : (f1 (own_sp (p2 &&& (7 : Int32))) (1 : Int32) (0 : Int32)) = (1 : Int32)
            · refine own_go (fun t k => XS.icmpNo X65.here hx rfl (hb hby at_194) rfl (teq hc194_67).2 k) ?_
              show own_Gl _ _ _ _ (T65.setTop (mkF m 197 #[.val (.int p0), .val (.int p1), .val (.int p2), .val (.int (p0 &&& (3 : Int32))), .val (.ref b12), .val (.int (own_sp (p2 &&& (7 : Int32)))), .val (.ref su), .val (.int (1 : Int32))] []))
              refine own_go (fun t k => XS.iconst X65.here hx rfl (hb hby at_197) k) ?_
              show own_Gl _ _ _ _ (T65.setTop (mkF m 198 #[.val (.int p0), .val (.int p1), .val (.int p2), .val (.int (p0 &&& (3 : Int32))), .val (.ref b12), .val (.int (own_sp (p2 &&& (7 : Int32)))), .val (.ref su), .val (.int (1 : Int32))] [(.int (1 : Int32))]))
              refine own_go (fun t k => XS.goto X65.here hx rfl (pc0 := 198) (pc' := 202) rfl (hb hby at_198) (by decide) (by decide) k) ?_
              show own_Gl _ _ _ _ (T65.setTop (mkF m 202 #[.val (.int p0), .val (.int p1), .val (.int p2), .val (.int (p0 &&& (3 : Int32))), .val (.ref b12), .val (.int (own_sp (p2 &&& (7 : Int32)))), .val (.ref su), .val (.int (1 : Int32))] [(.int (1 : Int32))]))
              obtain ⟨fs, hr, hrun, hended, hW, hsame⟩ := X65.leave (v := some (.int (1 : Int32))) (fun h => by rw [Bd.returns] at h; cases h)
              refine own_fin (retN X65 hx (t := .boolean) Bd.returns (by simp) (hb hby at_202) hr) hrun hended ⟨_, _, rfl, ?_, ⟨_, rfl⟩, hW, hsame.mono (by decide) (by decide)⟩
              show Q0 Z p0 p1 p2 cp fa su sa h0 n0 _ T65.heap _
              rw [hq65]
              exact ⟨N65, by rw [f0, if_pos hc55_21, if_neg hc72_23, if_neg hc85_43, if_pos hc98_58, if_pos hc175_62, if_pos hc194_67]⟩
            · refine own_go (fun t k => XS.icmpYes X65.here hx rfl (pc0 := 194) (pc' := 201) rfl (hb hby at_194) rfl (feq hc194_67).2 (by decide) (by decide) k) ?_
              show own_Gl _ _ _ _ (T65.setTop (mkF m 201 #[.val (.int p0), .val (.int p1), .val (.int p2), .val (.int (p0 &&& (3 : Int32))), .val (.ref b12), .val (.int (own_sp (p2 &&& (7 : Int32)))), .val (.ref su), .val (.int (1 : Int32))] []))
              refine own_go (fun t k => XS.iconst X65.here hx rfl (hb hby at_201) k) ?_
              show own_Gl _ _ _ _ (T65.setTop (mkF m 202 #[.val (.int p0), .val (.int p1), .val (.int p2), .val (.int (p0 &&& (3 : Int32))), .val (.ref b12), .val (.int (own_sp (p2 &&& (7 : Int32)))), .val (.ref su), .val (.int (1 : Int32))] [(.int (0 : Int32))]))
              obtain ⟨fs, hr, hrun, hended, hW, hsame⟩ := X65.leave (v := some (.int (0 : Int32))) (fun h => by rw [Bd.returns] at h; cases h)
              refine own_fin (retN X65 hx (t := .boolean) Bd.returns (by simp) (hb hby at_202) hr) hrun hended ⟨_, _, rfl, ?_, ⟨_, rfl⟩, hW, hsame.mono (by decide) (by decide)⟩
              show Q0 Z p0 p1 p2 cp fa su sa h0 n0 _ T65.heap _
              rw [hq65]
              exact ⟨N65, by rw [f0, if_pos hc55_21, if_neg hc72_23, if_neg hc85_43, if_pos hc98_58, if_pos hc175_62, if_neg hc194_67]⟩
          · refine own_go (fun t k => XS.icmpYes X59.here hx rfl (pc0 := 175) (pc' := 182) rfl (hb hby at_175) rfl (feq hc175_62).2 (by decide) (by decide) k) ?_
            show own_Gl _ _ _ _ (T59.setTop (mkF m 182 #[.val (.int p0), .val (.int p1), .val (.int p2), .val (.int (p0 &&& (3 : Int32))), .val (.ref b12), .val (.int (own_sp (p2 &&& (7 : Int32)))), .val (.ref su), .unset] []))
            refine own_go (fun t k => XS.iconst X59.here hx rfl (hb hby at_182) k) ?_
            show own_Gl _ _ _ _ (T59.setTop (mkF m 183 #[.val (.int p0), .val (.int p1), .val (.int p2), .val (.int (p0 &&& (3 : Int32))), .val (.ref b12), .val (.int (own_sp (p2 &&& (7 : Int32)))), .val (.ref su), .unset] [(.int (0 : Int32))]))
            refine own_go (fun t k => XS.istore X59.here hx rfl (hb hby at_183) rfl (l' := #[.val (.int p0), .val (.int p1), .val (.int p2), .val (.int (p0 &&& (3 : Int32))), .val (.ref b12), .val (.int (own_sp (p2 &&& (7 : Int32)))), .val (.ref su), .val (.int (0 : Int32))]) rfl k) ?_
            show own_Gl _ _ _ _ (T59.setTop (mkF m 185 #[.val (.int p0), .val (.int p1), .val (.int p2), .val (.int (p0 &&& (3 : Int32))), .val (.ref b12), .val (.int (own_sp (p2 &&& (7 : Int32)))), .val (.ref su), .val (.int (0 : Int32))] []))
            refine own_go (fun t k => XS.aload X59.here hx rfl (hb hby at_185) rfl rfl k) ?_
            show own_Gl _ _ _ _ (T59.setTop (mkF m 187 #[.val (.int p0), .val (.int p1), .val (.int p2), .val (.int (p0 &&& (3 : Int32))), .val (.ref b12), .val (.int (own_sp (p2 &&& (7 : Int32)))), .val (.ref su), .val (.int (0 : Int32))] [(.ref su)]))
            refine own_go (fun t k => XS.iload X59.here hx rfl (hb hby at_187) rfl k) ?_
            show own_Gl _ _ _ _ (T59.setTop (mkF m 189 #[.val (.int p0), .val (.int p1), .val (.int p2), .val (.int (p0 &&& (3 : Int32))), .val (.ref b12), .val (.int (own_sp (p2 &&& (7 : Int32)))), .val (.ref su), .val (.int (0 : Int32))] [(.int (own_sp (p2 &&& (7 : Int32)))), (.ref su)]))
            have f_68 : Fld Z h20 su "org/loomstyle/parse/ExpressionParser$RawText" "endsAtParenthesis" "Z" (.int (1 : Int32)) := (P10.ext (own_ext K20))
            have f_69 : Fld Z h20 su "org/loomstyle/parse/ExpressionParser$RawText" "endsAtColon" "Z" (.int (0 : Int32)) := (P11.ext (own_ext K20))
            have f_71 : Exa Z h20 su "org/loomstyle/parse/ExpressionParser$RawText" := (P9.ext (own_ext K20))
            obtain ⟨cq70, kq70, q70a, q70b, q70c⟩ := isOf hZ e59 f_71
            obtain ⟨_, _, ⟨T70, L70, kk70, nn70⟩, -, X70, ⟨Lc70, hQ70, l70, y70, z70⟩, st70⟩ := X59.virtualBack hx (y := (⟨"org/loomstyle/parse/ExpressionParser$RawText", "endsAt", "(I)Z"⟩ : MethodName)) (z := (⟨"org/loomstyle/parse/ExpressionParser$RawText", "endsAt", "(I)Z"⟩ : MethodName)) hown (mvT hZ (hw _ (List.mem_of_getElem? (i := 4) rfl))) (mvT hZ (hw _ (List.mem_of_getElem? (i := 5) rfl))) (notFace_of_selects (args := #[]) (mvT hZ (hw _ (List.mem_of_getElem? (i := 7) rfl)))) (mvT hZ (hw _ (List.mem_of_getElem? (i := 7) rfl))) (mvT hZ (hw _ (List.mem_of_getElem? (i := 6) rfl))) (by decide) (backOf (W := 0) (rm1 l Z a0 hw [] su (own_sp (p2 &&& (7 : Int32))) (1 : Int32) (0 : Int32) h20 n0 Z20 f_68 f_69) hZ (hw _ (List.mem_of_getElem? (i := 8) rfl)) (hw _ (List.mem_of_getElem? (i := 2) rfl)) (by decide) (by decide)) q70a q70c (g := (mkF m 189 #[.val (.int p0), .val (.int p1), .val (.int p2), .val (.int (p0 &&& (3 : Int32))), .val (.ref b12), .val (.int (own_sp (p2 &&& (7 : Int32)))), .val (.ref su), .val (.int (0 : Int32))] [(.int (own_sp (p2 &&& (7 : Int32)))), (.ref su)])) rfl (by rw [hml]; rfl) (Steps.refl _) (argsL := [(.int (own_sp (p2 &&& (7 : Int32))))]) (rest := []) (lenOf pd_0 rfl) rfl (by show 2 * 0 + _ ≤ _; exact Nat.le_of_eq rfl) (hb hby at_189) (fun _ _ => ⟨rfl, e59, (by decide : 1 + 0 ≤ _), (by decide : 8 + 0 ≤ _)⟩)
            dsimp only [Pt.U, Pt.locs, Pt.cells, Pt.slots] at X70 l70 y70 z70 st70 hQ70
            subst l70 y70 z70
            obtain ⟨N70q, rfl, hq70⟩ := hQ70
            have N70 := Fr.app N20 N70q
            refine own_go (fun t k => st70.trans k) ?_
            show own_Gl _ _ _ _ (T70.setTop (mkF m 192 #[.val (.int p0), .val (.int p1), .val (.int p2), .val (.int (p0 &&& (3 : Int32))), .val (.ref b12), .val (.int (own_sp (p2 &&& (7 : Int32)))), .val (.ref su), .val (.int (0 : Int32))] [(.int (f1 (own_sp (p2 &&& (7 : Int32))) (1 : Int32) (0 : Int32)))]))
            refine own_go (fun t k => XS.iload X70.here hx rfl (hb hby at_192) rfl k) ?_
            show own_Gl _ _ _ _ (T70.setTop (mkF m 194 #[.val (.int p0), .val (.int p1), .val (.int p2), .val (.int (p0 &&& (3 : Int32))), .val (.ref b12), .val (.int (own_sp (p2 &&& (7 : Int32)))), .val (.ref su), .val (.int (0 : Int32))] [(.int (0 : Int32)), (.int (f1 (own_sp (p2 &&& (7 : Int32))) (1 : Int32) (0 : Int32)))]))
            by_cases hc194_72 : (f1 (own_sp (p2 &&& (7 : Int32))) (1 : Int32) (0 : Int32)) = (0 : Int32)
            · refine own_go (fun t k => XS.icmpNo X70.here hx rfl (hb hby at_194) rfl (teq hc194_72).2 k) ?_
              show own_Gl _ _ _ _ (T70.setTop (mkF m 197 #[.val (.int p0), .val (.int p1), .val (.int p2), .val (.int (p0 &&& (3 : Int32))), .val (.ref b12), .val (.int (own_sp (p2 &&& (7 : Int32)))), .val (.ref su), .val (.int (0 : Int32))] []))
              refine own_go (fun t k => XS.iconst X70.here hx rfl (hb hby at_197) k) ?_
              show own_Gl _ _ _ _ (T70.setTop (mkF m 198 #[.val (.int p0), .val (.int p1), .val (.int p2), .val (.int (p0 &&& (3 : Int32))), .val (.ref b12), .val (.int (own_sp (p2 &&& (7 : Int32)))), .val (.ref su), .val (.int (0 : Int32))] [(.int (1 : Int32))]))
              refine own_go (fun t k => XS.goto X70.here hx rfl (pc0 := 198) (pc' := 202) rfl (hb hby at_198) (by decide) (by decide) k) ?_
              show own_Gl _ _ _ _ (T70.setTop (mkF m 202 #[.val (.int p0), .val (.int p1), .val (.int p2), .val (.int (p0 &&& (3 : Int32))), .val (.ref b12), .val (.int (own_sp (p2 &&& (7 : Int32)))), .val (.ref su), .val (.int (0 : Int32))] [(.int (1 : Int32))]))
              obtain ⟨fs, hr, hrun, hended, hW, hsame⟩ := X70.leave (v := some (.int (1 : Int32))) (fun h => by rw [Bd.returns] at h; cases h)
              refine own_fin (retN X70 hx (t := .boolean) Bd.returns (by simp) (hb hby at_202) hr) hrun hended ⟨_, _, rfl, ?_, ⟨_, rfl⟩, hW, hsame.mono (by decide) (by decide)⟩
              show Q0 Z p0 p1 p2 cp fa su sa h0 n0 _ T70.heap _
              rw [hq70]
              exact ⟨N70, by rw [f0, if_pos hc55_21, if_neg hc72_23, if_neg hc85_43, if_pos hc98_58, if_neg hc175_62, if_pos hc194_72]⟩
            · refine own_go (fun t k => XS.icmpYes X70.here hx rfl (pc0 := 194) (pc' := 201) rfl (hb hby at_194) rfl (feq hc194_72).2 (by decide) (by decide) k) ?_
              show own_Gl _ _ _ _ (T70.setTop (mkF m 201 #[.val (.int p0), .val (.int p1), .val (.int p2), .val (.int (p0 &&& (3 : Int32))), .val (.ref b12), .val (.int (own_sp (p2 &&& (7 : Int32)))), .val (.ref su), .val (.int (0 : Int32))] []))
              refine own_go (fun t k => XS.iconst X70.here hx rfl (hb hby at_201) k) ?_
              show own_Gl _ _ _ _ (T70.setTop (mkF m 202 #[.val (.int p0), .val (.int p1), .val (.int p2), .val (.int (p0 &&& (3 : Int32))), .val (.ref b12), .val (.int (own_sp (p2 &&& (7 : Int32)))), .val (.ref su), .val (.int (0 : Int32))] [(.int (0 : Int32))]))
              obtain ⟨fs, hr, hrun, hended, hW, hsame⟩ := X70.leave (v := some (.int (0 : Int32))) (fun h => by rw [Bd.returns] at h; cases h)
              refine own_fin (retN X70 hx (t := .boolean) Bd.returns (by simp) (hb hby at_202) hr) hrun hended ⟨_, _, rfl, ?_, ⟨_, rfl⟩, hW, hsame.mono (by decide) (by decide)⟩
              show Q0 Z p0 p1 p2 cp fa su sa h0 n0 _ T70.heap _
              rw [hq70]
              exact ⟨N70, by rw [f0, if_pos hc55_21, if_neg hc72_23, if_neg hc85_43, if_pos hc98_58, if_neg hc175_62, if_neg hc194_72]⟩
        · refine own_go (fun t k => XS.icmpYes X20.here hx rfl (pc0 := 98) (pc' := 109) rfl (hb hby at_98) rfl (feq hc98_58).2 (by decide) (by decide) k) ?_
          show own_Gl _ _ _ _ (T20.setTop (mkF m 109 #[.val (.int p0), .val (.int p1), .val (.int p2), .val (.int (p0 &&& (3 : Int32))), .val (.ref b12), .val (.int (own_sp (p2 &&& (7 : Int32)))), .unset, .unset] []))
          have f_74 : Sta Z h20 "org/loomstyle/parse/ExpressionParser$RawText" "SUPPORTS_AFTER_NAME" "Lorg/loomstyle/parse/ExpressionParser$RawText;" (.ref sa) := (P12.ext (own_ext K20))
          obtain ⟨T73, X73, e73, st73⟩ := getS2 X20 hx hZ hown (host := "") (Or.inl (hw _ (List.mem_of_getElem? (i := 15) rfl))) Via.refl e20 f_74 (g := (mkF m 109 #[.val (.int p0), .val (.int p1), .val (.int p2), .val (.int (p0 &&& (3 : Int32))), .val (.ref b12), .val (.int (own_sp (p2 &&& (7 : Int32)))), .unset, .unset] [])) rfl (hb hby at_109)
          refine own_go (fun t k => st73 _ k) ?_
          show own_Gl _ _ _ _ (T73.setTop (mkF m 112 #[.val (.int p0), .val (.int p1), .val (.int p2), .val (.int (p0 &&& (3 : Int32))), .val (.ref b12), .val (.int (own_sp (p2 &&& (7 : Int32)))), .unset, .unset] [(.ref sa)]))
          refine own_go (fun t k => XS.astore X73.here hx rfl (hb hby at_112) rfl rfl (l' := #[.val (.int p0), .val (.int p1), .val (.int p2), .val (.int (p0 &&& (3 : Int32))), .val (.ref b12), .val (.int (own_sp (p2 &&& (7 : Int32)))), .val (.ref sa), .unset]) rfl k) ?_
          show own_Gl _ _ _ _ (T73.setTop (mkF m 114 #[.val (.int p0), .val (.int p1), .val (.int p2), .val (.int (p0 &&& (3 : Int32))), .val (.ref b12), .val (.int (own_sp (p2 &&& (7 : Int32)))), .val (.ref sa), .unset] []))
          refine own_go (fun t k => XS.iloadN X73.here hx rfl (hb hby at_114) rfl k) ?_
          show own_Gl _ _ _ _ (T73.setTop (mkF m 115 #[.val (.int p0), .val (.int p1), .val (.int p2), .val (.int (p0 &&& (3 : Int32))), .val (.ref b12), .val (.int (own_sp (p2 &&& (7 : Int32)))), .val (.ref sa), .unset] [(.int (p0 &&& (3 : Int32)))]))
          refine own_go (fun t k => XS.ifYes X73.here hx rfl (pc0 := 115) (pc' := 142) rfl (hb hby at_115) rfl ((if0 _ _).trans (feq hc72_23).2) (by decide) (by decide) k) ?_
          show own_Gl _ _ _ _ (T73.setTop (mkF m 142 #[.val (.int p0), .val (.int p1), .val (.int p2), .val (.int (p0 &&& (3 : Int32))), .val (.ref b12), .val (.int (own_sp (p2 &&& (7 : Int32)))), .val (.ref sa), .unset] []))
          refine own_go (fun t k => XS.iloadN X73.here hx rfl (hb hby at_142) rfl k) ?_
          show own_Gl _ _ _ _ (T73.setTop (mkF m 143 #[.val (.int p0), .val (.int p1), .val (.int p2), .val (.int (p0 &&& (3 : Int32))), .val (.ref b12), .val (.int (own_sp (p2 &&& (7 : Int32)))), .val (.ref sa), .unset] [(.int (p0 &&& (3 : Int32)))]))
          refine own_go (fun t k => XS.iconst X73.here hx rfl (hb hby at_143) k) ?_
          show own_Gl _ _ _ _ (T73.setTop (mkF m 144 #[.val (.int p0), .val (.int p1), .val (.int p2), .val (.int (p0 &&& (3 : Int32))), .val (.ref b12), .val (.int (own_sp (p2 &&& (7 : Int32)))), .val (.ref sa), .unset] [(.int (3 : Int32)), (.int (p0 &&& (3 : Int32)))]))
          by_cases hc144_75 : (p0 &&& (3 : Int32)) = (3 : Int32)
          · refine own_go (fun t k => XS.icmpNo X73.here hx rfl (hb hby at_144) rfl (teq hc144_75).2 k) ?_
            show own_Gl _ _ _ _ (T73.setTop (mkF m 147 #[.val (.int p0), .val (.int p1), .val (.int p2), .val (.int (p0 &&& (3 : Int32))), .val (.ref b12), .val (.int (own_sp (p2 &&& (7 : Int32)))), .val (.ref sa), .unset] []))
            refine own_go (fun t k => XS.iload X73.here hx rfl (hb hby at_147) rfl k) ?_
            show own_Gl _ _ _ _ (T73.setTop (mkF m 149 #[.val (.int p0), .val (.int p1), .val (.int p2), .val (.int (p0 &&& (3 : Int32))), .val (.ref b12), .val (.int (own_sp (p2 &&& (7 : Int32)))), .val (.ref sa), .unset] [(.int (own_sp (p2 &&& (7 : Int32))))]))
            refine own_go (fun t k => XS.bipush X73.here hx rfl (hb hby at_149) k) ?_
            show own_Gl _ _ _ _ (T73.setTop (mkF m 151 #[.val (.int p0), .val (.int p1), .val (.int p2), .val (.int (p0 &&& (3 : Int32))), .val (.ref b12), .val (.int (own_sp (p2 &&& (7 : Int32)))), .val (.ref sa), .unset] [(.int (41 : Int32)), (.int (own_sp (p2 &&& (7 : Int32))))]))
            by_cases hc151_76 : (own_sp (p2 &&& (7 : Int32))) = (41 : Int32)
            · refine own_go (fun t k => XS.icmpYes X73.here hx rfl (pc0 := 151) (pc' := 161) rfl (hb hby at_151) rfl (teq hc151_76).1 (by decide) (by decide) k) ?_
              show own_Gl _ _ _ _ (T73.setTop (mkF m 161 #[.val (.int p0), .val (.int p1), .val (.int p2), .val (.int (p0 &&& (3 : Int32))), .val (.ref b12), .val (.int (own_sp (p2 &&& (7 : Int32)))), .val (.ref sa), .unset] []))
              refine own_go (fun t k => XS.iconst X73.here hx rfl (hb hby at_161) k) ?_
              show own_Gl _ _ _ _ (T73.setTop (mkF m 162 #[.val (.int p0), .val (.int p1), .val (.int p2), .val (.int (p0 &&& (3 : Int32))), .val (.ref b12), .val (.int (own_sp (p2 &&& (7 : Int32)))), .val (.ref sa), .unset] [(.int (1 : Int32))]))
              refine own_go (fun t k => XS.goto X73.here hx rfl (pc0 := 162) (pc' := 166) rfl (hb hby at_162) (by decide) (by decide) k) ?_
              show own_Gl _ _ _ _ (T73.setTop (mkF m 166 #[.val (.int p0), .val (.int p1), .val (.int p2), .val (.int (p0 &&& (3 : Int32))), .val (.ref b12), .val (.int (own_sp (p2 &&& (7 : Int32)))), .val (.ref sa), .unset] [(.int (1 : Int32))]))
              refine own_go (fun t k => XS.istore X73.here hx rfl (hb hby at_166) rfl (l' := #[.val (.int p0), .val (.int p1), .val (.int p2), .val (.int (p0 &&& (3 : Int32))), .val (.ref b12), .val (.int (own_sp (p2 &&& (7 : Int32)))), .val (.ref sa), .val (.int (1 : Int32))]) rfl k) ?_
              show own_Gl _ _ _ _ (T73.setTop (mkF m 168 #[.val (.int p0), .val (.int p1), .val (.int p2), .val (.int (p0 &&& (3 : Int32))), .val (.ref b12), .val (.int (own_sp (p2 &&& (7 : Int32)))), .val (.ref sa), .val (.int (1 : Int32))] []))
              refine own_go (fun t k => XS.goto X73.here hx rfl (pc0 := 168) (pc' := 185) rfl (hb hby at_168) (by decide) (by decide) k) ?_
              show own_Gl _ _ _ _ (T73.setTop (mkF m 185 #[.val (.int p0), .val (.int p1), .val (.int p2), .val (.int (p0 &&& (3 : Int32))), .val (.ref b12), .val (.int (own_sp (p2 &&& (7 : Int32)))), .val (.ref sa), .val (.int (1 : Int32))] []))
              refine own_go (fun t k => XS.aload X73.here hx rfl (hb hby at_185) rfl rfl k) ?_
              show own_Gl _ _ _ _ (T73.setTop (mkF m 187 #[.val (.int p0), .val (.int p1), .val (.int p2), .val (.int (p0 &&& (3 : Int32))), .val (.ref b12), .val (.int (own_sp (p2 &&& (7 : Int32)))), .val (.ref sa), .val (.int (1 : Int32))] [(.ref sa)]))
              refine own_go (fun t k => XS.iload X73.here hx rfl (hb hby at_187) rfl k) ?_
              show own_Gl _ _ _ _ (T73.setTop (mkF m 189 #[.val (.int p0), .val (.int p1), .val (.int p2), .val (.int (p0 &&& (3 : Int32))), .val (.ref b12), .val (.int (own_sp (p2 &&& (7 : Int32)))), .val (.ref sa), .val (.int (1 : Int32))] [(.int (own_sp (p2 &&& (7 : Int32)))), (.ref sa)]))
              have f_77 : Fld Z h20 sa "org/loomstyle/parse/ExpressionParser$RawText" "endsAtParenthesis" "Z" (.int (1 : Int32)) := (P14.ext (own_ext K20))
              have f_78 : Fld Z h20 sa "org/loomstyle/parse/ExpressionParser$RawText" "endsAtColon" "Z" (.int (1 : Int32)) := (P15.ext (own_ext K20))
              have f_80 : Exa Z h20 sa "org/loomstyle/parse/ExpressionParser$RawText" := (P13.ext (own_ext K20))
              obtain ⟨cq79, kq79, q79a, q79b, q79c⟩ := isOf hZ e73 f_80
              obtain ⟨_, _, ⟨T79, L79, kk79, nn79⟩, -, X79, ⟨Lc79, hQ79, l79, y79, z79⟩, st79⟩ := X73.virtualBack hx (y := (⟨"org/loomstyle/parse/ExpressionParser$RawText", "endsAt", "(I)Z"⟩ : MethodName)) (z := (⟨"org/loomstyle/parse/ExpressionParser$RawText", "endsAt", "(I)Z"⟩ : MethodName)) hown (mvT hZ (hw _ (List.mem_of_getElem? (i := 4) rfl))) (mvT hZ (hw _ (List.mem_of_getElem? (i := 5) rfl))) (notFace_of_selects (args := #[]) (mvT hZ (hw _ (List.mem_of_getElem? (i := 7) rfl)))) (mvT hZ (hw _ (List.mem_of_getElem? (i := 7) rfl))) (mvT hZ (hw _ (List.mem_of_getElem? (i := 6) rfl))) (by decide) (backOf (W := 0) (rm1 l Z a0 hw [] sa (own_sp (p2 &&& (7 : Int32))) (1 : Int32) (1 : Int32) h20 n0 Z20 f_77 f_78) hZ (hw _ (List.mem_of_getElem? (i := 8) rfl)) (hw _ (List.mem_of_getElem? (i := 2) rfl)) (by decide) (by decide)) q79a q79c (g := (mkF m 189 #[.val (.int p0), .val (.int p1), .val (.int p2), .val (.int (p0 &&& (3 : Int32))), .val (.ref b12), .val (.int (own_sp (p2 &&& (7 : Int32)))), .val (.ref sa), .val (.int (1 : Int32))] [(.int (own_sp (p2 &&& (7 : Int32)))), (.ref sa)])) rfl (by rw [hml]; rfl) (Steps.refl _) (argsL := [(.int (own_sp (p2 &&& (7 : Int32))))]) (rest := []) (lenOf pd_0 rfl) rfl (by show 2 * 0 + _ ≤ _; exact Nat.le_of_eq rfl) (hb hby at_189) (fun _ _ => ⟨rfl, e73, (by decide : 1 + 0 ≤ _), (by decide : 8 + 0 ≤ _)⟩)
              dsimp only [Pt.U, Pt.locs, Pt.cells, Pt.slots] at X79 l79 y79 z79 st79 hQ79
              subst l79 y79 z79
              obtain ⟨N79q, rfl, hq79⟩ := hQ79
              have N79 := Fr.app N20 N79q
              refine own_go (fun t k => st79.trans k) ?_
              show own_Gl _ _ _ _ (T79.setTop (mkF m 192 #[.val (.int p0), .val (.int p1), .val (.int p2), .val (.int (p0 &&& (3 : Int32))), .val (.ref b12), .val (.int (own_sp (p2 &&& (7 : Int32)))), .val (.ref sa), .val (.int (1 : Int32))] [(.int (f1 (own_sp (p2 &&& (7 : Int32))) (1 : Int32) (1 : Int32)))]))
              refine own_go (fun t k => XS.iload X79.here hx rfl (hb hby at_192) rfl k) ?_
              show own_Gl _ _ _ _ (T79.setTop (mkF m 194 #[.val (.int p0), .val (.int p1), .val (.int p2), .val (.int (p0 &&& (3 : Int32))), .val (.ref b12), .val (.int (own_sp (p2 &&& (7 : Int32)))), .val (.ref sa), .val (.int (1 : Int32))] [(.int (1 : Int32)), (.int (f1 (own_sp (p2 &&& (7 : Int32))) (1 : Int32) (1 : Int32)))]))
              by_cases hc194_81 : (f1 (own_sp (p2 &&& (7 : Int32))) (1 : Int32) (1 : Int32)) = (1 : Int32)
              · refine own_go (fun t k => XS.icmpNo X79.here hx rfl (hb hby at_194) rfl (teq hc194_81).2 k) ?_
                show own_Gl _ _ _ _ (T79.setTop (mkF m 197 #[.val (.int p0), .val (.int p1), .val (.int p2), .val (.int (p0 &&& (3 : Int32))), .val (.ref b12), .val (.int (own_sp (p2 &&& (7 : Int32)))), .val (.ref sa), .val (.int (1 : Int32))] []))
                refine own_go (fun t k => XS.iconst X79.here hx rfl (hb hby at_197) k) ?_
                show own_Gl _ _ _ _ (T79.setTop (mkF m 198 #[.val (.int p0), .val (.int p1), .val (.int p2), .val (.int (p0 &&& (3 : Int32))), .val (.ref b12), .val (.int (own_sp (p2 &&& (7 : Int32)))), .val (.ref sa), .val (.int (1 : Int32))] [(.int (1 : Int32))]))
                refine own_go (fun t k => XS.goto X79.here hx rfl (pc0 := 198) (pc' := 202) rfl (hb hby at_198) (by decide) (by decide) k) ?_
                show own_Gl _ _ _ _ (T79.setTop (mkF m 202 #[.val (.int p0), .val (.int p1), .val (.int p2), .val (.int (p0 &&& (3 : Int32))), .val (.ref b12), .val (.int (own_sp (p2 &&& (7 : Int32)))), .val (.ref sa), .val (.int (1 : Int32))] [(.int (1 : Int32))]))
                obtain ⟨fs, hr, hrun, hended, hW, hsame⟩ := X79.leave (v := some (.int (1 : Int32))) (fun h => by rw [Bd.returns] at h; cases h)
                refine own_fin (retN X79 hx (t := .boolean) Bd.returns (by simp) (hb hby at_202) hr) hrun hended ⟨_, _, rfl, ?_, ⟨_, rfl⟩, hW, hsame.mono (by decide) (by decide)⟩
                show Q0 Z p0 p1 p2 cp fa su sa h0 n0 _ T79.heap _
                rw [hq79]
                exact ⟨N79, by rw [f0, if_pos hc55_21, if_neg hc72_23, if_neg hc85_43, if_neg hc98_58, if_pos hc144_75, if_pos hc151_76, if_pos hc194_81]⟩
              · refine own_go (fun t k => XS.icmpYes X79.here hx rfl (pc0 := 194) (pc' := 201) rfl (hb hby at_194) rfl (feq hc194_81).2 (by decide) (by decide) k) ?_
                show own_Gl _ _ _ _ (T79.setTop (mkF m 201 #[.val (.int p0), .val (.int p1), .val (.int p2), .val (.int (p0 &&& (3 : Int32))), .val (.ref b12), .val (.int (own_sp (p2 &&& (7 : Int32)))), .val (.ref sa), .val (.int (1 : Int32))] []))
                refine own_go (fun t k => XS.iconst X79.here hx rfl (hb hby at_201) k) ?_
                show own_Gl _ _ _ _ (T79.setTop (mkF m 202 #[.val (.int p0), .val (.int p1), .val (.int p2), .val (.int (p0 &&& (3 : Int32))), .val (.ref b12), .val (.int (own_sp (p2 &&& (7 : Int32)))), .val (.ref sa), .val (.int (1 : Int32))] [(.int (0 : Int32))]))
                obtain ⟨fs, hr, hrun, hended, hW, hsame⟩ := X79.leave (v := some (.int (0 : Int32))) (fun h => by rw [Bd.returns] at h; cases h)
                refine own_fin (retN X79 hx (t := .boolean) Bd.returns (by simp) (hb hby at_202) hr) hrun hended ⟨_, _, rfl, ?_, ⟨_, rfl⟩, hW, hsame.mono (by decide) (by decide)⟩
                show Q0 Z p0 p1 p2 cp fa su sa h0 n0 _ T79.heap _
                rw [hq79]
                exact ⟨N79, by rw [f0, if_pos hc55_21, if_neg hc72_23, if_neg hc85_43, if_neg hc98_58, if_pos hc144_75, if_pos hc151_76, if_neg hc194_81]⟩
            · refine own_go (fun t k => XS.icmpNo X73.here hx rfl (hb hby at_151) rfl (feq hc151_76).1 k) ?_
              show own_Gl _ _ _ _ (T73.setTop (mkF m 154 #[.val (.int p0), .val (.int p1), .val (.int p2), .val (.int (p0 &&& (3 : Int32))), .val (.ref b12), .val (.int (own_sp (p2 &&& (7 : Int32)))), .val (.ref sa), .unset] []))
              refine own_go (fun t k => XS.iload X73.here hx rfl (hb hby at_154) rfl k) ?_
              show own_Gl _ _ _ _ (T73.setTop (mkF m 156 #[.val (.int p0), .val (.int p1), .val (.int p2), .val (.int (p0 &&& (3 : Int32))), .val (.ref b12), .val (.int (own_sp (p2 &&& (7 : Int32)))), .val (.ref sa), .unset] [(.int (own_sp (p2 &&& (7 : Int32))))]))
              refine own_go (fun t k => XS.bipush X73.here hx rfl (hb hby at_156) k) ?_
              show own_Gl _ _ _ _ (T73.setTop (mkF m 158 #[.val (.int p0), .val (.int p1), .val (.int p2), .val (.int (p0 &&& (3 : Int32))), .val (.ref b12), .val (.int (own_sp (p2 &&& (7 : Int32)))), .val (.ref sa), .unset] [(.int (58 : Int32)), (.int (own_sp (p2 &&& (7 : Int32))))]))
              by_cases hc158_82 : (own_sp (p2 &&& (7 : Int32))) = (58 : Int32)
              · refine own_go (fun t k => XS.icmpNo X73.here hx rfl (hb hby at_158) rfl (teq hc158_82).2 k) ?_
                show own_Gl _ _ _ _ (T73.setTop (mkF m 161 #[.val (.int p0), .val (.int p1), .val (.int p2), .val (.int (p0 &&& (3 : Int32))), .val (.ref b12), .val (.int (own_sp (p2 &&& (7 : Int32)))), .val (.ref sa), .unset] []))
                refine own_go (fun t k => XS.iconst X73.here hx rfl (hb hby at_161) k) ?_
                show own_Gl _ _ _ _ (T73.setTop (mkF m 162 #[.val (.int p0), .val (.int p1), .val (.int p2), .val (.int (p0 &&& (3 : Int32))), .val (.ref b12), .val (.int (own_sp (p2 &&& (7 : Int32)))), .val (.ref sa), .unset] [(.int (1 : Int32))]))
                refine own_go (fun t k => XS.goto X73.here hx rfl (pc0 := 162) (pc' := 166) rfl (hb hby at_162) (by decide) (by decide) k) ?_
                show own_Gl _ _ _ _ (T73.setTop (mkF m 166 #[.val (.int p0), .val (.int p1), .val (.int p2), .val (.int (p0 &&& (3 : Int32))), .val (.ref b12), .val (.int (own_sp (p2 &&& (7 : Int32)))), .val (.ref sa), .unset] [(.int (1 : Int32))]))
                refine own_go (fun t k => XS.istore X73.here hx rfl (hb hby at_166) rfl (l' := #[.val (.int p0), .val (.int p1), .val (.int p2), .val (.int (p0 &&& (3 : Int32))), .val (.ref b12), .val (.int (own_sp (p2 &&& (7 : Int32)))), .val (.ref sa), .val (.int (1 : Int32))]) rfl k) ?_
                show own_Gl _ _ _ _ (T73.setTop (mkF m 168 #[.val (.int p0), .val (.int p1), .val (.int p2), .val (.int (p0 &&& (3 : Int32))), .val (.ref b12), .val (.int (own_sp (p2 &&& (7 : Int32)))), .val (.ref sa), .val (.int (1 : Int32))] []))
                refine own_go (fun t k => XS.goto X73.here hx rfl (pc0 := 168) (pc' := 185) rfl (hb hby at_168) (by decide) (by decide) k) ?_
                show own_Gl _ _ _ _ (T73.setTop (mkF m 185 #[.val (.int p0), .val (.int p1), .val (.int p2), .val (.int (p0 &&& (3 : Int32))), .val (.ref b12), .val (.int (own_sp (p2 &&& (7 : Int32)))), .val (.ref sa), .val (.int (1 : Int32))] []))
                refine own_go (fun t k => XS.aload X73.here hx rfl (hb hby at_185) rfl rfl k) ?_
                show own_Gl _ _ _ _ (T73.setTop (mkF m 187 #[.val (.int p0), .val (.int p1), .val (.int p2), .val (.int (p0 &&& (3 : Int32))), .val (.ref b12), .val (.int (own_sp (p2 &&& (7 : Int32)))), .val (.ref sa), .val (.int (1 : Int32))] [(.ref sa)]))
                refine own_go (fun t k => XS.iload X73.here hx rfl (hb hby at_187) rfl k) ?_
                show own_Gl _ _ _ _ (T73.setTop (mkF m 189 #[.val (.int p0), .val (.int p1), .val (.int p2), .val (.int (p0 &&& (3 : Int32))), .val (.ref b12), .val (.int (own_sp (p2 &&& (7 : Int32)))), .val (.ref sa), .val (.int (1 : Int32))] [(.int (own_sp (p2 &&& (7 : Int32)))), (.ref sa)]))
                have f_83 : Fld Z h20 sa "org/loomstyle/parse/ExpressionParser$RawText" "endsAtParenthesis" "Z" (.int (1 : Int32)) := (P14.ext (own_ext K20))
                have f_84 : Fld Z h20 sa "org/loomstyle/parse/ExpressionParser$RawText" "endsAtColon" "Z" (.int (1 : Int32)) := (P15.ext (own_ext K20))
                have f_86 : Exa Z h20 sa "org/loomstyle/parse/ExpressionParser$RawText" := (P13.ext (own_ext K20))
                obtain ⟨cq85, kq85, q85a, q85b, q85c⟩ := isOf hZ e73 f_86
                obtain ⟨_, _, ⟨T85, L85, kk85, nn85⟩, -, X85, ⟨Lc85, hQ85, l85, y85, z85⟩, st85⟩ := X73.virtualBack hx (y := (⟨"org/loomstyle/parse/ExpressionParser$RawText", "endsAt", "(I)Z"⟩ : MethodName)) (z := (⟨"org/loomstyle/parse/ExpressionParser$RawText", "endsAt", "(I)Z"⟩ : MethodName)) hown (mvT hZ (hw _ (List.mem_of_getElem? (i := 4) rfl))) (mvT hZ (hw _ (List.mem_of_getElem? (i := 5) rfl))) (notFace_of_selects (args := #[]) (mvT hZ (hw _ (List.mem_of_getElem? (i := 7) rfl)))) (mvT hZ (hw _ (List.mem_of_getElem? (i := 7) rfl))) (mvT hZ (hw _ (List.mem_of_getElem? (i := 6) rfl))) (by decide) (backOf (W := 0) (rm1 l Z a0 hw [] sa (own_sp (p2 &&& (7 : Int32))) (1 : Int32) (1 : Int32) h20 n0 Z20 f_83 f_84) hZ (hw _ (List.mem_of_getElem? (i := 8) rfl)) (hw _ (List.mem_of_getElem? (i := 2) rfl)) (by decide) (by decide)) q85a q85c (g := (mkF m 189 #[.val (.int p0), .val (.int p1), .val (.int p2), .val (.int (p0 &&& (3 : Int32))), .val (.ref b12), .val (.int (own_sp (p2 &&& (7 : Int32)))), .val (.ref sa), .val (.int (1 : Int32))] [(.int (own_sp (p2 &&& (7 : Int32)))), (.ref sa)])) rfl (by rw [hml]; rfl) (Steps.refl _) (argsL := [(.int (own_sp (p2 &&& (7 : Int32))))]) (rest := []) (lenOf pd_0 rfl) rfl (by show 2 * 0 + _ ≤ _; exact Nat.le_of_eq rfl) (hb hby at_189) (fun _ _ => ⟨rfl, e73, (by decide : 1 + 0 ≤ _), (by decide : 8 + 0 ≤ _)⟩)
                dsimp only [Pt.U, Pt.locs, Pt.cells, Pt.slots] at X85 l85 y85 z85 st85 hQ85
                subst l85 y85 z85
                obtain ⟨N85q, rfl, hq85⟩ := hQ85
                have N85 := Fr.app N20 N85q
                refine own_go (fun t k => st85.trans k) ?_
                show own_Gl _ _ _ _ (T85.setTop (mkF m 192 #[.val (.int p0), .val (.int p1), .val (.int p2), .val (.int (p0 &&& (3 : Int32))), .val (.ref b12), .val (.int (own_sp (p2 &&& (7 : Int32)))), .val (.ref sa), .val (.int (1 : Int32))] [(.int (f1 (own_sp (p2 &&& (7 : Int32))) (1 : Int32) (1 : Int32)))]))
                refine own_go (fun t k => XS.iload X85.here hx rfl (hb hby at_192) rfl k) ?_
                show own_Gl _ _ _ _ (T85.setTop (mkF m 194 #[.val (.int p0), .val (.int p1), .val (.int p2), .val (.int (p0 &&& (3 : Int32))), .val (.ref b12), .val (.int (own_sp (p2 &&& (7 : Int32)))), .val (.ref sa), .val (.int (1 : Int32))] [(.int (1 : Int32)), (.int (f1 (own_sp (p2 &&& (7 : Int32))) (1 : Int32) (1 : Int32)))]))
                by_cases hc194_87 : (f1 (own_sp (p2 &&& (7 : Int32))) (1 : Int32) (1 : Int32)) = (1 : Int32)
                · refine own_go (fun t k => XS.icmpNo X85.here hx rfl (hb hby at_194) rfl (teq hc194_87).2 k) ?_
                  show own_Gl _ _ _ _ (T85.setTop (mkF m 197 #[.val (.int p0), .val (.int p1), .val (.int p2), .val (.int (p0 &&& (3 : Int32))), .val (.ref b12), .val (.int (own_sp (p2 &&& (7 : Int32)))), .val (.ref sa), .val (.int (1 : Int32))] []))
                  refine own_go (fun t k => XS.iconst X85.here hx rfl (hb hby at_197) k) ?_
                  show own_Gl _ _ _ _ (T85.setTop (mkF m 198 #[.val (.int p0), .val (.int p1), .val (.int p2), .val (.int (p0 &&& (3 : Int32))), .val (.ref b12), .val (.int (own_sp (p2 &&& (7 : Int32)))), .val (.ref sa), .val (.int (1 : Int32))] [(.int (1 : Int32))]))
                  refine own_go (fun t k => XS.goto X85.here hx rfl (pc0 := 198) (pc' := 202) rfl (hb hby at_198) (by decide) (by decide) k) ?_
                  show own_Gl _ _ _ _ (T85.setTop (mkF m 202 #[.val (.int p0), .val (.int p1), .val (.int p2), .val (.int (p0 &&& (3 : Int32))), .val (.ref b12), .val (.int (own_sp (p2 &&& (7 : Int32)))), .val (.ref sa), .val (.int (1 : Int32))] [(.int (1 : Int32))]))
                  obtain ⟨fs, hr, hrun, hended, hW, hsame⟩ := X85.leave (v := some (.int (1 : Int32))) (fun h => by rw [Bd.returns] at h; cases h)
                  refine own_fin (retN X85 hx (t := .boolean) Bd.returns (by simp) (hb hby at_202) hr) hrun hended ⟨_, _, rfl, ?_, ⟨_, rfl⟩, hW, hsame.mono (by decide) (by decide)⟩
                  show Q0 Z p0 p1 p2 cp fa su sa h0 n0 _ T85.heap _
                  rw [hq85]
                  exact ⟨N85, by rw [f0, if_pos hc55_21, if_neg hc72_23, if_neg hc85_43, if_neg hc98_58, if_pos hc144_75, if_neg hc151_76, if_pos hc158_82, if_pos hc194_87]⟩
                · refine own_go (fun t k => XS.icmpYes X85.here hx rfl (pc0 := 194) (pc' := 201) rfl (hb hby at_194) rfl (feq hc194_87).2 (by decide) (by decide) k) ?_
                  show own_Gl _ _ _ _ (T85.setTop (mkF m 201 #[.val (.int p0), .val (.int p1), .val (.int p2), .val (.int (p0 &&& (3 : Int32))), .val (.ref b12), .val (.int (own_sp (p2 &&& (7 : Int32)))), .val (.ref sa), .val (.int (1 : Int32))] []))
                  refine own_go (fun t k => XS.iconst X85.here hx rfl (hb hby at_201) k) ?_
                  show own_Gl _ _ _ _ (T85.setTop (mkF m 202 #[.val (.int p0), .val (.int p1), .val (.int p2), .val (.int (p0 &&& (3 : Int32))), .val (.ref b12), .val (.int (own_sp (p2 &&& (7 : Int32)))), .val (.ref sa), .val (.int (1 : Int32))] [(.int (0 : Int32))]))
                  obtain ⟨fs, hr, hrun, hended, hW, hsame⟩ := X85.leave (v := some (.int (0 : Int32))) (fun h => by rw [Bd.returns] at h; cases h)
                  refine own_fin (retN X85 hx (t := .boolean) Bd.returns (by simp) (hb hby at_202) hr) hrun hended ⟨_, _, rfl, ?_, ⟨_, rfl⟩, hW, hsame.mono (by decide) (by decide)⟩
                  show Q0 Z p0 p1 p2 cp fa su sa h0 n0 _ T85.heap _
                  rw [hq85]
                  exact ⟨N85, by rw [f0, if_pos hc55_21, if_neg hc72_23, if_neg hc85_43, if_neg hc98_58, if_pos hc144_75, if_neg hc151_76, if_pos hc158_82, if_neg hc194_87]⟩
              · refine own_go (fun t k => XS.icmpYes X73.here hx rfl (pc0 := 158) (pc' := 165) rfl (hb hby at_158) rfl (feq hc158_82).2 (by decide) (by decide) k) ?_
                show own_Gl _ _ _ _ (T73.setTop (mkF m 165 #[.val (.int p0), .val (.int p1), .val (.int p2), .val (.int (p0 &&& (3 : Int32))), .val (.ref b12), .val (.int (own_sp (p2 &&& (7 : Int32)))), .val (.ref sa), .unset] []))
                refine own_go (fun t k => XS.iconst X73.here hx rfl (hb hby at_165) k) ?_
                show own_Gl _ _ _ _ (T73.setTop (mkF m 166 #[.val (.int p0), .val (.int p1), .val (.int p2), .val (.int (p0 &&& (3 : Int32))), .val (.ref b12), .val (.int (own_sp (p2 &&& (7 : Int32)))), .val (.ref sa), .unset] [(.int (0 : Int32))]))
                refine own_go (fun t k => XS.istore X73.here hx rfl (hb hby at_166) rfl (l' := #[.val (.int p0), .val (.int p1), .val (.int p2), .val (.int (p0 &&& (3 : Int32))), .val (.ref b12), .val (.int (own_sp (p2 &&& (7 : Int32)))), .val (.ref sa), .val (.int (0 : Int32))]) rfl k) ?_
                show own_Gl _ _ _ _ (T73.setTop (mkF m 168 #[.val (.int p0), .val (.int p1), .val (.int p2), .val (.int (p0 &&& (3 : Int32))), .val (.ref b12), .val (.int (own_sp (p2 &&& (7 : Int32)))), .val (.ref sa), .val (.int (0 : Int32))] []))
                refine own_go (fun t k => XS.goto X73.here hx rfl (pc0 := 168) (pc' := 185) rfl (hb hby at_168) (by decide) (by decide) k) ?_
                show own_Gl _ _ _ _ (T73.setTop (mkF m 185 #[.val (.int p0), .val (.int p1), .val (.int p2), .val (.int (p0 &&& (3 : Int32))), .val (.ref b12), .val (.int (own_sp (p2 &&& (7 : Int32)))), .val (.ref sa), .val (.int (0 : Int32))] []))
                refine own_go (fun t k => XS.aload X73.here hx rfl (hb hby at_185) rfl rfl k) ?_
                show own_Gl _ _ _ _ (T73.setTop (mkF m 187 #[.val (.int p0), .val (.int p1), .val (.int p2), .val (.int (p0 &&& (3 : Int32))), .val (.ref b12), .val (.int (own_sp (p2 &&& (7 : Int32)))), .val (.ref sa), .val (.int (0 : Int32))] [(.ref sa)]))
                refine own_go (fun t k => XS.iload X73.here hx rfl (hb hby at_187) rfl k) ?_
                show own_Gl _ _ _ _ (T73.setTop (mkF m 189 #[.val (.int p0), .val (.int p1), .val (.int p2), .val (.int (p0 &&& (3 : Int32))), .val (.ref b12), .val (.int (own_sp (p2 &&& (7 : Int32)))), .val (.ref sa), .val (.int (0 : Int32))] [(.int (own_sp (p2 &&& (7 : Int32)))), (.ref sa)]))
                have f_88 : Fld Z h20 sa "org/loomstyle/parse/ExpressionParser$RawText" "endsAtParenthesis" "Z" (.int (1 : Int32)) := (P14.ext (own_ext K20))
                have f_89 : Fld Z h20 sa "org/loomstyle/parse/ExpressionParser$RawText" "endsAtColon" "Z" (.int (1 : Int32)) := (P15.ext (own_ext K20))
                have f_91 : Exa Z h20 sa "org/loomstyle/parse/ExpressionParser$RawText" := (P13.ext (own_ext K20))
                obtain ⟨cq90, kq90, q90a, q90b, q90c⟩ := isOf hZ e73 f_91
                obtain ⟨_, _, ⟨T90, L90, kk90, nn90⟩, -, X90, ⟨Lc90, hQ90, l90, y90, z90⟩, st90⟩ := X73.virtualBack hx (y := (⟨"org/loomstyle/parse/ExpressionParser$RawText", "endsAt", "(I)Z"⟩ : MethodName)) (z := (⟨"org/loomstyle/parse/ExpressionParser$RawText", "endsAt", "(I)Z"⟩ : MethodName)) hown (mvT hZ (hw _ (List.mem_of_getElem? (i := 4) rfl))) (mvT hZ (hw _ (List.mem_of_getElem? (i := 5) rfl))) (notFace_of_selects (args := #[]) (mvT hZ (hw _ (List.mem_of_getElem? (i := 7) rfl)))) (mvT hZ (hw _ (List.mem_of_getElem? (i := 7) rfl))) (mvT hZ (hw _ (List.mem_of_getElem? (i := 6) rfl))) (by decide) (backOf (W := 0) (rm1 l Z a0 hw [] sa (own_sp (p2 &&& (7 : Int32))) (1 : Int32) (1 : Int32) h20 n0 Z20 f_88 f_89) hZ (hw _ (List.mem_of_getElem? (i := 8) rfl)) (hw _ (List.mem_of_getElem? (i := 2) rfl)) (by decide) (by decide)) q90a q90c (g := (mkF m 189 #[.val (.int p0), .val (.int p1), .val (.int p2), .val (.int (p0 &&& (3 : Int32))), .val (.ref b12), .val (.int (own_sp (p2 &&& (7 : Int32)))), .val (.ref sa), .val (.int (0 : Int32))] [(.int (own_sp (p2 &&& (7 : Int32)))), (.ref sa)])) rfl (by rw [hml]; rfl) (Steps.refl _) (argsL := [(.int (own_sp (p2 &&& (7 : Int32))))]) (rest := []) (lenOf pd_0 rfl) rfl (by show 2 * 0 + _ ≤ _; exact Nat.le_of_eq rfl) (hb hby at_189) (fun _ _ => ⟨rfl, e73, (by decide : 1 + 0 ≤ _), (by decide : 8 + 0 ≤ _)⟩)
                dsimp only [Pt.U, Pt.locs, Pt.cells, Pt.slots] at X90 l90 y90 z90 st90 hQ90
                subst l90 y90 z90
                obtain ⟨N90q, rfl, hq90⟩ := hQ90
                have N90 := Fr.app N20 N90q
                refine own_go (fun t k => st90.trans k) ?_
                show own_Gl _ _ _ _ (T90.setTop (mkF m 192 #[.val (.int p0), .val (.int p1), .val (.int p2), .val (.int (p0 &&& (3 : Int32))), .val (.ref b12), .val (.int (own_sp (p2 &&& (7 : Int32)))), .val (.ref sa), .val (.int (0 : Int32))] [(.int (f1 (own_sp (p2 &&& (7 : Int32))) (1 : Int32) (1 : Int32)))]))
                refine own_go (fun t k => XS.iload X90.here hx rfl (hb hby at_192) rfl k) ?_
                show own_Gl _ _ _ _ (T90.setTop (mkF m 194 #[.val (.int p0), .val (.int p1), .val (.int p2), .val (.int (p0 &&& (3 : Int32))), .val (.ref b12), .val (.int (own_sp (p2 &&& (7 : Int32)))), .val (.ref sa), .val (.int (0 : Int32))] [(.int (0 : Int32)), (.int (f1 (own_sp (p2 &&& (7 : Int32))) (1 : Int32) (1 : Int32)))]))
                by_cases hc194_92 : (f1 (own_sp (p2 &&& (7 : Int32))) (1 : Int32) (1 : Int32)) = (0 : Int32)
                · refine own_go (fun t k => XS.icmpNo X90.here hx rfl (hb hby at_194) rfl (teq hc194_92).2 k) ?_
                  show own_Gl _ _ _ _ (T90.setTop (mkF m 197 #[.val (.int p0), .val (.int p1), .val (.int p2), .val (.int (p0 &&& (3 : Int32))), .val (.ref b12), .val (.int (own_sp (p2 &&& (7 : Int32)))), .val (.ref sa), .val (.int (0 : Int32))] []))
                  refine own_go (fun t k => XS.iconst X90.here hx rfl (hb hby at_197) k) ?_
                  show own_Gl _ _ _ _ (T90.setTop (mkF m 198 #[.val (.int p0), .val (.int p1), .val (.int p2), .val (.int (p0 &&& (3 : Int32))), .val (.ref b12), .val (.int (own_sp (p2 &&& (7 : Int32)))), .val (.ref sa), .val (.int (0 : Int32))] [(.int (1 : Int32))]))
                  refine own_go (fun t k => XS.goto X90.here hx rfl (pc0 := 198) (pc' := 202) rfl (hb hby at_198) (by decide) (by decide) k) ?_
                  show own_Gl _ _ _ _ (T90.setTop (mkF m 202 #[.val (.int p0), .val (.int p1), .val (.int p2), .val (.int (p0 &&& (3 : Int32))), .val (.ref b12), .val (.int (own_sp (p2 &&& (7 : Int32)))), .val (.ref sa), .val (.int (0 : Int32))] [(.int (1 : Int32))]))
                  obtain ⟨fs, hr, hrun, hended, hW, hsame⟩ := X90.leave (v := some (.int (1 : Int32))) (fun h => by rw [Bd.returns] at h; cases h)
                  refine own_fin (retN X90 hx (t := .boolean) Bd.returns (by simp) (hb hby at_202) hr) hrun hended ⟨_, _, rfl, ?_, ⟨_, rfl⟩, hW, hsame.mono (by decide) (by decide)⟩
                  show Q0 Z p0 p1 p2 cp fa su sa h0 n0 _ T90.heap _
                  rw [hq90]
                  exact ⟨N90, by rw [f0, if_pos hc55_21, if_neg hc72_23, if_neg hc85_43, if_neg hc98_58, if_pos hc144_75, if_neg hc151_76, if_neg hc158_82, if_pos hc194_92]⟩
                · refine own_go (fun t k => XS.icmpYes X90.here hx rfl (pc0 := 194) (pc' := 201) rfl (hb hby at_194) rfl (feq hc194_92).2 (by decide) (by decide) k) ?_
                  show own_Gl _ _ _ _ (T90.setTop (mkF m 201 #[.val (.int p0), .val (.int p1), .val (.int p2), .val (.int (p0 &&& (3 : Int32))), .val (.ref b12), .val (.int (own_sp (p2 &&& (7 : Int32)))), .val (.ref sa), .val (.int (0 : Int32))] []))
                  refine own_go (fun t k => XS.iconst X90.here hx rfl (hb hby at_201) k) ?_
                  show own_Gl _ _ _ _ (T90.setTop (mkF m 202 #[.val (.int p0), .val (.int p1), .val (.int p2), .val (.int (p0 &&& (3 : Int32))), .val (.ref b12), .val (.int (own_sp (p2 &&& (7 : Int32)))), .val (.ref sa), .val (.int (0 : Int32))] [(.int (0 : Int32))]))
                  obtain ⟨fs, hr, hrun, hended, hW, hsame⟩ := X90.leave (v := some (.int (0 : Int32))) (fun h => by rw [Bd.returns] at h; cases h)
                  refine own_fin (retN X90 hx (t := .boolean) Bd.returns (by simp) (hb hby at_202) hr) hrun hended ⟨_, _, rfl, ?_, ⟨_, rfl⟩, hW, hsame.mono (by decide) (by decide)⟩
                  show Q0 Z p0 p1 p2 cp fa su sa h0 n0 _ T90.heap _
                  rw [hq90]
                  exact ⟨N90, by rw [f0, if_pos hc55_21, if_neg hc72_23, if_neg hc85_43, if_neg hc98_58, if_pos hc144_75, if_neg hc151_76, if_neg hc158_82, if_neg hc194_92]⟩
          · refine own_go (fun t k => XS.icmpYes X73.here hx rfl (pc0 := 144) (pc' := 171) rfl (hb hby at_144) rfl (feq hc144_75).2 (by decide) (by decide) k) ?_
            show own_Gl _ _ _ _ (T73.setTop (mkF m 171 #[.val (.int p0), .val (.int p1), .val (.int p2), .val (.int (p0 &&& (3 : Int32))), .val (.ref b12), .val (.int (own_sp (p2 &&& (7 : Int32)))), .val (.ref sa), .unset] []))
            refine own_go (fun t k => XS.iload X73.here hx rfl (hb hby at_171) rfl k) ?_
            show own_Gl _ _ _ _ (T73.setTop (mkF m 173 #[.val (.int p0), .val (.int p1), .val (.int p2), .val (.int (p0 &&& (3 : Int32))), .val (.ref b12), .val (.int (own_sp (p2 &&& (7 : Int32)))), .val (.ref sa), .unset] [(.int (own_sp (p2 &&& (7 : Int32))))]))
            refine own_go (fun t k => XS.bipush X73.here hx rfl (hb hby at_173) k) ?_
            show own_Gl _ _ _ _ (T73.setTop (mkF m 175 #[.val (.int p0), .val (.int p1), .val (.int p2), .val (.int (p0 &&& (3 : Int32))), .val (.ref b12), .val (.int (own_sp (p2 &&& (7 : Int32)))), .val (.ref sa), .unset] [(.int (41 : Int32)), (.int (own_sp (p2 &&& (7 : Int32))))]))
            by_cases hc175_93 : (own_sp (p2 &&& (7 : Int32))) = (41 : Int32)
            · refine own_go (fun t k => XS.icmpNo X73.here hx rfl (hb hby at_175) rfl (teq hc175_93).2 k) ?_
              show own_Gl _ _ _ _ (T73.setTop (mkF m 178 #[.val (.int p0), .val (.int p1), .val (.int p2), .val (.int (p0 &&& (3 : Int32))), .val (.ref b12), .val (.int (own_sp (p2 &&& (7 : Int32)))), .val (.ref sa), .unset] []))
              refine own_go (fun t k => XS.iconst X73.here hx rfl (hb hby at_178) k) ?_
              show own_Gl _ _ _ _ (T73.setTop (mkF m 179 #[.val (.int p0), .val (.int p1), .val (.int p2), .val (.int (p0 &&& (3 : Int32))), .val (.ref b12), .val (.int (own_sp (p2 &&& (7 : Int32)))), .val (.ref sa), .unset] [(.int (1 : Int32))]))
              refine own_go (fun t k => XS.goto X73.here hx rfl (pc0 := 179) (pc' := 183) rfl (hb hby at_179) (by decide) (by decide) k) ?_
              show own_Gl _ _ _ _ (T73.setTop (mkF m 183 #[.val (.int p0), .val (.int p1), .val (.int p2), .val (.int (p0 &&& (3 : Int32))), .val (.ref b12), .val (.int (own_sp (p2 &&& (7 : Int32)))), .val (.ref sa), .unset] [(.int (1 : Int32))]))
              refine own_go (fun t k => XS.istore X73.here hx rfl (hb hby at_183) rfl (l' := #[.val (.int p0), .val (.int p1), .val (.int p2), .val (.int (p0 &&& (3 : Int32))), .val (.ref b12), .val (.int (own_sp (p2 &&& (7 : Int32)))), .val (.ref sa), .val (.int (1 : Int32))]) rfl k) ?_
              show own_Gl _ _ _ _ (T73.setTop (mkF m 185 #[.val (.int p0), .val (.int p1), .val (.int p2), .val (.int (p0 &&& (3 : Int32))), .val (.ref b12), .val (.int (own_sp (p2 &&& (7 : Int32)))), .val (.ref sa), .val (.int (1 : Int32))] []))
              refine own_go (fun t k => XS.aload X73.here hx rfl (hb hby at_185) rfl rfl k) ?_
              show own_Gl _ _ _ _ (T73.setTop (mkF m 187 #[.val (.int p0), .val (.int p1), .val (.int p2), .val (.int (p0 &&& (3 : Int32))), .val (.ref b12), .val (.int (own_sp (p2 &&& (7 : Int32)))), .val (.ref sa), .val (.int (1 : Int32))] [(.ref sa)]))
              refine own_go (fun t k => XS.iload X73.here hx rfl (hb hby at_187) rfl k) ?_
              show own_Gl _ _ _ _ (T73.setTop (mkF m 189 #[.val (.int p0), .val (.int p1), .val (.int p2), .val (.int (p0 &&& (3 : Int32))), .val (.ref b12), .val (.int (own_sp (p2 &&& (7 : Int32)))), .val (.ref sa), .val (.int (1 : Int32))] [(.int (own_sp (p2 &&& (7 : Int32)))), (.ref sa)]))
              have f_94 : Fld Z h20 sa "org/loomstyle/parse/ExpressionParser$RawText" "endsAtParenthesis" "Z" (.int (1 : Int32)) := (P14.ext (own_ext K20))
              have f_95 : Fld Z h20 sa "org/loomstyle/parse/ExpressionParser$RawText" "endsAtColon" "Z" (.int (1 : Int32)) := (P15.ext (own_ext K20))
              have f_97 : Exa Z h20 sa "org/loomstyle/parse/ExpressionParser$RawText" := (P13.ext (own_ext K20))
              obtain ⟨cq96, kq96, q96a, q96b, q96c⟩ := isOf hZ e73 f_97
              obtain ⟨_, _, ⟨T96, L96, kk96, nn96⟩, -, X96, ⟨Lc96, hQ96, l96, y96, z96⟩, st96⟩ := X73.virtualBack hx (y := (⟨"org/loomstyle/parse/ExpressionParser$RawText", "endsAt", "(I)Z"⟩ : MethodName)) (z := (⟨"org/loomstyle/parse/ExpressionParser$RawText", "endsAt", "(I)Z"⟩ : MethodName)) hown (mvT hZ (hw _ (List.mem_of_getElem? (i := 4) rfl))) (mvT hZ (hw _ (List.mem_of_getElem? (i := 5) rfl))) (notFace_of_selects (args := #[]) (mvT hZ (hw _ (List.mem_of_getElem? (i := 7) rfl)))) (mvT hZ (hw _ (List.mem_of_getElem? (i := 7) rfl))) (mvT hZ (hw _ (List.mem_of_getElem? (i := 6) rfl))) (by decide) (backOf (W := 0) (rm1 l Z a0 hw [] sa (own_sp (p2 &&& (7 : Int32))) (1 : Int32) (1 : Int32) h20 n0 Z20 f_94 f_95) hZ (hw _ (List.mem_of_getElem? (i := 8) rfl)) (hw _ (List.mem_of_getElem? (i := 2) rfl)) (by decide) (by decide)) q96a q96c (g := (mkF m 189 #[.val (.int p0), .val (.int p1), .val (.int p2), .val (.int (p0 &&& (3 : Int32))), .val (.ref b12), .val (.int (own_sp (p2 &&& (7 : Int32)))), .val (.ref sa), .val (.int (1 : Int32))] [(.int (own_sp (p2 &&& (7 : Int32)))), (.ref sa)])) rfl (by rw [hml]; rfl) (Steps.refl _) (argsL := [(.int (own_sp (p2 &&& (7 : Int32))))]) (rest := []) (lenOf pd_0 rfl) rfl (by show 2 * 0 + _ ≤ _; exact Nat.le_of_eq rfl) (hb hby at_189) (fun _ _ => ⟨rfl, e73, (by decide : 1 + 0 ≤ _), (by decide : 8 + 0 ≤ _)⟩)
              dsimp only [Pt.U, Pt.locs, Pt.cells, Pt.slots] at X96 l96 y96 z96 st96 hQ96
              subst l96 y96 z96
              obtain ⟨N96q, rfl, hq96⟩ := hQ96
              have N96 := Fr.app N20 N96q
              refine own_go (fun t k => st96.trans k) ?_
              show own_Gl _ _ _ _ (T96.setTop (mkF m 192 #[.val (.int p0), .val (.int p1), .val (.int p2), .val (.int (p0 &&& (3 : Int32))), .val (.ref b12), .val (.int (own_sp (p2 &&& (7 : Int32)))), .val (.ref sa), .val (.int (1 : Int32))] [(.int (f1 (own_sp (p2 &&& (7 : Int32))) (1 : Int32) (1 : Int32)))]))
              refine own_go (fun t k => XS.iload X96.here hx rfl (hb hby at_192) rfl k) ?_
              show own_Gl _ _ _ _ (T96.setTop (mkF m 194 #[.val (.int p0), .val (.int p1), .val (.int p2), .val (.int (p0 &&& (3 : Int32))), .val (.ref b12), .val (.int (own_sp (p2 &&& (7 : Int32)))), .val (.ref sa), .val (.int (1 : Int32))] [(.int (1 : Int32)), (.int (f1 (own_sp (p2 &&& (7 : Int32))) (1 : Int32) (1 : Int32)))]))
              by_cases hc194_98 : (f1 (own_sp (p2 &&& (7 : Int32))) (1 : Int32) (1 : Int32)) = (1 : Int32)
              · refine own_go (fun t k => XS.icmpNo X96.here hx rfl (hb hby at_194) rfl (teq hc194_98).2 k) ?_
                show own_Gl _ _ _ _ (T96.setTop (mkF m 197 #[.val (.int p0), .val (.int p1), .val (.int p2), .val (.int (p0 &&& (3 : Int32))), .val (.ref b12), .val (.int (own_sp (p2 &&& (7 : Int32)))), .val (.ref sa), .val (.int (1 : Int32))] []))
                refine own_go (fun t k => XS.iconst X96.here hx rfl (hb hby at_197) k) ?_
                show own_Gl _ _ _ _ (T96.setTop (mkF m 198 #[.val (.int p0), .val (.int p1), .val (.int p2), .val (.int (p0 &&& (3 : Int32))), .val (.ref b12), .val (.int (own_sp (p2 &&& (7 : Int32)))), .val (.ref sa), .val (.int (1 : Int32))] [(.int (1 : Int32))]))
                refine own_go (fun t k => XS.goto X96.here hx rfl (pc0 := 198) (pc' := 202) rfl (hb hby at_198) (by decide) (by decide) k) ?_
                show own_Gl _ _ _ _ (T96.setTop (mkF m 202 #[.val (.int p0), .val (.int p1), .val (.int p2), .val (.int (p0 &&& (3 : Int32))), .val (.ref b12), .val (.int (own_sp (p2 &&& (7 : Int32)))), .val (.ref sa), .val (.int (1 : Int32))] [(.int (1 : Int32))]))
                obtain ⟨fs, hr, hrun, hended, hW, hsame⟩ := X96.leave (v := some (.int (1 : Int32))) (fun h => by rw [Bd.returns] at h; cases h)
                refine own_fin (retN X96 hx (t := .boolean) Bd.returns (by simp) (hb hby at_202) hr) hrun hended ⟨_, _, rfl, ?_, ⟨_, rfl⟩, hW, hsame.mono (by decide) (by decide)⟩
                show Q0 Z p0 p1 p2 cp fa su sa h0 n0 _ T96.heap _
                rw [hq96]
                exact ⟨N96, by rw [f0, if_pos hc55_21, if_neg hc72_23, if_neg hc85_43, if_neg hc98_58, if_neg hc144_75, if_pos hc175_93, if_pos hc194_98]⟩
              · refine own_go (fun t k => XS.icmpYes X96.here hx rfl (pc0 := 194) (pc' := 201) rfl (hb hby at_194) rfl (feq hc194_98).2 (by decide) (by decide) k) ?_
                show own_Gl _ _ _ _ (T96.setTop (mkF m 201 #[.val (.int p0), .val (.int p1), .val (.int p2), .val (.int (p0 &&& (3 : Int32))), .val (.ref b12), .val (.int (own_sp (p2 &&& (7 : Int32)))), .val (.ref sa), .val (.int (1 : Int32))] []))
                refine own_go (fun t k => XS.iconst X96.here hx rfl (hb hby at_201) k) ?_
                show own_Gl _ _ _ _ (T96.setTop (mkF m 202 #[.val (.int p0), .val (.int p1), .val (.int p2), .val (.int (p0 &&& (3 : Int32))), .val (.ref b12), .val (.int (own_sp (p2 &&& (7 : Int32)))), .val (.ref sa), .val (.int (1 : Int32))] [(.int (0 : Int32))]))
                obtain ⟨fs, hr, hrun, hended, hW, hsame⟩ := X96.leave (v := some (.int (0 : Int32))) (fun h => by rw [Bd.returns] at h; cases h)
                refine own_fin (retN X96 hx (t := .boolean) Bd.returns (by simp) (hb hby at_202) hr) hrun hended ⟨_, _, rfl, ?_, ⟨_, rfl⟩, hW, hsame.mono (by decide) (by decide)⟩
                show Q0 Z p0 p1 p2 cp fa su sa h0 n0 _ T96.heap _
                rw [hq96]
                exact ⟨N96, by rw [f0, if_pos hc55_21, if_neg hc72_23, if_neg hc85_43, if_neg hc98_58, if_neg hc144_75, if_pos hc175_93, if_neg hc194_98]⟩
            · refine own_go (fun t k => XS.icmpYes X73.here hx rfl (pc0 := 175) (pc' := 182) rfl (hb hby at_175) rfl (feq hc175_93).2 (by decide) (by decide) k) ?_
              show own_Gl _ _ _ _ (T73.setTop (mkF m 182 #[.val (.int p0), .val (.int p1), .val (.int p2), .val (.int (p0 &&& (3 : Int32))), .val (.ref b12), .val (.int (own_sp (p2 &&& (7 : Int32)))), .val (.ref sa), .unset] []))
              refine own_go (fun t k => XS.iconst X73.here hx rfl (hb hby at_182) k) ?_
              show own_Gl _ _ _ _ (T73.setTop (mkF m 183 #[.val (.int p0), .val (.int p1), .val (.int p2), .val (.int (p0 &&& (3 : Int32))), .val (.ref b12), .val (.int (own_sp (p2 &&& (7 : Int32)))), .val (.ref sa), .unset] [(.int (0 : Int32))]))
              refine own_go (fun t k => XS.istore X73.here hx rfl (hb hby at_183) rfl (l' := #[.val (.int p0), .val (.int p1), .val (.int p2), .val (.int (p0 &&& (3 : Int32))), .val (.ref b12), .val (.int (own_sp (p2 &&& (7 : Int32)))), .val (.ref sa), .val (.int (0 : Int32))]) rfl k) ?_
              show own_Gl _ _ _ _ (T73.setTop (mkF m 185 #[.val (.int p0), .val (.int p1), .val (.int p2), .val (.int (p0 &&& (3 : Int32))), .val (.ref b12), .val (.int (own_sp (p2 &&& (7 : Int32)))), .val (.ref sa), .val (.int (0 : Int32))] []))
              refine own_go (fun t k => XS.aload X73.here hx rfl (hb hby at_185) rfl rfl k) ?_
              show own_Gl _ _ _ _ (T73.setTop (mkF m 187 #[.val (.int p0), .val (.int p1), .val (.int p2), .val (.int (p0 &&& (3 : Int32))), .val (.ref b12), .val (.int (own_sp (p2 &&& (7 : Int32)))), .val (.ref sa), .val (.int (0 : Int32))] [(.ref sa)]))
              refine own_go (fun t k => XS.iload X73.here hx rfl (hb hby at_187) rfl k) ?_
              show own_Gl _ _ _ _ (T73.setTop (mkF m 189 #[.val (.int p0), .val (.int p1), .val (.int p2), .val (.int (p0 &&& (3 : Int32))), .val (.ref b12), .val (.int (own_sp (p2 &&& (7 : Int32)))), .val (.ref sa), .val (.int (0 : Int32))] [(.int (own_sp (p2 &&& (7 : Int32)))), (.ref sa)]))
              have f_99 : Fld Z h20 sa "org/loomstyle/parse/ExpressionParser$RawText" "endsAtParenthesis" "Z" (.int (1 : Int32)) := (P14.ext (own_ext K20))
              have f_100 : Fld Z h20 sa "org/loomstyle/parse/ExpressionParser$RawText" "endsAtColon" "Z" (.int (1 : Int32)) := (P15.ext (own_ext K20))
              have f_102 : Exa Z h20 sa "org/loomstyle/parse/ExpressionParser$RawText" := (P13.ext (own_ext K20))
              obtain ⟨cq101, kq101, q101a, q101b, q101c⟩ := isOf hZ e73 f_102
              obtain ⟨_, _, ⟨T101, L101, kk101, nn101⟩, -, X101, ⟨Lc101, hQ101, l101, y101, z101⟩, st101⟩ := X73.virtualBack hx (y := (⟨"org/loomstyle/parse/ExpressionParser$RawText", "endsAt", "(I)Z"⟩ : MethodName)) (z := (⟨"org/loomstyle/parse/ExpressionParser$RawText", "endsAt", "(I)Z"⟩ : MethodName)) hown (mvT hZ (hw _ (List.mem_of_getElem? (i := 4) rfl))) (mvT hZ (hw _ (List.mem_of_getElem? (i := 5) rfl))) (notFace_of_selects (args := #[]) (mvT hZ (hw _ (List.mem_of_getElem? (i := 7) rfl)))) (mvT hZ (hw _ (List.mem_of_getElem? (i := 7) rfl))) (mvT hZ (hw _ (List.mem_of_getElem? (i := 6) rfl))) (by decide) (backOf (W := 0) (rm1 l Z a0 hw [] sa (own_sp (p2 &&& (7 : Int32))) (1 : Int32) (1 : Int32) h20 n0 Z20 f_99 f_100) hZ (hw _ (List.mem_of_getElem? (i := 8) rfl)) (hw _ (List.mem_of_getElem? (i := 2) rfl)) (by decide) (by decide)) q101a q101c (g := (mkF m 189 #[.val (.int p0), .val (.int p1), .val (.int p2), .val (.int (p0 &&& (3 : Int32))), .val (.ref b12), .val (.int (own_sp (p2 &&& (7 : Int32)))), .val (.ref sa), .val (.int (0 : Int32))] [(.int (own_sp (p2 &&& (7 : Int32)))), (.ref sa)])) rfl (by rw [hml]; rfl) (Steps.refl _) (argsL := [(.int (own_sp (p2 &&& (7 : Int32))))]) (rest := []) (lenOf pd_0 rfl) rfl (by show 2 * 0 + _ ≤ _; exact Nat.le_of_eq rfl) (hb hby at_189) (fun _ _ => ⟨rfl, e73, (by decide : 1 + 0 ≤ _), (by decide : 8 + 0 ≤ _)⟩)
              dsimp only [Pt.U, Pt.locs, Pt.cells, Pt.slots] at X101 l101 y101 z101 st101 hQ101
              subst l101 y101 z101
              obtain ⟨N101q, rfl, hq101⟩ := hQ101
              have N101 := Fr.app N20 N101q
              refine own_go (fun t k => st101.trans k) ?_
              show own_Gl _ _ _ _ (T101.setTop (mkF m 192 #[.val (.int p0), .val (.int p1), .val (.int p2), .val (.int (p0 &&& (3 : Int32))), .val (.ref b12), .val (.int (own_sp (p2 &&& (7 : Int32)))), .val (.ref sa), .val (.int (0 : Int32))] [(.int (f1 (own_sp (p2 &&& (7 : Int32))) (1 : Int32) (1 : Int32)))]))
              refine own_go (fun t k => XS.iload X101.here hx rfl (hb hby at_192) rfl k) ?_
              show own_Gl _ _ _ _ (T101.setTop (mkF m 194 #[.val (.int p0), .val (.int p1), .val (.int p2), .val (.int (p0 &&& (3 : Int32))), .val (.ref b12), .val (.int (own_sp (p2 &&& (7 : Int32)))), .val (.ref sa), .val (.int (0 : Int32))] [(.int (0 : Int32)), (.int (f1 (own_sp (p2 &&& (7 : Int32))) (1 : Int32) (1 : Int32)))]))
              by_cases hc194_103 : (f1 (own_sp (p2 &&& (7 : Int32))) (1 : Int32) (1 : Int32)) = (0 : Int32)
              · refine own_go (fun t k => XS.icmpNo X101.here hx rfl (hb hby at_194) rfl (teq hc194_103).2 k) ?_
                show own_Gl _ _ _ _ (T101.setTop (mkF m 197 #[.val (.int p0), .val (.int p1), .val (.int p2), .val (.int (p0 &&& (3 : Int32))), .val (.ref b12), .val (.int (own_sp (p2 &&& (7 : Int32)))), .val (.ref sa), .val (.int (0 : Int32))] []))
                refine own_go (fun t k => XS.iconst X101.here hx rfl (hb hby at_197) k) ?_
                show own_Gl _ _ _ _ (T101.setTop (mkF m 198 #[.val (.int p0), .val (.int p1), .val (.int p2), .val (.int (p0 &&& (3 : Int32))), .val (.ref b12), .val (.int (own_sp (p2 &&& (7 : Int32)))), .val (.ref sa), .val (.int (0 : Int32))] [(.int (1 : Int32))]))
                refine own_go (fun t k => XS.goto X101.here hx rfl (pc0 := 198) (pc' := 202) rfl (hb hby at_198) (by decide) (by decide) k) ?_
                show own_Gl _ _ _ _ (T101.setTop (mkF m 202 #[.val (.int p0), .val (.int p1), .val (.int p2), .val (.int (p0 &&& (3 : Int32))), .val (.ref b12), .val (.int (own_sp (p2 &&& (7 : Int32)))), .val (.ref sa), .val (.int (0 : Int32))] [(.int (1 : Int32))]))
                obtain ⟨fs, hr, hrun, hended, hW, hsame⟩ := X101.leave (v := some (.int (1 : Int32))) (fun h => by rw [Bd.returns] at h; cases h)
                refine own_fin (retN X101 hx (t := .boolean) Bd.returns (by simp) (hb hby at_202) hr) hrun hended ⟨_, _, rfl, ?_, ⟨_, rfl⟩, hW, hsame.mono (by decide) (by decide)⟩
                show Q0 Z p0 p1 p2 cp fa su sa h0 n0 _ T101.heap _
                rw [hq101]
                exact ⟨N101, by rw [f0, if_pos hc55_21, if_neg hc72_23, if_neg hc85_43, if_neg hc98_58, if_neg hc144_75, if_neg hc175_93, if_pos hc194_103]⟩
              · refine own_go (fun t k => XS.icmpYes X101.here hx rfl (pc0 := 194) (pc' := 201) rfl (hb hby at_194) rfl (feq hc194_103).2 (by decide) (by decide) k) ?_
                show own_Gl _ _ _ _ (T101.setTop (mkF m 201 #[.val (.int p0), .val (.int p1), .val (.int p2), .val (.int (p0 &&& (3 : Int32))), .val (.ref b12), .val (.int (own_sp (p2 &&& (7 : Int32)))), .val (.ref sa), .val (.int (0 : Int32))] []))
                refine own_go (fun t k => XS.iconst X101.here hx rfl (hb hby at_201) k) ?_
                show own_Gl _ _ _ _ (T101.setTop (mkF m 202 #[.val (.int p0), .val (.int p1), .val (.int p2), .val (.int (p0 &&& (3 : Int32))), .val (.ref b12), .val (.int (own_sp (p2 &&& (7 : Int32)))), .val (.ref sa), .val (.int (0 : Int32))] [(.int (0 : Int32))]))
                obtain ⟨fs, hr, hrun, hended, hW, hsame⟩ := X101.leave (v := some (.int (0 : Int32))) (fun h => by rw [Bd.returns] at h; cases h)
                refine own_fin (retN X101 hx (t := .boolean) Bd.returns (by simp) (hb hby at_202) hr) hrun hended ⟨_, _, rfl, ?_, ⟨_, rfl⟩, hW, hsame.mono (by decide) (by decide)⟩
                show Q0 Z p0 p1 p2 cp fa su sa h0 n0 _ T101.heap _
                rw [hq101]
                exact ⟨N101, by rw [f0, if_pos hc55_21, if_neg hc72_23, if_neg hc85_43, if_neg hc98_58, if_neg hc144_75, if_neg hc175_93, if_neg hc194_103]⟩
  · refine own_go (fun t k => XS.ifNo X20.here hx rfl (hb hby at_55) rfl ((if0 _ _).trans (feq hc55_21).1) k) ?_
    show own_Gl _ _ _ _ (T20.setTop (mkF m 58 #[.val (.int p0), .val (.int p1), .val (.int p2), .val (.int (p0 &&& (3 : Int32))), .val (.ref b12), .unset, .unset, .unset] []))
    refine own_go (fun t k => XS.iloadN X20.here hx rfl (hb hby at_58) rfl k) ?_
    show own_Gl _ _ _ _ (T20.setTop (mkF m 59 #[.val (.int p0), .val (.int p1), .val (.int p2), .val (.int (p0 &&& (3 : Int32))), .val (.ref b12), .unset, .unset, .unset] [(.int p1)]))
    refine own_go (fun t k => XS.goto X20.here hx rfl (pc0 := 59) (pc' := 69) rfl (hb hby at_59) (by decide) (by decide) k) ?_
    show own_Gl _ _ _ _ (T20.setTop (mkF m 69 #[.val (.int p0), .val (.int p1), .val (.int p2), .val (.int (p0 &&& (3 : Int32))), .val (.ref b12), .unset, .unset, .unset] [(.int p1)]))
    refine own_go (fun t k => XS.istore X20.here hx rfl (hb hby at_69) rfl (l' := #[.val (.int p0), .val (.int p1), .val (.int p2), .val (.int (p0 &&& (3 : Int32))), .val (.ref b12), .val (.int p1), .unset, .unset]) rfl k) ?_
    show own_Gl _ _ _ _ (T20.setTop (mkF m 71 #[.val (.int p0), .val (.int p1), .val (.int p2), .val (.int (p0 &&& (3 : Int32))), .val (.ref b12), .val (.int p1), .unset, .unset] []))
    refine own_go (fun t k => XS.iloadN X20.here hx rfl (hb hby at_71) rfl k) ?_
    show own_Gl _ _ _ _ (T20.setTop (mkF m 72 #[.val (.int p0), .val (.int p1), .val (.int p2), .val (.int (p0 &&& (3 : Int32))), .val (.ref b12), .val (.int p1), .unset, .unset] [(.int (p0 &&& (3 : Int32)))]))
    by_cases hc72_104 : (p0 &&& (3 : Int32)) = (0 : Int32)
    · refine own_go (fun t k => XS.ifNo X20.here hx rfl (hb hby at_72) rfl ((if0 _ _).trans (teq hc72_104).2) k) ?_
      show own_Gl _ _ _ _ (T20.setTop (mkF m 75 #[.val (.int p0), .val (.int p1), .val (.int p2), .val (.int (p0 &&& (3 : Int32))), .val (.ref b12), .val (.int p1), .unset, .unset] []))
      have f_106 : Sta Z h20 "org/loomstyle/parse/ExpressionParser$RawText" "CUSTOM_PROPERTY" "Lorg/loomstyle/parse/ExpressionParser$RawText;" (.ref cp) := (P0.ext (own_ext K20))
      obtain ⟨T105, X105, e105, st105⟩ := getS2 X20 hx hZ hown (host := "") (Or.inl (hw _ (List.mem_of_getElem? (i := 1) rfl))) Via.refl e20 f_106 (g := (mkF m 75 #[.val (.int p0), .val (.int p1), .val (.int p2), .val (.int (p0 &&& (3 : Int32))), .val (.ref b12), .val (.int p1), .unset, .unset] [])) rfl (hb hby at_75)
      refine own_go (fun t k => st105 _ k) ?_
      show own_Gl _ _ _ _ (T105.setTop (mkF m 78 #[.val (.int p0), .val (.int p1), .val (.int p2), .val (.int (p0 &&& (3 : Int32))), .val (.ref b12), .val (.int p1), .unset, .unset] [(.ref cp)]))
      refine own_go (fun t k => XS.astore X105.here hx rfl (hb hby at_78) rfl rfl (l' := #[.val (.int p0), .val (.int p1), .val (.int p2), .val (.int (p0 &&& (3 : Int32))), .val (.ref b12), .val (.int p1), .val (.ref cp), .unset]) rfl k) ?_
      show own_Gl _ _ _ _ (T105.setTop (mkF m 80 #[.val (.int p0), .val (.int p1), .val (.int p2), .val (.int (p0 &&& (3 : Int32))), .val (.ref b12), .val (.int p1), .val (.ref cp), .unset] []))
      refine own_go (fun t k => XS.goto X105.here hx rfl (pc0 := 80) (pc' := 114) rfl (hb hby at_80) (by decide) (by decide) k) ?_
      show own_Gl _ _ _ _ (T105.setTop (mkF m 114 #[.val (.int p0), .val (.int p1), .val (.int p2), .val (.int (p0 &&& (3 : Int32))), .val (.ref b12), .val (.int p1), .val (.ref cp), .unset] []))
      refine own_go (fun t k => XS.iloadN X105.here hx rfl (hb hby at_114) rfl k) ?_
      show own_Gl _ _ _ _ (T105.setTop (mkF m 115 #[.val (.int p0), .val (.int p1), .val (.int p2), .val (.int (p0 &&& (3 : Int32))), .val (.ref b12), .val (.int p1), .val (.ref cp), .unset] [(.int (p0 &&& (3 : Int32)))]))
      refine own_go (fun t k => XS.ifNo X105.here hx rfl (hb hby at_115) rfl ((if0 _ _).trans (teq hc72_104).2) k) ?_
      show own_Gl _ _ _ _ (T105.setTop (mkF m 118 #[.val (.int p0), .val (.int p1), .val (.int p2), .val (.int (p0 &&& (3 : Int32))), .val (.ref b12), .val (.int p1), .val (.ref cp), .unset] []))
      refine own_go (fun t k => XS.iload X105.here hx rfl (hb hby at_118) rfl k) ?_
      show own_Gl _ _ _ _ (T105.setTop (mkF m 120 #[.val (.int p0), .val (.int p1), .val (.int p2), .val (.int (p0 &&& (3 : Int32))), .val (.ref b12), .val (.int p1), .val (.ref cp), .unset] [(.int p1)]))
      refine own_go (fun t k => XS.bipush X105.here hx rfl (hb hby at_120) k) ?_
      show own_Gl _ _ _ _ (T105.setTop (mkF m 122 #[.val (.int p0), .val (.int p1), .val (.int p2), .val (.int (p0 &&& (3 : Int32))), .val (.ref b12), .val (.int p1), .val (.ref cp), .unset] [(.int (59 : Int32)), (.int p1)]))
      by_cases hc122_107 : p1 = (59 : Int32)
      · refine own_go (fun t k => XS.icmpYes X105.here hx rfl (pc0 := 122) (pc' := 132) rfl (hb hby at_122) rfl (teq hc122_107).1 (by decide) (by decide) k) ?_
        show own_Gl _ _ _ _ (T105.setTop (mkF m 132 #[.val (.int p0), .val (.int p1), .val (.int p2), .val (.int (p0 &&& (3 : Int32))), .val (.ref b12), .val (.int p1), .val (.ref cp), .unset] []))
        refine own_go (fun t k => XS.iconst X105.here hx rfl (hb hby at_132) k) ?_
        show own_Gl _ _ _ _ (T105.setTop (mkF m 133 #[.val (.int p0), .val (.int p1), .val (.int p2), .val (.int (p0 &&& (3 : Int32))), .val (.ref b12), .val (.int p1), .val (.ref cp), .unset] [(.int (1 : Int32))]))
        refine own_go (fun t k => XS.goto X105.here hx rfl (pc0 := 133) (pc' := 137) rfl (hb hby at_133) (by decide) (by decide) k) ?_
        show own_Gl _ _ _ _ (T105.setTop (mkF m 137 #[.val (.int p0), .val (.int p1), .val (.int p2), .val (.int (p0 &&& (3 : Int32))), .val (.ref b12), .val (.int p1), .val (.ref cp), .unset] [(.int (1 : Int32))]))
        refine own_go (fun t k => XS.istore X105.here hx rfl (hb hby at_137) rfl (l' := #[.val (.int p0), .val (.int p1), .val (.int p2), .val (.int (p0 &&& (3 : Int32))), .val (.ref b12), .val (.int p1), .val (.ref cp), .val (.int (1 : Int32))]) rfl k) ?_
        show own_Gl _ _ _ _ (T105.setTop (mkF m 139 #[.val (.int p0), .val (.int p1), .val (.int p2), .val (.int (p0 &&& (3 : Int32))), .val (.ref b12), .val (.int p1), .val (.ref cp), .val (.int (1 : Int32))] []))
        refine own_go (fun t k => XS.goto X105.here hx rfl (pc0 := 139) (pc' := 185) rfl (hb hby at_139) (by decide) (by decide) k) ?_
        show own_Gl _ _ _ _ (T105.setTop (mkF m 185 #[.val (.int p0), .val (.int p1), .val (.int p2), .val (.int (p0 &&& (3 : Int32))), .val (.ref b12), .val (.int p1), .val (.ref cp), .val (.int (1 : Int32))] []))
        refine own_go (fun t k => XS.aload X105.here hx rfl (hb hby at_185) rfl rfl k) ?_
        show own_Gl _ _ _ _ (T105.setTop (mkF m 187 #[.val (.int p0), .val (.int p1), .val (.int p2), .val (.int (p0 &&& (3 : Int32))), .val (.ref b12), .val (.int p1), .val (.ref cp), .val (.int (1 : Int32))] [(.ref cp)]))
        refine own_go (fun t k => XS.iload X105.here hx rfl (hb hby at_187) rfl k) ?_
        show own_Gl _ _ _ _ (T105.setTop (mkF m 189 #[.val (.int p0), .val (.int p1), .val (.int p2), .val (.int (p0 &&& (3 : Int32))), .val (.ref b12), .val (.int p1), .val (.ref cp), .val (.int (1 : Int32))] [(.int p1), (.ref cp)]))
        have f_108 : Fld Z h20 cp "org/loomstyle/parse/ExpressionParser$RawText" "endsAtParenthesis" "Z" (.int (0 : Int32)) := (P2.ext (own_ext K20))
        have f_109 : Fld Z h20 cp "org/loomstyle/parse/ExpressionParser$RawText" "endsAtColon" "Z" (.int (0 : Int32)) := (P3.ext (own_ext K20))
        have f_111 : Exa Z h20 cp "org/loomstyle/parse/ExpressionParser$RawText" := (P1.ext (own_ext K20))
        obtain ⟨cq110, kq110, q110a, q110b, q110c⟩ := isOf hZ e105 f_111
        obtain ⟨_, _, ⟨T110, L110, kk110, nn110⟩, -, X110, ⟨Lc110, hQ110, l110, y110, z110⟩, st110⟩ := X105.virtualBack hx (y := (⟨"org/loomstyle/parse/ExpressionParser$RawText", "endsAt", "(I)Z"⟩ : MethodName)) (z := (⟨"org/loomstyle/parse/ExpressionParser$RawText", "endsAt", "(I)Z"⟩ : MethodName)) hown (mvT hZ (hw _ (List.mem_of_getElem? (i := 4) rfl))) (mvT hZ (hw _ (List.mem_of_getElem? (i := 5) rfl))) (notFace_of_selects (args := #[]) (mvT hZ (hw _ (List.mem_of_getElem? (i := 7) rfl)))) (mvT hZ (hw _ (List.mem_of_getElem? (i := 7) rfl))) (mvT hZ (hw _ (List.mem_of_getElem? (i := 6) rfl))) (by decide) (backOf (W := 0) (rm1 l Z a0 hw [] cp p1 (0 : Int32) (0 : Int32) h20 n0 Z20 f_108 f_109) hZ (hw _ (List.mem_of_getElem? (i := 8) rfl)) (hw _ (List.mem_of_getElem? (i := 2) rfl)) (by decide) (by decide)) q110a q110c (g := (mkF m 189 #[.val (.int p0), .val (.int p1), .val (.int p2), .val (.int (p0 &&& (3 : Int32))), .val (.ref b12), .val (.int p1), .val (.ref cp), .val (.int (1 : Int32))] [(.int p1), (.ref cp)])) rfl (by rw [hml]; rfl) (Steps.refl _) (argsL := [(.int p1)]) (rest := []) (lenOf pd_0 rfl) rfl (by show 2 * 0 + _ ≤ _; exact Nat.le_of_eq rfl) (hb hby at_189) (fun _ _ => ⟨rfl, e105, (by decide : 1 + 0 ≤ _), (by decide : 8 + 0 ≤ _)⟩)
        dsimp only [Pt.U, Pt.locs, Pt.cells, Pt.slots] at X110 l110 y110 z110 st110 hQ110
        subst l110 y110 z110
        obtain ⟨N110q, rfl, hq110⟩ := hQ110
        have N110 := Fr.app N20 N110q
        refine own_go (fun t k => st110.trans k) ?_
        show own_Gl _ _ _ _ (T110.setTop (mkF m 192 #[.val (.int p0), .val (.int p1), .val (.int p2), .val (.int (p0 &&& (3 : Int32))), .val (.ref b12), .val (.int p1), .val (.ref cp), .val (.int (1 : Int32))] [(.int (f1 p1 (0 : Int32) (0 : Int32)))]))
        refine own_go (fun t k => XS.iload X110.here hx rfl (hb hby at_192) rfl k) ?_
        show own_Gl _ _ _ _ (T110.setTop (mkF m 194 #[.val (.int p0), .val (.int p1), .val (.int p2), .val (.int (p0 &&& (3 : Int32))), .val (.ref b12), .val (.int p1), .val (.ref cp), .val (.int (1 : Int32))] [(.int (1 : Int32)), (.int (f1 p1 (0 : Int32) (0 : Int32)))]))
        by_cases hc194_112 : (f1 p1 (0 : Int32) (0 : Int32)) = (1 : Int32)
        · refine own_go (fun t k => XS.icmpNo X110.here hx rfl (hb hby at_194) rfl (teq hc194_112).2 k) ?_
          show own_Gl _ _ _ _ (T110.setTop (mkF m 197 #[.val (.int p0), .val (.int p1), .val (.int p2), .val (.int (p0 &&& (3 : Int32))), .val (.ref b12), .val (.int p1), .val (.ref cp), .val (.int (1 : Int32))] []))
          refine own_go (fun t k => XS.iconst X110.here hx rfl (hb hby at_197) k) ?_
          show own_Gl _ _ _ _ (T110.setTop (mkF m 198 #[.val (.int p0), .val (.int p1), .val (.int p2), .val (.int (p0 &&& (3 : Int32))), .val (.ref b12), .val (.int p1), .val (.ref cp), .val (.int (1 : Int32))] [(.int (1 : Int32))]))
          refine own_go (fun t k => XS.goto X110.here hx rfl (pc0 := 198) (pc' := 202) rfl (hb hby at_198) (by decide) (by decide) k) ?_
          show own_Gl _ _ _ _ (T110.setTop (mkF m 202 #[.val (.int p0), .val (.int p1), .val (.int p2), .val (.int (p0 &&& (3 : Int32))), .val (.ref b12), .val (.int p1), .val (.ref cp), .val (.int (1 : Int32))] [(.int (1 : Int32))]))
          obtain ⟨fs, hr, hrun, hended, hW, hsame⟩ := X110.leave (v := some (.int (1 : Int32))) (fun h => by rw [Bd.returns] at h; cases h)
          refine own_fin (retN X110 hx (t := .boolean) Bd.returns (by simp) (hb hby at_202) hr) hrun hended ⟨_, _, rfl, ?_, ⟨_, rfl⟩, hW, hsame.mono (by decide) (by decide)⟩
          show Q0 Z p0 p1 p2 cp fa su sa h0 n0 _ T110.heap _
          rw [hq110]
          exact ⟨N110, by rw [f0, if_neg hc55_21, if_pos hc72_104, if_pos hc122_107, if_pos hc194_112]⟩
        · refine own_go (fun t k => XS.icmpYes X110.here hx rfl (pc0 := 194) (pc' := 201) rfl (hb hby at_194) rfl (feq hc194_112).2 (by decide) (by decide) k) ?_
          show own_Gl _ _ _ _ (T110.setTop (mkF m 201 #[.val (.int p0), .val (.int p1), .val (.int p2), .val (.int (p0 &&& (3 : Int32))), .val (.ref b12), .val (.int p1), .val (.ref cp), .val (.int (1 : Int32))] []))
          refine own_go (fun t k => XS.iconst X110.here hx rfl (hb hby at_201) k) ?_
          show own_Gl _ _ _ _ (T110.setTop (mkF m 202 #[.val (.int p0), .val (.int p1), .val (.int p2), .val (.int (p0 &&& (3 : Int32))), .val (.ref b12), .val (.int p1), .val (.ref cp), .val (.int (1 : Int32))] [(.int (0 : Int32))]))
          obtain ⟨fs, hr, hrun, hended, hW, hsame⟩ := X110.leave (v := some (.int (0 : Int32))) (fun h => by rw [Bd.returns] at h; cases h)
          refine own_fin (retN X110 hx (t := .boolean) Bd.returns (by simp) (hb hby at_202) hr) hrun hended ⟨_, _, rfl, ?_, ⟨_, rfl⟩, hW, hsame.mono (by decide) (by decide)⟩
          show Q0 Z p0 p1 p2 cp fa su sa h0 n0 _ T110.heap _
          rw [hq110]
          exact ⟨N110, by rw [f0, if_neg hc55_21, if_pos hc72_104, if_pos hc122_107, if_neg hc194_112]⟩
      · refine own_go (fun t k => XS.icmpNo X105.here hx rfl (hb hby at_122) rfl (feq hc122_107).1 k) ?_
        show own_Gl _ _ _ _ (T105.setTop (mkF m 125 #[.val (.int p0), .val (.int p1), .val (.int p2), .val (.int (p0 &&& (3 : Int32))), .val (.ref b12), .val (.int p1), .val (.ref cp), .unset] []))
        refine own_go (fun t k => XS.iload X105.here hx rfl (hb hby at_125) rfl k) ?_
        show own_Gl _ _ _ _ (T105.setTop (mkF m 127 #[.val (.int p0), .val (.int p1), .val (.int p2), .val (.int (p0 &&& (3 : Int32))), .val (.ref b12), .val (.int p1), .val (.ref cp), .unset] [(.int p1)]))
        refine own_go (fun t k => XS.bipush X105.here hx rfl (hb hby at_127) k) ?_
        show own_Gl _ _ _ _ (T105.setTop (mkF m 129 #[.val (.int p0), .val (.int p1), .val (.int p2), .val (.int (p0 &&& (3 : Int32))), .val (.ref b12), .val (.int p1), .val (.ref cp), .unset] [(.int (125 : Int32)), (.int p1)]))
        by_cases hc129_113 : p1 = (125 : Int32)
        · refine own_go (fun t k => XS.icmpNo X105.here hx rfl (hb hby at_129) rfl (teq hc129_113).2 k) ?_
          show own_Gl _ _ _ _ (T105.setTop (mkF m 132 #[.val (.int p0), .val (.int p1), .val (.int p2), .val (.int (p0 &&& (3 : Int32))), .val (.ref b12), .val (.int p1), .val (.ref cp), .unset] []))
          refine own_go (fun t k => XS.iconst X105.here hx rfl (hb hby at_132) k) ?_
          show own_Gl _ _ _ _ (T105.setTop (mkF m 133 #[.val (.int p0), .val (.int p1), .val (.int p2), .val (.int (p0 &&& (3 : Int32))), .val (.ref b12), .val (.int p1), .val (.ref cp), .unset] [(.int (1 : Int32))]))
          refine own_go (fun t k => XS.goto X105.here hx rfl (pc0 := 133) (pc' := 137) rfl (hb hby at_133) (by decide) (by decide) k) ?_
          show own_Gl _ _ _ _ (T105.setTop (mkF m 137 #[.val (.int p0), .val (.int p1), .val (.int p2), .val (.int (p0 &&& (3 : Int32))), .val (.ref b12), .val (.int p1), .val (.ref cp), .unset] [(.int (1 : Int32))]))
          refine own_go (fun t k => XS.istore X105.here hx rfl (hb hby at_137) rfl (l' := #[.val (.int p0), .val (.int p1), .val (.int p2), .val (.int (p0 &&& (3 : Int32))), .val (.ref b12), .val (.int p1), .val (.ref cp), .val (.int (1 : Int32))]) rfl k) ?_
          show own_Gl _ _ _ _ (T105.setTop (mkF m 139 #[.val (.int p0), .val (.int p1), .val (.int p2), .val (.int (p0 &&& (3 : Int32))), .val (.ref b12), .val (.int p1), .val (.ref cp), .val (.int (1 : Int32))] []))
          refine own_go (fun t k => XS.goto X105.here hx rfl (pc0 := 139) (pc' := 185) rfl (hb hby at_139) (by decide) (by decide) k) ?_
          show own_Gl _ _ _ _ (T105.setTop (mkF m 185 #[.val (.int p0), .val (.int p1), .val (.int p2), .val (.int (p0 &&& (3 : Int32))), .val (.ref b12), .val (.int p1), .val (.ref cp), .val (.int (1 : Int32))] []))
          refine own_go (fun t k => XS.aload X105.here hx rfl (hb hby at_185) rfl rfl k) ?_
          show own_Gl _ _ _ _ (T105.setTop (mkF m 187 #[.val (.int p0), .val (.int p1), .val (.int p2), .val (.int (p0 &&& (3 : Int32))), .val (.ref b12), .val (.int p1), .val (.ref cp), .val (.int (1 : Int32))] [(.ref cp)]))
          refine own_go (fun t k => XS.iload X105.here hx rfl (hb hby at_187) rfl k) ?_
          show own_Gl _ _ _ _ (T105.setTop (mkF m 189 #[.val (.int p0), .val (.int p1), .val (.int p2), .val (.int (p0 &&& (3 : Int32))), .val (.ref b12), .val (.int p1), .val (.ref cp), .val (.int (1 : Int32))] [(.int p1), (.ref cp)]))
          have f_114 : Fld Z h20 cp "org/loomstyle/parse/ExpressionParser$RawText" "endsAtParenthesis" "Z" (.int (0 : Int32)) := (P2.ext (own_ext K20))
          have f_115 : Fld Z h20 cp "org/loomstyle/parse/ExpressionParser$RawText" "endsAtColon" "Z" (.int (0 : Int32)) := (P3.ext (own_ext K20))
          have f_117 : Exa Z h20 cp "org/loomstyle/parse/ExpressionParser$RawText" := (P1.ext (own_ext K20))
          obtain ⟨cq116, kq116, q116a, q116b, q116c⟩ := isOf hZ e105 f_117
          obtain ⟨_, _, ⟨T116, L116, kk116, nn116⟩, -, X116, ⟨Lc116, hQ116, l116, y116, z116⟩, st116⟩ := X105.virtualBack hx (y := (⟨"org/loomstyle/parse/ExpressionParser$RawText", "endsAt", "(I)Z"⟩ : MethodName)) (z := (⟨"org/loomstyle/parse/ExpressionParser$RawText", "endsAt", "(I)Z"⟩ : MethodName)) hown (mvT hZ (hw _ (List.mem_of_getElem? (i := 4) rfl))) (mvT hZ (hw _ (List.mem_of_getElem? (i := 5) rfl))) (notFace_of_selects (args := #[]) (mvT hZ (hw _ (List.mem_of_getElem? (i := 7) rfl)))) (mvT hZ (hw _ (List.mem_of_getElem? (i := 7) rfl))) (mvT hZ (hw _ (List.mem_of_getElem? (i := 6) rfl))) (by decide) (backOf (W := 0) (rm1 l Z a0 hw [] cp p1 (0 : Int32) (0 : Int32) h20 n0 Z20 f_114 f_115) hZ (hw _ (List.mem_of_getElem? (i := 8) rfl)) (hw _ (List.mem_of_getElem? (i := 2) rfl)) (by decide) (by decide)) q116a q116c (g := (mkF m 189 #[.val (.int p0), .val (.int p1), .val (.int p2), .val (.int (p0 &&& (3 : Int32))), .val (.ref b12), .val (.int p1), .val (.ref cp), .val (.int (1 : Int32))] [(.int p1), (.ref cp)])) rfl (by rw [hml]; rfl) (Steps.refl _) (argsL := [(.int p1)]) (rest := []) (lenOf pd_0 rfl) rfl (by show 2 * 0 + _ ≤ _; exact Nat.le_of_eq rfl) (hb hby at_189) (fun _ _ => ⟨rfl, e105, (by decide : 1 + 0 ≤ _), (by decide : 8 + 0 ≤ _)⟩)
          dsimp only [Pt.U, Pt.locs, Pt.cells, Pt.slots] at X116 l116 y116 z116 st116 hQ116
          subst l116 y116 z116
          obtain ⟨N116q, rfl, hq116⟩ := hQ116
          have N116 := Fr.app N20 N116q
          refine own_go (fun t k => st116.trans k) ?_
          show own_Gl _ _ _ _ (T116.setTop (mkF m 192 #[.val (.int p0), .val (.int p1), .val (.int p2), .val (.int (p0 &&& (3 : Int32))), .val (.ref b12), .val (.int p1), .val (.ref cp), .val (.int (1 : Int32))] [(.int (f1 p1 (0 : Int32) (0 : Int32)))]))
          refine own_go (fun t k => XS.iload X116.here hx rfl (hb hby at_192) rfl k) ?_
          show own_Gl _ _ _ _ (T116.setTop (mkF m 194 #[.val (.int p0), .val (.int p1), .val (.int p2), .val (.int (p0 &&& (3 : Int32))), .val (.ref b12), .val (.int p1), .val (.ref cp), .val (.int (1 : Int32))] [(.int (1 : Int32)), (.int (f1 p1 (0 : Int32) (0 : Int32)))]))
          by_cases hc194_118 : (f1 p1 (0 : Int32) (0 : Int32)) = (1 : Int32)
          · refine own_go (fun t k => XS.icmpNo X116.here hx rfl (hb hby at_194) rfl (teq hc194_118).2 k) ?_
            show own_Gl _ _ _ _ (T116.setTop (mkF m 197 #[.val (.int p0), .val (.int p1), .val (.int p2), .val (.int (p0 &&& (3 : Int32))), .val (.ref b12), .val (.int p1), .val (.ref cp), .val (.int (1 : Int32))] []))
            refine own_go (fun t k => XS.iconst X116.here hx rfl (hb hby at_197) k) ?_
            show own_Gl _ _ _ _ (T116.setTop (mkF m 198 #[.val (.int p0), .val (.int p1), .val (.int p2), .val (.int (p0 &&& (3 : Int32))), .val (.ref b12), .val (.int p1), .val (.ref cp), .val (.int (1 : Int32))] [(.int (1 : Int32))]))
            refine own_go (fun t k => XS.goto X116.here hx rfl (pc0 := 198) (pc' := 202) rfl (hb hby at_198) (by decide) (by decide) k) ?_
            show own_Gl _ _ _ _ (T116.setTop (mkF m 202 #[.val (.int p0), .val (.int p1), .val (.int p2), .val (.int (p0 &&& (3 : Int32))), .val (.ref b12), .val (.int p1), .val (.ref cp), .val (.int (1 : Int32))] [(.int (1 : Int32))]))
            obtain ⟨fs, hr, hrun, hended, hW, hsame⟩ := X116.leave (v := some (.int (1 : Int32))) (fun h => by rw [Bd.returns] at h; cases h)
            refine own_fin (retN X116 hx (t := .boolean) Bd.returns (by simp) (hb hby at_202) hr) hrun hended ⟨_, _, rfl, ?_, ⟨_, rfl⟩, hW, hsame.mono (by decide) (by decide)⟩
            show Q0 Z p0 p1 p2 cp fa su sa h0 n0 _ T116.heap _
            rw [hq116]
            exact ⟨N116, by rw [f0, if_neg hc55_21, if_pos hc72_104, if_neg hc122_107, if_pos hc129_113, if_pos hc194_118]⟩
          · refine own_go (fun t k => XS.icmpYes X116.here hx rfl (pc0 := 194) (pc' := 201) rfl (hb hby at_194) rfl (feq hc194_118).2 (by decide) (by decide) k) ?_
            show own_Gl _ _ _ _ (T116.setTop (mkF m 201 #[.val (.int p0), .val (.int p1), .val (.int p2), .val (.int (p0 &&& (3 : Int32))), .val (.ref b12), .val (.int p1), .val (.ref cp), .val (.int (1 : Int32))] []))
            refine own_go (fun t k => XS.iconst X116.here hx rfl (hb hby at_201) k) ?_
            show own_Gl _ _ _ _ (T116.setTop (mkF m 202 #[.val (.int p0), .val (.int p1), .val (.int p2), .val (.int (p0 &&& (3 : Int32))), .val (.ref b12), .val (.int p1), .val (.ref cp), .val (.int (1 : Int32))] [(.int (0 : Int32))]))
            obtain ⟨fs, hr, hrun, hended, hW, hsame⟩ := X116.leave (v := some (.int (0 : Int32))) (fun h => by rw [Bd.returns] at h; cases h)
            refine own_fin (retN X116 hx (t := .boolean) Bd.returns (by simp) (hb hby at_202) hr) hrun hended ⟨_, _, rfl, ?_, ⟨_, rfl⟩, hW, hsame.mono (by decide) (by decide)⟩
            show Q0 Z p0 p1 p2 cp fa su sa h0 n0 _ T116.heap _
            rw [hq116]
            exact ⟨N116, by rw [f0, if_neg hc55_21, if_pos hc72_104, if_neg hc122_107, if_pos hc129_113, if_neg hc194_118]⟩
        · refine own_go (fun t k => XS.icmpYes X105.here hx rfl (pc0 := 129) (pc' := 136) rfl (hb hby at_129) rfl (feq hc129_113).2 (by decide) (by decide) k) ?_
          show own_Gl _ _ _ _ (T105.setTop (mkF m 136 #[.val (.int p0), .val (.int p1), .val (.int p2), .val (.int (p0 &&& (3 : Int32))), .val (.ref b12), .val (.int p1), .val (.ref cp), .unset] []))
          refine own_go (fun t k => XS.iconst X105.here hx rfl (hb hby at_136) k) ?_
          show own_Gl _ _ _ _ (T105.setTop (mkF m 137 #[.val (.int p0), .val (.int p1), .val (.int p2), .val (.int (p0 &&& (3 : Int32))), .val (.ref b12), .val (.int p1), .val (.ref cp), .unset] [(.int (0 : Int32))]))
          refine own_go (fun t k => XS.istore X105.here hx rfl (hb hby at_137) rfl (l' := #[.val (.int p0), .val (.int p1), .val (.int p2), .val (.int (p0 &&& (3 : Int32))), .val (.ref b12), .val (.int p1), .val (.ref cp), .val (.int (0 : Int32))]) rfl k) ?_
          show own_Gl _ _ _ _ (T105.setTop (mkF m 139 #[.val (.int p0), .val (.int p1), .val (.int p2), .val (.int (p0 &&& (3 : Int32))), .val (.ref b12), .val (.int p1), .val (.ref cp), .val (.int (0 : Int32))] []))
          refine own_go (fun t k => XS.goto X105.here hx rfl (pc0 := 139) (pc' := 185) rfl (hb hby at_139) (by decide) (by decide) k) ?_
          show own_Gl _ _ _ _ (T105.setTop (mkF m 185 #[.val (.int p0), .val (.int p1), .val (.int p2), .val (.int (p0 &&& (3 : Int32))), .val (.ref b12), .val (.int p1), .val (.ref cp), .val (.int (0 : Int32))] []))
          refine own_go (fun t k => XS.aload X105.here hx rfl (hb hby at_185) rfl rfl k) ?_
          show own_Gl _ _ _ _ (T105.setTop (mkF m 187 #[.val (.int p0), .val (.int p1), .val (.int p2), .val (.int (p0 &&& (3 : Int32))), .val (.ref b12), .val (.int p1), .val (.ref cp), .val (.int (0 : Int32))] [(.ref cp)]))
          refine own_go (fun t k => XS.iload X105.here hx rfl (hb hby at_187) rfl k) ?_
          show own_Gl _ _ _ _ (T105.setTop (mkF m 189 #[.val (.int p0), .val (.int p1), .val (.int p2), .val (.int (p0 &&& (3 : Int32))), .val (.ref b12), .val (.int p1), .val (.ref cp), .val (.int (0 : Int32))] [(.int p1), (.ref cp)]))
          have f_119 : Fld Z h20 cp "org/loomstyle/parse/ExpressionParser$RawText" "endsAtParenthesis" "Z" (.int (0 : Int32)) := (P2.ext (own_ext K20))
          have f_120 : Fld Z h20 cp "org/loomstyle/parse/ExpressionParser$RawText" "endsAtColon" "Z" (.int (0 : Int32)) := (P3.ext (own_ext K20))
          have f_122 : Exa Z h20 cp "org/loomstyle/parse/ExpressionParser$RawText" := (P1.ext (own_ext K20))
          obtain ⟨cq121, kq121, q121a, q121b, q121c⟩ := isOf hZ e105 f_122
          obtain ⟨_, _, ⟨T121, L121, kk121, nn121⟩, -, X121, ⟨Lc121, hQ121, l121, y121, z121⟩, st121⟩ := X105.virtualBack hx (y := (⟨"org/loomstyle/parse/ExpressionParser$RawText", "endsAt", "(I)Z"⟩ : MethodName)) (z := (⟨"org/loomstyle/parse/ExpressionParser$RawText", "endsAt", "(I)Z"⟩ : MethodName)) hown (mvT hZ (hw _ (List.mem_of_getElem? (i := 4) rfl))) (mvT hZ (hw _ (List.mem_of_getElem? (i := 5) rfl))) (notFace_of_selects (args := #[]) (mvT hZ (hw _ (List.mem_of_getElem? (i := 7) rfl)))) (mvT hZ (hw _ (List.mem_of_getElem? (i := 7) rfl))) (mvT hZ (hw _ (List.mem_of_getElem? (i := 6) rfl))) (by decide) (backOf (W := 0) (rm1 l Z a0 hw [] cp p1 (0 : Int32) (0 : Int32) h20 n0 Z20 f_119 f_120) hZ (hw _ (List.mem_of_getElem? (i := 8) rfl)) (hw _ (List.mem_of_getElem? (i := 2) rfl)) (by decide) (by decide)) q121a q121c (g := (mkF m 189 #[.val (.int p0), .val (.int p1), .val (.int p2), .val (.int (p0 &&& (3 : Int32))), .val (.ref b12), .val (.int p1), .val (.ref cp), .val (.int (0 : Int32))] [(.int p1), (.ref cp)])) rfl (by rw [hml]; rfl) (Steps.refl _) (argsL := [(.int p1)]) (rest := []) (lenOf pd_0 rfl) rfl (by show 2 * 0 + _ ≤ _; exact Nat.le_of_eq rfl) (hb hby at_189) (fun _ _ => ⟨rfl, e105, (by decide : 1 + 0 ≤ _), (by decide : 8 + 0 ≤ _)⟩)
          dsimp only [Pt.U, Pt.locs, Pt.cells, Pt.slots] at X121 l121 y121 z121 st121 hQ121
          subst l121 y121 z121
          obtain ⟨N121q, rfl, hq121⟩ := hQ121
          have N121 := Fr.app N20 N121q
          refine own_go (fun t k => st121.trans k) ?_
          show own_Gl _ _ _ _ (T121.setTop (mkF m 192 #[.val (.int p0), .val (.int p1), .val (.int p2), .val (.int (p0 &&& (3 : Int32))), .val (.ref b12), .val (.int p1), .val (.ref cp), .val (.int (0 : Int32))] [(.int (f1 p1 (0 : Int32) (0 : Int32)))]))
          refine own_go (fun t k => XS.iload X121.here hx rfl (hb hby at_192) rfl k) ?_
          show own_Gl _ _ _ _ (T121.setTop (mkF m 194 #[.val (.int p0), .val (.int p1), .val (.int p2), .val (.int (p0 &&& (3 : Int32))), .val (.ref b12), .val (.int p1), .val (.ref cp), .val (.int (0 : Int32))] [(.int (0 : Int32)), (.int (f1 p1 (0 : Int32) (0 : Int32)))]))
          by_cases hc194_123 : (f1 p1 (0 : Int32) (0 : Int32)) = (0 : Int32)
          · refine own_go (fun t k => XS.icmpNo X121.here hx rfl (hb hby at_194) rfl (teq hc194_123).2 k) ?_
            show own_Gl _ _ _ _ (T121.setTop (mkF m 197 #[.val (.int p0), .val (.int p1), .val (.int p2), .val (.int (p0 &&& (3 : Int32))), .val (.ref b12), .val (.int p1), .val (.ref cp), .val (.int (0 : Int32))] []))
            refine own_go (fun t k => XS.iconst X121.here hx rfl (hb hby at_197) k) ?_
            show own_Gl _ _ _ _ (T121.setTop (mkF m 198 #[.val (.int p0), .val (.int p1), .val (.int p2), .val (.int (p0 &&& (3 : Int32))), .val (.ref b12), .val (.int p1), .val (.ref cp), .val (.int (0 : Int32))] [(.int (1 : Int32))]))
            refine own_go (fun t k => XS.goto X121.here hx rfl (pc0 := 198) (pc' := 202) rfl (hb hby at_198) (by decide) (by decide) k) ?_
            show own_Gl _ _ _ _ (T121.setTop (mkF m 202 #[.val (.int p0), .val (.int p1), .val (.int p2), .val (.int (p0 &&& (3 : Int32))), .val (.ref b12), .val (.int p1), .val (.ref cp), .val (.int (0 : Int32))] [(.int (1 : Int32))]))
            obtain ⟨fs, hr, hrun, hended, hW, hsame⟩ := X121.leave (v := some (.int (1 : Int32))) (fun h => by rw [Bd.returns] at h; cases h)
            refine own_fin (retN X121 hx (t := .boolean) Bd.returns (by simp) (hb hby at_202) hr) hrun hended ⟨_, _, rfl, ?_, ⟨_, rfl⟩, hW, hsame.mono (by decide) (by decide)⟩
            show Q0 Z p0 p1 p2 cp fa su sa h0 n0 _ T121.heap _
            rw [hq121]
            exact ⟨N121, by rw [f0, if_neg hc55_21, if_pos hc72_104, if_neg hc122_107, if_neg hc129_113, if_pos hc194_123]⟩
          · refine own_go (fun t k => XS.icmpYes X121.here hx rfl (pc0 := 194) (pc' := 201) rfl (hb hby at_194) rfl (feq hc194_123).2 (by decide) (by decide) k) ?_
            show own_Gl _ _ _ _ (T121.setTop (mkF m 201 #[.val (.int p0), .val (.int p1), .val (.int p2), .val (.int (p0 &&& (3 : Int32))), .val (.ref b12), .val (.int p1), .val (.ref cp), .val (.int (0 : Int32))] []))
            refine own_go (fun t k => XS.iconst X121.here hx rfl (hb hby at_201) k) ?_
            show own_Gl _ _ _ _ (T121.setTop (mkF m 202 #[.val (.int p0), .val (.int p1), .val (.int p2), .val (.int (p0 &&& (3 : Int32))), .val (.ref b12), .val (.int p1), .val (.ref cp), .val (.int (0 : Int32))] [(.int (0 : Int32))]))
            obtain ⟨fs, hr, hrun, hended, hW, hsame⟩ := X121.leave (v := some (.int (0 : Int32))) (fun h => by rw [Bd.returns] at h; cases h)
            refine own_fin (retN X121 hx (t := .boolean) Bd.returns (by simp) (hb hby at_202) hr) hrun hended ⟨_, _, rfl, ?_, ⟨_, rfl⟩, hW, hsame.mono (by decide) (by decide)⟩
            show Q0 Z p0 p1 p2 cp fa su sa h0 n0 _ T121.heap _
            rw [hq121]
            exact ⟨N121, by rw [f0, if_neg hc55_21, if_pos hc72_104, if_neg hc122_107, if_neg hc129_113, if_neg hc194_123]⟩
    · refine own_go (fun t k => XS.ifYes X20.here hx rfl (pc0 := 72) (pc' := 83) rfl (hb hby at_72) rfl ((if0 _ _).trans (feq hc72_104).2) (by decide) (by decide) k) ?_
      show own_Gl _ _ _ _ (T20.setTop (mkF m 83 #[.val (.int p0), .val (.int p1), .val (.int p2), .val (.int (p0 &&& (3 : Int32))), .val (.ref b12), .val (.int p1), .unset, .unset] []))
      refine own_go (fun t k => XS.iloadN X20.here hx rfl (hb hby at_83) rfl k) ?_
      show own_Gl _ _ _ _ (T20.setTop (mkF m 84 #[.val (.int p0), .val (.int p1), .val (.int p2), .val (.int (p0 &&& (3 : Int32))), .val (.ref b12), .val (.int p1), .unset, .unset] [(.int (p0 &&& (3 : Int32)))]))
      refine own_go (fun t k => XS.iconst X20.here hx rfl (hb hby at_84) k) ?_
      show own_Gl _ _ _ _ (T20.setTop (mkF m 85 #[.val (.int p0), .val (.int p1), .val (.int p2), .val (.int (p0 &&& (3 : Int32))), .val (.ref b12), .val (.int p1), .unset, .unset] [(.int (1 : Int32)), (.int (p0 &&& (3 : Int32)))]))
      by_cases hc85_124 : (p0 &&& (3 : Int32)) = (1 : Int32)
      · refine own_go (fun t k => XS.icmpNo X20.here hx rfl (hb hby at_85) rfl (teq hc85_124).2 k) ?_
        show own_Gl _ _ _ _ (T20.setTop (mkF m 88 #[.val (.int p0), .val (.int p1), .val (.int p2), .val (.int (p0 &&& (3 : Int32))), .val (.ref b12), .val (.int p1), .unset, .unset] []))
        have f_126 : Sta Z h20 "org/loomstyle/parse/ExpressionParser$RawText" "FUNCTION_ARGUMENTS" "Lorg/loomstyle/parse/ExpressionParser$RawText;" (.ref fa) := (P4.ext (own_ext K20))
        obtain ⟨T125, X125, e125, st125⟩ := getS2 X20 hx hZ hown (host := "") (Or.inl (hw _ (List.mem_of_getElem? (i := 11) rfl))) Via.refl e20 f_126 (g := (mkF m 88 #[.val (.int p0), .val (.int p1), .val (.int p2), .val (.int (p0 &&& (3 : Int32))), .val (.ref b12), .val (.int p1), .unset, .unset] [])) rfl (hb hby at_88)
        refine own_go (fun t k => st125 _ k) ?_
        show own_Gl _ _ _ _ (T125.setTop (mkF m 91 #[.val (.int p0), .val (.int p1), .val (.int p2), .val (.int (p0 &&& (3 : Int32))), .val (.ref b12), .val (.int p1), .unset, .unset] [(.ref fa)]))
        refine own_go (fun t k => XS.astore X125.here hx rfl (hb hby at_91) rfl rfl (l' := #[.val (.int p0), .val (.int p1), .val (.int p2), .val (.int (p0 &&& (3 : Int32))), .val (.ref b12), .val (.int p1), .val (.ref fa), .unset]) rfl k) ?_
        show own_Gl _ _ _ _ (T125.setTop (mkF m 93 #[.val (.int p0), .val (.int p1), .val (.int p2), .val (.int (p0 &&& (3 : Int32))), .val (.ref b12), .val (.int p1), .val (.ref fa), .unset] []))
        refine own_go (fun t k => XS.goto X125.here hx rfl (pc0 := 93) (pc' := 114) rfl (hb hby at_93) (by decide) (by decide) k) ?_
        show own_Gl _ _ _ _ (T125.setTop (mkF m 114 #[.val (.int p0), .val (.int p1), .val (.int p2), .val (.int (p0 &&& (3 : Int32))), .val (.ref b12), .val (.int p1), .val (.ref fa), .unset] []))
        refine own_go (fun t k => XS.iloadN X125.here hx rfl (hb hby at_114) rfl k) ?_
        show own_Gl _ _ _ _ (T125.setTop (mkF m 115 #[.val (.int p0), .val (.int p1), .val (.int p2), .val (.int (p0 &&& (3 : Int32))), .val (.ref b12), .val (.int p1), .val (.ref fa), .unset] [(.int (p0 &&& (3 : Int32)))]))
        refine own_go (fun t k => XS.ifYes X125.here hx rfl (pc0 := 115) (pc' := 142) rfl (hb hby at_115) rfl ((if0 _ _).trans (feq hc72_104).2) (by decide) (by decide) k) ?_
        show own_Gl _ _ _ _ (T125.setTop (mkF m 142 #[.val (.int p0), .val (.int p1), .val (.int p2), .val (.int (p0 &&& (3 : Int32))), .val (.ref b12), .val (.int p1), .val (.ref fa), .unset] []))
        refine own_go (fun t k => XS.iloadN X125.here hx rfl (hb hby at_142) rfl k) ?_
        show own_Gl _ _ _ _ (T125.setTop (mkF m 143 #[.val (.int p0), .val (.int p1), .val (.int p2), .val (.int (p0 &&& (3 : Int32))), .val (.ref b12), .val (.int p1), .val (.ref fa), .unset] [(.int (p0 &&& (3 : Int32)))]))
        refine own_go (fun t k => XS.iconst X125.here hx rfl (hb hby at_143) k) ?_
        show own_Gl _ _ _ _ (T125.setTop (mkF m 144 #[.val (.int p0), .val (.int p1), .val (.int p2), .val (.int (p0 &&& (3 : Int32))), .val (.ref b12), .val (.int p1), .val (.ref fa), .unset] [(.int (3 : Int32)), (.int (p0 &&& (3 : Int32)))]))
        have hd127 : ¬ ((p0 &&& (3 : Int32)) = (3 : Int32)) := by rw [hc85_124]; decide
        refine own_go (fun t k => XS.icmpYes X125.here hx rfl (pc0 := 144) (pc' := 171) rfl (hb hby at_144) rfl (feq hd127).2 (by decide) (by decide) k) ?_
        show own_Gl _ _ _ _ (T125.setTop (mkF m 171 #[.val (.int p0), .val (.int p1), .val (.int p2), .val (.int (p0 &&& (3 : Int32))), .val (.ref b12), .val (.int p1), .val (.ref fa), .unset] []))
        refine own_go (fun t k => XS.iload X125.here hx rfl (hb hby at_171) rfl k) ?_
        show own_Gl _ _ _ _ (T125.setTop (mkF m 173 #[.val (.int p0), .val (.int p1), .val (.int p2), .val (.int (p0 &&& (3 : Int32))), .val (.ref b12), .val (.int p1), .val (.ref fa), .unset] [(.int p1)]))
        refine own_go (fun t k => XS.bipush X125.here hx rfl (hb hby at_173) k) ?_
        show own_Gl _ _ _ _ (T125.setTop (mkF m 175 #[.val (.int p0), .val (.int p1), .val (.int p2), .val (.int (p0 &&& (3 : Int32))), .val (.ref b12), .val (.int p1), .val (.ref fa), .unset] [(.int (41 : Int32)), (.int p1)]))
        by_cases hc175_128 : p1 = (41 : Int32)
        · refine own_go (fun t k => XS.icmpNo X125.here hx rfl (hb hby at_175) rfl (teq hc175_128).2 k) ?_
          show own_Gl _ _ _ _ (T125.setTop (mkF m 178 #[.val (.int p0), .val (.int p1), .val (.int p2), .val (.int (p0 &&& (3 : Int32))), .val (.ref b12), .val (.int p1), .val (.ref fa), .unset] []))
          refine own_go (fun t k => XS.iconst X125.here hx rfl (hb hby at_178) k) ?_
          show own_Gl _ _ _ _ (T125.setTop (mkF m 179 #[.val (.int p0), .val (.int p1), .val (.int p2), .val (.int (p0 &&& (3 : Int32))), .val (.ref b12), .val (.int p1), .val (.ref fa), .unset] [(.int (1 : Int32))]))
          refine own_go (fun t k => XS.goto X125.here hx rfl (pc0 := 179) (pc' := 183) rfl (hb hby at_179) (by decide) (by decide) k) ?_
          show own_Gl _ _ _ _ (T125.setTop (mkF m 183 #[.val (.int p0), .val (.int p1), .val (.int p2), .val (.int (p0 &&& (3 : Int32))), .val (.ref b12), .val (.int p1), .val (.ref fa), .unset] [(.int (1 : Int32))]))
          refine own_go (fun t k => XS.istore X125.here hx rfl (hb hby at_183) rfl (l' := #[.val (.int p0), .val (.int p1), .val (.int p2), .val (.int (p0 &&& (3 : Int32))), .val (.ref b12), .val (.int p1), .val (.ref fa), .val (.int (1 : Int32))]) rfl k) ?_
          show own_Gl _ _ _ _ (T125.setTop (mkF m 185 #[.val (.int p0), .val (.int p1), .val (.int p2), .val (.int (p0 &&& (3 : Int32))), .val (.ref b12), .val (.int p1), .val (.ref fa), .val (.int (1 : Int32))] []))
          refine own_go (fun t k => XS.aload X125.here hx rfl (hb hby at_185) rfl rfl k) ?_
          show own_Gl _ _ _ _ (T125.setTop (mkF m 187 #[.val (.int p0), .val (.int p1), .val (.int p2), .val (.int (p0 &&& (3 : Int32))), .val (.ref b12), .val (.int p1), .val (.ref fa), .val (.int (1 : Int32))] [(.ref fa)]))
          refine own_go (fun t k => XS.iload X125.here hx rfl (hb hby at_187) rfl k) ?_
          show own_Gl _ _ _ _ (T125.setTop (mkF m 189 #[.val (.int p0), .val (.int p1), .val (.int p2), .val (.int (p0 &&& (3 : Int32))), .val (.ref b12), .val (.int p1), .val (.ref fa), .val (.int (1 : Int32))] [(.int p1), (.ref fa)]))
          have f_129 : Fld Z h20 fa "org/loomstyle/parse/ExpressionParser$RawText" "endsAtParenthesis" "Z" (.int (1 : Int32)) := (P6.ext (own_ext K20))
          have f_130 : Fld Z h20 fa "org/loomstyle/parse/ExpressionParser$RawText" "endsAtColon" "Z" (.int (0 : Int32)) := (P7.ext (own_ext K20))
          have f_132 : Exa Z h20 fa "org/loomstyle/parse/ExpressionParser$RawText" := (P5.ext (own_ext K20))
          obtain ⟨cq131, kq131, q131a, q131b, q131c⟩ := isOf hZ e125 f_132
          obtain ⟨_, _, ⟨T131, L131, kk131, nn131⟩, -, X131, ⟨Lc131, hQ131, l131, y131, z131⟩, st131⟩ := X125.virtualBack hx (y := (⟨"org/loomstyle/parse/ExpressionParser$RawText", "endsAt", "(I)Z"⟩ : MethodName)) (z := (⟨"org/loomstyle/parse/ExpressionParser$RawText", "endsAt", "(I)Z"⟩ : MethodName)) hown (mvT hZ (hw _ (List.mem_of_getElem? (i := 4) rfl))) (mvT hZ (hw _ (List.mem_of_getElem? (i := 5) rfl))) (notFace_of_selects (args := #[]) (mvT hZ (hw _ (List.mem_of_getElem? (i := 7) rfl)))) (mvT hZ (hw _ (List.mem_of_getElem? (i := 7) rfl))) (mvT hZ (hw _ (List.mem_of_getElem? (i := 6) rfl))) (by decide) (backOf (W := 0) (rm1 l Z a0 hw [] fa p1 (1 : Int32) (0 : Int32) h20 n0 Z20 f_129 f_130) hZ (hw _ (List.mem_of_getElem? (i := 8) rfl)) (hw _ (List.mem_of_getElem? (i := 2) rfl)) (by decide) (by decide)) q131a q131c (g := (mkF m 189 #[.val (.int p0), .val (.int p1), .val (.int p2), .val (.int (p0 &&& (3 : Int32))), .val (.ref b12), .val (.int p1), .val (.ref fa), .val (.int (1 : Int32))] [(.int p1), (.ref fa)])) rfl (by rw [hml]; rfl) (Steps.refl _) (argsL := [(.int p1)]) (rest := []) (lenOf pd_0 rfl) rfl (by show 2 * 0 + _ ≤ _; exact Nat.le_of_eq rfl) (hb hby at_189) (fun _ _ => ⟨rfl, e125, (by decide : 1 + 0 ≤ _), (by decide : 8 + 0 ≤ _)⟩)
          dsimp only [Pt.U, Pt.locs, Pt.cells, Pt.slots] at X131 l131 y131 z131 st131 hQ131
          subst l131 y131 z131
          obtain ⟨N131q, rfl, hq131⟩ := hQ131
          have N131 := Fr.app N20 N131q
          refine own_go (fun t k => st131.trans k) ?_
          show own_Gl _ _ _ _ (T131.setTop (mkF m 192 #[.val (.int p0), .val (.int p1), .val (.int p2), .val (.int (p0 &&& (3 : Int32))), .val (.ref b12), .val (.int p1), .val (.ref fa), .val (.int (1 : Int32))] [(.int (f1 p1 (1 : Int32) (0 : Int32)))]))
          refine own_go (fun t k => XS.iload X131.here hx rfl (hb hby at_192) rfl k) ?_
          show own_Gl _ _ _ _ (T131.setTop (mkF m 194 #[.val (.int p0), .val (.int p1), .val (.int p2), .val (.int (p0 &&& (3 : Int32))), .val (.ref b12), .val (.int p1), .val (.ref fa), .val (.int (1 : Int32))] [(.int (1 : Int32)), (.int (f1 p1 (1 : Int32) (0 : Int32)))]))
          by_cases hc194_133 : (f1 p1 (1 : Int32) (0 : Int32)) = (1 : Int32)
          · refine own_go (fun t k => XS.icmpNo X131.here hx rfl (hb hby at_194) rfl (teq hc194_133).2 k) ?_
            show own_Gl _ _ _ _ (T131.setTop (mkF m 197 #[.val (.int p0), .val (.int p1), .val (.int p2), .val (.int (p0 &&& (3 : Int32))), .val (.ref b12), .val (.int p1), .val (.ref fa), .val (.int (1 : Int32))] []))
            refine own_go (fun t k => XS.iconst X131.here hx rfl (hb hby at_197) k) ?_
            show own_Gl _ _ _ _ (T131.setTop (mkF m 198 #[.val (.int p0), .val (.int p1), .val (.int p2), .val (.int (p0 &&& (3 : Int32))), .val (.ref b12), .val (.int p1), .val (.ref fa), .val (.int (1 : Int32))] [(.int (1 : Int32))]))
            refine own_go (fun t k => XS.goto X131.here hx rfl (pc0 := 198) (pc' := 202) rfl (hb hby at_198) (by decide) (by decide) k) ?_
            show own_Gl _ _ _ _ (T131.setTop (mkF m 202 #[.val (.int p0), .val (.int p1), .val (.int p2), .val (.int (p0 &&& (3 : Int32))), .val (.ref b12), .val (.int p1), .val (.ref fa), .val (.int (1 : Int32))] [(.int (1 : Int32))]))
            obtain ⟨fs, hr, hrun, hended, hW, hsame⟩ := X131.leave (v := some (.int (1 : Int32))) (fun h => by rw [Bd.returns] at h; cases h)
            refine own_fin (retN X131 hx (t := .boolean) Bd.returns (by simp) (hb hby at_202) hr) hrun hended ⟨_, _, rfl, ?_, ⟨_, rfl⟩, hW, hsame.mono (by decide) (by decide)⟩
            show Q0 Z p0 p1 p2 cp fa su sa h0 n0 _ T131.heap _
            rw [hq131]
            exact ⟨N131, by rw [f0, if_neg hc55_21, if_neg hc72_104, if_pos hc85_124, if_pos hc175_128, if_pos hc194_133]⟩
          · refine own_go (fun t k => XS.icmpYes X131.here hx rfl (pc0 := 194) (pc' := 201) rfl (hb hby at_194) rfl (feq hc194_133).2 (by decide) (by decide) k) ?_
            show own_Gl _ _ _ _ (T131.setTop (mkF m 201 #[.val (.int p0), .val (.int p1), .val (.int p2), .val (.int (p0 &&& (3 : Int32))), .val (.ref b12), .val (.int p1), .val (.ref fa), .val (.int (1 : Int32))] []))
            refine own_go (fun t k => XS.iconst X131.here hx rfl (hb hby at_201) k) ?_
            show own_Gl _ _ _ _ (T131.setTop (mkF m 202 #[.val (.int p0), .val (.int p1), .val (.int p2), .val (.int (p0 &&& (3 : Int32))), .val (.ref b12), .val (.int p1), .val (.ref fa), .val (.int (1 : Int32))] [(.int (0 : Int32))]))
            obtain ⟨fs, hr, hrun, hended, hW, hsame⟩ := X131.leave (v := some (.int (0 : Int32))) (fun h => by rw [Bd.returns] at h; cases h)
            refine own_fin (retN X131 hx (t := .boolean) Bd.returns (by simp) (hb hby at_202) hr) hrun hended ⟨_, _, rfl, ?_, ⟨_, rfl⟩, hW, hsame.mono (by decide) (by decide)⟩
            show Q0 Z p0 p1 p2 cp fa su sa h0 n0 _ T131.heap _
            rw [hq131]
            exact ⟨N131, by rw [f0, if_neg hc55_21, if_neg hc72_104, if_pos hc85_124, if_pos hc175_128, if_neg hc194_133]⟩
        · refine own_go (fun t k => XS.icmpYes X125.here hx rfl (pc0 := 175) (pc' := 182) rfl (hb hby at_175) rfl (feq hc175_128).2 (by decide) (by decide) k) ?_
          show own_Gl _ _ _ _ (T125.setTop (mkF m 182 #[.val (.int p0), .val (.int p1), .val (.int p2), .val (.int (p0 &&& (3 : Int32))), .val (.ref b12), .val (.int p1), .val (.ref fa), .unset] []))
          refine own_go (fun t k => XS.iconst X125.here hx rfl (hb hby at_182) k) ?_
          show own_Gl _ _ _ _ (T125.setTop (mkF m 183 #[.val (.int p0), .val (.int p1), .val (.int p2), .val (.int (p0 &&& (3 : Int32))), .val (.ref b12), .val (.int p1), .val (.ref fa), .unset] [(.int (0 : Int32))]))
          refine own_go (fun t k => XS.istore X125.here hx rfl (hb hby at_183) rfl (l' := #[.val (.int p0), .val (.int p1), .val (.int p2), .val (.int (p0 &&& (3 : Int32))), .val (.ref b12), .val (.int p1), .val (.ref fa), .val (.int (0 : Int32))]) rfl k) ?_
          show own_Gl _ _ _ _ (T125.setTop (mkF m 185 #[.val (.int p0), .val (.int p1), .val (.int p2), .val (.int (p0 &&& (3 : Int32))), .val (.ref b12), .val (.int p1), .val (.ref fa), .val (.int (0 : Int32))] []))
          refine own_go (fun t k => XS.aload X125.here hx rfl (hb hby at_185) rfl rfl k) ?_
          show own_Gl _ _ _ _ (T125.setTop (mkF m 187 #[.val (.int p0), .val (.int p1), .val (.int p2), .val (.int (p0 &&& (3 : Int32))), .val (.ref b12), .val (.int p1), .val (.ref fa), .val (.int (0 : Int32))] [(.ref fa)]))
          refine own_go (fun t k => XS.iload X125.here hx rfl (hb hby at_187) rfl k) ?_
          show own_Gl _ _ _ _ (T125.setTop (mkF m 189 #[.val (.int p0), .val (.int p1), .val (.int p2), .val (.int (p0 &&& (3 : Int32))), .val (.ref b12), .val (.int p1), .val (.ref fa), .val (.int (0 : Int32))] [(.int p1), (.ref fa)]))
          have f_134 : Fld Z h20 fa "org/loomstyle/parse/ExpressionParser$RawText" "endsAtParenthesis" "Z" (.int (1 : Int32)) := (P6.ext (own_ext K20))
          have f_135 : Fld Z h20 fa "org/loomstyle/parse/ExpressionParser$RawText" "endsAtColon" "Z" (.int (0 : Int32)) := (P7.ext (own_ext K20))
          have f_137 : Exa Z h20 fa "org/loomstyle/parse/ExpressionParser$RawText" := (P5.ext (own_ext K20))
          obtain ⟨cq136, kq136, q136a, q136b, q136c⟩ := isOf hZ e125 f_137
          obtain ⟨_, _, ⟨T136, L136, kk136, nn136⟩, -, X136, ⟨Lc136, hQ136, l136, y136, z136⟩, st136⟩ := X125.virtualBack hx (y := (⟨"org/loomstyle/parse/ExpressionParser$RawText", "endsAt", "(I)Z"⟩ : MethodName)) (z := (⟨"org/loomstyle/parse/ExpressionParser$RawText", "endsAt", "(I)Z"⟩ : MethodName)) hown (mvT hZ (hw _ (List.mem_of_getElem? (i := 4) rfl))) (mvT hZ (hw _ (List.mem_of_getElem? (i := 5) rfl))) (notFace_of_selects (args := #[]) (mvT hZ (hw _ (List.mem_of_getElem? (i := 7) rfl)))) (mvT hZ (hw _ (List.mem_of_getElem? (i := 7) rfl))) (mvT hZ (hw _ (List.mem_of_getElem? (i := 6) rfl))) (by decide) (backOf (W := 0) (rm1 l Z a0 hw [] fa p1 (1 : Int32) (0 : Int32) h20 n0 Z20 f_134 f_135) hZ (hw _ (List.mem_of_getElem? (i := 8) rfl)) (hw _ (List.mem_of_getElem? (i := 2) rfl)) (by decide) (by decide)) q136a q136c (g := (mkF m 189 #[.val (.int p0), .val (.int p1), .val (.int p2), .val (.int (p0 &&& (3 : Int32))), .val (.ref b12), .val (.int p1), .val (.ref fa), .val (.int (0 : Int32))] [(.int p1), (.ref fa)])) rfl (by rw [hml]; rfl) (Steps.refl _) (argsL := [(.int p1)]) (rest := []) (lenOf pd_0 rfl) rfl (by show 2 * 0 + _ ≤ _; exact Nat.le_of_eq rfl) (hb hby at_189) (fun _ _ => ⟨rfl, e125, (by decide : 1 + 0 ≤ _), (by decide : 8 + 0 ≤ _)⟩)
          dsimp only [Pt.U, Pt.locs, Pt.cells, Pt.slots] at X136 l136 y136 z136 st136 hQ136
          subst l136 y136 z136
          obtain ⟨N136q, rfl, hq136⟩ := hQ136
          have N136 := Fr.app N20 N136q
          refine own_go (fun t k => st136.trans k) ?_
          show own_Gl _ _ _ _ (T136.setTop (mkF m 192 #[.val (.int p0), .val (.int p1), .val (.int p2), .val (.int (p0 &&& (3 : Int32))), .val (.ref b12), .val (.int p1), .val (.ref fa), .val (.int (0 : Int32))] [(.int (f1 p1 (1 : Int32) (0 : Int32)))]))
          refine own_go (fun t k => XS.iload X136.here hx rfl (hb hby at_192) rfl k) ?_
          show own_Gl _ _ _ _ (T136.setTop (mkF m 194 #[.val (.int p0), .val (.int p1), .val (.int p2), .val (.int (p0 &&& (3 : Int32))), .val (.ref b12), .val (.int p1), .val (.ref fa), .val (.int (0 : Int32))] [(.int (0 : Int32)), (.int (f1 p1 (1 : Int32) (0 : Int32)))]))
          by_cases hc194_138 : (f1 p1 (1 : Int32) (0 : Int32)) = (0 : Int32)
          · refine own_go (fun t k => XS.icmpNo X136.here hx rfl (hb hby at_194) rfl (teq hc194_138).2 k) ?_
            show own_Gl _ _ _ _ (T136.setTop (mkF m 197 #[.val (.int p0), .val (.int p1), .val (.int p2), .val (.int (p0 &&& (3 : Int32))), .val (.ref b12), .val (.int p1), .val (.ref fa), .val (.int (0 : Int32))] []))
            refine own_go (fun t k => XS.iconst X136.here hx rfl (hb hby at_197) k) ?_
            show own_Gl _ _ _ _ (T136.setTop (mkF m 198 #[.val (.int p0), .val (.int p1), .val (.int p2), .val (.int (p0 &&& (3 : Int32))), .val (.ref b12), .val (.int p1), .val (.ref fa), .val (.int (0 : Int32))] [(.int (1 : Int32))]))
            refine own_go (fun t k => XS.goto X136.here hx rfl (pc0 := 198) (pc' := 202) rfl (hb hby at_198) (by decide) (by decide) k) ?_
            show own_Gl _ _ _ _ (T136.setTop (mkF m 202 #[.val (.int p0), .val (.int p1), .val (.int p2), .val (.int (p0 &&& (3 : Int32))), .val (.ref b12), .val (.int p1), .val (.ref fa), .val (.int (0 : Int32))] [(.int (1 : Int32))]))
            obtain ⟨fs, hr, hrun, hended, hW, hsame⟩ := X136.leave (v := some (.int (1 : Int32))) (fun h => by rw [Bd.returns] at h; cases h)
            refine own_fin (retN X136 hx (t := .boolean) Bd.returns (by simp) (hb hby at_202) hr) hrun hended ⟨_, _, rfl, ?_, ⟨_, rfl⟩, hW, hsame.mono (by decide) (by decide)⟩
            show Q0 Z p0 p1 p2 cp fa su sa h0 n0 _ T136.heap _
            rw [hq136]
            exact ⟨N136, by rw [f0, if_neg hc55_21, if_neg hc72_104, if_pos hc85_124, if_neg hc175_128, if_pos hc194_138]⟩
          · refine own_go (fun t k => XS.icmpYes X136.here hx rfl (pc0 := 194) (pc' := 201) rfl (hb hby at_194) rfl (feq hc194_138).2 (by decide) (by decide) k) ?_
            show own_Gl _ _ _ _ (T136.setTop (mkF m 201 #[.val (.int p0), .val (.int p1), .val (.int p2), .val (.int (p0 &&& (3 : Int32))), .val (.ref b12), .val (.int p1), .val (.ref fa), .val (.int (0 : Int32))] []))
            refine own_go (fun t k => XS.iconst X136.here hx rfl (hb hby at_201) k) ?_
            show own_Gl _ _ _ _ (T136.setTop (mkF m 202 #[.val (.int p0), .val (.int p1), .val (.int p2), .val (.int (p0 &&& (3 : Int32))), .val (.ref b12), .val (.int p1), .val (.ref fa), .val (.int (0 : Int32))] [(.int (0 : Int32))]))
            obtain ⟨fs, hr, hrun, hended, hW, hsame⟩ := X136.leave (v := some (.int (0 : Int32))) (fun h => by rw [Bd.returns] at h; cases h)
            refine own_fin (retN X136 hx (t := .boolean) Bd.returns (by simp) (hb hby at_202) hr) hrun hended ⟨_, _, rfl, ?_, ⟨_, rfl⟩, hW, hsame.mono (by decide) (by decide)⟩
            show Q0 Z p0 p1 p2 cp fa su sa h0 n0 _ T136.heap _
            rw [hq136]
            exact ⟨N136, by rw [f0, if_neg hc55_21, if_neg hc72_104, if_pos hc85_124, if_neg hc175_128, if_neg hc194_138]⟩
      · refine own_go (fun t k => XS.icmpYes X20.here hx rfl (pc0 := 85) (pc' := 96) rfl (hb hby at_85) rfl (feq hc85_124).2 (by decide) (by decide) k) ?_
        show own_Gl _ _ _ _ (T20.setTop (mkF m 96 #[.val (.int p0), .val (.int p1), .val (.int p2), .val (.int (p0 &&& (3 : Int32))), .val (.ref b12), .val (.int p1), .unset, .unset] []))
        refine own_go (fun t k => XS.iloadN X20.here hx rfl (hb hby at_96) rfl k) ?_
        show own_Gl _ _ _ _ (T20.setTop (mkF m 97 #[.val (.int p0), .val (.int p1), .val (.int p2), .val (.int (p0 &&& (3 : Int32))), .val (.ref b12), .val (.int p1), .unset, .unset] [(.int (p0 &&& (3 : Int32)))]))
        refine own_go (fun t k => XS.iconst X20.here hx rfl (hb hby at_97) k) ?_
        show own_Gl _ _ _ _ (T20.setTop (mkF m 98 #[.val (.int p0), .val (.int p1), .val (.int p2), .val (.int (p0 &&& (3 : Int32))), .val (.ref b12), .val (.int p1), .unset, .unset] [(.int (2 : Int32)), (.int (p0 &&& (3 : Int32)))]))
        by_cases hc98_139 : (p0 &&& (3 : Int32)) = (2 : Int32)
        · refine own_go (fun t k => XS.icmpNo X20.here hx rfl (hb hby at_98) rfl (teq hc98_139).2 k) ?_
          show own_Gl _ _ _ _ (T20.setTop (mkF m 101 #[.val (.int p0), .val (.int p1), .val (.int p2), .val (.int (p0 &&& (3 : Int32))), .val (.ref b12), .val (.int p1), .unset, .unset] []))
          have f_141 : Sta Z h20 "org/loomstyle/parse/ExpressionParser$RawText" "SUPPORTS" "Lorg/loomstyle/parse/ExpressionParser$RawText;" (.ref su) := (P8.ext (own_ext K20))
          obtain ⟨T140, X140, e140, st140⟩ := getS2 X20 hx hZ hown (host := "") (Or.inl (hw _ (List.mem_of_getElem? (i := 17) rfl))) Via.refl e20 f_141 (g := (mkF m 101 #[.val (.int p0), .val (.int p1), .val (.int p2), .val (.int (p0 &&& (3 : Int32))), .val (.ref b12), .val (.int p1), .unset, .unset] [])) rfl (hb hby at_101)
          refine own_go (fun t k => st140 _ k) ?_
          show own_Gl _ _ _ _ (T140.setTop (mkF m 104 #[.val (.int p0), .val (.int p1), .val (.int p2), .val (.int (p0 &&& (3 : Int32))), .val (.ref b12), .val (.int p1), .unset, .unset] [(.ref su)]))
          refine own_go (fun t k => XS.astore X140.here hx rfl (hb hby at_104) rfl rfl (l' := #[.val (.int p0), .val (.int p1), .val (.int p2), .val (.int (p0 &&& (3 : Int32))), .val (.ref b12), .val (.int p1), .val (.ref su), .unset]) rfl k) ?_
          show own_Gl _ _ _ _ (T140.setTop (mkF m 106 #[.val (.int p0), .val (.int p1), .val (.int p2), .val (.int (p0 &&& (3 : Int32))), .val (.ref b12), .val (.int p1), .val (.ref su), .unset] []))
          refine own_go (fun t k => XS.goto X140.here hx rfl (pc0 := 106) (pc' := 114) rfl (hb hby at_106) (by decide) (by decide) k) ?_
          show own_Gl _ _ _ _ (T140.setTop (mkF m 114 #[.val (.int p0), .val (.int p1), .val (.int p2), .val (.int (p0 &&& (3 : Int32))), .val (.ref b12), .val (.int p1), .val (.ref su), .unset] []))
          refine own_go (fun t k => XS.iloadN X140.here hx rfl (hb hby at_114) rfl k) ?_
          show own_Gl _ _ _ _ (T140.setTop (mkF m 115 #[.val (.int p0), .val (.int p1), .val (.int p2), .val (.int (p0 &&& (3 : Int32))), .val (.ref b12), .val (.int p1), .val (.ref su), .unset] [(.int (p0 &&& (3 : Int32)))]))
          refine own_go (fun t k => XS.ifYes X140.here hx rfl (pc0 := 115) (pc' := 142) rfl (hb hby at_115) rfl ((if0 _ _).trans (feq hc72_104).2) (by decide) (by decide) k) ?_
          show own_Gl _ _ _ _ (T140.setTop (mkF m 142 #[.val (.int p0), .val (.int p1), .val (.int p2), .val (.int (p0 &&& (3 : Int32))), .val (.ref b12), .val (.int p1), .val (.ref su), .unset] []))
          refine own_go (fun t k => XS.iloadN X140.here hx rfl (hb hby at_142) rfl k) ?_
          show own_Gl _ _ _ _ (T140.setTop (mkF m 143 #[.val (.int p0), .val (.int p1), .val (.int p2), .val (.int (p0 &&& (3 : Int32))), .val (.ref b12), .val (.int p1), .val (.ref su), .unset] [(.int (p0 &&& (3 : Int32)))]))
          refine own_go (fun t k => XS.iconst X140.here hx rfl (hb hby at_143) k) ?_
          show own_Gl _ _ _ _ (T140.setTop (mkF m 144 #[.val (.int p0), .val (.int p1), .val (.int p2), .val (.int (p0 &&& (3 : Int32))), .val (.ref b12), .val (.int p1), .val (.ref su), .unset] [(.int (3 : Int32)), (.int (p0 &&& (3 : Int32)))]))
          have hd142 : ¬ ((p0 &&& (3 : Int32)) = (3 : Int32)) := by rw [hc98_139]; decide
          refine own_go (fun t k => XS.icmpYes X140.here hx rfl (pc0 := 144) (pc' := 171) rfl (hb hby at_144) rfl (feq hd142).2 (by decide) (by decide) k) ?_
          show own_Gl _ _ _ _ (T140.setTop (mkF m 171 #[.val (.int p0), .val (.int p1), .val (.int p2), .val (.int (p0 &&& (3 : Int32))), .val (.ref b12), .val (.int p1), .val (.ref su), .unset] []))
          refine own_go (fun t k => XS.iload X140.here hx rfl (hb hby at_171) rfl k) ?_
          show own_Gl _ _ _ _ (T140.setTop (mkF m 173 #[.val (.int p0), .val (.int p1), .val (.int p2), .val (.int (p0 &&& (3 : Int32))), .val (.ref b12), .val (.int p1), .val (.ref su), .unset] [(.int p1)]))
          refine own_go (fun t k => XS.bipush X140.here hx rfl (hb hby at_173) k) ?_
          show own_Gl _ _ _ _ (T140.setTop (mkF m 175 #[.val (.int p0), .val (.int p1), .val (.int p2), .val (.int (p0 &&& (3 : Int32))), .val (.ref b12), .val (.int p1), .val (.ref su), .unset] [(.int (41 : Int32)), (.int p1)]))
          by_cases hc175_143 : p1 = (41 : Int32)
          · refine own_go (fun t k => XS.icmpNo X140.here hx rfl (hb hby at_175) rfl (teq hc175_143).2 k) ?_
            show own_Gl _ _ _ _ (T140.setTop (mkF m 178 #[.val (.int p0), .val (.int p1), .val (.int p2), .val (.int (p0 &&& (3 : Int32))), .val (.ref b12), .val (.int p1), .val (.ref su), .unset] []))
            refine own_go (fun t k => XS.iconst X140.here hx rfl (hb hby at_178) k) ?_
            show own_Gl _ _ _ _ (T140.setTop (mkF m 179 #[.val (.int p0), .val (.int p1), .val (.int p2), .val (.int (p0 &&& (3 : Int32))), .val (.ref b12), .val (.int p1), .val (.ref su), .unset] [(.int (1 : Int32))]))
            refine own_go (fun t k => XS.goto X140.here hx rfl (pc0 := 179) (pc' := 183) rfl (hb hby at_179) (by decide) (by decide) k) ?_
            show own_Gl _ _ _ _ (T140.setTop (mkF m 183 #[.val (.int p0), .val (.int p1), .val (.int p2), .val (.int (p0 &&& (3 : Int32))), .val (.ref b12), .val (.int p1), .val (.ref su), .unset] [(.int (1 : Int32))]))
            refine own_go (fun t k => XS.istore X140.here hx rfl (hb hby at_183) rfl (l' := #[.val (.int p0), .val (.int p1), .val (.int p2), .val (.int (p0 &&& (3 : Int32))), .val (.ref b12), .val (.int p1), .val (.ref su), .val (.int (1 : Int32))]) rfl k) ?_
            show own_Gl _ _ _ _ (T140.setTop (mkF m 185 #[.val (.int p0), .val (.int p1), .val (.int p2), .val (.int (p0 &&& (3 : Int32))), .val (.ref b12), .val (.int p1), .val (.ref su), .val (.int (1 : Int32))] []))
            refine own_go (fun t k => XS.aload X140.here hx rfl (hb hby at_185) rfl rfl k) ?_
            show own_Gl _ _ _ _ (T140.setTop (mkF m 187 #[.val (.int p0), .val (.int p1), .val (.int p2), .val (.int (p0 &&& (3 : Int32))), .val (.ref b12), .val (.int p1), .val (.ref su), .val (.int (1 : Int32))] [(.ref su)]))
            refine own_go (fun t k => XS.iload X140.here hx rfl (hb hby at_187) rfl k) ?_
            show own_Gl _ _ _ _ (T140.setTop (mkF m 189 #[.val (.int p0), .val (.int p1), .val (.int p2), .val (.int (p0 &&& (3 : Int32))), .val (.ref b12), .val (.int p1), .val (.ref su), .val (.int (1 : Int32))] [(.int p1), (.ref su)]))
            have f_144 : Fld Z h20 su "org/loomstyle/parse/ExpressionParser$RawText" "endsAtParenthesis" "Z" (.int (1 : Int32)) := (P10.ext (own_ext K20))
            have f_145 : Fld Z h20 su "org/loomstyle/parse/ExpressionParser$RawText" "endsAtColon" "Z" (.int (0 : Int32)) := (P11.ext (own_ext K20))
            have f_147 : Exa Z h20 su "org/loomstyle/parse/ExpressionParser$RawText" := (P9.ext (own_ext K20))
            obtain ⟨cq146, kq146, q146a, q146b, q146c⟩ := isOf hZ e140 f_147
            obtain ⟨_, _, ⟨T146, L146, kk146, nn146⟩, -, X146, ⟨Lc146, hQ146, l146, y146, z146⟩, st146⟩ := X140.virtualBack hx (y := (⟨"org/loomstyle/parse/ExpressionParser$RawText", "endsAt", "(I)Z"⟩ : MethodName)) (z := (⟨"org/loomstyle/parse/ExpressionParser$RawText", "endsAt", "(I)Z"⟩ : MethodName)) hown (mvT hZ (hw _ (List.mem_of_getElem? (i := 4) rfl))) (mvT hZ (hw _ (List.mem_of_getElem? (i := 5) rfl))) (notFace_of_selects (args := #[]) (mvT hZ (hw _ (List.mem_of_getElem? (i := 7) rfl)))) (mvT hZ (hw _ (List.mem_of_getElem? (i := 7) rfl))) (mvT hZ (hw _ (List.mem_of_getElem? (i := 6) rfl))) (by decide) (backOf (W := 0) (rm1 l Z a0 hw [] su p1 (1 : Int32) (0 : Int32) h20 n0 Z20 f_144 f_145) hZ (hw _ (List.mem_of_getElem? (i := 8) rfl)) (hw _ (List.mem_of_getElem? (i := 2) rfl)) (by decide) (by decide)) q146a q146c (g := (mkF m 189 #[.val (.int p0), .val (.int p1), .val (.int p2), .val (.int (p0 &&& (3 : Int32))), .val (.ref b12), .val (.int p1), .val (.ref su), .val (.int (1 : Int32))] [(.int p1), (.ref su)])) rfl (by rw [hml]; rfl) (Steps.refl _) (argsL := [(.int p1)]) (rest := []) (lenOf pd_0 rfl) rfl (by show 2 * 0 + _ ≤ _; exact Nat.le_of_eq rfl) (hb hby at_189) (fun _ _ => ⟨rfl, e140, (by decide : 1 + 0 ≤ _), (by decide : 8 + 0 ≤ _)⟩)
            dsimp only [Pt.U, Pt.locs, Pt.cells, Pt.slots] at X146 l146 y146 z146 st146 hQ146
            subst l146 y146 z146
            obtain ⟨N146q, rfl, hq146⟩ := hQ146
            have N146 := Fr.app N20 N146q
            refine own_go (fun t k => st146.trans k) ?_
            show own_Gl _ _ _ _ (T146.setTop (mkF m 192 #[.val (.int p0), .val (.int p1), .val (.int p2), .val (.int (p0 &&& (3 : Int32))), .val (.ref b12), .val (.int p1), .val (.ref su), .val (.int (1 : Int32))] [(.int (f1 p1 (1 : Int32) (0 : Int32)))]))
            refine own_go (fun t k => XS.iload X146.here hx rfl (hb hby at_192) rfl k) ?_
            show own_Gl _ _ _ _ (T146.setTop (mkF m 194 #[.val (.int p0), .val (.int p1), .val (.int p2), .val (.int (p0 &&& (3 : Int32))), .val (.ref b12), .val (.int p1), .val (.ref su), .val (.int (1 : Int32))] [(.int (1 : Int32)), (.int (f1 p1 (1 : Int32) (0 : Int32)))]))
            by_cases hc194_148 : (f1 p1 (1 : Int32) (0 : Int32)) = (1 : Int32)
            · refine own_go (fun t k => XS.icmpNo X146.here hx rfl (hb hby at_194) rfl (teq hc194_148).2 k) ?_
              show own_Gl _ _ _ _ (T146.setTop (mkF m 197 #[.val (.int p0), .val (.int p1), .val (.int p2), .val (.int (p0 &&& (3 : Int32))), .val (.ref b12), .val (.int p1), .val (.ref su), .val (.int (1 : Int32))] []))
              refine own_go (fun t k => XS.iconst X146.here hx rfl (hb hby at_197) k) ?_
              show own_Gl _ _ _ _ (T146.setTop (mkF m 198 #[.val (.int p0), .val (.int p1), .val (.int p2), .val (.int (p0 &&& (3 : Int32))), .val (.ref b12), .val (.int p1), .val (.ref su), .val (.int (1 : Int32))] [(.int (1 : Int32))]))
              refine own_go (fun t k => XS.goto X146.here hx rfl (pc0 := 198) (pc' := 202) rfl (hb hby at_198) (by decide) (by decide) k) ?_
              show own_Gl _ _ _ _ (T146.setTop (mkF m 202 #[.val (.int p0), .val (.int p1), .val (.int p2), .val (.int (p0 &&& (3 : Int32))), .val (.ref b12), .val (.int p1), .val (.ref su), .val (.int (1 : Int32))] [(.int (1 : Int32))]))
              obtain ⟨fs, hr, hrun, hended, hW, hsame⟩ := X146.leave (v := some (.int (1 : Int32))) (fun h => by rw [Bd.returns] at h; cases h)
              refine own_fin (retN X146 hx (t := .boolean) Bd.returns (by simp) (hb hby at_202) hr) hrun hended ⟨_, _, rfl, ?_, ⟨_, rfl⟩, hW, hsame.mono (by decide) (by decide)⟩
              show Q0 Z p0 p1 p2 cp fa su sa h0 n0 _ T146.heap _
              rw [hq146]
              exact ⟨N146, by rw [f0, if_neg hc55_21, if_neg hc72_104, if_neg hc85_124, if_pos hc98_139, if_pos hc175_143, if_pos hc194_148]⟩
            · refine own_go (fun t k => XS.icmpYes X146.here hx rfl (pc0 := 194) (pc' := 201) rfl (hb hby at_194) rfl (feq hc194_148).2 (by decide) (by decide) k) ?_
              show own_Gl _ _ _ _ (T146.setTop (mkF m 201 #[.val (.int p0), .val (.int p1), .val (.int p2), .val (.int (p0 &&& (3 : Int32))), .val (.ref b12), .val (.int p1), .val (.ref su), .val (.int (1 : Int32))] []))
              refine own_go (fun t k => XS.iconst X146.here hx rfl (hb hby at_201) k) ?_
              show own_Gl _ _ _ _ (T146.setTop (mkF m 202 #[.val (.int p0), .val (.int p1), .val (.int p2), .val (.int (p0 &&& (3 : Int32))), .val (.ref b12), .val (.int p1), .val (.ref su), .val (.int (1 : Int32))] [(.int (0 : Int32))]))
              obtain ⟨fs, hr, hrun, hended, hW, hsame⟩ := X146.leave (v := some (.int (0 : Int32))) (fun h => by rw [Bd.returns] at h; cases h)
              refine own_fin (retN X146 hx (t := .boolean) Bd.returns (by simp) (hb hby at_202) hr) hrun hended ⟨_, _, rfl, ?_, ⟨_, rfl⟩, hW, hsame.mono (by decide) (by decide)⟩
              show Q0 Z p0 p1 p2 cp fa su sa h0 n0 _ T146.heap _
              rw [hq146]
              exact ⟨N146, by rw [f0, if_neg hc55_21, if_neg hc72_104, if_neg hc85_124, if_pos hc98_139, if_pos hc175_143, if_neg hc194_148]⟩
          · refine own_go (fun t k => XS.icmpYes X140.here hx rfl (pc0 := 175) (pc' := 182) rfl (hb hby at_175) rfl (feq hc175_143).2 (by decide) (by decide) k) ?_
            show own_Gl _ _ _ _ (T140.setTop (mkF m 182 #[.val (.int p0), .val (.int p1), .val (.int p2), .val (.int (p0 &&& (3 : Int32))), .val (.ref b12), .val (.int p1), .val (.ref su), .unset] []))
            refine own_go (fun t k => XS.iconst X140.here hx rfl (hb hby at_182) k) ?_
            show own_Gl _ _ _ _ (T140.setTop (mkF m 183 #[.val (.int p0), .val (.int p1), .val (.int p2), .val (.int (p0 &&& (3 : Int32))), .val (.ref b12), .val (.int p1), .val (.ref su), .unset] [(.int (0 : Int32))]))
            refine own_go (fun t k => XS.istore X140.here hx rfl (hb hby at_183) rfl (l' := #[.val (.int p0), .val (.int p1), .val (.int p2), .val (.int (p0 &&& (3 : Int32))), .val (.ref b12), .val (.int p1), .val (.ref su), .val (.int (0 : Int32))]) rfl k) ?_
            show own_Gl _ _ _ _ (T140.setTop (mkF m 185 #[.val (.int p0), .val (.int p1), .val (.int p2), .val (.int (p0 &&& (3 : Int32))), .val (.ref b12), .val (.int p1), .val (.ref su), .val (.int (0 : Int32))] []))
            refine own_go (fun t k => XS.aload X140.here hx rfl (hb hby at_185) rfl rfl k) ?_
            show own_Gl _ _ _ _ (T140.setTop (mkF m 187 #[.val (.int p0), .val (.int p1), .val (.int p2), .val (.int (p0 &&& (3 : Int32))), .val (.ref b12), .val (.int p1), .val (.ref su), .val (.int (0 : Int32))] [(.ref su)]))
            refine own_go (fun t k => XS.iload X140.here hx rfl (hb hby at_187) rfl k) ?_
            show own_Gl _ _ _ _ (T140.setTop (mkF m 189 #[.val (.int p0), .val (.int p1), .val (.int p2), .val (.int (p0 &&& (3 : Int32))), .val (.ref b12), .val (.int p1), .val (.ref su), .val (.int (0 : Int32))] [(.int p1), (.ref su)]))
            have f_149 : Fld Z h20 su "org/loomstyle/parse/ExpressionParser$RawText" "endsAtParenthesis" "Z" (.int (1 : Int32)) := (P10.ext (own_ext K20))
            have f_150 : Fld Z h20 su "org/loomstyle/parse/ExpressionParser$RawText" "endsAtColon" "Z" (.int (0 : Int32)) := (P11.ext (own_ext K20))
            have f_152 : Exa Z h20 su "org/loomstyle/parse/ExpressionParser$RawText" := (P9.ext (own_ext K20))
            obtain ⟨cq151, kq151, q151a, q151b, q151c⟩ := isOf hZ e140 f_152
            obtain ⟨_, _, ⟨T151, L151, kk151, nn151⟩, -, X151, ⟨Lc151, hQ151, l151, y151, z151⟩, st151⟩ := X140.virtualBack hx (y := (⟨"org/loomstyle/parse/ExpressionParser$RawText", "endsAt", "(I)Z"⟩ : MethodName)) (z := (⟨"org/loomstyle/parse/ExpressionParser$RawText", "endsAt", "(I)Z"⟩ : MethodName)) hown (mvT hZ (hw _ (List.mem_of_getElem? (i := 4) rfl))) (mvT hZ (hw _ (List.mem_of_getElem? (i := 5) rfl))) (notFace_of_selects (args := #[]) (mvT hZ (hw _ (List.mem_of_getElem? (i := 7) rfl)))) (mvT hZ (hw _ (List.mem_of_getElem? (i := 7) rfl))) (mvT hZ (hw _ (List.mem_of_getElem? (i := 6) rfl))) (by decide) (backOf (W := 0) (rm1 l Z a0 hw [] su p1 (1 : Int32) (0 : Int32) h20 n0 Z20 f_149 f_150) hZ (hw _ (List.mem_of_getElem? (i := 8) rfl)) (hw _ (List.mem_of_getElem? (i := 2) rfl)) (by decide) (by decide)) q151a q151c (g := (mkF m 189 #[.val (.int p0), .val (.int p1), .val (.int p2), .val (.int (p0 &&& (3 : Int32))), .val (.ref b12), .val (.int p1), .val (.ref su), .val (.int (0 : Int32))] [(.int p1), (.ref su)])) rfl (by rw [hml]; rfl) (Steps.refl _) (argsL := [(.int p1)]) (rest := []) (lenOf pd_0 rfl) rfl (by show 2 * 0 + _ ≤ _; exact Nat.le_of_eq rfl) (hb hby at_189) (fun _ _ => ⟨rfl, e140, (by decide : 1 + 0 ≤ _), (by decide : 8 + 0 ≤ _)⟩)
            dsimp only [Pt.U, Pt.locs, Pt.cells, Pt.slots] at X151 l151 y151 z151 st151 hQ151
            subst l151 y151 z151
            obtain ⟨N151q, rfl, hq151⟩ := hQ151
            have N151 := Fr.app N20 N151q
            refine own_go (fun t k => st151.trans k) ?_
            show own_Gl _ _ _ _ (T151.setTop (mkF m 192 #[.val (.int p0), .val (.int p1), .val (.int p2), .val (.int (p0 &&& (3 : Int32))), .val (.ref b12), .val (.int p1), .val (.ref su), .val (.int (0 : Int32))] [(.int (f1 p1 (1 : Int32) (0 : Int32)))]))
            refine own_go (fun t k => XS.iload X151.here hx rfl (hb hby at_192) rfl k) ?_
            show own_Gl _ _ _ _ (T151.setTop (mkF m 194 #[.val (.int p0), .val (.int p1), .val (.int p2), .val (.int (p0 &&& (3 : Int32))), .val (.ref b12), .val (.int p1), .val (.ref su), .val (.int (0 : Int32))] [(.int (0 : Int32)), (.int (f1 p1 (1 : Int32) (0 : Int32)))]))
            by_cases hc194_153 : (f1 p1 (1 : Int32) (0 : Int32)) = (0 : Int32)
            · refine own_go (fun t k => XS.icmpNo X151.here hx rfl (hb hby at_194) rfl (teq hc194_153).2 k) ?_
              show own_Gl _ _ _ _ (T151.setTop (mkF m 197 #[.val (.int p0), .val (.int p1), .val (.int p2), .val (.int (p0 &&& (3 : Int32))), .val (.ref b12), .val (.int p1), .val (.ref su), .val (.int (0 : Int32))] []))
              refine own_go (fun t k => XS.iconst X151.here hx rfl (hb hby at_197) k) ?_
              show own_Gl _ _ _ _ (T151.setTop (mkF m 198 #[.val (.int p0), .val (.int p1), .val (.int p2), .val (.int (p0 &&& (3 : Int32))), .val (.ref b12), .val (.int p1), .val (.ref su), .val (.int (0 : Int32))] [(.int (1 : Int32))]))
              refine own_go (fun t k => XS.goto X151.here hx rfl (pc0 := 198) (pc' := 202) rfl (hb hby at_198) (by decide) (by decide) k) ?_
              show own_Gl _ _ _ _ (T151.setTop (mkF m 202 #[.val (.int p0), .val (.int p1), .val (.int p2), .val (.int (p0 &&& (3 : Int32))), .val (.ref b12), .val (.int p1), .val (.ref su), .val (.int (0 : Int32))] [(.int (1 : Int32))]))
              obtain ⟨fs, hr, hrun, hended, hW, hsame⟩ := X151.leave (v := some (.int (1 : Int32))) (fun h => by rw [Bd.returns] at h; cases h)
              refine own_fin (retN X151 hx (t := .boolean) Bd.returns (by simp) (hb hby at_202) hr) hrun hended ⟨_, _, rfl, ?_, ⟨_, rfl⟩, hW, hsame.mono (by decide) (by decide)⟩
              show Q0 Z p0 p1 p2 cp fa su sa h0 n0 _ T151.heap _
              rw [hq151]
              exact ⟨N151, by rw [f0, if_neg hc55_21, if_neg hc72_104, if_neg hc85_124, if_pos hc98_139, if_neg hc175_143, if_pos hc194_153]⟩
            · refine own_go (fun t k => XS.icmpYes X151.here hx rfl (pc0 := 194) (pc' := 201) rfl (hb hby at_194) rfl (feq hc194_153).2 (by decide) (by decide) k) ?_
              show own_Gl _ _ _ _ (T151.setTop (mkF m 201 #[.val (.int p0), .val (.int p1), .val (.int p2), .val (.int (p0 &&& (3 : Int32))), .val (.ref b12), .val (.int p1), .val (.ref su), .val (.int (0 : Int32))] []))
              refine own_go (fun t k => XS.iconst X151.here hx rfl (hb hby at_201) k) ?_
              show own_Gl _ _ _ _ (T151.setTop (mkF m 202 #[.val (.int p0), .val (.int p1), .val (.int p2), .val (.int (p0 &&& (3 : Int32))), .val (.ref b12), .val (.int p1), .val (.ref su), .val (.int (0 : Int32))] [(.int (0 : Int32))]))
              obtain ⟨fs, hr, hrun, hended, hW, hsame⟩ := X151.leave (v := some (.int (0 : Int32))) (fun h => by rw [Bd.returns] at h; cases h)
              refine own_fin (retN X151 hx (t := .boolean) Bd.returns (by simp) (hb hby at_202) hr) hrun hended ⟨_, _, rfl, ?_, ⟨_, rfl⟩, hW, hsame.mono (by decide) (by decide)⟩
              show Q0 Z p0 p1 p2 cp fa su sa h0 n0 _ T151.heap _
              rw [hq151]
              exact ⟨N151, by rw [f0, if_neg hc55_21, if_neg hc72_104, if_neg hc85_124, if_pos hc98_139, if_neg hc175_143, if_neg hc194_153]⟩
        · refine own_go (fun t k => XS.icmpYes X20.here hx rfl (pc0 := 98) (pc' := 109) rfl (hb hby at_98) rfl (feq hc98_139).2 (by decide) (by decide) k) ?_
          show own_Gl _ _ _ _ (T20.setTop (mkF m 109 #[.val (.int p0), .val (.int p1), .val (.int p2), .val (.int (p0 &&& (3 : Int32))), .val (.ref b12), .val (.int p1), .unset, .unset] []))
          have f_155 : Sta Z h20 "org/loomstyle/parse/ExpressionParser$RawText" "SUPPORTS_AFTER_NAME" "Lorg/loomstyle/parse/ExpressionParser$RawText;" (.ref sa) := (P12.ext (own_ext K20))
          obtain ⟨T154, X154, e154, st154⟩ := getS2 X20 hx hZ hown (host := "") (Or.inl (hw _ (List.mem_of_getElem? (i := 15) rfl))) Via.refl e20 f_155 (g := (mkF m 109 #[.val (.int p0), .val (.int p1), .val (.int p2), .val (.int (p0 &&& (3 : Int32))), .val (.ref b12), .val (.int p1), .unset, .unset] [])) rfl (hb hby at_109)
          refine own_go (fun t k => st154 _ k) ?_
          show own_Gl _ _ _ _ (T154.setTop (mkF m 112 #[.val (.int p0), .val (.int p1), .val (.int p2), .val (.int (p0 &&& (3 : Int32))), .val (.ref b12), .val (.int p1), .unset, .unset] [(.ref sa)]))
          refine own_go (fun t k => XS.astore X154.here hx rfl (hb hby at_112) rfl rfl (l' := #[.val (.int p0), .val (.int p1), .val (.int p2), .val (.int (p0 &&& (3 : Int32))), .val (.ref b12), .val (.int p1), .val (.ref sa), .unset]) rfl k) ?_
          show own_Gl _ _ _ _ (T154.setTop (mkF m 114 #[.val (.int p0), .val (.int p1), .val (.int p2), .val (.int (p0 &&& (3 : Int32))), .val (.ref b12), .val (.int p1), .val (.ref sa), .unset] []))
          refine own_go (fun t k => XS.iloadN X154.here hx rfl (hb hby at_114) rfl k) ?_
          show own_Gl _ _ _ _ (T154.setTop (mkF m 115 #[.val (.int p0), .val (.int p1), .val (.int p2), .val (.int (p0 &&& (3 : Int32))), .val (.ref b12), .val (.int p1), .val (.ref sa), .unset] [(.int (p0 &&& (3 : Int32)))]))
          refine own_go (fun t k => XS.ifYes X154.here hx rfl (pc0 := 115) (pc' := 142) rfl (hb hby at_115) rfl ((if0 _ _).trans (feq hc72_104).2) (by decide) (by decide) k) ?_
          show own_Gl _ _ _ _ (T154.setTop (mkF m 142 #[.val (.int p0), .val (.int p1), .val (.int p2), .val (.int (p0 &&& (3 : Int32))), .val (.ref b12), .val (.int p1), .val (.ref sa), .unset] []))
          refine own_go (fun t k => XS.iloadN X154.here hx rfl (hb hby at_142) rfl k) ?_
          show own_Gl _ _ _ _ (T154.setTop (mkF m 143 #[.val (.int p0), .val (.int p1), .val (.int p2), .val (.int (p0 &&& (3 : Int32))), .val (.ref b12), .val (.int p1), .val (.ref sa), .unset] [(.int (p0 &&& (3 : Int32)))]))
          refine own_go (fun t k => XS.iconst X154.here hx rfl (hb hby at_143) k) ?_
          show own_Gl _ _ _ _ (T154.setTop (mkF m 144 #[.val (.int p0), .val (.int p1), .val (.int p2), .val (.int (p0 &&& (3 : Int32))), .val (.ref b12), .val (.int p1), .val (.ref sa), .unset] [(.int (3 : Int32)), (.int (p0 &&& (3 : Int32)))]))
          by_cases hc144_156 : (p0 &&& (3 : Int32)) = (3 : Int32)
          · refine own_go (fun t k => XS.icmpNo X154.here hx rfl (hb hby at_144) rfl (teq hc144_156).2 k) ?_
            show own_Gl _ _ _ _ (T154.setTop (mkF m 147 #[.val (.int p0), .val (.int p1), .val (.int p2), .val (.int (p0 &&& (3 : Int32))), .val (.ref b12), .val (.int p1), .val (.ref sa), .unset] []))
            refine own_go (fun t k => XS.iload X154.here hx rfl (hb hby at_147) rfl k) ?_
            show own_Gl _ _ _ _ (T154.setTop (mkF m 149 #[.val (.int p0), .val (.int p1), .val (.int p2), .val (.int (p0 &&& (3 : Int32))), .val (.ref b12), .val (.int p1), .val (.ref sa), .unset] [(.int p1)]))
            refine own_go (fun t k => XS.bipush X154.here hx rfl (hb hby at_149) k) ?_
            show own_Gl _ _ _ _ (T154.setTop (mkF m 151 #[.val (.int p0), .val (.int p1), .val (.int p2), .val (.int (p0 &&& (3 : Int32))), .val (.ref b12), .val (.int p1), .val (.ref sa), .unset] [(.int (41 : Int32)), (.int p1)]))
            by_cases hc151_157 : p1 = (41 : Int32)
            · refine own_go (fun t k => XS.icmpYes X154.here hx rfl (pc0 := 151) (pc' := 161) rfl (hb hby at_151) rfl (teq hc151_157).1 (by decide) (by decide) k) ?_
              show own_Gl _ _ _ _ (T154.setTop (mkF m 161 #[.val (.int p0), .val (.int p1), .val (.int p2), .val (.int (p0 &&& (3 : Int32))), .val (.ref b12), .val (.int p1), .val (.ref sa), .unset] []))
              refine own_go (fun t k => XS.iconst X154.here hx rfl (hb hby at_161) k) ?_
              show own_Gl _ _ _ _ (T154.setTop (mkF m 162 #[.val (.int p0), .val (.int p1), .val (.int p2), .val (.int (p0 &&& (3 : Int32))), .val (.ref b12), .val (.int p1), .val (.ref sa), .unset] [(.int (1 : Int32))]))
              refine own_go (fun t k => XS.goto X154.here hx rfl (pc0 := 162) (pc' := 166) rfl (hb hby at_162) (by decide) (by decide) k) ?_
              show own_Gl _ _ _ _ (T154.setTop (mkF m 166 #[.val (.int p0), .val (.int p1), .val (.int p2), .val (.int (p0 &&& (3 : Int32))), .val (.ref b12), .val (.int p1), .val (.ref sa), .unset] [(.int (1 : Int32))]))
              refine own_go (fun t k => XS.istore X154.here hx rfl (hb hby at_166) rfl (l' := #[.val (.int p0), .val (.int p1), .val (.int p2), .val (.int (p0 &&& (3 : Int32))), .val (.ref b12), .val (.int p1), .val (.ref sa), .val (.int (1 : Int32))]) rfl k) ?_
              show own_Gl _ _ _ _ (T154.setTop (mkF m 168 #[.val (.int p0), .val (.int p1), .val (.int p2), .val (.int (p0 &&& (3 : Int32))), .val (.ref b12), .val (.int p1), .val (.ref sa), .val (.int (1 : Int32))] []))
              refine own_go (fun t k => XS.goto X154.here hx rfl (pc0 := 168) (pc' := 185) rfl (hb hby at_168) (by decide) (by decide) k) ?_
              show own_Gl _ _ _ _ (T154.setTop (mkF m 185 #[.val (.int p0), .val (.int p1), .val (.int p2), .val (.int (p0 &&& (3 : Int32))), .val (.ref b12), .val (.int p1), .val (.ref sa), .val (.int (1 : Int32))] []))
              refine own_go (fun t k => XS.aload X154.here hx rfl (hb hby at_185) rfl rfl k) ?_
              show own_Gl _ _ _ _ (T154.setTop (mkF m 187 #[.val (.int p0), .val (.int p1), .val (.int p2), .val (.int (p0 &&& (3 : Int32))), .val (.ref b12), .val (.int p1), .val (.ref sa), .val (.int (1 : Int32))] [(.ref sa)]))
              refine own_go (fun t k => XS.iload X154.here hx rfl (hb hby at_187) rfl k) ?_
              show own_Gl _ _ _ _ (T154.setTop (mkF m 189 #[.val (.int p0), .val (.int p1), .val (.int p2), .val (.int (p0 &&& (3 : Int32))), .val (.ref b12), .val (.int p1), .val (.ref sa), .val (.int (1 : Int32))] [(.int p1), (.ref sa)]))
              have f_158 : Fld Z h20 sa "org/loomstyle/parse/ExpressionParser$RawText" "endsAtParenthesis" "Z" (.int (1 : Int32)) := (P14.ext (own_ext K20))
              have f_159 : Fld Z h20 sa "org/loomstyle/parse/ExpressionParser$RawText" "endsAtColon" "Z" (.int (1 : Int32)) := (P15.ext (own_ext K20))
              have f_161 : Exa Z h20 sa "org/loomstyle/parse/ExpressionParser$RawText" := (P13.ext (own_ext K20))
              obtain ⟨cq160, kq160, q160a, q160b, q160c⟩ := isOf hZ e154 f_161
              obtain ⟨_, _, ⟨T160, L160, kk160, nn160⟩, -, X160, ⟨Lc160, hQ160, l160, y160, z160⟩, st160⟩ := X154.virtualBack hx (y := (⟨"org/loomstyle/parse/ExpressionParser$RawText", "endsAt", "(I)Z"⟩ : MethodName)) (z := (⟨"org/loomstyle/parse/ExpressionParser$RawText", "endsAt", "(I)Z"⟩ : MethodName)) hown (mvT hZ (hw _ (List.mem_of_getElem? (i := 4) rfl))) (mvT hZ (hw _ (List.mem_of_getElem? (i := 5) rfl))) (notFace_of_selects (args := #[]) (mvT hZ (hw _ (List.mem_of_getElem? (i := 7) rfl)))) (mvT hZ (hw _ (List.mem_of_getElem? (i := 7) rfl))) (mvT hZ (hw _ (List.mem_of_getElem? (i := 6) rfl))) (by decide) (backOf (W := 0) (rm1 l Z a0 hw [] sa p1 (1 : Int32) (1 : Int32) h20 n0 Z20 f_158 f_159) hZ (hw _ (List.mem_of_getElem? (i := 8) rfl)) (hw _ (List.mem_of_getElem? (i := 2) rfl)) (by decide) (by decide)) q160a q160c (g := (mkF m 189 #[.val (.int p0), .val (.int p1), .val (.int p2), .val (.int (p0 &&& (3 : Int32))), .val (.ref b12), .val (.int p1), .val (.ref sa), .val (.int (1 : Int32))] [(.int p1), (.ref sa)])) rfl (by rw [hml]; rfl) (Steps.refl _) (argsL := [(.int p1)]) (rest := []) (lenOf pd_0 rfl) rfl (by show 2 * 0 + _ ≤ _; exact Nat.le_of_eq rfl) (hb hby at_189) (fun _ _ => ⟨rfl, e154, (by decide : 1 + 0 ≤ _), (by decide : 8 + 0 ≤ _)⟩)
              dsimp only [Pt.U, Pt.locs, Pt.cells, Pt.slots] at X160 l160 y160 z160 st160 hQ160
              subst l160 y160 z160
              obtain ⟨N160q, rfl, hq160⟩ := hQ160
              have N160 := Fr.app N20 N160q
              refine own_go (fun t k => st160.trans k) ?_
              show own_Gl _ _ _ _ (T160.setTop (mkF m 192 #[.val (.int p0), .val (.int p1), .val (.int p2), .val (.int (p0 &&& (3 : Int32))), .val (.ref b12), .val (.int p1), .val (.ref sa), .val (.int (1 : Int32))] [(.int (f1 p1 (1 : Int32) (1 : Int32)))]))
              refine own_go (fun t k => XS.iload X160.here hx rfl (hb hby at_192) rfl k) ?_
              show own_Gl _ _ _ _ (T160.setTop (mkF m 194 #[.val (.int p0), .val (.int p1), .val (.int p2), .val (.int (p0 &&& (3 : Int32))), .val (.ref b12), .val (.int p1), .val (.ref sa), .val (.int (1 : Int32))] [(.int (1 : Int32)), (.int (f1 p1 (1 : Int32) (1 : Int32)))]))
              by_cases hc194_162 : (f1 p1 (1 : Int32) (1 : Int32)) = (1 : Int32)
              · refine own_go (fun t k => XS.icmpNo X160.here hx rfl (hb hby at_194) rfl (teq hc194_162).2 k) ?_
                show own_Gl _ _ _ _ (T160.setTop (mkF m 197 #[.val (.int p0), .val (.int p1), .val (.int p2), .val (.int (p0 &&& (3 : Int32))), .val (.ref b12), .val (.int p1), .val (.ref sa), .val (.int (1 : Int32))] []))
                refine own_go (fun t k => XS.iconst X160.here hx rfl (hb hby at_197) k) ?_
                show own_Gl _ _ _ _ (T160.setTop (mkF m 198 #[.val (.int p0), .val (.int p1), .val (.int p2), .val (.int (p0 &&& (3 : Int32))), .val (.ref b12), .val (.int p1), .val (.ref sa), .val (.int (1 : Int32))] [(.int (1 : Int32))]))
                refine own_go (fun t k => XS.goto X160.here hx rfl (pc0 := 198) (pc' := 202) rfl (hb hby at_198) (by decide) (by decide) k) ?_
                show own_Gl _ _ _ _ (T160.setTop (mkF m 202 #[.val (.int p0), .val (.int p1), .val (.int p2), .val (.int (p0 &&& (3 : Int32))), .val (.ref b12), .val (.int p1), .val (.ref sa), .val (.int (1 : Int32))] [(.int (1 : Int32))]))
                obtain ⟨fs, hr, hrun, hended, hW, hsame⟩ := X160.leave (v := some (.int (1 : Int32))) (fun h => by rw [Bd.returns] at h; cases h)
                refine own_fin (retN X160 hx (t := .boolean) Bd.returns (by simp) (hb hby at_202) hr) hrun hended ⟨_, _, rfl, ?_, ⟨_, rfl⟩, hW, hsame.mono (by decide) (by decide)⟩
                show Q0 Z p0 p1 p2 cp fa su sa h0 n0 _ T160.heap _
                rw [hq160]
                exact ⟨N160, by rw [f0, if_neg hc55_21, if_neg hc72_104, if_neg hc85_124, if_neg hc98_139, if_pos hc144_156, if_pos hc151_157, if_pos hc194_162]⟩
              · refine own_go (fun t k => XS.icmpYes X160.here hx rfl (pc0 := 194) (pc' := 201) rfl (hb hby at_194) rfl (feq hc194_162).2 (by decide) (by decide) k) ?_
                show own_Gl _ _ _ _ (T160.setTop (mkF m 201 #[.val (.int p0), .val (.int p1), .val (.int p2), .val (.int (p0 &&& (3 : Int32))), .val (.ref b12), .val (.int p1), .val (.ref sa), .val (.int (1 : Int32))] []))
                refine own_go (fun t k => XS.iconst X160.here hx rfl (hb hby at_201) k) ?_
                show own_Gl _ _ _ _ (T160.setTop (mkF m 202 #[.val (.int p0), .val (.int p1), .val (.int p2), .val (.int (p0 &&& (3 : Int32))), .val (.ref b12), .val (.int p1), .val (.ref sa), .val (.int (1 : Int32))] [(.int (0 : Int32))]))
                obtain ⟨fs, hr, hrun, hended, hW, hsame⟩ := X160.leave (v := some (.int (0 : Int32))) (fun h => by rw [Bd.returns] at h; cases h)
                refine own_fin (retN X160 hx (t := .boolean) Bd.returns (by simp) (hb hby at_202) hr) hrun hended ⟨_, _, rfl, ?_, ⟨_, rfl⟩, hW, hsame.mono (by decide) (by decide)⟩
                show Q0 Z p0 p1 p2 cp fa su sa h0 n0 _ T160.heap _
                rw [hq160]
                exact ⟨N160, by rw [f0, if_neg hc55_21, if_neg hc72_104, if_neg hc85_124, if_neg hc98_139, if_pos hc144_156, if_pos hc151_157, if_neg hc194_162]⟩
            · refine own_go (fun t k => XS.icmpNo X154.here hx rfl (hb hby at_151) rfl (feq hc151_157).1 k) ?_
              show own_Gl _ _ _ _ (T154.setTop (mkF m 154 #[.val (.int p0), .val (.int p1), .val (.int p2), .val (.int (p0 &&& (3 : Int32))), .val (.ref b12), .val (.int p1), .val (.ref sa), .unset] []))
              refine own_go (fun t k => XS.iload X154.here hx rfl (hb hby at_154) rfl k) ?_
              show own_Gl _ _ _ _ (T154.setTop (mkF m 156 #[.val (.int p0), .val (.int p1), .val (.int p2), .val (.int (p0 &&& (3 : Int32))), .val (.ref b12), .val (.int p1), .val (.ref sa), .unset] [(.int p1)]))
              refine own_go (fun t k => XS.bipush X154.here hx rfl (hb hby at_156) k) ?_
              show own_Gl _ _ _ _ (T154.setTop (mkF m 158 #[.val (.int p0), .val (.int p1), .val (.int p2), .val (.int (p0 &&& (3 : Int32))), .val (.ref b12), .val (.int p1), .val (.ref sa), .unset] [(.int (58 : Int32)), (.int p1)]))
              by_cases hc158_163 : p1 = (58 : Int32)
              · refine own_go (fun t k => XS.icmpNo X154.here hx rfl (hb hby at_158) rfl (teq hc158_163).2 k) ?_
                show own_Gl _ _ _ _ (T154.setTop (mkF m 161 #[.val (.int p0), .val (.int p1), .val (.int p2), .val (.int (p0 &&& (3 : Int32))), .val (.ref b12), .val (.int p1), .val (.ref sa), .unset] []))
                refine own_go (fun t k => XS.iconst X154.here hx rfl (hb hby at_161) k) ?_
                show own_Gl _ _ _ _ (T154.setTop (mkF m 162 #[.val (.int p0), .val (.int p1), .val (.int p2), .val (.int (p0 &&& (3 : Int32))), .val (.ref b12), .val (.int p1), .val (.ref sa), .unset] [(.int (1 : Int32))]))
                refine own_go (fun t k => XS.goto X154.here hx rfl (pc0 := 162) (pc' := 166) rfl (hb hby at_162) (by decide) (by decide) k) ?_
                show own_Gl _ _ _ _ (T154.setTop (mkF m 166 #[.val (.int p0), .val (.int p1), .val (.int p2), .val (.int (p0 &&& (3 : Int32))), .val (.ref b12), .val (.int p1), .val (.ref sa), .unset] [(.int (1 : Int32))]))
                refine own_go (fun t k => XS.istore X154.here hx rfl (hb hby at_166) rfl (l' := #[.val (.int p0), .val (.int p1), .val (.int p2), .val (.int (p0 &&& (3 : Int32))), .val (.ref b12), .val (.int p1), .val (.ref sa), .val (.int (1 : Int32))]) rfl k) ?_
                show own_Gl _ _ _ _ (T154.setTop (mkF m 168 #[.val (.int p0), .val (.int p1), .val (.int p2), .val (.int (p0 &&& (3 : Int32))), .val (.ref b12), .val (.int p1), .val (.ref sa), .val (.int (1 : Int32))] []))
                refine own_go (fun t k => XS.goto X154.here hx rfl (pc0 := 168) (pc' := 185) rfl (hb hby at_168) (by decide) (by decide) k) ?_
                show own_Gl _ _ _ _ (T154.setTop (mkF m 185 #[.val (.int p0), .val (.int p1), .val (.int p2), .val (.int (p0 &&& (3 : Int32))), .val (.ref b12), .val (.int p1), .val (.ref sa), .val (.int (1 : Int32))] []))
                refine own_go (fun t k => XS.aload X154.here hx rfl (hb hby at_185) rfl rfl k) ?_
                show own_Gl _ _ _ _ (T154.setTop (mkF m 187 #[.val (.int p0), .val (.int p1), .val (.int p2), .val (.int (p0 &&& (3 : Int32))), .val (.ref b12), .val (.int p1), .val (.ref sa), .val (.int (1 : Int32))] [(.ref sa)]))
                refine own_go (fun t k => XS.iload X154.here hx rfl (hb hby at_187) rfl k) ?_
                show own_Gl _ _ _ _ (T154.setTop (mkF m 189 #[.val (.int p0), .val (.int p1), .val (.int p2), .val (.int (p0 &&& (3 : Int32))), .val (.ref b12), .val (.int p1), .val (.ref sa), .val (.int (1 : Int32))] [(.int p1), (.ref sa)]))
                have f_164 : Fld Z h20 sa "org/loomstyle/parse/ExpressionParser$RawText" "endsAtParenthesis" "Z" (.int (1 : Int32)) := (P14.ext (own_ext K20))
                have f_165 : Fld Z h20 sa "org/loomstyle/parse/ExpressionParser$RawText" "endsAtColon" "Z" (.int (1 : Int32)) := (P15.ext (own_ext K20))
                have f_167 : Exa Z h20 sa "org/loomstyle/parse/ExpressionParser$RawText" := (P13.ext (own_ext K20))
                obtain ⟨cq166, kq166, q166a, q166b, q166c⟩ := isOf hZ e154 f_167
                obtain ⟨_, _, ⟨T166, L166, kk166, nn166⟩, -, X166, ⟨Lc166, hQ166, l166, y166, z166⟩, st166⟩ := X154.virtualBack hx (y := (⟨"org/loomstyle/parse/ExpressionParser$RawText", "endsAt", "(I)Z"⟩ : MethodName)) (z := (⟨"org/loomstyle/parse/ExpressionParser$RawText", "endsAt", "(I)Z"⟩ : MethodName)) hown (mvT hZ (hw _ (List.mem_of_getElem? (i := 4) rfl))) (mvT hZ (hw _ (List.mem_of_getElem? (i := 5) rfl))) (notFace_of_selects (args := #[]) (mvT hZ (hw _ (List.mem_of_getElem? (i := 7) rfl)))) (mvT hZ (hw _ (List.mem_of_getElem? (i := 7) rfl))) (mvT hZ (hw _ (List.mem_of_getElem? (i := 6) rfl))) (by decide) (backOf (W := 0) (rm1 l Z a0 hw [] sa p1 (1 : Int32) (1 : Int32) h20 n0 Z20 f_164 f_165) hZ (hw _ (List.mem_of_getElem? (i := 8) rfl)) (hw _ (List.mem_of_getElem? (i := 2) rfl)) (by decide) (by decide)) q166a q166c (g := (mkF m 189 #[.val (.int p0), .val (.int p1), .val (.int p2), .val (.int (p0 &&& (3 : Int32))), .val (.ref b12), .val (.int p1), .val (.ref sa), .val (.int (1 : Int32))] [(.int p1), (.ref sa)])) rfl (by rw [hml]; rfl) (Steps.refl _) (argsL := [(.int p1)]) (rest := []) (lenOf pd_0 rfl) rfl (by show 2 * 0 + _ ≤ _; exact Nat.le_of_eq rfl) (hb hby at_189) (fun _ _ => ⟨rfl, e154, (by decide : 1 + 0 ≤ _), (by decide : 8 + 0 ≤ _)⟩)
                dsimp only [Pt.U, Pt.locs, Pt.cells, Pt.slots] at X166 l166 y166 z166 st166 hQ166
                subst l166 y166 z166
                obtain ⟨N166q, rfl, hq166⟩ := hQ166
                have N166 := Fr.app N20 N166q
                refine own_go (fun t k => st166.trans k) ?_
                show own_Gl _ _ _ _ (T166.setTop (mkF m 192 #[.val (.int p0), .val (.int p1), .val (.int p2), .val (.int (p0 &&& (3 : Int32))), .val (.ref b12), .val (.int p1), .val (.ref sa), .val (.int (1 : Int32))] [(.int (f1 p1 (1 : Int32) (1 : Int32)))]))
                refine own_go (fun t k => XS.iload X166.here hx rfl (hb hby at_192) rfl k) ?_
                show own_Gl _ _ _ _ (T166.setTop (mkF m 194 #[.val (.int p0), .val (.int p1), .val (.int p2), .val (.int (p0 &&& (3 : Int32))), .val (.ref b12), .val (.int p1), .val (.ref sa), .val (.int (1 : Int32))] [(.int (1 : Int32)), (.int (f1 p1 (1 : Int32) (1 : Int32)))]))
                by_cases hc194_168 : (f1 p1 (1 : Int32) (1 : Int32)) = (1 : Int32)
                · refine own_go (fun t k => XS.icmpNo X166.here hx rfl (hb hby at_194) rfl (teq hc194_168).2 k) ?_
                  show own_Gl _ _ _ _ (T166.setTop (mkF m 197 #[.val (.int p0), .val (.int p1), .val (.int p2), .val (.int (p0 &&& (3 : Int32))), .val (.ref b12), .val (.int p1), .val (.ref sa), .val (.int (1 : Int32))] []))
                  refine own_go (fun t k => XS.iconst X166.here hx rfl (hb hby at_197) k) ?_
                  show own_Gl _ _ _ _ (T166.setTop (mkF m 198 #[.val (.int p0), .val (.int p1), .val (.int p2), .val (.int (p0 &&& (3 : Int32))), .val (.ref b12), .val (.int p1), .val (.ref sa), .val (.int (1 : Int32))] [(.int (1 : Int32))]))
                  refine own_go (fun t k => XS.goto X166.here hx rfl (pc0 := 198) (pc' := 202) rfl (hb hby at_198) (by decide) (by decide) k) ?_
                  show own_Gl _ _ _ _ (T166.setTop (mkF m 202 #[.val (.int p0), .val (.int p1), .val (.int p2), .val (.int (p0 &&& (3 : Int32))), .val (.ref b12), .val (.int p1), .val (.ref sa), .val (.int (1 : Int32))] [(.int (1 : Int32))]))
                  obtain ⟨fs, hr, hrun, hended, hW, hsame⟩ := X166.leave (v := some (.int (1 : Int32))) (fun h => by rw [Bd.returns] at h; cases h)
                  refine own_fin (retN X166 hx (t := .boolean) Bd.returns (by simp) (hb hby at_202) hr) hrun hended ⟨_, _, rfl, ?_, ⟨_, rfl⟩, hW, hsame.mono (by decide) (by decide)⟩
                  show Q0 Z p0 p1 p2 cp fa su sa h0 n0 _ T166.heap _
                  rw [hq166]
                  exact ⟨N166, by rw [f0, if_neg hc55_21, if_neg hc72_104, if_neg hc85_124, if_neg hc98_139, if_pos hc144_156, if_neg hc151_157, if_pos hc158_163, if_pos hc194_168]⟩
                · refine own_go (fun t k => XS.icmpYes X166.here hx rfl (pc0 := 194) (pc' := 201) rfl (hb hby at_194) rfl (feq hc194_168).2 (by decide) (by decide) k) ?_
                  show own_Gl _ _ _ _ (T166.setTop (mkF m 201 #[.val (.int p0), .val (.int p1), .val (.int p2), .val (.int (p0 &&& (3 : Int32))), .val (.ref b12), .val (.int p1), .val (.ref sa), .val (.int (1 : Int32))] []))
                  refine own_go (fun t k => XS.iconst X166.here hx rfl (hb hby at_201) k) ?_
                  show own_Gl _ _ _ _ (T166.setTop (mkF m 202 #[.val (.int p0), .val (.int p1), .val (.int p2), .val (.int (p0 &&& (3 : Int32))), .val (.ref b12), .val (.int p1), .val (.ref sa), .val (.int (1 : Int32))] [(.int (0 : Int32))]))
                  obtain ⟨fs, hr, hrun, hended, hW, hsame⟩ := X166.leave (v := some (.int (0 : Int32))) (fun h => by rw [Bd.returns] at h; cases h)
                  refine own_fin (retN X166 hx (t := .boolean) Bd.returns (by simp) (hb hby at_202) hr) hrun hended ⟨_, _, rfl, ?_, ⟨_, rfl⟩, hW, hsame.mono (by decide) (by decide)⟩
                  show Q0 Z p0 p1 p2 cp fa su sa h0 n0 _ T166.heap _
                  rw [hq166]
                  exact ⟨N166, by rw [f0, if_neg hc55_21, if_neg hc72_104, if_neg hc85_124, if_neg hc98_139, if_pos hc144_156, if_neg hc151_157, if_pos hc158_163, if_neg hc194_168]⟩
              · refine own_go (fun t k => XS.icmpYes X154.here hx rfl (pc0 := 158) (pc' := 165) rfl (hb hby at_158) rfl (feq hc158_163).2 (by decide) (by decide) k) ?_
                show own_Gl _ _ _ _ (T154.setTop (mkF m 165 #[.val (.int p0), .val (.int p1), .val (.int p2), .val (.int (p0 &&& (3 : Int32))), .val (.ref b12), .val (.int p1), .val (.ref sa), .unset] []))
                refine own_go (fun t k => XS.iconst X154.here hx rfl (hb hby at_165) k) ?_
                show own_Gl _ _ _ _ (T154.setTop (mkF m 166 #[.val (.int p0), .val (.int p1), .val (.int p2), .val (.int (p0 &&& (3 : Int32))), .val (.ref b12), .val (.int p1), .val (.ref sa), .unset] [(.int (0 : Int32))]))
                refine own_go (fun t k => XS.istore X154.here hx rfl (hb hby at_166) rfl (l' := #[.val (.int p0), .val (.int p1), .val (.int p2), .val (.int (p0 &&& (3 : Int32))), .val (.ref b12), .val (.int p1), .val (.ref sa), .val (.int (0 : Int32))]) rfl k) ?_
                show own_Gl _ _ _ _ (T154.setTop (mkF m 168 #[.val (.int p0), .val (.int p1), .val (.int p2), .val (.int (p0 &&& (3 : Int32))), .val (.ref b12), .val (.int p1), .val (.ref sa), .val (.int (0 : Int32))] []))
                refine own_go (fun t k => XS.goto X154.here hx rfl (pc0 := 168) (pc' := 185) rfl (hb hby at_168) (by decide) (by decide) k) ?_
                show own_Gl _ _ _ _ (T154.setTop (mkF m 185 #[.val (.int p0), .val (.int p1), .val (.int p2), .val (.int (p0 &&& (3 : Int32))), .val (.ref b12), .val (.int p1), .val (.ref sa), .val (.int (0 : Int32))] []))
                refine own_go (fun t k => XS.aload X154.here hx rfl (hb hby at_185) rfl rfl k) ?_
                show own_Gl _ _ _ _ (T154.setTop (mkF m 187 #[.val (.int p0), .val (.int p1), .val (.int p2), .val (.int (p0 &&& (3 : Int32))), .val (.ref b12), .val (.int p1), .val (.ref sa), .val (.int (0 : Int32))] [(.ref sa)]))
                refine own_go (fun t k => XS.iload X154.here hx rfl (hb hby at_187) rfl k) ?_
                show own_Gl _ _ _ _ (T154.setTop (mkF m 189 #[.val (.int p0), .val (.int p1), .val (.int p2), .val (.int (p0 &&& (3 : Int32))), .val (.ref b12), .val (.int p1), .val (.ref sa), .val (.int (0 : Int32))] [(.int p1), (.ref sa)]))
                have f_169 : Fld Z h20 sa "org/loomstyle/parse/ExpressionParser$RawText" "endsAtParenthesis" "Z" (.int (1 : Int32)) := (P14.ext (own_ext K20))
                have f_170 : Fld Z h20 sa "org/loomstyle/parse/ExpressionParser$RawText" "endsAtColon" "Z" (.int (1 : Int32)) := (P15.ext (own_ext K20))
                have f_172 : Exa Z h20 sa "org/loomstyle/parse/ExpressionParser$RawText" := (P13.ext (own_ext K20))
                obtain ⟨cq171, kq171, q171a, q171b, q171c⟩ := isOf hZ e154 f_172
                obtain ⟨_, _, ⟨T171, L171, kk171, nn171⟩, -, X171, ⟨Lc171, hQ171, l171, y171, z171⟩, st171⟩ := X154.virtualBack hx (y := (⟨"org/loomstyle/parse/ExpressionParser$RawText", "endsAt", "(I)Z"⟩ : MethodName)) (z := (⟨"org/loomstyle/parse/ExpressionParser$RawText", "endsAt", "(I)Z"⟩ : MethodName)) hown (mvT hZ (hw _ (List.mem_of_getElem? (i := 4) rfl))) (mvT hZ (hw _ (List.mem_of_getElem? (i := 5) rfl))) (notFace_of_selects (args := #[]) (mvT hZ (hw _ (List.mem_of_getElem? (i := 7) rfl)))) (mvT hZ (hw _ (List.mem_of_getElem? (i := 7) rfl))) (mvT hZ (hw _ (List.mem_of_getElem? (i := 6) rfl))) (by decide) (backOf (W := 0) (rm1 l Z a0 hw [] sa p1 (1 : Int32) (1 : Int32) h20 n0 Z20 f_169 f_170) hZ (hw _ (List.mem_of_getElem? (i := 8) rfl)) (hw _ (List.mem_of_getElem? (i := 2) rfl)) (by decide) (by decide)) q171a q171c (g := (mkF m 189 #[.val (.int p0), .val (.int p1), .val (.int p2), .val (.int (p0 &&& (3 : Int32))), .val (.ref b12), .val (.int p1), .val (.ref sa), .val (.int (0 : Int32))] [(.int p1), (.ref sa)])) rfl (by rw [hml]; rfl) (Steps.refl _) (argsL := [(.int p1)]) (rest := []) (lenOf pd_0 rfl) rfl (by show 2 * 0 + _ ≤ _; exact Nat.le_of_eq rfl) (hb hby at_189) (fun _ _ => ⟨rfl, e154, (by decide : 1 + 0 ≤ _), (by decide : 8 + 0 ≤ _)⟩)
                dsimp only [Pt.U, Pt.locs, Pt.cells, Pt.slots] at X171 l171 y171 z171 st171 hQ171
                subst l171 y171 z171
                obtain ⟨N171q, rfl, hq171⟩ := hQ171
                have N171 := Fr.app N20 N171q
                refine own_go (fun t k => st171.trans k) ?_
                show own_Gl _ _ _ _ (T171.setTop (mkF m 192 #[.val (.int p0), .val (.int p1), .val (.int p2), .val (.int (p0 &&& (3 : Int32))), .val (.ref b12), .val (.int p1), .val (.ref sa), .val (.int (0 : Int32))] [(.int (f1 p1 (1 : Int32) (1 : Int32)))]))
                refine own_go (fun t k => XS.iload X171.here hx rfl (hb hby at_192) rfl k) ?_
                show own_Gl _ _ _ _ (T171.setTop (mkF m 194 #[.val (.int p0), .val (.int p1), .val (.int p2), .val (.int (p0 &&& (3 : Int32))), .val (.ref b12), .val (.int p1), .val (.ref sa), .val (.int (0 : Int32))] [(.int (0 : Int32)), (.int (f1 p1 (1 : Int32) (1 : Int32)))]))
                by_cases hc194_173 : (f1 p1 (1 : Int32) (1 : Int32)) = (0 : Int32)
                · refine own_go (fun t k => XS.icmpNo X171.here hx rfl (hb hby at_194) rfl (teq hc194_173).2 k) ?_
                  show own_Gl _ _ _ _ (T171.setTop (mkF m 197 #[.val (.int p0), .val (.int p1), .val (.int p2), .val (.int (p0 &&& (3 : Int32))), .val (.ref b12), .val (.int p1), .val (.ref sa), .val (.int (0 : Int32))] []))
                  refine own_go (fun t k => XS.iconst X171.here hx rfl (hb hby at_197) k) ?_
                  show own_Gl _ _ _ _ (T171.setTop (mkF m 198 #[.val (.int p0), .val (.int p1), .val (.int p2), .val (.int (p0 &&& (3 : Int32))), .val (.ref b12), .val (.int p1), .val (.ref sa), .val (.int (0 : Int32))] [(.int (1 : Int32))]))
                  refine own_go (fun t k => XS.goto X171.here hx rfl (pc0 := 198) (pc' := 202) rfl (hb hby at_198) (by decide) (by decide) k) ?_
                  show own_Gl _ _ _ _ (T171.setTop (mkF m 202 #[.val (.int p0), .val (.int p1), .val (.int p2), .val (.int (p0 &&& (3 : Int32))), .val (.ref b12), .val (.int p1), .val (.ref sa), .val (.int (0 : Int32))] [(.int (1 : Int32))]))
                  obtain ⟨fs, hr, hrun, hended, hW, hsame⟩ := X171.leave (v := some (.int (1 : Int32))) (fun h => by rw [Bd.returns] at h; cases h)
                  refine own_fin (retN X171 hx (t := .boolean) Bd.returns (by simp) (hb hby at_202) hr) hrun hended ⟨_, _, rfl, ?_, ⟨_, rfl⟩, hW, hsame.mono (by decide) (by decide)⟩
                  show Q0 Z p0 p1 p2 cp fa su sa h0 n0 _ T171.heap _
                  rw [hq171]
                  exact ⟨N171, by rw [f0, if_neg hc55_21, if_neg hc72_104, if_neg hc85_124, if_neg hc98_139, if_pos hc144_156, if_neg hc151_157, if_neg hc158_163, if_pos hc194_173]⟩
                · refine own_go (fun t k => XS.icmpYes X171.here hx rfl (pc0 := 194) (pc' := 201) rfl (hb hby at_194) rfl (feq hc194_173).2 (by decide) (by decide) k) ?_
                  show own_Gl _ _ _ _ (T171.setTop (mkF m 201 #[.val (.int p0), .val (.int p1), .val (.int p2), .val (.int (p0 &&& (3 : Int32))), .val (.ref b12), .val (.int p1), .val (.ref sa), .val (.int (0 : Int32))] []))
                  refine own_go (fun t k => XS.iconst X171.here hx rfl (hb hby at_201) k) ?_
                  show own_Gl _ _ _ _ (T171.setTop (mkF m 202 #[.val (.int p0), .val (.int p1), .val (.int p2), .val (.int (p0 &&& (3 : Int32))), .val (.ref b12), .val (.int p1), .val (.ref sa), .val (.int (0 : Int32))] [(.int (0 : Int32))]))
                  obtain ⟨fs, hr, hrun, hended, hW, hsame⟩ := X171.leave (v := some (.int (0 : Int32))) (fun h => by rw [Bd.returns] at h; cases h)
                  refine own_fin (retN X171 hx (t := .boolean) Bd.returns (by simp) (hb hby at_202) hr) hrun hended ⟨_, _, rfl, ?_, ⟨_, rfl⟩, hW, hsame.mono (by decide) (by decide)⟩
                  show Q0 Z p0 p1 p2 cp fa su sa h0 n0 _ T171.heap _
                  rw [hq171]
                  exact ⟨N171, by rw [f0, if_neg hc55_21, if_neg hc72_104, if_neg hc85_124, if_neg hc98_139, if_pos hc144_156, if_neg hc151_157, if_neg hc158_163, if_neg hc194_173]⟩
          · refine own_go (fun t k => XS.icmpYes X154.here hx rfl (pc0 := 144) (pc' := 171) rfl (hb hby at_144) rfl (feq hc144_156).2 (by decide) (by decide) k) ?_
            show own_Gl _ _ _ _ (T154.setTop (mkF m 171 #[.val (.int p0), .val (.int p1), .val (.int p2), .val (.int (p0 &&& (3 : Int32))), .val (.ref b12), .val (.int p1), .val (.ref sa), .unset] []))
            refine own_go (fun t k => XS.iload X154.here hx rfl (hb hby at_171) rfl k) ?_
            show own_Gl _ _ _ _ (T154.setTop (mkF m 173 #[.val (.int p0), .val (.int p1), .val (.int p2), .val (.int (p0 &&& (3 : Int32))), .val (.ref b12), .val (.int p1), .val (.ref sa), .unset] [(.int p1)]))
            refine own_go (fun t k => XS.bipush X154.here hx rfl (hb hby at_173) k) ?_
            show own_Gl _ _ _ _ (T154.setTop (mkF m 175 #[.val (.int p0), .val (.int p1), .val (.int p2), .val (.int (p0 &&& (3 : Int32))), .val (.ref b12), .val (.int p1), .val (.ref sa), .unset] [(.int (41 : Int32)), (.int p1)]))
            by_cases hc175_174 : p1 = (41 : Int32)
            · refine own_go (fun t k => XS.icmpNo X154.here hx rfl (hb hby at_175) rfl (teq hc175_174).2 k) ?_
              show own_Gl _ _ _ _ (T154.setTop (mkF m 178 #[.val (.int p0), .val (.int p1), .val (.int p2), .val (.int (p0 &&& (3 : Int32))), .val (.ref b12), .val (.int p1), .val (.ref sa), .unset] []))
              refine own_go (fun t k => XS.iconst X154.here hx rfl (hb hby at_178) k) ?_
              show own_Gl _ _ _ _ (T154.setTop (mkF m 179 #[.val (.int p0), .val (.int p1), .val (.int p2), .val (.int (p0 &&& (3 : Int32))), .val (.ref b12), .val (.int p1), .val (.ref sa), .unset] [(.int (1 : Int32))]))
              refine own_go (fun t k => XS.goto X154.here hx rfl (pc0 := 179) (pc' := 183) rfl (hb hby at_179) (by decide) (by decide) k) ?_
              show own_Gl _ _ _ _ (T154.setTop (mkF m 183 #[.val (.int p0), .val (.int p1), .val (.int p2), .val (.int (p0 &&& (3 : Int32))), .val (.ref b12), .val (.int p1), .val (.ref sa), .unset] [(.int (1 : Int32))]))
              refine own_go (fun t k => XS.istore X154.here hx rfl (hb hby at_183) rfl (l' := #[.val (.int p0), .val (.int p1), .val (.int p2), .val (.int (p0 &&& (3 : Int32))), .val (.ref b12), .val (.int p1), .val (.ref sa), .val (.int (1 : Int32))]) rfl k) ?_
              show own_Gl _ _ _ _ (T154.setTop (mkF m 185 #[.val (.int p0), .val (.int p1), .val (.int p2), .val (.int (p0 &&& (3 : Int32))), .val (.ref b12), .val (.int p1), .val (.ref sa), .val (.int (1 : Int32))] []))
              refine own_go (fun t k => XS.aload X154.here hx rfl (hb hby at_185) rfl rfl k) ?_
              show own_Gl _ _ _ _ (T154.setTop (mkF m 187 #[.val (.int p0), .val (.int p1), .val (.int p2), .val (.int (p0 &&& (3 : Int32))), .val (.ref b12), .val (.int p1), .val (.ref sa), .val (.int (1 : Int32))] [(.ref sa)]))
              refine own_go (fun t k => XS.iload X154.here hx rfl (hb hby at_187) rfl k) ?_
              show own_Gl _ _ _ _ (T154.setTop (mkF m 189 #[.val (.int p0), .val (.int p1), .val (.int p2), .val (.int (p0 &&& (3 : Int32))), .val (.ref b12), .val (.int p1), .val (.ref sa), .val (.int (1 : Int32))] [(.int p1), (.ref sa)]))
              have f_175 : Fld Z h20 sa "org/loomstyle/parse/ExpressionParser$RawText" "endsAtParenthesis" "Z" (.int (1 : Int32)) := (P14.ext (own_ext K20))
              have f_176 : Fld Z h20 sa "org/loomstyle/parse/ExpressionParser$RawText" "endsAtColon" "Z" (.int (1 : Int32)) := (P15.ext (own_ext K20))
              have f_178 : Exa Z h20 sa "org/loomstyle/parse/ExpressionParser$RawText" := (P13.ext (own_ext K20))
              obtain ⟨cq177, kq177, q177a, q177b, q177c⟩ := isOf hZ e154 f_178
              obtain ⟨_, _, ⟨T177, L177, kk177, nn177⟩, -, X177, ⟨Lc177, hQ177, l177, y177, z177⟩, st177⟩ := X154.virtualBack hx (y := (⟨"org/loomstyle/parse/ExpressionParser$RawText", "endsAt", "(I)Z"⟩ : MethodName)) (z := (⟨"org/loomstyle/parse/ExpressionParser$RawText", "endsAt", "(I)Z"⟩ : MethodName)) hown (mvT hZ (hw _ (List.mem_of_getElem? (i := 4) rfl))) (mvT hZ (hw _ (List.mem_of_getElem? (i := 5) rfl))) (notFace_of_selects (args := #[]) (mvT hZ (hw _ (List.mem_of_getElem? (i := 7) rfl)))) (mvT hZ (hw _ (List.mem_of_getElem? (i := 7) rfl))) (mvT hZ (hw _ (List.mem_of_getElem? (i := 6) rfl))) (by decide) (backOf (W := 0) (rm1 l Z a0 hw [] sa p1 (1 : Int32) (1 : Int32) h20 n0 Z20 f_175 f_176) hZ (hw _ (List.mem_of_getElem? (i := 8) rfl)) (hw _ (List.mem_of_getElem? (i := 2) rfl)) (by decide) (by decide)) q177a q177c (g := (mkF m 189 #[.val (.int p0), .val (.int p1), .val (.int p2), .val (.int (p0 &&& (3 : Int32))), .val (.ref b12), .val (.int p1), .val (.ref sa), .val (.int (1 : Int32))] [(.int p1), (.ref sa)])) rfl (by rw [hml]; rfl) (Steps.refl _) (argsL := [(.int p1)]) (rest := []) (lenOf pd_0 rfl) rfl (by show 2 * 0 + _ ≤ _; exact Nat.le_of_eq rfl) (hb hby at_189) (fun _ _ => ⟨rfl, e154, (by decide : 1 + 0 ≤ _), (by decide : 8 + 0 ≤ _)⟩)
              dsimp only [Pt.U, Pt.locs, Pt.cells, Pt.slots] at X177 l177 y177 z177 st177 hQ177
              subst l177 y177 z177
              obtain ⟨N177q, rfl, hq177⟩ := hQ177
              have N177 := Fr.app N20 N177q
              refine own_go (fun t k => st177.trans k) ?_
              show own_Gl _ _ _ _ (T177.setTop (mkF m 192 #[.val (.int p0), .val (.int p1), .val (.int p2), .val (.int (p0 &&& (3 : Int32))), .val (.ref b12), .val (.int p1), .val (.ref sa), .val (.int (1 : Int32))] [(.int (f1 p1 (1 : Int32) (1 : Int32)))]))
              refine own_go (fun t k => XS.iload X177.here hx rfl (hb hby at_192) rfl k) ?_
              show own_Gl _ _ _ _ (T177.setTop (mkF m 194 #[.val (.int p0), .val (.int p1), .val (.int p2), .val (.int (p0 &&& (3 : Int32))), .val (.ref b12), .val (.int p1), .val (.ref sa), .val (.int (1 : Int32))] [(.int (1 : Int32)), (.int (f1 p1 (1 : Int32) (1 : Int32)))]))
              by_cases hc194_179 : (f1 p1 (1 : Int32) (1 : Int32)) = (1 : Int32)
              · refine own_go (fun t k => XS.icmpNo X177.here hx rfl (hb hby at_194) rfl (teq hc194_179).2 k) ?_
                show own_Gl _ _ _ _ (T177.setTop (mkF m 197 #[.val (.int p0), .val (.int p1), .val (.int p2), .val (.int (p0 &&& (3 : Int32))), .val (.ref b12), .val (.int p1), .val (.ref sa), .val (.int (1 : Int32))] []))
                refine own_go (fun t k => XS.iconst X177.here hx rfl (hb hby at_197) k) ?_
                show own_Gl _ _ _ _ (T177.setTop (mkF m 198 #[.val (.int p0), .val (.int p1), .val (.int p2), .val (.int (p0 &&& (3 : Int32))), .val (.ref b12), .val (.int p1), .val (.ref sa), .val (.int (1 : Int32))] [(.int (1 : Int32))]))
                refine own_go (fun t k => XS.goto X177.here hx rfl (pc0 := 198) (pc' := 202) rfl (hb hby at_198) (by decide) (by decide) k) ?_
                show own_Gl _ _ _ _ (T177.setTop (mkF m 202 #[.val (.int p0), .val (.int p1), .val (.int p2), .val (.int (p0 &&& (3 : Int32))), .val (.ref b12), .val (.int p1), .val (.ref sa), .val (.int (1 : Int32))] [(.int (1 : Int32))]))
                obtain ⟨fs, hr, hrun, hended, hW, hsame⟩ := X177.leave (v := some (.int (1 : Int32))) (fun h => by rw [Bd.returns] at h; cases h)
                refine own_fin (retN X177 hx (t := .boolean) Bd.returns (by simp) (hb hby at_202) hr) hrun hended ⟨_, _, rfl, ?_, ⟨_, rfl⟩, hW, hsame.mono (by decide) (by decide)⟩
                show Q0 Z p0 p1 p2 cp fa su sa h0 n0 _ T177.heap _
                rw [hq177]
                exact ⟨N177, by rw [f0, if_neg hc55_21, if_neg hc72_104, if_neg hc85_124, if_neg hc98_139, if_neg hc144_156, if_pos hc175_174, if_pos hc194_179]⟩
              · refine own_go (fun t k => XS.icmpYes X177.here hx rfl (pc0 := 194) (pc' := 201) rfl (hb hby at_194) rfl (feq hc194_179).2 (by decide) (by decide) k) ?_
                show own_Gl _ _ _ _ (T177.setTop (mkF m 201 #[.val (.int p0), .val (.int p1), .val (.int p2), .val (.int (p0 &&& (3 : Int32))), .val (.ref b12), .val (.int p1), .val (.ref sa), .val (.int (1 : Int32))] []))
                refine own_go (fun t k => XS.iconst X177.here hx rfl (hb hby at_201) k) ?_
                show own_Gl _ _ _ _ (T177.setTop (mkF m 202 #[.val (.int p0), .val (.int p1), .val (.int p2), .val (.int (p0 &&& (3 : Int32))), .val (.ref b12), .val (.int p1), .val (.ref sa), .val (.int (1 : Int32))] [(.int (0 : Int32))]))
                obtain ⟨fs, hr, hrun, hended, hW, hsame⟩ := X177.leave (v := some (.int (0 : Int32))) (fun h => by rw [Bd.returns] at h; cases h)
                refine own_fin (retN X177 hx (t := .boolean) Bd.returns (by simp) (hb hby at_202) hr) hrun hended ⟨_, _, rfl, ?_, ⟨_, rfl⟩, hW, hsame.mono (by decide) (by decide)⟩
                show Q0 Z p0 p1 p2 cp fa su sa h0 n0 _ T177.heap _
                rw [hq177]
                exact ⟨N177, by rw [f0, if_neg hc55_21, if_neg hc72_104, if_neg hc85_124, if_neg hc98_139, if_neg hc144_156, if_pos hc175_174, if_neg hc194_179]⟩
            · refine own_go (fun t k => XS.icmpYes X154.here hx rfl (pc0 := 175) (pc' := 182) rfl (hb hby at_175) rfl (feq hc175_174).2 (by decide) (by decide) k) ?_
              show own_Gl _ _ _ _ (T154.setTop (mkF m 182 #[.val (.int p0), .val (.int p1), .val (.int p2), .val (.int (p0 &&& (3 : Int32))), .val (.ref b12), .val (.int p1), .val (.ref sa), .unset] []))
              refine own_go (fun t k => XS.iconst X154.here hx rfl (hb hby at_182) k) ?_
              show own_Gl _ _ _ _ (T154.setTop (mkF m 183 #[.val (.int p0), .val (.int p1), .val (.int p2), .val (.int (p0 &&& (3 : Int32))), .val (.ref b12), .val (.int p1), .val (.ref sa), .unset] [(.int (0 : Int32))]))
              refine own_go (fun t k => XS.istore X154.here hx rfl (hb hby at_183) rfl (l' := #[.val (.int p0), .val (.int p1), .val (.int p2), .val (.int (p0 &&& (3 : Int32))), .val (.ref b12), .val (.int p1), .val (.ref sa), .val (.int (0 : Int32))]) rfl k) ?_
              show own_Gl _ _ _ _ (T154.setTop (mkF m 185 #[.val (.int p0), .val (.int p1), .val (.int p2), .val (.int (p0 &&& (3 : Int32))), .val (.ref b12), .val (.int p1), .val (.ref sa), .val (.int (0 : Int32))] []))
              refine own_go (fun t k => XS.aload X154.here hx rfl (hb hby at_185) rfl rfl k) ?_
              show own_Gl _ _ _ _ (T154.setTop (mkF m 187 #[.val (.int p0), .val (.int p1), .val (.int p2), .val (.int (p0 &&& (3 : Int32))), .val (.ref b12), .val (.int p1), .val (.ref sa), .val (.int (0 : Int32))] [(.ref sa)]))
              refine own_go (fun t k => XS.iload X154.here hx rfl (hb hby at_187) rfl k) ?_
              show own_Gl _ _ _ _ (T154.setTop (mkF m 189 #[.val (.int p0), .val (.int p1), .val (.int p2), .val (.int (p0 &&& (3 : Int32))), .val (.ref b12), .val (.int p1), .val (.ref sa), .val (.int (0 : Int32))] [(.int p1), (.ref sa)]))
              have f_180 : Fld Z h20 sa "org/loomstyle/parse/ExpressionParser$RawText" "endsAtParenthesis" "Z" (.int (1 : Int32)) := (P14.ext (own_ext K20))
              have f_181 : Fld Z h20 sa "org/loomstyle/parse/ExpressionParser$RawText" "endsAtColon" "Z" (.int (1 : Int32)) := (P15.ext (own_ext K20))
              have f_183 : Exa Z h20 sa "org/loomstyle/parse/ExpressionParser$RawText" := (P13.ext (own_ext K20))
              obtain ⟨cq182, kq182, q182a, q182b, q182c⟩ := isOf hZ e154 f_183
              obtain ⟨_, _, ⟨T182, L182, kk182, nn182⟩, -, X182, ⟨Lc182, hQ182, l182, y182, z182⟩, st182⟩ := X154.virtualBack hx (y := (⟨"org/loomstyle/parse/ExpressionParser$RawText", "endsAt", "(I)Z"⟩ : MethodName)) (z := (⟨"org/loomstyle/parse/ExpressionParser$RawText", "endsAt", "(I)Z"⟩ : MethodName)) hown (mvT hZ (hw _ (List.mem_of_getElem? (i := 4) rfl))) (mvT hZ (hw _ (List.mem_of_getElem? (i := 5) rfl))) (notFace_of_selects (args := #[]) (mvT hZ (hw _ (List.mem_of_getElem? (i := 7) rfl)))) (mvT hZ (hw _ (List.mem_of_getElem? (i := 7) rfl))) (mvT hZ (hw _ (List.mem_of_getElem? (i := 6) rfl))) (by decide) (backOf (W := 0) (rm1 l Z a0 hw [] sa p1 (1 : Int32) (1 : Int32) h20 n0 Z20 f_180 f_181) hZ (hw _ (List.mem_of_getElem? (i := 8) rfl)) (hw _ (List.mem_of_getElem? (i := 2) rfl)) (by decide) (by decide)) q182a q182c (g := (mkF m 189 #[.val (.int p0), .val (.int p1), .val (.int p2), .val (.int (p0 &&& (3 : Int32))), .val (.ref b12), .val (.int p1), .val (.ref sa), .val (.int (0 : Int32))] [(.int p1), (.ref sa)])) rfl (by rw [hml]; rfl) (Steps.refl _) (argsL := [(.int p1)]) (rest := []) (lenOf pd_0 rfl) rfl (by show 2 * 0 + _ ≤ _; exact Nat.le_of_eq rfl) (hb hby at_189) (fun _ _ => ⟨rfl, e154, (by decide : 1 + 0 ≤ _), (by decide : 8 + 0 ≤ _)⟩)
              dsimp only [Pt.U, Pt.locs, Pt.cells, Pt.slots] at X182 l182 y182 z182 st182 hQ182
              subst l182 y182 z182
              obtain ⟨N182q, rfl, hq182⟩ := hQ182
              have N182 := Fr.app N20 N182q
              refine own_go (fun t k => st182.trans k) ?_
              show own_Gl _ _ _ _ (T182.setTop (mkF m 192 #[.val (.int p0), .val (.int p1), .val (.int p2), .val (.int (p0 &&& (3 : Int32))), .val (.ref b12), .val (.int p1), .val (.ref sa), .val (.int (0 : Int32))] [(.int (f1 p1 (1 : Int32) (1 : Int32)))]))
              refine own_go (fun t k => XS.iload X182.here hx rfl (hb hby at_192) rfl k) ?_
              show own_Gl _ _ _ _ (T182.setTop (mkF m 194 #[.val (.int p0), .val (.int p1), .val (.int p2), .val (.int (p0 &&& (3 : Int32))), .val (.ref b12), .val (.int p1), .val (.ref sa), .val (.int (0 : Int32))] [(.int (0 : Int32)), (.int (f1 p1 (1 : Int32) (1 : Int32)))]))
              by_cases hc194_184 : (f1 p1 (1 : Int32) (1 : Int32)) = (0 : Int32)
              · refine own_go (fun t k => XS.icmpNo X182.here hx rfl (hb hby at_194) rfl (teq hc194_184).2 k) ?_
                show own_Gl _ _ _ _ (T182.setTop (mkF m 197 #[.val (.int p0), .val (.int p1), .val (.int p2), .val (.int (p0 &&& (3 : Int32))), .val (.ref b12), .val (.int p1), .val (.ref sa), .val (.int (0 : Int32))] []))
                refine own_go (fun t k => XS.iconst X182.here hx rfl (hb hby at_197) k) ?_
                show own_Gl _ _ _ _ (T182.setTop (mkF m 198 #[.val (.int p0), .val (.int p1), .val (.int p2), .val (.int (p0 &&& (3 : Int32))), .val (.ref b12), .val (.int p1), .val (.ref sa), .val (.int (0 : Int32))] [(.int (1 : Int32))]))
                refine own_go (fun t k => XS.goto X182.here hx rfl (pc0 := 198) (pc' := 202) rfl (hb hby at_198) (by decide) (by decide) k) ?_
                show own_Gl _ _ _ _ (T182.setTop (mkF m 202 #[.val (.int p0), .val (.int p1), .val (.int p2), .val (.int (p0 &&& (3 : Int32))), .val (.ref b12), .val (.int p1), .val (.ref sa), .val (.int (0 : Int32))] [(.int (1 : Int32))]))
                obtain ⟨fs, hr, hrun, hended, hW, hsame⟩ := X182.leave (v := some (.int (1 : Int32))) (fun h => by rw [Bd.returns] at h; cases h)
                refine own_fin (retN X182 hx (t := .boolean) Bd.returns (by simp) (hb hby at_202) hr) hrun hended ⟨_, _, rfl, ?_, ⟨_, rfl⟩, hW, hsame.mono (by decide) (by decide)⟩
                show Q0 Z p0 p1 p2 cp fa su sa h0 n0 _ T182.heap _
                rw [hq182]
                exact ⟨N182, by rw [f0, if_neg hc55_21, if_neg hc72_104, if_neg hc85_124, if_neg hc98_139, if_neg hc144_156, if_neg hc175_174, if_pos hc194_184]⟩
              · refine own_go (fun t k => XS.icmpYes X182.here hx rfl (pc0 := 194) (pc' := 201) rfl (hb hby at_194) rfl (feq hc194_184).2 (by decide) (by decide) k) ?_
                show own_Gl _ _ _ _ (T182.setTop (mkF m 201 #[.val (.int p0), .val (.int p1), .val (.int p2), .val (.int (p0 &&& (3 : Int32))), .val (.ref b12), .val (.int p1), .val (.ref sa), .val (.int (0 : Int32))] []))
                refine own_go (fun t k => XS.iconst X182.here hx rfl (hb hby at_201) k) ?_
                show own_Gl _ _ _ _ (T182.setTop (mkF m 202 #[.val (.int p0), .val (.int p1), .val (.int p2), .val (.int (p0 &&& (3 : Int32))), .val (.ref b12), .val (.int p1), .val (.ref sa), .val (.int (0 : Int32))] [(.int (0 : Int32))]))
                obtain ⟨fs, hr, hrun, hended, hW, hsame⟩ := X182.leave (v := some (.int (0 : Int32))) (fun h => by rw [Bd.returns] at h; cases h)
                refine own_fin (retN X182 hx (t := .boolean) Bd.returns (by simp) (hb hby at_202) hr) hrun hended ⟨_, _, rfl, ?_, ⟨_, rfl⟩, hW, hsame.mono (by decide) (by decide)⟩
                show Q0 Z p0 p1 p2 cp fa su sa h0 n0 _ T182.heap _
                rw [hq182]
                exact ⟨N182, by rw [f0, if_neg hc55_21, if_neg hc72_104, if_neg hc85_124, if_neg hc98_139, if_neg hc144_156, if_neg hc175_174, if_neg hc194_184]⟩
set_option maxHeartbeats 4000000 in
theorem own_law (p0 p1 p2 : Int32) : f0 p0 p1 p2 = 1 := by
  have h3 : p0 &&& 3 = 0 ∨ p0 &&& 3 = 1 ∨ p0 &&& 3 = 2 ∨ p0 &&& 3 = 3 := by
    have h := Jvm.Kit.i32_mask p0 3 (k := 2) (by decide) (by decide)
    have z0 : (0 : Int32).toInt = 0 := rfl
    have z1 : (1 : Int32).toInt = 1 := rfl
    have z2 : (2 : Int32).toInt = 2 := rfl
    have z3 : (3 : Int32).toInt = 3 := rfl
    simp only [← Int32.toInt_inj]; omega
  unfold f0
  generalize own_sp (p2 &&& 7) = c
  generalize p2 &&& 8 = e
  generalize p0 &&& 3 = k at *
  have H : ∀ c : Int32, (c = 59 ∨ c = 125 ∨ c = 41 ∨ c = 58) ∨ (¬ c = 59 ∧ ¬ c = 125 ∧ ¬ c = 41 ∧ ¬ c = 58) := fun c => by
    by_cases h1 : c = 59 <;> by_cases h2 : c = 125 <;> by_cases h3 : c = 41 <;> by_cases h4 : c = 58 <;> simp [h1, h2, h3, h4]
  by_cases he : e = 0
  · rw [if_pos he]
    rcases h3 with rfl | rfl | rfl | rfl <;> rcases H c with (rfl | rfl | rfl | rfl) | ⟨a1, a2, a3, a4⟩ <;> simp [f1, *]
  · rw [if_neg he]
    rcases h3 with rfl | rfl | rfl | rfl <;> rcases H p1 with (rfl | rfl | rfl | rfl) | ⟨a1, a2, a3, a4⟩ <;> simp [f1, *]
set_option maxRecDepth 65536 in
set_option maxHeartbeats 40000000 in
theorem comes_1 {Post : Tables → Env → Array Value → State → Outcome → State → Prop} (hpost : ∀ tb e args s v u, (limb_1_1.after args s (.returned v) u = true ∧ limb_1_2.after args s (.returned v) u = true ∧ True) → FrameEnd s (.returned v) u (Jvm.fieldLocs frame_1_writes args s ++ Jvm.arrayLocs frame_1_arrays args s ++ Jvm.staticLocs frame_1_statics s) 16 128 → Post tb e args s (.returned v) u) :
    ArmFor flags0 classFile x code maxLocals ret World_1 tables_1 room_1 Calls_1 rest_1 Pre_1 Post := by
  intro l hfl _ _ p e ha hc hk s m args below hf hA hF happ hP
  obtain ⟨hcalls, hrest, hpre⟩ := hP
  obtain ⟨-, -, -, hnamed, -, -, -, hat⟩ := (Spec.applies_iff hf).mp happ
  obtain ⟨hg, hn⟩ := and_e (Cond.before_iff.mp (show (Jvm.Cond.and given_1 narrow_1).before args s = true from hpre))
  obtain ⟨g1, g2⟩ := and_e hg
  obtain ⟨g3, g4⟩ := and_e g2
  obtain ⟨g5, g6⟩ := and_e g4
  obtain ⟨w0, w1, w2, rfl⟩ : ∃ w0 w1 w2 : Value, args = #[w0, w1, w2] := by
    have hs : args.size = 3 := by simpa [Cond.value, given_1] using g1
    obtain ⟨L⟩ := args
    match L, hs with
    | [w0, w1, w2], _ => exact ⟨w0, w1, w2, rfl⟩
  have hw := fun d (hd : d ∈ tables_1) => atoms_spec (ws := Jvm.Cond.code x code maxLocals ret :: tables_1) hat d (List.mem_cons_of_mem _ hd)
  have hfit : Fit s := fun {y c} hc i hi => by
    obtain ⟨ha, rfl⟩ := Array.getElem?_eq_some_iff.mp hc
    have q := List.all_eq_true.mp ((Array.all_eq_true_iff_forall_mem.mp hF) _ (Array.getElem_mem ha)) i (List.mem_range.mpr hi)
    simpa [Array.getElem?_eq_getElem hi] using q
  obtain ⟨i0, ei0⟩ := is_v g3
  obtain rfl : w0 = (.int i0) := Option.some.inj ei0
  obtain ⟨i1, ei1⟩ := is_v g5
  obtain rfl : w1 = (.int i1) := Option.some.inj ei1
  obtain ⟨i2, ei2⟩ := is_v g6
  obtain rfl : w2 = (.int i2) := Option.some.inj ei2
  obtain ⟨n_cpE, hn0⟩ := and_e hn
  obtain ⟨cp, ev_cp⟩ := exa_v n_cpE
  obtain ⟨n_cpP, hn1⟩ := and_e hn0
  obtain ⟨n_faE, hn2⟩ := and_e hn1
  obtain ⟨fa, ev_fa⟩ := exa_v n_faE
  obtain ⟨n_faP, hn3⟩ := and_e hn2
  obtain ⟨n_faC, hn4⟩ := and_e hn3
  obtain ⟨n_cpC, hn5⟩ := and_e hn4
  obtain ⟨n_saE, hn6⟩ := and_e hn5
  obtain ⟨sa, ev_sa⟩ := exa_v n_saE
  obtain ⟨n_saP, hn7⟩ := and_e hn6
  obtain ⟨n_saC, hn8⟩ := and_e hn7
  obtain ⟨n_suE, hn9⟩ := and_e hn8
  obtain ⟨su, ev_su⟩ := exa_v n_suE
  obtain ⟨n_suP, hn10⟩ := and_e hn9
  have n_suC := hn10
  obtain ⟨n, o, h1, h2, h3, _, L, rfl, ⟨N, hv⟩, hq⟩ := rm0 l s _ hw tables_1 i0 i1 i2 cp fa su sa s.heap s.heap.size (Nat.le_refl _) (Sta.start ev_cp (Or.inr ⟨(hw _ (List.mem_of_getElem? (i := 2) rfl)), (hw _ (List.mem_of_getElem? (i := 3) rfl))⟩)) (Exa.start ev_cp n_cpE) (own_eqf ev_cp n_cpP) (own_eqf ev_cp n_cpC) (Sta.start ev_fa (Or.inr ⟨(hw _ (List.mem_of_getElem? (i := 2) rfl)), (hw _ (List.mem_of_getElem? (i := 12) rfl))⟩)) (Exa.start ev_fa n_faE) (own_eqf ev_fa n_faP) (own_eqf ev_fa n_faC) (Sta.start ev_su (Or.inr ⟨(hw _ (List.mem_of_getElem? (i := 2) rfl)), (hw _ (List.mem_of_getElem? (i := 18) rfl))⟩)) (Exa.start ev_su n_suE) (own_eqf ev_su n_suP) (own_eqf ev_su n_suC) (Sta.start ev_sa (Or.inr ⟨(hw _ (List.mem_of_getElem? (i := 2) rfl)), (hw _ (List.mem_of_getElem? (i := 16) rfl))⟩)) (Exa.start ev_sa n_saE) (own_eqf ev_sa n_saP) (own_eqf ev_sa n_saC) p e ha hc hk s m _ below hf ((Spec.applies_iff_loose hf).mp happ).1 ⟨rfl, State.Warmed39.refl s, rfl⟩ trivial
  rw [own_law] at hv
  subst hv
  refine ⟨n, _, h1, h2, h3, hpost _ _ _ _ _ _ ⟨Cond.after_iff.mpr rfl, Cond.after_iff.mpr (eq_i res_at (Term.int_eval (1)) rfl), trivial⟩ ⟨hq.1, hq.2.1, (hq.2.2.sift fun y hy => Or.inr (N y hy)).mono (by decide) (by decide)⟩⟩
theorem main_1_1 : Claimed_1_1 := comes_1 fun _ _ _ _ _ _ h hF => ⟨h.1, hF⟩
theorem main_1_2 : Claimed_1_2 := comes_1 fun _ _ _ _ _ _ h hF => ⟨h.2.1, hF⟩
end Jvm.Pilot.@@N@@
namespace Jvm.Pilot.@@N@@
open Jvm Jvm.ClassFile Sem Op Lib Jvm.Free Jvm.Stand Jvm.Pilot.@@N@@.Jvm.D
/-! MADE BY PROGRAM (witnessworld.py) out of the Statement's table words and the real class files: 12 classes; the members and pool entries that the words name. The judged class is class 1, her method 1. -/
namespace start1
open Jvm.ClassFile
def u (s : String) : CpInfo := .utf8 (stringToUtf16 s)
/-- a pool by its gaps: so many unusable entries, then the entry; so many at the end -/
def gap : Nat → List CpInfo → List CpInfo
  | 0, r => r
  | n + 1, r => .unusable :: gap n r
def poolList (es : List (Nat × CpInfo)) (last : Nat) : List CpInfo := es.foldr (fun e r => gap e.1 (e.2 :: r)) (gap last [])
def pool (es : List (Nat × CpInfo)) (last : Nat) : Array CpInfo := ⟨poolList es last⟩
def fileOf (pool : Array CpInfo) (this : Nat) (attrs : Array Attribute := #[]) (ms : Array MethodInfo := #[]) (fl : Nat := 33) (sup : Nat := 0) (ifs : Array Nat := #[]) (fds : Array FieldInfo := #[]) : ClassFile where
  minorVersion := 0
  majorVersion := 65
  constantPool := pool
  accessFlags := fl
  thisClass := this
  superClass := sup
  interfaces := ifs
  fields := fds
  methods := ms
  attributes := attrs
def plain (name : String) (sup : Option ClassId) : Class where
  name := name
  kind := .ordinary
  loader := none
  accessFlags := 33
  super := sup
  interfaces := #[]
  cf := none
  fields := #[]
  methods := #[]
  instanceTypes := #[]
  staticTypes := #[]
  resolved := #[]
  callSites := []
  init := .initialized
  statics := none
  mirror := none

def pool0 : Array CpInfo := pool [(5, u "<init>"), (0, u "()V"), (1, .class_ 10), (1, u "java/lang/Object")] 113

def k0m0 : Method := { name := "<init>", desc := "()V", sig := { parameters := [], returnType := none }, accessFlags := 1, code := none }
/-- java/lang/Object -/
def k0 : Class := { plain "java/lang/Object" none with
  accessFlags := 33
  interfaces := #[]
  cf := some (fileOf pool0 8 #[] #[{ accessFlags := 1, nameIndex := 5, descriptorIndex := 6, attributes := #[] }] 33 0 #[] #[])
  fields := #[]
  methods := #[k0m0]
  instanceTypes := #[]
  staticTypes := #[]
  resolved := Array.replicate 124 none
  statics := none }

def pool1 : Array CpInfo := pool [(2, .class_ 4), (1, u "java/lang/Object"), (0, u "<init>"), (0, u "()V"), (0, .fieldref 8 9), (0, .class_ 10), (0, .nameAndType 11 12), (0, u "org/loomstyle/parse/ExpressionParser$RawText"), (0, u "CUSTOM_PROPERTY"), (0, u "Lorg/loomstyle/parse/ExpressionParser$RawText;"), (0, .fieldref 8 14), (0, .nameAndType 15 12), (0, u "FUNCTION_ARGUMENTS"), (0, .fieldref 8 17), (0, .nameAndType 18 12), (0, u "SUPPORTS"), (0, .fieldref 8 20), (0, .nameAndType 21 12), (0, u "SUPPORTS_AFTER_NAME"), (0, .methodref 8 23), (0, .nameAndType 24 25), (0, u "endsAt"), (0, u "(I)Z"), (0, .class_ 27), (0, u "org/loomstyle/parse/RawTextEndsAtPinLaw"), (2, u "law"), (0, u "(III)Z")] 9

def k1m0 : Method := { name := "<init>", desc := "()V", sig := { parameters := [], returnType := none }, accessFlags := 1, code := none }
def k1c1 : Code := { maxStack := 4, maxLocals := 8, code := code, exceptionTable := #[], attributes := #[] }
def k1m1 : Method := { name := "law", desc := "(III)Z", sig := { parameters := [.int, .int, .int], returnType := some .boolean }, accessFlags := 9, code := some k1c1 }
/-- org/loomstyle/parse/RawTextEndsAtPinLaw -/
def k1 : Class := { plain "org/loomstyle/parse/RawTextEndsAtPinLaw" (some 0) with
  accessFlags := 49
  interfaces := #[]
  cf := some (fileOf pool1 26 #[] #[{ accessFlags := 1, nameIndex := 5, descriptorIndex := 6, attributes := #[] }, { accessFlags := 9, nameIndex := 30, descriptorIndex := 31, attributes := #[] }] 49 2 #[] #[])
  fields := #[]
  methods := #[k1m0, k1m1]
  instanceTypes := #[]
  staticTypes := #[]
  resolved := Array.replicate 41 none
  statics := none }

def pool2 : Array CpInfo := pool [(1, .class_ 2), (0, u "java/lang/constant/Constable"), (0, .class_ 4), (0, u "java/lang/Object")] 6

/-- java/lang/constant/Constable -/
def k2 : Class := { plain "java/lang/constant/Constable" (some 0) with
  accessFlags := 1537
  interfaces := #[]
  cf := some (fileOf pool2 1 #[] #[] 1537 3 #[] #[])
  fields := #[]
  methods := #[]
  instanceTypes := #[]
  staticTypes := #[]
  resolved := Array.replicate 11 none
  statics := none }

def pool3 : Array CpInfo := pool [(1, .class_ 2), (0, u "java/lang/Comparable"), (0, .class_ 4), (0, u "java/lang/Object")] 7

/-- java/lang/Comparable -/
def k3 : Class := { plain "java/lang/Comparable" (some 0) with
  accessFlags := 1537
  interfaces := #[]
  cf := some (fileOf pool3 1 #[] #[] 1537 3 #[] #[])
  fields := #[]
  methods := #[]
  instanceTypes := #[]
  staticTypes := #[]
  resolved := Array.replicate 12 none
  statics := none }

def pool4 : Array CpInfo := pool [(1, .class_ 2), (0, u "java/io/Serializable"), (0, .class_ 4), (0, u "java/lang/Object")] 2

/-- java/io/Serializable -/
def k4 : Class := { plain "java/io/Serializable" (some 0) with
  accessFlags := 1537
  interfaces := #[]
  cf := some (fileOf pool4 1 #[] #[] 1537 3 #[] #[])
  fields := #[]
  methods := #[]
  instanceTypes := #[]
  staticTypes := #[]
  resolved := Array.replicate 7 none
  statics := none }

def pool5 : Array CpInfo := pool [(2, .class_ 4), (1, u "java/lang/Enum"), (0, u "name"), (0, u "Ljava/lang/String;"), (2, u "ordinal"), (0, u "I"), (1, .class_ 14), (1, u "java/lang/Object"), (4, u "hash"), (86, .class_ 108), (1, u "java/lang/Enum$EnumDesc"), (2, .class_ 112), (0, u "java/lang/constant/Constable"), (0, .class_ 114), (0, u "java/lang/Comparable"), (0, .class_ 116), (0, u "java/io/Serializable")] 87

/-- java/lang/Enum -/
def k5 : Class := { plain "java/lang/Enum" (some 0) with
  accessFlags := 1057
  interfaces := #[2, 3, 4]
  cf := some (fileOf pool5 2 #[.nestMembers #[106]] #[] 1057 12 #[111, 113, 115] #[{ accessFlags := 18, nameIndex := 5, descriptorIndex := 6, attributes := #[] }, { accessFlags := 18, nameIndex := 9, descriptorIndex := 10, attributes := #[] }, { accessFlags := 2, nameIndex := 19, descriptorIndex := 10, attributes := #[] }])
  fields := #[{ name := "name", type := (.object "java/lang/String"), accessFlags := 18, slot := 0, constantValue := 0 }, { name := "ordinal", type := .int, accessFlags := 18, slot := 1, constantValue := 0 }, { name := "hash", type := .int, accessFlags := 2, slot := 2, constantValue := 0 }]
  methods := #[]
  instanceTypes := #[(.object "java/lang/String"), .int, .int]
  staticTypes := #[]
  resolved := Array.replicate 204 none
  statics := none }

def pool6 : Array CpInfo := pool [(1, .class_ 2), (0, u "org/loomstyle/parse/ExpressionParser$RawText"), (2, u "CUSTOM_PROPERTY"), (0, u "Lorg/loomstyle/parse/ExpressionParser$RawText;"), (2, u "FUNCTION_ARGUMENTS"), (2, u "SUPPORTS"), (2, u "SUPPORTS_AFTER_NAME"), (2, u "$VALUES"), (0, u "[Lorg/loomstyle/parse/ExpressionParser$RawText;"), (6, .class_ 28), (1, u "java/lang/Enum"), (6, .fieldref 1 36), (0, .nameAndType 37 38), (0, u "endsAtParenthesis"), (0, u "Z"), (0, .fieldref 1 40), (0, .nameAndType 41 38), (0, u "endsAtColon"), (2, u "dropsSilentComments"), (2, u "spacing"), (0, u "Lorg/loomstyle/parse/ExpressionParser$Spacing;"), (29, u "endsAt"), (0, u "(I)Z"), (7, .class_ 88), (0, u "org/loomstyle/parse/ExpressionParser")] 3

def k6c0 : Code := { maxStack := 2, maxLocals := 2, code := prog_143_method_4_code, exceptionTable := #[], attributes := #[] }
def k6m0 : Method := { name := "endsAt", desc := "(I)Z", sig := { parameters := [.int], returnType := some .boolean }, accessFlags := 0, code := some k6c0 }
/-- org/loomstyle/parse/ExpressionParser$RawText -/
def k6 : Class := { plain "org/loomstyle/parse/ExpressionParser$RawText" (some 5) with
  accessFlags := 16432
  interfaces := #[]
  cf := some (fileOf pool6 1 #[.nestHost 87] #[{ accessFlags := 0, nameIndex := 78, descriptorIndex := 79, attributes := #[] }] 16432 26 #[] #[{ accessFlags := 16409, nameIndex := 5, descriptorIndex := 6, attributes := #[] }, { accessFlags := 16409, nameIndex := 9, descriptorIndex := 6, attributes := #[] }, { accessFlags := 16409, nameIndex := 12, descriptorIndex := 6, attributes := #[] }, { accessFlags := 16409, nameIndex := 15, descriptorIndex := 6, attributes := #[] }, { accessFlags := 18, nameIndex := 37, descriptorIndex := 38, attributes := #[] }, { accessFlags := 18, nameIndex := 41, descriptorIndex := 38, attributes := #[] }, { accessFlags := 18, nameIndex := 44, descriptorIndex := 38, attributes := #[] }, { accessFlags := 18, nameIndex := 47, descriptorIndex := 48, attributes := #[] }, { accessFlags := 4122, nameIndex := 18, descriptorIndex := 19, attributes := #[] }])
  fields := #[{ name := "CUSTOM_PROPERTY", type := (.object "org/loomstyle/parse/ExpressionParser$RawText"), accessFlags := 16409, slot := 0, constantValue := 0 }, { name := "FUNCTION_ARGUMENTS", type := (.object "org/loomstyle/parse/ExpressionParser$RawText"), accessFlags := 16409, slot := 1, constantValue := 0 }, { name := "SUPPORTS", type := (.object "org/loomstyle/parse/ExpressionParser$RawText"), accessFlags := 16409, slot := 2, constantValue := 0 }, { name := "SUPPORTS_AFTER_NAME", type := (.object "org/loomstyle/parse/ExpressionParser$RawText"), accessFlags := 16409, slot := 3, constantValue := 0 }, { name := "endsAtParenthesis", type := .boolean, accessFlags := 18, slot := 3, constantValue := 0 }, { name := "endsAtColon", type := .boolean, accessFlags := 18, slot := 4, constantValue := 0 }, { name := "dropsSilentComments", type := .boolean, accessFlags := 18, slot := 5, constantValue := 0 }, { name := "spacing", type := (.object "org/loomstyle/parse/ExpressionParser$Spacing"), accessFlags := 18, slot := 6, constantValue := 0 }, { name := "$VALUES", type := (.array (.object "org/loomstyle/parse/ExpressionParser$RawText")), accessFlags := 4122, slot := 4, constantValue := 0 }]
  methods := #[k6m0]
  instanceTypes := #[(.object "java/lang/String"), .int, .int, .boolean, .boolean, .boolean, (.object "org/loomstyle/parse/ExpressionParser$Spacing")]
  staticTypes := #[(.object "org/loomstyle/parse/ExpressionParser$RawText"), (.object "org/loomstyle/parse/ExpressionParser$RawText"), (.object "org/loomstyle/parse/ExpressionParser$RawText"), (.object "org/loomstyle/parse/ExpressionParser$RawText"), (.array (.object "org/loomstyle/parse/ExpressionParser$RawText"))]
  resolved := Array.replicate 92 none
  statics := some 0 }

def pool7 : Array CpInfo := pool [(1, u "java/lang/Cloneable"), (0, .class_ 1), (0, u "java/lang/Object"), (0, .class_ 3)] 3

/-- java/lang/Cloneable -/
def k7 : Class := { plain "java/lang/Cloneable" (some 0) with
  accessFlags := 1537
  interfaces := #[]
  cf := some (fileOf pool7 2 #[] #[] 1537 4 #[] #[])
  fields := #[]
  methods := #[]
  instanceTypes := #[]
  staticTypes := #[]
  resolved := Array.replicate 8 none
  statics := none }

/-- the primitive byte -/
def k8 : Class := { plain "byte" none with kind := .primitive 'B', accessFlags := 0x411 }
/-- [B -/
def k9 : Class := { plain "[B" (some 0) with kind := .array 8 .byte, interfaces := #[7, 4], accessFlags := 1041 }

/-- the primitive int -/
def k10 : Class := { plain "int" none with kind := .primitive 'I', accessFlags := 0x411 }
/-- [I -/
def k11 : Class := { plain "[I" (some 0) with kind := .array 10 .int, interfaces := #[7, 4], accessFlags := 1041 }

def heap : Heap := #[{ cls := 6, slots := #[.ref 1, .ref 2, .ref 3, .ref 4, .null], vm := .statics 6 },
  { cls := 6, slots := #[.null, .int 0, .int 0, .int 0, .int 0, .int 0, .null], vm := .none },
  { cls := 6, slots := #[.null, .int 0, .int 0, .int 1, .int 0, .int 0, .null], vm := .none },
  { cls := 6, slots := #[.null, .int 0, .int 0, .int 1, .int 0, .int 0, .null], vm := .none },
  { cls := 6, slots := #[.null, .int 0, .int 0, .int 1, .int 1, .int 0, .null], vm := .none }]
def classes : Array Class := #[k0, k1, k2, k3, k4, k5, k6, k7, k8, k9, k10, k11]
def interned : List (Array UInt16 × Addr) := []
def slotsUsed : Nat := 33
def theMethod : MethodId := ⟨1, 1⟩
def args0 : Array Value := #[.int 0, .int 7, .int 5]
def aboutOver (below : List Frame) : State where
  vm := { classes := classes, interned := interned.toArray }
  heap := heap
  slotsUsed := slotsUsed
  threads := #[{ frames := .invoking theMethod args0 :: below }]
def below0 : List Frame := [.native { method := ⟨0, 0⟩, args := #[] }]
def about1 : State := aboutOver below0
def p0 : Program := .bare "" "" ""
def e0 : Env := launch0.env 0 0 0
theorem w_frames : about1.frames = Frame.invoking theMethod args0 :: below0 := rfl
set_option maxRecDepth 65536 in
theorem w_args : argsFit about1.vm theMethod args0 = true := by decide +kernel
set_option maxRecDepth 65536 in
theorem w_heap : heapFits about1 = true := by decide +kernel
set_option maxRecDepth 65536 in
theorem w_runnable : about1.curStatus? = some .runnable := by decide +kernel
set_option maxRecDepth 65536 in
theorem w_alone : about1.alone = true := by decide +kernel
set_option maxRecDepth 65536 in
theorem w_named : about1.methodNamed? x = some theMethod := by decide +kernel
set_option maxRecDepth 65536 in
theorem w_hears : about1.hears theMethod below0 = true := by decide +kernel
set_option maxRecDepth 65536 in
theorem w_ripe : about1.ripe theMethod args0 below0 = true := by decide +kernel
theorem w_running : about1.status = .running := rfl
set_option maxRecDepth 65536 in
theorem w_room : about1.hasRoom e0.platform room_1 = true :=
  launch0.hasRoom_least _ room_1 (by decide +kernel) (by decide +kernel) (by decide +kernel) (by decide +kernel) (by decide +kernel) (by decide +kernel)
theorem allAtoms_all (ts : List Jvm.Cond) (a : Array Jvm.Value) (st : Jvm.State) : (allAtoms ts).before a st = ts.all (fun c => c.before a st) := by
  induction ts with
  | nil => rfl
  | cons c t ih =>
    show (Jvm.Cond.and c (allAtoms t)).before a st = _
    rw [Jvm.Cond.before_and, ih, List.all_cons]
def words1 : List Jvm.Cond := Jvm.Cond.code x code maxLocals ret :: tables_1
/-- a 'code' word, met by the world's own term for the bytes: nothing is compared byte by byte -/
theorem code_word {y : MethodName} {bytes : ByteArray} {mx : Nat} {rt : Option FieldType} {a : Array Value} {s : State} {m : MethodId} {meth : Method} {c : Code} (h1 : s.methodNamed? y = some m) (h2 : s.vm.method? m = some meth) (h3 : meth.code = some c) (h4 : c.code = bytes)
    (h5 : (c.maxLocals == mx && c.exceptionTable.isEmpty && decide (c.maxStack ≤ mostOperands) && decide (meth.sig.returnType = rt) && !meth.locks && decide (parseMethodDescriptor y.desc = some meth.sig)) = true) : (Jvm.Cond.code y bytes mx rt).before a s = true := by
  simp only [Bool.and_eq_true, beq_iff_eq, Bool.not_eq_true', decide_eq_true_eq] at h5
  obtain ⟨⟨⟨⟨⟨g1, g2⟩, g3⟩, g4⟩, g5⟩, g6⟩ := h5
  simp [Cond.before, Cond.holds, Cond.value, h1, h2, h3, h4, g1, g2, g3, g4, g5, g6]
def isCode : Jvm.Cond → Bool
  | .code _ _ _ _ => true
  | _ => false
theorem all_split {L : List Jvm.Cond} {P : Jvm.Cond → Bool} (h1 : L.all (fun c => isCode c || P c) = true) (h2 : ∀ c ∈ L.filter isCode, P c = true) : L.all P = true := by
  refine List.all_eq_true.mpr fun c hc => ?_
  have h := List.all_eq_true.mp h1 c hc
  rcases Bool.eq_false_or_eq_true (isCode c) with hi | hi
  · exact h2 c (List.mem_filter.mpr ⟨hc, hi⟩)
  · simpa [hi] using h
set_option maxRecDepth 65536 in
theorem w_c0 : (Jvm.Cond.code x code maxLocals ret).before args0 about1 = true := code_word (m := ⟨1, 1⟩) (meth := k1m1) (c := k1c1) (by decide +kernel) rfl rfl rfl (by decide +kernel)
set_option maxRecDepth 65536 in
theorem w_c1 : (Jvm.Cond.code ({ cls := "org/loomstyle/parse/ExpressionParser$RawText", name := "endsAt", desc := "(I)Z" } : Jvm.MethodName) prog_143_method_4_code (2 : Nat) (Option.some Jvm.ClassFile.FieldType.boolean)).before args0 about1 = true := code_word (m := ⟨6, 0⟩) (meth := k6m0) (c := k6c0) (by decide +kernel) rfl rfl rfl (by decide +kernel)
def codes1 : List Jvm.Cond := [Jvm.Cond.code x code maxLocals ret, Jvm.Cond.code ({ cls := "org/loomstyle/parse/ExpressionParser$RawText", name := "endsAt", desc := "(I)Z" } : Jvm.MethodName) prog_143_method_4_code (2 : Nat) (Option.some Jvm.ClassFile.FieldType.boolean)]
set_option maxRecDepth 65536 in
theorem codes_eq : words1.filter isCode = codes1 := rfl
theorem w_codes : ∀ c ∈ words1.filter isCode, c.before args0 about1 = true := by
  rw [codes_eq]
  intro c hc
  simp only [codes1, List.mem_cons, List.not_mem_nil, or_false] at hc
  rcases hc with rfl | rfl
  · exact w_c0
  · exact w_c1
set_option maxRecDepth 65536 in
theorem w_t1 : words1.all (fun c => isCode c || c.before args0 about1) = true := by decide +kernel
theorem w_tables : (allAtoms (Jvm.Cond.code x code maxLocals ret :: tables_1)).before args0 about1 = true := by
  rw [allAtoms_all]
  show words1.all (fun c => c.before args0 about1) = true
  refine all_split ?_ w_codes
  rw [w_t1]
set_option maxRecDepth 65536 in
theorem w_case : (Jvm.Cond.and given_1 narrow_1).before args0 about1 = true := by decide +kernel
theorem w_applies : (headSpec (Jvm.Cond.code x code maxLocals ret :: tables_1) room_1).applies x e0.platform about1 = true :=
  (Spec.applies_iff w_frames).mpr ⟨w_running, w_runnable, w_alone, w_named, w_hears, w_ripe, w_room, w_tables⟩
theorem atStart : AtStart classFile x code maxLocals ret World_1 tables_1 room_1 Calls_1 rest_1 Pre_1 launch0 p0 e0 about1 theMethod args0 below0 :=
  ⟨lists_1, trivial, launch0.admits_env _ _ _, launch0.least_env, fairChoices_fair.cas, fairChoices_fair.clock, w_frames, w_args, w_heap, w_applies, trivial, trivial, w_case⟩
end start1
theorem witness_1 : WitnessClaimed_1 := ⟨start1.p0, start1.e0, start1.about1, start1.theMethod, start1.args0, start1.below0, start1.atStart⟩
end Jvm.Pilot.@@N@@
