import JvmDerived
import JvmDerived.Pilot.@@N@@Statement
import JvmDerived.Pilot.@@N@@Code
set_option linter.unusedVariables false
set_option linter.unusedSimpArgs false

namespace Jvm.Pilot.@@N@@
open Jvm Jvm.ClassFile Sem Op Lib Jvm.Free Jvm.Stand Jvm.LawKit Jvm.RoadKit Bundle Jvm.Pilot.@@N@@.Jvm.D
/-! the walk in continuation form: what is left to be shown of a state on the road -/
def own_Gl (p : Program) (e : Env) (below : List Frame) (P : Outcome → State → Prop) (S : State) : Prop := ∃ s₂ o, Steps p.tables e below S s₂ ∧ s₂.status = .running ∧ Ended s₂ below o ∧ P o s₂
theorem own_go {p : Program} {e : Env} {below : List Frame} {P : Outcome → State → Prop} {S S' : State} (k : ∀ t, Steps p.tables e below S' t → Steps p.tables e below S t) (h : own_Gl p e below P S') : own_Gl p e below P S := by
  obtain ⟨u, o, h1, h2⟩ := h
  exact ⟨u, o, k u h1, h2⟩
theorem own_ext {h0 h : Heap} (K : Keep h0 h []) : Ext h0 h := ⟨K.1, fun a c q => K.2.1 a c q nin0⟩
theorem own_jn {p : Program} {e : Env} {below : List Frame} {P : Outcome → State → Prop} {S S' : State} (h : own_Gl p e below P S) (k : own_Gl p e below P S → own_Gl p e below P S') : own_Gl p e below P S' := k h
theorem own_ind {p : Program} {e : Env} {below : List Frame} {P : Outcome → State → Prop} (I : Nat → State → Prop) (step : ∀ n S, (∀ n', n' < n → ∀ S', I n' S' → own_Gl p e below P S') → I n S → own_Gl p e below P S) {n : Nat} {S : State} (h : I n S) : own_Gl p e below P S := by
  induction n using Nat.strongRecOn generalizing S with
  | ind n ih => exact step n S (fun n' hn S' hI => ih n' hn hI) h
theorem own_fin {p : Program} {e : Env} {below : List Frame} {P : Outcome → State → Prop} {S u : State} {o : Outcome} (h1 : Steps p.tables e below S u) (h2 : u.status = .running) (h3 : Ended u below o) (h4 : P o u) : own_Gl p e below P S := ⟨u, o, h1, h2, h3, h4⟩
theorem d1_0 : decode prog_140_method_5_code 0 = .ok (.iload_n 0, 1) := by decide +kernel
theorem d1_1 : decode prog_140_method_5_code 1 = .ok (.bipush 97, 2) := by decide +kernel
theorem d1_3 : decode prog_140_method_5_code 3 = .ok (.if_icmp .lt 9, 3) := by decide +kernel
theorem d1_6 : decode prog_140_method_5_code 6 = .ok (.iload_n 0, 1) := by decide +kernel
theorem d1_7 : decode prog_140_method_5_code 7 = .ok (.bipush 122, 2) := by decide +kernel
theorem d1_9 : decode prog_140_method_5_code 9 = .ok (.if_icmp .le 15, 3) := by decide +kernel
theorem d1_12 : decode prog_140_method_5_code 12 = .ok (.iload_n 0, 1) := by decide +kernel
theorem d1_13 : decode prog_140_method_5_code 13 = .ok (.bipush 65, 2) := by decide +kernel
theorem d1_15 : decode prog_140_method_5_code 15 = .ok (.if_icmp .lt 13, 3) := by decide +kernel
theorem d1_18 : decode prog_140_method_5_code 18 = .ok (.iload_n 0, 1) := by decide +kernel
theorem d1_19 : decode prog_140_method_5_code 19 = .ok (.bipush 90, 2) := by decide +kernel
theorem d1_21 : decode prog_140_method_5_code 21 = .ok (.if_icmp .gt 7, 3) := by decide +kernel
theorem d1_24 : decode prog_140_method_5_code 24 = .ok (.iconst 1, 1) := by decide +kernel
theorem d1_25 : decode prog_140_method_5_code 25 = .ok (.goto 4, 3) := by decide +kernel
theorem d1_28 : decode prog_140_method_5_code 28 = .ok (.iconst 0, 1) := by decide +kernel
theorem d1_29 : decode prog_140_method_5_code 29 = .ok (.ireturn, 1) := by decide +kernel
theorem pn_org_loomstyle_parse_Characters : plainName "org/loomstyle/parse/Characters" = true := by first | (simp [plainName, overriddenIn]; done) | decide +kernel
theorem ef_1 (m : MethodId) (p0 : Int32) : entryFrame m #[(.int p0)] 1 = mkF m 0 #[.val (.int p0)] [] := by first | (simp [entryFrame, mkF, argsToLocals, Value.category]; done) | rfl
def f1 (p0 : Int32) : Int32 := (if p0 < (97 : Int32) then (if p0 < (65 : Int32) then (0 : Int32) else (if (90 : Int32) < p0 then (0 : Int32) else (1 : Int32))) else (if (122 : Int32) < p0 then (if p0 < (65 : Int32) then (0 : Int32) else (if (90 : Int32) < p0 then (0 : Int32) else (1 : Int32))) else (1 : Int32)))
def Q1 (Z : State) (p0 : Int32) (h0 : Heap) (n0 : Nat) (v : Option Value) (h : Heap) (L : List Loc) : Prop := Fr n0 L ∧ v = some (.int (f1 p0)) ∧ h = h0
set_option maxRecDepth 65536 in
set_option maxHeartbeats 40000000 in
theorem rm1 (l : Launch) (Z : State) (a0 : Array Value) (hw : ∀ d ∈ tables_1, d.before a0 Z = true) (ws : List Jvm.Cond) (p0 : Int32) (h0 : Heap) (n0 : Nat) (Z0 : n0 ≤ h0.size)  :
    MetFree l (⟨"org/loomstyle/parse/Characters", "isLetter", "(I)Z"⟩ : MethodName) (head1 (Jvm.Cond.code (⟨"org/loomstyle/parse/Characters", "isLetter", "(I)Z"⟩ : MethodName) prog_140_method_5_code 1 (some .boolean) :: ws) ({ frames := 0, cells := 0, slots := 0, locals := 0 } : Room)) (fun a U => a = #[(.int p0)] ∧ Z.Warmed39 U.vm ∧ U.heap = h0) (fun _ _ _ _ _ => True) (fun _ U o U' => ∃ v L, o = .returned v ∧ Q1 Z p0 h0 n0 v U'.heap L ∧ FrameEnd U o U' L ({ frames := 0, cells := 0, slots := 0, locals := 0 } : Room).cells ({ frames := 0, cells := 0, slots := 0, locals := 0 } : Room).slots) := by
  refine MetFree.of_bodySF (plainFor_of_name pn_org_loomstyle_parse_Characters) hisR ?_
  intro p e s m args below meth c s₁ Bd hml0 hP hK
  obtain ⟨rfl, hZ, hh⟩ := hP
  have hx := Bd.exec
  have hby := Bd.bytes
  have hml : c.maxLocals = 1 := hml0
  have hown : s.vm.findClass "org/loomstyle/parse/Characters" = some m.cls := findClass_of_methodNamed Bd.named
  have hnm := (name_of_methodNamed Bd.named Bd.method).1
  have X0 : Stand p l e ({ frames := 0, cells := 0, slots := 0, locals := 0 } : Room) s m #[(.int p0)] below meth c s₁ [] 0 0 := Stand.of_body Bd
  have e0 : s₁.heap = h0 := by rw [← hh, Bd.state]; rfl
  have N0 := Fr.nil n0
  show own_Gl p e below (fun o U' => ∃ v L, o = .returned v ∧ Q1 Z p0 h0 n0 v U'.heap L ∧ FrameEnd s o U' L ({ frames := 0, cells := 0, slots := 0, locals := 0 } : Room).cells ({ frames := 0, cells := 0, slots := 0, locals := 0 } : Room).slots) (s₁.setTop (entryFrame m #[(.int p0)] 1))
  refine own_go (fun t k => castTop (ef_1 m p0) k) ?_
  show own_Gl _ _ _ _ (s₁.setTop (mkF m 0 #[.val (.int p0)] []))
  refine own_go (fun t k => XS.iloadN X0.here hx rfl (hb hby d1_0) rfl k) ?_
  show own_Gl _ _ _ _ (s₁.setTop (mkF m 1 #[.val (.int p0)] [(.int p0)]))
  refine own_go (fun t k => XS.bipush X0.here hx rfl (hb hby d1_1) k) ?_
  show own_Gl _ _ _ _ (s₁.setTop (mkF m 3 #[.val (.int p0)] [(.int (97 : Int32)), (.int p0)]))
  by_cases hc3_1 : p0 < (97 : Int32)
  · refine own_go (fun t k => XS.icmpYes X0.here hx rfl (pc0 := 3) (pc' := 12) rfl (hb hby d1_3) rfl (tlt hc3_1).1 (by decide) (by decide) k) ?_
    show own_Gl _ _ _ _ (s₁.setTop (mkF m 12 #[.val (.int p0)] []))
    refine own_go (fun t k => XS.iloadN X0.here hx rfl (hb hby d1_12) rfl k) ?_
    show own_Gl _ _ _ _ (s₁.setTop (mkF m 13 #[.val (.int p0)] [(.int p0)]))
    refine own_go (fun t k => XS.bipush X0.here hx rfl (hb hby d1_13) k) ?_
    show own_Gl _ _ _ _ (s₁.setTop (mkF m 15 #[.val (.int p0)] [(.int (65 : Int32)), (.int p0)]))
    by_cases hc15_2 : p0 < (65 : Int32)
    · refine own_go (fun t k => XS.icmpYes X0.here hx rfl (pc0 := 15) (pc' := 28) rfl (hb hby d1_15) rfl (tlt hc15_2).1 (by decide) (by decide) k) ?_
      show own_Gl _ _ _ _ (s₁.setTop (mkF m 28 #[.val (.int p0)] []))
      refine own_go (fun t k => XS.iconst X0.here hx rfl (hb hby d1_28) k) ?_
      show own_Gl _ _ _ _ (s₁.setTop (mkF m 29 #[.val (.int p0)] [(.int (0 : Int32))]))
      obtain ⟨fs, hr, hrun, hended, hW, hsame⟩ := X0.leave (v := some (.int (0 : Int32))) (fun h => by rw [Bd.returns] at h; cases h)
      refine own_fin (retN X0 hx (t := .boolean) Bd.returns (by simp) (hb hby d1_29) hr) hrun hended ⟨_, _, rfl, ?_, ⟨_, rfl⟩, hW, hsame.mono (by decide) (by decide)⟩
      show Q1 Z p0 h0 n0 _ s₁.heap _
      rw [e0]
      exact ⟨N0, by rw [f1, if_pos hc3_1, if_pos hc15_2], rfl⟩
    · refine own_go (fun t k => XS.icmpNo X0.here hx rfl (hb hby d1_15) rfl (flt hc15_2).1 k) ?_
      show own_Gl _ _ _ _ (s₁.setTop (mkF m 18 #[.val (.int p0)] []))
      refine own_go (fun t k => XS.iloadN X0.here hx rfl (hb hby d1_18) rfl k) ?_
      show own_Gl _ _ _ _ (s₁.setTop (mkF m 19 #[.val (.int p0)] [(.int p0)]))
      refine own_go (fun t k => XS.bipush X0.here hx rfl (hb hby d1_19) k) ?_
      show own_Gl _ _ _ _ (s₁.setTop (mkF m 21 #[.val (.int p0)] [(.int (90 : Int32)), (.int p0)]))
      by_cases hc21_3 : (90 : Int32) < p0
      · refine own_go (fun t k => XS.icmpYes X0.here hx rfl (pc0 := 21) (pc' := 28) rfl (hb hby d1_21) rfl (tlt hc21_3).2.2.1 (by decide) (by decide) k) ?_
        show own_Gl _ _ _ _ (s₁.setTop (mkF m 28 #[.val (.int p0)] []))
        refine own_go (fun t k => XS.iconst X0.here hx rfl (hb hby d1_28) k) ?_
        show own_Gl _ _ _ _ (s₁.setTop (mkF m 29 #[.val (.int p0)] [(.int (0 : Int32))]))
        obtain ⟨fs, hr, hrun, hended, hW, hsame⟩ := X0.leave (v := some (.int (0 : Int32))) (fun h => by rw [Bd.returns] at h; cases h)
        refine own_fin (retN X0 hx (t := .boolean) Bd.returns (by simp) (hb hby d1_29) hr) hrun hended ⟨_, _, rfl, ?_, ⟨_, rfl⟩, hW, hsame.mono (by decide) (by decide)⟩
        show Q1 Z p0 h0 n0 _ s₁.heap _
        rw [e0]
        exact ⟨N0, by rw [f1, if_pos hc3_1, if_neg hc15_2, if_pos hc21_3], rfl⟩
      · refine own_go (fun t k => XS.icmpNo X0.here hx rfl (hb hby d1_21) rfl (flt hc21_3).2.2.1 k) ?_
        show own_Gl _ _ _ _ (s₁.setTop (mkF m 24 #[.val (.int p0)] []))
        refine own_go (fun t k => XS.iconst X0.here hx rfl (hb hby d1_24) k) ?_
        show own_Gl _ _ _ _ (s₁.setTop (mkF m 25 #[.val (.int p0)] [(.int (1 : Int32))]))
        refine own_go (fun t k => XS.goto X0.here hx rfl (pc0 := 25) (pc' := 29) rfl (hb hby d1_25) (by decide) (by decide) k) ?_
        show own_Gl _ _ _ _ (s₁.setTop (mkF m 29 #[.val (.int p0)] [(.int (1 : Int32))]))
        obtain ⟨fs, hr, hrun, hended, hW, hsame⟩ := X0.leave (v := some (.int (1 : Int32))) (fun h => by rw [Bd.returns] at h; cases h)
        refine own_fin (retN X0 hx (t := .boolean) Bd.returns (by simp) (hb hby d1_29) hr) hrun hended ⟨_, _, rfl, ?_, ⟨_, rfl⟩, hW, hsame.mono (by decide) (by decide)⟩
        show Q1 Z p0 h0 n0 _ s₁.heap _
        rw [e0]
        exact ⟨N0, by rw [f1, if_pos hc3_1, if_neg hc15_2, if_neg hc21_3], rfl⟩
  · refine own_go (fun t k => XS.icmpNo X0.here hx rfl (hb hby d1_3) rfl (flt hc3_1).1 k) ?_
    show own_Gl _ _ _ _ (s₁.setTop (mkF m 6 #[.val (.int p0)] []))
    refine own_go (fun t k => XS.iloadN X0.here hx rfl (hb hby d1_6) rfl k) ?_
    show own_Gl _ _ _ _ (s₁.setTop (mkF m 7 #[.val (.int p0)] [(.int p0)]))
    refine own_go (fun t k => XS.bipush X0.here hx rfl (hb hby d1_7) k) ?_
    show own_Gl _ _ _ _ (s₁.setTop (mkF m 9 #[.val (.int p0)] [(.int (122 : Int32)), (.int p0)]))
    by_cases hc9_4 : (122 : Int32) < p0
    · refine own_go (fun t k => XS.icmpNo X0.here hx rfl (hb hby d1_9) rfl (tlt hc9_4).2.2.2 k) ?_
      show own_Gl _ _ _ _ (s₁.setTop (mkF m 12 #[.val (.int p0)] []))
      refine own_go (fun t k => XS.iloadN X0.here hx rfl (hb hby d1_12) rfl k) ?_
      show own_Gl _ _ _ _ (s₁.setTop (mkF m 13 #[.val (.int p0)] [(.int p0)]))
      refine own_go (fun t k => XS.bipush X0.here hx rfl (hb hby d1_13) k) ?_
      show own_Gl _ _ _ _ (s₁.setTop (mkF m 15 #[.val (.int p0)] [(.int (65 : Int32)), (.int p0)]))
      by_cases hc15_5 : p0 < (65 : Int32)
      · refine own_go (fun t k => XS.icmpYes X0.here hx rfl (pc0 := 15) (pc' := 28) rfl (hb hby d1_15) rfl (tlt hc15_5).1 (by decide) (by decide) k) ?_
        show own_Gl _ _ _ _ (s₁.setTop (mkF m 28 #[.val (.int p0)] []))
        refine own_go (fun t k => XS.iconst X0.here hx rfl (hb hby d1_28) k) ?_
        show own_Gl _ _ _ _ (s₁.setTop (mkF m 29 #[.val (.int p0)] [(.int (0 : Int32))]))
        obtain ⟨fs, hr, hrun, hended, hW, hsame⟩ := X0.leave (v := some (.int (0 : Int32))) (fun h => by rw [Bd.returns] at h; cases h)
        refine own_fin (retN X0 hx (t := .boolean) Bd.returns (by simp) (hb hby d1_29) hr) hrun hended ⟨_, _, rfl, ?_, ⟨_, rfl⟩, hW, hsame.mono (by decide) (by decide)⟩
        show Q1 Z p0 h0 n0 _ s₁.heap _
        rw [e0]
        exact ⟨N0, by rw [f1, if_neg hc3_1, if_pos hc9_4, if_pos hc15_5], rfl⟩
      · refine own_go (fun t k => XS.icmpNo X0.here hx rfl (hb hby d1_15) rfl (flt hc15_5).1 k) ?_
        show own_Gl _ _ _ _ (s₁.setTop (mkF m 18 #[.val (.int p0)] []))
        refine own_go (fun t k => XS.iloadN X0.here hx rfl (hb hby d1_18) rfl k) ?_
        show own_Gl _ _ _ _ (s₁.setTop (mkF m 19 #[.val (.int p0)] [(.int p0)]))
        refine own_go (fun t k => XS.bipush X0.here hx rfl (hb hby d1_19) k) ?_
        show own_Gl _ _ _ _ (s₁.setTop (mkF m 21 #[.val (.int p0)] [(.int (90 : Int32)), (.int p0)]))
        by_cases hc21_6 : (90 : Int32) < p0
        · refine own_go (fun t k => XS.icmpYes X0.here hx rfl (pc0 := 21) (pc' := 28) rfl (hb hby d1_21) rfl (tlt hc21_6).2.2.1 (by decide) (by decide) k) ?_
          show own_Gl _ _ _ _ (s₁.setTop (mkF m 28 #[.val (.int p0)] []))
          refine own_go (fun t k => XS.iconst X0.here hx rfl (hb hby d1_28) k) ?_
          show own_Gl _ _ _ _ (s₁.setTop (mkF m 29 #[.val (.int p0)] [(.int (0 : Int32))]))
          obtain ⟨fs, hr, hrun, hended, hW, hsame⟩ := X0.leave (v := some (.int (0 : Int32))) (fun h => by rw [Bd.returns] at h; cases h)
          refine own_fin (retN X0 hx (t := .boolean) Bd.returns (by simp) (hb hby d1_29) hr) hrun hended ⟨_, _, rfl, ?_, ⟨_, rfl⟩, hW, hsame.mono (by decide) (by decide)⟩
          show Q1 Z p0 h0 n0 _ s₁.heap _
          rw [e0]
          exact ⟨N0, by rw [f1, if_neg hc3_1, if_pos hc9_4, if_neg hc15_5, if_pos hc21_6], rfl⟩
        · refine own_go (fun t k => XS.icmpNo X0.here hx rfl (hb hby d1_21) rfl (flt hc21_6).2.2.1 k) ?_
          show own_Gl _ _ _ _ (s₁.setTop (mkF m 24 #[.val (.int p0)] []))
          refine own_go (fun t k => XS.iconst X0.here hx rfl (hb hby d1_24) k) ?_
          show own_Gl _ _ _ _ (s₁.setTop (mkF m 25 #[.val (.int p0)] [(.int (1 : Int32))]))
          refine own_go (fun t k => XS.goto X0.here hx rfl (pc0 := 25) (pc' := 29) rfl (hb hby d1_25) (by decide) (by decide) k) ?_
          show own_Gl _ _ _ _ (s₁.setTop (mkF m 29 #[.val (.int p0)] [(.int (1 : Int32))]))
          obtain ⟨fs, hr, hrun, hended, hW, hsame⟩ := X0.leave (v := some (.int (1 : Int32))) (fun h => by rw [Bd.returns] at h; cases h)
          refine own_fin (retN X0 hx (t := .boolean) Bd.returns (by simp) (hb hby d1_29) hr) hrun hended ⟨_, _, rfl, ?_, ⟨_, rfl⟩, hW, hsame.mono (by decide) (by decide)⟩
          show Q1 Z p0 h0 n0 _ s₁.heap _
          rw [e0]
          exact ⟨N0, by rw [f1, if_neg hc3_1, if_pos hc9_4, if_neg hc15_5, if_neg hc21_6], rfl⟩
    · refine own_go (fun t k => XS.icmpYes X0.here hx rfl (pc0 := 9) (pc' := 24) rfl (hb hby d1_9) rfl (flt hc9_4).2.2.2 (by decide) (by decide) k) ?_
      show own_Gl _ _ _ _ (s₁.setTop (mkF m 24 #[.val (.int p0)] []))
      refine own_go (fun t k => XS.iconst X0.here hx rfl (hb hby d1_24) k) ?_
      show own_Gl _ _ _ _ (s₁.setTop (mkF m 25 #[.val (.int p0)] [(.int (1 : Int32))]))
      refine own_go (fun t k => XS.goto X0.here hx rfl (pc0 := 25) (pc' := 29) rfl (hb hby d1_25) (by decide) (by decide) k) ?_
      show own_Gl _ _ _ _ (s₁.setTop (mkF m 29 #[.val (.int p0)] [(.int (1 : Int32))]))
      obtain ⟨fs, hr, hrun, hended, hW, hsame⟩ := X0.leave (v := some (.int (1 : Int32))) (fun h => by rw [Bd.returns] at h; cases h)
      refine own_fin (retN X0 hx (t := .boolean) Bd.returns (by simp) (hb hby d1_29) hr) hrun hended ⟨_, _, rfl, ?_, ⟨_, rfl⟩, hW, hsame.mono (by decide) (by decide)⟩
      show Q1 Z p0 h0 n0 _ s₁.heap _
      rw [e0]
      exact ⟨N0, by rw [f1, if_neg hc3_1, if_neg hc9_4], rfl⟩
theorem d2_0 : decode method_2_code 0 = .ok (.iload_n 0, 1) := by decide +kernel
theorem d2_1 : decode method_2_code 1 = .ok (.ifCond .lt 10, 3) := by decide +kernel
theorem d2_4 : decode method_2_code 4 = .ok (.iload_n 0, 1) := by decide +kernel
theorem d2_5 : decode method_2_code 5 = .ok (.sipush 128, 3) := by decide +kernel
theorem d2_8 : decode method_2_code 8 = .ok (.if_icmp .lt 5, 3) := by decide +kernel
theorem d2_11 : decode method_2_code 11 = .ok (.iconst 0, 1) := by decide +kernel
theorem d2_12 : decode method_2_code 12 = .ok (.ireturn, 1) := by decide +kernel
theorem d2_13 : decode method_2_code 13 = .ok (.iload_n 0, 1) := by decide +kernel
theorem d2_14 : decode method_2_code 14 = .ok (.bipush 32, 2) := by decide +kernel
theorem d2_16 : decode method_2_code 16 = .ok (.ior, 1) := by decide +kernel
theorem d2_17 : decode method_2_code 17 = .ok (.istore_n 1, 1) := by decide +kernel
theorem d2_18 : decode method_2_code 18 = .ok (.iload_n 1, 1) := by decide +kernel
theorem d2_19 : decode method_2_code 19 = .ok (.bipush 97, 2) := by decide +kernel
theorem d2_21 : decode method_2_code 21 = .ok (.if_icmp .lt 13, 3) := by decide +kernel
theorem d2_24 : decode method_2_code 24 = .ok (.iload_n 1, 1) := by decide +kernel
theorem d2_25 : decode method_2_code 25 = .ok (.bipush 122, 2) := by decide +kernel
theorem d2_27 : decode method_2_code 27 = .ok (.if_icmp .gt 7, 3) := by decide +kernel
theorem d2_30 : decode method_2_code 30 = .ok (.iconst 1, 1) := by decide +kernel
theorem d2_31 : decode method_2_code 31 = .ok (.goto 4, 3) := by decide +kernel
theorem d2_34 : decode method_2_code 34 = .ok (.iconst 0, 1) := by decide +kernel
theorem d2_35 : decode method_2_code 35 = .ok (.ireturn, 1) := by decide +kernel
theorem pn_org_loomstyle_parse_CharactersIsLetterPinLaw : plainName "org/loomstyle/parse/CharactersIsLetterPinLaw" = true := by first | (simp [plainName, overriddenIn]; done) | decide +kernel
theorem ef_2 (m : MethodId) (p0 : Int32) : entryFrame m #[(.int p0)] 2 = mkF m 0 #[.val (.int p0), .unset] [] := by first | (simp [entryFrame, mkF, argsToLocals, Value.category]; done) | rfl
def f2 (p0 : Int32) : Int32 := (if p0 < (0 : Int32) then (0 : Int32) else (if p0 < (128 : Int32) then (if (p0 ||| (32 : Int32)) < (97 : Int32) then (0 : Int32) else (if (122 : Int32) < (p0 ||| (32 : Int32)) then (0 : Int32) else (1 : Int32))) else (0 : Int32)))
def Q2 (Z : State) (p0 : Int32) (h0 : Heap) (n0 : Nat) (v : Option Value) (h : Heap) (L : List Loc) : Prop := Fr n0 L ∧ v = some (.int (f2 p0)) ∧ h = h0
set_option maxRecDepth 65536 in
set_option maxHeartbeats 40000000 in
theorem rm2 (l : Launch) (Z : State) (a0 : Array Value) (hw : ∀ d ∈ tables_1, d.before a0 Z = true) (ws : List Jvm.Cond) (p0 : Int32) (h0 : Heap) (n0 : Nat) (Z0 : n0 ≤ h0.size)  :
    MetFree l (⟨"org/loomstyle/parse/CharactersIsLetterPinLaw", "reference", "(I)Z"⟩ : MethodName) (head1 (Jvm.Cond.code (⟨"org/loomstyle/parse/CharactersIsLetterPinLaw", "reference", "(I)Z"⟩ : MethodName) method_2_code 2 (some .boolean) :: ws) ({ frames := 0, cells := 0, slots := 0, locals := 0 } : Room)) (fun a U => a = #[(.int p0)] ∧ Z.Warmed39 U.vm ∧ U.heap = h0) (fun _ _ _ _ _ => True) (fun _ U o U' => ∃ v L, o = .returned v ∧ Q2 Z p0 h0 n0 v U'.heap L ∧ FrameEnd U o U' L ({ frames := 0, cells := 0, slots := 0, locals := 0 } : Room).cells ({ frames := 0, cells := 0, slots := 0, locals := 0 } : Room).slots) := by
  refine MetFree.of_bodySF (plainFor_of_name pn_org_loomstyle_parse_CharactersIsLetterPinLaw) hisR ?_
  intro p e s m args below meth c s₁ Bd hml0 hP hK
  obtain ⟨rfl, hZ, hh⟩ := hP
  have hx := Bd.exec
  have hby := Bd.bytes
  have hml : c.maxLocals = 2 := hml0
  have hown : s.vm.findClass "org/loomstyle/parse/CharactersIsLetterPinLaw" = some m.cls := findClass_of_methodNamed Bd.named
  have hnm := (name_of_methodNamed Bd.named Bd.method).1
  have X0 : Stand p l e ({ frames := 0, cells := 0, slots := 0, locals := 0 } : Room) s m #[(.int p0)] below meth c s₁ [] 0 0 := Stand.of_body Bd
  have e0 : s₁.heap = h0 := by rw [← hh, Bd.state]; rfl
  have N0 := Fr.nil n0
  show own_Gl p e below (fun o U' => ∃ v L, o = .returned v ∧ Q2 Z p0 h0 n0 v U'.heap L ∧ FrameEnd s o U' L ({ frames := 0, cells := 0, slots := 0, locals := 0 } : Room).cells ({ frames := 0, cells := 0, slots := 0, locals := 0 } : Room).slots) (s₁.setTop (entryFrame m #[(.int p0)] 2))
  refine own_go (fun t k => castTop (ef_2 m p0) k) ?_
  show own_Gl _ _ _ _ (s₁.setTop (mkF m 0 #[.val (.int p0), .unset] []))
  refine own_go (fun t k => XS.iloadN X0.here hx rfl (hb hby d2_0) rfl k) ?_
  show own_Gl _ _ _ _ (s₁.setTop (mkF m 1 #[.val (.int p0), .unset] [(.int p0)]))
  by_cases hc1_7 : p0 < (0 : Int32)
  · refine own_go (fun t k => XS.ifYes X0.here hx rfl (pc0 := 1) (pc' := 11) rfl (hb hby d2_1) rfl ((if0 _ _).trans (tlt hc1_7).1) (by decide) (by decide) k) ?_
    show own_Gl _ _ _ _ (s₁.setTop (mkF m 11 #[.val (.int p0), .unset] []))
    refine own_go (fun t k => XS.iconst X0.here hx rfl (hb hby d2_11) k) ?_
    show own_Gl _ _ _ _ (s₁.setTop (mkF m 12 #[.val (.int p0), .unset] [(.int (0 : Int32))]))
    obtain ⟨fs, hr, hrun, hended, hW, hsame⟩ := X0.leave (v := some (.int (0 : Int32))) (fun h => by rw [Bd.returns] at h; cases h)
    refine own_fin (retN X0 hx (t := .boolean) Bd.returns (by simp) (hb hby d2_12) hr) hrun hended ⟨_, _, rfl, ?_, ⟨_, rfl⟩, hW, hsame.mono (by decide) (by decide)⟩
    show Q2 Z p0 h0 n0 _ s₁.heap _
    rw [e0]
    exact ⟨N0, by rw [f2, if_pos hc1_7], rfl⟩
  · refine own_go (fun t k => XS.ifNo X0.here hx rfl (hb hby d2_1) rfl ((if0 _ _).trans (flt hc1_7).1) k) ?_
    show own_Gl _ _ _ _ (s₁.setTop (mkF m 4 #[.val (.int p0), .unset] []))
    refine own_go (fun t k => XS.iloadN X0.here hx rfl (hb hby d2_4) rfl k) ?_
    show own_Gl _ _ _ _ (s₁.setTop (mkF m 5 #[.val (.int p0), .unset] [(.int p0)]))
    refine own_go (fun t k => XS.sipush X0.here hx rfl (hb hby d2_5) k) ?_
    show own_Gl _ _ _ _ (s₁.setTop (mkF m 8 #[.val (.int p0), .unset] [(.int (128 : Int32)), (.int p0)]))
    by_cases hc8_8 : p0 < (128 : Int32)
    · refine own_go (fun t k => XS.icmpYes X0.here hx rfl (pc0 := 8) (pc' := 13) rfl (hb hby d2_8) rfl (tlt hc8_8).1 (by decide) (by decide) k) ?_
      show own_Gl _ _ _ _ (s₁.setTop (mkF m 13 #[.val (.int p0), .unset] []))
      refine own_go (fun t k => XS.iloadN X0.here hx rfl (hb hby d2_13) rfl k) ?_
      show own_Gl _ _ _ _ (s₁.setTop (mkF m 14 #[.val (.int p0), .unset] [(.int p0)]))
      refine own_go (fun t k => XS.bipush X0.here hx rfl (hb hby d2_14) k) ?_
      show own_Gl _ _ _ _ (s₁.setTop (mkF m 16 #[.val (.int p0), .unset] [(.int (32 : Int32)), (.int p0)]))
      refine own_go (fun t k => XS.ior X0.here hx rfl (hb hby d2_16) rfl k) ?_
      show own_Gl _ _ _ _ (s₁.setTop (mkF m 17 #[.val (.int p0), .unset] [(.int (p0 ||| (32 : Int32)))]))
      refine own_go (fun t k => XS.istoreN X0.here hx rfl (hb hby d2_17) rfl (l' := #[.val (.int p0), .val (.int (p0 ||| (32 : Int32)))]) rfl k) ?_
      show own_Gl _ _ _ _ (s₁.setTop (mkF m 18 #[.val (.int p0), .val (.int (p0 ||| (32 : Int32)))] []))
      refine own_go (fun t k => XS.iloadN X0.here hx rfl (hb hby d2_18) rfl k) ?_
      show own_Gl _ _ _ _ (s₁.setTop (mkF m 19 #[.val (.int p0), .val (.int (p0 ||| (32 : Int32)))] [(.int (p0 ||| (32 : Int32)))]))
      refine own_go (fun t k => XS.bipush X0.here hx rfl (hb hby d2_19) k) ?_
      show own_Gl _ _ _ _ (s₁.setTop (mkF m 21 #[.val (.int p0), .val (.int (p0 ||| (32 : Int32)))] [(.int (97 : Int32)), (.int (p0 ||| (32 : Int32)))]))
      by_cases hc21_9 : (p0 ||| (32 : Int32)) < (97 : Int32)
      · refine own_go (fun t k => XS.icmpYes X0.here hx rfl (pc0 := 21) (pc' := 34) rfl (hb hby d2_21) rfl (tlt hc21_9).1 (by decide) (by decide) k) ?_
        show own_Gl _ _ _ _ (s₁.setTop (mkF m 34 #[.val (.int p0), .val (.int (p0 ||| (32 : Int32)))] []))
        refine own_go (fun t k => XS.iconst X0.here hx rfl (hb hby d2_34) k) ?_
        show own_Gl _ _ _ _ (s₁.setTop (mkF m 35 #[.val (.int p0), .val (.int (p0 ||| (32 : Int32)))] [(.int (0 : Int32))]))
        obtain ⟨fs, hr, hrun, hended, hW, hsame⟩ := X0.leave (v := some (.int (0 : Int32))) (fun h => by rw [Bd.returns] at h; cases h)
        refine own_fin (retN X0 hx (t := .boolean) Bd.returns (by simp) (hb hby d2_35) hr) hrun hended ⟨_, _, rfl, ?_, ⟨_, rfl⟩, hW, hsame.mono (by decide) (by decide)⟩
        show Q2 Z p0 h0 n0 _ s₁.heap _
        rw [e0]
        exact ⟨N0, by rw [f2, if_neg hc1_7, if_pos hc8_8, if_pos hc21_9], rfl⟩
      · refine own_go (fun t k => XS.icmpNo X0.here hx rfl (hb hby d2_21) rfl (flt hc21_9).1 k) ?_
        show own_Gl _ _ _ _ (s₁.setTop (mkF m 24 #[.val (.int p0), .val (.int (p0 ||| (32 : Int32)))] []))
        refine own_go (fun t k => XS.iloadN X0.here hx rfl (hb hby d2_24) rfl k) ?_
        show own_Gl _ _ _ _ (s₁.setTop (mkF m 25 #[.val (.int p0), .val (.int (p0 ||| (32 : Int32)))] [(.int (p0 ||| (32 : Int32)))]))
        refine own_go (fun t k => XS.bipush X0.here hx rfl (hb hby d2_25) k) ?_
        show own_Gl _ _ _ _ (s₁.setTop (mkF m 27 #[.val (.int p0), .val (.int (p0 ||| (32 : Int32)))] [(.int (122 : Int32)), (.int (p0 ||| (32 : Int32)))]))
        by_cases hc27_10 : (122 : Int32) < (p0 ||| (32 : Int32))
        · refine own_go (fun t k => XS.icmpYes X0.here hx rfl (pc0 := 27) (pc' := 34) rfl (hb hby d2_27) rfl (tlt hc27_10).2.2.1 (by decide) (by decide) k) ?_
          show own_Gl _ _ _ _ (s₁.setTop (mkF m 34 #[.val (.int p0), .val (.int (p0 ||| (32 : Int32)))] []))
          refine own_go (fun t k => XS.iconst X0.here hx rfl (hb hby d2_34) k) ?_
          show own_Gl _ _ _ _ (s₁.setTop (mkF m 35 #[.val (.int p0), .val (.int (p0 ||| (32 : Int32)))] [(.int (0 : Int32))]))
          obtain ⟨fs, hr, hrun, hended, hW, hsame⟩ := X0.leave (v := some (.int (0 : Int32))) (fun h => by rw [Bd.returns] at h; cases h)
          refine own_fin (retN X0 hx (t := .boolean) Bd.returns (by simp) (hb hby d2_35) hr) hrun hended ⟨_, _, rfl, ?_, ⟨_, rfl⟩, hW, hsame.mono (by decide) (by decide)⟩
          show Q2 Z p0 h0 n0 _ s₁.heap _
          rw [e0]
          exact ⟨N0, by rw [f2, if_neg hc1_7, if_pos hc8_8, if_neg hc21_9, if_pos hc27_10], rfl⟩
        · refine own_go (fun t k => XS.icmpNo X0.here hx rfl (hb hby d2_27) rfl (flt hc27_10).2.2.1 k) ?_
          show own_Gl _ _ _ _ (s₁.setTop (mkF m 30 #[.val (.int p0), .val (.int (p0 ||| (32 : Int32)))] []))
          refine own_go (fun t k => XS.iconst X0.here hx rfl (hb hby d2_30) k) ?_
          show own_Gl _ _ _ _ (s₁.setTop (mkF m 31 #[.val (.int p0), .val (.int (p0 ||| (32 : Int32)))] [(.int (1 : Int32))]))
          refine own_go (fun t k => XS.goto X0.here hx rfl (pc0 := 31) (pc' := 35) rfl (hb hby d2_31) (by decide) (by decide) k) ?_
          show own_Gl _ _ _ _ (s₁.setTop (mkF m 35 #[.val (.int p0), .val (.int (p0 ||| (32 : Int32)))] [(.int (1 : Int32))]))
          obtain ⟨fs, hr, hrun, hended, hW, hsame⟩ := X0.leave (v := some (.int (1 : Int32))) (fun h => by rw [Bd.returns] at h; cases h)
          refine own_fin (retN X0 hx (t := .boolean) Bd.returns (by simp) (hb hby d2_35) hr) hrun hended ⟨_, _, rfl, ?_, ⟨_, rfl⟩, hW, hsame.mono (by decide) (by decide)⟩
          show Q2 Z p0 h0 n0 _ s₁.heap _
          rw [e0]
          exact ⟨N0, by rw [f2, if_neg hc1_7, if_pos hc8_8, if_neg hc21_9, if_neg hc27_10], rfl⟩
    · refine own_go (fun t k => XS.icmpNo X0.here hx rfl (hb hby d2_8) rfl (flt hc8_8).1 k) ?_
      show own_Gl _ _ _ _ (s₁.setTop (mkF m 11 #[.val (.int p0), .unset] []))
      refine own_go (fun t k => XS.iconst X0.here hx rfl (hb hby d2_11) k) ?_
      show own_Gl _ _ _ _ (s₁.setTop (mkF m 12 #[.val (.int p0), .unset] [(.int (0 : Int32))]))
      obtain ⟨fs, hr, hrun, hended, hW, hsame⟩ := X0.leave (v := some (.int (0 : Int32))) (fun h => by rw [Bd.returns] at h; cases h)
      refine own_fin (retN X0 hx (t := .boolean) Bd.returns (by simp) (hb hby d2_12) hr) hrun hended ⟨_, _, rfl, ?_, ⟨_, rfl⟩, hW, hsame.mono (by decide) (by decide)⟩
      show Q2 Z p0 h0 n0 _ s₁.heap _
      rw [e0]
      exact ⟨N0, by rw [f2, if_neg hc1_7, if_neg hc8_8], rfl⟩
theorem ef_0 (m : MethodId) (p0 : Int32) (p1 : Int32) : entryFrame m #[(.int p0), (.int p1)] maxLocals = mkF m 0 #[.val (.int p0), .val (.int p1), .unset] [] := by first | (simp [entryFrame, mkF, argsToLocals, Value.category, maxLocals]; done) | rfl
theorem pd_0 : parseMethodDescriptor "(I)Z" = some ⟨[.int], some .boolean⟩ := by decide +kernel
def f0 (p0 : Int32) (p1 : Int32) : Int32 := (if (p1 &&& (1 : Int32)) = (0 : Int32) then (if (f1 p0) = (f2 p0) then (1 : Int32) else (0 : Int32)) else (if (f1 ((p0 &&& (511 : Int32)) - (1 : Int32))) = (f2 ((p0 &&& (511 : Int32)) - (1 : Int32))) then (1 : Int32) else (0 : Int32)))
def Q0 (Z : State) (p0 : Int32) (p1 : Int32) (h0 : Heap) (n0 : Nat) (v : Option Value) (h : Heap) (L : List Loc) : Prop := Fr n0 L ∧ v = some (.int (f0 p0 p1))
set_option maxRecDepth 65536 in
set_option maxHeartbeats 40000000 in
theorem rm0 (l : Launch) (Z : State) (a0 : Array Value) (hw : ∀ d ∈ tables_1, d.before a0 Z = true) (ws : List Jvm.Cond) (p0 : Int32) (p1 : Int32) (h0 : Heap) (n0 : Nat) (Z0 : n0 ≤ h0.size)  :
    MetFree l x (head1 (Jvm.Cond.code x code maxLocals ret :: ws) room_1) (fun a U => a = #[(.int p0), (.int p1)] ∧ Z.Warmed39 U.vm ∧ U.heap = h0) (fun _ _ _ _ _ => True) (fun _ U o U' => ∃ v L, o = .returned v ∧ Q0 Z p0 p1 h0 n0 v U'.heap L ∧ FrameEnd U o U' L room_1.cells room_1.slots) := by
  refine MetFree.of_bodySF (plainFor_of_name pn_org_loomstyle_parse_CharactersIsLetterPinLaw) hisR ?_
  intro p e s m args below meth c s₁ Bd hml0 hP hK
  obtain ⟨rfl, hZ, hh⟩ := hP
  have hx := Bd.exec
  have hby := Bd.bytes
  have hml : c.maxLocals = 3 := hml0
  have hown : s.vm.findClass "org/loomstyle/parse/CharactersIsLetterPinLaw" = some m.cls := findClass_of_methodNamed Bd.named
  have hnm := (name_of_methodNamed Bd.named Bd.method).1
  have X0 : Stand p l e room_1 s m #[(.int p0), (.int p1)] below meth c s₁ [] 0 0 := Stand.of_body Bd
  have e0 : s₁.heap = h0 := by rw [← hh, Bd.state]; rfl
  have N0 := Fr.nil n0
  show own_Gl p e below (fun o U' => ∃ v L, o = .returned v ∧ Q0 Z p0 p1 h0 n0 v U'.heap L ∧ FrameEnd s o U' L room_1.cells room_1.slots) (s₁.setTop (entryFrame m #[(.int p0), (.int p1)] maxLocals))
  refine own_go (fun t k => castTop (ef_0 m p0 p1) k) ?_
  show own_Gl _ _ _ _ (s₁.setTop (mkF m 0 #[.val (.int p0), .val (.int p1), .unset] []))
  refine own_go (fun t k => XS.iloadN X0.here hx rfl (hb hby at_0) rfl k) ?_
  show own_Gl _ _ _ _ (s₁.setTop (mkF m 1 #[.val (.int p0), .val (.int p1), .unset] [(.int p1)]))
  refine own_go (fun t k => XS.iconst X0.here hx rfl (hb hby at_1) k) ?_
  show own_Gl _ _ _ _ (s₁.setTop (mkF m 2 #[.val (.int p0), .val (.int p1), .unset] [(.int (1 : Int32)), (.int p1)]))
  refine own_go (fun t k => XS.iand X0.here hx rfl (hb hby at_2) rfl k) ?_
  show own_Gl _ _ _ _ (s₁.setTop (mkF m 3 #[.val (.int p0), .val (.int p1), .unset] [(.int (p1 &&& (1 : Int32)))]))
  by_cases hc3_11 : (p1 &&& (1 : Int32)) = (0 : Int32)
  · refine own_go (fun t k => XS.ifNo X0.here hx rfl (hb hby at_3) rfl ((if0 _ _).trans (teq hc3_11).2) k) ?_
    show own_Gl _ _ _ _ (s₁.setTop (mkF m 6 #[.val (.int p0), .val (.int p1), .unset] []))
    refine own_go (fun t k => XS.iloadN X0.here hx rfl (hb hby at_6) rfl k) ?_
    show own_Gl _ _ _ _ (s₁.setTop (mkF m 7 #[.val (.int p0), .val (.int p1), .unset] [(.int p0)]))
    refine own_go (fun t k => XS.istoreN X0.here hx rfl (hb hby at_7) rfl (l' := #[.val (.int p0), .val (.int p1), .val (.int p0)]) rfl k) ?_
    show own_Gl _ _ _ _ (s₁.setTop (mkF m 8 #[.val (.int p0), .val (.int p1), .val (.int p0)] []))
    refine own_go (fun t k => XS.goto X0.here hx rfl (pc0 := 8) (pc' := 19) rfl (hb hby at_8) (by decide) (by decide) k) ?_
    show own_Gl _ _ _ _ (s₁.setTop (mkF m 19 #[.val (.int p0), .val (.int p1), .val (.int p0)] []))
    refine own_go (fun t k => XS.iloadN X0.here hx rfl (hb hby at_19) rfl k) ?_
    show own_Gl _ _ _ _ (s₁.setTop (mkF m 20 #[.val (.int p0), .val (.int p1), .val (.int p0)] [(.int p0)]))
    obtain ⟨_, _, ⟨T12, L12, kk12, nn12⟩, -, X12, ⟨Lc12, hQ12, l12, y12, z12⟩, st12⟩ := Jvm.LawKit.callS X0 hx (y := (⟨"org/loomstyle/parse/Characters", "isLetter", "(I)Z"⟩ : MethodName)) hown (mvT hZ (hw _ (List.mem_of_getElem? (i := 0) rfl))) (mvT hZ (hw _ (List.mem_of_getElem? (i := 1) rfl))) (mvT hZ (hw _ (List.mem_of_getElem? (i := 2) rfl))) (mvT hZ (hw _ (List.mem_of_getElem? (i := 3) rfl))) (by decide) (backOf (W := 0) (rm1 l Z a0 hw [] p0 h0 n0 Z0 ) hZ (hw _ (List.mem_of_getElem? (i := 3) rfl)) (hw _ (List.mem_of_getElem? (i := 2) rfl)) (by decide) (by decide)) (g := (mkF m 20 #[.val (.int p0), .val (.int p1), .val (.int p0)] [(.int p0)])) rfl (by rw [hml]; rfl) (argsL := [(.int p0)]) (rest := []) (lenOf pd_0 rfl) rfl (by show 2 * 0 + _ ≤ _; exact Nat.le_of_eq rfl) (hb hby at_20) (fun _ _ => ⟨rfl, e0, (by decide : 0 + 0 ≤ _), (by decide : 0 + 0 ≤ _)⟩)
    dsimp only [Pt.U, Pt.locs, Pt.cells, Pt.slots] at X12 l12 y12 z12 st12 hQ12
    subst l12 y12 z12
    obtain ⟨N12q, rfl, hq12⟩ := hQ12
    have N12 := Fr.app N0 N12q
    refine own_go (fun t k => st12 _ k) ?_
    show own_Gl _ _ _ _ (T12.setTop (mkF m 23 #[.val (.int p0), .val (.int p1), .val (.int p0)] [(.int (f1 p0))]))
    refine own_go (fun t k => XS.iloadN X12.here hx rfl (hb hby at_23) rfl k) ?_
    show own_Gl _ _ _ _ (T12.setTop (mkF m 24 #[.val (.int p0), .val (.int p1), .val (.int p0)] [(.int p0), (.int (f1 p0))]))
    obtain ⟨_, _, ⟨T13, L13, kk13, nn13⟩, -, X13, ⟨Lc13, hQ13, l13, y13, z13⟩, st13⟩ := Jvm.LawKit.callS X12 hx (y := (⟨"org/loomstyle/parse/CharactersIsLetterPinLaw", "reference", "(I)Z"⟩ : MethodName)) hown (mvT hZ (hw _ (List.mem_of_getElem? (i := 4) rfl))) (mvT hZ (hw _ (List.mem_of_getElem? (i := 5) rfl))) (mvT hZ (hw _ (List.mem_of_getElem? (i := 6) rfl))) (mvT hZ (hw _ (List.mem_of_getElem? (i := 7) rfl))) (by decide) (backOf (W := 1) (rm2 l Z a0 hw [] p0 h0 n0 Z0 ) hZ (hw _ (List.mem_of_getElem? (i := 7) rfl)) (hw _ (List.mem_of_getElem? (i := 6) rfl)) (by decide) (by decide)) (g := (mkF m 24 #[.val (.int p0), .val (.int p1), .val (.int p0)] [(.int p0), (.int (f1 p0))])) rfl (by rw [hml]; rfl) (argsL := [(.int p0)]) (rest := [(.int (f1 p0))]) (lenOf pd_0 rfl) rfl (by show 2 * 0 + _ ≤ _; exact Nat.le_of_eq rfl) (hb hby at_24) (fun _ _ => ⟨rfl, hq12, (by decide : 0 + 0 ≤ _), (by decide : 0 + 0 ≤ _)⟩)
    dsimp only [Pt.U, Pt.locs, Pt.cells, Pt.slots] at X13 l13 y13 z13 st13 hQ13
    subst l13 y13 z13
    obtain ⟨N13q, rfl, hq13⟩ := hQ13
    have N13 := Fr.app N12 N13q
    refine own_go (fun t k => st13 _ k) ?_
    show own_Gl _ _ _ _ (T13.setTop (mkF m 27 #[.val (.int p0), .val (.int p1), .val (.int p0)] [(.int (f2 p0)), (.int (f1 p0))]))
    by_cases hc27_14 : (f1 p0) = (f2 p0)
    · refine own_go (fun t k => XS.icmpNo X13.here hx rfl (hb hby at_27) rfl (teq hc27_14).2 k) ?_
      show own_Gl _ _ _ _ (T13.setTop (mkF m 30 #[.val (.int p0), .val (.int p1), .val (.int p0)] []))
      refine own_go (fun t k => XS.iconst X13.here hx rfl (hb hby at_30) k) ?_
      show own_Gl _ _ _ _ (T13.setTop (mkF m 31 #[.val (.int p0), .val (.int p1), .val (.int p0)] [(.int (1 : Int32))]))
      refine own_go (fun t k => XS.goto X13.here hx rfl (pc0 := 31) (pc' := 35) rfl (hb hby at_31) (by decide) (by decide) k) ?_
      show own_Gl _ _ _ _ (T13.setTop (mkF m 35 #[.val (.int p0), .val (.int p1), .val (.int p0)] [(.int (1 : Int32))]))
      obtain ⟨fs, hr, hrun, hended, hW, hsame⟩ := X13.leave (v := some (.int (1 : Int32))) (fun h => by rw [Bd.returns] at h; cases h)
      refine own_fin (retN X13 hx (t := .boolean) Bd.returns (by simp) (hb hby at_35) hr) hrun hended ⟨_, _, rfl, ?_, ⟨_, rfl⟩, hW, hsame.mono (by decide) (by decide)⟩
      show Q0 Z p0 p1 h0 n0 _ T13.heap _
      rw [hq13]
      exact ⟨N13, by rw [f0, if_pos hc3_11, if_pos hc27_14]⟩
    · refine own_go (fun t k => XS.icmpYes X13.here hx rfl (pc0 := 27) (pc' := 34) rfl (hb hby at_27) rfl (feq hc27_14).2 (by decide) (by decide) k) ?_
      show own_Gl _ _ _ _ (T13.setTop (mkF m 34 #[.val (.int p0), .val (.int p1), .val (.int p0)] []))
      refine own_go (fun t k => XS.iconst X13.here hx rfl (hb hby at_34) k) ?_
      show own_Gl _ _ _ _ (T13.setTop (mkF m 35 #[.val (.int p0), .val (.int p1), .val (.int p0)] [(.int (0 : Int32))]))
      obtain ⟨fs, hr, hrun, hended, hW, hsame⟩ := X13.leave (v := some (.int (0 : Int32))) (fun h => by rw [Bd.returns] at h; cases h)
      refine own_fin (retN X13 hx (t := .boolean) Bd.returns (by simp) (hb hby at_35) hr) hrun hended ⟨_, _, rfl, ?_, ⟨_, rfl⟩, hW, hsame.mono (by decide) (by decide)⟩
      show Q0 Z p0 p1 h0 n0 _ T13.heap _
      rw [hq13]
      exact ⟨N13, by rw [f0, if_pos hc3_11, if_neg hc27_14]⟩
  · refine own_go (fun t k => XS.ifYes X0.here hx rfl (pc0 := 3) (pc' := 11) rfl (hb hby at_3) rfl ((if0 _ _).trans (feq hc3_11).2) (by decide) (by decide) k) ?_
    show own_Gl _ _ _ _ (s₁.setTop (mkF m 11 #[.val (.int p0), .val (.int p1), .unset] []))
    refine own_go (fun t k => XS.iloadN X0.here hx rfl (hb hby at_11) rfl k) ?_
    show own_Gl _ _ _ _ (s₁.setTop (mkF m 12 #[.val (.int p0), .val (.int p1), .unset] [(.int p0)]))
    refine own_go (fun t k => XS.sipush X0.here hx rfl (hb hby at_12) k) ?_
    show own_Gl _ _ _ _ (s₁.setTop (mkF m 15 #[.val (.int p0), .val (.int p1), .unset] [(.int (511 : Int32)), (.int p0)]))
    refine own_go (fun t k => XS.iand X0.here hx rfl (hb hby at_15) rfl k) ?_
    show own_Gl _ _ _ _ (s₁.setTop (mkF m 16 #[.val (.int p0), .val (.int p1), .unset] [(.int (p0 &&& (511 : Int32)))]))
    refine own_go (fun t k => XS.iconst X0.here hx rfl (hb hby at_16) k) ?_
    show own_Gl _ _ _ _ (s₁.setTop (mkF m 17 #[.val (.int p0), .val (.int p1), .unset] [(.int (1 : Int32)), (.int (p0 &&& (511 : Int32)))]))
    refine own_go (fun t k => XS.isub X0.here hx rfl (hb hby at_17) rfl k) ?_
    show own_Gl _ _ _ _ (s₁.setTop (mkF m 18 #[.val (.int p0), .val (.int p1), .unset] [(.int ((p0 &&& (511 : Int32)) - (1 : Int32)))]))
    refine own_go (fun t k => XS.istoreN X0.here hx rfl (hb hby at_18) rfl (l' := #[.val (.int p0), .val (.int p1), .val (.int ((p0 &&& (511 : Int32)) - (1 : Int32)))]) rfl k) ?_
    show own_Gl _ _ _ _ (s₁.setTop (mkF m 19 #[.val (.int p0), .val (.int p1), .val (.int ((p0 &&& (511 : Int32)) - (1 : Int32)))] []))
    refine own_go (fun t k => XS.iloadN X0.here hx rfl (hb hby at_19) rfl k) ?_
    show own_Gl _ _ _ _ (s₁.setTop (mkF m 20 #[.val (.int p0), .val (.int p1), .val (.int ((p0 &&& (511 : Int32)) - (1 : Int32)))] [(.int ((p0 &&& (511 : Int32)) - (1 : Int32)))]))
    obtain ⟨_, _, ⟨T15, L15, kk15, nn15⟩, -, X15, ⟨Lc15, hQ15, l15, y15, z15⟩, st15⟩ := Jvm.LawKit.callS X0 hx (y := (⟨"org/loomstyle/parse/Characters", "isLetter", "(I)Z"⟩ : MethodName)) hown (mvT hZ (hw _ (List.mem_of_getElem? (i := 0) rfl))) (mvT hZ (hw _ (List.mem_of_getElem? (i := 1) rfl))) (mvT hZ (hw _ (List.mem_of_getElem? (i := 2) rfl))) (mvT hZ (hw _ (List.mem_of_getElem? (i := 3) rfl))) (by decide) (backOf (W := 0) (rm1 l Z a0 hw [] ((p0 &&& (511 : Int32)) - (1 : Int32)) h0 n0 Z0 ) hZ (hw _ (List.mem_of_getElem? (i := 3) rfl)) (hw _ (List.mem_of_getElem? (i := 2) rfl)) (by decide) (by decide)) (g := (mkF m 20 #[.val (.int p0), .val (.int p1), .val (.int ((p0 &&& (511 : Int32)) - (1 : Int32)))] [(.int ((p0 &&& (511 : Int32)) - (1 : Int32)))])) rfl (by rw [hml]; rfl) (argsL := [(.int ((p0 &&& (511 : Int32)) - (1 : Int32)))]) (rest := []) (lenOf pd_0 rfl) rfl (by show 2 * 0 + _ ≤ _; exact Nat.le_of_eq rfl) (hb hby at_20) (fun _ _ => ⟨rfl, e0, (by decide : 0 + 0 ≤ _), (by decide : 0 + 0 ≤ _)⟩)
    dsimp only [Pt.U, Pt.locs, Pt.cells, Pt.slots] at X15 l15 y15 z15 st15 hQ15
    subst l15 y15 z15
    obtain ⟨N15q, rfl, hq15⟩ := hQ15
    have N15 := Fr.app N0 N15q
    refine own_go (fun t k => st15 _ k) ?_
    show own_Gl _ _ _ _ (T15.setTop (mkF m 23 #[.val (.int p0), .val (.int p1), .val (.int ((p0 &&& (511 : Int32)) - (1 : Int32)))] [(.int (f1 ((p0 &&& (511 : Int32)) - (1 : Int32))))]))
    refine own_go (fun t k => XS.iloadN X15.here hx rfl (hb hby at_23) rfl k) ?_
    show own_Gl _ _ _ _ (T15.setTop (mkF m 24 #[.val (.int p0), .val (.int p1), .val (.int ((p0 &&& (511 : Int32)) - (1 : Int32)))] [(.int ((p0 &&& (511 : Int32)) - (1 : Int32))), (.int (f1 ((p0 &&& (511 : Int32)) - (1 : Int32))))]))
    obtain ⟨_, _, ⟨T16, L16, kk16, nn16⟩, -, X16, ⟨Lc16, hQ16, l16, y16, z16⟩, st16⟩ := Jvm.LawKit.callS X15 hx (y := (⟨"org/loomstyle/parse/CharactersIsLetterPinLaw", "reference", "(I)Z"⟩ : MethodName)) hown (mvT hZ (hw _ (List.mem_of_getElem? (i := 4) rfl))) (mvT hZ (hw _ (List.mem_of_getElem? (i := 5) rfl))) (mvT hZ (hw _ (List.mem_of_getElem? (i := 6) rfl))) (mvT hZ (hw _ (List.mem_of_getElem? (i := 7) rfl))) (by decide) (backOf (W := 1) (rm2 l Z a0 hw [] ((p0 &&& (511 : Int32)) - (1 : Int32)) h0 n0 Z0 ) hZ (hw _ (List.mem_of_getElem? (i := 7) rfl)) (hw _ (List.mem_of_getElem? (i := 6) rfl)) (by decide) (by decide)) (g := (mkF m 24 #[.val (.int p0), .val (.int p1), .val (.int ((p0 &&& (511 : Int32)) - (1 : Int32)))] [(.int ((p0 &&& (511 : Int32)) - (1 : Int32))), (.int (f1 ((p0 &&& (511 : Int32)) - (1 : Int32))))])) rfl (by rw [hml]; rfl) (argsL := [(.int ((p0 &&& (511 : Int32)) - (1 : Int32)))]) (rest := [(.int (f1 ((p0 &&& (511 : Int32)) - (1 : Int32))))]) (lenOf pd_0 rfl) rfl (by show 2 * 0 + _ ≤ _; exact Nat.le_of_eq rfl) (hb hby at_24) (fun _ _ => ⟨rfl, hq15, (by decide : 0 + 0 ≤ _), (by decide : 0 + 0 ≤ _)⟩)
    dsimp only [Pt.U, Pt.locs, Pt.cells, Pt.slots] at X16 l16 y16 z16 st16 hQ16
    subst l16 y16 z16
    obtain ⟨N16q, rfl, hq16⟩ := hQ16
    have N16 := Fr.app N15 N16q
    refine own_go (fun t k => st16 _ k) ?_
    show own_Gl _ _ _ _ (T16.setTop (mkF m 27 #[.val (.int p0), .val (.int p1), .val (.int ((p0 &&& (511 : Int32)) - (1 : Int32)))] [(.int (f2 ((p0 &&& (511 : Int32)) - (1 : Int32)))), (.int (f1 ((p0 &&& (511 : Int32)) - (1 : Int32))))]))
    by_cases hc27_17 : (f1 ((p0 &&& (511 : Int32)) - (1 : Int32))) = (f2 ((p0 &&& (511 : Int32)) - (1 : Int32)))
    · refine own_go (fun t k => XS.icmpNo X16.here hx rfl (hb hby at_27) rfl (teq hc27_17).2 k) ?_
      show own_Gl _ _ _ _ (T16.setTop (mkF m 30 #[.val (.int p0), .val (.int p1), .val (.int ((p0 &&& (511 : Int32)) - (1 : Int32)))] []))
      refine own_go (fun t k => XS.iconst X16.here hx rfl (hb hby at_30) k) ?_
      show own_Gl _ _ _ _ (T16.setTop (mkF m 31 #[.val (.int p0), .val (.int p1), .val (.int ((p0 &&& (511 : Int32)) - (1 : Int32)))] [(.int (1 : Int32))]))
      refine own_go (fun t k => XS.goto X16.here hx rfl (pc0 := 31) (pc' := 35) rfl (hb hby at_31) (by decide) (by decide) k) ?_
      show own_Gl _ _ _ _ (T16.setTop (mkF m 35 #[.val (.int p0), .val (.int p1), .val (.int ((p0 &&& (511 : Int32)) - (1 : Int32)))] [(.int (1 : Int32))]))
      obtain ⟨fs, hr, hrun, hended, hW, hsame⟩ := X16.leave (v := some (.int (1 : Int32))) (fun h => by rw [Bd.returns] at h; cases h)
      refine own_fin (retN X16 hx (t := .boolean) Bd.returns (by simp) (hb hby at_35) hr) hrun hended ⟨_, _, rfl, ?_, ⟨_, rfl⟩, hW, hsame.mono (by decide) (by decide)⟩
      show Q0 Z p0 p1 h0 n0 _ T16.heap _
      rw [hq16]
      exact ⟨N16, by rw [f0, if_neg hc3_11, if_pos hc27_17]⟩
    · refine own_go (fun t k => XS.icmpYes X16.here hx rfl (pc0 := 27) (pc' := 34) rfl (hb hby at_27) rfl (feq hc27_17).2 (by decide) (by decide) k) ?_
      show own_Gl _ _ _ _ (T16.setTop (mkF m 34 #[.val (.int p0), .val (.int p1), .val (.int ((p0 &&& (511 : Int32)) - (1 : Int32)))] []))
      refine own_go (fun t k => XS.iconst X16.here hx rfl (hb hby at_34) k) ?_
      show own_Gl _ _ _ _ (T16.setTop (mkF m 35 #[.val (.int p0), .val (.int p1), .val (.int ((p0 &&& (511 : Int32)) - (1 : Int32)))] [(.int (0 : Int32))]))
      obtain ⟨fs, hr, hrun, hended, hW, hsame⟩ := X16.leave (v := some (.int (0 : Int32))) (fun h => by rw [Bd.returns] at h; cases h)
      refine own_fin (retN X16 hx (t := .boolean) Bd.returns (by simp) (hb hby at_35) hr) hrun hended ⟨_, _, rfl, ?_, ⟨_, rfl⟩, hW, hsame.mono (by decide) (by decide)⟩
      show Q0 Z p0 p1 h0 n0 _ T16.heap _
      rw [hq16]
      exact ⟨N16, by rw [f0, if_neg hc3_11, if_neg hc27_17]⟩
theorem own_i32 (c : Int32) : c = Int32.ofInt c.toInt := (Int32.ofInt_toInt c).symm
/-- an int from 0 up to n, as a natural below n -/
theorem own_range (n : Nat) (c : Int32) (h0 : 0 ≤ c.toInt) (h1 : c.toInt < n) : ∃ k : Fin n, c = Int32.ofInt (k.val : Int) := by
  refine ⟨⟨c.toInt.toNat, by omega⟩, ?_⟩
  have e : ((c.toInt.toNat : Nat) : Int) = c.toInt := by omega
  show c = Int32.ofInt ((c.toInt.toNat : Nat) : Int)
  rw [e]; exact own_i32 c
theorem own_small : ∀ k : Fin 128, f1 (Int32.ofInt (k.val : Int)) = f2 (Int32.ofInt (k.val : Int)) := by decide +kernel
theorem own_same (c : Int32) : f1 c = f2 c := by
  have z0 : (0 : Int32).toInt = 0 := rfl
  have z1 : (128 : Int32).toInt = 128 := rfl
  have z2 : (65 : Int32).toInt = 65 := rfl
  have z3 : (90 : Int32).toInt = 90 := rfl
  have z4 : (97 : Int32).toInt = 97 := rfl
  have z5 : (122 : Int32).toInt = 122 := rfl
  by_cases h0 : c < 0
  · have a1 : c < 97 := by simp only [Int32.lt_iff_toInt_lt] at *; omega
    have a2 : c < 65 := by simp only [Int32.lt_iff_toInt_lt] at *; omega
    rw [f1, f2, if_pos a1, if_pos a2, if_pos h0]
  · by_cases h1 : c < 128
    · obtain ⟨k, rfl⟩ := own_range 128 c (by simp only [Int32.lt_iff_toInt_lt] at *; omega) (by simp only [Int32.lt_iff_toInt_lt] at *; omega)
      exact own_small k
    · have a1 : ¬ c < 97 := by simp only [Int32.lt_iff_toInt_lt] at *; omega
      have a2 : 122 < c := by simp only [Int32.lt_iff_toInt_lt] at *; omega
      have a3 : ¬ c < 65 := by simp only [Int32.lt_iff_toInt_lt] at *; omega
      have a4 : 90 < c := by simp only [Int32.lt_iff_toInt_lt] at *; omega
      rw [f1, f2, if_neg a1, if_pos a2, if_neg a3, if_pos a4, if_neg h0, if_neg h1]
theorem own_law (p0 p1 : Int32) : f0 p0 p1 = 1 := by
  simp only [f0, own_same, if_true, ite_self]
set_option maxRecDepth 65536 in
set_option maxHeartbeats 40000000 in
theorem comes_1 {Post : Tables → Env → Array Value → State → Outcome → State → Prop} (hpost : ∀ tb e args s v u, (limb_1_1.after args s (.returned v) u = true ∧ limb_1_2.after args s (.returned v) u = true ∧ True) → FrameEnd s (.returned v) u (Jvm.fieldLocs frame_1_writes args s ++ Jvm.arrayLocs frame_1_arrays args s ++ Jvm.staticLocs frame_1_statics s) 0 0 → Post tb e args s (.returned v) u) :
    ArmFor flags0 classFile x code maxLocals ret World_1 tables_1 room_1 Calls_1 rest_1 Pre_1 Post := by
  intro l hfl _ _ p e ha hc hk s m args below hf hA hF happ hP
  obtain ⟨hcalls, hrest, hpre⟩ := hP
  obtain ⟨-, -, -, hnamed, -, -, -, hat⟩ := (Spec.applies_iff hf).mp happ
  obtain ⟨hg, hn⟩ := and_e (Cond.before_iff.mp (show (Jvm.Cond.and given_1 narrow_1).before args s = true from hpre))
  obtain ⟨g1, g2⟩ := and_e hg
  obtain ⟨g3, g4⟩ := and_e g2
  obtain ⟨w0, w1, rfl⟩ : ∃ w0 w1 : Value, args = #[w0, w1] := by
    have hs : args.size = 2 := by simpa [Cond.value, given_1] using g1
    obtain ⟨L⟩ := args
    match L, hs with
    | [w0, w1], _ => exact ⟨w0, w1, rfl⟩
  have hw := fun d (hd : d ∈ tables_1) => atoms_spec (ws := Jvm.Cond.code x code maxLocals ret :: tables_1) hat d (List.mem_cons_of_mem _ hd)
  have hfit : Fit s := fun {y c} hc i hi => by
    obtain ⟨ha, rfl⟩ := Array.getElem?_eq_some_iff.mp hc
    have q := List.all_eq_true.mp ((Array.all_eq_true_iff_forall_mem.mp hF) _ (Array.getElem_mem ha)) i (List.mem_range.mpr hi)
    simpa [Array.getElem?_eq_getElem hi] using q
  obtain ⟨i0, ei0⟩ := is_v g3
  obtain rfl : w0 = (.int i0) := Option.some.inj ei0
  obtain ⟨i1, ei1⟩ := is_v g4
  obtain rfl : w1 = (.int i1) := Option.some.inj ei1
  obtain ⟨n, o, h1, h2, h3, _, L, rfl, ⟨N, hv⟩, hq⟩ := rm0 l s _ hw tables_1 i0 i1 s.heap s.heap.size (Nat.le_refl _)  p e ha hc hk s m _ below hf ((Spec.applies_iff_loose hf).mp happ).1 ⟨rfl, State.Warmed39.refl s, rfl⟩ trivial
  rw [own_law] at hv
  subst hv
  refine ⟨n, _, h1, h2, h3, hpost _ _ _ _ _ _ ⟨Cond.after_iff.mpr rfl, Cond.after_iff.mpr (eq_i res_at (Term.int_eval (1)) rfl), trivial⟩ ⟨hq.1, hq.2.1, (hq.2.2.sift fun y hy => Or.inr (N y hy)).mono (by decide) (by decide)⟩⟩
theorem main_1_1 : Claimed_1_1 := comes_1 fun _ _ _ _ _ _ h hF => ⟨h.1, hF⟩
theorem main_1_2 : Claimed_1_2 := comes_1 fun _ _ _ _ _ _ h hF => ⟨h.2.1, hF⟩
end Jvm.Pilot.@@N@@
namespace Jvm.Pilot.@@N@@
open Jvm Jvm.ClassFile Sem Op Lib Jvm.Free Jvm.Stand Jvm.Pilot.@@N@@.Jvm.D
/-! MADE BY PROGRAM (witnessworld.py) out of the Statement's table words and the real class files: 9 classes; the members and pool entries that the words name. The judged class is class 1, her method 2. -/
namespace start1
open Jvm.ClassFile
def u (s : String) : CpInfo := .utf8 (stringToUtf16 s)
/-- a pool by its gaps: so many unusable entries, then the entry; so many at the end -/
def gap : Nat → List CpInfo → List CpInfo
  | 0, r => r
  | n + 1, r => .unusable :: gap n r
def poolList (es : List (Nat × CpInfo)) (last : Nat) : List CpInfo := es.foldr (fun e r => gap e.1 (e.2 :: r)) (gap last [])
def pool (es : List (Nat × CpInfo)) (last : Nat) : Array CpInfo := ⟨poolList es last⟩
def fileOf (pool : Array CpInfo) (this : Nat) (attrs : Array Attribute := #[]) (ms : Array MethodInfo := #[]) (fl : Nat := 33) (sup : Nat := 0) (ifs : Array Nat := #[]) (fds : Array FieldInfo := #[]) : ClassFile where
  minorVersion := 0
  majorVersion := 65
  constantPool := pool
  accessFlags := fl
  thisClass := this
  superClass := sup
  interfaces := ifs
  fields := fds
  methods := ms
  attributes := attrs
def plain (name : String) (sup : Option ClassId) : Class where
  name := name
  kind := .ordinary
  loader := none
  accessFlags := 33
  super := sup
  interfaces := #[]
  cf := none
  fields := #[]
  methods := #[]
  instanceTypes := #[]
  staticTypes := #[]
  resolved := #[]
  callSites := []
  init := .initialized
  statics := none
  mirror := none

def pool0 : Array CpInfo := pool [(5, u "<init>"), (0, u "()V"), (1, .class_ 10), (1, u "java/lang/Object")] 113

def k0m0 : Method := { name := "<init>", desc := "()V", sig := { parameters := [], returnType := none }, accessFlags := 1, code := none }
/-- java/lang/Object -/
def k0 : Class := { plain "java/lang/Object" none with
  accessFlags := 33
  interfaces := #[]
  cf := some (fileOf pool0 8 #[] #[{ accessFlags := 1, nameIndex := 5, descriptorIndex := 6, attributes := #[] }] 33 0 #[] #[])
  fields := #[]
  methods := #[k0m0]
  instanceTypes := #[]
  staticTypes := #[]
  resolved := Array.replicate 124 none
  statics := none }

def pool1 : Array CpInfo := pool [(2, .class_ 4), (1, u "java/lang/Object"), (0, u "<init>"), (0, u "()V"), (0, .methodref 8 9), (0, .class_ 10), (0, .nameAndType 11 12), (0, u "org/loomstyle/parse/Characters"), (0, u "isLetter"), (0, u "(I)Z"), (0, .methodref 14 15), (0, .class_ 16), (0, .nameAndType 17 12), (0, u "org/loomstyle/parse/CharactersIsLetterPinLaw"), (0, u "reference"), (3, u "law"), (0, u "(II)Z")] 2

def k1m0 : Method := { name := "<init>", desc := "()V", sig := { parameters := [], returnType := none }, accessFlags := 2, code := none }
def k1c1 : Code := { maxStack := 2, maxLocals := 2, code := method_2_code, exceptionTable := #[], attributes := #[] }
def k1m1 : Method := { name := "reference", desc := "(I)Z", sig := { parameters := [.int], returnType := some .boolean }, accessFlags := 10, code := some k1c1 }
def k1c2 : Code := { maxStack := 2, maxLocals := 3, code := code, exceptionTable := #[], attributes := #[] }
def k1m2 : Method := { name := "law", desc := "(II)Z", sig := { parameters := [.int, .int], returnType := some .boolean }, accessFlags := 9, code := some k1c2 }
/-- org/loomstyle/parse/CharactersIsLetterPinLaw -/
def k1 : Class := { plain "org/loomstyle/parse/CharactersIsLetterPinLaw" (some 0) with
  accessFlags := 49
  interfaces := #[]
  cf := some (fileOf pool1 14 #[] #[{ accessFlags := 2, nameIndex := 5, descriptorIndex := 6, attributes := #[] }, { accessFlags := 10, nameIndex := 17, descriptorIndex := 12, attributes := #[] }, { accessFlags := 9, nameIndex := 21, descriptorIndex := 22, attributes := #[] }] 49 2 #[] #[])
  fields := #[]
  methods := #[k1m0, k1m1, k1m2]
  instanceTypes := #[]
  staticTypes := #[]
  resolved := Array.replicate 25 none
  statics := none }

def pool2 : Array CpInfo := pool [(2, .class_ 4), (1, u "java/lang/Object"), (0, u "<init>"), (0, u "()V"), (1, .class_ 10), (1, u "org/loomstyle/parse/Characters"), (1, u "(I)Z"), (2, u "isLetter"), (13, u "MAX_CODE_POINT"), (0, u "I")] 14

def k2m0 : Method := { name := "<init>", desc := "()V", sig := { parameters := [], returnType := none }, accessFlags := 2, code := none }
def k2c1 : Code := { maxStack := 2, maxLocals := 1, code := prog_140_method_5_code, exceptionTable := #[], attributes := #[] }
def k2m1 : Method := { name := "isLetter", desc := "(I)Z", sig := { parameters := [.int], returnType := some .boolean }, accessFlags := 8, code := some k2c1 }
/-- org/loomstyle/parse/Characters -/
def k2 : Class := { plain "org/loomstyle/parse/Characters" (some 0) with
  accessFlags := 48
  interfaces := #[]
  cf := some (fileOf pool2 8 #[] #[{ accessFlags := 2, nameIndex := 5, descriptorIndex := 6, attributes := #[] }, { accessFlags := 8, nameIndex := 15, descriptorIndex := 12, attributes := #[] }] 48 2 #[] #[{ accessFlags := 24, nameIndex := 29, descriptorIndex := 30, attributes := #[] }])
  fields := #[{ name := "MAX_CODE_POINT", type := .int, accessFlags := 24, slot := 0, constantValue := 0 }]
  methods := #[k2m0, k2m1]
  instanceTypes := #[]
  staticTypes := #[.int]
  resolved := Array.replicate 45 none
  statics := none }

def pool3 : Array CpInfo := pool [(1, u "java/lang/Cloneable"), (0, .class_ 1), (0, u "java/lang/Object"), (0, .class_ 3)] 3

/-- java/lang/Cloneable -/
def k3 : Class := { plain "java/lang/Cloneable" (some 0) with
  accessFlags := 1537
  interfaces := #[]
  cf := some (fileOf pool3 2 #[] #[] 1537 4 #[] #[])
  fields := #[]
  methods := #[]
  instanceTypes := #[]
  staticTypes := #[]
  resolved := Array.replicate 8 none
  statics := none }

def pool4 : Array CpInfo := pool [(1, u "java/io/Serializable"), (0, .class_ 1), (0, u "java/lang/Object"), (0, .class_ 3)] 3

/-- java/io/Serializable -/
def k4 : Class := { plain "java/io/Serializable" (some 0) with
  accessFlags := 1537
  interfaces := #[]
  cf := some (fileOf pool4 2 #[] #[] 1537 4 #[] #[])
  fields := #[]
  methods := #[]
  instanceTypes := #[]
  staticTypes := #[]
  resolved := Array.replicate 8 none
  statics := none }

/-- the primitive byte -/
def k5 : Class := { plain "byte" none with kind := .primitive 'B', accessFlags := 0x411 }
/-- [B -/
def k6 : Class := { plain "[B" (some 0) with kind := .array 5 .byte, interfaces := #[3, 4], accessFlags := 1041 }

/-- the primitive int -/
def k7 : Class := { plain "int" none with kind := .primitive 'I', accessFlags := 0x411 }
/-- [I -/
def k8 : Class := { plain "[I" (some 0) with kind := .array 7 .int, interfaces := #[3, 4], accessFlags := 1041 }

def heap : Heap := #[]
def classes : Array Class := #[k0, k1, k2, k3, k4, k5, k6, k7, k8]
def interned : List (Array UInt16 × Addr) := []
def slotsUsed : Nat := 0
def theMethod : MethodId := ⟨1, 2⟩
def args0 : Array Value := #[.int 65, .int 0]
def aboutOver (below : List Frame) : State where
  vm := { classes := classes, interned := interned.toArray }
  heap := heap
  slotsUsed := slotsUsed
  threads := #[{ frames := .invoking theMethod args0 :: below }]
def below0 : List Frame := [.native { method := ⟨0, 0⟩, args := #[] }]
def about1 : State := aboutOver below0
def p0 : Program := .bare "" "" ""
def e0 : Env := launch0.env 0 0 0
theorem w_frames : about1.frames = Frame.invoking theMethod args0 :: below0 := rfl
set_option maxRecDepth 65536 in
theorem w_args : argsFit about1.vm theMethod args0 = true := by decide +kernel
set_option maxRecDepth 65536 in
theorem w_heap : heapFits about1 = true := by decide +kernel
set_option maxRecDepth 65536 in
theorem w_runnable : about1.curStatus? = some .runnable := by decide +kernel
set_option maxRecDepth 65536 in
theorem w_alone : about1.alone = true := by decide +kernel
set_option maxRecDepth 65536 in
theorem w_named : about1.methodNamed? x = some theMethod := by decide +kernel
set_option maxRecDepth 65536 in
theorem w_hears : about1.hears theMethod below0 = true := by decide +kernel
set_option maxRecDepth 65536 in
theorem w_ripe : about1.ripe theMethod args0 below0 = true := by decide +kernel
theorem w_running : about1.status = .running := rfl
set_option maxRecDepth 65536 in
theorem w_room : about1.hasRoom e0.platform room_1 = true :=
  launch0.hasRoom_least _ room_1 (by decide +kernel) (by decide +kernel) (by decide +kernel) (by decide +kernel) (by decide +kernel) (by decide +kernel)
theorem allAtoms_all (ts : List Jvm.Cond) (a : Array Jvm.Value) (st : Jvm.State) : (allAtoms ts).before a st = ts.all (fun c => c.before a st) := by
  induction ts with
  | nil => rfl
  | cons c t ih =>
    show (Jvm.Cond.and c (allAtoms t)).before a st = _
    rw [Jvm.Cond.before_and, ih, List.all_cons]
def words1 : List Jvm.Cond := Jvm.Cond.code x code maxLocals ret :: tables_1
/-- a 'code' word, met by the world's own term for the bytes: nothing is compared byte by byte -/
theorem code_word {y : MethodName} {bytes : ByteArray} {mx : Nat} {rt : Option FieldType} {a : Array Value} {s : State} {m : MethodId} {meth : Method} {c : Code} (h1 : s.methodNamed? y = some m) (h2 : s.vm.method? m = some meth) (h3 : meth.code = some c) (h4 : c.code = bytes)
    (h5 : (c.maxLocals == mx && c.exceptionTable.isEmpty && decide (c.maxStack ≤ mostOperands) && decide (meth.sig.returnType = rt) && !meth.locks && decide (parseMethodDescriptor y.desc = some meth.sig)) = true) : (Jvm.Cond.code y bytes mx rt).before a s = true := by
  simp only [Bool.and_eq_true, beq_iff_eq, Bool.not_eq_true', decide_eq_true_eq] at h5
  obtain ⟨⟨⟨⟨⟨g1, g2⟩, g3⟩, g4⟩, g5⟩, g6⟩ := h5
  simp [Cond.before, Cond.holds, Cond.value, h1, h2, h3, h4, g1, g2, g3, g4, g5, g6]
def isCode : Jvm.Cond → Bool
  | .code _ _ _ _ => true
  | _ => false
theorem all_split {L : List Jvm.Cond} {P : Jvm.Cond → Bool} (h1 : L.all (fun c => isCode c || P c) = true) (h2 : ∀ c ∈ L.filter isCode, P c = true) : L.all P = true := by
  refine List.all_eq_true.mpr fun c hc => ?_
  have h := List.all_eq_true.mp h1 c hc
  rcases Bool.eq_false_or_eq_true (isCode c) with hi | hi
  · exact h2 c (List.mem_filter.mpr ⟨hc, hi⟩)
  · simpa [hi] using h
set_option maxRecDepth 65536 in
theorem w_c0 : (Jvm.Cond.code x code maxLocals ret).before args0 about1 = true := code_word (m := ⟨1, 2⟩) (meth := k1m2) (c := k1c2) (by decide +kernel) rfl rfl rfl (by decide +kernel)
set_option maxRecDepth 65536 in
theorem w_c1 : (Jvm.Cond.code ({ cls := "org/loomstyle/parse/Characters", name := "isLetter", desc := "(I)Z" } : Jvm.MethodName) prog_140_method_5_code (1 : Nat) (Option.some Jvm.ClassFile.FieldType.boolean)).before args0 about1 = true := code_word (m := ⟨2, 1⟩) (meth := k2m1) (c := k2c1) (by decide +kernel) rfl rfl rfl (by decide +kernel)
set_option maxRecDepth 65536 in
theorem w_c2 : (Jvm.Cond.code ({ cls := "org/loomstyle/parse/CharactersIsLetterPinLaw", name := "reference", desc := "(I)Z" } : Jvm.MethodName) method_2_code (2 : Nat) (Option.some Jvm.ClassFile.FieldType.boolean)).before args0 about1 = true := code_word (m := ⟨1, 1⟩) (meth := k1m1) (c := k1c1) (by decide +kernel) rfl rfl rfl (by decide +kernel)
def codes1 : List Jvm.Cond := [Jvm.Cond.code x code maxLocals ret, Jvm.Cond.code ({ cls := "org/loomstyle/parse/Characters", name := "isLetter", desc := "(I)Z" } : Jvm.MethodName) prog_140_method_5_code (1 : Nat) (Option.some Jvm.ClassFile.FieldType.boolean), Jvm.Cond.code ({ cls := "org/loomstyle/parse/CharactersIsLetterPinLaw", name := "reference", desc := "(I)Z" } : Jvm.MethodName) method_2_code (2 : Nat) (Option.some Jvm.ClassFile.FieldType.boolean)]
set_option maxRecDepth 65536 in
theorem codes_eq : words1.filter isCode = codes1 := rfl
theorem w_codes : ∀ c ∈ words1.filter isCode, c.before args0 about1 = true := by
  rw [codes_eq]
  intro c hc
  simp only [codes1, List.mem_cons, List.not_mem_nil, or_false] at hc
  rcases hc with rfl | rfl | rfl
  · exact w_c0
  · exact w_c1
  · exact w_c2
set_option maxRecDepth 65536 in
theorem w_t1 : words1.all (fun c => isCode c || c.before args0 about1) = true := by decide +kernel
theorem w_tables : (allAtoms (Jvm.Cond.code x code maxLocals ret :: tables_1)).before args0 about1 = true := by
  rw [allAtoms_all]
  show words1.all (fun c => c.before args0 about1) = true
  refine all_split ?_ w_codes
  rw [w_t1]
set_option maxRecDepth 65536 in
theorem w_case : (Jvm.Cond.and given_1 narrow_1).before args0 about1 = true := by decide +kernel
theorem w_applies : (headSpec (Jvm.Cond.code x code maxLocals ret :: tables_1) room_1).applies x e0.platform about1 = true :=
  (Spec.applies_iff w_frames).mpr ⟨w_running, w_runnable, w_alone, w_named, w_hears, w_ripe, w_room, w_tables⟩
theorem atStart : AtStart classFile x code maxLocals ret World_1 tables_1 room_1 Calls_1 rest_1 Pre_1 launch0 p0 e0 about1 theMethod args0 below0 :=
  ⟨lists_1, trivial, launch0.admits_env _ _ _, launch0.least_env, fairChoices_fair.cas, fairChoices_fair.clock, w_frames, w_args, w_heap, w_applies, trivial, trivial, w_case⟩
end start1
theorem witness_1 : WitnessClaimed_1 := ⟨start1.p0, start1.e0, start1.about1, start1.theMethod, start1.args0, start1.below0, start1.atStart⟩
end Jvm.Pilot.@@N@@
