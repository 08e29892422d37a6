import JvmDerived
import JvmDerived.Pilot.@@N@@Statement
import JvmDerived.Pilot.@@N@@Code
set_option linter.unusedVariables false
set_option linter.unusedSimpArgs false

namespace Jvm.Pilot.@@N@@
open Jvm Jvm.ClassFile Sem Op Lib Jvm.Free Jvm.Stand Jvm.LawKit Jvm.RoadKit Bundle Jvm.Pilot.@@N@@.Jvm.D
/-! the walk in continuation form: what is left to be shown of a state on the road -/
def own_Gl (p : Program) (e : Env) (below : List Frame) (P : Outcome → State → Prop) (S : State) : Prop := ∃ s₂ o, Steps p.tables e below S s₂ ∧ s₂.status = .running ∧ Ended s₂ below o ∧ P o s₂
theorem own_go {p : Program} {e : Env} {below : List Frame} {P : Outcome → State → Prop} {S S' : State} (k : ∀ t, Steps p.tables e below S' t → Steps p.tables e below S t) (h : own_Gl p e below P S') : own_Gl p e below P S := by
  obtain ⟨u, o, h1, h2⟩ := h
  exact ⟨u, o, k u h1, h2⟩
theorem own_ext {h0 h : Heap} (K : Keep h0 h []) : Ext h0 h := ⟨K.1, fun a c q => K.2.1 a c q nin0⟩
theorem own_jn {p : Program} {e : Env} {below : List Frame} {P : Outcome → State → Prop} {S S' : State} (h : own_Gl p e below P S) (k : own_Gl p e below P S → own_Gl p e below P S') : own_Gl p e below P S' := k h
theorem own_ind {p : Program} {e : Env} {below : List Frame} {P : Outcome → State → Prop} (I : Nat → State → Prop) (step : ∀ n S, (∀ n', n' < n → ∀ S', I n' S' → own_Gl p e below P S') → I n S → own_Gl p e below P S) {n : Nat} {S : State} (h : I n S) : own_Gl p e below P S := by
  induction n using Nat.strongRecOn generalizing S with
  | ind n ih => exact step n S (fun n' hn S' hI => ih n' hn hI) h
theorem own_fin {p : Program} {e : Env} {below : List Frame} {P : Outcome → State → Prop} {S u : State} {o : Outcome} (h1 : Steps p.tables e below S u) (h2 : u.status = .running) (h3 : Ended u below o) (h4 : P o u) : own_Gl p e below P S := ⟨u, o, h1, h2, h3, h4⟩
theorem d1_0 : decode method_3_code 0 = .ok (.iload_n 1, 1) := by decide +kernel
theorem d1_1 : decode method_3_code 1 = .ok (.ifCond .ne 6, 3) := by decide +kernel
theorem d1_4 : decode method_3_code 4 = .ok (.bipush 9, 2) := by decide +kernel
theorem d1_6 : decode method_3_code 6 = .ok (.ireturn, 1) := by decide +kernel
theorem d1_7 : decode method_3_code 7 = .ok (.iload_n 1, 1) := by decide +kernel
theorem d1_8 : decode method_3_code 8 = .ok (.iconst 1, 1) := by decide +kernel
theorem d1_9 : decode method_3_code 9 = .ok (.if_icmp .ne 6, 3) := by decide +kernel
theorem d1_12 : decode method_3_code 12 = .ok (.bipush 10, 2) := by decide +kernel
theorem d1_14 : decode method_3_code 14 = .ok (.ireturn, 1) := by decide +kernel
theorem d1_15 : decode method_3_code 15 = .ok (.iload_n 1, 1) := by decide +kernel
theorem d1_16 : decode method_3_code 16 = .ok (.iconst 2, 1) := by decide +kernel
theorem d1_17 : decode method_3_code 17 = .ok (.if_icmp .ne 6, 3) := by decide +kernel
theorem d1_20 : decode method_3_code 20 = .ok (.bipush 32, 2) := by decide +kernel
theorem d1_22 : decode method_3_code 22 = .ok (.ireturn, 1) := by decide +kernel
theorem d1_23 : decode method_3_code 23 = .ok (.iload_n 1, 1) := by decide +kernel
theorem d1_24 : decode method_3_code 24 = .ok (.iconst 3, 1) := by decide +kernel
theorem d1_25 : decode method_3_code 25 = .ok (.if_icmp .ne 6, 3) := by decide +kernel
theorem d1_28 : decode method_3_code 28 = .ok (.bipush 13, 2) := by decide +kernel
theorem d1_30 : decode method_3_code 30 = .ok (.ireturn, 1) := by decide +kernel
theorem d1_31 : decode method_3_code 31 = .ok (.iload_n 1, 1) := by decide +kernel
theorem d1_32 : decode method_3_code 32 = .ok (.iconst 4, 1) := by decide +kernel
theorem d1_33 : decode method_3_code 33 = .ok (.if_icmp .ne 6, 3) := by decide +kernel
theorem d1_36 : decode method_3_code 36 = .ok (.bipush 12, 2) := by decide +kernel
theorem d1_38 : decode method_3_code 38 = .ok (.ireturn, 1) := by decide +kernel
theorem d1_39 : decode method_3_code 39 = .ok (.iload_n 1, 1) := by decide +kernel
theorem d1_40 : decode method_3_code 40 = .ok (.iconst 5, 1) := by decide +kernel
theorem d1_41 : decode method_3_code 41 = .ok (.if_icmp .ne 6, 3) := by decide +kernel
theorem d1_44 : decode method_3_code 44 = .ok (.bipush 11, 2) := by decide +kernel
theorem d1_46 : decode method_3_code 46 = .ok (.ireturn, 1) := by decide +kernel
theorem d1_47 : decode method_3_code 47 = .ok (.iload_n 1, 1) := by decide +kernel
theorem d1_48 : decode method_3_code 48 = .ok (.bipush 6, 2) := by decide +kernel
theorem d1_50 : decode method_3_code 50 = .ok (.if_icmp .ne 6, 3) := by decide +kernel
theorem d1_53 : decode method_3_code 53 = .ok (.bipush 8, 2) := by decide +kernel
theorem d1_55 : decode method_3_code 55 = .ok (.ireturn, 1) := by decide +kernel
theorem d1_56 : decode method_3_code 56 = .ok (.iload_n 1, 1) := by decide +kernel
theorem d1_57 : decode method_3_code 57 = .ok (.bipush 7, 2) := by decide +kernel
theorem d1_59 : decode method_3_code 59 = .ok (.if_icmp .ne 6, 3) := by decide +kernel
theorem d1_62 : decode method_3_code 62 = .ok (.bipush 31, 2) := by decide +kernel
theorem d1_64 : decode method_3_code 64 = .ok (.ireturn, 1) := by decide +kernel
theorem d1_65 : decode method_3_code 65 = .ok (.iload_n 1, 1) := by decide +kernel
theorem d1_66 : decode method_3_code 66 = .ok (.bipush 8, 2) := by decide +kernel
theorem d1_68 : decode method_3_code 68 = .ok (.if_icmp .ne 6, 3) := by decide +kernel
theorem d1_71 : decode method_3_code 71 = .ok (.bipush 33, 2) := by decide +kernel
theorem d1_73 : decode method_3_code 73 = .ok (.ireturn, 1) := by decide +kernel
theorem d1_74 : decode method_3_code 74 = .ok (.iload_n 1, 1) := by decide +kernel
theorem d1_75 : decode method_3_code 75 = .ok (.bipush 9, 2) := by decide +kernel
theorem d1_77 : decode method_3_code 77 = .ok (.if_icmp .ne 5, 3) := by decide +kernel
theorem d1_80 : decode method_3_code 80 = .ok (.iconst (-1), 1) := by decide +kernel
theorem d1_81 : decode method_3_code 81 = .ok (.ireturn, 1) := by decide +kernel
theorem d1_82 : decode method_3_code 82 = .ok (.iload_n 1, 1) := by decide +kernel
theorem d1_83 : decode method_3_code 83 = .ok (.bipush 10, 2) := by decide +kernel
theorem d1_85 : decode method_3_code 85 = .ok (.if_icmp .ne 6, 3) := by decide +kernel
theorem d1_88 : decode method_3_code 88 = .ok (.ldc 19, 2) := by decide +kernel
theorem d1_90 : decode method_3_code 90 = .ok (.ireturn, 1) := by decide +kernel
theorem d1_91 : decode method_3_code 91 = .ok (.iload_n 1, 1) := by decide +kernel
theorem d1_92 : decode method_3_code 92 = .ok (.bipush 11, 2) := by decide +kernel
theorem d1_94 : decode method_3_code 94 = .ok (.if_icmp .ne 6, 3) := by decide +kernel
theorem d1_97 : decode method_3_code 97 = .ok (.ldc 20, 2) := by decide +kernel
theorem d1_99 : decode method_3_code 99 = .ok (.ireturn, 1) := by decide +kernel
theorem d1_100 : decode method_3_code 100 = .ok (.iload_n 1, 1) := by decide +kernel
theorem d1_101 : decode method_3_code 101 = .ok (.bipush 12, 2) := by decide +kernel
theorem d1_103 : decode method_3_code 103 = .ok (.if_icmp .ne 7, 3) := by decide +kernel
theorem d1_106 : decode method_3_code 106 = .ok (.sipush 12288, 3) := by decide +kernel
theorem d1_109 : decode method_3_code 109 = .ok (.ireturn, 1) := by decide +kernel
theorem d1_110 : decode method_3_code 110 = .ok (.iload_n 1, 1) := by decide +kernel
theorem d1_111 : decode method_3_code 111 = .ok (.bipush 13, 2) := by decide +kernel
theorem d1_113 : decode method_3_code 113 = .ok (.if_icmp .ne 7, 3) := by decide +kernel
theorem d1_116 : decode method_3_code 116 = .ok (.sipush 160, 3) := by decide +kernel
theorem d1_119 : decode method_3_code 119 = .ok (.ireturn, 1) := by decide +kernel
theorem d1_120 : decode method_3_code 120 = .ok (.iload_n 1, 1) := by decide +kernel
theorem d1_121 : decode method_3_code 121 = .ok (.bipush 14, 2) := by decide +kernel
theorem d1_123 : decode method_3_code 123 = .ok (.if_icmp .ne 6, 3) := by decide +kernel
theorem d1_126 : decode method_3_code 126 = .ok (.ldc 23, 2) := by decide +kernel
theorem d1_128 : decode method_3_code 128 = .ok (.ireturn, 1) := by decide +kernel
theorem d1_129 : decode method_3_code 129 = .ok (.iload_n 0, 1) := by decide +kernel
theorem d1_130 : decode method_3_code 130 = .ok (.ireturn, 1) := by decide +kernel
theorem pn_org_loomstyle_parse_CharactersIsWhitespacePinLaw : plainName "org/loomstyle/parse/CharactersIsWhitespacePinLaw" = true := by first | (simp [plainName, overriddenIn]; done) | decide +kernel
theorem ef_1 (m : MethodId) (p0 : Int32) (p1 : Int32) : entryFrame m #[(.int p0), (.int p1)] 2 = mkF m 0 #[.val (.int p0), .val (.int p1)] [] := by first | (simp [entryFrame, mkF, argsToLocals, Value.category]; done) | rfl
def f1 (p0 : Int32) (p1 : Int32) : Int32 := (if p1 = (0 : Int32) then (9 : Int32) else (if p1 = (1 : Int32) then (10 : Int32) else (if p1 = (2 : Int32) then (32 : Int32) else (if p1 = (3 : Int32) then (13 : Int32) else (if p1 = (4 : Int32) then (12 : Int32) else (if p1 = (5 : Int32) then (11 : Int32) else (if p1 = (6 : Int32) then (8 : Int32) else (if p1 = (7 : Int32) then (31 : Int32) else (if p1 = (8 : Int32) then (33 : Int32) else (if p1 = (9 : Int32) then (-1 : Int32) else (if p1 = (10 : Int32) then (65568 : Int32) else (if p1 = (11 : Int32) then (65545 : Int32) else (if p1 = (12 : Int32) then (12288 : Int32) else (if p1 = (13 : Int32) then (160 : Int32) else (if p1 = (14 : Int32) then (-2147483616 : Int32) else p0)))))))))))))))
def Q1 (Z : State) (p0 : Int32) (p1 : Int32) (h0 : Heap) (n0 : Nat) (v : Option Value) (h : Heap) (L : List Loc) : Prop := Fr n0 L ∧ v = some (.int (f1 p0 p1)) ∧ h = h0
set_option maxRecDepth 65536 in
set_option maxHeartbeats 40000000 in
theorem rm1 (l : Launch) (Z : State) (a0 : Array Value) (hw : ∀ d ∈ tables_1, d.before a0 Z = true) (ws : List Jvm.Cond) (p0 : Int32) (p1 : Int32) (h0 : Heap) (n0 : Nat) (Z0 : n0 ≤ h0.size)  :
    MetFree l (⟨"org/loomstyle/parse/CharactersIsWhitespacePinLaw", "pick", "(II)I"⟩ : MethodName) (head1 (Jvm.Cond.code (⟨"org/loomstyle/parse/CharactersIsWhitespacePinLaw", "pick", "(II)I"⟩ : MethodName) method_3_code 2 (some .int) :: ws) ({ frames := 0, cells := 0, slots := 0, locals := 0 } : Room)) (fun a U => a = #[(.int p0), (.int p1)] ∧ Z.Warmed39 U.vm ∧ U.heap = h0) (fun _ _ _ _ _ => True) (fun _ U o U' => ∃ v L, o = .returned v ∧ Q1 Z p0 p1 h0 n0 v U'.heap L ∧ FrameEnd U o U' L ({ frames := 0, cells := 0, slots := 0, locals := 0 } : Room).cells ({ frames := 0, cells := 0, slots := 0, locals := 0 } : Room).slots) := by
  refine MetFree.of_bodySF (plainFor_of_name pn_org_loomstyle_parse_CharactersIsWhitespacePinLaw) hisR ?_
  intro p e s m args below meth c s₁ Bd hml0 hP hK
  obtain ⟨rfl, hZ, hh⟩ := hP
  have hx := Bd.exec
  have hby := Bd.bytes
  have hml : c.maxLocals = 2 := hml0
  have hown : s.vm.findClass "org/loomstyle/parse/CharactersIsWhitespacePinLaw" = some m.cls := findClass_of_methodNamed Bd.named
  have hnm := (name_of_methodNamed Bd.named Bd.method).1
  have X0 : Stand p l e ({ frames := 0, cells := 0, slots := 0, locals := 0 } : Room) s m #[(.int p0), (.int p1)] below meth c s₁ [] 0 0 := Stand.of_body Bd
  have e0 : s₁.heap = h0 := by rw [← hh, Bd.state]; rfl
  have N0 := Fr.nil n0
  show own_Gl p e below (fun o U' => ∃ v L, o = .returned v ∧ Q1 Z p0 p1 h0 n0 v U'.heap L ∧ FrameEnd s o U' L ({ frames := 0, cells := 0, slots := 0, locals := 0 } : Room).cells ({ frames := 0, cells := 0, slots := 0, locals := 0 } : Room).slots) (s₁.setTop (entryFrame m #[(.int p0), (.int p1)] 2))
  refine own_go (fun t k => castTop (ef_1 m p0 p1) k) ?_
  show own_Gl _ _ _ _ (s₁.setTop (mkF m 0 #[.val (.int p0), .val (.int p1)] []))
  refine own_go (fun t k => XS.iloadN X0.here hx rfl (hb hby d1_0) rfl k) ?_
  show own_Gl _ _ _ _ (s₁.setTop (mkF m 1 #[.val (.int p0), .val (.int p1)] [(.int p1)]))
  by_cases hc1_1 : p1 = (0 : Int32)
  · refine own_go (fun t k => XS.ifNo X0.here hx rfl (hb hby d1_1) rfl ((if0 _ _).trans (teq hc1_1).2) k) ?_
    show own_Gl _ _ _ _ (s₁.setTop (mkF m 4 #[.val (.int p0), .val (.int p1)] []))
    refine own_go (fun t k => XS.bipush X0.here hx rfl (hb hby d1_4) k) ?_
    show own_Gl _ _ _ _ (s₁.setTop (mkF m 6 #[.val (.int p0), .val (.int p1)] [(.int (9 : Int32))]))
    obtain ⟨fs, hr, hrun, hended, hW, hsame⟩ := X0.leave (v := some (.int (9 : Int32))) (fun h => by rw [Bd.returns] at h; cases h)
    refine own_fin (Jvm.RoadKit.retOut X0 hx Bd.returns rfl (Or.inl ⟨rfl, Or.inl rfl, _, rfl⟩) (hb hby d1_6) hr) hrun hended ⟨_, _, rfl, ?_, ⟨_, rfl⟩, hW, hsame.mono (by decide) (by decide)⟩
    show Q1 Z p0 p1 h0 n0 _ s₁.heap _
    rw [e0]
    exact ⟨N0, by rw [f1, if_pos hc1_1], rfl⟩
  · refine own_go (fun t k => XS.ifYes X0.here hx rfl (pc0 := 1) (pc' := 7) rfl (hb hby d1_1) rfl ((if0 _ _).trans (feq hc1_1).2) (by decide) (by decide) k) ?_
    show own_Gl _ _ _ _ (s₁.setTop (mkF m 7 #[.val (.int p0), .val (.int p1)] []))
    refine own_go (fun t k => XS.iloadN X0.here hx rfl (hb hby d1_7) rfl k) ?_
    show own_Gl _ _ _ _ (s₁.setTop (mkF m 8 #[.val (.int p0), .val (.int p1)] [(.int p1)]))
    refine own_go (fun t k => XS.iconst X0.here hx rfl (hb hby d1_8) k) ?_
    show own_Gl _ _ _ _ (s₁.setTop (mkF m 9 #[.val (.int p0), .val (.int p1)] [(.int (1 : Int32)), (.int p1)]))
    by_cases hc9_2 : p1 = (1 : Int32)
    · refine own_go (fun t k => XS.icmpNo X0.here hx rfl (hb hby d1_9) rfl (teq hc9_2).2 k) ?_
      show own_Gl _ _ _ _ (s₁.setTop (mkF m 12 #[.val (.int p0), .val (.int p1)] []))
      refine own_go (fun t k => XS.bipush X0.here hx rfl (hb hby d1_12) k) ?_
      show own_Gl _ _ _ _ (s₁.setTop (mkF m 14 #[.val (.int p0), .val (.int p1)] [(.int (10 : Int32))]))
      obtain ⟨fs, hr, hrun, hended, hW, hsame⟩ := X0.leave (v := some (.int (10 : Int32))) (fun h => by rw [Bd.returns] at h; cases h)
      refine own_fin (Jvm.RoadKit.retOut X0 hx Bd.returns rfl (Or.inl ⟨rfl, Or.inl rfl, _, rfl⟩) (hb hby d1_14) hr) hrun hended ⟨_, _, rfl, ?_, ⟨_, rfl⟩, hW, hsame.mono (by decide) (by decide)⟩
      show Q1 Z p0 p1 h0 n0 _ s₁.heap _
      rw [e0]
      exact ⟨N0, by rw [f1, if_neg hc1_1, if_pos hc9_2], rfl⟩
    · refine own_go (fun t k => XS.icmpYes X0.here hx rfl (pc0 := 9) (pc' := 15) rfl (hb hby d1_9) rfl (feq hc9_2).2 (by decide) (by decide) k) ?_
      show own_Gl _ _ _ _ (s₁.setTop (mkF m 15 #[.val (.int p0), .val (.int p1)] []))
      refine own_go (fun t k => XS.iloadN X0.here hx rfl (hb hby d1_15) rfl k) ?_
      show own_Gl _ _ _ _ (s₁.setTop (mkF m 16 #[.val (.int p0), .val (.int p1)] [(.int p1)]))
      refine own_go (fun t k => XS.iconst X0.here hx rfl (hb hby d1_16) k) ?_
      show own_Gl _ _ _ _ (s₁.setTop (mkF m 17 #[.val (.int p0), .val (.int p1)] [(.int (2 : Int32)), (.int p1)]))
      by_cases hc17_3 : p1 = (2 : Int32)
      · refine own_go (fun t k => XS.icmpNo X0.here hx rfl (hb hby d1_17) rfl (teq hc17_3).2 k) ?_
        show own_Gl _ _ _ _ (s₁.setTop (mkF m 20 #[.val (.int p0), .val (.int p1)] []))
        refine own_go (fun t k => XS.bipush X0.here hx rfl (hb hby d1_20) k) ?_
        show own_Gl _ _ _ _ (s₁.setTop (mkF m 22 #[.val (.int p0), .val (.int p1)] [(.int (32 : Int32))]))
        obtain ⟨fs, hr, hrun, hended, hW, hsame⟩ := X0.leave (v := some (.int (32 : Int32))) (fun h => by rw [Bd.returns] at h; cases h)
        refine own_fin (Jvm.RoadKit.retOut X0 hx Bd.returns rfl (Or.inl ⟨rfl, Or.inl rfl, _, rfl⟩) (hb hby d1_22) hr) hrun hended ⟨_, _, rfl, ?_, ⟨_, rfl⟩, hW, hsame.mono (by decide) (by decide)⟩
        show Q1 Z p0 p1 h0 n0 _ s₁.heap _
        rw [e0]
        exact ⟨N0, by rw [f1, if_neg hc1_1, if_neg hc9_2, if_pos hc17_3], rfl⟩
      · refine own_go (fun t k => XS.icmpYes X0.here hx rfl (pc0 := 17) (pc' := 23) rfl (hb hby d1_17) rfl (feq hc17_3).2 (by decide) (by decide) k) ?_
        show own_Gl _ _ _ _ (s₁.setTop (mkF m 23 #[.val (.int p0), .val (.int p1)] []))
        refine own_go (fun t k => XS.iloadN X0.here hx rfl (hb hby d1_23) rfl k) ?_
        show own_Gl _ _ _ _ (s₁.setTop (mkF m 24 #[.val (.int p0), .val (.int p1)] [(.int p1)]))
        refine own_go (fun t k => XS.iconst X0.here hx rfl (hb hby d1_24) k) ?_
        show own_Gl _ _ _ _ (s₁.setTop (mkF m 25 #[.val (.int p0), .val (.int p1)] [(.int (3 : Int32)), (.int p1)]))
        by_cases hc25_4 : p1 = (3 : Int32)
        · refine own_go (fun t k => XS.icmpNo X0.here hx rfl (hb hby d1_25) rfl (teq hc25_4).2 k) ?_
          show own_Gl _ _ _ _ (s₁.setTop (mkF m 28 #[.val (.int p0), .val (.int p1)] []))
          refine own_go (fun t k => XS.bipush X0.here hx rfl (hb hby d1_28) k) ?_
          show own_Gl _ _ _ _ (s₁.setTop (mkF m 30 #[.val (.int p0), .val (.int p1)] [(.int (13 : Int32))]))
          obtain ⟨fs, hr, hrun, hended, hW, hsame⟩ := X0.leave (v := some (.int (13 : Int32))) (fun h => by rw [Bd.returns] at h; cases h)
          refine own_fin (Jvm.RoadKit.retOut X0 hx Bd.returns rfl (Or.inl ⟨rfl, Or.inl rfl, _, rfl⟩) (hb hby d1_30) hr) hrun hended ⟨_, _, rfl, ?_, ⟨_, rfl⟩, hW, hsame.mono (by decide) (by decide)⟩
          show Q1 Z p0 p1 h0 n0 _ s₁.heap _
          rw [e0]
          exact ⟨N0, by rw [f1, if_neg hc1_1, if_neg hc9_2, if_neg hc17_3, if_pos hc25_4], rfl⟩
        · refine own_go (fun t k => XS.icmpYes X0.here hx rfl (pc0 := 25) (pc' := 31) rfl (hb hby d1_25) rfl (feq hc25_4).2 (by decide) (by decide) k) ?_
          show own_Gl _ _ _ _ (s₁.setTop (mkF m 31 #[.val (.int p0), .val (.int p1)] []))
          refine own_go (fun t k => XS.iloadN X0.here hx rfl (hb hby d1_31) rfl k) ?_
          show own_Gl _ _ _ _ (s₁.setTop (mkF m 32 #[.val (.int p0), .val (.int p1)] [(.int p1)]))
          refine own_go (fun t k => XS.iconst X0.here hx rfl (hb hby d1_32) k) ?_
          show own_Gl _ _ _ _ (s₁.setTop (mkF m 33 #[.val (.int p0), .val (.int p1)] [(.int (4 : Int32)), (.int p1)]))
          by_cases hc33_5 : p1 = (4 : Int32)
          · refine own_go (fun t k => XS.icmpNo X0.here hx rfl (hb hby d1_33) rfl (teq hc33_5).2 k) ?_
            show own_Gl _ _ _ _ (s₁.setTop (mkF m 36 #[.val (.int p0), .val (.int p1)] []))
            refine own_go (fun t k => XS.bipush X0.here hx rfl (hb hby d1_36) k) ?_
            show own_Gl _ _ _ _ (s₁.setTop (mkF m 38 #[.val (.int p0), .val (.int p1)] [(.int (12 : Int32))]))
            obtain ⟨fs, hr, hrun, hended, hW, hsame⟩ := X0.leave (v := some (.int (12 : Int32))) (fun h => by rw [Bd.returns] at h; cases h)
            refine own_fin (Jvm.RoadKit.retOut X0 hx Bd.returns rfl (Or.inl ⟨rfl, Or.inl rfl, _, rfl⟩) (hb hby d1_38) hr) hrun hended ⟨_, _, rfl, ?_, ⟨_, rfl⟩, hW, hsame.mono (by decide) (by decide)⟩
            show Q1 Z p0 p1 h0 n0 _ s₁.heap _
            rw [e0]
            exact ⟨N0, by rw [f1, if_neg hc1_1, if_neg hc9_2, if_neg hc17_3, if_neg hc25_4, if_pos hc33_5], rfl⟩
          · refine own_go (fun t k => XS.icmpYes X0.here hx rfl (pc0 := 33) (pc' := 39) rfl (hb hby d1_33) rfl (feq hc33_5).2 (by decide) (by decide) k) ?_
            show own_Gl _ _ _ _ (s₁.setTop (mkF m 39 #[.val (.int p0), .val (.int p1)] []))
            refine own_go (fun t k => XS.iloadN X0.here hx rfl (hb hby d1_39) rfl k) ?_
            show own_Gl _ _ _ _ (s₁.setTop (mkF m 40 #[.val (.int p0), .val (.int p1)] [(.int p1)]))
            refine own_go (fun t k => XS.iconst X0.here hx rfl (hb hby d1_40) k) ?_
            show own_Gl _ _ _ _ (s₁.setTop (mkF m 41 #[.val (.int p0), .val (.int p1)] [(.int (5 : Int32)), (.int p1)]))
            by_cases hc41_6 : p1 = (5 : Int32)
            · refine own_go (fun t k => XS.icmpNo X0.here hx rfl (hb hby d1_41) rfl (teq hc41_6).2 k) ?_
              show own_Gl _ _ _ _ (s₁.setTop (mkF m 44 #[.val (.int p0), .val (.int p1)] []))
              refine own_go (fun t k => XS.bipush X0.here hx rfl (hb hby d1_44) k) ?_
              show own_Gl _ _ _ _ (s₁.setTop (mkF m 46 #[.val (.int p0), .val (.int p1)] [(.int (11 : Int32))]))
              obtain ⟨fs, hr, hrun, hended, hW, hsame⟩ := X0.leave (v := some (.int (11 : Int32))) (fun h => by rw [Bd.returns] at h; cases h)
              refine own_fin (Jvm.RoadKit.retOut X0 hx Bd.returns rfl (Or.inl ⟨rfl, Or.inl rfl, _, rfl⟩) (hb hby d1_46) hr) hrun hended ⟨_, _, rfl, ?_, ⟨_, rfl⟩, hW, hsame.mono (by decide) (by decide)⟩
              show Q1 Z p0 p1 h0 n0 _ s₁.heap _
              rw [e0]
              exact ⟨N0, by rw [f1, if_neg hc1_1, if_neg hc9_2, if_neg hc17_3, if_neg hc25_4, if_neg hc33_5, if_pos hc41_6], rfl⟩
            · refine own_go (fun t k => XS.icmpYes X0.here hx rfl (pc0 := 41) (pc' := 47) rfl (hb hby d1_41) rfl (feq hc41_6).2 (by decide) (by decide) k) ?_
              show own_Gl _ _ _ _ (s₁.setTop (mkF m 47 #[.val (.int p0), .val (.int p1)] []))
              refine own_go (fun t k => XS.iloadN X0.here hx rfl (hb hby d1_47) rfl k) ?_
              show own_Gl _ _ _ _ (s₁.setTop (mkF m 48 #[.val (.int p0), .val (.int p1)] [(.int p1)]))
              refine own_go (fun t k => XS.bipush X0.here hx rfl (hb hby d1_48) k) ?_
              show own_Gl _ _ _ _ (s₁.setTop (mkF m 50 #[.val (.int p0), .val (.int p1)] [(.int (6 : Int32)), (.int p1)]))
              by_cases hc50_7 : p1 = (6 : Int32)
              · refine own_go (fun t k => XS.icmpNo X0.here hx rfl (hb hby d1_50) rfl (teq hc50_7).2 k) ?_
                show own_Gl _ _ _ _ (s₁.setTop (mkF m 53 #[.val (.int p0), .val (.int p1)] []))
                refine own_go (fun t k => XS.bipush X0.here hx rfl (hb hby d1_53) k) ?_
                show own_Gl _ _ _ _ (s₁.setTop (mkF m 55 #[.val (.int p0), .val (.int p1)] [(.int (8 : Int32))]))
                obtain ⟨fs, hr, hrun, hended, hW, hsame⟩ := X0.leave (v := some (.int (8 : Int32))) (fun h => by rw [Bd.returns] at h; cases h)
                refine own_fin (Jvm.RoadKit.retOut X0 hx Bd.returns rfl (Or.inl ⟨rfl, Or.inl rfl, _, rfl⟩) (hb hby d1_55) hr) hrun hended ⟨_, _, rfl, ?_, ⟨_, rfl⟩, hW, hsame.mono (by decide) (by decide)⟩
                show Q1 Z p0 p1 h0 n0 _ s₁.heap _
                rw [e0]
                exact ⟨N0, by rw [f1, if_neg hc1_1, if_neg hc9_2, if_neg hc17_3, if_neg hc25_4, if_neg hc33_5, if_neg hc41_6, if_pos hc50_7], rfl⟩
              · refine own_go (fun t k => XS.icmpYes X0.here hx rfl (pc0 := 50) (pc' := 56) rfl (hb hby d1_50) rfl (feq hc50_7).2 (by decide) (by decide) k) ?_
                show own_Gl _ _ _ _ (s₁.setTop (mkF m 56 #[.val (.int p0), .val (.int p1)] []))
                refine own_go (fun t k => XS.iloadN X0.here hx rfl (hb hby d1_56) rfl k) ?_
                show own_Gl _ _ _ _ (s₁.setTop (mkF m 57 #[.val (.int p0), .val (.int p1)] [(.int p1)]))
                refine own_go (fun t k => XS.bipush X0.here hx rfl (hb hby d1_57) k) ?_
                show own_Gl _ _ _ _ (s₁.setTop (mkF m 59 #[.val (.int p0), .val (.int p1)] [(.int (7 : Int32)), (.int p1)]))
                by_cases hc59_8 : p1 = (7 : Int32)
                · refine own_go (fun t k => XS.icmpNo X0.here hx rfl (hb hby d1_59) rfl (teq hc59_8).2 k) ?_
                  show own_Gl _ _ _ _ (s₁.setTop (mkF m 62 #[.val (.int p0), .val (.int p1)] []))
                  refine own_go (fun t k => XS.bipush X0.here hx rfl (hb hby d1_62) k) ?_
                  show own_Gl _ _ _ _ (s₁.setTop (mkF m 64 #[.val (.int p0), .val (.int p1)] [(.int (31 : Int32))]))
                  obtain ⟨fs, hr, hrun, hended, hW, hsame⟩ := X0.leave (v := some (.int (31 : Int32))) (fun h => by rw [Bd.returns] at h; cases h)
                  refine own_fin (Jvm.RoadKit.retOut X0 hx Bd.returns rfl (Or.inl ⟨rfl, Or.inl rfl, _, rfl⟩) (hb hby d1_64) hr) hrun hended ⟨_, _, rfl, ?_, ⟨_, rfl⟩, hW, hsame.mono (by decide) (by decide)⟩
                  show Q1 Z p0 p1 h0 n0 _ s₁.heap _
                  rw [e0]
                  exact ⟨N0, by rw [f1, if_neg hc1_1, if_neg hc9_2, if_neg hc17_3, if_neg hc25_4, if_neg hc33_5, if_neg hc41_6, if_neg hc50_7, if_pos hc59_8], rfl⟩
                · refine own_go (fun t k => XS.icmpYes X0.here hx rfl (pc0 := 59) (pc' := 65) rfl (hb hby d1_59) rfl (feq hc59_8).2 (by decide) (by decide) k) ?_
                  show own_Gl _ _ _ _ (s₁.setTop (mkF m 65 #[.val (.int p0), .val (.int p1)] []))
                  refine own_go (fun t k => XS.iloadN X0.here hx rfl (hb hby d1_65) rfl k) ?_
                  show own_Gl _ _ _ _ (s₁.setTop (mkF m 66 #[.val (.int p0), .val (.int p1)] [(.int p1)]))
                  refine own_go (fun t k => XS.bipush X0.here hx rfl (hb hby d1_66) k) ?_
                  show own_Gl _ _ _ _ (s₁.setTop (mkF m 68 #[.val (.int p0), .val (.int p1)] [(.int (8 : Int32)), (.int p1)]))
                  by_cases hc68_9 : p1 = (8 : Int32)
                  · refine own_go (fun t k => XS.icmpNo X0.here hx rfl (hb hby d1_68) rfl (teq hc68_9).2 k) ?_
                    show own_Gl _ _ _ _ (s₁.setTop (mkF m 71 #[.val (.int p0), .val (.int p1)] []))
                    refine own_go (fun t k => XS.bipush X0.here hx rfl (hb hby d1_71) k) ?_
                    show own_Gl _ _ _ _ (s₁.setTop (mkF m 73 #[.val (.int p0), .val (.int p1)] [(.int (33 : Int32))]))
                    obtain ⟨fs, hr, hrun, hended, hW, hsame⟩ := X0.leave (v := some (.int (33 : Int32))) (fun h => by rw [Bd.returns] at h; cases h)
                    refine own_fin (Jvm.RoadKit.retOut X0 hx Bd.returns rfl (Or.inl ⟨rfl, Or.inl rfl, _, rfl⟩) (hb hby d1_73) hr) hrun hended ⟨_, _, rfl, ?_, ⟨_, rfl⟩, hW, hsame.mono (by decide) (by decide)⟩
                    show Q1 Z p0 p1 h0 n0 _ s₁.heap _
                    rw [e0]
                    exact ⟨N0, by rw [f1, if_neg hc1_1, if_neg hc9_2, if_neg hc17_3, if_neg hc25_4, if_neg hc33_5, if_neg hc41_6, if_neg hc50_7, if_neg hc59_8, if_pos hc68_9], rfl⟩
                  · refine own_go (fun t k => XS.icmpYes X0.here hx rfl (pc0 := 68) (pc' := 74) rfl (hb hby d1_68) rfl (feq hc68_9).2 (by decide) (by decide) k) ?_
                    show own_Gl _ _ _ _ (s₁.setTop (mkF m 74 #[.val (.int p0), .val (.int p1)] []))
                    refine own_go (fun t k => XS.iloadN X0.here hx rfl (hb hby d1_74) rfl k) ?_
                    show own_Gl _ _ _ _ (s₁.setTop (mkF m 75 #[.val (.int p0), .val (.int p1)] [(.int p1)]))
                    refine own_go (fun t k => XS.bipush X0.here hx rfl (hb hby d1_75) k) ?_
                    show own_Gl _ _ _ _ (s₁.setTop (mkF m 77 #[.val (.int p0), .val (.int p1)] [(.int (9 : Int32)), (.int p1)]))
                    by_cases hc77_10 : p1 = (9 : Int32)
                    · refine own_go (fun t k => XS.icmpNo X0.here hx rfl (hb hby d1_77) rfl (teq hc77_10).2 k) ?_
                      show own_Gl _ _ _ _ (s₁.setTop (mkF m 80 #[.val (.int p0), .val (.int p1)] []))
                      refine own_go (fun t k => XS.iconst X0.here hx rfl (hb hby d1_80) k) ?_
                      show own_Gl _ _ _ _ (s₁.setTop (mkF m 81 #[.val (.int p0), .val (.int p1)] [(.int (-1 : Int32))]))
                      obtain ⟨fs, hr, hrun, hended, hW, hsame⟩ := X0.leave (v := some (.int (-1 : Int32))) (fun h => by rw [Bd.returns] at h; cases h)
                      refine own_fin (Jvm.RoadKit.retOut X0 hx Bd.returns rfl (Or.inl ⟨rfl, Or.inl rfl, _, rfl⟩) (hb hby d1_81) hr) hrun hended ⟨_, _, rfl, ?_, ⟨_, rfl⟩, hW, hsame.mono (by decide) (by decide)⟩
                      show Q1 Z p0 p1 h0 n0 _ s₁.heap _
                      rw [e0]
                      exact ⟨N0, by rw [f1, if_neg hc1_1, if_neg hc9_2, if_neg hc17_3, if_neg hc25_4, if_neg hc33_5, if_neg hc41_6, if_neg hc50_7, if_neg hc59_8, if_neg hc68_9, if_pos hc77_10], rfl⟩
                    · refine own_go (fun t k => XS.icmpYes X0.here hx rfl (pc0 := 77) (pc' := 82) rfl (hb hby d1_77) rfl (feq hc77_10).2 (by decide) (by decide) k) ?_
                      show own_Gl _ _ _ _ (s₁.setTop (mkF m 82 #[.val (.int p0), .val (.int p1)] []))
                      refine own_go (fun t k => XS.iloadN X0.here hx rfl (hb hby d1_82) rfl k) ?_
                      show own_Gl _ _ _ _ (s₁.setTop (mkF m 83 #[.val (.int p0), .val (.int p1)] [(.int p1)]))
                      refine own_go (fun t k => XS.bipush X0.here hx rfl (hb hby d1_83) k) ?_
                      show own_Gl _ _ _ _ (s₁.setTop (mkF m 85 #[.val (.int p0), .val (.int p1)] [(.int (10 : Int32)), (.int p1)]))
                      by_cases hc85_11 : p1 = (10 : Int32)
                      · refine own_go (fun t k => XS.icmpNo X0.here hx rfl (hb hby d1_85) rfl (teq hc85_11).2 k) ?_
                        show own_Gl _ _ _ _ (s₁.setTop (mkF m 88 #[.val (.int p0), .val (.int p1)] []))
                        refine own_go (fun t k => X0.ldcInt hx hown (mvT hZ (hw _ (List.mem_of_getElem? (i := 9) rfl))) (g := (mkF m 88 #[.val (.int p0), .val (.int p1)] [])) rfl (hb hby d1_88) _ k) ?_
                        show own_Gl _ _ _ _ (s₁.setTop (mkF m 90 #[.val (.int p0), .val (.int p1)] [(.int (65568 : Int32))]))
                        obtain ⟨fs, hr, hrun, hended, hW, hsame⟩ := X0.leave (v := some (.int (65568 : Int32))) (fun h => by rw [Bd.returns] at h; cases h)
                        refine own_fin (Jvm.RoadKit.retOut X0 hx Bd.returns rfl (Or.inl ⟨rfl, Or.inl rfl, _, rfl⟩) (hb hby d1_90) hr) hrun hended ⟨_, _, rfl, ?_, ⟨_, rfl⟩, hW, hsame.mono (by decide) (by decide)⟩
                        show Q1 Z p0 p1 h0 n0 _ s₁.heap _
                        rw [e0]
                        exact ⟨N0, by rw [f1, if_neg hc1_1, if_neg hc9_2, if_neg hc17_3, if_neg hc25_4, if_neg hc33_5, if_neg hc41_6, if_neg hc50_7, if_neg hc59_8, if_neg hc68_9, if_neg hc77_10, if_pos hc85_11], rfl⟩
                      · refine own_go (fun t k => XS.icmpYes X0.here hx rfl (pc0 := 85) (pc' := 91) rfl (hb hby d1_85) rfl (feq hc85_11).2 (by decide) (by decide) k) ?_
                        show own_Gl _ _ _ _ (s₁.setTop (mkF m 91 #[.val (.int p0), .val (.int p1)] []))
                        refine own_go (fun t k => XS.iloadN X0.here hx rfl (hb hby d1_91) rfl k) ?_
                        show own_Gl _ _ _ _ (s₁.setTop (mkF m 92 #[.val (.int p0), .val (.int p1)] [(.int p1)]))
                        refine own_go (fun t k => XS.bipush X0.here hx rfl (hb hby d1_92) k) ?_
                        show own_Gl _ _ _ _ (s₁.setTop (mkF m 94 #[.val (.int p0), .val (.int p1)] [(.int (11 : Int32)), (.int p1)]))
                        by_cases hc94_12 : p1 = (11 : Int32)
                        · refine own_go (fun t k => XS.icmpNo X0.here hx rfl (hb hby d1_94) rfl (teq hc94_12).2 k) ?_
                          show own_Gl _ _ _ _ (s₁.setTop (mkF m 97 #[.val (.int p0), .val (.int p1)] []))
                          refine own_go (fun t k => X0.ldcInt hx hown (mvT hZ (hw _ (List.mem_of_getElem? (i := 10) rfl))) (g := (mkF m 97 #[.val (.int p0), .val (.int p1)] [])) rfl (hb hby d1_97) _ k) ?_
                          show own_Gl _ _ _ _ (s₁.setTop (mkF m 99 #[.val (.int p0), .val (.int p1)] [(.int (65545 : Int32))]))
                          obtain ⟨fs, hr, hrun, hended, hW, hsame⟩ := X0.leave (v := some (.int (65545 : Int32))) (fun h => by rw [Bd.returns] at h; cases h)
                          refine own_fin (Jvm.RoadKit.retOut X0 hx Bd.returns rfl (Or.inl ⟨rfl, Or.inl rfl, _, rfl⟩) (hb hby d1_99) hr) hrun hended ⟨_, _, rfl, ?_, ⟨_, rfl⟩, hW, hsame.mono (by decide) (by decide)⟩
                          show Q1 Z p0 p1 h0 n0 _ s₁.heap _
                          rw [e0]
                          exact ⟨N0, by rw [f1, if_neg hc1_1, if_neg hc9_2, if_neg hc17_3, if_neg hc25_4, if_neg hc33_5, if_neg hc41_6, if_neg hc50_7, if_neg hc59_8, if_neg hc68_9, if_neg hc77_10, if_neg hc85_11, if_pos hc94_12], rfl⟩
                        · refine own_go (fun t k => XS.icmpYes X0.here hx rfl (pc0 := 94) (pc' := 100) rfl (hb hby d1_94) rfl (feq hc94_12).2 (by decide) (by decide) k) ?_
                          show own_Gl _ _ _ _ (s₁.setTop (mkF m 100 #[.val (.int p0), .val (.int p1)] []))
                          refine own_go (fun t k => XS.iloadN X0.here hx rfl (hb hby d1_100) rfl k) ?_
                          show own_Gl _ _ _ _ (s₁.setTop (mkF m 101 #[.val (.int p0), .val (.int p1)] [(.int p1)]))
                          refine own_go (fun t k => XS.bipush X0.here hx rfl (hb hby d1_101) k) ?_
                          show own_Gl _ _ _ _ (s₁.setTop (mkF m 103 #[.val (.int p0), .val (.int p1)] [(.int (12 : Int32)), (.int p1)]))
                          by_cases hc103_13 : p1 = (12 : Int32)
                          · refine own_go (fun t k => XS.icmpNo X0.here hx rfl (hb hby d1_103) rfl (teq hc103_13).2 k) ?_
                            show own_Gl _ _ _ _ (s₁.setTop (mkF m 106 #[.val (.int p0), .val (.int p1)] []))
                            refine own_go (fun t k => XS.sipush X0.here hx rfl (hb hby d1_106) k) ?_
                            show own_Gl _ _ _ _ (s₁.setTop (mkF m 109 #[.val (.int p0), .val (.int p1)] [(.int (12288 : Int32))]))
                            obtain ⟨fs, hr, hrun, hended, hW, hsame⟩ := X0.leave (v := some (.int (12288 : Int32))) (fun h => by rw [Bd.returns] at h; cases h)
                            refine own_fin (Jvm.RoadKit.retOut X0 hx Bd.returns rfl (Or.inl ⟨rfl, Or.inl rfl, _, rfl⟩) (hb hby d1_109) hr) hrun hended ⟨_, _, rfl, ?_, ⟨_, rfl⟩, hW, hsame.mono (by decide) (by decide)⟩
                            show Q1 Z p0 p1 h0 n0 _ s₁.heap _
                            rw [e0]
                            exact ⟨N0, by rw [f1, if_neg hc1_1, if_neg hc9_2, if_neg hc17_3, if_neg hc25_4, if_neg hc33_5, if_neg hc41_6, if_neg hc50_7, if_neg hc59_8, if_neg hc68_9, if_neg hc77_10, if_neg hc85_11, if_neg hc94_12, if_pos hc103_13], rfl⟩
                          · refine own_go (fun t k => XS.icmpYes X0.here hx rfl (pc0 := 103) (pc' := 110) rfl (hb hby d1_103) rfl (feq hc103_13).2 (by decide) (by decide) k) ?_
                            show own_Gl _ _ _ _ (s₁.setTop (mkF m 110 #[.val (.int p0), .val (.int p1)] []))
                            refine own_go (fun t k => XS.iloadN X0.here hx rfl (hb hby d1_110) rfl k) ?_
                            show own_Gl _ _ _ _ (s₁.setTop (mkF m 111 #[.val (.int p0), .val (.int p1)] [(.int p1)]))
                            refine own_go (fun t k => XS.bipush X0.here hx rfl (hb hby d1_111) k) ?_
                            show own_Gl _ _ _ _ (s₁.setTop (mkF m 113 #[.val (.int p0), .val (.int p1)] [(.int (13 : Int32)), (.int p1)]))
                            by_cases hc113_14 : p1 = (13 : Int32)
                            · refine own_go (fun t k => XS.icmpNo X0.here hx rfl (hb hby d1_113) rfl (teq hc113_14).2 k) ?_
                              show own_Gl _ _ _ _ (s₁.setTop (mkF m 116 #[.val (.int p0), .val (.int p1)] []))
                              refine own_go (fun t k => XS.sipush X0.here hx rfl (hb hby d1_116) k) ?_
                              show own_Gl _ _ _ _ (s₁.setTop (mkF m 119 #[.val (.int p0), .val (.int p1)] [(.int (160 : Int32))]))
                              obtain ⟨fs, hr, hrun, hended, hW, hsame⟩ := X0.leave (v := some (.int (160 : Int32))) (fun h => by rw [Bd.returns] at h; cases h)
                              refine own_fin (Jvm.RoadKit.retOut X0 hx Bd.returns rfl (Or.inl ⟨rfl, Or.inl rfl, _, rfl⟩) (hb hby d1_119) hr) hrun hended ⟨_, _, rfl, ?_, ⟨_, rfl⟩, hW, hsame.mono (by decide) (by decide)⟩
                              show Q1 Z p0 p1 h0 n0 _ s₁.heap _
                              rw [e0]
                              exact ⟨N0, by rw [f1, if_neg hc1_1, if_neg hc9_2, if_neg hc17_3, if_neg hc25_4, if_neg hc33_5, if_neg hc41_6, if_neg hc50_7, if_neg hc59_8, if_neg hc68_9, if_neg hc77_10, if_neg hc85_11, if_neg hc94_12, if_neg hc103_13, if_pos hc113_14], rfl⟩
                            · refine own_go (fun t k => XS.icmpYes X0.here hx rfl (pc0 := 113) (pc' := 120) rfl (hb hby d1_113) rfl (feq hc113_14).2 (by decide) (by decide) k) ?_
                              show own_Gl _ _ _ _ (s₁.setTop (mkF m 120 #[.val (.int p0), .val (.int p1)] []))
                              refine own_go (fun t k => XS.iloadN X0.here hx rfl (hb hby d1_120) rfl k) ?_
                              show own_Gl _ _ _ _ (s₁.setTop (mkF m 121 #[.val (.int p0), .val (.int p1)] [(.int p1)]))
                              refine own_go (fun t k => XS.bipush X0.here hx rfl (hb hby d1_121) k) ?_
                              show own_Gl _ _ _ _ (s₁.setTop (mkF m 123 #[.val (.int p0), .val (.int p1)] [(.int (14 : Int32)), (.int p1)]))
                              by_cases hc123_15 : p1 = (14 : Int32)
                              · refine own_go (fun t k => XS.icmpNo X0.here hx rfl (hb hby d1_123) rfl (teq hc123_15).2 k) ?_
                                show own_Gl _ _ _ _ (s₁.setTop (mkF m 126 #[.val (.int p0), .val (.int p1)] []))
                                refine own_go (fun t k => X0.ldcInt hx hown (mvT hZ (hw _ (List.mem_of_getElem? (i := 8) rfl))) (g := (mkF m 126 #[.val (.int p0), .val (.int p1)] [])) rfl (hb hby d1_126) _ k) ?_
                                show own_Gl _ _ _ _ (s₁.setTop (mkF m 128 #[.val (.int p0), .val (.int p1)] [(.int (-2147483616 : Int32))]))
                                obtain ⟨fs, hr, hrun, hended, hW, hsame⟩ := X0.leave (v := some (.int (-2147483616 : Int32))) (fun h => by rw [Bd.returns] at h; cases h)
                                refine own_fin (Jvm.RoadKit.retOut X0 hx Bd.returns rfl (Or.inl ⟨rfl, Or.inl rfl, _, rfl⟩) (hb hby d1_128) hr) hrun hended ⟨_, _, rfl, ?_, ⟨_, rfl⟩, hW, hsame.mono (by decide) (by decide)⟩
                                show Q1 Z p0 p1 h0 n0 _ s₁.heap _
                                rw [e0]
                                exact ⟨N0, by rw [f1, if_neg hc1_1, if_neg hc9_2, if_neg hc17_3, if_neg hc25_4, if_neg hc33_5, if_neg hc41_6, if_neg hc50_7, if_neg hc59_8, if_neg hc68_9, if_neg hc77_10, if_neg hc85_11, if_neg hc94_12, if_neg hc103_13, if_neg hc113_14, if_pos hc123_15], rfl⟩
                              · refine own_go (fun t k => XS.icmpYes X0.here hx rfl (pc0 := 123) (pc' := 129) rfl (hb hby d1_123) rfl (feq hc123_15).2 (by decide) (by decide) k) ?_
                                show own_Gl _ _ _ _ (s₁.setTop (mkF m 129 #[.val (.int p0), .val (.int p1)] []))
                                refine own_go (fun t k => XS.iloadN X0.here hx rfl (hb hby d1_129) rfl k) ?_
                                show own_Gl _ _ _ _ (s₁.setTop (mkF m 130 #[.val (.int p0), .val (.int p1)] [(.int p0)]))
                                obtain ⟨fs, hr, hrun, hended, hW, hsame⟩ := X0.leave (v := some (.int p0)) (fun h => by rw [Bd.returns] at h; cases h)
                                refine own_fin (Jvm.RoadKit.retOut X0 hx Bd.returns rfl (Or.inl ⟨rfl, Or.inl rfl, _, rfl⟩) (hb hby d1_130) hr) hrun hended ⟨_, _, rfl, ?_, ⟨_, rfl⟩, hW, hsame.mono (by decide) (by decide)⟩
                                show Q1 Z p0 p1 h0 n0 _ s₁.heap _
                                rw [e0]
                                exact ⟨N0, by rw [f1, if_neg hc1_1, if_neg hc9_2, if_neg hc17_3, if_neg hc25_4, if_neg hc33_5, if_neg hc41_6, if_neg hc50_7, if_neg hc59_8, if_neg hc68_9, if_neg hc77_10, if_neg hc85_11, if_neg hc94_12, if_neg hc103_13, if_neg hc113_14, if_neg hc123_15], rfl⟩
theorem d2_0 : decode prog_140_method_2_code 0 = .ok (.iload_n 0, 1) := by decide +kernel
theorem d2_1 : decode prog_140_method_2_code 1 = .ok (.bipush 32, 2) := by decide +kernel
theorem d2_3 : decode prog_140_method_2_code 3 = .ok (.if_icmp .eq 15, 3) := by decide +kernel
theorem d2_6 : decode prog_140_method_2_code 6 = .ok (.iload_n 0, 1) := by decide +kernel
theorem d2_7 : decode prog_140_method_2_code 7 = .ok (.bipush 9, 2) := by decide +kernel
theorem d2_9 : decode prog_140_method_2_code 9 = .ok (.if_icmp .eq 9, 3) := by decide +kernel
theorem d2_12 : decode prog_140_method_2_code 12 = .ok (.iload_n 0, 1) := by decide +kernel
theorem d2_13 : decode prog_140_method_2_code 13 = .ok (.bipush 10, 2) := by decide +kernel
theorem d2_15 : decode prog_140_method_2_code 15 = .ok (.if_icmp .ne 7, 3) := by decide +kernel
theorem d2_18 : decode prog_140_method_2_code 18 = .ok (.iconst 1, 1) := by decide +kernel
theorem d2_19 : decode prog_140_method_2_code 19 = .ok (.goto 4, 3) := by decide +kernel
theorem d2_22 : decode prog_140_method_2_code 22 = .ok (.iconst 0, 1) := by decide +kernel
theorem d2_23 : decode prog_140_method_2_code 23 = .ok (.ireturn, 1) := by decide +kernel
theorem pn_org_loomstyle_parse_Characters : plainName "org/loomstyle/parse/Characters" = true := by first | (simp [plainName, overriddenIn]; done) | decide +kernel
theorem ef_2 (m : MethodId) (p0 : Int32) : entryFrame m #[(.int p0)] 1 = mkF m 0 #[.val (.int p0)] [] := by first | (simp [entryFrame, mkF, argsToLocals, Value.category]; done) | rfl
def f2 (p0 : Int32) : Int32 := (if p0 = (32 : Int32) then (1 : Int32) else (if p0 = (9 : Int32) then (1 : Int32) else (if p0 = (10 : Int32) then (1 : Int32) else (0 : Int32))))
def Q2 (Z : State) (p0 : Int32) (h0 : Heap) (n0 : Nat) (v : Option Value) (h : Heap) (L : List Loc) : Prop := Fr n0 L ∧ v = some (.int (f2 p0)) ∧ h = h0
set_option maxRecDepth 65536 in
set_option maxHeartbeats 40000000 in
theorem rm2 (l : Launch) (Z : State) (a0 : Array Value) (hw : ∀ d ∈ tables_1, d.before a0 Z = true) (ws : List Jvm.Cond) (p0 : Int32) (h0 : Heap) (n0 : Nat) (Z0 : n0 ≤ h0.size)  :
    MetFree l (⟨"org/loomstyle/parse/Characters", "isWhitespace", "(I)Z"⟩ : MethodName) (head1 (Jvm.Cond.code (⟨"org/loomstyle/parse/Characters", "isWhitespace", "(I)Z"⟩ : MethodName) prog_140_method_2_code 1 (some .boolean) :: ws) ({ frames := 0, cells := 0, slots := 0, locals := 0 } : Room)) (fun a U => a = #[(.int p0)] ∧ Z.Warmed39 U.vm ∧ U.heap = h0) (fun _ _ _ _ _ => True) (fun _ U o U' => ∃ v L, o = .returned v ∧ Q2 Z p0 h0 n0 v U'.heap L ∧ FrameEnd U o U' L ({ frames := 0, cells := 0, slots := 0, locals := 0 } : Room).cells ({ frames := 0, cells := 0, slots := 0, locals := 0 } : Room).slots) := by
  refine MetFree.of_bodySF (plainFor_of_name pn_org_loomstyle_parse_Characters) hisR ?_
  intro p e s m args below meth c s₁ Bd hml0 hP hK
  obtain ⟨rfl, hZ, hh⟩ := hP
  have hx := Bd.exec
  have hby := Bd.bytes
  have hml : c.maxLocals = 1 := hml0
  have hown : s.vm.findClass "org/loomstyle/parse/Characters" = some m.cls := findClass_of_methodNamed Bd.named
  have hnm := (name_of_methodNamed Bd.named Bd.method).1
  have X0 : Stand p l e ({ frames := 0, cells := 0, slots := 0, locals := 0 } : Room) s m #[(.int p0)] below meth c s₁ [] 0 0 := Stand.of_body Bd
  have e0 : s₁.heap = h0 := by rw [← hh, Bd.state]; rfl
  have N0 := Fr.nil n0
  show own_Gl p e below (fun o U' => ∃ v L, o = .returned v ∧ Q2 Z p0 h0 n0 v U'.heap L ∧ FrameEnd s o U' L ({ frames := 0, cells := 0, slots := 0, locals := 0 } : Room).cells ({ frames := 0, cells := 0, slots := 0, locals := 0 } : Room).slots) (s₁.setTop (entryFrame m #[(.int p0)] 1))
  refine own_go (fun t k => castTop (ef_2 m p0) k) ?_
  show own_Gl _ _ _ _ (s₁.setTop (mkF m 0 #[.val (.int p0)] []))
  refine own_go (fun t k => XS.iloadN X0.here hx rfl (hb hby d2_0) rfl k) ?_
  show own_Gl _ _ _ _ (s₁.setTop (mkF m 1 #[.val (.int p0)] [(.int p0)]))
  refine own_go (fun t k => XS.bipush X0.here hx rfl (hb hby d2_1) k) ?_
  show own_Gl _ _ _ _ (s₁.setTop (mkF m 3 #[.val (.int p0)] [(.int (32 : Int32)), (.int p0)]))
  by_cases hc3_16 : p0 = (32 : Int32)
  · refine own_go (fun t k => XS.icmpYes X0.here hx rfl (pc0 := 3) (pc' := 18) rfl (hb hby d2_3) rfl (teq hc3_16).1 (by decide) (by decide) k) ?_
    show own_Gl _ _ _ _ (s₁.setTop (mkF m 18 #[.val (.int p0)] []))
    refine own_go (fun t k => XS.iconst X0.here hx rfl (hb hby d2_18) k) ?_
    show own_Gl _ _ _ _ (s₁.setTop (mkF m 19 #[.val (.int p0)] [(.int (1 : Int32))]))
    refine own_go (fun t k => XS.goto X0.here hx rfl (pc0 := 19) (pc' := 23) rfl (hb hby d2_19) (by decide) (by decide) k) ?_
    show own_Gl _ _ _ _ (s₁.setTop (mkF m 23 #[.val (.int p0)] [(.int (1 : Int32))]))
    obtain ⟨fs, hr, hrun, hended, hW, hsame⟩ := X0.leave (v := some (.int (1 : Int32))) (fun h => by rw [Bd.returns] at h; cases h)
    refine own_fin (retN X0 hx (t := .boolean) Bd.returns (by simp) (hb hby d2_23) hr) hrun hended ⟨_, _, rfl, ?_, ⟨_, rfl⟩, hW, hsame.mono (by decide) (by decide)⟩
    show Q2 Z p0 h0 n0 _ s₁.heap _
    rw [e0]
    exact ⟨N0, by rw [f2, if_pos hc3_16], rfl⟩
  · refine own_go (fun t k => XS.icmpNo X0.here hx rfl (hb hby d2_3) rfl (feq hc3_16).1 k) ?_
    show own_Gl _ _ _ _ (s₁.setTop (mkF m 6 #[.val (.int p0)] []))
    refine own_go (fun t k => XS.iloadN X0.here hx rfl (hb hby d2_6) rfl k) ?_
    show own_Gl _ _ _ _ (s₁.setTop (mkF m 7 #[.val (.int p0)] [(.int p0)]))
    refine own_go (fun t k => XS.bipush X0.here hx rfl (hb hby d2_7) k) ?_
    show own_Gl _ _ _ _ (s₁.setTop (mkF m 9 #[.val (.int p0)] [(.int (9 : Int32)), (.int p0)]))
    by_cases hc9_17 : p0 = (9 : Int32)
    · refine own_go (fun t k => XS.icmpYes X0.here hx rfl (pc0 := 9) (pc' := 18) rfl (hb hby d2_9) rfl (teq hc9_17).1 (by decide) (by decide) k) ?_
      show own_Gl _ _ _ _ (s₁.setTop (mkF m 18 #[.val (.int p0)] []))
      refine own_go (fun t k => XS.iconst X0.here hx rfl (hb hby d2_18) k) ?_
      show own_Gl _ _ _ _ (s₁.setTop (mkF m 19 #[.val (.int p0)] [(.int (1 : Int32))]))
      refine own_go (fun t k => XS.goto X0.here hx rfl (pc0 := 19) (pc' := 23) rfl (hb hby d2_19) (by decide) (by decide) k) ?_
      show own_Gl _ _ _ _ (s₁.setTop (mkF m 23 #[.val (.int p0)] [(.int (1 : Int32))]))
      obtain ⟨fs, hr, hrun, hended, hW, hsame⟩ := X0.leave (v := some (.int (1 : Int32))) (fun h => by rw [Bd.returns] at h; cases h)
      refine own_fin (retN X0 hx (t := .boolean) Bd.returns (by simp) (hb hby d2_23) hr) hrun hended ⟨_, _, rfl, ?_, ⟨_, rfl⟩, hW, hsame.mono (by decide) (by decide)⟩
      show Q2 Z p0 h0 n0 _ s₁.heap _
      rw [e0]
      exact ⟨N0, by rw [f2, if_neg hc3_16, if_pos hc9_17], rfl⟩
    · refine own_go (fun t k => XS.icmpNo X0.here hx rfl (hb hby d2_9) rfl (feq hc9_17).1 k) ?_
      show own_Gl _ _ _ _ (s₁.setTop (mkF m 12 #[.val (.int p0)] []))
      refine own_go (fun t k => XS.iloadN X0.here hx rfl (hb hby d2_12) rfl k) ?_
      show own_Gl _ _ _ _ (s₁.setTop (mkF m 13 #[.val (.int p0)] [(.int p0)]))
      refine own_go (fun t k => XS.bipush X0.here hx rfl (hb hby d2_13) k) ?_
      show own_Gl _ _ _ _ (s₁.setTop (mkF m 15 #[.val (.int p0)] [(.int (10 : Int32)), (.int p0)]))
      by_cases hc15_18 : p0 = (10 : Int32)
      · refine own_go (fun t k => XS.icmpNo X0.here hx rfl (hb hby d2_15) rfl (teq hc15_18).2 k) ?_
        show own_Gl _ _ _ _ (s₁.setTop (mkF m 18 #[.val (.int p0)] []))
        refine own_go (fun t k => XS.iconst X0.here hx rfl (hb hby d2_18) k) ?_
        show own_Gl _ _ _ _ (s₁.setTop (mkF m 19 #[.val (.int p0)] [(.int (1 : Int32))]))
        refine own_go (fun t k => XS.goto X0.here hx rfl (pc0 := 19) (pc' := 23) rfl (hb hby d2_19) (by decide) (by decide) k) ?_
        show own_Gl _ _ _ _ (s₁.setTop (mkF m 23 #[.val (.int p0)] [(.int (1 : Int32))]))
        obtain ⟨fs, hr, hrun, hended, hW, hsame⟩ := X0.leave (v := some (.int (1 : Int32))) (fun h => by rw [Bd.returns] at h; cases h)
        refine own_fin (retN X0 hx (t := .boolean) Bd.returns (by simp) (hb hby d2_23) hr) hrun hended ⟨_, _, rfl, ?_, ⟨_, rfl⟩, hW, hsame.mono (by decide) (by decide)⟩
        show Q2 Z p0 h0 n0 _ s₁.heap _
        rw [e0]
        exact ⟨N0, by rw [f2, if_neg hc3_16, if_neg hc9_17, if_pos hc15_18], rfl⟩
      · refine own_go (fun t k => XS.icmpYes X0.here hx rfl (pc0 := 15) (pc' := 22) rfl (hb hby d2_15) rfl (feq hc15_18).2 (by decide) (by decide) k) ?_
        show own_Gl _ _ _ _ (s₁.setTop (mkF m 22 #[.val (.int p0)] []))
        refine own_go (fun t k => XS.iconst X0.here hx rfl (hb hby d2_22) k) ?_
        show own_Gl _ _ _ _ (s₁.setTop (mkF m 23 #[.val (.int p0)] [(.int (0 : Int32))]))
        obtain ⟨fs, hr, hrun, hended, hW, hsame⟩ := X0.leave (v := some (.int (0 : Int32))) (fun h => by rw [Bd.returns] at h; cases h)
        refine own_fin (retN X0 hx (t := .boolean) Bd.returns (by simp) (hb hby d2_23) hr) hrun hended ⟨_, _, rfl, ?_, ⟨_, rfl⟩, hW, hsame.mono (by decide) (by decide)⟩
        show Q2 Z p0 h0 n0 _ s₁.heap _
        rw [e0]
        exact ⟨N0, by rw [f2, if_neg hc3_16, if_neg hc9_17, if_neg hc15_18], rfl⟩
theorem ef_0 (m : MethodId) (p0 : Int32) (p1 : Int32) : entryFrame m #[(.int p0), (.int p1)] maxLocals = mkF m 0 #[.val (.int p0), .val (.int p1), .unset, .unset] [] := by first | (simp [entryFrame, mkF, argsToLocals, Value.category, maxLocals]; done) | rfl
theorem pd_0 : parseMethodDescriptor "(II)I" = some ⟨[.int, .int], some .int⟩ := by decide +kernel
theorem pd_1 : parseMethodDescriptor "(I)Z" = some ⟨[.int], some .boolean⟩ := by decide +kernel
def f0 (p0 : Int32) (p1 : Int32) : Int32 := (if (f1 p0 (p1 &&& (15 : Int32))) < (9 : Int32) then (if (f2 (f1 p0 (p1 &&& (15 : Int32)))) = (0 : Int32) then (1 : Int32) else (0 : Int32)) else (if (32 : Int32) < (f1 p0 (p1 &&& (15 : Int32))) then (if (f2 (f1 p0 (p1 &&& (15 : Int32)))) = (0 : Int32) then (1 : Int32) else (0 : Int32)) else (if (10 : Int32) < (f1 p0 (p1 &&& (15 : Int32))) then (if (f1 p0 (p1 &&& (15 : Int32))) = (32 : Int32) then (if (f2 (f1 p0 (p1 &&& (15 : Int32)))) = (1 : Int32) then (1 : Int32) else (0 : Int32)) else (if (f2 (f1 p0 (p1 &&& (15 : Int32)))) = (0 : Int32) then (1 : Int32) else (0 : Int32))) else (if (f2 (f1 p0 (p1 &&& (15 : Int32)))) = (1 : Int32) then (1 : Int32) else (0 : Int32)))))
def Q0 (Z : State) (p0 : Int32) (p1 : Int32) (h0 : Heap) (n0 : Nat) (v : Option Value) (h : Heap) (L : List Loc) : Prop := Fr n0 L ∧ v = some (.int (f0 p0 p1))
set_option maxRecDepth 65536 in
set_option maxHeartbeats 40000000 in
theorem rm0 (l : Launch) (Z : State) (a0 : Array Value) (hw : ∀ d ∈ tables_1, d.before a0 Z = true) (ws : List Jvm.Cond) (p0 : Int32) (p1 : Int32) (h0 : Heap) (n0 : Nat) (Z0 : n0 ≤ h0.size)  :
    MetFree l x (head1 (Jvm.Cond.code x code maxLocals ret :: ws) room_1) (fun a U => a = #[(.int p0), (.int p1)] ∧ Z.Warmed39 U.vm ∧ U.heap = h0) (fun _ _ _ _ _ => True) (fun _ U o U' => ∃ v L, o = .returned v ∧ Q0 Z p0 p1 h0 n0 v U'.heap L ∧ FrameEnd U o U' L room_1.cells room_1.slots) := by
  refine MetFree.of_bodySF (plainFor_of_name pn_org_loomstyle_parse_CharactersIsWhitespacePinLaw) hisR ?_
  intro p e s m args below meth c s₁ Bd hml0 hP hK
  obtain ⟨rfl, hZ, hh⟩ := hP
  have hx := Bd.exec
  have hby := Bd.bytes
  have hml : c.maxLocals = 4 := hml0
  have hown : s.vm.findClass "org/loomstyle/parse/CharactersIsWhitespacePinLaw" = some m.cls := findClass_of_methodNamed Bd.named
  have hnm := (name_of_methodNamed Bd.named Bd.method).1
  have X0 : Stand p l e room_1 s m #[(.int p0), (.int p1)] below meth c s₁ [] 0 0 := Stand.of_body Bd
  have e0 : s₁.heap = h0 := by rw [← hh, Bd.state]; rfl
  have N0 := Fr.nil n0
  show own_Gl p e below (fun o U' => ∃ v L, o = .returned v ∧ Q0 Z p0 p1 h0 n0 v U'.heap L ∧ FrameEnd s o U' L room_1.cells room_1.slots) (s₁.setTop (entryFrame m #[(.int p0), (.int p1)] maxLocals))
  refine own_go (fun t k => castTop (ef_0 m p0 p1) k) ?_
  show own_Gl _ _ _ _ (s₁.setTop (mkF m 0 #[.val (.int p0), .val (.int p1), .unset, .unset] []))
  refine own_go (fun t k => XS.iloadN X0.here hx rfl (hb hby at_0) rfl k) ?_
  show own_Gl _ _ _ _ (s₁.setTop (mkF m 1 #[.val (.int p0), .val (.int p1), .unset, .unset] [(.int p0)]))
  refine own_go (fun t k => XS.iloadN X0.here hx rfl (hb hby at_1) rfl k) ?_
  show own_Gl _ _ _ _ (s₁.setTop (mkF m 2 #[.val (.int p0), .val (.int p1), .unset, .unset] [(.int p1), (.int p0)]))
  refine own_go (fun t k => XS.bipush X0.here hx rfl (hb hby at_2) k) ?_
  show own_Gl _ _ _ _ (s₁.setTop (mkF m 4 #[.val (.int p0), .val (.int p1), .unset, .unset] [(.int (15 : Int32)), (.int p1), (.int p0)]))
  refine own_go (fun t k => XS.iand X0.here hx rfl (hb hby at_4) rfl k) ?_
  show own_Gl _ _ _ _ (s₁.setTop (mkF m 5 #[.val (.int p0), .val (.int p1), .unset, .unset] [(.int (p1 &&& (15 : Int32))), (.int p0)]))
  obtain ⟨_, _, ⟨T19, L19, kk19, nn19⟩, -, X19, ⟨Lc19, hQ19, l19, y19, z19⟩, st19⟩ := Jvm.LawKit.callS X0 hx (y := (⟨"org/loomstyle/parse/CharactersIsWhitespacePinLaw", "pick", "(II)I"⟩ : MethodName)) hown (mvT hZ (hw _ (List.mem_of_getElem? (i := 0) rfl))) (mvT hZ (hw _ (List.mem_of_getElem? (i := 1) rfl))) (mvT hZ (hw _ (List.mem_of_getElem? (i := 2) rfl))) (mvT hZ (hw _ (List.mem_of_getElem? (i := 3) rfl))) (by decide) (backOf (W := 0) (rm1 l Z a0 hw [] p0 (p1 &&& (15 : Int32)) h0 n0 Z0 ) hZ (hw _ (List.mem_of_getElem? (i := 3) rfl)) (hw _ (List.mem_of_getElem? (i := 2) rfl)) (by decide) (by decide)) (g := (mkF m 5 #[.val (.int p0), .val (.int p1), .unset, .unset] [(.int (p1 &&& (15 : Int32))), (.int p0)])) rfl (by rw [hml]; rfl) (argsL := [(.int p0), (.int (p1 &&& (15 : Int32)))]) (rest := []) (lenOf pd_0 rfl) rfl (by show 2 * 0 + _ ≤ _; exact Nat.le_of_eq rfl) (hb hby at_5) (fun _ _ => ⟨rfl, e0, (by decide : 0 + 0 ≤ _), (by decide : 0 + 0 ≤ _)⟩)
  dsimp only [Pt.U, Pt.locs, Pt.cells, Pt.slots] at X19 l19 y19 z19 st19 hQ19
  subst l19 y19 z19
  obtain ⟨N19q, rfl, hq19⟩ := hQ19
  have N19 := Fr.app N0 N19q
  refine own_go (fun t k => st19 _ k) ?_
  show own_Gl _ _ _ _ (T19.setTop (mkF m 8 #[.val (.int p0), .val (.int p1), .unset, .unset] [(.int (f1 p0 (p1 &&& (15 : Int32))))]))
  refine own_go (fun t k => XS.istoreN X19.here hx rfl (hb hby at_8) rfl (l' := #[.val (.int p0), .val (.int p1), .val (.int (f1 p0 (p1 &&& (15 : Int32)))), .unset]) rfl k) ?_
  show own_Gl _ _ _ _ (T19.setTop (mkF m 9 #[.val (.int p0), .val (.int p1), .val (.int (f1 p0 (p1 &&& (15 : Int32)))), .unset] []))
  refine own_go (fun t k => XS.iloadN X19.here hx rfl (hb hby at_9) rfl k) ?_
  show own_Gl _ _ _ _ (T19.setTop (mkF m 10 #[.val (.int p0), .val (.int p1), .val (.int (f1 p0 (p1 &&& (15 : Int32)))), .unset] [(.int (f1 p0 (p1 &&& (15 : Int32))))]))
  refine own_go (fun t k => XS.bipush X19.here hx rfl (hb hby at_10) k) ?_
  show own_Gl _ _ _ _ (T19.setTop (mkF m 12 #[.val (.int p0), .val (.int p1), .val (.int (f1 p0 (p1 &&& (15 : Int32)))), .unset] [(.int (9 : Int32)), (.int (f1 p0 (p1 &&& (15 : Int32))))]))
  by_cases hc12_20 : (f1 p0 (p1 &&& (15 : Int32))) < (9 : Int32)
  · refine own_go (fun t k => XS.icmpYes X19.here hx rfl (pc0 := 12) (pc' := 37) rfl (hb hby at_12) rfl (tlt hc12_20).1 (by decide) (by decide) k) ?_
    show own_Gl _ _ _ _ (T19.setTop (mkF m 37 #[.val (.int p0), .val (.int p1), .val (.int (f1 p0 (p1 &&& (15 : Int32)))), .unset] []))
    refine own_go (fun t k => XS.iconst X19.here hx rfl (hb hby at_37) k) ?_
    show own_Gl _ _ _ _ (T19.setTop (mkF m 38 #[.val (.int p0), .val (.int p1), .val (.int (f1 p0 (p1 &&& (15 : Int32)))), .unset] [(.int (0 : Int32))]))
    refine own_go (fun t k => XS.istoreN X19.here hx rfl (hb hby at_38) rfl (l' := #[.val (.int p0), .val (.int p1), .val (.int (f1 p0 (p1 &&& (15 : Int32)))), .val (.int (0 : Int32))]) rfl k) ?_
    show own_Gl _ _ _ _ (T19.setTop (mkF m 39 #[.val (.int p0), .val (.int p1), .val (.int (f1 p0 (p1 &&& (15 : Int32)))), .val (.int (0 : Int32))] []))
    refine own_go (fun t k => XS.iloadN X19.here hx rfl (hb hby at_39) rfl k) ?_
    show own_Gl _ _ _ _ (T19.setTop (mkF m 40 #[.val (.int p0), .val (.int p1), .val (.int (f1 p0 (p1 &&& (15 : Int32)))), .val (.int (0 : Int32))] [(.int (f1 p0 (p1 &&& (15 : Int32))))]))
    obtain ⟨_, _, ⟨T21, L21, kk21, nn21⟩, -, X21, ⟨Lc21, hQ21, l21, y21, z21⟩, st21⟩ := Jvm.LawKit.callS X19 hx (y := (⟨"org/loomstyle/parse/Characters", "isWhitespace", "(I)Z"⟩ : MethodName)) hown (mvT hZ (hw _ (List.mem_of_getElem? (i := 4) rfl))) (mvT hZ (hw _ (List.mem_of_getElem? (i := 5) rfl))) (mvT hZ (hw _ (List.mem_of_getElem? (i := 6) rfl))) (mvT hZ (hw _ (List.mem_of_getElem? (i := 7) rfl))) (by decide) (backOf (W := 0) (rm2 l Z a0 hw [] (f1 p0 (p1 &&& (15 : Int32))) h0 n0 Z0 ) hZ (hw _ (List.mem_of_getElem? (i := 7) rfl)) (hw _ (List.mem_of_getElem? (i := 6) rfl)) (by decide) (by decide)) (g := (mkF m 40 #[.val (.int p0), .val (.int p1), .val (.int (f1 p0 (p1 &&& (15 : Int32)))), .val (.int (0 : Int32))] [(.int (f1 p0 (p1 &&& (15 : Int32))))])) rfl (by rw [hml]; rfl) (argsL := [(.int (f1 p0 (p1 &&& (15 : Int32))))]) (rest := []) (lenOf pd_1 rfl) rfl (by show 2 * 0 + _ ≤ _; exact Nat.le_of_eq rfl) (hb hby at_40) (fun _ _ => ⟨rfl, hq19, (by decide : 0 + 0 ≤ _), (by decide : 0 + 0 ≤ _)⟩)
    dsimp only [Pt.U, Pt.locs, Pt.cells, Pt.slots] at X21 l21 y21 z21 st21 hQ21
    subst l21 y21 z21
    obtain ⟨N21q, rfl, hq21⟩ := hQ21
    have N21 := Fr.app N19 N21q
    refine own_go (fun t k => st21 _ k) ?_
    show own_Gl _ _ _ _ (T21.setTop (mkF m 43 #[.val (.int p0), .val (.int p1), .val (.int (f1 p0 (p1 &&& (15 : Int32)))), .val (.int (0 : Int32))] [(.int (f2 (f1 p0 (p1 &&& (15 : Int32)))))]))
    refine own_go (fun t k => XS.iloadN X21.here hx rfl (hb hby at_43) rfl k) ?_
    show own_Gl _ _ _ _ (T21.setTop (mkF m 44 #[.val (.int p0), .val (.int p1), .val (.int (f1 p0 (p1 &&& (15 : Int32)))), .val (.int (0 : Int32))] [(.int (0 : Int32)), (.int (f2 (f1 p0 (p1 &&& (15 : Int32)))))]))
    by_cases hc44_22 : (f2 (f1 p0 (p1 &&& (15 : Int32)))) = (0 : Int32)
    · refine own_go (fun t k => XS.icmpNo X21.here hx rfl (hb hby at_44) rfl (teq hc44_22).2 k) ?_
      show own_Gl _ _ _ _ (T21.setTop (mkF m 47 #[.val (.int p0), .val (.int p1), .val (.int (f1 p0 (p1 &&& (15 : Int32)))), .val (.int (0 : Int32))] []))
      refine own_go (fun t k => XS.iconst X21.here hx rfl (hb hby at_47) k) ?_
      show own_Gl _ _ _ _ (T21.setTop (mkF m 48 #[.val (.int p0), .val (.int p1), .val (.int (f1 p0 (p1 &&& (15 : Int32)))), .val (.int (0 : Int32))] [(.int (1 : Int32))]))
      refine own_go (fun t k => XS.goto X21.here hx rfl (pc0 := 48) (pc' := 52) rfl (hb hby at_48) (by decide) (by decide) k) ?_
      show own_Gl _ _ _ _ (T21.setTop (mkF m 52 #[.val (.int p0), .val (.int p1), .val (.int (f1 p0 (p1 &&& (15 : Int32)))), .val (.int (0 : Int32))] [(.int (1 : Int32))]))
      obtain ⟨fs, hr, hrun, hended, hW, hsame⟩ := X21.leave (v := some (.int (1 : Int32))) (fun h => by rw [Bd.returns] at h; cases h)
      refine own_fin (retN X21 hx (t := .boolean) Bd.returns (by simp) (hb hby at_52) hr) hrun hended ⟨_, _, rfl, ?_, ⟨_, rfl⟩, hW, hsame.mono (by decide) (by decide)⟩
      show Q0 Z p0 p1 h0 n0 _ T21.heap _
      rw [hq21]
      exact ⟨N21, by rw [f0, if_pos hc12_20, if_pos hc44_22]⟩
    · refine own_go (fun t k => XS.icmpYes X21.here hx rfl (pc0 := 44) (pc' := 51) rfl (hb hby at_44) rfl (feq hc44_22).2 (by decide) (by decide) k) ?_
      show own_Gl _ _ _ _ (T21.setTop (mkF m 51 #[.val (.int p0), .val (.int p1), .val (.int (f1 p0 (p1 &&& (15 : Int32)))), .val (.int (0 : Int32))] []))
      refine own_go (fun t k => XS.iconst X21.here hx rfl (hb hby at_51) k) ?_
      show own_Gl _ _ _ _ (T21.setTop (mkF m 52 #[.val (.int p0), .val (.int p1), .val (.int (f1 p0 (p1 &&& (15 : Int32)))), .val (.int (0 : Int32))] [(.int (0 : Int32))]))
      obtain ⟨fs, hr, hrun, hended, hW, hsame⟩ := X21.leave (v := some (.int (0 : Int32))) (fun h => by rw [Bd.returns] at h; cases h)
      refine own_fin (retN X21 hx (t := .boolean) Bd.returns (by simp) (hb hby at_52) hr) hrun hended ⟨_, _, rfl, ?_, ⟨_, rfl⟩, hW, hsame.mono (by decide) (by decide)⟩
      show Q0 Z p0 p1 h0 n0 _ T21.heap _
      rw [hq21]
      exact ⟨N21, by rw [f0, if_pos hc12_20, if_neg hc44_22]⟩
  · refine own_go (fun t k => XS.icmpNo X19.here hx rfl (hb hby at_12) rfl (flt hc12_20).1 k) ?_
    show own_Gl _ _ _ _ (T19.setTop (mkF m 15 #[.val (.int p0), .val (.int p1), .val (.int (f1 p0 (p1 &&& (15 : Int32)))), .unset] []))
    refine own_go (fun t k => XS.iloadN X19.here hx rfl (hb hby at_15) rfl k) ?_
    show own_Gl _ _ _ _ (T19.setTop (mkF m 16 #[.val (.int p0), .val (.int p1), .val (.int (f1 p0 (p1 &&& (15 : Int32)))), .unset] [(.int (f1 p0 (p1 &&& (15 : Int32))))]))
    refine own_go (fun t k => XS.bipush X19.here hx rfl (hb hby at_16) k) ?_
    show own_Gl _ _ _ _ (T19.setTop (mkF m 18 #[.val (.int p0), .val (.int p1), .val (.int (f1 p0 (p1 &&& (15 : Int32)))), .unset] [(.int (32 : Int32)), (.int (f1 p0 (p1 &&& (15 : Int32))))]))
    by_cases hc18_23 : (32 : Int32) < (f1 p0 (p1 &&& (15 : Int32)))
    · refine own_go (fun t k => XS.icmpYes X19.here hx rfl (pc0 := 18) (pc' := 37) rfl (hb hby at_18) rfl (tlt hc18_23).2.2.1 (by decide) (by decide) k) ?_
      show own_Gl _ _ _ _ (T19.setTop (mkF m 37 #[.val (.int p0), .val (.int p1), .val (.int (f1 p0 (p1 &&& (15 : Int32)))), .unset] []))
      refine own_go (fun t k => XS.iconst X19.here hx rfl (hb hby at_37) k) ?_
      show own_Gl _ _ _ _ (T19.setTop (mkF m 38 #[.val (.int p0), .val (.int p1), .val (.int (f1 p0 (p1 &&& (15 : Int32)))), .unset] [(.int (0 : Int32))]))
      refine own_go (fun t k => XS.istoreN X19.here hx rfl (hb hby at_38) rfl (l' := #[.val (.int p0), .val (.int p1), .val (.int (f1 p0 (p1 &&& (15 : Int32)))), .val (.int (0 : Int32))]) rfl k) ?_
      show own_Gl _ _ _ _ (T19.setTop (mkF m 39 #[.val (.int p0), .val (.int p1), .val (.int (f1 p0 (p1 &&& (15 : Int32)))), .val (.int (0 : Int32))] []))
      refine own_go (fun t k => XS.iloadN X19.here hx rfl (hb hby at_39) rfl k) ?_
      show own_Gl _ _ _ _ (T19.setTop (mkF m 40 #[.val (.int p0), .val (.int p1), .val (.int (f1 p0 (p1 &&& (15 : Int32)))), .val (.int (0 : Int32))] [(.int (f1 p0 (p1 &&& (15 : Int32))))]))
      obtain ⟨_, _, ⟨T24, L24, kk24, nn24⟩, -, X24, ⟨Lc24, hQ24, l24, y24, z24⟩, st24⟩ := Jvm.LawKit.callS X19 hx (y := (⟨"org/loomstyle/parse/Characters", "isWhitespace", "(I)Z"⟩ : MethodName)) hown (mvT hZ (hw _ (List.mem_of_getElem? (i := 4) rfl))) (mvT hZ (hw _ (List.mem_of_getElem? (i := 5) rfl))) (mvT hZ (hw _ (List.mem_of_getElem? (i := 6) rfl))) (mvT hZ (hw _ (List.mem_of_getElem? (i := 7) rfl))) (by decide) (backOf (W := 0) (rm2 l Z a0 hw [] (f1 p0 (p1 &&& (15 : Int32))) h0 n0 Z0 ) hZ (hw _ (List.mem_of_getElem? (i := 7) rfl)) (hw _ (List.mem_of_getElem? (i := 6) rfl)) (by decide) (by decide)) (g := (mkF m 40 #[.val (.int p0), .val (.int p1), .val (.int (f1 p0 (p1 &&& (15 : Int32)))), .val (.int (0 : Int32))] [(.int (f1 p0 (p1 &&& (15 : Int32))))])) rfl (by rw [hml]; rfl) (argsL := [(.int (f1 p0 (p1 &&& (15 : Int32))))]) (rest := []) (lenOf pd_1 rfl) rfl (by show 2 * 0 + _ ≤ _; exact Nat.le_of_eq rfl) (hb hby at_40) (fun _ _ => ⟨rfl, hq19, (by decide : 0 + 0 ≤ _), (by decide : 0 + 0 ≤ _)⟩)
      dsimp only [Pt.U, Pt.locs, Pt.cells, Pt.slots] at X24 l24 y24 z24 st24 hQ24
      subst l24 y24 z24
      obtain ⟨N24q, rfl, hq24⟩ := hQ24
      have N24 := Fr.app N19 N24q
      refine own_go (fun t k => st24 _ k) ?_
      show own_Gl _ _ _ _ (T24.setTop (mkF m 43 #[.val (.int p0), .val (.int p1), .val (.int (f1 p0 (p1 &&& (15 : Int32)))), .val (.int (0 : Int32))] [(.int (f2 (f1 p0 (p1 &&& (15 : Int32)))))]))
      refine own_go (fun t k => XS.iloadN X24.here hx rfl (hb hby at_43) rfl k) ?_
      show own_Gl _ _ _ _ (T24.setTop (mkF m 44 #[.val (.int p0), .val (.int p1), .val (.int (f1 p0 (p1 &&& (15 : Int32)))), .val (.int (0 : Int32))] [(.int (0 : Int32)), (.int (f2 (f1 p0 (p1 &&& (15 : Int32)))))]))
      by_cases hc44_25 : (f2 (f1 p0 (p1 &&& (15 : Int32)))) = (0 : Int32)
      · refine own_go (fun t k => XS.icmpNo X24.here hx rfl (hb hby at_44) rfl (teq hc44_25).2 k) ?_
        show own_Gl _ _ _ _ (T24.setTop (mkF m 47 #[.val (.int p0), .val (.int p1), .val (.int (f1 p0 (p1 &&& (15 : Int32)))), .val (.int (0 : Int32))] []))
        refine own_go (fun t k => XS.iconst X24.here hx rfl (hb hby at_47) k) ?_
        show own_Gl _ _ _ _ (T24.setTop (mkF m 48 #[.val (.int p0), .val (.int p1), .val (.int (f1 p0 (p1 &&& (15 : Int32)))), .val (.int (0 : Int32))] [(.int (1 : Int32))]))
        refine own_go (fun t k => XS.goto X24.here hx rfl (pc0 := 48) (pc' := 52) rfl (hb hby at_48) (by decide) (by decide) k) ?_
        show own_Gl _ _ _ _ (T24.setTop (mkF m 52 #[.val (.int p0), .val (.int p1), .val (.int (f1 p0 (p1 &&& (15 : Int32)))), .val (.int (0 : Int32))] [(.int (1 : Int32))]))
        obtain ⟨fs, hr, hrun, hended, hW, hsame⟩ := X24.leave (v := some (.int (1 : Int32))) (fun h => by rw [Bd.returns] at h; cases h)
        refine own_fin (retN X24 hx (t := .boolean) Bd.returns (by simp) (hb hby at_52) hr) hrun hended ⟨_, _, rfl, ?_, ⟨_, rfl⟩, hW, hsame.mono (by decide) (by decide)⟩
        show Q0 Z p0 p1 h0 n0 _ T24.heap _
        rw [hq24]
        exact ⟨N24, by rw [f0, if_neg hc12_20, if_pos hc18_23, if_pos hc44_25]⟩
      · refine own_go (fun t k => XS.icmpYes X24.here hx rfl (pc0 := 44) (pc' := 51) rfl (hb hby at_44) rfl (feq hc44_25).2 (by decide) (by decide) k) ?_
        show own_Gl _ _ _ _ (T24.setTop (mkF m 51 #[.val (.int p0), .val (.int p1), .val (.int (f1 p0 (p1 &&& (15 : Int32)))), .val (.int (0 : Int32))] []))
        refine own_go (fun t k => XS.iconst X24.here hx rfl (hb hby at_51) k) ?_
        show own_Gl _ _ _ _ (T24.setTop (mkF m 52 #[.val (.int p0), .val (.int p1), .val (.int (f1 p0 (p1 &&& (15 : Int32)))), .val (.int (0 : Int32))] [(.int (0 : Int32))]))
        obtain ⟨fs, hr, hrun, hended, hW, hsame⟩ := X24.leave (v := some (.int (0 : Int32))) (fun h => by rw [Bd.returns] at h; cases h)
        refine own_fin (retN X24 hx (t := .boolean) Bd.returns (by simp) (hb hby at_52) hr) hrun hended ⟨_, _, rfl, ?_, ⟨_, rfl⟩, hW, hsame.mono (by decide) (by decide)⟩
        show Q0 Z p0 p1 h0 n0 _ T24.heap _
        rw [hq24]
        exact ⟨N24, by rw [f0, if_neg hc12_20, if_pos hc18_23, if_neg hc44_25]⟩
    · refine own_go (fun t k => XS.icmpNo X19.here hx rfl (hb hby at_18) rfl (flt hc18_23).2.2.1 k) ?_
      show own_Gl _ _ _ _ (T19.setTop (mkF m 21 #[.val (.int p0), .val (.int p1), .val (.int (f1 p0 (p1 &&& (15 : Int32)))), .unset] []))
      refine own_go (fun t k => XS.iloadN X19.here hx rfl (hb hby at_21) rfl k) ?_
      show own_Gl _ _ _ _ (T19.setTop (mkF m 22 #[.val (.int p0), .val (.int p1), .val (.int (f1 p0 (p1 &&& (15 : Int32)))), .unset] [(.int (f1 p0 (p1 &&& (15 : Int32))))]))
      refine own_go (fun t k => XS.bipush X19.here hx rfl (hb hby at_22) k) ?_
      show own_Gl _ _ _ _ (T19.setTop (mkF m 24 #[.val (.int p0), .val (.int p1), .val (.int (f1 p0 (p1 &&& (15 : Int32)))), .unset] [(.int (10 : Int32)), (.int (f1 p0 (p1 &&& (15 : Int32))))]))
      by_cases hc24_26 : (10 : Int32) < (f1 p0 (p1 &&& (15 : Int32)))
      · refine own_go (fun t k => XS.icmpNo X19.here hx rfl (hb hby at_24) rfl (tlt hc24_26).2.2.2 k) ?_
        show own_Gl _ _ _ _ (T19.setTop (mkF m 27 #[.val (.int p0), .val (.int p1), .val (.int (f1 p0 (p1 &&& (15 : Int32)))), .unset] []))
        refine own_go (fun t k => XS.iloadN X19.here hx rfl (hb hby at_27) rfl k) ?_
        show own_Gl _ _ _ _ (T19.setTop (mkF m 28 #[.val (.int p0), .val (.int p1), .val (.int (f1 p0 (p1 &&& (15 : Int32)))), .unset] [(.int (f1 p0 (p1 &&& (15 : Int32))))]))
        refine own_go (fun t k => XS.bipush X19.here hx rfl (hb hby at_28) k) ?_
        show own_Gl _ _ _ _ (T19.setTop (mkF m 30 #[.val (.int p0), .val (.int p1), .val (.int (f1 p0 (p1 &&& (15 : Int32)))), .unset] [(.int (32 : Int32)), (.int (f1 p0 (p1 &&& (15 : Int32))))]))
        by_cases hc30_27 : (f1 p0 (p1 &&& (15 : Int32))) = (32 : Int32)
        · refine own_go (fun t k => XS.icmpNo X19.here hx rfl (hb hby at_30) rfl (teq hc30_27).2 k) ?_
          show own_Gl _ _ _ _ (T19.setTop (mkF m 33 #[.val (.int p0), .val (.int p1), .val (.int (f1 p0 (p1 &&& (15 : Int32)))), .unset] []))
          refine own_go (fun t k => XS.iconst X19.here hx rfl (hb hby at_33) k) ?_
          show own_Gl _ _ _ _ (T19.setTop (mkF m 34 #[.val (.int p0), .val (.int p1), .val (.int (f1 p0 (p1 &&& (15 : Int32)))), .unset] [(.int (1 : Int32))]))
          refine own_go (fun t k => XS.goto X19.here hx rfl (pc0 := 34) (pc' := 38) rfl (hb hby at_34) (by decide) (by decide) k) ?_
          show own_Gl _ _ _ _ (T19.setTop (mkF m 38 #[.val (.int p0), .val (.int p1), .val (.int (f1 p0 (p1 &&& (15 : Int32)))), .unset] [(.int (1 : Int32))]))
          refine own_go (fun t k => XS.istoreN X19.here hx rfl (hb hby at_38) rfl (l' := #[.val (.int p0), .val (.int p1), .val (.int (f1 p0 (p1 &&& (15 : Int32)))), .val (.int (1 : Int32))]) rfl k) ?_
          show own_Gl _ _ _ _ (T19.setTop (mkF m 39 #[.val (.int p0), .val (.int p1), .val (.int (f1 p0 (p1 &&& (15 : Int32)))), .val (.int (1 : Int32))] []))
          refine own_go (fun t k => XS.iloadN X19.here hx rfl (hb hby at_39) rfl k) ?_
          show own_Gl _ _ _ _ (T19.setTop (mkF m 40 #[.val (.int p0), .val (.int p1), .val (.int (f1 p0 (p1 &&& (15 : Int32)))), .val (.int (1 : Int32))] [(.int (f1 p0 (p1 &&& (15 : Int32))))]))
          obtain ⟨_, _, ⟨T28, L28, kk28, nn28⟩, -, X28, ⟨Lc28, hQ28, l28, y28, z28⟩, st28⟩ := Jvm.LawKit.callS X19 hx (y := (⟨"org/loomstyle/parse/Characters", "isWhitespace", "(I)Z"⟩ : MethodName)) hown (mvT hZ (hw _ (List.mem_of_getElem? (i := 4) rfl))) (mvT hZ (hw _ (List.mem_of_getElem? (i := 5) rfl))) (mvT hZ (hw _ (List.mem_of_getElem? (i := 6) rfl))) (mvT hZ (hw _ (List.mem_of_getElem? (i := 7) rfl))) (by decide) (backOf (W := 0) (rm2 l Z a0 hw [] (f1 p0 (p1 &&& (15 : Int32))) h0 n0 Z0 ) hZ (hw _ (List.mem_of_getElem? (i := 7) rfl)) (hw _ (List.mem_of_getElem? (i := 6) rfl)) (by decide) (by decide)) (g := (mkF m 40 #[.val (.int p0), .val (.int p1), .val (.int (f1 p0 (p1 &&& (15 : Int32)))), .val (.int (1 : Int32))] [(.int (f1 p0 (p1 &&& (15 : Int32))))])) rfl (by rw [hml]; rfl) (argsL := [(.int (f1 p0 (p1 &&& (15 : Int32))))]) (rest := []) (lenOf pd_1 rfl) rfl (by show 2 * 0 + _ ≤ _; exact Nat.le_of_eq rfl) (hb hby at_40) (fun _ _ => ⟨rfl, hq19, (by decide : 0 + 0 ≤ _), (by decide : 0 + 0 ≤ _)⟩)
          dsimp only [Pt.U, Pt.locs, Pt.cells, Pt.slots] at X28 l28 y28 z28 st28 hQ28
          subst l28 y28 z28
          obtain ⟨N28q, rfl, hq28⟩ := hQ28
          have N28 := Fr.app N19 N28q
          refine own_go (fun t k => st28 _ k) ?_
          show own_Gl _ _ _ _ (T28.setTop (mkF m 43 #[.val (.int p0), .val (.int p1), .val (.int (f1 p0 (p1 &&& (15 : Int32)))), .val (.int (1 : Int32))] [(.int (f2 (f1 p0 (p1 &&& (15 : Int32)))))]))
          refine own_go (fun t k => XS.iloadN X28.here hx rfl (hb hby at_43) rfl k) ?_
          show own_Gl _ _ _ _ (T28.setTop (mkF m 44 #[.val (.int p0), .val (.int p1), .val (.int (f1 p0 (p1 &&& (15 : Int32)))), .val (.int (1 : Int32))] [(.int (1 : Int32)), (.int (f2 (f1 p0 (p1 &&& (15 : Int32)))))]))
          by_cases hc44_29 : (f2 (f1 p0 (p1 &&& (15 : Int32)))) = (1 : Int32)
          · refine own_go (fun t k => XS.icmpNo X28.here hx rfl (hb hby at_44) rfl (teq hc44_29).2 k) ?_
            show own_Gl _ _ _ _ (T28.setTop (mkF m 47 #[.val (.int p0), .val (.int p1), .val (.int (f1 p0 (p1 &&& (15 : Int32)))), .val (.int (1 : Int32))] []))
            refine own_go (fun t k => XS.iconst X28.here hx rfl (hb hby at_47) k) ?_
            show own_Gl _ _ _ _ (T28.setTop (mkF m 48 #[.val (.int p0), .val (.int p1), .val (.int (f1 p0 (p1 &&& (15 : Int32)))), .val (.int (1 : Int32))] [(.int (1 : Int32))]))
            refine own_go (fun t k => XS.goto X28.here hx rfl (pc0 := 48) (pc' := 52) rfl (hb hby at_48) (by decide) (by decide) k) ?_
            show own_Gl _ _ _ _ (T28.setTop (mkF m 52 #[.val (.int p0), .val (.int p1), .val (.int (f1 p0 (p1 &&& (15 : Int32)))), .val (.int (1 : Int32))] [(.int (1 : Int32))]))
            obtain ⟨fs, hr, hrun, hended, hW, hsame⟩ := X28.leave (v := some (.int (1 : Int32))) (fun h => by rw [Bd.returns] at h; cases h)
            refine own_fin (retN X28 hx (t := .boolean) Bd.returns (by simp) (hb hby at_52) hr) hrun hended ⟨_, _, rfl, ?_, ⟨_, rfl⟩, hW, hsame.mono (by decide) (by decide)⟩
            show Q0 Z p0 p1 h0 n0 _ T28.heap _
            rw [hq28]
            exact ⟨N28, by rw [f0, if_neg hc12_20, if_neg hc18_23, if_pos hc24_26, if_pos hc30_27, if_pos hc44_29]⟩
          · refine own_go (fun t k => XS.icmpYes X28.here hx rfl (pc0 := 44) (pc' := 51) rfl (hb hby at_44) rfl (feq hc44_29).2 (by decide) (by decide) k) ?_
            show own_Gl _ _ _ _ (T28.setTop (mkF m 51 #[.val (.int p0), .val (.int p1), .val (.int (f1 p0 (p1 &&& (15 : Int32)))), .val (.int (1 : Int32))] []))
            refine own_go (fun t k => XS.iconst X28.here hx rfl (hb hby at_51) k) ?_
            show own_Gl _ _ _ _ (T28.setTop (mkF m 52 #[.val (.int p0), .val (.int p1), .val (.int (f1 p0 (p1 &&& (15 : Int32)))), .val (.int (1 : Int32))] [(.int (0 : Int32))]))
            obtain ⟨fs, hr, hrun, hended, hW, hsame⟩ := X28.leave (v := some (.int (0 : Int32))) (fun h => by rw [Bd.returns] at h; cases h)
            refine own_fin (retN X28 hx (t := .boolean) Bd.returns (by simp) (hb hby at_52) hr) hrun hended ⟨_, _, rfl, ?_, ⟨_, rfl⟩, hW, hsame.mono (by decide) (by decide)⟩
            show Q0 Z p0 p1 h0 n0 _ T28.heap _
            rw [hq28]
            exact ⟨N28, by rw [f0, if_neg hc12_20, if_neg hc18_23, if_pos hc24_26, if_pos hc30_27, if_neg hc44_29]⟩
        · refine own_go (fun t k => XS.icmpYes X19.here hx rfl (pc0 := 30) (pc' := 37) rfl (hb hby at_30) rfl (feq hc30_27).2 (by decide) (by decide) k) ?_
          show own_Gl _ _ _ _ (T19.setTop (mkF m 37 #[.val (.int p0), .val (.int p1), .val (.int (f1 p0 (p1 &&& (15 : Int32)))), .unset] []))
          refine own_go (fun t k => XS.iconst X19.here hx rfl (hb hby at_37) k) ?_
          show own_Gl _ _ _ _ (T19.setTop (mkF m 38 #[.val (.int p0), .val (.int p1), .val (.int (f1 p0 (p1 &&& (15 : Int32)))), .unset] [(.int (0 : Int32))]))
          refine own_go (fun t k => XS.istoreN X19.here hx rfl (hb hby at_38) rfl (l' := #[.val (.int p0), .val (.int p1), .val (.int (f1 p0 (p1 &&& (15 : Int32)))), .val (.int (0 : Int32))]) rfl k) ?_
          show own_Gl _ _ _ _ (T19.setTop (mkF m 39 #[.val (.int p0), .val (.int p1), .val (.int (f1 p0 (p1 &&& (15 : Int32)))), .val (.int (0 : Int32))] []))
          refine own_go (fun t k => XS.iloadN X19.here hx rfl (hb hby at_39) rfl k) ?_
          show own_Gl _ _ _ _ (T19.setTop (mkF m 40 #[.val (.int p0), .val (.int p1), .val (.int (f1 p0 (p1 &&& (15 : Int32)))), .val (.int (0 : Int32))] [(.int (f1 p0 (p1 &&& (15 : Int32))))]))
          obtain ⟨_, _, ⟨T30, L30, kk30, nn30⟩, -, X30, ⟨Lc30, hQ30, l30, y30, z30⟩, st30⟩ := Jvm.LawKit.callS X19 hx (y := (⟨"org/loomstyle/parse/Characters", "isWhitespace", "(I)Z"⟩ : MethodName)) hown (mvT hZ (hw _ (List.mem_of_getElem? (i := 4) rfl))) (mvT hZ (hw _ (List.mem_of_getElem? (i := 5) rfl))) (mvT hZ (hw _ (List.mem_of_getElem? (i := 6) rfl))) (mvT hZ (hw _ (List.mem_of_getElem? (i := 7) rfl))) (by decide) (backOf (W := 0) (rm2 l Z a0 hw [] (f1 p0 (p1 &&& (15 : Int32))) h0 n0 Z0 ) hZ (hw _ (List.mem_of_getElem? (i := 7) rfl)) (hw _ (List.mem_of_getElem? (i := 6) rfl)) (by decide) (by decide)) (g := (mkF m 40 #[.val (.int p0), .val (.int p1), .val (.int (f1 p0 (p1 &&& (15 : Int32)))), .val (.int (0 : Int32))] [(.int (f1 p0 (p1 &&& (15 : Int32))))])) rfl (by rw [hml]; rfl) (argsL := [(.int (f1 p0 (p1 &&& (15 : Int32))))]) (rest := []) (lenOf pd_1 rfl) rfl (by show 2 * 0 + _ ≤ _; exact Nat.le_of_eq rfl) (hb hby at_40) (fun _ _ => ⟨rfl, hq19, (by decide : 0 + 0 ≤ _), (by decide : 0 + 0 ≤ _)⟩)
          dsimp only [Pt.U, Pt.locs, Pt.cells, Pt.slots] at X30 l30 y30 z30 st30 hQ30
          subst l30 y30 z30
          obtain ⟨N30q, rfl, hq30⟩ := hQ30
          have N30 := Fr.app N19 N30q
          refine own_go (fun t k => st30 _ k) ?_
          show own_Gl _ _ _ _ (T30.setTop (mkF m 43 #[.val (.int p0), .val (.int p1), .val (.int (f1 p0 (p1 &&& (15 : Int32)))), .val (.int (0 : Int32))] [(.int (f2 (f1 p0 (p1 &&& (15 : Int32)))))]))
          refine own_go (fun t k => XS.iloadN X30.here hx rfl (hb hby at_43) rfl k) ?_
          show own_Gl _ _ _ _ (T30.setTop (mkF m 44 #[.val (.int p0), .val (.int p1), .val (.int (f1 p0 (p1 &&& (15 : Int32)))), .val (.int (0 : Int32))] [(.int (0 : Int32)), (.int (f2 (f1 p0 (p1 &&& (15 : Int32)))))]))
          by_cases hc44_31 : (f2 (f1 p0 (p1 &&& (15 : Int32)))) = (0 : Int32)
          · refine own_go (fun t k => XS.icmpNo X30.here hx rfl (hb hby at_44) rfl (teq hc44_31).2 k) ?_
            show own_Gl _ _ _ _ (T30.setTop (mkF m 47 #[.val (.int p0), .val (.int p1), .val (.int (f1 p0 (p1 &&& (15 : Int32)))), .val (.int (0 : Int32))] []))
            refine own_go (fun t k => XS.iconst X30.here hx rfl (hb hby at_47) k) ?_
            show own_Gl _ _ _ _ (T30.setTop (mkF m 48 #[.val (.int p0), .val (.int p1), .val (.int (f1 p0 (p1 &&& (15 : Int32)))), .val (.int (0 : Int32))] [(.int (1 : Int32))]))
            refine own_go (fun t k => XS.goto X30.here hx rfl (pc0 := 48) (pc' := 52) rfl (hb hby at_48) (by decide) (by decide) k) ?_
            show own_Gl _ _ _ _ (T30.setTop (mkF m 52 #[.val (.int p0), .val (.int p1), .val (.int (f1 p0 (p1 &&& (15 : Int32)))), .val (.int (0 : Int32))] [(.int (1 : Int32))]))
            obtain ⟨fs, hr, hrun, hended, hW, hsame⟩ := X30.leave (v := some (.int (1 : Int32))) (fun h => by rw [Bd.returns] at h; cases h)
            refine own_fin (retN X30 hx (t := .boolean) Bd.returns (by simp) (hb hby at_52) hr) hrun hended ⟨_, _, rfl, ?_, ⟨_, rfl⟩, hW, hsame.mono (by decide) (by decide)⟩
            show Q0 Z p0 p1 h0 n0 _ T30.heap _
            rw [hq30]
            exact ⟨N30, by rw [f0, if_neg hc12_20, if_neg hc18_23, if_pos hc24_26, if_neg hc30_27, if_pos hc44_31]⟩
          · refine own_go (fun t k => XS.icmpYes X30.here hx rfl (pc0 := 44) (pc' := 51) rfl (hb hby at_44) rfl (feq hc44_31).2 (by decide) (by decide) k) ?_
            show own_Gl _ _ _ _ (T30.setTop (mkF m 51 #[.val (.int p0), .val (.int p1), .val (.int (f1 p0 (p1 &&& (15 : Int32)))), .val (.int (0 : Int32))] []))
            refine own_go (fun t k => XS.iconst X30.here hx rfl (hb hby at_51) k) ?_
            show own_Gl _ _ _ _ (T30.setTop (mkF m 52 #[.val (.int p0), .val (.int p1), .val (.int (f1 p0 (p1 &&& (15 : Int32)))), .val (.int (0 : Int32))] [(.int (0 : Int32))]))
            obtain ⟨fs, hr, hrun, hended, hW, hsame⟩ := X30.leave (v := some (.int (0 : Int32))) (fun h => by rw [Bd.returns] at h; cases h)
            refine own_fin (retN X30 hx (t := .boolean) Bd.returns (by simp) (hb hby at_52) hr) hrun hended ⟨_, _, rfl, ?_, ⟨_, rfl⟩, hW, hsame.mono (by decide) (by decide)⟩
            show Q0 Z p0 p1 h0 n0 _ T30.heap _
            rw [hq30]
            exact ⟨N30, by rw [f0, if_neg hc12_20, if_neg hc18_23, if_pos hc24_26, if_neg hc30_27, if_neg hc44_31]⟩
      · refine own_go (fun t k => XS.icmpYes X19.here hx rfl (pc0 := 24) (pc' := 33) rfl (hb hby at_24) rfl (flt hc24_26).2.2.2 (by decide) (by decide) k) ?_
        show own_Gl _ _ _ _ (T19.setTop (mkF m 33 #[.val (.int p0), .val (.int p1), .val (.int (f1 p0 (p1 &&& (15 : Int32)))), .unset] []))
        refine own_go (fun t k => XS.iconst X19.here hx rfl (hb hby at_33) k) ?_
        show own_Gl _ _ _ _ (T19.setTop (mkF m 34 #[.val (.int p0), .val (.int p1), .val (.int (f1 p0 (p1 &&& (15 : Int32)))), .unset] [(.int (1 : Int32))]))
        refine own_go (fun t k => XS.goto X19.here hx rfl (pc0 := 34) (pc' := 38) rfl (hb hby at_34) (by decide) (by decide) k) ?_
        show own_Gl _ _ _ _ (T19.setTop (mkF m 38 #[.val (.int p0), .val (.int p1), .val (.int (f1 p0 (p1 &&& (15 : Int32)))), .unset] [(.int (1 : Int32))]))
        refine own_go (fun t k => XS.istoreN X19.here hx rfl (hb hby at_38) rfl (l' := #[.val (.int p0), .val (.int p1), .val (.int (f1 p0 (p1 &&& (15 : Int32)))), .val (.int (1 : Int32))]) rfl k) ?_
        show own_Gl _ _ _ _ (T19.setTop (mkF m 39 #[.val (.int p0), .val (.int p1), .val (.int (f1 p0 (p1 &&& (15 : Int32)))), .val (.int (1 : Int32))] []))
        refine own_go (fun t k => XS.iloadN X19.here hx rfl (hb hby at_39) rfl k) ?_
        show own_Gl _ _ _ _ (T19.setTop (mkF m 40 #[.val (.int p0), .val (.int p1), .val (.int (f1 p0 (p1 &&& (15 : Int32)))), .val (.int (1 : Int32))] [(.int (f1 p0 (p1 &&& (15 : Int32))))]))
        obtain ⟨_, _, ⟨T32, L32, kk32, nn32⟩, -, X32, ⟨Lc32, hQ32, l32, y32, z32⟩, st32⟩ := Jvm.LawKit.callS X19 hx (y := (⟨"org/loomstyle/parse/Characters", "isWhitespace", "(I)Z"⟩ : MethodName)) hown (mvT hZ (hw _ (List.mem_of_getElem? (i := 4) rfl))) (mvT hZ (hw _ (List.mem_of_getElem? (i := 5) rfl))) (mvT hZ (hw _ (List.mem_of_getElem? (i := 6) rfl))) (mvT hZ (hw _ (List.mem_of_getElem? (i := 7) rfl))) (by decide) (backOf (W := 0) (rm2 l Z a0 hw [] (f1 p0 (p1 &&& (15 : Int32))) h0 n0 Z0 ) hZ (hw _ (List.mem_of_getElem? (i := 7) rfl)) (hw _ (List.mem_of_getElem? (i := 6) rfl)) (by decide) (by decide)) (g := (mkF m 40 #[.val (.int p0), .val (.int p1), .val (.int (f1 p0 (p1 &&& (15 : Int32)))), .val (.int (1 : Int32))] [(.int (f1 p0 (p1 &&& (15 : Int32))))])) rfl (by rw [hml]; rfl) (argsL := [(.int (f1 p0 (p1 &&& (15 : Int32))))]) (rest := []) (lenOf pd_1 rfl) rfl (by show 2 * 0 + _ ≤ _; exact Nat.le_of_eq rfl) (hb hby at_40) (fun _ _ => ⟨rfl, hq19, (by decide : 0 + 0 ≤ _), (by decide : 0 + 0 ≤ _)⟩)
        dsimp only [Pt.U, Pt.locs, Pt.cells, Pt.slots] at X32 l32 y32 z32 st32 hQ32
        subst l32 y32 z32
        obtain ⟨N32q, rfl, hq32⟩ := hQ32
        have N32 := Fr.app N19 N32q
        refine own_go (fun t k => st32 _ k) ?_
        show own_Gl _ _ _ _ (T32.setTop (mkF m 43 #[.val (.int p0), .val (.int p1), .val (.int (f1 p0 (p1 &&& (15 : Int32)))), .val (.int (1 : Int32))] [(.int (f2 (f1 p0 (p1 &&& (15 : Int32)))))]))
        refine own_go (fun t k => XS.iloadN X32.here hx rfl (hb hby at_43) rfl k) ?_
        show own_Gl _ _ _ _ (T32.setTop (mkF m 44 #[.val (.int p0), .val (.int p1), .val (.int (f1 p0 (p1 &&& (15 : Int32)))), .val (.int (1 : Int32))] [(.int (1 : Int32)), (.int (f2 (f1 p0 (p1 &&& (15 : Int32)))))]))
        by_cases hc44_33 : (f2 (f1 p0 (p1 &&& (15 : Int32)))) = (1 : Int32)
        · refine own_go (fun t k => XS.icmpNo X32.here hx rfl (hb hby at_44) rfl (teq hc44_33).2 k) ?_
          show own_Gl _ _ _ _ (T32.setTop (mkF m 47 #[.val (.int p0), .val (.int p1), .val (.int (f1 p0 (p1 &&& (15 : Int32)))), .val (.int (1 : Int32))] []))
          refine own_go (fun t k => XS.iconst X32.here hx rfl (hb hby at_47) k) ?_
          show own_Gl _ _ _ _ (T32.setTop (mkF m 48 #[.val (.int p0), .val (.int p1), .val (.int (f1 p0 (p1 &&& (15 : Int32)))), .val (.int (1 : Int32))] [(.int (1 : Int32))]))
          refine own_go (fun t k => XS.goto X32.here hx rfl (pc0 := 48) (pc' := 52) rfl (hb hby at_48) (by decide) (by decide) k) ?_
          show own_Gl _ _ _ _ (T32.setTop (mkF m 52 #[.val (.int p0), .val (.int p1), .val (.int (f1 p0 (p1 &&& (15 : Int32)))), .val (.int (1 : Int32))] [(.int (1 : Int32))]))
          obtain ⟨fs, hr, hrun, hended, hW, hsame⟩ := X32.leave (v := some (.int (1 : Int32))) (fun h => by rw [Bd.returns] at h; cases h)
          refine own_fin (retN X32 hx (t := .boolean) Bd.returns (by simp) (hb hby at_52) hr) hrun hended ⟨_, _, rfl, ?_, ⟨_, rfl⟩, hW, hsame.mono (by decide) (by decide)⟩
          show Q0 Z p0 p1 h0 n0 _ T32.heap _
          rw [hq32]
          exact ⟨N32, by rw [f0, if_neg hc12_20, if_neg hc18_23, if_neg hc24_26, if_pos hc44_33]⟩
        · refine own_go (fun t k => XS.icmpYes X32.here hx rfl (pc0 := 44) (pc' := 51) rfl (hb hby at_44) rfl (feq hc44_33).2 (by decide) (by decide) k) ?_
          show own_Gl _ _ _ _ (T32.setTop (mkF m 51 #[.val (.int p0), .val (.int p1), .val (.int (f1 p0 (p1 &&& (15 : Int32)))), .val (.int (1 : Int32))] []))
          refine own_go (fun t k => XS.iconst X32.here hx rfl (hb hby at_51) k) ?_
          show own_Gl _ _ _ _ (T32.setTop (mkF m 52 #[.val (.int p0), .val (.int p1), .val (.int (f1 p0 (p1 &&& (15 : Int32)))), .val (.int (1 : Int32))] [(.int (0 : Int32))]))
          obtain ⟨fs, hr, hrun, hended, hW, hsame⟩ := X32.leave (v := some (.int (0 : Int32))) (fun h => by rw [Bd.returns] at h; cases h)
          refine own_fin (retN X32 hx (t := .boolean) Bd.returns (by simp) (hb hby at_52) hr) hrun hended ⟨_, _, rfl, ?_, ⟨_, rfl⟩, hW, hsame.mono (by decide) (by decide)⟩
          show Q0 Z p0 p1 h0 n0 _ T32.heap _
          rw [hq32]
          exact ⟨N32, by rw [f0, if_neg hc12_20, if_neg hc18_23, if_neg hc24_26, if_neg hc44_33]⟩
theorem own_law (p0 p1 : Int32) : f0 p0 p1 = 1 := by
  unfold f0
  generalize f1 p0 (p1 &&& 15) = c
  have z1 : (9 : Int32).toInt = 9 := rfl
  have z2 : (10 : Int32).toInt = 10 := rfl
  have z3 : (32 : Int32).toInt = 32 := rfl
  simp only [f2, Int32.lt_iff_toInt_lt, ← Int32.toInt_inj]
  repeat' split
  all_goals first | rfl | (exfalso; simp_all; done) | (exfalso; simp only [z1, z2, z3] at *; omega)
set_option maxRecDepth 65536 in
set_option maxHeartbeats 40000000 in
theorem comes_1 {Post : Tables → Env → Array Value → State → Outcome → State → Prop} (hpost : ∀ tb e args s v u, (limb_1_1.after args s (.returned v) u = true ∧ limb_1_2.after args s (.returned v) u = true ∧ True) → FrameEnd s (.returned v) u (Jvm.fieldLocs frame_1_writes args s ++ Jvm.arrayLocs frame_1_arrays args s ++ Jvm.staticLocs frame_1_statics s) 0 0 → Post tb e args s (.returned v) u) :
    ArmFor flags0 classFile x code maxLocals ret World_1 tables_1 room_1 Calls_1 rest_1 Pre_1 Post := by
  intro l hfl _ _ p e ha hc hk s m args below hf hA hF happ hP
  obtain ⟨hcalls, hrest, hpre⟩ := hP
  obtain ⟨-, -, -, hnamed, -, -, -, hat⟩ := (Spec.applies_iff hf).mp happ
  obtain ⟨hg, hn⟩ := and_e (Cond.before_iff.mp (show (Jvm.Cond.and given_1 narrow_1).before args s = true from hpre))
  obtain ⟨g1, g2⟩ := and_e hg
  obtain ⟨g3, g4⟩ := and_e g2
  obtain ⟨w0, w1, rfl⟩ : ∃ w0 w1 : Value, args = #[w0, w1] := by
    have hs : args.size = 2 := by simpa [Cond.value, given_1] using g1
    obtain ⟨L⟩ := args
    match L, hs with
    | [w0, w1], _ => exact ⟨w0, w1, rfl⟩
  have hw := fun d (hd : d ∈ tables_1) => atoms_spec (ws := Jvm.Cond.code x code maxLocals ret :: tables_1) hat d (List.mem_cons_of_mem _ hd)
  have hfit : Fit s := fun {y c} hc i hi => by
    obtain ⟨ha, rfl⟩ := Array.getElem?_eq_some_iff.mp hc
    have q := List.all_eq_true.mp ((Array.all_eq_true_iff_forall_mem.mp hF) _ (Array.getElem_mem ha)) i (List.mem_range.mpr hi)
    simpa [Array.getElem?_eq_getElem hi] using q
  obtain ⟨i0, ei0⟩ := is_v g3
  obtain rfl : w0 = (.int i0) := Option.some.inj ei0
  obtain ⟨i1, ei1⟩ := is_v g4
  obtain rfl : w1 = (.int i1) := Option.some.inj ei1
  obtain ⟨n, o, h1, h2, h3, _, L, rfl, ⟨N, hv⟩, hq⟩ := rm0 l s _ hw tables_1 i0 i1 s.heap s.heap.size (Nat.le_refl _)  p e ha hc hk s m _ below hf ((Spec.applies_iff_loose hf).mp happ).1 ⟨rfl, State.Warmed39.refl s, rfl⟩ trivial
  rw [own_law] at hv
  subst hv
  refine ⟨n, _, h1, h2, h3, hpost _ _ _ _ _ _ ⟨Cond.after_iff.mpr rfl, Cond.after_iff.mpr (eq_i res_at (Term.int_eval (1)) rfl), trivial⟩ ⟨hq.1, hq.2.1, (hq.2.2.sift fun y hy => Or.inr (N y hy)).mono (by decide) (by decide)⟩⟩
theorem main_1_1 : Claimed_1_1 := comes_1 fun _ _ _ _ _ _ h hF => ⟨h.1, hF⟩
theorem main_1_2 : Claimed_1_2 := comes_1 fun _ _ _ _ _ _ h hF => ⟨h.2.1, hF⟩
end Jvm.Pilot.@@N@@
namespace Jvm.Pilot.@@N@@
open Jvm Jvm.ClassFile Sem Op Lib Jvm.Free Jvm.Stand Jvm.Pilot.@@N@@.Jvm.D
/-! MADE BY PROGRAM (witnessworld.py) out of the Statement's table words and the real class files: 9 classes; the members and pool entries that the words name. The judged class is class 1, her method 1. -/
namespace start1
open Jvm.ClassFile
def u (s : String) : CpInfo := .utf8 (stringToUtf16 s)
/-- a pool by its gaps: so many unusable entries, then the entry; so many at the end -/
def gap : Nat → List CpInfo → List CpInfo
  | 0, r => r
  | n + 1, r => .unusable :: gap n r
def poolList (es : List (Nat × CpInfo)) (last : Nat) : List CpInfo := es.foldr (fun e r => gap e.1 (e.2 :: r)) (gap last [])
def pool (es : List (Nat × CpInfo)) (last : Nat) : Array CpInfo := ⟨poolList es last⟩
def fileOf (pool : Array CpInfo) (this : Nat) (attrs : Array Attribute := #[]) (ms : Array MethodInfo := #[]) (fl : Nat := 33) (sup : Nat := 0) (ifs : Array Nat := #[]) (fds : Array FieldInfo := #[]) : ClassFile where
  minorVersion := 0
  majorVersion := 65
  constantPool := pool
  accessFlags := fl
  thisClass := this
  superClass := sup
  interfaces := ifs
  fields := fds
  methods := ms
  attributes := attrs
def plain (name : String) (sup : Option ClassId) : Class where
  name := name
  kind := .ordinary
  loader := none
  accessFlags := 33
  super := sup
  interfaces := #[]
  cf := none
  fields := #[]
  methods := #[]
  instanceTypes := #[]
  staticTypes := #[]
  resolved := #[]
  callSites := []
  init := .initialized
  statics := none
  mirror := none

def pool0 : Array CpInfo := pool [(5, u "<init>"), (0, u "()V"), (1, .class_ 10), (1, u "java/lang/Object")] 113

def k0m0 : Method := { name := "<init>", desc := "()V", sig := { parameters := [], returnType := none }, accessFlags := 1, code := none }
/-- java/lang/Object -/
def k0 : Class := { plain "java/lang/Object" none with
  accessFlags := 33
  interfaces := #[]
  cf := some (fileOf pool0 8 #[] #[{ accessFlags := 1, nameIndex := 5, descriptorIndex := 6, attributes := #[] }] 33 0 #[] #[])
  fields := #[]
  methods := #[k0m0]
  instanceTypes := #[]
  staticTypes := #[]
  resolved := Array.replicate 124 none
  statics := none }

def pool1 : Array CpInfo := pool [(2, .class_ 4), (1, u "java/lang/Object"), (0, u "<init>"), (0, u "()V"), (0, .methodref 8 9), (0, .class_ 10), (0, .nameAndType 11 12), (0, u "org/loomstyle/parse/CharactersIsWhitespacePinLaw"), (0, u "pick"), (0, u "(II)I"), (0, .methodref 14 15), (0, .class_ 16), (0, .nameAndType 17 18), (0, u "org/loomstyle/parse/Characters"), (0, u "isWhitespace"), (0, u "(I)Z"), (0, .integer 65568), (0, .integer 65545), (2, .integer 2147483680), (2, u "law"), (0, u "(II)Z")] 3

def k1m0 : Method := { name := "<init>", desc := "()V", sig := { parameters := [], returnType := none }, accessFlags := 1, code := none }
def k1c1 : Code := { maxStack := 3, maxLocals := 4, code := code, exceptionTable := #[], attributes := #[] }
def k1m1 : Method := { name := "law", desc := "(II)Z", sig := { parameters := [.int, .int], returnType := some .boolean }, accessFlags := 9, code := some k1c1 }
def k1c2 : Code := { maxStack := 2, maxLocals := 2, code := method_3_code, exceptionTable := #[], attributes := #[] }
def k1m2 : Method := { name := "pick", desc := "(II)I", sig := { parameters := [.int, .int], returnType := some .int }, accessFlags := 10, code := some k1c2 }
/-- org/loomstyle/parse/CharactersIsWhitespacePinLaw -/
def k1 : Class := { plain "org/loomstyle/parse/CharactersIsWhitespacePinLaw" (some 0) with
  accessFlags := 49
  interfaces := #[]
  cf := some (fileOf pool1 8 #[] #[{ accessFlags := 1, nameIndex := 5, descriptorIndex := 6, attributes := #[] }, { accessFlags := 9, nameIndex := 26, descriptorIndex := 27, attributes := #[] }, { accessFlags := 10, nameIndex := 11, descriptorIndex := 12, attributes := #[] }] 49 2 #[] #[])
  fields := #[]
  methods := #[k1m0, k1m1, k1m2]
  instanceTypes := #[]
  staticTypes := #[]
  resolved := Array.replicate 31 none
  statics := none }

def pool2 : Array CpInfo := pool [(2, .class_ 4), (1, u "java/lang/Object"), (0, u "<init>"), (0, u "()V"), (1, .class_ 10), (1, u "org/loomstyle/parse/Characters"), (1, u "(I)Z"), (16, u "MAX_CODE_POINT"), (0, u "I"), (4, u "isWhitespace")] 9

def k2m0 : Method := { name := "<init>", desc := "()V", sig := { parameters := [], returnType := none }, accessFlags := 2, code := none }
def k2c1 : Code := { maxStack := 2, maxLocals := 1, code := prog_140_method_2_code, exceptionTable := #[], attributes := #[] }
def k2m1 : Method := { name := "isWhitespace", desc := "(I)Z", sig := { parameters := [.int], returnType := some .boolean }, accessFlags := 8, code := some k2c1 }
/-- org/loomstyle/parse/Characters -/
def k2 : Class := { plain "org/loomstyle/parse/Characters" (some 0) with
  accessFlags := 48
  interfaces := #[]
  cf := some (fileOf pool2 8 #[] #[{ accessFlags := 2, nameIndex := 5, descriptorIndex := 6, attributes := #[] }, { accessFlags := 8, nameIndex := 35, descriptorIndex := 12, attributes := #[] }] 48 2 #[] #[{ accessFlags := 24, nameIndex := 29, descriptorIndex := 30, attributes := #[] }])
  fields := #[{ name := "MAX_CODE_POINT", type := .int, accessFlags := 24, slot := 0, constantValue := 0 }]
  methods := #[k2m0, k2m1]
  instanceTypes := #[]
  staticTypes := #[.int]
  resolved := Array.replicate 45 none
  statics := none }

def pool3 : Array CpInfo := pool [(1, u "java/lang/Cloneable"), (0, .class_ 1), (0, u "java/lang/Object"), (0, .class_ 3)] 3

/-- java/lang/Cloneable -/
def k3 : Class := { plain "java/lang/Cloneable" (some 0) with
  accessFlags := 1537
  interfaces := #[]
  cf := some (fileOf pool3 2 #[] #[] 1537 4 #[] #[])
  fields := #[]
  methods := #[]
  instanceTypes := #[]
  staticTypes := #[]
  resolved := Array.replicate 8 none
  statics := none }

def pool4 : Array CpInfo := pool [(1, u "java/io/Serializable"), (0, .class_ 1), (0, u "java/lang/Object"), (0, .class_ 3)] 3

/-- java/io/Serializable -/
def k4 : Class := { plain "java/io/Serializable" (some 0) with
  accessFlags := 1537
  interfaces := #[]
  cf := some (fileOf pool4 2 #[] #[] 1537 4 #[] #[])
  fields := #[]
  methods := #[]
  instanceTypes := #[]
  staticTypes := #[]
  resolved := Array.replicate 8 none
  statics := none }

/-- the primitive byte -/
def k5 : Class := { plain "byte" none with kind := .primitive 'B', accessFlags := 0x411 }
/-- [B -/
def k6 : Class := { plain "[B" (some 0) with kind := .array 5 .byte, interfaces := #[3, 4], accessFlags := 1041 }

/-- the primitive int -/
def k7 : Class := { plain "int" none with kind := .primitive 'I', accessFlags := 0x411 }
/-- [I -/
def k8 : Class := { plain "[I" (some 0) with kind := .array 7 .int, interfaces := #[3, 4], accessFlags := 1041 }

def heap : Heap := #[]
def classes : Array Class := #[k0, k1, k2, k3, k4, k5, k6, k7, k8]
def interned : List (Array UInt16 × Addr) := []
def slotsUsed : Nat := 0
def theMethod : MethodId := ⟨1, 1⟩
def args0 : Array Value := #[.int 65, .int 0]
def aboutOver (below : List Frame) : State where
  vm := { classes := classes, interned := interned.toArray }
  heap := heap
  slotsUsed := slotsUsed
  threads := #[{ frames := .invoking theMethod args0 :: below }]
def below0 : List Frame := [.native { method := ⟨0, 0⟩, args := #[] }]
def about1 : State := aboutOver below0
def p0 : Program := .bare "" "" ""
def e0 : Env := launch0.env 0 0 0
theorem w_frames : about1.frames = Frame.invoking theMethod args0 :: below0 := rfl
set_option maxRecDepth 65536 in
theorem w_args : argsFit about1.vm theMethod args0 = true := by decide +kernel
set_option maxRecDepth 65536 in
theorem w_heap : heapFits about1 = true := by decide +kernel
set_option maxRecDepth 65536 in
theorem w_runnable : about1.curStatus? = some .runnable := by decide +kernel
set_option maxRecDepth 65536 in
theorem w_alone : about1.alone = true := by decide +kernel
set_option maxRecDepth 65536 in
theorem w_named : about1.methodNamed? x = some theMethod := by decide +kernel
set_option maxRecDepth 65536 in
theorem w_hears : about1.hears theMethod below0 = true := by decide +kernel
set_option maxRecDepth 65536 in
theorem w_ripe : about1.ripe theMethod args0 below0 = true := by decide +kernel
theorem w_running : about1.status = .running := rfl
set_option maxRecDepth 65536 in
theorem w_room : about1.hasRoom e0.platform room_1 = true :=
  launch0.hasRoom_least _ room_1 (by decide +kernel) (by decide +kernel) (by decide +kernel) (by decide +kernel) (by decide +kernel) (by decide +kernel)
theorem allAtoms_all (ts : List Jvm.Cond) (a : Array Jvm.Value) (st : Jvm.State) : (allAtoms ts).before a st = ts.all (fun c => c.before a st) := by
  induction ts with
  | nil => rfl
  | cons c t ih =>
    show (Jvm.Cond.and c (allAtoms t)).before a st = _
    rw [Jvm.Cond.before_and, ih, List.all_cons]
def words1 : List Jvm.Cond := Jvm.Cond.code x code maxLocals ret :: tables_1
/-- a 'code' word, met by the world's own term for the bytes: nothing is compared byte by byte -/
theorem code_word {y : MethodName} {bytes : ByteArray} {mx : Nat} {rt : Option FieldType} {a : Array Value} {s : State} {m : MethodId} {meth : Method} {c : Code} (h1 : s.methodNamed? y = some m) (h2 : s.vm.method? m = some meth) (h3 : meth.code = some c) (h4 : c.code = bytes)
    (h5 : (c.maxLocals == mx && c.exceptionTable.isEmpty && decide (c.maxStack ≤ mostOperands) && decide (meth.sig.returnType = rt) && !meth.locks && decide (parseMethodDescriptor y.desc = some meth.sig)) = true) : (Jvm.Cond.code y bytes mx rt).before a s = true := by
  simp only [Bool.and_eq_true, beq_iff_eq, Bool.not_eq_true', decide_eq_true_eq] at h5
  obtain ⟨⟨⟨⟨⟨g1, g2⟩, g3⟩, g4⟩, g5⟩, g6⟩ := h5
  simp [Cond.before, Cond.holds, Cond.value, h1, h2, h3, h4, g1, g2, g3, g4, g5, g6]
def isCode : Jvm.Cond → Bool
  | .code _ _ _ _ => true
  | _ => false
theorem all_split {L : List Jvm.Cond} {P : Jvm.Cond → Bool} (h1 : L.all (fun c => isCode c || P c) = true) (h2 : ∀ c ∈ L.filter isCode, P c = true) : L.all P = true := by
  refine List.all_eq_true.mpr fun c hc => ?_
  have h := List.all_eq_true.mp h1 c hc
  rcases Bool.eq_false_or_eq_true (isCode c) with hi | hi
  · exact h2 c (List.mem_filter.mpr ⟨hc, hi⟩)
  · simpa [hi] using h
set_option maxRecDepth 65536 in
theorem w_c0 : (Jvm.Cond.code x code maxLocals ret).before args0 about1 = true := code_word (m := ⟨1, 1⟩) (meth := k1m1) (c := k1c1) (by decide +kernel) rfl rfl rfl (by decide +kernel)
set_option maxRecDepth 65536 in
theorem w_c1 : (Jvm.Cond.code ({ cls := "org/loomstyle/parse/CharactersIsWhitespacePinLaw", name := "pick", desc := "(II)I" } : Jvm.MethodName) method_3_code (2 : Nat) (Option.some Jvm.ClassFile.FieldType.int)).before args0 about1 = true := code_word (m := ⟨1, 2⟩) (meth := k1m2) (c := k1c2) (by decide +kernel) rfl rfl rfl (by decide +kernel)
set_option maxRecDepth 65536 in
theorem w_c2 : (Jvm.Cond.code ({ cls := "org/loomstyle/parse/Characters", name := "isWhitespace", desc := "(I)Z" } : Jvm.MethodName) prog_140_method_2_code (1 : Nat) (Option.some Jvm.ClassFile.FieldType.boolean)).before args0 about1 = true := code_word (m := ⟨2, 1⟩) (meth := k2m1) (c := k2c1) (by decide +kernel) rfl rfl rfl (by decide +kernel)
def codes1 : List Jvm.Cond := [Jvm.Cond.code x code maxLocals ret, Jvm.Cond.code ({ cls := "org/loomstyle/parse/CharactersIsWhitespacePinLaw", name := "pick", desc := "(II)I" } : Jvm.MethodName) method_3_code (2 : Nat) (Option.some Jvm.ClassFile.FieldType.int), Jvm.Cond.code ({ cls := "org/loomstyle/parse/Characters", name := "isWhitespace", desc := "(I)Z" } : Jvm.MethodName) prog_140_method_2_code (1 : Nat) (Option.some Jvm.ClassFile.FieldType.boolean)]
set_option maxRecDepth 65536 in
theorem codes_eq : words1.filter isCode = codes1 := rfl
theorem w_codes : ∀ c ∈ words1.filter isCode, c.before args0 about1 = true := by
  rw [codes_eq]
  intro c hc
  simp only [codes1, List.mem_cons, List.not_mem_nil, or_false] at hc
  rcases hc with rfl | rfl | rfl
  · exact w_c0
  · exact w_c1
  · exact w_c2
set_option maxRecDepth 65536 in
theorem w_t1 : words1.all (fun c => isCode c || c.before args0 about1) = true := by decide +kernel
theorem w_tables : (allAtoms (Jvm.Cond.code x code maxLocals ret :: tables_1)).before args0 about1 = true := by
  rw [allAtoms_all]
  show words1.all (fun c => c.before args0 about1) = true
  refine all_split ?_ w_codes
  rw [w_t1]
set_option maxRecDepth 65536 in
theorem w_case : (Jvm.Cond.and given_1 narrow_1).before args0 about1 = true := by decide +kernel
theorem w_applies : (headSpec (Jvm.Cond.code x code maxLocals ret :: tables_1) room_1).applies x e0.platform about1 = true :=
  (Spec.applies_iff w_frames).mpr ⟨w_running, w_runnable, w_alone, w_named, w_hears, w_ripe, w_room, w_tables⟩
theorem atStart : AtStart classFile x code maxLocals ret World_1 tables_1 room_1 Calls_1 rest_1 Pre_1 launch0 p0 e0 about1 theMethod args0 below0 :=
  ⟨lists_1, trivial, launch0.admits_env _ _ _, launch0.least_env, fairChoices_fair.cas, fairChoices_fair.clock, w_frames, w_args, w_heap, w_applies, trivial, trivial, w_case⟩
end start1
theorem witness_1 : WitnessClaimed_1 := ⟨start1.p0, start1.e0, start1.about1, start1.theMethod, start1.args0, start1.below0, start1.atStart⟩
end Jvm.Pilot.@@N@@
