import JvmDerived
import JvmDerived.Pilot.@@N@@Statement
import JvmDerived.Pilot.@@N@@Code
set_option linter.unusedVariables false
set_option linter.unusedSimpArgs false
@@BLOCK:NumsL.lean.txt@@
namespace Jvm.Pilot.@@N@@
open Jvm Jvm.ClassFile Sem Op Lib Jvm.Free Jvm.Stand Jvm.LawKit Jvm.RoadKit Bundle Jvm.Pilot.@@N@@.Jvm.D
/-! the walk in continuation form: what is left to be shown of a state on the road -/
def own_Gl (p : Program) (e : Env) (below : List Frame) (P : Outcome → State → Prop) (S : State) : Prop := ∃ s₂ o, Steps p.tables e below S s₂ ∧ s₂.status = .running ∧ Ended s₂ below o ∧ P o s₂
theorem own_go {p : Program} {e : Env} {below : List Frame} {P : Outcome → State → Prop} {S S' : State} (k : ∀ t, Steps p.tables e below S' t → Steps p.tables e below S t) (h : own_Gl p e below P S') : own_Gl p e below P S := by
  obtain ⟨u, o, h1, h2⟩ := h
  exact ⟨u, o, k u h1, h2⟩
theorem own_ext {h0 h : Heap} (K : Keep h0 h []) : Ext h0 h := ⟨K.1, fun a c q => K.2.1 a c q nin0⟩
theorem own_jn {p : Program} {e : Env} {below : List Frame} {P : Outcome → State → Prop} {S S' : State} (h : own_Gl p e below P S) (k : own_Gl p e below P S → own_Gl p e below P S') : own_Gl p e below P S' := k h
theorem own_ind {p : Program} {e : Env} {below : List Frame} {P : Outcome → State → Prop} (I : Nat → State → Prop) (step : ∀ n S, (∀ n', n' < n → ∀ S', I n' S' → own_Gl p e below P S') → I n S → own_Gl p e below P S) {n : Nat} {S : State} (h : I n S) : own_Gl p e below P S := by
  induction n using Nat.strongRecOn generalizing S with
  | ind n ih => exact step n S (fun n' hn S' hI => ih n' hn hI) h
theorem own_fin {p : Program} {e : Env} {below : List Frame} {P : Outcome → State → Prop} {S u : State} {o : Outcome} (h1 : Steps p.tables e below S u) (h2 : u.status = .running) (h3 : Ended u below o) (h4 : P o u) : own_Gl p e below P S := ⟨u, o, h1, h2, h3, h4⟩
theorem d2_0 : decode jdk_30_method_1_code 0 = .ok (.aload_n 0, 1) := by decide +kernel
theorem d2_1 : decode jdk_30_method_1_code 1 = .ok (.invokespecial 1, 3) := by decide +kernel
theorem d2_4 : decode jdk_30_method_1_code 4 = .ok (.return_, 1) := by decide +kernel
theorem pn_java_lang_Record : plainName "java/lang/Record" = true := by first | (simp [plainName, overriddenIn]; done) | decide +kernel
theorem ef_2 (m : MethodId) (r0 : Addr) : entryFrame m #[(.ref r0)] 1 = mkF m 0 #[.val (.ref r0)] [] := by first | (simp [entryFrame, mkF, argsToLocals, Value.category]; done) | rfl
def Q2 (Z : State) (r0 : Addr) (h0 : Heap) (n0 : Nat) (v : Option Value) (h : Heap) (L : List Loc) : Prop := Fr n0 L ∧ v = none ∧ h = h0
set_option maxRecDepth 65536 in
set_option maxHeartbeats 40000000 in
theorem rm2 (l : Launch) (Z : State) (a0 : Array Value) (hw : ∀ d ∈ tables_1, d.before a0 Z = true) (ws : List Jvm.Cond) (r0 : Addr) (h0 : Heap) (n0 : Nat) (Z0 : n0 ≤ h0.size)  :
    MetFree l (⟨"java/lang/Record", "<init>", "()V"⟩ : MethodName) (head1 (Jvm.Cond.code (⟨"java/lang/Record", "<init>", "()V"⟩ : MethodName) jdk_30_method_1_code 1 none :: ws) ({ frames := 1, cells := 0, slots := 0, locals := 12 } : Room)) (fun a U => a = #[(.ref r0)] ∧ Z.Warmed39 U.vm ∧ U.heap = h0) (fun _ _ _ _ _ => True) (fun _ U o U' => ∃ v L, o = .returned v ∧ Q2 Z r0 h0 n0 v U'.heap L ∧ FrameEnd U o U' L ({ frames := 1, cells := 0, slots := 0, locals := 12 } : Room).cells ({ frames := 1, cells := 0, slots := 0, locals := 12 } : Room).slots) := by
  refine MetFree.of_bodySF (plainFor_of_name pn_java_lang_Record) hisR ?_
  intro p e s m args below meth c s₁ Bd hml0 hP hK
  obtain ⟨rfl, hZ, hh⟩ := hP
  have hx := Bd.exec
  have hby := Bd.bytes
  have hml : c.maxLocals = 1 := hml0
  have hown : s.vm.findClass "java/lang/Record" = some m.cls := findClass_of_methodNamed Bd.named
  have hnm := (name_of_methodNamed Bd.named Bd.method).1
  have X0 : Stand p l e ({ frames := 1, cells := 0, slots := 0, locals := 12 } : Room) s m #[(.ref r0)] below meth c s₁ [] 0 0 := Stand.of_body Bd
  have e0 : s₁.heap = h0 := by rw [← hh, Bd.state]; rfl
  have N0 := Fr.nil n0
  show own_Gl p e below (fun o U' => ∃ v L, o = .returned v ∧ Q2 Z r0 h0 n0 v U'.heap L ∧ FrameEnd s o U' L ({ frames := 1, cells := 0, slots := 0, locals := 12 } : Room).cells ({ frames := 1, cells := 0, slots := 0, locals := 12 } : Room).slots) (s₁.setTop (entryFrame m #[(.ref r0)] 1))
  refine own_go (fun t k => castTop (ef_2 m r0) k) ?_
  show own_Gl _ _ _ _ (s₁.setTop (mkF m 0 #[.val (.ref r0)] []))
  refine own_go (fun t k => XS.aloadN X0.here hx rfl (hb hby d2_0) rfl rfl k) ?_
  show own_Gl _ _ _ _ (s₁.setTop (mkF m 1 #[.val (.ref r0)] [(.ref r0)]))
  obtain ⟨T1, X1, e1, st1⟩ := initO X0 hx hZ hown (hw _ (List.mem_of_getElem? (i := 12) rfl)) (hw _ (List.mem_of_getElem? (i := 13) rfl)) (hw _ (List.mem_of_getElem? (i := 14) rfl)) e0 (g := (mkF m 1 #[.val (.ref r0)] [(.ref r0)])) rfl (by rw [hml]; rfl) rfl (hb hby d2_1) (by decide) (W := 0) (by show 2 * 0 + _ ≤ _; exact Nat.le_of_eq rfl) (by decide)
  refine own_go (fun t k => st1 _ k) ?_
  show own_Gl _ _ _ _ (T1.setTop (mkF m 4 #[.val (.ref r0)] []))
  obtain ⟨fs, hr, hrun, hended, hW, hsame⟩ := X1.leave (v := none) (fun _ => rfl)
  refine own_fin (X1.returnOut hx Bd.returns (hb hby d2_4) hr) hrun hended ⟨_, _, rfl, ?_, ⟨_, rfl⟩, hW, hsame.mono (by decide) (by decide)⟩
  show Q2 Z r0 h0 n0 _ T1.heap _
  rw [e1]
  exact ⟨N0, rfl, rfl⟩
theorem d1_0 : decode prog_70_method_1_code 0 = .ok (.aload_n 0, 1) := by decide +kernel
theorem d1_1 : decode prog_70_method_1_code 1 = .ok (.invokespecial 3, 3) := by decide +kernel
theorem d1_4 : decode prog_70_method_1_code 4 = .ok (.iload_n 1, 1) := by decide +kernel
theorem d1_5 : decode prog_70_method_1_code 5 = .ok (.ifCond .lt 19, 3) := by decide +kernel
theorem d1_8 : decode prog_70_method_1_code 8 = .ok (.iload_n 1, 1) := by decide +kernel
theorem d1_9 : decode prog_70_method_1_code 9 = .ok (.bipush 19, 2) := by decide +kernel
theorem d1_11 : decode prog_70_method_1_code 11 = .ok (.if_icmp .gt 13, 3) := by decide +kernel
theorem d1_14 : decode prog_70_method_1_code 14 = .ok (.iload_n 2, 1) := by decide +kernel
theorem d1_15 : decode prog_70_method_1_code 15 = .ok (.ifCond .lt 9, 3) := by decide +kernel
theorem d1_18 : decode prog_70_method_1_code 18 = .ok (.iload_n 2, 1) := by decide +kernel
theorem d1_19 : decode prog_70_method_1_code 19 = .ok (.bipush 6, 2) := by decide +kernel
theorem d1_21 : decode prog_70_method_1_code 21 = .ok (.if_icmp .lt 18, 3) := by decide +kernel
theorem d1_24 : decode prog_70_method_1_code 24 = .ok (.new 9, 3) := by decide +kernel
theorem d1_27 : decode prog_70_method_1_code 27 = .ok (.dup, 1) := by decide +kernel
theorem d1_28 : decode prog_70_method_1_code 28 = .ok (.iload_n 1, 1) := by decide +kernel
theorem d1_29 : decode prog_70_method_1_code 29 = .ok (.iload_n 2, 1) := by decide +kernel
theorem d1_39 : decode prog_70_method_1_code 39 = .ok (.aload_n 0, 1) := by decide +kernel
theorem d1_40 : decode prog_70_method_1_code 40 = .ok (.iload_n 1, 1) := by decide +kernel
theorem d1_41 : decode prog_70_method_1_code 41 = .ok (.putfield 18, 3) := by decide +kernel
theorem d1_44 : decode prog_70_method_1_code 44 = .ok (.aload_n 0, 1) := by decide +kernel
theorem d1_45 : decode prog_70_method_1_code 45 = .ok (.iload_n 2, 1) := by decide +kernel
theorem d1_46 : decode prog_70_method_1_code 46 = .ok (.putfield 22, 3) := by decide +kernel
theorem d1_49 : decode prog_70_method_1_code 49 = .ok (.return_, 1) := by decide +kernel
theorem pn_com_example_sixfold_sixfold_runs_Card : plainName "com/example/sixfold/sixfold/runs/Card" = true := by first | (simp [plainName, overriddenIn]; done) | decide +kernel
theorem ef_1 (m : MethodId) (r0 : Addr) (p0 : Int32) (p1 : Int32) : entryFrame m #[(.ref r0), (.int p0), (.int p1)] 3 = mkF m 0 #[.val (.ref r0), .val (.int p0), .val (.int p1)] [] := by first | (simp [entryFrame, mkF, argsToLocals, Value.category]; done) | rfl
theorem pd_0 : parseMethodDescriptor "()V" = some ⟨[], none⟩ := by decide +kernel
def Q1 (Z : State) (r0 : Addr) (p0 : Int32) (p1 : Int32) (h0 : Heap) (n0 : Nat) (v : Option Value) (h : Heap) (L : List Loc) : Prop := Fr n0 L ∧ v = none ∧ Keep h0 h [r0] ∧ Fld Z h r0 "com/example/sixfold/sixfold/runs/Card" "rank" "I" (.int p0)
set_option maxRecDepth 65536 in
set_option maxHeartbeats 40000000 in
theorem rm1 (l : Launch) (Z : State) (a0 : Array Value) (hw : ∀ d ∈ tables_1, d.before a0 Z = true) (ws : List Jvm.Cond) (r0 : Addr) (p0 : Int32) (p1 : Int32) (h0 : Heap) (n0 : Nat) (Z0 : n0 ≤ h0.size) (P0 : Exa Z h0 r0 "com/example/sixfold/sixfold/runs/Card") (P1 : Fld Z h0 r0 "com/example/sixfold/sixfold/runs/Card" "rank" "I" (.int (0 : Int32))) (P2 : Fld Z h0 r0 "com/example/sixfold/sixfold/runs/Card" "suit" "I" (.int (0 : Int32))) (ge_r0 : n0 ≤ r0) (k1 : ¬ (p0 < (0 : Int32))) (k2 : ¬ ((19 : Int32) < p0)) (k3 : ¬ (p1 < (0 : Int32))) (k4 : p1 < (6 : Int32)) :
    MetFree l (⟨"com/example/sixfold/sixfold/runs/Card", "<init>", "(II)V"⟩ : MethodName) (head1 (Jvm.Cond.code (⟨"com/example/sixfold/sixfold/runs/Card", "<init>", "(II)V"⟩ : MethodName) prog_70_method_1_code 3 none :: ws) ({ frames := 2, cells := 0, slots := 0, locals := 24 } : Room)) (fun a U => a = #[(.ref r0), (.int p0), (.int p1)] ∧ Z.Warmed39 U.vm ∧ U.heap = h0) (fun _ _ _ _ _ => True) (fun _ U o U' => ∃ v L, o = .returned v ∧ Q1 Z r0 p0 p1 h0 n0 v U'.heap L ∧ FrameEnd U o U' L ({ frames := 2, cells := 0, slots := 0, locals := 24 } : Room).cells ({ frames := 2, cells := 0, slots := 0, locals := 24 } : Room).slots) := by
  refine MetFree.of_bodySF (plainFor_of_name pn_com_example_sixfold_sixfold_runs_Card) hisR ?_
  intro p e s m args below meth c s₁ Bd hml0 hP hK
  obtain ⟨rfl, hZ, hh⟩ := hP
  have hx := Bd.exec
  have hby := Bd.bytes
  have hml : c.maxLocals = 3 := hml0
  have hown : s.vm.findClass "com/example/sixfold/sixfold/runs/Card" = some m.cls := findClass_of_methodNamed Bd.named
  have hnm := (name_of_methodNamed Bd.named Bd.method).1
  have X0 : Stand p l e ({ frames := 2, cells := 0, slots := 0, locals := 24 } : Room) s m #[(.ref r0), (.int p0), (.int p1)] below meth c s₁ [] 0 0 := Stand.of_body Bd
  have e0 : s₁.heap = h0 := by rw [← hh, Bd.state]; rfl
  have N0 := Fr.nil n0
  show own_Gl p e below (fun o U' => ∃ v L, o = .returned v ∧ Q1 Z r0 p0 p1 h0 n0 v U'.heap L ∧ FrameEnd s o U' L ({ frames := 2, cells := 0, slots := 0, locals := 24 } : Room).cells ({ frames := 2, cells := 0, slots := 0, locals := 24 } : Room).slots) (s₁.setTop (entryFrame m #[(.ref r0), (.int p0), (.int p1)] 3))
  refine own_go (fun t k => castTop (ef_1 m r0 p0 p1) k) ?_
  show own_Gl _ _ _ _ (s₁.setTop (mkF m 0 #[.val (.ref r0), .val (.int p0), .val (.int p1)] []))
  refine own_go (fun t k => XS.aloadN X0.here hx rfl (hb hby d1_0) rfl rfl k) ?_
  show own_Gl _ _ _ _ (s₁.setTop (mkF m 1 #[.val (.ref r0), .val (.int p0), .val (.int p1)] [(.ref r0)]))
  obtain ⟨_, _, ⟨T2, L2, kk2, nn2⟩, -, X2, ⟨Lc2, hQ2, l2, y2, z2⟩, st2⟩ := X0.specialBack hx (y := (⟨"java/lang/Record", "<init>", "()V"⟩ : MethodName)) rfl hown (mvT hZ (hw _ (List.mem_of_getElem? (i := 7) rfl))) (mvT hZ (hw _ (List.mem_of_getElem? (i := 8) rfl))) (mvT hZ (hw _ (List.mem_of_getElem? (i := 11) rfl))) (by decide) (backOf (W := 0) (rm2 l Z a0 hw [] r0 h0 n0 Z0 ) hZ (hw _ (List.mem_of_getElem? (i := 11) rfl)) (hw _ (List.mem_of_getElem? (i := 10) rfl)) (by decide) (by decide)) (g := (mkF m 1 #[.val (.ref r0), .val (.int p0), .val (.int p1)] [(.ref r0)])) rfl (by rw [hml]; rfl) (Steps.refl _) (a := r0) (argsL := []) (rest := []) (lenOf pd_0 rfl) rfl (by show 2 * 0 + _ ≤ _; exact Nat.le_of_eq rfl) (hb hby d1_1) (fun _ _ => ⟨rfl, e0, (by decide : 0 + 0 ≤ _), (by decide : 0 + 0 ≤ _)⟩)
  dsimp only [Pt.U, Pt.locs, Pt.cells, Pt.slots] at X2 l2 y2 z2 st2 hQ2
  subst l2 y2 z2
  obtain ⟨N2q, rfl, hq2⟩ := hQ2
  have N2 := Fr.app N0 N2q
  refine own_go (fun t k => st2.trans k) ?_
  show own_Gl _ _ _ _ (T2.setTop (mkF m 4 #[.val (.ref r0), .val (.int p0), .val (.int p1)] []))
  refine own_go (fun t k => XS.iloadN X2.here hx rfl (hb hby d1_4) rfl k) ?_
  show own_Gl _ _ _ _ (T2.setTop (mkF m 5 #[.val (.ref r0), .val (.int p0), .val (.int p1)] [(.int p0)]))
  refine own_go (fun t k => XS.ifNo X2.here hx rfl (hb hby d1_5) rfl ((if0 _ _).trans (flt k1).1) k) ?_
  show own_Gl _ _ _ _ (T2.setTop (mkF m 8 #[.val (.ref r0), .val (.int p0), .val (.int p1)] []))
  refine own_go (fun t k => XS.iloadN X2.here hx rfl (hb hby d1_8) rfl k) ?_
  show own_Gl _ _ _ _ (T2.setTop (mkF m 9 #[.val (.ref r0), .val (.int p0), .val (.int p1)] [(.int p0)]))
  refine own_go (fun t k => XS.bipush X2.here hx rfl (hb hby d1_9) k) ?_
  show own_Gl _ _ _ _ (T2.setTop (mkF m 11 #[.val (.ref r0), .val (.int p0), .val (.int p1)] [(.int (19 : Int32)), (.int p0)]))
  refine own_go (fun t k => XS.icmpNo X2.here hx rfl (hb hby d1_11) rfl (flt k2).2.2.1 k) ?_
  show own_Gl _ _ _ _ (T2.setTop (mkF m 14 #[.val (.ref r0), .val (.int p0), .val (.int p1)] []))
  refine own_go (fun t k => XS.iloadN X2.here hx rfl (hb hby d1_14) rfl k) ?_
  show own_Gl _ _ _ _ (T2.setTop (mkF m 15 #[.val (.ref r0), .val (.int p0), .val (.int p1)] [(.int p1)]))
  refine own_go (fun t k => XS.ifNo X2.here hx rfl (hb hby d1_15) rfl ((if0 _ _).trans (flt k3).1) k) ?_
  show own_Gl _ _ _ _ (T2.setTop (mkF m 18 #[.val (.ref r0), .val (.int p0), .val (.int p1)] []))
  refine own_go (fun t k => XS.iloadN X2.here hx rfl (hb hby d1_18) rfl k) ?_
  show own_Gl _ _ _ _ (T2.setTop (mkF m 19 #[.val (.ref r0), .val (.int p0), .val (.int p1)] [(.int p1)]))
  refine own_go (fun t k => XS.bipush X2.here hx rfl (hb hby d1_19) k) ?_
  show own_Gl _ _ _ _ (T2.setTop (mkF m 21 #[.val (.ref r0), .val (.int p0), .val (.int p1)] [(.int (6 : Int32)), (.int p1)]))
  refine own_go (fun t k => XS.icmpYes X2.here hx rfl (pc0 := 21) (pc' := 39) rfl (hb hby d1_21) rfl (tlt k4).1 (by decide) (by decide) k) ?_
  show own_Gl _ _ _ _ (T2.setTop (mkF m 39 #[.val (.ref r0), .val (.int p0), .val (.int p1)] []))
  refine own_go (fun t k => XS.aloadN X2.here hx rfl (hb hby d1_39) rfl rfl k) ?_
  show own_Gl _ _ _ _ (T2.setTop (mkF m 40 #[.val (.ref r0), .val (.int p0), .val (.int p1)] [(.ref r0)]))
  refine own_go (fun t k => XS.iloadN X2.here hx rfl (hb hby d1_40) rfl k) ?_
  show own_Gl _ _ _ _ (T2.setTop (mkF m 41 #[.val (.ref r0), .val (.int p0), .val (.int p1)] [(.int p0), (.ref r0)]))
  obtain ⟨T3, h3, X3, e3, W3, st3⟩ := putF X2 hx hZ hown (host := "") (Or.inl (hw _ (List.mem_of_getElem? (i := 15) rfl))) Via.refl hq2 P1 P0 (Or.inr ⟨(hw _ (List.mem_of_getElem? (i := 16) rfl)), rfl, hnm⟩) (hw _ (List.mem_of_getElem? (i := 2) rfl)) (ty := .int) (by decide) rfl rfl (g := (mkF m 41 #[.val (.ref r0), .val (.int p0), .val (.int p1)] [(.int p0), (.ref r0)])) rfl rfl (hb hby d1_41)
  refine own_go (fun t k => st3 _ k) ?_
  have Fw3 : Fld Z h3 r0 "com/example/sixfold/sixfold/runs/Card" "rank" "I" (.int p0) := P1.same W3
  have K3 : Keep h0 h3 [r0] := (Keep.refl h0 [r0]).wr W3 (Or.inl (List.mem_of_getElem? (i := 0) rfl))
  have N3 := Fr.snoc X3 N2 ge_r0
  have Z3 : n0 ≤ h3.size := Nat.le_trans Z0 (Keep.of_wr W3).1
  show own_Gl _ _ _ _ (T3.setTop (mkF m 44 #[.val (.ref r0), .val (.int p0), .val (.int p1)] []))
  refine own_go (fun t k => XS.aloadN X3.here hx rfl (hb hby d1_44) rfl rfl k) ?_
  show own_Gl _ _ _ _ (T3.setTop (mkF m 45 #[.val (.ref r0), .val (.int p0), .val (.int p1)] [(.ref r0)]))
  refine own_go (fun t k => XS.iloadN X3.here hx rfl (hb hby d1_45) rfl k) ?_
  show own_Gl _ _ _ _ (T3.setTop (mkF m 46 #[.val (.ref r0), .val (.int p0), .val (.int p1)] [(.int p1), (.ref r0)]))
  have f_4 : Fld Z h3 r0 "com/example/sixfold/sixfold/runs/Card" "suit" "I" (.int (0 : Int32)) := (P2.other W3 (Or.inr (slot_ne (Or.inr (hw _ (List.mem_of_getElem? (i := 18) rfl))) (Or.inr (hw _ (List.mem_of_getElem? (i := 16) rfl))) (by decide) (t := .int) (t' := .int) (by decide) (by decide))))
  have f_5 : Exa Z h3 r0 "com/example/sixfold/sixfold/runs/Card" := (P0.wr W3)
  obtain ⟨T6, h6, X6, e6, W6, st6⟩ := putF X3 hx hZ hown (host := "") (Or.inl (hw _ (List.mem_of_getElem? (i := 17) rfl))) Via.refl e3 f_4 f_5 (Or.inr ⟨(hw _ (List.mem_of_getElem? (i := 18) rfl)), rfl, hnm⟩) (hw _ (List.mem_of_getElem? (i := 2) rfl)) (ty := .int) (by decide) rfl rfl (g := (mkF m 46 #[.val (.ref r0), .val (.int p0), .val (.int p1)] [(.int p1), (.ref r0)])) rfl rfl (hb hby d1_46)
  refine own_go (fun t k => st6 _ k) ?_
  have Fw6 : Fld Z h6 r0 "com/example/sixfold/sixfold/runs/Card" "suit" "I" (.int p1) := f_4.same W6
  have K6 : Keep h0 h6 [r0] := K3.wr W6 (Or.inl (List.mem_of_getElem? (i := 0) rfl))
  have N6 := Fr.snoc X6 N3 ge_r0
  have Z6 : n0 ≤ h6.size := Nat.le_trans Z3 (Keep.of_wr W6).1
  show own_Gl _ _ _ _ (T6.setTop (mkF m 49 #[.val (.ref r0), .val (.int p0), .val (.int p1)] []))
  obtain ⟨fs, hr, hrun, hended, hW, hsame⟩ := X6.leave (v := none) (fun _ => rfl)
  have f_7 : Fld Z h6 r0 "com/example/sixfold/sixfold/runs/Card" "rank" "I" (.int p0) := (Fw3.other W6 (Or.inr (slot_ne (Or.inr (hw _ (List.mem_of_getElem? (i := 16) rfl))) (Or.inr (hw _ (List.mem_of_getElem? (i := 18) rfl))) (by decide) (t := .int) (t' := .int) (by decide) (by decide))))
  refine own_fin (X6.returnOut hx Bd.returns (hb hby d1_49) hr) hrun hended ⟨_, _, rfl, ?_, ⟨_, rfl⟩, hW, hsame.mono (by decide) (by decide)⟩
  show Q1 Z r0 p0 p1 h0 n0 _ T6.heap _
  rw [e6]
  exact ⟨N6, rfl, K6, f_7⟩
theorem d4_0 : decode prog_70_method_8_code 0 = .ok (.aload_n 0, 1) := by decide +kernel
theorem d4_1 : decode prog_70_method_8_code 1 = .ok (.getfield 18, 3) := by decide +kernel
theorem d4_4 : decode prog_70_method_8_code 4 = .ok (.ifCond .eq 12, 3) := by decide +kernel
theorem d4_7 : decode prog_70_method_8_code 7 = .ok (.aload_n 0, 1) := by decide +kernel
theorem d4_8 : decode prog_70_method_8_code 8 = .ok (.getfield 18, 3) := by decide +kernel
theorem d4_11 : decode prog_70_method_8_code 11 = .ok (.bipush 19, 2) := by decide +kernel
theorem d4_13 : decode prog_70_method_8_code 13 = .ok (.if_icmp .ne 5, 3) := by decide +kernel
theorem d4_16 : decode prog_70_method_8_code 16 = .ok (.iconst 5, 1) := by decide +kernel
theorem d4_17 : decode prog_70_method_8_code 17 = .ok (.ireturn, 1) := by decide +kernel
theorem d4_18 : decode prog_70_method_8_code 18 = .ok (.aload_n 0, 1) := by decide +kernel
theorem d4_19 : decode prog_70_method_8_code 19 = .ok (.getfield 18, 3) := by decide +kernel
theorem d4_22 : decode prog_70_method_8_code 22 = .ok (.bipush 13, 2) := by decide +kernel
theorem d4_24 : decode prog_70_method_8_code 24 = .ok (.if_icmp .lt 16, 3) := by decide +kernel
theorem d4_27 : decode prog_70_method_8_code 27 = .ok (.aload_n 0, 1) := by decide +kernel
theorem d4_28 : decode prog_70_method_8_code 28 = .ok (.getfield 18, 3) := by decide +kernel
theorem d4_31 : decode prog_70_method_8_code 31 = .ok (.bipush 18, 2) := by decide +kernel
theorem d4_33 : decode prog_70_method_8_code 33 = .ok (.if_icmp .gt 7, 3) := by decide +kernel
theorem d4_36 : decode prog_70_method_8_code 36 = .ok (.iconst 2, 1) := by decide +kernel
theorem d4_37 : decode prog_70_method_8_code 37 = .ok (.goto 4, 3) := by decide +kernel
theorem d4_40 : decode prog_70_method_8_code 40 = .ok (.iconst 0, 1) := by decide +kernel
theorem d4_41 : decode prog_70_method_8_code 41 = .ok (.ireturn, 1) := by decide +kernel
theorem ef_4 (m : MethodId) (r0 : Addr) : entryFrame m #[(.ref r0)] 1 = mkF m 0 #[.val (.ref r0)] [] := by first | (simp [entryFrame, mkF, argsToLocals, Value.category]; done) | rfl
def f4 (u0 : Int32) : Int32 := (if u0 = (0 : Int32) then (5 : Int32) else (if u0 = (19 : Int32) then (5 : Int32) else (if u0 < (13 : Int32) then (0 : Int32) else (if (18 : Int32) < u0 then (0 : Int32) else (2 : Int32)))))
def Q4 (Z : State) (r0 : Addr) (u0 : Int32) (h0 : Heap) (n0 : Nat) (v : Option Value) (h : Heap) (L : List Loc) : Prop := Fr n0 L ∧ v = some (.int (f4 u0)) ∧ h = h0
set_option maxRecDepth 65536 in
set_option maxHeartbeats 40000000 in
theorem rm4 (l : Launch) (Z : State) (a0 : Array Value) (hw : ∀ d ∈ tables_1, d.before a0 Z = true) (ws : List Jvm.Cond) (r0 : Addr) (u0 : Int32) (h0 : Heap) (n0 : Nat) (Z0 : n0 ≤ h0.size) (P0 : Fld Z h0 r0 "com/example/sixfold/sixfold/runs/Card" "rank" "I" (.int u0)) :
    MetFree l (⟨"com/example/sixfold/sixfold/runs/Card", "handCost", "()I"⟩ : MethodName) (head1 (Jvm.Cond.code (⟨"com/example/sixfold/sixfold/runs/Card", "handCost", "()I"⟩ : MethodName) prog_70_method_8_code 1 (some .int) :: ws) ({ frames := 0, cells := 0, slots := 0, locals := 0 } : Room)) (fun a U => a = #[(.ref r0)] ∧ Z.Warmed39 U.vm ∧ U.heap = h0) (fun _ _ _ _ _ => True) (fun _ U o U' => ∃ v L, o = .returned v ∧ Q4 Z r0 u0 h0 n0 v U'.heap L ∧ FrameEnd U o U' L ({ frames := 0, cells := 0, slots := 0, locals := 0 } : Room).cells ({ frames := 0, cells := 0, slots := 0, locals := 0 } : Room).slots) := by
  refine MetFree.of_bodySF (plainFor_of_name pn_com_example_sixfold_sixfold_runs_Card) hisR ?_
  intro p e s m args below meth c s₁ Bd hml0 hP hK
  obtain ⟨rfl, hZ, hh⟩ := hP
  have hx := Bd.exec
  have hby := Bd.bytes
  have hml : c.maxLocals = 1 := hml0
  have hown : s.vm.findClass "com/example/sixfold/sixfold/runs/Card" = some m.cls := findClass_of_methodNamed Bd.named
  have hnm := (name_of_methodNamed Bd.named Bd.method).1
  have X0 : Stand p l e ({ frames := 0, cells := 0, slots := 0, locals := 0 } : Room) s m #[(.ref r0)] below meth c s₁ [] 0 0 := Stand.of_body Bd
  have e0 : s₁.heap = h0 := by rw [← hh, Bd.state]; rfl
  have N0 := Fr.nil n0
  show own_Gl p e below (fun o U' => ∃ v L, o = .returned v ∧ Q4 Z r0 u0 h0 n0 v U'.heap L ∧ FrameEnd s o U' L ({ frames := 0, cells := 0, slots := 0, locals := 0 } : Room).cells ({ frames := 0, cells := 0, slots := 0, locals := 0 } : Room).slots) (s₁.setTop (entryFrame m #[(.ref r0)] 1))
  refine own_go (fun t k => castTop (ef_4 m r0) k) ?_
  show own_Gl _ _ _ _ (s₁.setTop (mkF m 0 #[.val (.ref r0)] []))
  refine own_go (fun t k => XS.aloadN X0.here hx rfl (hb hby d4_0) rfl rfl k) ?_
  show own_Gl _ _ _ _ (s₁.setTop (mkF m 1 #[.val (.ref r0)] [(.ref r0)]))
  obtain ⟨T8, X8, e8, st8⟩ := getF X0 hx hZ hown (host := "") (Or.inl (hw _ (List.mem_of_getElem? (i := 15) rfl))) Via.refl e0 P0 (g := (mkF m 1 #[.val (.ref r0)] [(.ref r0)])) rfl rfl (hb hby d4_1)
  refine own_go (fun t k => st8 _ k) ?_
  show own_Gl _ _ _ _ (T8.setTop (mkF m 4 #[.val (.ref r0)] [(.int u0)]))
  by_cases hc4_9 : u0 = (0 : Int32)
  · refine own_go (fun t k => XS.ifYes X8.here hx rfl (pc0 := 4) (pc' := 16) rfl (hb hby d4_4) rfl ((if0 _ _).trans (teq hc4_9).1) (by decide) (by decide) k) ?_
    show own_Gl _ _ _ _ (T8.setTop (mkF m 16 #[.val (.ref r0)] []))
    refine own_go (fun t k => XS.iconst X8.here hx rfl (hb hby d4_16) k) ?_
    show own_Gl _ _ _ _ (T8.setTop (mkF m 17 #[.val (.ref r0)] [(.int (5 : Int32))]))
    obtain ⟨fs, hr, hrun, hended, hW, hsame⟩ := X8.leave (v := some (.int (5 : Int32))) (fun h => by rw [Bd.returns] at h; cases h)
    refine own_fin (Jvm.RoadKit.retOut X8 hx Bd.returns rfl (Or.inl ⟨rfl, Or.inl rfl, _, rfl⟩) (hb hby d4_17) hr) hrun hended ⟨_, _, rfl, ?_, ⟨_, rfl⟩, hW, hsame.mono (by decide) (by decide)⟩
    show Q4 Z r0 u0 h0 n0 _ T8.heap _
    rw [e8]
    exact ⟨N0, by rw [f4, if_pos hc4_9], rfl⟩
  · refine own_go (fun t k => XS.ifNo X8.here hx rfl (hb hby d4_4) rfl ((if0 _ _).trans (feq hc4_9).1) k) ?_
    show own_Gl _ _ _ _ (T8.setTop (mkF m 7 #[.val (.ref r0)] []))
    refine own_go (fun t k => XS.aloadN X8.here hx rfl (hb hby d4_7) rfl rfl k) ?_
    show own_Gl _ _ _ _ (T8.setTop (mkF m 8 #[.val (.ref r0)] [(.ref r0)]))
    obtain ⟨T10, X10, e10, st10⟩ := getF X8 hx hZ hown (host := "") (Or.inl (hw _ (List.mem_of_getElem? (i := 15) rfl))) Via.refl e8 P0 (g := (mkF m 8 #[.val (.ref r0)] [(.ref r0)])) rfl rfl (hb hby d4_8)
    refine own_go (fun t k => st10 _ k) ?_
    show own_Gl _ _ _ _ (T10.setTop (mkF m 11 #[.val (.ref r0)] [(.int u0)]))
    refine own_go (fun t k => XS.bipush X10.here hx rfl (hb hby d4_11) k) ?_
    show own_Gl _ _ _ _ (T10.setTop (mkF m 13 #[.val (.ref r0)] [(.int (19 : Int32)), (.int u0)]))
    by_cases hc13_11 : u0 = (19 : Int32)
    · refine own_go (fun t k => XS.icmpNo X10.here hx rfl (hb hby d4_13) rfl (teq hc13_11).2 k) ?_
      show own_Gl _ _ _ _ (T10.setTop (mkF m 16 #[.val (.ref r0)] []))
      refine own_go (fun t k => XS.iconst X10.here hx rfl (hb hby d4_16) k) ?_
      show own_Gl _ _ _ _ (T10.setTop (mkF m 17 #[.val (.ref r0)] [(.int (5 : Int32))]))
      obtain ⟨fs, hr, hrun, hended, hW, hsame⟩ := X10.leave (v := some (.int (5 : Int32))) (fun h => by rw [Bd.returns] at h; cases h)
      refine own_fin (Jvm.RoadKit.retOut X10 hx Bd.returns rfl (Or.inl ⟨rfl, Or.inl rfl, _, rfl⟩) (hb hby d4_17) hr) hrun hended ⟨_, _, rfl, ?_, ⟨_, rfl⟩, hW, hsame.mono (by decide) (by decide)⟩
      show Q4 Z r0 u0 h0 n0 _ T10.heap _
      rw [e10]
      exact ⟨N0, by rw [f4, if_neg hc4_9, if_pos hc13_11], rfl⟩
    · refine own_go (fun t k => XS.icmpYes X10.here hx rfl (pc0 := 13) (pc' := 18) rfl (hb hby d4_13) rfl (feq hc13_11).2 (by decide) (by decide) k) ?_
      show own_Gl _ _ _ _ (T10.setTop (mkF m 18 #[.val (.ref r0)] []))
      refine own_go (fun t k => XS.aloadN X10.here hx rfl (hb hby d4_18) rfl rfl k) ?_
      show own_Gl _ _ _ _ (T10.setTop (mkF m 19 #[.val (.ref r0)] [(.ref r0)]))
      obtain ⟨T12, X12, e12, st12⟩ := getF X10 hx hZ hown (host := "") (Or.inl (hw _ (List.mem_of_getElem? (i := 15) rfl))) Via.refl e10 P0 (g := (mkF m 19 #[.val (.ref r0)] [(.ref r0)])) rfl rfl (hb hby d4_19)
      refine own_go (fun t k => st12 _ k) ?_
      show own_Gl _ _ _ _ (T12.setTop (mkF m 22 #[.val (.ref r0)] [(.int u0)]))
      refine own_go (fun t k => XS.bipush X12.here hx rfl (hb hby d4_22) k) ?_
      show own_Gl _ _ _ _ (T12.setTop (mkF m 24 #[.val (.ref r0)] [(.int (13 : Int32)), (.int u0)]))
      by_cases hc24_13 : u0 < (13 : Int32)
      · refine own_go (fun t k => XS.icmpYes X12.here hx rfl (pc0 := 24) (pc' := 40) rfl (hb hby d4_24) rfl (tlt hc24_13).1 (by decide) (by decide) k) ?_
        show own_Gl _ _ _ _ (T12.setTop (mkF m 40 #[.val (.ref r0)] []))
        refine own_go (fun t k => XS.iconst X12.here hx rfl (hb hby d4_40) k) ?_
        show own_Gl _ _ _ _ (T12.setTop (mkF m 41 #[.val (.ref r0)] [(.int (0 : Int32))]))
        obtain ⟨fs, hr, hrun, hended, hW, hsame⟩ := X12.leave (v := some (.int (0 : Int32))) (fun h => by rw [Bd.returns] at h; cases h)
        refine own_fin (Jvm.RoadKit.retOut X12 hx Bd.returns rfl (Or.inl ⟨rfl, Or.inl rfl, _, rfl⟩) (hb hby d4_41) hr) hrun hended ⟨_, _, rfl, ?_, ⟨_, rfl⟩, hW, hsame.mono (by decide) (by decide)⟩
        show Q4 Z r0 u0 h0 n0 _ T12.heap _
        rw [e12]
        exact ⟨N0, by rw [f4, if_neg hc4_9, if_neg hc13_11, if_pos hc24_13], rfl⟩
      · refine own_go (fun t k => XS.icmpNo X12.here hx rfl (hb hby d4_24) rfl (flt hc24_13).1 k) ?_
        show own_Gl _ _ _ _ (T12.setTop (mkF m 27 #[.val (.ref r0)] []))
        refine own_go (fun t k => XS.aloadN X12.here hx rfl (hb hby d4_27) rfl rfl k) ?_
        show own_Gl _ _ _ _ (T12.setTop (mkF m 28 #[.val (.ref r0)] [(.ref r0)]))
        obtain ⟨T14, X14, e14, st14⟩ := getF X12 hx hZ hown (host := "") (Or.inl (hw _ (List.mem_of_getElem? (i := 15) rfl))) Via.refl e12 P0 (g := (mkF m 28 #[.val (.ref r0)] [(.ref r0)])) rfl rfl (hb hby d4_28)
        refine own_go (fun t k => st14 _ k) ?_
        show own_Gl _ _ _ _ (T14.setTop (mkF m 31 #[.val (.ref r0)] [(.int u0)]))
        refine own_go (fun t k => XS.bipush X14.here hx rfl (hb hby d4_31) k) ?_
        show own_Gl _ _ _ _ (T14.setTop (mkF m 33 #[.val (.ref r0)] [(.int (18 : Int32)), (.int u0)]))
        by_cases hc33_15 : (18 : Int32) < u0
        · refine own_go (fun t k => XS.icmpYes X14.here hx rfl (pc0 := 33) (pc' := 40) rfl (hb hby d4_33) rfl (tlt hc33_15).2.2.1 (by decide) (by decide) k) ?_
          show own_Gl _ _ _ _ (T14.setTop (mkF m 40 #[.val (.ref r0)] []))
          refine own_go (fun t k => XS.iconst X14.here hx rfl (hb hby d4_40) k) ?_
          show own_Gl _ _ _ _ (T14.setTop (mkF m 41 #[.val (.ref r0)] [(.int (0 : Int32))]))
          obtain ⟨fs, hr, hrun, hended, hW, hsame⟩ := X14.leave (v := some (.int (0 : Int32))) (fun h => by rw [Bd.returns] at h; cases h)
          refine own_fin (Jvm.RoadKit.retOut X14 hx Bd.returns rfl (Or.inl ⟨rfl, Or.inl rfl, _, rfl⟩) (hb hby d4_41) hr) hrun hended ⟨_, _, rfl, ?_, ⟨_, rfl⟩, hW, hsame.mono (by decide) (by decide)⟩
          show Q4 Z r0 u0 h0 n0 _ T14.heap _
          rw [e14]
          exact ⟨N0, by rw [f4, if_neg hc4_9, if_neg hc13_11, if_neg hc24_13, if_pos hc33_15], rfl⟩
        · refine own_go (fun t k => XS.icmpNo X14.here hx rfl (hb hby d4_33) rfl (flt hc33_15).2.2.1 k) ?_
          show own_Gl _ _ _ _ (T14.setTop (mkF m 36 #[.val (.ref r0)] []))
          refine own_go (fun t k => XS.iconst X14.here hx rfl (hb hby d4_36) k) ?_
          show own_Gl _ _ _ _ (T14.setTop (mkF m 37 #[.val (.ref r0)] [(.int (2 : Int32))]))
          refine own_go (fun t k => XS.goto X14.here hx rfl (pc0 := 37) (pc' := 41) rfl (hb hby d4_37) (by decide) (by decide) k) ?_
          show own_Gl _ _ _ _ (T14.setTop (mkF m 41 #[.val (.ref r0)] [(.int (2 : Int32))]))
          obtain ⟨fs, hr, hrun, hended, hW, hsame⟩ := X14.leave (v := some (.int (2 : Int32))) (fun h => by rw [Bd.returns] at h; cases h)
          refine own_fin (Jvm.RoadKit.retOut X14 hx Bd.returns rfl (Or.inl ⟨rfl, Or.inl rfl, _, rfl⟩) (hb hby d4_41) hr) hrun hended ⟨_, _, rfl, ?_, ⟨_, rfl⟩, hW, hsame.mono (by decide) (by decide)⟩
          show Q4 Z r0 u0 h0 n0 _ T14.heap _
          rw [e14]
          exact ⟨N0, by rw [f4, if_neg hc4_9, if_neg hc13_11, if_neg hc24_13, if_neg hc33_15], rfl⟩
theorem own_mod (x y : Int32) (n : Int) (hy : y.toInt = n) (h1 : 0 < n) : 0 ≤ ((x &&& (2147483647 : Int32)) % y).toInt ∧ ((x &&& (2147483647 : Int32)) % y).toInt < n := by
  have e := Jvm.Kit.i32_mask x 2147483647 (k := 31) (by decide) (by decide)
  have h0 : 0 ≤ (x &&& (2147483647 : Int32)).toInt := by omega
  rw [Jvm.Kit.i32_rem_nonneg h0, hy]
  exact ⟨Int.emod_nonneg _ (by omega), Int.emod_lt_of_pos _ h1⟩
theorem own_r0 (x : Int32) : ¬ (((x &&& (2147483647 : Int32)) % (20 : Int32)) < (0 : Int32)) := by
  have h := own_mod x 20 20 rfl (by decide)
  have z : (0 : Int32).toInt = 0 := rfl
  rw [Int32.lt_iff_toInt_lt]; omega
theorem own_r1 (x : Int32) : ¬ ((19 : Int32) < ((x &&& (2147483647 : Int32)) % (20 : Int32))) := by
  have h := own_mod x 20 20 rfl (by decide)
  have z : (19 : Int32).toInt = 19 := rfl
  rw [Int32.lt_iff_toInt_lt]; omega
theorem own_s0 (x : Int32) : ¬ (((x &&& (2147483647 : Int32)) % (6 : Int32)) < (0 : Int32)) := by
  have h := own_mod x 6 6 rfl (by decide)
  have z : (0 : Int32).toInt = 0 := rfl
  rw [Int32.lt_iff_toInt_lt]; omega
theorem own_s1 (x : Int32) : ((x &&& (2147483647 : Int32)) % (6 : Int32)) < (6 : Int32) := by
  have h := own_mod x 6 6 rfl (by decide)
  have z : (6 : Int32).toInt = 6 := rfl
  rw [Int32.lt_iff_toInt_lt]; omega
theorem pn_com_example_sixfold_sixfold_runs_CardHandCostPinLaw : plainName "com/example/sixfold/sixfold/runs/CardHandCostPinLaw" = true := by first | (simp [plainName, overriddenIn]; done) | decide +kernel
theorem ef_0 (m : MethodId) (p0 : Int32) (p1 : Int32) : entryFrame m #[(.int p0), (.int p1)] maxLocals = mkF m 0 #[.val (.int p0), .val (.int p1), .unset, .unset, .unset, .unset, .unset] [] := by first | (simp [entryFrame, mkF, argsToLocals, Value.category, maxLocals]; done) | rfl
theorem pd_1 : parseMethodDescriptor "(II)V" = some ⟨[.int, .int], none⟩ := by decide +kernel
theorem pd_2 : parseMethodDescriptor "()I" = some ⟨[], some .int⟩ := by decide +kernel
def f0 (p0 : Int32) (p1 : Int32) : Int32 := (if ((p0 &&& (2147483647 : Int32)) % (20 : Int32)) < (1 : Int32) then (if ((p0 &&& (2147483647 : Int32)) % (20 : Int32)) < (13 : Int32) then (if (f4 ((p0 &&& (2147483647 : Int32)) % (20 : Int32))) = (5 : Int32) then (1 : Int32) else (0 : Int32)) else (if (18 : Int32) < ((p0 &&& (2147483647 : Int32)) % (20 : Int32)) then (if (f4 ((p0 &&& (2147483647 : Int32)) % (20 : Int32))) = (5 : Int32) then (1 : Int32) else (0 : Int32)) else (if (f4 ((p0 &&& (2147483647 : Int32)) % (20 : Int32))) = (2 : Int32) then (1 : Int32) else (0 : Int32)))) else (if (12 : Int32) < ((p0 &&& (2147483647 : Int32)) % (20 : Int32)) then (if ((p0 &&& (2147483647 : Int32)) % (20 : Int32)) < (13 : Int32) then (if (f4 ((p0 &&& (2147483647 : Int32)) % (20 : Int32))) = (5 : Int32) then (1 : Int32) else (0 : Int32)) else (if (18 : Int32) < ((p0 &&& (2147483647 : Int32)) % (20 : Int32)) then (if (f4 ((p0 &&& (2147483647 : Int32)) % (20 : Int32))) = (5 : Int32) then (1 : Int32) else (0 : Int32)) else (if (f4 ((p0 &&& (2147483647 : Int32)) % (20 : Int32))) = (2 : Int32) then (1 : Int32) else (0 : Int32)))) else (if (f4 ((p0 &&& (2147483647 : Int32)) % (20 : Int32))) = (0 : Int32) then (1 : Int32) else (0 : Int32))))
def Q0 (Z : State) (p0 : Int32) (p1 : Int32) (h0 : Heap) (n0 : Nat) (v : Option Value) (h : Heap) (L : List Loc) : Prop := Fr n0 L ∧ v = some (.int (f0 p0 p1))
set_option maxRecDepth 65536 in
set_option maxHeartbeats 40000000 in
theorem rm0 (l : Launch) (Z : State) (a0 : Array Value) (hw : ∀ d ∈ tables_1, d.before a0 Z = true) (ws : List Jvm.Cond) (p0 : Int32) (p1 : Int32) (h0 : Heap) (n0 : Nat) (Z0 : n0 ≤ h0.size)  :
    MetFree l x (head1 (Jvm.Cond.code x code maxLocals ret :: ws) room_1) (fun a U => a = #[(.int p0), (.int p1)] ∧ Z.Warmed39 U.vm ∧ U.heap = h0) (fun _ _ _ _ _ => True) (fun _ U o U' => ∃ v L, o = .returned v ∧ Q0 Z p0 p1 h0 n0 v U'.heap L ∧ FrameEnd U o U' L room_1.cells room_1.slots) := by
  refine MetFree.of_bodySF (plainFor_of_name pn_com_example_sixfold_sixfold_runs_CardHandCostPinLaw) hisR ?_
  intro p e s m args below meth c s₁ Bd hml0 hP hK
  obtain ⟨rfl, hZ, hh⟩ := hP
  have hx := Bd.exec
  have hby := Bd.bytes
  have hml : c.maxLocals = 7 := hml0
  have hown : s.vm.findClass "com/example/sixfold/sixfold/runs/CardHandCostPinLaw" = some m.cls := findClass_of_methodNamed Bd.named
  have hnm := (name_of_methodNamed Bd.named Bd.method).1
  have X0 : Stand p l e room_1 s m #[(.int p0), (.int p1)] below meth c s₁ [] 0 0 := Stand.of_body Bd
  have e0 : s₁.heap = h0 := by rw [← hh, Bd.state]; rfl
  have N0 := Fr.nil n0
  show own_Gl p e below (fun o U' => ∃ v L, o = .returned v ∧ Q0 Z p0 p1 h0 n0 v U'.heap L ∧ FrameEnd s o U' L room_1.cells room_1.slots) (s₁.setTop (entryFrame m #[(.int p0), (.int p1)] maxLocals))
  refine own_go (fun t k => castTop (ef_0 m p0 p1) k) ?_
  show own_Gl _ _ _ _ (s₁.setTop (mkF m 0 #[.val (.int p0), .val (.int p1), .unset, .unset, .unset, .unset, .unset] []))
  refine own_go (fun t k => XS.iloadN X0.here hx rfl (hb hby at_0) rfl k) ?_
  show own_Gl _ _ _ _ (s₁.setTop (mkF m 1 #[.val (.int p0), .val (.int p1), .unset, .unset, .unset, .unset, .unset] [(.int p0)]))
  refine own_go (fun t k => X0.ldcInt hx hown (mvT hZ (hw _ (List.mem_of_getElem? (i := 0) rfl))) (g := (mkF m 1 #[.val (.int p0), .val (.int p1), .unset, .unset, .unset, .unset, .unset] [(.int p0)])) rfl (hb hby at_1) _ k) ?_
  show own_Gl _ _ _ _ (s₁.setTop (mkF m 3 #[.val (.int p0), .val (.int p1), .unset, .unset, .unset, .unset, .unset] [(.int (2147483647 : Int32)), (.int p0)]))
  refine own_go (fun t k => XS.iand X0.here hx rfl (hb hby at_3) rfl k) ?_
  show own_Gl _ _ _ _ (s₁.setTop (mkF m 4 #[.val (.int p0), .val (.int p1), .unset, .unset, .unset, .unset, .unset] [(.int (p0 &&& (2147483647 : Int32)))]))
  refine own_go (fun t k => XS.bipush X0.here hx rfl (hb hby at_4) k) ?_
  show own_Gl _ _ _ _ (s₁.setTop (mkF m 6 #[.val (.int p0), .val (.int p1), .unset, .unset, .unset, .unset, .unset] [(.int (20 : Int32)), (.int (p0 &&& (2147483647 : Int32)))]))
  refine own_go (fun t k => iremM X0 hx rfl (hb hby at_6) rfl (by decide) k) ?_
  show own_Gl _ _ _ _ (s₁.setTop (mkF m 7 #[.val (.int p0), .val (.int p1), .unset, .unset, .unset, .unset, .unset] [(.int ((p0 &&& (2147483647 : Int32)) % (20 : Int32)))]))
  refine own_go (fun t k => XS.istoreN X0.here hx rfl (hb hby at_7) rfl (l' := #[.val (.int p0), .val (.int p1), .val (.int ((p0 &&& (2147483647 : Int32)) % (20 : Int32))), .unset, .unset, .unset, .unset]) rfl k) ?_
  show own_Gl _ _ _ _ (s₁.setTop (mkF m 8 #[.val (.int p0), .val (.int p1), .val (.int ((p0 &&& (2147483647 : Int32)) % (20 : Int32))), .unset, .unset, .unset, .unset] []))
  refine own_go (fun t k => XS.iloadN X0.here hx rfl (hb hby at_8) rfl k) ?_
  show own_Gl _ _ _ _ (s₁.setTop (mkF m 9 #[.val (.int p0), .val (.int p1), .val (.int ((p0 &&& (2147483647 : Int32)) % (20 : Int32))), .unset, .unset, .unset, .unset] [(.int p1)]))
  refine own_go (fun t k => X0.ldcInt hx hown (mvT hZ (hw _ (List.mem_of_getElem? (i := 0) rfl))) (g := (mkF m 9 #[.val (.int p0), .val (.int p1), .val (.int ((p0 &&& (2147483647 : Int32)) % (20 : Int32))), .unset, .unset, .unset, .unset] [(.int p1)])) rfl (hb hby at_9) _ k) ?_
  show own_Gl _ _ _ _ (s₁.setTop (mkF m 11 #[.val (.int p0), .val (.int p1), .val (.int ((p0 &&& (2147483647 : Int32)) % (20 : Int32))), .unset, .unset, .unset, .unset] [(.int (2147483647 : Int32)), (.int p1)]))
  refine own_go (fun t k => XS.iand X0.here hx rfl (hb hby at_11) rfl k) ?_
  show own_Gl _ _ _ _ (s₁.setTop (mkF m 12 #[.val (.int p0), .val (.int p1), .val (.int ((p0 &&& (2147483647 : Int32)) % (20 : Int32))), .unset, .unset, .unset, .unset] [(.int (p1 &&& (2147483647 : Int32)))]))
  refine own_go (fun t k => XS.bipush X0.here hx rfl (hb hby at_12) k) ?_
  show own_Gl _ _ _ _ (s₁.setTop (mkF m 14 #[.val (.int p0), .val (.int p1), .val (.int ((p0 &&& (2147483647 : Int32)) % (20 : Int32))), .unset, .unset, .unset, .unset] [(.int (6 : Int32)), (.int (p1 &&& (2147483647 : Int32)))]))
  refine own_go (fun t k => iremM X0 hx rfl (hb hby at_14) rfl (by decide) k) ?_
  show own_Gl _ _ _ _ (s₁.setTop (mkF m 15 #[.val (.int p0), .val (.int p1), .val (.int ((p0 &&& (2147483647 : Int32)) % (20 : Int32))), .unset, .unset, .unset, .unset] [(.int ((p1 &&& (2147483647 : Int32)) % (6 : Int32)))]))
  refine own_go (fun t k => XS.istoreN X0.here hx rfl (hb hby at_15) rfl (l' := #[.val (.int p0), .val (.int p1), .val (.int ((p0 &&& (2147483647 : Int32)) % (20 : Int32))), .val (.int ((p1 &&& (2147483647 : Int32)) % (6 : Int32))), .unset, .unset, .unset]) rfl k) ?_
  show own_Gl _ _ _ _ (s₁.setTop (mkF m 16 #[.val (.int p0), .val (.int p1), .val (.int ((p0 &&& (2147483647 : Int32)) % (20 : Int32))), .val (.int ((p1 &&& (2147483647 : Int32)) % (6 : Int32))), .unset, .unset, .unset] []))
  obtain ⟨T16, h16, X16, e16, E16, A16, D16, -, st16⟩ := newO X0 hx hZ hown (hw _ (List.mem_of_getElem? (i := 1) rfl)) (hw _ (List.mem_of_getElem? (i := 2) rfl)) (hw _ (List.mem_of_getElem? (i := 3) rfl)) e0 (g := (mkF m 16 #[.val (.int p0), .val (.int p1), .val (.int ((p0 &&& (2147483647 : Int32)) % (20 : Int32))), .val (.int ((p1 &&& (2147483647 : Int32)) % (6 : Int32))), .unset, .unset, .unset] [])) rfl (hb hby at_16) (by decide) (by decide)
  obtain ⟨b16, g16⟩ : ∃ z, z = h0.size := ⟨_, rfl⟩
  rw [← g16] at A16 D16 st16
  have ge_b16 : n0 ≤ b16 := Nat.le_trans Z0 (Nat.le_of_eq g16.symm)
  have sz_b16 : h0.size ≤ b16 := Nat.le_trans (Keep.refl h0 []).1 (Nat.le_of_eq g16.symm)
  refine own_go (fun t k => st16 _ k) ?_
  have K16 : Keep h0 h16 [] := (Keep.refl h0 []).ext E16
  have Z16 : n0 ≤ h16.size := Nat.le_trans Z0 E16.1
  have F16_16 : Fld Z h16 b16 "com/example/sixfold/sixfold/runs/Card" "rank" "I" (.int (0 : Int32)) := D16 (Or.inr (hw _ (List.mem_of_getElem? (i := 16) rfl))) (ty := .int) (by decide)
  have F16_18 : Fld Z h16 b16 "com/example/sixfold/sixfold/runs/Card" "suit" "I" (.int (0 : Int32)) := D16 (Or.inr (hw _ (List.mem_of_getElem? (i := 18) rfl))) (ty := .int) (by decide)
  show own_Gl _ _ _ _ (T16.setTop (mkF m 19 #[.val (.int p0), .val (.int p1), .val (.int ((p0 &&& (2147483647 : Int32)) % (20 : Int32))), .val (.int ((p1 &&& (2147483647 : Int32)) % (6 : Int32))), .unset, .unset, .unset] [(.ref b16)]))
  refine own_go (fun t k => XS.dup X16.here hx rfl (hb hby at_19) rfl rfl k) ?_
  show own_Gl _ _ _ _ (T16.setTop (mkF m 20 #[.val (.int p0), .val (.int p1), .val (.int ((p0 &&& (2147483647 : Int32)) % (20 : Int32))), .val (.int ((p1 &&& (2147483647 : Int32)) % (6 : Int32))), .unset, .unset, .unset] [(.ref b16), (.ref b16)]))
  refine own_go (fun t k => XS.iloadN X16.here hx rfl (hb hby at_20) rfl k) ?_
  show own_Gl _ _ _ _ (T16.setTop (mkF m 21 #[.val (.int p0), .val (.int p1), .val (.int ((p0 &&& (2147483647 : Int32)) % (20 : Int32))), .val (.int ((p1 &&& (2147483647 : Int32)) % (6 : Int32))), .unset, .unset, .unset] [(.int ((p0 &&& (2147483647 : Int32)) % (20 : Int32))), (.ref b16), (.ref b16)]))
  refine own_go (fun t k => XS.iloadN X16.here hx rfl (hb hby at_21) rfl k) ?_
  show own_Gl _ _ _ _ (T16.setTop (mkF m 22 #[.val (.int p0), .val (.int p1), .val (.int ((p0 &&& (2147483647 : Int32)) % (20 : Int32))), .val (.int ((p1 &&& (2147483647 : Int32)) % (6 : Int32))), .unset, .unset, .unset] [(.int ((p1 &&& (2147483647 : Int32)) % (6 : Int32))), (.int ((p0 &&& (2147483647 : Int32)) % (20 : Int32))), (.ref b16), (.ref b16)]))
  obtain ⟨_, _, ⟨T17, L17, kk17, nn17⟩, -, X17, ⟨Lc17, hQ17, l17, y17, z17⟩, st17⟩ := X16.specialBack hx (y := (⟨"com/example/sixfold/sixfold/runs/Card", "<init>", "(II)V"⟩ : MethodName)) rfl hown (mvT hZ (hw _ (List.mem_of_getElem? (i := 4) rfl))) (mvT hZ (hw _ (List.mem_of_getElem? (i := 5) rfl))) (mvT hZ (hw _ (List.mem_of_getElem? (i := 6) rfl))) (by decide) (backOf (W := 1) (rm1 l Z a0 hw [] b16 ((p0 &&& (2147483647 : Int32)) % (20 : Int32)) ((p1 &&& (2147483647 : Int32)) % (6 : Int32)) h16 n0 Z16 A16 F16_16 F16_18 ge_b16 (own_r0 p0) (own_r1 p0) (own_s0 p1) (own_s1 p1)) hZ (hw _ (List.mem_of_getElem? (i := 6) rfl)) (hw _ (List.mem_of_getElem? (i := 3) rfl)) (by decide) (by decide)) (g := (mkF m 22 #[.val (.int p0), .val (.int p1), .val (.int ((p0 &&& (2147483647 : Int32)) % (20 : Int32))), .val (.int ((p1 &&& (2147483647 : Int32)) % (6 : Int32))), .unset, .unset, .unset] [(.int ((p1 &&& (2147483647 : Int32)) % (6 : Int32))), (.int ((p0 &&& (2147483647 : Int32)) % (20 : Int32))), (.ref b16), (.ref b16)])) rfl (by rw [hml]; rfl) (Steps.refl _) (a := b16) (argsL := [(.int ((p0 &&& (2147483647 : Int32)) % (20 : Int32))), (.int ((p1 &&& (2147483647 : Int32)) % (6 : Int32)))]) (rest := [(.ref b16)]) (lenOf pd_1 rfl) rfl (by show 2 * 0 + _ ≤ _; exact Nat.le_of_eq rfl) (hb hby at_22) (fun _ _ => ⟨rfl, e16, (by decide : 1 + 0 ≤ _), (by decide : 2 + 0 ≤ _)⟩)
  dsimp only [Pt.U, Pt.locs, Pt.cells, Pt.slots] at X17 l17 y17 z17 st17 hQ17
  subst l17 y17 z17
  obtain ⟨N17q, rfl, K17q, po17_0⟩ := hQ17
  have N17 := Fr.app N0 N17q
  have K17 : Keep h0 T17.heap [] := K16.trans K17q (allS (Or.inr sz_b16) all0)
  have Z17 : n0 ≤ T17.heap.size := Nat.le_trans Z16 K17q.1
  refine own_go (fun t k => st17.trans k) ?_
  show own_Gl _ _ _ _ (T17.setTop (mkF m 25 #[.val (.int p0), .val (.int p1), .val (.int ((p0 &&& (2147483647 : Int32)) % (20 : Int32))), .val (.int ((p1 &&& (2147483647 : Int32)) % (6 : Int32))), .unset, .unset, .unset] [(.ref b16)]))
  refine own_go (fun t k => XS.astore X17.here hx rfl (hb hby at_25) rfl rfl (l' := #[.val (.int p0), .val (.int p1), .val (.int ((p0 &&& (2147483647 : Int32)) % (20 : Int32))), .val (.int ((p1 &&& (2147483647 : Int32)) % (6 : Int32))), .val (.ref b16), .unset, .unset]) rfl k) ?_
  show own_Gl _ _ _ _ (T17.setTop (mkF m 27 #[.val (.int p0), .val (.int p1), .val (.int ((p0 &&& (2147483647 : Int32)) % (20 : Int32))), .val (.int ((p1 &&& (2147483647 : Int32)) % (6 : Int32))), .val (.ref b16), .unset, .unset] []))
  refine own_go (fun t k => XS.aload X17.here hx rfl (hb hby at_27) rfl rfl k) ?_
  show own_Gl _ _ _ _ (T17.setTop (mkF m 29 #[.val (.int p0), .val (.int p1), .val (.int ((p0 &&& (2147483647 : Int32)) % (20 : Int32))), .val (.int ((p1 &&& (2147483647 : Int32)) % (6 : Int32))), .val (.ref b16), .unset, .unset] [(.ref b16)]))
  have f_19 : Exa Z T17.heap b16 "com/example/sixfold/sixfold/runs/Card" := (A16.keep K17q)
  obtain ⟨cq18, kq18, q18a, q18b, q18c⟩ := isOf hZ rfl f_19
  obtain ⟨_, _, ⟨T18, L18, kk18, nn18⟩, -, X18, ⟨Lc18, hQ18, l18, y18, z18⟩, st18⟩ := X17.virtualBack hx (y := (⟨"com/example/sixfold/sixfold/runs/Card", "handCost", "()I"⟩ : MethodName)) (z := (⟨"com/example/sixfold/sixfold/runs/Card", "handCost", "()I"⟩ : MethodName)) hown (mvT hZ (hw _ (List.mem_of_getElem? (i := 19) rfl))) (mvT hZ (hw _ (List.mem_of_getElem? (i := 20) rfl))) (notFace_of_selects (args := #[]) (mvT hZ (hw _ (List.mem_of_getElem? (i := 22) rfl)))) (mvT hZ (hw _ (List.mem_of_getElem? (i := 22) rfl))) (mvT hZ (hw _ (List.mem_of_getElem? (i := 21) rfl))) (by decide) (backOf (W := 0) (rm4 l Z a0 hw [] b16 ((p0 &&& (2147483647 : Int32)) % (20 : Int32)) T17.heap n0 Z17 po17_0) hZ (hw _ (List.mem_of_getElem? (i := 23) rfl)) (hw _ (List.mem_of_getElem? (i := 3) rfl)) (by decide) (by decide)) q18a q18c (g := (mkF m 29 #[.val (.int p0), .val (.int p1), .val (.int ((p0 &&& (2147483647 : Int32)) % (20 : Int32))), .val (.int ((p1 &&& (2147483647 : Int32)) % (6 : Int32))), .val (.ref b16), .unset, .unset] [(.ref b16)])) rfl (by rw [hml]; rfl) (Steps.refl _) (argsL := []) (rest := []) (lenOf pd_2 rfl) rfl (by show 2 * 0 + _ ≤ _; exact Nat.le_of_eq rfl) (hb hby at_29) (fun _ _ => ⟨rfl, rfl, (by decide : 1 + 0 ≤ _), (by decide : 2 + 0 ≤ _)⟩)
  dsimp only [Pt.U, Pt.locs, Pt.cells, Pt.slots] at X18 l18 y18 z18 st18 hQ18
  subst l18 y18 z18
  obtain ⟨N18q, rfl, hq18⟩ := hQ18
  have N18 := Fr.app N17 N18q
  refine own_go (fun t k => st18.trans k) ?_
  show own_Gl _ _ _ _ (T18.setTop (mkF m 32 #[.val (.int p0), .val (.int p1), .val (.int ((p0 &&& (2147483647 : Int32)) % (20 : Int32))), .val (.int ((p1 &&& (2147483647 : Int32)) % (6 : Int32))), .val (.ref b16), .unset, .unset] [(.int (f4 ((p0 &&& (2147483647 : Int32)) % (20 : Int32))))]))
  refine own_go (fun t k => XS.istore X18.here hx rfl (hb hby at_32) rfl (l' := #[.val (.int p0), .val (.int p1), .val (.int ((p0 &&& (2147483647 : Int32)) % (20 : Int32))), .val (.int ((p1 &&& (2147483647 : Int32)) % (6 : Int32))), .val (.ref b16), .val (.int (f4 ((p0 &&& (2147483647 : Int32)) % (20 : Int32)))), .unset]) rfl k) ?_
  show own_Gl _ _ _ _ (T18.setTop (mkF m 34 #[.val (.int p0), .val (.int p1), .val (.int ((p0 &&& (2147483647 : Int32)) % (20 : Int32))), .val (.int ((p1 &&& (2147483647 : Int32)) % (6 : Int32))), .val (.ref b16), .val (.int (f4 ((p0 &&& (2147483647 : Int32)) % (20 : Int32)))), .unset] []))
  refine own_go (fun t k => XS.iloadN X18.here hx rfl (hb hby at_34) rfl k) ?_
  show own_Gl _ _ _ _ (T18.setTop (mkF m 35 #[.val (.int p0), .val (.int p1), .val (.int ((p0 &&& (2147483647 : Int32)) % (20 : Int32))), .val (.int ((p1 &&& (2147483647 : Int32)) % (6 : Int32))), .val (.ref b16), .val (.int (f4 ((p0 &&& (2147483647 : Int32)) % (20 : Int32)))), .unset] [(.int ((p0 &&& (2147483647 : Int32)) % (20 : Int32)))]))
  refine own_go (fun t k => XS.iconst X18.here hx rfl (hb hby at_35) k) ?_
  show own_Gl _ _ _ _ (T18.setTop (mkF m 36 #[.val (.int p0), .val (.int p1), .val (.int ((p0 &&& (2147483647 : Int32)) % (20 : Int32))), .val (.int ((p1 &&& (2147483647 : Int32)) % (6 : Int32))), .val (.ref b16), .val (.int (f4 ((p0 &&& (2147483647 : Int32)) % (20 : Int32)))), .unset] [(.int (1 : Int32)), (.int ((p0 &&& (2147483647 : Int32)) % (20 : Int32)))]))
  by_cases hc36_20 : ((p0 &&& (2147483647 : Int32)) % (20 : Int32)) < (1 : Int32)
  · refine own_go (fun t k => XS.icmpYes X18.here hx rfl (pc0 := 36) (pc' := 51) rfl (hb hby at_36) rfl (tlt hc36_20).1 (by decide) (by decide) k) ?_
    show own_Gl _ _ _ _ (T18.setTop (mkF m 51 #[.val (.int p0), .val (.int p1), .val (.int ((p0 &&& (2147483647 : Int32)) % (20 : Int32))), .val (.int ((p1 &&& (2147483647 : Int32)) % (6 : Int32))), .val (.ref b16), .val (.int (f4 ((p0 &&& (2147483647 : Int32)) % (20 : Int32)))), .unset] []))
    refine own_go (fun t k => XS.iloadN X18.here hx rfl (hb hby at_51) rfl k) ?_
    show own_Gl _ _ _ _ (T18.setTop (mkF m 52 #[.val (.int p0), .val (.int p1), .val (.int ((p0 &&& (2147483647 : Int32)) % (20 : Int32))), .val (.int ((p1 &&& (2147483647 : Int32)) % (6 : Int32))), .val (.ref b16), .val (.int (f4 ((p0 &&& (2147483647 : Int32)) % (20 : Int32)))), .unset] [(.int ((p0 &&& (2147483647 : Int32)) % (20 : Int32)))]))
    refine own_go (fun t k => XS.bipush X18.here hx rfl (hb hby at_52) k) ?_
    show own_Gl _ _ _ _ (T18.setTop (mkF m 54 #[.val (.int p0), .val (.int p1), .val (.int ((p0 &&& (2147483647 : Int32)) % (20 : Int32))), .val (.int ((p1 &&& (2147483647 : Int32)) % (6 : Int32))), .val (.ref b16), .val (.int (f4 ((p0 &&& (2147483647 : Int32)) % (20 : Int32)))), .unset] [(.int (13 : Int32)), (.int ((p0 &&& (2147483647 : Int32)) % (20 : Int32)))]))
    by_cases hc54_21 : ((p0 &&& (2147483647 : Int32)) % (20 : Int32)) < (13 : Int32)
    · refine own_go (fun t k => XS.icmpYes X18.here hx rfl (pc0 := 54) (pc' := 69) rfl (hb hby at_54) rfl (tlt hc54_21).1 (by decide) (by decide) k) ?_
      show own_Gl _ _ _ _ (T18.setTop (mkF m 69 #[.val (.int p0), .val (.int p1), .val (.int ((p0 &&& (2147483647 : Int32)) % (20 : Int32))), .val (.int ((p1 &&& (2147483647 : Int32)) % (6 : Int32))), .val (.ref b16), .val (.int (f4 ((p0 &&& (2147483647 : Int32)) % (20 : Int32)))), .unset] []))
      refine own_go (fun t k => XS.iconst X18.here hx rfl (hb hby at_69) k) ?_
      show own_Gl _ _ _ _ (T18.setTop (mkF m 70 #[.val (.int p0), .val (.int p1), .val (.int ((p0 &&& (2147483647 : Int32)) % (20 : Int32))), .val (.int ((p1 &&& (2147483647 : Int32)) % (6 : Int32))), .val (.ref b16), .val (.int (f4 ((p0 &&& (2147483647 : Int32)) % (20 : Int32)))), .unset] [(.int (5 : Int32))]))
      refine own_go (fun t k => XS.istore X18.here hx rfl (hb hby at_70) rfl (l' := #[.val (.int p0), .val (.int p1), .val (.int ((p0 &&& (2147483647 : Int32)) % (20 : Int32))), .val (.int ((p1 &&& (2147483647 : Int32)) % (6 : Int32))), .val (.ref b16), .val (.int (f4 ((p0 &&& (2147483647 : Int32)) % (20 : Int32)))), .val (.int (5 : Int32))]) rfl k) ?_
      show own_Gl _ _ _ _ (T18.setTop (mkF m 72 #[.val (.int p0), .val (.int p1), .val (.int ((p0 &&& (2147483647 : Int32)) % (20 : Int32))), .val (.int ((p1 &&& (2147483647 : Int32)) % (6 : Int32))), .val (.ref b16), .val (.int (f4 ((p0 &&& (2147483647 : Int32)) % (20 : Int32)))), .val (.int (5 : Int32))] []))
      refine own_go (fun t k => XS.iload X18.here hx rfl (hb hby at_72) rfl k) ?_
      show own_Gl _ _ _ _ (T18.setTop (mkF m 74 #[.val (.int p0), .val (.int p1), .val (.int ((p0 &&& (2147483647 : Int32)) % (20 : Int32))), .val (.int ((p1 &&& (2147483647 : Int32)) % (6 : Int32))), .val (.ref b16), .val (.int (f4 ((p0 &&& (2147483647 : Int32)) % (20 : Int32)))), .val (.int (5 : Int32))] [(.int (f4 ((p0 &&& (2147483647 : Int32)) % (20 : Int32))))]))
      refine own_go (fun t k => XS.iload X18.here hx rfl (hb hby at_74) rfl k) ?_
      show own_Gl _ _ _ _ (T18.setTop (mkF m 76 #[.val (.int p0), .val (.int p1), .val (.int ((p0 &&& (2147483647 : Int32)) % (20 : Int32))), .val (.int ((p1 &&& (2147483647 : Int32)) % (6 : Int32))), .val (.ref b16), .val (.int (f4 ((p0 &&& (2147483647 : Int32)) % (20 : Int32)))), .val (.int (5 : Int32))] [(.int (5 : Int32)), (.int (f4 ((p0 &&& (2147483647 : Int32)) % (20 : Int32))))]))
      by_cases hc76_22 : (f4 ((p0 &&& (2147483647 : Int32)) % (20 : Int32))) = (5 : Int32)
      · refine own_go (fun t k => XS.icmpNo X18.here hx rfl (hb hby at_76) rfl (teq hc76_22).2 k) ?_
        show own_Gl _ _ _ _ (T18.setTop (mkF m 79 #[.val (.int p0), .val (.int p1), .val (.int ((p0 &&& (2147483647 : Int32)) % (20 : Int32))), .val (.int ((p1 &&& (2147483647 : Int32)) % (6 : Int32))), .val (.ref b16), .val (.int (f4 ((p0 &&& (2147483647 : Int32)) % (20 : Int32)))), .val (.int (5 : Int32))] []))
        refine own_go (fun t k => XS.iconst X18.here hx rfl (hb hby at_79) k) ?_
        show own_Gl _ _ _ _ (T18.setTop (mkF m 80 #[.val (.int p0), .val (.int p1), .val (.int ((p0 &&& (2147483647 : Int32)) % (20 : Int32))), .val (.int ((p1 &&& (2147483647 : Int32)) % (6 : Int32))), .val (.ref b16), .val (.int (f4 ((p0 &&& (2147483647 : Int32)) % (20 : Int32)))), .val (.int (5 : Int32))] [(.int (1 : Int32))]))
        refine own_go (fun t k => XS.goto X18.here hx rfl (pc0 := 80) (pc' := 84) rfl (hb hby at_80) (by decide) (by decide) k) ?_
        show own_Gl _ _ _ _ (T18.setTop (mkF m 84 #[.val (.int p0), .val (.int p1), .val (.int ((p0 &&& (2147483647 : Int32)) % (20 : Int32))), .val (.int ((p1 &&& (2147483647 : Int32)) % (6 : Int32))), .val (.ref b16), .val (.int (f4 ((p0 &&& (2147483647 : Int32)) % (20 : Int32)))), .val (.int (5 : Int32))] [(.int (1 : Int32))]))
        obtain ⟨fs, hr, hrun, hended, hW, hsame⟩ := X18.leave (v := some (.int (1 : Int32))) (fun h => by rw [Bd.returns] at h; cases h)
        refine own_fin (retN X18 hx (t := .boolean) Bd.returns (by simp) (hb hby at_84) hr) hrun hended ⟨_, _, rfl, ?_, ⟨_, rfl⟩, hW, hsame.mono (by decide) (by decide)⟩
        show Q0 Z p0 p1 h0 n0 _ T18.heap _
        rw [hq18]
        exact ⟨N18, by rw [f0, if_pos hc36_20, if_pos hc54_21, if_pos hc76_22]⟩
      · refine own_go (fun t k => XS.icmpYes X18.here hx rfl (pc0 := 76) (pc' := 83) rfl (hb hby at_76) rfl (feq hc76_22).2 (by decide) (by decide) k) ?_
        show own_Gl _ _ _ _ (T18.setTop (mkF m 83 #[.val (.int p0), .val (.int p1), .val (.int ((p0 &&& (2147483647 : Int32)) % (20 : Int32))), .val (.int ((p1 &&& (2147483647 : Int32)) % (6 : Int32))), .val (.ref b16), .val (.int (f4 ((p0 &&& (2147483647 : Int32)) % (20 : Int32)))), .val (.int (5 : Int32))] []))
        refine own_go (fun t k => XS.iconst X18.here hx rfl (hb hby at_83) k) ?_
        show own_Gl _ _ _ _ (T18.setTop (mkF m 84 #[.val (.int p0), .val (.int p1), .val (.int ((p0 &&& (2147483647 : Int32)) % (20 : Int32))), .val (.int ((p1 &&& (2147483647 : Int32)) % (6 : Int32))), .val (.ref b16), .val (.int (f4 ((p0 &&& (2147483647 : Int32)) % (20 : Int32)))), .val (.int (5 : Int32))] [(.int (0 : Int32))]))
        obtain ⟨fs, hr, hrun, hended, hW, hsame⟩ := X18.leave (v := some (.int (0 : Int32))) (fun h => by rw [Bd.returns] at h; cases h)
        refine own_fin (retN X18 hx (t := .boolean) Bd.returns (by simp) (hb hby at_84) hr) hrun hended ⟨_, _, rfl, ?_, ⟨_, rfl⟩, hW, hsame.mono (by decide) (by decide)⟩
        show Q0 Z p0 p1 h0 n0 _ T18.heap _
        rw [hq18]
        exact ⟨N18, by rw [f0, if_pos hc36_20, if_pos hc54_21, if_neg hc76_22]⟩
    · refine own_go (fun t k => XS.icmpNo X18.here hx rfl (hb hby at_54) rfl (flt hc54_21).1 k) ?_
      show own_Gl _ _ _ _ (T18.setTop (mkF m 57 #[.val (.int p0), .val (.int p1), .val (.int ((p0 &&& (2147483647 : Int32)) % (20 : Int32))), .val (.int ((p1 &&& (2147483647 : Int32)) % (6 : Int32))), .val (.ref b16), .val (.int (f4 ((p0 &&& (2147483647 : Int32)) % (20 : Int32)))), .unset] []))
      refine own_go (fun t k => XS.iloadN X18.here hx rfl (hb hby at_57) rfl k) ?_
      show own_Gl _ _ _ _ (T18.setTop (mkF m 58 #[.val (.int p0), .val (.int p1), .val (.int ((p0 &&& (2147483647 : Int32)) % (20 : Int32))), .val (.int ((p1 &&& (2147483647 : Int32)) % (6 : Int32))), .val (.ref b16), .val (.int (f4 ((p0 &&& (2147483647 : Int32)) % (20 : Int32)))), .unset] [(.int ((p0 &&& (2147483647 : Int32)) % (20 : Int32)))]))
      refine own_go (fun t k => XS.bipush X18.here hx rfl (hb hby at_58) k) ?_
      show own_Gl _ _ _ _ (T18.setTop (mkF m 60 #[.val (.int p0), .val (.int p1), .val (.int ((p0 &&& (2147483647 : Int32)) % (20 : Int32))), .val (.int ((p1 &&& (2147483647 : Int32)) % (6 : Int32))), .val (.ref b16), .val (.int (f4 ((p0 &&& (2147483647 : Int32)) % (20 : Int32)))), .unset] [(.int (18 : Int32)), (.int ((p0 &&& (2147483647 : Int32)) % (20 : Int32)))]))
      by_cases hc60_23 : (18 : Int32) < ((p0 &&& (2147483647 : Int32)) % (20 : Int32))
      · refine own_go (fun t k => XS.icmpYes X18.here hx rfl (pc0 := 60) (pc' := 69) rfl (hb hby at_60) rfl (tlt hc60_23).2.2.1 (by decide) (by decide) k) ?_
        show own_Gl _ _ _ _ (T18.setTop (mkF m 69 #[.val (.int p0), .val (.int p1), .val (.int ((p0 &&& (2147483647 : Int32)) % (20 : Int32))), .val (.int ((p1 &&& (2147483647 : Int32)) % (6 : Int32))), .val (.ref b16), .val (.int (f4 ((p0 &&& (2147483647 : Int32)) % (20 : Int32)))), .unset] []))
        refine own_go (fun t k => XS.iconst X18.here hx rfl (hb hby at_69) k) ?_
        show own_Gl _ _ _ _ (T18.setTop (mkF m 70 #[.val (.int p0), .val (.int p1), .val (.int ((p0 &&& (2147483647 : Int32)) % (20 : Int32))), .val (.int ((p1 &&& (2147483647 : Int32)) % (6 : Int32))), .val (.ref b16), .val (.int (f4 ((p0 &&& (2147483647 : Int32)) % (20 : Int32)))), .unset] [(.int (5 : Int32))]))
        refine own_go (fun t k => XS.istore X18.here hx rfl (hb hby at_70) rfl (l' := #[.val (.int p0), .val (.int p1), .val (.int ((p0 &&& (2147483647 : Int32)) % (20 : Int32))), .val (.int ((p1 &&& (2147483647 : Int32)) % (6 : Int32))), .val (.ref b16), .val (.int (f4 ((p0 &&& (2147483647 : Int32)) % (20 : Int32)))), .val (.int (5 : Int32))]) rfl k) ?_
        show own_Gl _ _ _ _ (T18.setTop (mkF m 72 #[.val (.int p0), .val (.int p1), .val (.int ((p0 &&& (2147483647 : Int32)) % (20 : Int32))), .val (.int ((p1 &&& (2147483647 : Int32)) % (6 : Int32))), .val (.ref b16), .val (.int (f4 ((p0 &&& (2147483647 : Int32)) % (20 : Int32)))), .val (.int (5 : Int32))] []))
        refine own_go (fun t k => XS.iload X18.here hx rfl (hb hby at_72) rfl k) ?_
        show own_Gl _ _ _ _ (T18.setTop (mkF m 74 #[.val (.int p0), .val (.int p1), .val (.int ((p0 &&& (2147483647 : Int32)) % (20 : Int32))), .val (.int ((p1 &&& (2147483647 : Int32)) % (6 : Int32))), .val (.ref b16), .val (.int (f4 ((p0 &&& (2147483647 : Int32)) % (20 : Int32)))), .val (.int (5 : Int32))] [(.int (f4 ((p0 &&& (2147483647 : Int32)) % (20 : Int32))))]))
        refine own_go (fun t k => XS.iload X18.here hx rfl (hb hby at_74) rfl k) ?_
        show own_Gl _ _ _ _ (T18.setTop (mkF m 76 #[.val (.int p0), .val (.int p1), .val (.int ((p0 &&& (2147483647 : Int32)) % (20 : Int32))), .val (.int ((p1 &&& (2147483647 : Int32)) % (6 : Int32))), .val (.ref b16), .val (.int (f4 ((p0 &&& (2147483647 : Int32)) % (20 : Int32)))), .val (.int (5 : Int32))] [(.int (5 : Int32)), (.int (f4 ((p0 &&& (2147483647 : Int32)) % (20 : Int32))))]))
        by_cases hc76_24 : (f4 ((p0 &&& (2147483647 : Int32)) % (20 : Int32))) = (5 : Int32)
        · refine own_go (fun t k => XS.icmpNo X18.here hx rfl (hb hby at_76) rfl (teq hc76_24).2 k) ?_
          show own_Gl _ _ _ _ (T18.setTop (mkF m 79 #[.val (.int p0), .val (.int p1), .val (.int ((p0 &&& (2147483647 : Int32)) % (20 : Int32))), .val (.int ((p1 &&& (2147483647 : Int32)) % (6 : Int32))), .val (.ref b16), .val (.int (f4 ((p0 &&& (2147483647 : Int32)) % (20 : Int32)))), .val (.int (5 : Int32))] []))
          refine own_go (fun t k => XS.iconst X18.here hx rfl (hb hby at_79) k) ?_
          show own_Gl _ _ _ _ (T18.setTop (mkF m 80 #[.val (.int p0), .val (.int p1), .val (.int ((p0 &&& (2147483647 : Int32)) % (20 : Int32))), .val (.int ((p1 &&& (2147483647 : Int32)) % (6 : Int32))), .val (.ref b16), .val (.int (f4 ((p0 &&& (2147483647 : Int32)) % (20 : Int32)))), .val (.int (5 : Int32))] [(.int (1 : Int32))]))
          refine own_go (fun t k => XS.goto X18.here hx rfl (pc0 := 80) (pc' := 84) rfl (hb hby at_80) (by decide) (by decide) k) ?_
          show own_Gl _ _ _ _ (T18.setTop (mkF m 84 #[.val (.int p0), .val (.int p1), .val (.int ((p0 &&& (2147483647 : Int32)) % (20 : Int32))), .val (.int ((p1 &&& (2147483647 : Int32)) % (6 : Int32))), .val (.ref b16), .val (.int (f4 ((p0 &&& (2147483647 : Int32)) % (20 : Int32)))), .val (.int (5 : Int32))] [(.int (1 : Int32))]))
          obtain ⟨fs, hr, hrun, hended, hW, hsame⟩ := X18.leave (v := some (.int (1 : Int32))) (fun h => by rw [Bd.returns] at h; cases h)
          refine own_fin (retN X18 hx (t := .boolean) Bd.returns (by simp) (hb hby at_84) hr) hrun hended ⟨_, _, rfl, ?_, ⟨_, rfl⟩, hW, hsame.mono (by decide) (by decide)⟩
          show Q0 Z p0 p1 h0 n0 _ T18.heap _
          rw [hq18]
          exact ⟨N18, by rw [f0, if_pos hc36_20, if_neg hc54_21, if_pos hc60_23, if_pos hc76_24]⟩
        · refine own_go (fun t k => XS.icmpYes X18.here hx rfl (pc0 := 76) (pc' := 83) rfl (hb hby at_76) rfl (feq hc76_24).2 (by decide) (by decide) k) ?_
          show own_Gl _ _ _ _ (T18.setTop (mkF m 83 #[.val (.int p0), .val (.int p1), .val (.int ((p0 &&& (2147483647 : Int32)) % (20 : Int32))), .val (.int ((p1 &&& (2147483647 : Int32)) % (6 : Int32))), .val (.ref b16), .val (.int (f4 ((p0 &&& (2147483647 : Int32)) % (20 : Int32)))), .val (.int (5 : Int32))] []))
          refine own_go (fun t k => XS.iconst X18.here hx rfl (hb hby at_83) k) ?_
          show own_Gl _ _ _ _ (T18.setTop (mkF m 84 #[.val (.int p0), .val (.int p1), .val (.int ((p0 &&& (2147483647 : Int32)) % (20 : Int32))), .val (.int ((p1 &&& (2147483647 : Int32)) % (6 : Int32))), .val (.ref b16), .val (.int (f4 ((p0 &&& (2147483647 : Int32)) % (20 : Int32)))), .val (.int (5 : Int32))] [(.int (0 : Int32))]))
          obtain ⟨fs, hr, hrun, hended, hW, hsame⟩ := X18.leave (v := some (.int (0 : Int32))) (fun h => by rw [Bd.returns] at h; cases h)
          refine own_fin (retN X18 hx (t := .boolean) Bd.returns (by simp) (hb hby at_84) hr) hrun hended ⟨_, _, rfl, ?_, ⟨_, rfl⟩, hW, hsame.mono (by decide) (by decide)⟩
          show Q0 Z p0 p1 h0 n0 _ T18.heap _
          rw [hq18]
          exact ⟨N18, by rw [f0, if_pos hc36_20, if_neg hc54_21, if_pos hc60_23, if_neg hc76_24]⟩
      · refine own_go (fun t k => XS.icmpNo X18.here hx rfl (hb hby at_60) rfl (flt hc60_23).2.2.1 k) ?_
        show own_Gl _ _ _ _ (T18.setTop (mkF m 63 #[.val (.int p0), .val (.int p1), .val (.int ((p0 &&& (2147483647 : Int32)) % (20 : Int32))), .val (.int ((p1 &&& (2147483647 : Int32)) % (6 : Int32))), .val (.ref b16), .val (.int (f4 ((p0 &&& (2147483647 : Int32)) % (20 : Int32)))), .unset] []))
        refine own_go (fun t k => XS.iconst X18.here hx rfl (hb hby at_63) k) ?_
        show own_Gl _ _ _ _ (T18.setTop (mkF m 64 #[.val (.int p0), .val (.int p1), .val (.int ((p0 &&& (2147483647 : Int32)) % (20 : Int32))), .val (.int ((p1 &&& (2147483647 : Int32)) % (6 : Int32))), .val (.ref b16), .val (.int (f4 ((p0 &&& (2147483647 : Int32)) % (20 : Int32)))), .unset] [(.int (2 : Int32))]))
        refine own_go (fun t k => XS.istore X18.here hx rfl (hb hby at_64) rfl (l' := #[.val (.int p0), .val (.int p1), .val (.int ((p0 &&& (2147483647 : Int32)) % (20 : Int32))), .val (.int ((p1 &&& (2147483647 : Int32)) % (6 : Int32))), .val (.ref b16), .val (.int (f4 ((p0 &&& (2147483647 : Int32)) % (20 : Int32)))), .val (.int (2 : Int32))]) rfl k) ?_
        show own_Gl _ _ _ _ (T18.setTop (mkF m 66 #[.val (.int p0), .val (.int p1), .val (.int ((p0 &&& (2147483647 : Int32)) % (20 : Int32))), .val (.int ((p1 &&& (2147483647 : Int32)) % (6 : Int32))), .val (.ref b16), .val (.int (f4 ((p0 &&& (2147483647 : Int32)) % (20 : Int32)))), .val (.int (2 : Int32))] []))
        refine own_go (fun t k => XS.goto X18.here hx rfl (pc0 := 66) (pc' := 72) rfl (hb hby at_66) (by decide) (by decide) k) ?_
        show own_Gl _ _ _ _ (T18.setTop (mkF m 72 #[.val (.int p0), .val (.int p1), .val (.int ((p0 &&& (2147483647 : Int32)) % (20 : Int32))), .val (.int ((p1 &&& (2147483647 : Int32)) % (6 : Int32))), .val (.ref b16), .val (.int (f4 ((p0 &&& (2147483647 : Int32)) % (20 : Int32)))), .val (.int (2 : Int32))] []))
        refine own_go (fun t k => XS.iload X18.here hx rfl (hb hby at_72) rfl k) ?_
        show own_Gl _ _ _ _ (T18.setTop (mkF m 74 #[.val (.int p0), .val (.int p1), .val (.int ((p0 &&& (2147483647 : Int32)) % (20 : Int32))), .val (.int ((p1 &&& (2147483647 : Int32)) % (6 : Int32))), .val (.ref b16), .val (.int (f4 ((p0 &&& (2147483647 : Int32)) % (20 : Int32)))), .val (.int (2 : Int32))] [(.int (f4 ((p0 &&& (2147483647 : Int32)) % (20 : Int32))))]))
        refine own_go (fun t k => XS.iload X18.here hx rfl (hb hby at_74) rfl k) ?_
        show own_Gl _ _ _ _ (T18.setTop (mkF m 76 #[.val (.int p0), .val (.int p1), .val (.int ((p0 &&& (2147483647 : Int32)) % (20 : Int32))), .val (.int ((p1 &&& (2147483647 : Int32)) % (6 : Int32))), .val (.ref b16), .val (.int (f4 ((p0 &&& (2147483647 : Int32)) % (20 : Int32)))), .val (.int (2 : Int32))] [(.int (2 : Int32)), (.int (f4 ((p0 &&& (2147483647 : Int32)) % (20 : Int32))))]))
        by_cases hc76_25 : (f4 ((p0 &&& (2147483647 : Int32)) % (20 : Int32))) = (2 : Int32)
        · refine own_go (fun t k => XS.icmpNo X18.here hx rfl (hb hby at_76) rfl (teq hc76_25).2 k) ?_
          show own_Gl _ _ _ _ (T18.setTop (mkF m 79 #[.val (.int p0), .val (.int p1), .val (.int ((p0 &&& (2147483647 : Int32)) % (20 : Int32))), .val (.int ((p1 &&& (2147483647 : Int32)) % (6 : Int32))), .val (.ref b16), .val (.int (f4 ((p0 &&& (2147483647 : Int32)) % (20 : Int32)))), .val (.int (2 : Int32))] []))
          refine own_go (fun t k => XS.iconst X18.here hx rfl (hb hby at_79) k) ?_
          show own_Gl _ _ _ _ (T18.setTop (mkF m 80 #[.val (.int p0), .val (.int p1), .val (.int ((p0 &&& (2147483647 : Int32)) % (20 : Int32))), .val (.int ((p1 &&& (2147483647 : Int32)) % (6 : Int32))), .val (.ref b16), .val (.int (f4 ((p0 &&& (2147483647 : Int32)) % (20 : Int32)))), .val (.int (2 : Int32))] [(.int (1 : Int32))]))
          refine own_go (fun t k => XS.goto X18.here hx rfl (pc0 := 80) (pc' := 84) rfl (hb hby at_80) (by decide) (by decide) k) ?_
          show own_Gl _ _ _ _ (T18.setTop (mkF m 84 #[.val (.int p0), .val (.int p1), .val (.int ((p0 &&& (2147483647 : Int32)) % (20 : Int32))), .val (.int ((p1 &&& (2147483647 : Int32)) % (6 : Int32))), .val (.ref b16), .val (.int (f4 ((p0 &&& (2147483647 : Int32)) % (20 : Int32)))), .val (.int (2 : Int32))] [(.int (1 : Int32))]))
          obtain ⟨fs, hr, hrun, hended, hW, hsame⟩ := X18.leave (v := some (.int (1 : Int32))) (fun h => by rw [Bd.returns] at h; cases h)
          refine own_fin (retN X18 hx (t := .boolean) Bd.returns (by simp) (hb hby at_84) hr) hrun hended ⟨_, _, rfl, ?_, ⟨_, rfl⟩, hW, hsame.mono (by decide) (by decide)⟩
          show Q0 Z p0 p1 h0 n0 _ T18.heap _
          rw [hq18]
          exact ⟨N18, by rw [f0, if_pos hc36_20, if_neg hc54_21, if_neg hc60_23, if_pos hc76_25]⟩
        · refine own_go (fun t k => XS.icmpYes X18.here hx rfl (pc0 := 76) (pc' := 83) rfl (hb hby at_76) rfl (feq hc76_25).2 (by decide) (by decide) k) ?_
          show own_Gl _ _ _ _ (T18.setTop (mkF m 83 #[.val (.int p0), .val (.int p1), .val (.int ((p0 &&& (2147483647 : Int32)) % (20 : Int32))), .val (.int ((p1 &&& (2147483647 : Int32)) % (6 : Int32))), .val (.ref b16), .val (.int (f4 ((p0 &&& (2147483647 : Int32)) % (20 : Int32)))), .val (.int (2 : Int32))] []))
          refine own_go (fun t k => XS.iconst X18.here hx rfl (hb hby at_83) k) ?_
          show own_Gl _ _ _ _ (T18.setTop (mkF m 84 #[.val (.int p0), .val (.int p1), .val (.int ((p0 &&& (2147483647 : Int32)) % (20 : Int32))), .val (.int ((p1 &&& (2147483647 : Int32)) % (6 : Int32))), .val (.ref b16), .val (.int (f4 ((p0 &&& (2147483647 : Int32)) % (20 : Int32)))), .val (.int (2 : Int32))] [(.int (0 : Int32))]))
          obtain ⟨fs, hr, hrun, hended, hW, hsame⟩ := X18.leave (v := some (.int (0 : Int32))) (fun h => by rw [Bd.returns] at h; cases h)
          refine own_fin (retN X18 hx (t := .boolean) Bd.returns (by simp) (hb hby at_84) hr) hrun hended ⟨_, _, rfl, ?_, ⟨_, rfl⟩, hW, hsame.mono (by decide) (by decide)⟩
          show Q0 Z p0 p1 h0 n0 _ T18.heap _
          rw [hq18]
          exact ⟨N18, by rw [f0, if_pos hc36_20, if_neg hc54_21, if_neg hc60_23, if_neg hc76_25]⟩
  · refine own_go (fun t k => XS.icmpNo X18.here hx rfl (hb hby at_36) rfl (flt hc36_20).1 k) ?_
    show own_Gl _ _ _ _ (T18.setTop (mkF m 39 #[.val (.int p0), .val (.int p1), .val (.int ((p0 &&& (2147483647 : Int32)) % (20 : Int32))), .val (.int ((p1 &&& (2147483647 : Int32)) % (6 : Int32))), .val (.ref b16), .val (.int (f4 ((p0 &&& (2147483647 : Int32)) % (20 : Int32)))), .unset] []))
    refine own_go (fun t k => XS.iloadN X18.here hx rfl (hb hby at_39) rfl k) ?_
    show own_Gl _ _ _ _ (T18.setTop (mkF m 40 #[.val (.int p0), .val (.int p1), .val (.int ((p0 &&& (2147483647 : Int32)) % (20 : Int32))), .val (.int ((p1 &&& (2147483647 : Int32)) % (6 : Int32))), .val (.ref b16), .val (.int (f4 ((p0 &&& (2147483647 : Int32)) % (20 : Int32)))), .unset] [(.int ((p0 &&& (2147483647 : Int32)) % (20 : Int32)))]))
    refine own_go (fun t k => XS.bipush X18.here hx rfl (hb hby at_40) k) ?_
    show own_Gl _ _ _ _ (T18.setTop (mkF m 42 #[.val (.int p0), .val (.int p1), .val (.int ((p0 &&& (2147483647 : Int32)) % (20 : Int32))), .val (.int ((p1 &&& (2147483647 : Int32)) % (6 : Int32))), .val (.ref b16), .val (.int (f4 ((p0 &&& (2147483647 : Int32)) % (20 : Int32)))), .unset] [(.int (12 : Int32)), (.int ((p0 &&& (2147483647 : Int32)) % (20 : Int32)))]))
    by_cases hc42_26 : (12 : Int32) < ((p0 &&& (2147483647 : Int32)) % (20 : Int32))
    · refine own_go (fun t k => XS.icmpYes X18.here hx rfl (pc0 := 42) (pc' := 51) rfl (hb hby at_42) rfl (tlt hc42_26).2.2.1 (by decide) (by decide) k) ?_
      show own_Gl _ _ _ _ (T18.setTop (mkF m 51 #[.val (.int p0), .val (.int p1), .val (.int ((p0 &&& (2147483647 : Int32)) % (20 : Int32))), .val (.int ((p1 &&& (2147483647 : Int32)) % (6 : Int32))), .val (.ref b16), .val (.int (f4 ((p0 &&& (2147483647 : Int32)) % (20 : Int32)))), .unset] []))
      refine own_go (fun t k => XS.iloadN X18.here hx rfl (hb hby at_51) rfl k) ?_
      show own_Gl _ _ _ _ (T18.setTop (mkF m 52 #[.val (.int p0), .val (.int p1), .val (.int ((p0 &&& (2147483647 : Int32)) % (20 : Int32))), .val (.int ((p1 &&& (2147483647 : Int32)) % (6 : Int32))), .val (.ref b16), .val (.int (f4 ((p0 &&& (2147483647 : Int32)) % (20 : Int32)))), .unset] [(.int ((p0 &&& (2147483647 : Int32)) % (20 : Int32)))]))
      refine own_go (fun t k => XS.bipush X18.here hx rfl (hb hby at_52) k) ?_
      show own_Gl _ _ _ _ (T18.setTop (mkF m 54 #[.val (.int p0), .val (.int p1), .val (.int ((p0 &&& (2147483647 : Int32)) % (20 : Int32))), .val (.int ((p1 &&& (2147483647 : Int32)) % (6 : Int32))), .val (.ref b16), .val (.int (f4 ((p0 &&& (2147483647 : Int32)) % (20 : Int32)))), .unset] [(.int (13 : Int32)), (.int ((p0 &&& (2147483647 : Int32)) % (20 : Int32)))]))
      by_cases hc54_27 : ((p0 &&& (2147483647 : Int32)) % (20 : Int32)) < (13 : Int32)
      · refine own_go (fun t k => XS.icmpYes X18.here hx rfl (pc0 := 54) (pc' := 69) rfl (hb hby at_54) rfl (tlt hc54_27).1 (by decide) (by decide) k) ?_
        show own_Gl _ _ _ _ (T18.setTop (mkF m 69 #[.val (.int p0), .val (.int p1), .val (.int ((p0 &&& (2147483647 : Int32)) % (20 : Int32))), .val (.int ((p1 &&& (2147483647 : Int32)) % (6 : Int32))), .val (.ref b16), .val (.int (f4 ((p0 &&& (2147483647 : Int32)) % (20 : Int32)))), .unset] []))
        refine own_go (fun t k => XS.iconst X18.here hx rfl (hb hby at_69) k) ?_
        show own_Gl _ _ _ _ (T18.setTop (mkF m 70 #[.val (.int p0), .val (.int p1), .val (.int ((p0 &&& (2147483647 : Int32)) % (20 : Int32))), .val (.int ((p1 &&& (2147483647 : Int32)) % (6 : Int32))), .val (.ref b16), .val (.int (f4 ((p0 &&& (2147483647 : Int32)) % (20 : Int32)))), .unset] [(.int (5 : Int32))]))
        refine own_go (fun t k => XS.istore X18.here hx rfl (hb hby at_70) rfl (l' := #[.val (.int p0), .val (.int p1), .val (.int ((p0 &&& (2147483647 : Int32)) % (20 : Int32))), .val (.int ((p1 &&& (2147483647 : Int32)) % (6 : Int32))), .val (.ref b16), .val (.int (f4 ((p0 &&& (2147483647 : Int32)) % (20 : Int32)))), .val (.int (5 : Int32))]) rfl k) ?_
        show own_Gl _ _ _ _ (T18.setTop (mkF m 72 #[.val (.int p0), .val (.int p1), .val (.int ((p0 &&& (2147483647 : Int32)) % (20 : Int32))), .val (.int ((p1 &&& (2147483647 : Int32)) % (6 : Int32))), .val (.ref b16), .val (.int (f4 ((p0 &&& (2147483647 : Int32)) % (20 : Int32)))), .val (.int (5 : Int32))] []))
        refine own_go (fun t k => XS.iload X18.here hx rfl (hb hby at_72) rfl k) ?_
        show own_Gl _ _ _ _ (T18.setTop (mkF m 74 #[.val (.int p0), .val (.int p1), .val (.int ((p0 &&& (2147483647 : Int32)) % (20 : Int32))), .val (.int ((p1 &&& (2147483647 : Int32)) % (6 : Int32))), .val (.ref b16), .val (.int (f4 ((p0 &&& (2147483647 : Int32)) % (20 : Int32)))), .val (.int (5 : Int32))] [(.int (f4 ((p0 &&& (2147483647 : Int32)) % (20 : Int32))))]))
        refine own_go (fun t k => XS.iload X18.here hx rfl (hb hby at_74) rfl k) ?_
        show own_Gl _ _ _ _ (T18.setTop (mkF m 76 #[.val (.int p0), .val (.int p1), .val (.int ((p0 &&& (2147483647 : Int32)) % (20 : Int32))), .val (.int ((p1 &&& (2147483647 : Int32)) % (6 : Int32))), .val (.ref b16), .val (.int (f4 ((p0 &&& (2147483647 : Int32)) % (20 : Int32)))), .val (.int (5 : Int32))] [(.int (5 : Int32)), (.int (f4 ((p0 &&& (2147483647 : Int32)) % (20 : Int32))))]))
        by_cases hc76_28 : (f4 ((p0 &&& (2147483647 : Int32)) % (20 : Int32))) = (5 : Int32)
        · refine own_go (fun t k => XS.icmpNo X18.here hx rfl (hb hby at_76) rfl (teq hc76_28).2 k) ?_
          show own_Gl _ _ _ _ (T18.setTop (mkF m 79 #[.val (.int p0), .val (.int p1), .val (.int ((p0 &&& (2147483647 : Int32)) % (20 : Int32))), .val (.int ((p1 &&& (2147483647 : Int32)) % (6 : Int32))), .val (.ref b16), .val (.int (f4 ((p0 &&& (2147483647 : Int32)) % (20 : Int32)))), .val (.int (5 : Int32))] []))
          refine own_go (fun t k => XS.iconst X18.here hx rfl (hb hby at_79) k) ?_
          show own_Gl _ _ _ _ (T18.setTop (mkF m 80 #[.val (.int p0), .val (.int p1), .val (.int ((p0 &&& (2147483647 : Int32)) % (20 : Int32))), .val (.int ((p1 &&& (2147483647 : Int32)) % (6 : Int32))), .val (.ref b16), .val (.int (f4 ((p0 &&& (2147483647 : Int32)) % (20 : Int32)))), .val (.int (5 : Int32))] [(.int (1 : Int32))]))
          refine own_go (fun t k => XS.goto X18.here hx rfl (pc0 := 80) (pc' := 84) rfl (hb hby at_80) (by decide) (by decide) k) ?_
          show own_Gl _ _ _ _ (T18.setTop (mkF m 84 #[.val (.int p0), .val (.int p1), .val (.int ((p0 &&& (2147483647 : Int32)) % (20 : Int32))), .val (.int ((p1 &&& (2147483647 : Int32)) % (6 : Int32))), .val (.ref b16), .val (.int (f4 ((p0 &&& (2147483647 : Int32)) % (20 : Int32)))), .val (.int (5 : Int32))] [(.int (1 : Int32))]))
          obtain ⟨fs, hr, hrun, hended, hW, hsame⟩ := X18.leave (v := some (.int (1 : Int32))) (fun h => by rw [Bd.returns] at h; cases h)
          refine own_fin (retN X18 hx (t := .boolean) Bd.returns (by simp) (hb hby at_84) hr) hrun hended ⟨_, _, rfl, ?_, ⟨_, rfl⟩, hW, hsame.mono (by decide) (by decide)⟩
          show Q0 Z p0 p1 h0 n0 _ T18.heap _
          rw [hq18]
          exact ⟨N18, by rw [f0, if_neg hc36_20, if_pos hc42_26, if_pos hc54_27, if_pos hc76_28]⟩
        · refine own_go (fun t k => XS.icmpYes X18.here hx rfl (pc0 := 76) (pc' := 83) rfl (hb hby at_76) rfl (feq hc76_28).2 (by decide) (by decide) k) ?_
          show own_Gl _ _ _ _ (T18.setTop (mkF m 83 #[.val (.int p0), .val (.int p1), .val (.int ((p0 &&& (2147483647 : Int32)) % (20 : Int32))), .val (.int ((p1 &&& (2147483647 : Int32)) % (6 : Int32))), .val (.ref b16), .val (.int (f4 ((p0 &&& (2147483647 : Int32)) % (20 : Int32)))), .val (.int (5 : Int32))] []))
          refine own_go (fun t k => XS.iconst X18.here hx rfl (hb hby at_83) k) ?_
          show own_Gl _ _ _ _ (T18.setTop (mkF m 84 #[.val (.int p0), .val (.int p1), .val (.int ((p0 &&& (2147483647 : Int32)) % (20 : Int32))), .val (.int ((p1 &&& (2147483647 : Int32)) % (6 : Int32))), .val (.ref b16), .val (.int (f4 ((p0 &&& (2147483647 : Int32)) % (20 : Int32)))), .val (.int (5 : Int32))] [(.int (0 : Int32))]))
          obtain ⟨fs, hr, hrun, hended, hW, hsame⟩ := X18.leave (v := some (.int (0 : Int32))) (fun h => by rw [Bd.returns] at h; cases h)
          refine own_fin (retN X18 hx (t := .boolean) Bd.returns (by simp) (hb hby at_84) hr) hrun hended ⟨_, _, rfl, ?_, ⟨_, rfl⟩, hW, hsame.mono (by decide) (by decide)⟩
          show Q0 Z p0 p1 h0 n0 _ T18.heap _
          rw [hq18]
          exact ⟨N18, by rw [f0, if_neg hc36_20, if_pos hc42_26, if_pos hc54_27, if_neg hc76_28]⟩
      · refine own_go (fun t k => XS.icmpNo X18.here hx rfl (hb hby at_54) rfl (flt hc54_27).1 k) ?_
        show own_Gl _ _ _ _ (T18.setTop (mkF m 57 #[.val (.int p0), .val (.int p1), .val (.int ((p0 &&& (2147483647 : Int32)) % (20 : Int32))), .val (.int ((p1 &&& (2147483647 : Int32)) % (6 : Int32))), .val (.ref b16), .val (.int (f4 ((p0 &&& (2147483647 : Int32)) % (20 : Int32)))), .unset] []))
        refine own_go (fun t k => XS.iloadN X18.here hx rfl (hb hby at_57) rfl k) ?_
        show own_Gl _ _ _ _ (T18.setTop (mkF m 58 #[.val (.int p0), .val (.int p1), .val (.int ((p0 &&& (2147483647 : Int32)) % (20 : Int32))), .val (.int ((p1 &&& (2147483647 : Int32)) % (6 : Int32))), .val (.ref b16), .val (.int (f4 ((p0 &&& (2147483647 : Int32)) % (20 : Int32)))), .unset] [(.int ((p0 &&& (2147483647 : Int32)) % (20 : Int32)))]))
        refine own_go (fun t k => XS.bipush X18.here hx rfl (hb hby at_58) k) ?_
        show own_Gl _ _ _ _ (T18.setTop (mkF m 60 #[.val (.int p0), .val (.int p1), .val (.int ((p0 &&& (2147483647 : Int32)) % (20 : Int32))), .val (.int ((p1 &&& (2147483647 : Int32)) % (6 : Int32))), .val (.ref b16), .val (.int (f4 ((p0 &&& (2147483647 : Int32)) % (20 : Int32)))), .unset] [(.int (18 : Int32)), (.int ((p0 &&& (2147483647 : Int32)) % (20 : Int32)))]))
        by_cases hc60_29 : (18 : Int32) < ((p0 &&& (2147483647 : Int32)) % (20 : Int32))
        · refine own_go (fun t k => XS.icmpYes X18.here hx rfl (pc0 := 60) (pc' := 69) rfl (hb hby at_60) rfl (tlt hc60_29).2.2.1 (by decide) (by decide) k) ?_
          show own_Gl _ _ _ _ (T18.setTop (mkF m 69 #[.val (.int p0), .val (.int p1), .val (.int ((p0 &&& (2147483647 : Int32)) % (20 : Int32))), .val (.int ((p1 &&& (2147483647 : Int32)) % (6 : Int32))), .val (.ref b16), .val (.int (f4 ((p0 &&& (2147483647 : Int32)) % (20 : Int32)))), .unset] []))
          refine own_go (fun t k => XS.iconst X18.here hx rfl (hb hby at_69) k) ?_
          show own_Gl _ _ _ _ (T18.setTop (mkF m 70 #[.val (.int p0), .val (.int p1), .val (.int ((p0 &&& (2147483647 : Int32)) % (20 : Int32))), .val (.int ((p1 &&& (2147483647 : Int32)) % (6 : Int32))), .val (.ref b16), .val (.int (f4 ((p0 &&& (2147483647 : Int32)) % (20 : Int32)))), .unset] [(.int (5 : Int32))]))
          refine own_go (fun t k => XS.istore X18.here hx rfl (hb hby at_70) rfl (l' := #[.val (.int p0), .val (.int p1), .val (.int ((p0 &&& (2147483647 : Int32)) % (20 : Int32))), .val (.int ((p1 &&& (2147483647 : Int32)) % (6 : Int32))), .val (.ref b16), .val (.int (f4 ((p0 &&& (2147483647 : Int32)) % (20 : Int32)))), .val (.int (5 : Int32))]) rfl k) ?_
          show own_Gl _ _ _ _ (T18.setTop (mkF m 72 #[.val (.int p0), .val (.int p1), .val (.int ((p0 &&& (2147483647 : Int32)) % (20 : Int32))), .val (.int ((p1 &&& (2147483647 : Int32)) % (6 : Int32))), .val (.ref b16), .val (.int (f4 ((p0 &&& (2147483647 : Int32)) % (20 : Int32)))), .val (.int (5 : Int32))] []))
          refine own_go (fun t k => XS.iload X18.here hx rfl (hb hby at_72) rfl k) ?_
          show own_Gl _ _ _ _ (T18.setTop (mkF m 74 #[.val (.int p0), .val (.int p1), .val (.int ((p0 &&& (2147483647 : Int32)) % (20 : Int32))), .val (.int ((p1 &&& (2147483647 : Int32)) % (6 : Int32))), .val (.ref b16), .val (.int (f4 ((p0 &&& (2147483647 : Int32)) % (20 : Int32)))), .val (.int (5 : Int32))] [(.int (f4 ((p0 &&& (2147483647 : Int32)) % (20 : Int32))))]))
          refine own_go (fun t k => XS.iload X18.here hx rfl (hb hby at_74) rfl k) ?_
          show own_Gl _ _ _ _ (T18.setTop (mkF m 76 #[.val (.int p0), .val (.int p1), .val (.int ((p0 &&& (2147483647 : Int32)) % (20 : Int32))), .val (.int ((p1 &&& (2147483647 : Int32)) % (6 : Int32))), .val (.ref b16), .val (.int (f4 ((p0 &&& (2147483647 : Int32)) % (20 : Int32)))), .val (.int (5 : Int32))] [(.int (5 : Int32)), (.int (f4 ((p0 &&& (2147483647 : Int32)) % (20 : Int32))))]))
          by_cases hc76_30 : (f4 ((p0 &&& (2147483647 : Int32)) % (20 : Int32))) = (5 : Int32)
          · refine own_go (fun t k => XS.icmpNo X18.here hx rfl (hb hby at_76) rfl (teq hc76_30).2 k) ?_
            show own_Gl _ _ _ _ (T18.setTop (mkF m 79 #[.val (.int p0), .val (.int p1), .val (.int ((p0 &&& (2147483647 : Int32)) % (20 : Int32))), .val (.int ((p1 &&& (2147483647 : Int32)) % (6 : Int32))), .val (.ref b16), .val (.int (f4 ((p0 &&& (2147483647 : Int32)) % (20 : Int32)))), .val (.int (5 : Int32))] []))
            refine own_go (fun t k => XS.iconst X18.here hx rfl (hb hby at_79) k) ?_
            show own_Gl _ _ _ _ (T18.setTop (mkF m 80 #[.val (.int p0), .val (.int p1), .val (.int ((p0 &&& (2147483647 : Int32)) % (20 : Int32))), .val (.int ((p1 &&& (2147483647 : Int32)) % (6 : Int32))), .val (.ref b16), .val (.int (f4 ((p0 &&& (2147483647 : Int32)) % (20 : Int32)))), .val (.int (5 : Int32))] [(.int (1 : Int32))]))
            refine own_go (fun t k => XS.goto X18.here hx rfl (pc0 := 80) (pc' := 84) rfl (hb hby at_80) (by decide) (by decide) k) ?_
            show own_Gl _ _ _ _ (T18.setTop (mkF m 84 #[.val (.int p0), .val (.int p1), .val (.int ((p0 &&& (2147483647 : Int32)) % (20 : Int32))), .val (.int ((p1 &&& (2147483647 : Int32)) % (6 : Int32))), .val (.ref b16), .val (.int (f4 ((p0 &&& (2147483647 : Int32)) % (20 : Int32)))), .val (.int (5 : Int32))] [(.int (1 : Int32))]))
            obtain ⟨fs, hr, hrun, hended, hW, hsame⟩ := X18.leave (v := some (.int (1 : Int32))) (fun h => by rw [Bd.returns] at h; cases h)
            refine own_fin (retN X18 hx (t := .boolean) Bd.returns (by simp) (hb hby at_84) hr) hrun hended ⟨_, _, rfl, ?_, ⟨_, rfl⟩, hW, hsame.mono (by decide) (by decide)⟩
            show Q0 Z p0 p1 h0 n0 _ T18.heap _
            rw [hq18]
            exact ⟨N18, by rw [f0, if_neg hc36_20, if_pos hc42_26, if_neg hc54_27, if_pos hc60_29, if_pos hc76_30]⟩
          · refine own_go (fun t k => XS.icmpYes X18.here hx rfl (pc0 := 76) (pc' := 83) rfl (hb hby at_76) rfl (feq hc76_30).2 (by decide) (by decide) k) ?_
            show own_Gl _ _ _ _ (T18.setTop (mkF m 83 #[.val (.int p0), .val (.int p1), .val (.int ((p0 &&& (2147483647 : Int32)) % (20 : Int32))), .val (.int ((p1 &&& (2147483647 : Int32)) % (6 : Int32))), .val (.ref b16), .val (.int (f4 ((p0 &&& (2147483647 : Int32)) % (20 : Int32)))), .val (.int (5 : Int32))] []))
            refine own_go (fun t k => XS.iconst X18.here hx rfl (hb hby at_83) k) ?_
            show own_Gl _ _ _ _ (T18.setTop (mkF m 84 #[.val (.int p0), .val (.int p1), .val (.int ((p0 &&& (2147483647 : Int32)) % (20 : Int32))), .val (.int ((p1 &&& (2147483647 : Int32)) % (6 : Int32))), .val (.ref b16), .val (.int (f4 ((p0 &&& (2147483647 : Int32)) % (20 : Int32)))), .val (.int (5 : Int32))] [(.int (0 : Int32))]))
            obtain ⟨fs, hr, hrun, hended, hW, hsame⟩ := X18.leave (v := some (.int (0 : Int32))) (fun h => by rw [Bd.returns] at h; cases h)
            refine own_fin (retN X18 hx (t := .boolean) Bd.returns (by simp) (hb hby at_84) hr) hrun hended ⟨_, _, rfl, ?_, ⟨_, rfl⟩, hW, hsame.mono (by decide) (by decide)⟩
            show Q0 Z p0 p1 h0 n0 _ T18.heap _
            rw [hq18]
            exact ⟨N18, by rw [f0, if_neg hc36_20, if_pos hc42_26, if_neg hc54_27, if_pos hc60_29, if_neg hc76_30]⟩
        · refine own_go (fun t k => XS.icmpNo X18.here hx rfl (hb hby at_60) rfl (flt hc60_29).2.2.1 k) ?_
          show own_Gl _ _ _ _ (T18.setTop (mkF m 63 #[.val (.int p0), .val (.int p1), .val (.int ((p0 &&& (2147483647 : Int32)) % (20 : Int32))), .val (.int ((p1 &&& (2147483647 : Int32)) % (6 : Int32))), .val (.ref b16), .val (.int (f4 ((p0 &&& (2147483647 : Int32)) % (20 : Int32)))), .unset] []))
          refine own_go (fun t k => XS.iconst X18.here hx rfl (hb hby at_63) k) ?_
          show own_Gl _ _ _ _ (T18.setTop (mkF m 64 #[.val (.int p0), .val (.int p1), .val (.int ((p0 &&& (2147483647 : Int32)) % (20 : Int32))), .val (.int ((p1 &&& (2147483647 : Int32)) % (6 : Int32))), .val (.ref b16), .val (.int (f4 ((p0 &&& (2147483647 : Int32)) % (20 : Int32)))), .unset] [(.int (2 : Int32))]))
          refine own_go (fun t k => XS.istore X18.here hx rfl (hb hby at_64) rfl (l' := #[.val (.int p0), .val (.int p1), .val (.int ((p0 &&& (2147483647 : Int32)) % (20 : Int32))), .val (.int ((p1 &&& (2147483647 : Int32)) % (6 : Int32))), .val (.ref b16), .val (.int (f4 ((p0 &&& (2147483647 : Int32)) % (20 : Int32)))), .val (.int (2 : Int32))]) rfl k) ?_
          show own_Gl _ _ _ _ (T18.setTop (mkF m 66 #[.val (.int p0), .val (.int p1), .val (.int ((p0 &&& (2147483647 : Int32)) % (20 : Int32))), .val (.int ((p1 &&& (2147483647 : Int32)) % (6 : Int32))), .val (.ref b16), .val (.int (f4 ((p0 &&& (2147483647 : Int32)) % (20 : Int32)))), .val (.int (2 : Int32))] []))
          refine own_go (fun t k => XS.goto X18.here hx rfl (pc0 := 66) (pc' := 72) rfl (hb hby at_66) (by decide) (by decide) k) ?_
          show own_Gl _ _ _ _ (T18.setTop (mkF m 72 #[.val (.int p0), .val (.int p1), .val (.int ((p0 &&& (2147483647 : Int32)) % (20 : Int32))), .val (.int ((p1 &&& (2147483647 : Int32)) % (6 : Int32))), .val (.ref b16), .val (.int (f4 ((p0 &&& (2147483647 : Int32)) % (20 : Int32)))), .val (.int (2 : Int32))] []))
          refine own_go (fun t k => XS.iload X18.here hx rfl (hb hby at_72) rfl k) ?_
          show own_Gl _ _ _ _ (T18.setTop (mkF m 74 #[.val (.int p0), .val (.int p1), .val (.int ((p0 &&& (2147483647 : Int32)) % (20 : Int32))), .val (.int ((p1 &&& (2147483647 : Int32)) % (6 : Int32))), .val (.ref b16), .val (.int (f4 ((p0 &&& (2147483647 : Int32)) % (20 : Int32)))), .val (.int (2 : Int32))] [(.int (f4 ((p0 &&& (2147483647 : Int32)) % (20 : Int32))))]))
          refine own_go (fun t k => XS.iload X18.here hx rfl (hb hby at_74) rfl k) ?_
          show own_Gl _ _ _ _ (T18.setTop (mkF m 76 #[.val (.int p0), .val (.int p1), .val (.int ((p0 &&& (2147483647 : Int32)) % (20 : Int32))), .val (.int ((p1 &&& (2147483647 : Int32)) % (6 : Int32))), .val (.ref b16), .val (.int (f4 ((p0 &&& (2147483647 : Int32)) % (20 : Int32)))), .val (.int (2 : Int32))] [(.int (2 : Int32)), (.int (f4 ((p0 &&& (2147483647 : Int32)) % (20 : Int32))))]))
          by_cases hc76_31 : (f4 ((p0 &&& (2147483647 : Int32)) % (20 : Int32))) = (2 : Int32)
          · refine own_go (fun t k => XS.icmpNo X18.here hx rfl (hb hby at_76) rfl (teq hc76_31).2 k) ?_
            show own_Gl _ _ _ _ (T18.setTop (mkF m 79 #[.val (.int p0), .val (.int p1), .val (.int ((p0 &&& (2147483647 : Int32)) % (20 : Int32))), .val (.int ((p1 &&& (2147483647 : Int32)) % (6 : Int32))), .val (.ref b16), .val (.int (f4 ((p0 &&& (2147483647 : Int32)) % (20 : Int32)))), .val (.int (2 : Int32))] []))
            refine own_go (fun t k => XS.iconst X18.here hx rfl (hb hby at_79) k) ?_
            show own_Gl _ _ _ _ (T18.setTop (mkF m 80 #[.val (.int p0), .val (.int p1), .val (.int ((p0 &&& (2147483647 : Int32)) % (20 : Int32))), .val (.int ((p1 &&& (2147483647 : Int32)) % (6 : Int32))), .val (.ref b16), .val (.int (f4 ((p0 &&& (2147483647 : Int32)) % (20 : Int32)))), .val (.int (2 : Int32))] [(.int (1 : Int32))]))
            refine own_go (fun t k => XS.goto X18.here hx rfl (pc0 := 80) (pc' := 84) rfl (hb hby at_80) (by decide) (by decide) k) ?_
            show own_Gl _ _ _ _ (T18.setTop (mkF m 84 #[.val (.int p0), .val (.int p1), .val (.int ((p0 &&& (2147483647 : Int32)) % (20 : Int32))), .val (.int ((p1 &&& (2147483647 : Int32)) % (6 : Int32))), .val (.ref b16), .val (.int (f4 ((p0 &&& (2147483647 : Int32)) % (20 : Int32)))), .val (.int (2 : Int32))] [(.int (1 : Int32))]))
            obtain ⟨fs, hr, hrun, hended, hW, hsame⟩ := X18.leave (v := some (.int (1 : Int32))) (fun h => by rw [Bd.returns] at h; cases h)
            refine own_fin (retN X18 hx (t := .boolean) Bd.returns (by simp) (hb hby at_84) hr) hrun hended ⟨_, _, rfl, ?_, ⟨_, rfl⟩, hW, hsame.mono (by decide) (by decide)⟩
            show Q0 Z p0 p1 h0 n0 _ T18.heap _
            rw [hq18]
            exact ⟨N18, by rw [f0, if_neg hc36_20, if_pos hc42_26, if_neg hc54_27, if_neg hc60_29, if_pos hc76_31]⟩
          · refine own_go (fun t k => XS.icmpYes X18.here hx rfl (pc0 := 76) (pc' := 83) rfl (hb hby at_76) rfl (feq hc76_31).2 (by decide) (by decide) k) ?_
            show own_Gl _ _ _ _ (T18.setTop (mkF m 83 #[.val (.int p0), .val (.int p1), .val (.int ((p0 &&& (2147483647 : Int32)) % (20 : Int32))), .val (.int ((p1 &&& (2147483647 : Int32)) % (6 : Int32))), .val (.ref b16), .val (.int (f4 ((p0 &&& (2147483647 : Int32)) % (20 : Int32)))), .val (.int (2 : Int32))] []))
            refine own_go (fun t k => XS.iconst X18.here hx rfl (hb hby at_83) k) ?_
            show own_Gl _ _ _ _ (T18.setTop (mkF m 84 #[.val (.int p0), .val (.int p1), .val (.int ((p0 &&& (2147483647 : Int32)) % (20 : Int32))), .val (.int ((p1 &&& (2147483647 : Int32)) % (6 : Int32))), .val (.ref b16), .val (.int (f4 ((p0 &&& (2147483647 : Int32)) % (20 : Int32)))), .val (.int (2 : Int32))] [(.int (0 : Int32))]))
            obtain ⟨fs, hr, hrun, hended, hW, hsame⟩ := X18.leave (v := some (.int (0 : Int32))) (fun h => by rw [Bd.returns] at h; cases h)
            refine own_fin (retN X18 hx (t := .boolean) Bd.returns (by simp) (hb hby at_84) hr) hrun hended ⟨_, _, rfl, ?_, ⟨_, rfl⟩, hW, hsame.mono (by decide) (by decide)⟩
            show Q0 Z p0 p1 h0 n0 _ T18.heap _
            rw [hq18]
            exact ⟨N18, by rw [f0, if_neg hc36_20, if_pos hc42_26, if_neg hc54_27, if_neg hc60_29, if_neg hc76_31]⟩
    · refine own_go (fun t k => XS.icmpNo X18.here hx rfl (hb hby at_42) rfl (flt hc42_26).2.2.1 k) ?_
      show own_Gl _ _ _ _ (T18.setTop (mkF m 45 #[.val (.int p0), .val (.int p1), .val (.int ((p0 &&& (2147483647 : Int32)) % (20 : Int32))), .val (.int ((p1 &&& (2147483647 : Int32)) % (6 : Int32))), .val (.ref b16), .val (.int (f4 ((p0 &&& (2147483647 : Int32)) % (20 : Int32)))), .unset] []))
      refine own_go (fun t k => XS.iconst X18.here hx rfl (hb hby at_45) k) ?_
      show own_Gl _ _ _ _ (T18.setTop (mkF m 46 #[.val (.int p0), .val (.int p1), .val (.int ((p0 &&& (2147483647 : Int32)) % (20 : Int32))), .val (.int ((p1 &&& (2147483647 : Int32)) % (6 : Int32))), .val (.ref b16), .val (.int (f4 ((p0 &&& (2147483647 : Int32)) % (20 : Int32)))), .unset] [(.int (0 : Int32))]))
      refine own_go (fun t k => XS.istore X18.here hx rfl (hb hby at_46) rfl (l' := #[.val (.int p0), .val (.int p1), .val (.int ((p0 &&& (2147483647 : Int32)) % (20 : Int32))), .val (.int ((p1 &&& (2147483647 : Int32)) % (6 : Int32))), .val (.ref b16), .val (.int (f4 ((p0 &&& (2147483647 : Int32)) % (20 : Int32)))), .val (.int (0 : Int32))]) rfl k) ?_
      show own_Gl _ _ _ _ (T18.setTop (mkF m 48 #[.val (.int p0), .val (.int p1), .val (.int ((p0 &&& (2147483647 : Int32)) % (20 : Int32))), .val (.int ((p1 &&& (2147483647 : Int32)) % (6 : Int32))), .val (.ref b16), .val (.int (f4 ((p0 &&& (2147483647 : Int32)) % (20 : Int32)))), .val (.int (0 : Int32))] []))
      refine own_go (fun t k => XS.goto X18.here hx rfl (pc0 := 48) (pc' := 72) rfl (hb hby at_48) (by decide) (by decide) k) ?_
      show own_Gl _ _ _ _ (T18.setTop (mkF m 72 #[.val (.int p0), .val (.int p1), .val (.int ((p0 &&& (2147483647 : Int32)) % (20 : Int32))), .val (.int ((p1 &&& (2147483647 : Int32)) % (6 : Int32))), .val (.ref b16), .val (.int (f4 ((p0 &&& (2147483647 : Int32)) % (20 : Int32)))), .val (.int (0 : Int32))] []))
      refine own_go (fun t k => XS.iload X18.here hx rfl (hb hby at_72) rfl k) ?_
      show own_Gl _ _ _ _ (T18.setTop (mkF m 74 #[.val (.int p0), .val (.int p1), .val (.int ((p0 &&& (2147483647 : Int32)) % (20 : Int32))), .val (.int ((p1 &&& (2147483647 : Int32)) % (6 : Int32))), .val (.ref b16), .val (.int (f4 ((p0 &&& (2147483647 : Int32)) % (20 : Int32)))), .val (.int (0 : Int32))] [(.int (f4 ((p0 &&& (2147483647 : Int32)) % (20 : Int32))))]))
      refine own_go (fun t k => XS.iload X18.here hx rfl (hb hby at_74) rfl k) ?_
      show own_Gl _ _ _ _ (T18.setTop (mkF m 76 #[.val (.int p0), .val (.int p1), .val (.int ((p0 &&& (2147483647 : Int32)) % (20 : Int32))), .val (.int ((p1 &&& (2147483647 : Int32)) % (6 : Int32))), .val (.ref b16), .val (.int (f4 ((p0 &&& (2147483647 : Int32)) % (20 : Int32)))), .val (.int (0 : Int32))] [(.int (0 : Int32)), (.int (f4 ((p0 &&& (2147483647 : Int32)) % (20 : Int32))))]))
      by_cases hc76_32 : (f4 ((p0 &&& (2147483647 : Int32)) % (20 : Int32))) = (0 : Int32)
      · refine own_go (fun t k => XS.icmpNo X18.here hx rfl (hb hby at_76) rfl (teq hc76_32).2 k) ?_
        show own_Gl _ _ _ _ (T18.setTop (mkF m 79 #[.val (.int p0), .val (.int p1), .val (.int ((p0 &&& (2147483647 : Int32)) % (20 : Int32))), .val (.int ((p1 &&& (2147483647 : Int32)) % (6 : Int32))), .val (.ref b16), .val (.int (f4 ((p0 &&& (2147483647 : Int32)) % (20 : Int32)))), .val (.int (0 : Int32))] []))
        refine own_go (fun t k => XS.iconst X18.here hx rfl (hb hby at_79) k) ?_
        show own_Gl _ _ _ _ (T18.setTop (mkF m 80 #[.val (.int p0), .val (.int p1), .val (.int ((p0 &&& (2147483647 : Int32)) % (20 : Int32))), .val (.int ((p1 &&& (2147483647 : Int32)) % (6 : Int32))), .val (.ref b16), .val (.int (f4 ((p0 &&& (2147483647 : Int32)) % (20 : Int32)))), .val (.int (0 : Int32))] [(.int (1 : Int32))]))
        refine own_go (fun t k => XS.goto X18.here hx rfl (pc0 := 80) (pc' := 84) rfl (hb hby at_80) (by decide) (by decide) k) ?_
        show own_Gl _ _ _ _ (T18.setTop (mkF m 84 #[.val (.int p0), .val (.int p1), .val (.int ((p0 &&& (2147483647 : Int32)) % (20 : Int32))), .val (.int ((p1 &&& (2147483647 : Int32)) % (6 : Int32))), .val (.ref b16), .val (.int (f4 ((p0 &&& (2147483647 : Int32)) % (20 : Int32)))), .val (.int (0 : Int32))] [(.int (1 : Int32))]))
        obtain ⟨fs, hr, hrun, hended, hW, hsame⟩ := X18.leave (v := some (.int (1 : Int32))) (fun h => by rw [Bd.returns] at h; cases h)
        refine own_fin (retN X18 hx (t := .boolean) Bd.returns (by simp) (hb hby at_84) hr) hrun hended ⟨_, _, rfl, ?_, ⟨_, rfl⟩, hW, hsame.mono (by decide) (by decide)⟩
        show Q0 Z p0 p1 h0 n0 _ T18.heap _
        rw [hq18]
        exact ⟨N18, by rw [f0, if_neg hc36_20, if_neg hc42_26, if_pos hc76_32]⟩
      · refine own_go (fun t k => XS.icmpYes X18.here hx rfl (pc0 := 76) (pc' := 83) rfl (hb hby at_76) rfl (feq hc76_32).2 (by decide) (by decide) k) ?_
        show own_Gl _ _ _ _ (T18.setTop (mkF m 83 #[.val (.int p0), .val (.int p1), .val (.int ((p0 &&& (2147483647 : Int32)) % (20 : Int32))), .val (.int ((p1 &&& (2147483647 : Int32)) % (6 : Int32))), .val (.ref b16), .val (.int (f4 ((p0 &&& (2147483647 : Int32)) % (20 : Int32)))), .val (.int (0 : Int32))] []))
        refine own_go (fun t k => XS.iconst X18.here hx rfl (hb hby at_83) k) ?_
        show own_Gl _ _ _ _ (T18.setTop (mkF m 84 #[.val (.int p0), .val (.int p1), .val (.int ((p0 &&& (2147483647 : Int32)) % (20 : Int32))), .val (.int ((p1 &&& (2147483647 : Int32)) % (6 : Int32))), .val (.ref b16), .val (.int (f4 ((p0 &&& (2147483647 : Int32)) % (20 : Int32)))), .val (.int (0 : Int32))] [(.int (0 : Int32))]))
        obtain ⟨fs, hr, hrun, hended, hW, hsame⟩ := X18.leave (v := some (.int (0 : Int32))) (fun h => by rw [Bd.returns] at h; cases h)
        refine own_fin (retN X18 hx (t := .boolean) Bd.returns (by simp) (hb hby at_84) hr) hrun hended ⟨_, _, rfl, ?_, ⟨_, rfl⟩, hW, hsame.mono (by decide) (by decide)⟩
        show Q0 Z p0 p1 h0 n0 _ T18.heap _
        rw [hq18]
        exact ⟨N18, by rw [f0, if_neg hc36_20, if_neg hc42_26, if_neg hc76_32]⟩
theorem own_law (p0 p1 : Int32) : f0 p0 p1 = 1 := by
  have h0 := own_r0 p0
  have h1 := own_r1 p0
  unfold f0
  generalize (p0 &&& (2147483647 : Int32)) % (20 : Int32) = c at *
  have z1 : (1 : Int32).toInt = 1 := rfl
  have z2 : (12 : Int32).toInt = 12 := rfl
  have z3 : (13 : Int32).toInt = 13 := rfl
  have z4 : (18 : Int32).toInt = 18 := rfl
  have z5 : (19 : Int32).toInt = 19 := rfl
  have z6 : (0 : Int32).toInt = 0 := rfl
  simp only [f4, Int32.lt_iff_toInt_lt, ← Int32.toInt_inj] at *
  repeat' split
  all_goals first | rfl | (exfalso; simp_all; done) | (exfalso; simp only [z1, z2, z3, z4, z5, z6] at *; omega)
set_option maxRecDepth 65536 in
set_option maxHeartbeats 40000000 in
theorem comes_1 {Post : Tables → Env → Array Value → State → Outcome → State → Prop} (hpost : ∀ tb e args s v u, (limb_1_1.after args s (.returned v) u = true ∧ limb_1_2.after args s (.returned v) u = true ∧ True) → FrameEnd s (.returned v) u (Jvm.fieldLocs frame_1_writes args s ++ Jvm.arrayLocs frame_1_arrays args s ++ Jvm.staticLocs frame_1_statics s) 16 128 → Post tb e args s (.returned v) u) :
    ArmFor flags0 classFile x code maxLocals ret World_1 tables_1 room_1 Calls_1 rest_1 Pre_1 Post := by
  intro l hfl _ _ p e ha hc hk s m args below hf hA hF happ hP
  obtain ⟨hcalls, hrest, hpre⟩ := hP
  obtain ⟨-, -, -, hnamed, -, -, -, hat⟩ := (Spec.applies_iff hf).mp happ
  obtain ⟨hg, hn⟩ := and_e (Cond.before_iff.mp (show (Jvm.Cond.and given_1 narrow_1).before args s = true from hpre))
  obtain ⟨g1, g2⟩ := and_e hg
  obtain ⟨g3, g4⟩ := and_e g2
  obtain ⟨w0, w1, rfl⟩ : ∃ w0 w1 : Value, args = #[w0, w1] := by
    have hs : args.size = 2 := by simpa [Cond.value, given_1] using g1
    obtain ⟨L⟩ := args
    match L, hs with
    | [w0, w1], _ => exact ⟨w0, w1, rfl⟩
  have hw := fun d (hd : d ∈ tables_1) => atoms_spec (ws := Jvm.Cond.code x code maxLocals ret :: tables_1) hat d (List.mem_cons_of_mem _ hd)
  have hfit : Fit s := fun {y c} hc i hi => by
    obtain ⟨ha, rfl⟩ := Array.getElem?_eq_some_iff.mp hc
    have q := List.all_eq_true.mp ((Array.all_eq_true_iff_forall_mem.mp hF) _ (Array.getElem_mem ha)) i (List.mem_range.mpr hi)
    simpa [Array.getElem?_eq_getElem hi] using q
  obtain ⟨i0, ei0⟩ := is_v g3
  obtain rfl : w0 = (.int i0) := Option.some.inj ei0
  obtain ⟨i1, ei1⟩ := is_v g4
  obtain rfl : w1 = (.int i1) := Option.some.inj ei1
  obtain ⟨n, o, h1, h2, h3, _, L, rfl, ⟨N, hv⟩, hq⟩ := rm0 l s _ hw tables_1 i0 i1 s.heap s.heap.size (Nat.le_refl _)  p e ha hc hk s m _ below hf ((Spec.applies_iff_loose hf).mp happ).1 ⟨rfl, State.Warmed39.refl s, rfl⟩ trivial
  rw [own_law] at hv
  subst hv
  refine ⟨n, _, h1, h2, h3, hpost _ _ _ _ _ _ ⟨Cond.after_iff.mpr rfl, Cond.after_iff.mpr (eq_i res_at (Term.int_eval (1)) rfl), trivial⟩ ⟨hq.1, hq.2.1, (hq.2.2.sift fun y hy => Or.inr (N y hy)).mono (by decide) (by decide)⟩⟩
theorem main_1_1 : Claimed_1_1 := comes_1 fun _ _ _ _ _ _ h hF => ⟨h.1, hF⟩
theorem main_1_2 : Claimed_1_2 := comes_1 fun _ _ _ _ _ _ h hF => ⟨h.2.1, hF⟩
end Jvm.Pilot.@@N@@
namespace Jvm.Pilot.@@N@@
open Jvm Jvm.ClassFile Sem Op Lib Jvm.Free Jvm.Stand Jvm.Pilot.@@N@@.Jvm.D
/-! MADE BY PROGRAM (witnessworld.py) out of the Statement's table words and the real class files: 10 classes; the members and pool entries that the words name. The judged class is class 1, her method 1. -/
namespace start1
open Jvm.ClassFile
def u (s : String) : CpInfo := .utf8 (stringToUtf16 s)
/-- a pool by its gaps: so many unusable entries, then the entry; so many at the end -/
def gap : Nat → List CpInfo → List CpInfo
  | 0, r => r
  | n + 1, r => .unusable :: gap n r
def poolList (es : List (Nat × CpInfo)) (last : Nat) : List CpInfo := es.foldr (fun e r => gap e.1 (e.2 :: r)) (gap last [])
def pool (es : List (Nat × CpInfo)) (last : Nat) : Array CpInfo := ⟨poolList es last⟩
def fileOf (pool : Array CpInfo) (this : Nat) (attrs : Array Attribute := #[]) (ms : Array MethodInfo := #[]) (fl : Nat := 33) (sup : Nat := 0) (ifs : Array Nat := #[]) (fds : Array FieldInfo := #[]) : ClassFile where
  minorVersion := 0
  majorVersion := 65
  constantPool := pool
  accessFlags := fl
  thisClass := this
  superClass := sup
  interfaces := ifs
  fields := fds
  methods := ms
  attributes := attrs
def plain (name : String) (sup : Option ClassId) : Class where
  name := name
  kind := .ordinary
  loader := none
  accessFlags := 33
  super := sup
  interfaces := #[]
  cf := none
  fields := #[]
  methods := #[]
  instanceTypes := #[]
  staticTypes := #[]
  resolved := #[]
  callSites := []
  init := .initialized
  statics := none
  mirror := none

def pool0 : Array CpInfo := pool [(5, u "<init>"), (0, u "()V"), (1, .class_ 10), (1, u "java/lang/Object")] 113

def k0c0 : Code := { maxStack := 0, maxLocals := 1, code := object_method_1_code, exceptionTable := #[], attributes := #[] }
def k0m0 : Method := { name := "<init>", desc := "()V", sig := { parameters := [], returnType := none }, accessFlags := 1, code := some k0c0 }
/-- java/lang/Object -/
def k0 : Class := { plain "java/lang/Object" none with
  accessFlags := 33
  interfaces := #[]
  cf := some (fileOf pool0 8 #[] #[{ accessFlags := 1, nameIndex := 5, descriptorIndex := 6, attributes := #[] }] 33 0 #[] #[])
  fields := #[]
  methods := #[k0m0]
  instanceTypes := #[]
  staticTypes := #[]
  resolved := Array.replicate 124 none
  statics := none }

def pool1 : Array CpInfo := pool [(2, .class_ 4), (1, u "java/lang/Object"), (0, u "<init>"), (0, u "()V"), (0, .integer 2147483647), (0, .class_ 9), (0, u "com/example/sixfold/sixfold/runs/Card"), (0, .methodref 8 11), (0, .nameAndType 5 12), (0, u "(II)V"), (0, .methodref 8 14), (0, .nameAndType 15 16), (0, u "handCost"), (0, u "()I"), (0, .class_ 18), (0, u "com/example/sixfold/sixfold/runs/CardHandCostPinLaw"), (2, u "law"), (0, u "(II)Z")] 3

def k1m0 : Method := { name := "<init>", desc := "()V", sig := { parameters := [], returnType := none }, accessFlags := 1, code := none }
def k1c1 : Code := { maxStack := 4, maxLocals := 7, code := code, exceptionTable := #[], attributes := #[] }
def k1m1 : Method := { name := "law", desc := "(II)Z", sig := { parameters := [.int, .int], returnType := some .boolean }, accessFlags := 9, code := some k1c1 }
/-- com/example/sixfold/sixfold/runs/CardHandCostPinLaw -/
def k1 : Class := { plain "com/example/sixfold/sixfold/runs/CardHandCostPinLaw" (some 0) with
  accessFlags := 49
  interfaces := #[]
  cf := some (fileOf pool1 17 #[] #[{ accessFlags := 1, nameIndex := 5, descriptorIndex := 6, attributes := #[] }, { accessFlags := 9, nameIndex := 21, descriptorIndex := 22, attributes := #[] }] 49 2 #[] #[])
  fields := #[]
  methods := #[k1m0, k1m1]
  instanceTypes := #[]
  staticTypes := #[]
  resolved := Array.replicate 26 none
  statics := none }

def pool2 : Array CpInfo := pool [(1, .methodref 2 3), (0, .class_ 4), (0, .nameAndType 5 6), (0, u "java/lang/Object"), (0, u "<init>"), (0, u "()V"), (0, .class_ 8), (0, u "java/lang/Record")] 13

def k2c0 : Code := { maxStack := 1, maxLocals := 1, code := jdk_30_method_1_code, exceptionTable := #[], attributes := #[] }
def k2m0 : Method := { name := "<init>", desc := "()V", sig := { parameters := [], returnType := none }, accessFlags := 4, code := some k2c0 }
/-- java/lang/Record -/
def k2 : Class := { plain "java/lang/Record" (some 0) with
  accessFlags := 1057
  interfaces := #[]
  cf := some (fileOf pool2 7 #[] #[{ accessFlags := 4, nameIndex := 5, descriptorIndex := 6, attributes := #[] }] 1057 2 #[] #[])
  fields := #[]
  methods := #[k2m0]
  instanceTypes := #[]
  staticTypes := #[]
  resolved := Array.replicate 22 none
  statics := none }

def pool3 : Array CpInfo := pool [(1, .class_ 2), (0, u "com/example/sixfold/sixfold/runs/Card"), (0, .methodref 4 5), (0, .class_ 6), (0, .nameAndType 7 8), (0, u "java/lang/Record"), (0, u "<init>"), (0, u "()V"), (9, .fieldref 1 19), (0, .nameAndType 20 21), (0, u "rank"), (0, u "I"), (0, .fieldref 1 23), (0, .nameAndType 24 21), (0, u "suit"), (2, u "RANK_WORDS"), (0, u "Ljava/util/List;"), (11, u "()I"), (32, u "(II)V"), (60, u "J"), (9, u "K"), (5, u "JOKER"), (4, u "ACE"), (1, u "RANKS"), (1, u "SUITS"), (1, u "DECK"), (1, u "NONE"), (1, u "SUIT_LETTERS"), (0, u "Ljava/lang/String;"), (10, u "handCost")] 36

def k3c0 : Code := { maxStack := 4, maxLocals := 3, code := prog_70_method_1_code, exceptionTable := #[], attributes := #[] }
def k3m0 : Method := { name := "<init>", desc := "(II)V", sig := { parameters := [.int, .int], returnType := none }, accessFlags := 1, code := some k3c0 }
def k3c1 : Code := { maxStack := 2, maxLocals := 1, code := prog_70_method_8_code, exceptionTable := #[], attributes := #[] }
def k3m1 : Method := { name := "handCost", desc := "()I", sig := { parameters := [], returnType := some .int }, accessFlags := 1, code := some k3c1 }
/-- com/example/sixfold/sixfold/runs/Card -/
def k3 : Class := { plain "com/example/sixfold/sixfold/runs/Card" (some 2) with
  accessFlags := 49
  interfaces := #[]
  cf := some (fileOf pool3 1 #[] #[{ accessFlags := 1, nameIndex := 7, descriptorIndex := 73, attributes := #[] }, { accessFlags := 1, nameIndex := 177, descriptorIndex := 40, attributes := #[] }] 49 4 #[] #[{ accessFlags := 18, nameIndex := 20, descriptorIndex := 21, attributes := #[] }, { accessFlags := 18, nameIndex := 24, descriptorIndex := 21, attributes := #[] }, { accessFlags := 25, nameIndex := 150, descriptorIndex := 21, attributes := #[] }, { accessFlags := 25, nameIndex := 134, descriptorIndex := 21, attributes := #[] }, { accessFlags := 25, nameIndex := 144, descriptorIndex := 21, attributes := #[] }, { accessFlags := 25, nameIndex := 155, descriptorIndex := 21, attributes := #[] }, { accessFlags := 25, nameIndex := 157, descriptorIndex := 21, attributes := #[] }, { accessFlags := 25, nameIndex := 159, descriptorIndex := 21, attributes := #[] }, { accessFlags := 25, nameIndex := 161, descriptorIndex := 21, attributes := #[] }, { accessFlags := 25, nameIndex := 163, descriptorIndex := 21, attributes := #[] }, { accessFlags := 26, nameIndex := 165, descriptorIndex := 166, attributes := #[] }, { accessFlags := 26, nameIndex := 27, descriptorIndex := 28, attributes := #[] }])
  fields := #[{ name := "rank", type := .int, accessFlags := 18, slot := 0, constantValue := 0 }, { name := "suit", type := .int, accessFlags := 18, slot := 1, constantValue := 0 }, { name := "JOKER", type := .int, accessFlags := 25, slot := 0, constantValue := 0 }, { name := "J", type := .int, accessFlags := 25, slot := 1, constantValue := 0 }, { name := "K", type := .int, accessFlags := 25, slot := 2, constantValue := 0 }, { name := "ACE", type := .int, accessFlags := 25, slot := 3, constantValue := 0 }, { name := "RANKS", type := .int, accessFlags := 25, slot := 4, constantValue := 0 }, { name := "SUITS", type := .int, accessFlags := 25, slot := 5, constantValue := 0 }, { name := "DECK", type := .int, accessFlags := 25, slot := 6, constantValue := 0 }, { name := "NONE", type := .int, accessFlags := 25, slot := 7, constantValue := 0 }, { name := "SUIT_LETTERS", type := (.object "java/lang/String"), accessFlags := 26, slot := 8, constantValue := 0 }, { name := "RANK_WORDS", type := (.object "java/util/List"), accessFlags := 26, slot := 9, constantValue := 0 }]
  methods := #[k3m0, k3m1]
  instanceTypes := #[.int, .int]
  staticTypes := #[.int, .int, .int, .int, .int, .int, .int, .int, (.object "java/lang/String"), (.object "java/util/List")]
  resolved := Array.replicate 214 none
  statics := none }

def pool4 : Array CpInfo := pool [(1, u "java/lang/Cloneable"), (0, .class_ 1), (0, u "java/lang/Object"), (0, .class_ 3)] 3

/-- java/lang/Cloneable -/
def k4 : Class := { plain "java/lang/Cloneable" (some 0) with
  accessFlags := 1537
  interfaces := #[]
  cf := some (fileOf pool4 2 #[] #[] 1537 4 #[] #[])
  fields := #[]
  methods := #[]
  instanceTypes := #[]
  staticTypes := #[]
  resolved := Array.replicate 8 none
  statics := none }

def pool5 : Array CpInfo := pool [(1, u "java/io/Serializable"), (0, .class_ 1), (0, u "java/lang/Object"), (0, .class_ 3)] 3

/-- java/io/Serializable -/
def k5 : Class := { plain "java/io/Serializable" (some 0) with
  accessFlags := 1537
  interfaces := #[]
  cf := some (fileOf pool5 2 #[] #[] 1537 4 #[] #[])
  fields := #[]
  methods := #[]
  instanceTypes := #[]
  staticTypes := #[]
  resolved := Array.replicate 8 none
  statics := none }

/-- the primitive byte -/
def k6 : Class := { plain "byte" none with kind := .primitive 'B', accessFlags := 0x411 }
/-- [B -/
def k7 : Class := { plain "[B" (some 0) with kind := .array 6 .byte, interfaces := #[4, 5], accessFlags := 1041 }

/-- the primitive int -/
def k8 : Class := { plain "int" none with kind := .primitive 'I', accessFlags := 0x411 }
/-- [I -/
def k9 : Class := { plain "[I" (some 0) with kind := .array 8 .int, interfaces := #[4, 5], accessFlags := 1041 }

def heap : Heap := #[]
def classes : Array Class := #[k0, k1, k2, k3, k4, k5, k6, k7, k8, k9]
def interned : List (Array UInt16 × Addr) := []
def slotsUsed : Nat := 0
def theMethod : MethodId := ⟨1, 1⟩
def args0 : Array Value := #[.int 5, .int 7]
def aboutOver (below : List Frame) : State where
  vm := { classes := classes, interned := interned.toArray }
  heap := heap
  slotsUsed := slotsUsed
  threads := #[{ frames := .invoking theMethod args0 :: below }]
def below0 : List Frame := [.native { method := ⟨0, 0⟩, args := #[] }]
def about1 : State := aboutOver below0
def p0 : Program := .bare "" "" ""
def e0 : Env := launch0.env 0 0 0
theorem w_frames : about1.frames = Frame.invoking theMethod args0 :: below0 := rfl
set_option maxRecDepth 65536 in
theorem w_args : argsFit about1.vm theMethod args0 = true := by decide +kernel
set_option maxRecDepth 65536 in
theorem w_heap : heapFits about1 = true := by decide +kernel
set_option maxRecDepth 65536 in
theorem w_runnable : about1.curStatus? = some .runnable := by decide +kernel
set_option maxRecDepth 65536 in
theorem w_alone : about1.alone = true := by decide +kernel
set_option maxRecDepth 65536 in
theorem w_named : about1.methodNamed? x = some theMethod := by decide +kernel
set_option maxRecDepth 65536 in
theorem w_hears : about1.hears theMethod below0 = true := by decide +kernel
set_option maxRecDepth 65536 in
theorem w_ripe : about1.ripe theMethod args0 below0 = true := by decide +kernel
theorem w_running : about1.status = .running := rfl
set_option maxRecDepth 65536 in
theorem w_room : about1.hasRoom e0.platform room_1 = true :=
  launch0.hasRoom_least _ room_1 (by decide +kernel) (by decide +kernel) (by decide +kernel) (by decide +kernel) (by decide +kernel) (by decide +kernel)
theorem allAtoms_all (ts : List Jvm.Cond) (a : Array Jvm.Value) (st : Jvm.State) : (allAtoms ts).before a st = ts.all (fun c => c.before a st) := by
  induction ts with
  | nil => rfl
  | cons c t ih =>
    show (Jvm.Cond.and c (allAtoms t)).before a st = _
    rw [Jvm.Cond.before_and, ih, List.all_cons]
def words1 : List Jvm.Cond := Jvm.Cond.code x code maxLocals ret :: tables_1
/-- a 'code' word, met by the world's own term for the bytes: nothing is compared byte by byte -/
theorem code_word {y : MethodName} {bytes : ByteArray} {mx : Nat} {rt : Option FieldType} {a : Array Value} {s : State} {m : MethodId} {meth : Method} {c : Code} (h1 : s.methodNamed? y = some m) (h2 : s.vm.method? m = some meth) (h3 : meth.code = some c) (h4 : c.code = bytes)
    (h5 : (c.maxLocals == mx && c.exceptionTable.isEmpty && decide (c.maxStack ≤ mostOperands) && decide (meth.sig.returnType = rt) && !meth.locks && decide (parseMethodDescriptor y.desc = some meth.sig)) = true) : (Jvm.Cond.code y bytes mx rt).before a s = true := by
  simp only [Bool.and_eq_true, beq_iff_eq, Bool.not_eq_true', decide_eq_true_eq] at h5
  obtain ⟨⟨⟨⟨⟨g1, g2⟩, g3⟩, g4⟩, g5⟩, g6⟩ := h5
  simp [Cond.before, Cond.holds, Cond.value, h1, h2, h3, h4, g1, g2, g3, g4, g5, g6]
def isCode : Jvm.Cond → Bool
  | .code _ _ _ _ => true
  | _ => false
theorem all_split {L : List Jvm.Cond} {P : Jvm.Cond → Bool} (h1 : L.all (fun c => isCode c || P c) = true) (h2 : ∀ c ∈ L.filter isCode, P c = true) : L.all P = true := by
  refine List.all_eq_true.mpr fun c hc => ?_
  have h := List.all_eq_true.mp h1 c hc
  rcases Bool.eq_false_or_eq_true (isCode c) with hi | hi
  · exact h2 c (List.mem_filter.mpr ⟨hc, hi⟩)
  · simpa [hi] using h
set_option maxRecDepth 65536 in
theorem w_c0 : (Jvm.Cond.code x code maxLocals ret).before args0 about1 = true := code_word (m := ⟨1, 1⟩) (meth := k1m1) (c := k1c1) (by decide +kernel) rfl rfl rfl (by decide +kernel)
set_option maxRecDepth 65536 in
theorem w_c1 : (Jvm.Cond.code ({ cls := "com/example/sixfold/sixfold/runs/Card", name := "<init>", desc := "(II)V" } : Jvm.MethodName) prog_70_method_1_code (3 : Nat) (Option.none : Option Jvm.ClassFile.FieldType)).before args0 about1 = true := code_word (m := ⟨3, 0⟩) (meth := k3m0) (c := k3c0) (by decide +kernel) rfl rfl rfl (by decide +kernel)
set_option maxRecDepth 65536 in
theorem w_c2 : (Jvm.Cond.code ({ cls := "java/lang/Record", name := "<init>", desc := "()V" } : Jvm.MethodName) jdk_30_method_1_code (1 : Nat) (Option.none : Option Jvm.ClassFile.FieldType)).before args0 about1 = true := code_word (m := ⟨2, 0⟩) (meth := k2m0) (c := k2c0) (by decide +kernel) rfl rfl rfl (by decide +kernel)
set_option maxRecDepth 65536 in
theorem w_c3 : (Jvm.Cond.code ({ cls := "java/lang/Object", name := "<init>", desc := "()V" } : Jvm.MethodName) object_method_1_code (1 : Nat) (Option.none : Option Jvm.ClassFile.FieldType)).before args0 about1 = true := code_word (m := ⟨0, 0⟩) (meth := k0m0) (c := k0c0) (by decide +kernel) rfl rfl rfl (by decide +kernel)
set_option maxRecDepth 65536 in
theorem w_c4 : (Jvm.Cond.code ({ cls := "com/example/sixfold/sixfold/runs/Card", name := "handCost", desc := "()I" } : Jvm.MethodName) prog_70_method_8_code (1 : Nat) (Option.some Jvm.ClassFile.FieldType.int)).before args0 about1 = true := code_word (m := ⟨3, 1⟩) (meth := k3m1) (c := k3c1) (by decide +kernel) rfl rfl rfl (by decide +kernel)
def codes1 : List Jvm.Cond := [Jvm.Cond.code x code maxLocals ret, Jvm.Cond.code ({ cls := "com/example/sixfold/sixfold/runs/Card", name := "<init>", desc := "(II)V" } : Jvm.MethodName) prog_70_method_1_code (3 : Nat) (Option.none : Option Jvm.ClassFile.FieldType), Jvm.Cond.code ({ cls := "java/lang/Record", name := "<init>", desc := "()V" } : Jvm.MethodName) jdk_30_method_1_code (1 : Nat) (Option.none : Option Jvm.ClassFile.FieldType), Jvm.Cond.code ({ cls := "java/lang/Object", name := "<init>", desc := "()V" } : Jvm.MethodName) object_method_1_code (1 : Nat) (Option.none : Option Jvm.ClassFile.FieldType), Jvm.Cond.code ({ cls := "com/example/sixfold/sixfold/runs/Card", name := "handCost", desc := "()I" } : Jvm.MethodName) prog_70_method_8_code (1 : Nat) (Option.some Jvm.ClassFile.FieldType.int)]
set_option maxRecDepth 65536 in
theorem codes_eq : words1.filter isCode = codes1 := rfl
theorem w_codes : ∀ c ∈ words1.filter isCode, c.before args0 about1 = true := by
  rw [codes_eq]
  intro c hc
  simp only [codes1, List.mem_cons, List.not_mem_nil, or_false] at hc
  rcases hc with rfl | rfl | rfl | rfl | rfl
  · exact w_c0
  · exact w_c1
  · exact w_c2
  · exact w_c3
  · exact w_c4
set_option maxRecDepth 65536 in
theorem w_t1 : (words1.take 24).all (fun c => isCode c || c.before args0 about1) = true := by decide +kernel
set_option maxRecDepth 65536 in
theorem w_t2 : (words1.drop 24).all (fun c => isCode c || c.before args0 about1) = true := by decide +kernel
theorem w_tables : (allAtoms (Jvm.Cond.code x code maxLocals ret :: tables_1)).before args0 about1 = true := by
  rw [allAtoms_all]
  show words1.all (fun c => c.before args0 about1) = true
  refine all_split ?_ w_codes
  rw [← List.take_append_drop 24 words1, List.all_append, w_t1, w_t2]
  rfl
set_option maxRecDepth 65536 in
theorem w_case : (Jvm.Cond.and given_1 narrow_1).before args0 about1 = true := by decide +kernel
theorem w_applies : (headSpec (Jvm.Cond.code x code maxLocals ret :: tables_1) room_1).applies x e0.platform about1 = true :=
  (Spec.applies_iff w_frames).mpr ⟨w_running, w_runnable, w_alone, w_named, w_hears, w_ripe, w_room, w_tables⟩
theorem atStart : AtStart classFile x code maxLocals ret World_1 tables_1 room_1 Calls_1 rest_1 Pre_1 launch0 p0 e0 about1 theMethod args0 below0 :=
  ⟨lists_1, trivial, launch0.admits_env _ _ _, launch0.least_env, fairChoices_fair.cas, fairChoices_fair.clock, w_frames, w_args, w_heap, w_applies, trivial, trivial, w_case⟩
end start1
theorem witness_1 : WitnessClaimed_1 := ⟨start1.p0, start1.e0, start1.about1, start1.theMethod, start1.args0, start1.below0, start1.atStart⟩
end Jvm.Pilot.@@N@@
